import JvmDerived
import JvmDerived.Pilot.@@N@@Statement
import JvmDerived.Pilot.@@N@@Code
set_option linter.unusedVariables false
set_option linter.unusedSimpArgs false
namespace Jvm.Pilot.@@N@@
open Jvm Jvm.ClassFile Sem Op Lib Jvm.Free Jvm.Stand Jvm.LawKit Jvm.RoadKit Bundle Jvm.Pilot.@@N@@.Jvm.D
section OwnKit
variable {p : Program} {l : Launch} {e : Env} {R : Room} {s : State} {m : MethodId} {args : Array Value} {below : List Frame} {meth : Method} {c : Code} {T : State} {locs : List Loc} {cells slots : Nat} {Z : State} {a0 : Array Value} {h h' : Heap}
/-- what a body leaves: its value, the heap, the places written -/
abbrev own_P := Option Value → Heap → List Loc → Prop
/-- from here the run comes back, and leaves P -/
def own_Go (p : Program) (e : Env) (below : List Frame) (s : State) (P : own_P) (kc ks : Nat) (A : State) : Prop :=
  ∃ s₂ o, Steps p.tables e below A s₂ ∧ s₂.status = .running ∧ Ended s₂ below o ∧ ∃ v L, o = Outcome.returned v ∧ P v s₂.heap L ∧ FrameEnd s o s₂ L kc ks
theorem own_st {P : own_P} {kc ks : Nat} {A B : State} (hs : ∀ t, Steps p.tables e below B t → Steps p.tables e below A t) (k : own_Go p e below s P kc ks B) : own_Go p e below s P kc ks A := by
  obtain ⟨s₂, o, h1, h2⟩ := k
  exact ⟨s₂, o, hs _ h1, h2⟩
theorem own_stT {P : own_P} {kc ks : Nat} {A B : State} (hs : Steps p.tables e below A B) (k : own_Go p e below s P kc ks B) : own_Go p e below s P kc ks A := by
  obtain ⟨s₂, o, h1, h2⟩ := k
  exact ⟨s₂, o, hs.trans h1, h2⟩
theorem own_end (X : Stand p l e R s m args below meth c T locs cells slots) (hx : p.tables.exec = Jvm.exec) (hlk : meth.locks = false) {P : own_P} {kc ks : Nat} {pc : Nat} {Ls : Array Slot} {w : Value} {t : FieldType} {i : Instr} {rest : List Value} (hret : meth.sig.returnType = some t) (hn : narrow t w = w)
    (hi : (i = .ireturn ∧ (t = .int ∨ t = .boolean ∨ t = .byte ∨ t = .char ∨ t = .short) ∧ ∃ z, w = .int z) ∨ (i = .lreturn ∧ t = .long ∧ ∃ z, w = .long z) ∨ (i = .dreturn ∧ t = .double ∧ ∃ z, w = .double z) ∨ (i = .freturn ∧ t = .float ∧ ∃ z, w = .float z) ∨ (i = .areturn ∧ t.isReference = true ∧ w.isRef = true))
    (hd : decode c.code pc = .ok (i, 1)) (hP : P (some w) T.heap locs) (hc : cells ≤ kc) (hs : slots ≤ ks) : own_Go p e below s P kc ks (T.setTop (mkF m pc Ls (w :: rest))) := by
  obtain ⟨fs, hr, hrun, hended, hW, hsame⟩ := X.leave (v := some w) (fun h => by rw [hret] at h; cases h) hlk
  exact ⟨_, _, retOut X hx hret hn hi hd hr, hrun, hended, _, _, rfl, hP, ⟨_, rfl⟩, hW, hsame.mono hc hs⟩
theorem own_endI (X : Stand p l e R s m args below meth c T locs cells slots) (hx : p.tables.exec = Jvm.exec) (hlk : meth.locks = false) {P : own_P} {kc ks : Nat} {pc : Nat} {Ls : Array Slot} {z : Int32} {rest : List Value} (hret : meth.sig.returnType = some .int)
    (hd : decode c.code pc = .ok (.ireturn, 1)) (hP : P (some (.int z)) T.heap locs) (hc : cells ≤ kc) (hs : slots ≤ ks) : own_Go p e below s P kc ks (T.setTop (mkF m pc Ls (.int z :: rest))) :=
  own_end X hx hlk hret rfl (Or.inl ⟨rfl, Or.inl rfl, z, rfl⟩) hd hP hc hs
theorem own_endJ (X : Stand p l e R s m args below meth c T locs cells slots) (hx : p.tables.exec = Jvm.exec) (hlk : meth.locks = false) {P : own_P} {kc ks : Nat} {pc : Nat} {Ls : Array Slot} {z : Int64} {rest : List Value} (hret : meth.sig.returnType = some .long)
    (hd : decode c.code pc = .ok (.lreturn, 1)) (hP : P (some (.long z)) T.heap locs) (hc : cells ≤ kc) (hs : slots ≤ ks) : own_Go p e below s P kc ks (T.setTop (mkF m pc Ls (.long z :: rest))) :=
  own_end X hx hlk hret rfl (Or.inr (Or.inl ⟨rfl, rfl, z, rfl⟩)) hd hP hc hs
theorem own_endA (X : Stand p l e R s m args below meth c T locs cells slots) (hx : p.tables.exec = Jvm.exec) (hlk : meth.locks = false) {P : own_P} {kc ks : Nat} {pc : Nat} {Ls : Array Slot} {a : Addr} {t : FieldType} {rest : List Value} (hret : meth.sig.returnType = some t) (ht : t.isReference = true) (hn : narrow t (.ref a) = .ref a)
    (hd : decode c.code pc = .ok (.areturn, 1)) (hP : P (some (.ref a)) T.heap locs) (hc : cells ≤ kc) (hs : slots ≤ ks) : own_Go p e below s P kc ks (T.setTop (mkF m pc Ls (.ref a :: rest))) :=
  own_end X hx hlk hret hn (Or.inr (Or.inr (Or.inr (Or.inr ⟨rfl, ht, rfl⟩)))) hd hP hc hs
/-- a boolean, byte, char, short comes back narrowed -/
theorem own_endN (X : Stand p l e R s m args below meth c T locs cells slots) (hx : p.tables.exec = Jvm.exec) (hlk : meth.locks = false) {P : own_P} {kc ks : Nat} {pc : Nat} {Ls : Array Slot} {z : Int32} {t : FieldType} {rest : List Value} (hret : meth.sig.returnType = some t) (ht : t = .boolean ∨ t = .byte ∨ t = .char ∨ t = .short)
    (hd : decode c.code pc = .ok (.ireturn, 1)) {w : Int32} (hz : nar t z = w) (hP : P (some (.int w)) T.heap locs) (hc : cells ≤ kc) (hs : slots ≤ ks) : own_Go p e below s P kc ks (T.setTop (mkF m pc Ls (.int z :: rest))) := by
  subst hz
  obtain ⟨fs, hr, hrun, hended, hW, hsame⟩ := X.leave (v := some (.int (nar t z))) (fun h => by rw [hret] at h; cases h) hlk
  exact ⟨_, _, retN X hx hret ht hd hr, hrun, hended, _, _, rfl, hP, ⟨_, rfl⟩, hW, hsame.mono hc hs⟩
theorem own_endV (X : Stand p l e R s m args below meth c T locs cells slots) (hx : p.tables.exec = Jvm.exec) (hlk : meth.locks = false) {P : own_P} {kc ks : Nat} {pc : Nat} {Ls : Array Slot} (hret : meth.sig.returnType = none)
    (hd : decode c.code pc = .ok (.return_, 1)) (hP : P none T.heap locs) (hc : cells ≤ kc) (hs : slots ≤ ks) : own_Go p e below s P kc ks (T.setTop (mkF m pc Ls [])) := by
  obtain ⟨fs, hr, hrun, hended, hW, hsame⟩ := X.leave (v := none) (fun _ => rfl) hlk
  exact ⟨_, _, X.returnOut hx hret hd hr, hrun, hended, _, _, rfl, hP, ⟨_, rfl⟩, hW, hsame.mono hc hs⟩
/-- a body's contract -/
def own_Met (l : Launch) (Z : State) (y : MethodName) (bytes : ByteArray) (maxL : Nat) (ret : Option FieldType) (rm : Room) (as : Array Value) (h : Heap) (Q : own_P) : Prop :=
  ∀ ws : List Jvm.Cond, MetFree l y (head1 (Jvm.Cond.code y bytes maxL ret :: ws) rm) (fun a U => a = as ∧ Z.Warmed39 U.vm ∧ U.heap = h) (fun _ _ _ _ _ => True) (fun _ U o U' => ∃ v L, o = .returned v ∧ Q v U'.heap L ∧ FrameEnd U o U' L rm.cells rm.slots)
theorem own_in {y : MethodName} {bytes : ByteArray} {maxL : Nat} {ret : Option FieldType} {rm : Room} {as : Array Value} {Q : own_P} (pn : plainFor y = true)
    (body : ∀ (p : Program) (e : Env) (s : State) (m : MethodId) (below : List Frame) (meth : Method) (c : Code) (s₁ : State), p.tables.exec = Jvm.exec → c.code = bytes → c.maxLocals = maxL → s.vm.findClass y.cls = some m.cls → meth.name = y.name → meth.locks = false → meth.sig.returnType = ret → Z.Warmed39 s.vm →
      Stand p l e rm s m as below meth c s₁ [] 0 0 → s₁.heap = h → own_Go p e below s Q rm.cells rm.slots (s₁.setTop (entryFrame m as maxL))) : own_Met l Z y bytes maxL ret rm as h Q := by
  intro ws
  refine MetFree.of_bodySF pn hisR ?_
  intro p e s m args below meth c s₁ Bd hml hP hK
  obtain ⟨rfl, hZ, hh⟩ := hP
  exact body p e s m below meth c s₁ Bd.exec Bd.bytes hml (findClass_of_methodNamed Bd.named) (name_of_methodNamed Bd.named Bd.method).1 (BodyLoose.notSynchronized Bd) Bd.returns hZ (Stand.of_body Bd) (by rw [← hh, Bd.state]; rfl)
theorem own_ef {tbp : Program} {P : own_P} {kc ks : Nat} {g g' : JFrame} (q : g = g') (k : own_Go tbp e below s P kc ks (T.setTop g')) : own_Go tbp e below s P kc ks (T.setTop g) := q ▸ k
/-- a static call by its contract -/
theorem own_cS (X : Stand p l e R s m args below meth c T locs cells slots) (hx : p.tables.exec = Jvm.exec) {ml : Nat} (hml : c.maxLocals = ml) (hZ : Z.Warmed39 s.vm) {own : String} {index : Nat} {y : MethodName} {bytes : ByteArray} {maxL : Nat} {ret : Option FieldType} {rm : Room} {as : Array Value} {Q : own_P}
    (hown : s.vm.findClass own = some m.cls) (w1 : (Jvm.Cond.methodLink own index y).before a0 Z = true) (w2 : (Jvm.Cond.static y).before a0 Z = true) (w3 : (Jvm.Cond.initialized y.cls).before a0 Z = true) (w4 : (Jvm.Cond.code y bytes maxL ret).before a0 Z = true)
    (hy : y.cls ≠ "java/lang/invoke/MethodHandle" ∧ y.cls ≠ "java/lang/invoke/VarHandle") (hM : own_Met l Z y bytes maxL ret rm as h Q) (eT : T.heap = h) (hf : rm.frames + 1 ≤ R.frames) {W : Nat} (hl : W + (maxL + 11) + rm.locals ≤ R.locals)
    {g : JFrame} (hg : g.method = m) (hsize : g.locals.size = ml) {ps : List FieldType} {r : Option FieldType} (hpd : parseMethodDescriptor y.desc = some ⟨ps, r⟩) {argsL rest : List Value} (hlen : argsL.length = ps.length) (has : argsL.toArray = as) (hst : g.stack = argsL.reverse ++ rest)
    (hW : 2 * g.monitorRoom + (rest.map fun v => v.category).sum ≤ W) (hd : decode c.code g.pc = .ok (.invokestatic index, 3)) (hc : cells + rm.cells ≤ R.cells) (hs : slots + rm.slots ≤ R.slots) {P : own_P} {kc ks : Nat}
    (k : ∀ T' L v, Stand p l e R s m args below meth c T' (locs ++ L) (cells + rm.cells) (slots + rm.slots) → Q v T'.heap L → own_Go p e below s P kc ks (T'.setTop { g with pc := g.pc + 3, stack := v.toList ++ rest })) : own_Go p e below s P kc ks (T.setTop g) := by
  obtain ⟨v, vm, ⟨T', L', k', n'⟩, -, X', ⟨L, hQ, hl', hk', hn'⟩, st⟩ := Jvm.LawKit.callS X hx (y := y) hown (mvT hZ w1) (mvT hZ w2) (mvT hZ w3) (mvT hZ w4) hy (backOf (W := W) (hM []) hZ w4 w3 hf hl) hg (hsize.trans hml.symm) (argsL := argsL) (rest := rest) (lenOf hpd hlen) hst hW hd (fun _ _ => ⟨has, eT, hc, hs⟩)
  dsimp only [Pt.U, Pt.locs, Pt.cells, Pt.slots] at X' hl' hk' hn' st hQ
  subst hl' hk' hn'
  exact own_st st (k T' L v X' hQ)
/-- an instance method by its contract -/
theorem own_cV (X : Stand p l e R s m args below meth c T locs cells slots) (hx : p.tables.exec = Jvm.exec) {ml : Nat} (hml : c.maxLocals = ml) (hZ : Z.Warmed39 s.vm) {own C : String} {index : Nat} {y : MethodName} {bytes : ByteArray} {maxL : Nat} {ret : Option FieldType} {rm : Room} {as : Array Value} {Q : own_P}
    (hown : s.vm.findClass own = some m.cls) (w1 : (Jvm.Cond.methodLink own index y).before a0 Z = true) (w2 : (Jvm.Cond.declares y).before a0 Z = true) (w5 : (Jvm.Cond.selects C y y).before a0 Z = true) (w6 : (Jvm.Cond.instanceMethod y).before a0 Z = true) (w3 : (Jvm.Cond.initialized y.cls).before a0 Z = true) (w4 : (Jvm.Cond.code y bytes maxL ret).before a0 Z = true)
    (hy : y.cls ≠ "java/lang/invoke/MethodHandle" ∧ y.cls ≠ "java/lang/invoke/VarHandle") (hM : own_Met l Z y bytes maxL ret rm as h Q) (eT : T.heap = h) {b : Addr} (EX : Exa Z h b C) (hf : rm.frames + 1 ≤ R.frames) {W : Nat} (hl : W + (maxL + 11) + rm.locals ≤ R.locals)
    {g : JFrame} (hg : g.method = m) (hsize : g.locals.size = ml) {ps : List FieldType} {r : Option FieldType} (hpd : parseMethodDescriptor y.desc = some ⟨ps, r⟩) {argsL rest : List Value} (hlen : argsL.length = ps.length) (has : (.ref b :: argsL).toArray = as) (hst : g.stack = argsL.reverse ++ .ref b :: rest)
    (hW : 2 * g.monitorRoom + (rest.map fun v => v.category).sum ≤ W) (hd : decode c.code g.pc = .ok (.invokevirtual index, 3)) (hc : cells + rm.cells ≤ R.cells) (hs : slots + rm.slots ≤ R.slots) {P : own_P} {kc ks : Nat}
    (k : ∀ T' L v, Stand p l e R s m args below meth c T' (locs ++ L) (cells + rm.cells) (slots + rm.slots) → Q v T'.heap L → own_Go p e below s P kc ks (T'.setTop { g with pc := g.pc + 3, stack := v.toList ++ rest })) : own_Go p e below s P kc ks (T.setTop g) := by
  obtain ⟨cq, kq, qa, qb, qc⟩ := isOf hZ eT EX
  obtain ⟨v, vm, ⟨T', L', k', n'⟩, -, X', ⟨L, hQ, hl', hk', hn'⟩, st⟩ := X.virtualBack hx (y := y) (z := y) hown (mvT hZ w1) (mvT hZ w2) (notFace_of_selects (args := #[]) (mvT hZ w5)) (mvT hZ w5) (mvT hZ w6) hy (backOf (W := W) (hM []) hZ w4 w3 hf hl) qa qc hg (hsize.trans hml.symm) (Steps.refl _) (argsL := argsL) (rest := rest) (lenOf hpd hlen) hst hW hd (fun _ _ => ⟨has, eT, hc, hs⟩)
  dsimp only [Pt.U, Pt.locs, Pt.cells, Pt.slots] at X' hl' hk' hn' st hQ
  subst hl' hk' hn'
  exact own_stT st (k T' L v X' hQ)
/-- a private method by its contract -/
theorem own_cP (X : Stand p l e R s m args below meth c T locs cells slots) (hx : p.tables.exec = Jvm.exec) {ml : Nat} (hml : c.maxLocals = ml) (hZ : Z.Warmed39 s.vm) {own C : String} {index nn : Nat} {y : MethodName} {bytes : ByteArray} {maxL : Nat} {ret : Option FieldType} {rm : Room} {as : Array Value} {Q : own_P}
    (hown : s.vm.findClass own = some m.cls) (w1 : (Jvm.Cond.methodLink own index y).before a0 Z = true) (w2 : (Jvm.Cond.instanceMethod y).before a0 Z = true) (w5 : (Jvm.Cond.privateMethod y).before a0 Z = true) (wi : (Jvm.Cond.instantiable y.cls nn).before a0 Z = true) (w3 : (Jvm.Cond.initialized y.cls).before a0 Z = true) (w4 : (Jvm.Cond.code y bytes maxL ret).before a0 Z = true)
    (hy : y.cls ≠ "java/lang/invoke/MethodHandle" ∧ y.cls ≠ "java/lang/invoke/VarHandle") (hM : own_Met l Z y bytes maxL ret rm as h Q) (eT : T.heap = h) {b : Addr} (EX : Exa Z h b C) (hf : rm.frames + 1 ≤ R.frames) {W : Nat} (hl : W + (maxL + 11) + rm.locals ≤ R.locals)
    {g : JFrame} (hg : g.method = m) (hsize : g.locals.size = ml) {ps : List FieldType} {r : Option FieldType} (hpd : parseMethodDescriptor y.desc = some ⟨ps, r⟩) {argsL rest : List Value} (hlen : argsL.length = ps.length) (has : (.ref b :: argsL).toArray = as) (hst : g.stack = argsL.reverse ++ .ref b :: rest)
    (hW : 2 * g.monitorRoom + (rest.map fun v => v.category).sum ≤ W) (hd : decode c.code g.pc = .ok (.invokevirtual index, 3)) (hc : cells + rm.cells ≤ R.cells) (hs : slots + rm.slots ≤ R.slots) {P : own_P} {kc ks : Nat}
    (k : ∀ T' L v, Stand p l e R s m args below meth c T' (locs ++ L) (cells + rm.cells) (slots + rm.slots) → Q v T'.heap L → own_Go p e below s P kc ks (T'.setTop { g with pc := g.pc + 3, stack := v.toList ++ rest })) : own_Go p e below s P kc ks (T.setTop g) := by
  obtain ⟨cq, q1, q2⟩ := EX.cell
  have hpriv : s.PrivateAt y := Cond.privateMethod_at (mvP hZ w5 (args := #[]))
  have hsel : (Jvm.Cond.selects y.cls y y).before args s = true := by
    have wi' : (Jvm.Cond.instantiable y.cls nn).before args s = true := mvT hZ wi
    obtain ⟨c2, k2, f1, f2, f3, f4, -⟩ := Cond.instantiable_spec wi'
    exact selects_self_of_private f1 f2 (Bool.or_eq_false_iff.mp f4).1 hpriv (mvT hZ w2) hy
  obtain ⟨v, vm, ⟨T', L', k', n'⟩, -, X', ⟨L, hQ, hl', hk', hn'⟩, st⟩ := X.privateBack hx (y := y) hown (mvT hZ w1) (mvT hZ w2) hsel hpriv (mvT hZ w4) hy (backOf (W := W) (hM []) hZ w4 w3 hf hl) hg (hsize.trans hml.symm) (Steps.refl _) (a := b) (by rw [eT]; exact q1) q2 (argsL := argsL) (rest := rest) (lenOf hpd hlen) hst hW hd (fun _ _ => ⟨has, eT, hc, hs⟩)
  dsimp only [Pt.U, Pt.locs, Pt.cells, Pt.slots] at X' hl' hk' hn' st hQ
  subst hl' hk' hn'
  exact own_stT st (k T' L v X' hQ)
/-- a constructor by its contract -/
theorem own_cN (X : Stand p l e R s m args below meth c T locs cells slots) (hx : p.tables.exec = Jvm.exec) {ml : Nat} (hml : c.maxLocals = ml) (hZ : Z.Warmed39 s.vm) {own : String} {index : Nat} {y : MethodName} {bytes : ByteArray} {maxL : Nat} {rm : Room} {as : Array Value} {Q : own_P} (hy1 : y.name = "<init>")
    (hown : s.vm.findClass own = some m.cls) (w1 : (Jvm.Cond.methodLink own index y).before a0 Z = true) (w2 : (Jvm.Cond.instanceMethod y).before a0 Z = true) (w3 : (Jvm.Cond.initialized y.cls).before a0 Z = true) (w4 : (Jvm.Cond.code y bytes maxL none).before a0 Z = true)
    (hy : y.cls ≠ "java/lang/invoke/MethodHandle" ∧ y.cls ≠ "java/lang/invoke/VarHandle") (hM : own_Met l Z y bytes maxL none rm as h Q) (eT : T.heap = h) (hf : rm.frames + 1 ≤ R.frames) {W : Nat} (hl : W + (maxL + 11) + rm.locals ≤ R.locals)
    {g : JFrame} (hg : g.method = m) (hsize : g.locals.size = ml) {ps : List FieldType} {r : Option FieldType} (hpd : parseMethodDescriptor y.desc = some ⟨ps, r⟩) {b : Addr} {argsL rest : List Value} (hlen : argsL.length = ps.length) (has : (.ref b :: argsL).toArray = as) (hst : g.stack = argsL.reverse ++ .ref b :: rest)
    (hW : 2 * g.monitorRoom + (rest.map fun v => v.category).sum ≤ W) (hd : decode c.code g.pc = .ok (.invokespecial index, 3)) (hc : cells + rm.cells ≤ R.cells) (hs : slots + rm.slots ≤ R.slots) {P : own_P} {kc ks : Nat}
    (k : ∀ T' L v, Stand p l e R s m args below meth c T' (locs ++ L) (cells + rm.cells) (slots + rm.slots) → Q v T'.heap L → own_Go p e below s P kc ks (T'.setTop { g with pc := g.pc + 3, stack := v.toList ++ rest })) : own_Go p e below s P kc ks (T.setTop g) := by
  obtain ⟨v, vm, ⟨T', L', k', n'⟩, -, X', ⟨L, hQ, hl', hk', hn'⟩, st⟩ := X.specialBack hx (y := y) hy1 hown (mvT hZ w1) (mvT hZ w2) (mvT hZ w4) hy (backOf (W := W) (hM []) hZ w4 w3 hf hl) hg (hsize.trans hml.symm) (Steps.refl _) (a := b) (argsL := argsL) (rest := rest) (lenOf hpd hlen) hst hW hd (fun _ _ => ⟨has, eT, hc, hs⟩)
  dsimp only [Pt.U, Pt.locs, Pt.cells, Pt.slots] at X' hl' hk' hn' st hQ
  subst hl' hk' hn'
  exact own_stT st (k T' L v X' hQ)
/-- an array of n places: place j holds f j -/
def own_Av (Z : State) (h : Heap) (a : Addr) (ty : FieldType) (n : Nat) (f : Nat → Value) : Prop :=
  n < 2147483648 ∧ ∃ cl : Cell, Arr Z h a cl ty ∧ cl.slots.size = n ∧ ∀ j, j < n → cl.slots[j]? = some (f j)
theorem own_Av.lt {a : Addr} {ty : FieldType} {n : Nat} {f : Nat → Value} (V : own_Av Z h a ty n f) : a < h.size := by
  obtain ⟨-, cl, A, -⟩ := V
  exact A.lt
theorem own_Av.ext {a : Addr} {ty : FieldType} {n : Nat} {f : Nat → Value} (V : own_Av Z h a ty n f) (E : Ext h h') : own_Av Z h' a ty n f := by
  obtain ⟨hn, cl, A, r⟩ := V
  exact ⟨hn, cl, A.ext E, r⟩
theorem own_Av.other {a b : Addr} {ty : FieldType} {n sl : Nat} {f : Nat → Value} {v : Value} (V : own_Av Z h b ty n f) (W : Wr h h' a sl v) (q : b ≠ a) : own_Av Z h' b ty n f := by
  obtain ⟨hn, cl, A, r⟩ := V
  exact ⟨hn, cl, A.other W q, r⟩
theorem own_Av.keep {a : Addr} {ty : FieldType} {n : Nat} {f : Nat → Value} {ws : List Addr} (V : own_Av Z h a ty n f) (K : Keep h h' ws) (q : a ∉ ws) : own_Av Z h' a ty n f := by
  obtain ⟨hn, cl, A, r⟩ := V
  exact ⟨hn, cl, ⟨K.2.1 a cl A.1 q, A.2⟩, r⟩
theorem own_Av.congr {a : Addr} {ty : FieldType} {n : Nat} {f g : Nat → Value} (V : own_Av Z h a ty n f) (q : ∀ j, j < n → f j = g j) : own_Av Z h a ty n g := by
  obtain ⟨hn, cl, A, r1, r2⟩ := V
  exact ⟨hn, cl, A, r1, fun j hj => by rw [r2 j hj, q j hj]⟩
theorem own_Av.same {a : Addr} {ty : FieldType} {n i : Nat} {f : Nat → Value} {v : Value} (V : own_Av Z h a ty n f) (W : Wr h h' a i v) : own_Av Z h' a ty n (fun j => if j = i then v else f j) := by
  obtain ⟨hn, cl, A, r1, r2⟩ := V
  refine ⟨hn, cl.setSlot i v, A.same W, by rw [sz_set, r1], fun j hj => ?_⟩
  have hj' : j < cl.slots.size := by rw [r1]; exact hj
  by_cases q : j = i
  · subst q
    simp [Cell.setSlot, hj']
  · have q' : ¬ i = j := fun u => q u.symm
    simp only [Cell.setSlot, if_neg q]
    rw [Array.getElem?_setIfInBounds_ne q']
    exact r2 j hj
theorem own_Av.new {a : Addr} {ty : FieldType} {k : ClassId} {z : Int32} {n : Nat} (A : Arr Z h a (newA k ty z) ty) (hz : z.toInt = n) : own_Av Z h a ty n (fun _ => defaultValue ty) := by
  have h1 : z.toNatClampNeg = n := by
    show z.toInt.toNat = n
    rw [hz]; rfl
  have h2 : z.toInt < 2147483648 := Int32.toInt_lt z
  refine ⟨by omega, _, A, by rw [sz_new, h1], fun j hj => ?_⟩
  simp [newA, h1, hj]
theorem own_ix {j : Int32} {i n : Nat} (hj : j.toInt = i) (hi : i < n) : ¬ (j < 0 ∨ n ≤ j.toNatClampNeg) ∧ j.toNatClampNeg = i := by
  have h1 : j.toNatClampNeg = i := by
    show j.toInt.toNat = i
    rw [hj]; rfl
  refine ⟨?_, h1⟩
  rintro (q | q)
  · rw [Int32.lt_iff_toInt_lt, hj] at q
    have : (0 : Int32).toInt = 0 := by decide
    omega
  · omega
theorem own_ldI (X : Stand p l e R s m args below meth c T locs cells slots) (hx : p.tables.exec = Jvm.exec) (hZ : Z.Warmed39 s.vm) (eT : T.heap = h) {a : Addr} {n : Nat} {f : Nat → Value} (V : own_Av Z h a .int n f) {j : Int32} {i : Nat} (hj : j.toInt = i) (hi : i < n) {v : Value} (hv : f i = v)
    {g : JFrame} (hg : g.method = m) {rest : List Value} (hs : g.stack = .int j :: .ref a :: rest) (hd : decode c.code g.pc = .ok (.iaload, 1)) :
    ∀ t, Steps p.tables e below (T.setTop { g with pc := g.pc + 1, stack := v :: rest }) t → Steps p.tables e below (T.setTop g) t := by
  obtain ⟨-, cl, A, r1, r2⟩ := V
  obtain ⟨q1, q2⟩ := own_ix hj (n := cl.slots.size) (by rw [r1]; exact hi)
  exact X.iaload hx (by rw [eT]; exact A.1) (State.isArrayOf_alike hZ.alike A.2.1) A.2.2 q1 (by rw [q2, r2 i hi, hv]) hg hs hd
theorem own_ldB (X : Stand p l e R s m args below meth c T locs cells slots) (hx : p.tables.exec = Jvm.exec) (hZ : Z.Warmed39 s.vm) (eT : T.heap = h) {a : Addr} {n : Nat} {f : Nat → Value} (V : own_Av Z h a .byte n f) {j : Int32} {i : Nat} (hj : j.toInt = i) (hi : i < n) {v : Value} (hv : f i = v)
    {g : JFrame} (hg : g.method = m) {rest : List Value} (hs : g.stack = .int j :: .ref a :: rest) (hd : decode c.code g.pc = .ok (.baload, 1)) :
    ∀ t, Steps p.tables e below (T.setTop { g with pc := g.pc + 1, stack := v :: rest }) t → Steps p.tables e below (T.setTop g) t := by
  obtain ⟨-, cl, A, r1, r2⟩ := V
  obtain ⟨q1, q2⟩ := own_ix hj (n := cl.slots.size) (by rw [r1]; exact hi)
  exact X.baloadBytes hx (by rw [eT]; exact A.1) (State.isArrayOf_alike hZ.alike A.2.1) A.2.2 q1 (by rw [q2, r2 i hi, hv]) hg hs hd
theorem own_ldJ (X : Stand p l e R s m args below meth c T locs cells slots) (hx : p.tables.exec = Jvm.exec) (hZ : Z.Warmed39 s.vm) (eT : T.heap = h) {a : Addr} {n : Nat} {f : Nat → Value} (V : own_Av Z h a .long n f) {j : Int32} {i : Nat} (hj : j.toInt = i) (hi : i < n) {v : Value} (hv : f i = v)
    {g : JFrame} (hg : g.method = m) {rest : List Value} (hs : g.stack = .int j :: .ref a :: rest) (hd : decode c.code g.pc = .ok (.laload, 1)) :
    ∀ t, Steps p.tables e below (T.setTop { g with pc := g.pc + 1, stack := v :: rest }) t → Steps p.tables e below (T.setTop g) t := by
  obtain ⟨-, cl, A, r1, r2⟩ := V
  obtain ⟨q1, q2⟩ := own_ix hj (n := cl.slots.size) (by rw [r1]; exact hi)
  exact X.laload hx (by rw [eT]; exact A.1) (State.isArrayOf_alike hZ.alike A.2.1) A.2.2 q1 (by rw [q2, r2 i hi, hv]) hg hs hd
theorem own_len (X : Stand p l e R s m args below meth c T locs cells slots) (hx : p.tables.exec = Jvm.exec) (hZ : Z.Warmed39 s.vm) (eT : T.heap = h) {a : Addr} {ty : FieldType} {n : Nat} {f : Nat → Value} (V : own_Av Z h a ty n f) {z : Int32} (hz : z.toInt = n)
    {g : JFrame} (hg : g.method = m) {rest : List Value} (hs : g.stack = .ref a :: rest) (hd : decode c.code g.pc = .ok (.arraylength, 1)) :
    ∀ t, Steps p.tables e below (T.setTop { g with pc := g.pc + 1, stack := .int z :: rest }) t → Steps p.tables e below (T.setTop g) t := by
  obtain ⟨hn, cl, A, r1, r2⟩ := V
  have q : cl.slots.size.toInt32 = z := by
    rw [r1]
    apply Int32.toInt_inj.mp
    rw [hz]
    show (Int32.ofNat n).toInt = n
    rw [Int32.toInt_ofNat_of_lt (by omega)]
  intro t ht
  refine X.arraylength hx (by rw [eT]; exact A.1) (State.isArrayOf_alike hZ.alike A.2.1) hg hs hd t ?_
  rw [q]
  exact ht
theorem own_stI (X : Stand p l e R s m args below meth c T locs cells slots) (hx : p.tables.exec = Jvm.exec) (hZ : Z.Warmed39 s.vm) (eT : T.heap = h) {a : Addr} {n : Nat} {f : Nat → Int32} (V : own_Av Z h a .int n (fun t => .int (f t))) {j x : Int32} {i : Nat} (hj : j.toInt = i) (hi : i < n)
    {g : JFrame} (hg : g.method = m) {rest : List Value} (hs : g.stack = .int x :: .int j :: .ref a :: rest) (hd : decode c.code g.pc = .ok (.iastore, 1)) :
    ∃ T' h', Stand p l e R s m args below meth c T' (locs ++ [⟨a, i⟩]) cells slots ∧ T'.heap = h' ∧ Wr h h' a i (.int x) ∧ own_Av Z h' a .int n (fun t => .int (if t = i then x else f t)) ∧
      ∀ t, Steps p.tables e below (T'.setTop { g with pc := g.pc + 1, stack := rest }) t → Steps p.tables e below (T.setTop g) t := by
  have V' := V
  obtain ⟨-, cl, A, r1, r2⟩ := V
  obtain ⟨q1, q2⟩ := own_ix hj (n := cl.slots.size) (by rw [r1]; exact hi)
  obtain ⟨T', h', X', e', W', st⟩ := stI X hx hZ eT A q1 hg hs hd
  rw [q2] at X' W'
  exact ⟨T', h', X', e', W', (V'.same W').congr (fun j _ => by by_cases q : j = i <;> simp [q]), st⟩
theorem own_stB (X : Stand p l e R s m args below meth c T locs cells slots) (hx : p.tables.exec = Jvm.exec) (hZ : Z.Warmed39 s.vm) (eT : T.heap = h) {a : Addr} {n : Nat} {f : Nat → Int32} (V : own_Av Z h a .byte n (fun t => .int (f t))) {j x : Int32} {i : Nat} (hj : j.toInt = i) (hi : i < n)
    {g : JFrame} (hg : g.method = m) {rest : List Value} (hs : g.stack = .int x :: .int j :: .ref a :: rest) (hd : decode c.code g.pc = .ok (.bastore, 1)) :
    ∃ T' h', Stand p l e R s m args below meth c T' (locs ++ [⟨a, i⟩]) cells slots ∧ T'.heap = h' ∧ Wr h h' a i (.int (nar .byte x)) ∧ own_Av Z h' a .byte n (fun t => .int (if t = i then (nar .byte x) else f t)) ∧
      ∀ t, Steps p.tables e below (T'.setTop { g with pc := g.pc + 1, stack := rest }) t → Steps p.tables e below (T.setTop g) t := by
  have V' := V
  obtain ⟨-, cl, A, r1, r2⟩ := V
  obtain ⟨q1, q2⟩ := own_ix hj (n := cl.slots.size) (by rw [r1]; exact hi)
  obtain ⟨T', h', X', e', W', st⟩ := stB X hx hZ eT A q1 hg hs hd
  rw [q2] at X' W'
  exact ⟨T', h', X', e', W', (V'.same W').congr (fun j _ => by by_cases q : j = i <;> simp [q]), st⟩
theorem own_stJ (X : Stand p l e R s m args below meth c T locs cells slots) (hx : p.tables.exec = Jvm.exec) (hZ : Z.Warmed39 s.vm) (eT : T.heap = h) {a : Addr} {n : Nat} {f : Nat → Int64} (V : own_Av Z h a .long n (fun t => .long (f t))) {j : Int32} {x : Int64} {i : Nat} (hj : j.toInt = i) (hi : i < n)
    {g : JFrame} (hg : g.method = m) {rest : List Value} (hs : g.stack = .long x :: .int j :: .ref a :: rest) (hd : decode c.code g.pc = .ok (.lastore, 1)) :
    ∃ T' h', Stand p l e R s m args below meth c T' (locs ++ [⟨a, i⟩]) cells slots ∧ T'.heap = h' ∧ Wr h h' a i (.long x) ∧ own_Av Z h' a .long n (fun t => .long (if t = i then x else f t)) ∧
      ∀ t, Steps p.tables e below (T'.setTop { g with pc := g.pc + 1, stack := rest }) t → Steps p.tables e below (T.setTop g) t := by
  have V' := V
  obtain ⟨-, cl, A, r1, r2⟩ := V
  obtain ⟨q1, q2⟩ := own_ix hj (n := cl.slots.size) (by rw [r1]; exact hi)
  obtain ⟨T', h', X', e', W', st⟩ := stJ X hx hZ eT A q1 hg hs hd
  rw [q2] at X' W'
  exact ⟨T', h', X', e', W', (V'.same W').congr (fun j _ => by by_cases q : j = i <;> simp [q]), st⟩
/-- newarray: b is the fresh array's address -/
theorem own_newA (X : Stand p l e R s m args below meth c T locs cells slots) (hx : p.tables.exec = Jvm.exec) (hZ : Z.Warmed39 s.vm) {aty : ArrayType} (w : (Jvm.Cond.arrayClass (newarray.typeOf aty)).before a0 Z = true) (eT : T.heap = h) {g : JFrame} (hg : g.method = m) (hd : decode c.code g.pc = .ok (.newarray aty, 2)) {z : Int32} {rest : List Value} (hs : g.stack = .int z :: rest)
    {n cap : Nat} (hz : z.toInt = n) (hcap : n ≤ cap) (hb : cap * 8 ≤ 536870912) (hc : cells + 1 ≤ R.cells) (hl : slots + cap ≤ R.slots) :
    ∃ T' h' b, b = h.size ∧ Stand p l e R s m args below meth c T' locs (cells + 1) (slots + cap) ∧ T'.heap = h' ∧ Ext h h' ∧ own_Av Z h' b (newarray.typeOf aty) n (fun _ => defaultValue (newarray.typeOf aty)) ∧
      ∀ t, Steps p.tables e below (T'.setTop { g with pc := g.pc + 2, stack := .ref b :: rest }) t → Steps p.tables e below (T.setTop g) t := by
  have h1 : z.toNatClampNeg = n := by
    show z.toInt.toNat = n
    rw [hz]; rfl
  have h2 : ¬ z < 0 := by
    rw [Int32.lt_iff_toInt_lt, hz]
    have : (0 : Int32).toInt = 0 := by decide
    omega
  obtain ⟨T', h', cA, X', e', E', A', st⟩ := newP X hx hZ w eT hg hd hs h2 (cap := cap) (by omega) hb hc hl
  exact ⟨T', h', h.size, rfl, X', e', E', own_Av.new A' hz, st⟩
theorem own_nil {k : Nat} {L : List Loc} (N : Fr k L) {L' : List Loc} (q : L' = []) : Fr k (L ++ L') := by
  subst q
  rw [List.append_nil]
  exact N
/-- the walk's end, carried to the sheet -/
theorem own_cast {P : own_P} {kc ks : Nat} {A B : State} (q : A = B) (k : own_Go p e below s P kc ks B) : own_Go p e below s P kc ks A := q ▸ k
theorem own_bm {x : Int} (h1 : -2147483648 ≤ x) (h2 : x < 2147483648) : x.bmod (2 ^ 32) = x := by
  rw [Int.bmod_def]
  split <;> omega
theorem own_addN {a b : Int32} {i k : Nat} (ha : a.toInt = i) (hb : b.toInt = k) (hlt : i + k < 2147483648) : (a + b).toInt = ((i + k : Nat) : Int) := by
  rw [Int32.toInt_add, ha, hb, own_bm (by omega) (by omega)]
  omega
theorem own_add {a b : Int32} (h1 : -2147483648 ≤ a.toInt + b.toInt) (h2 : a.toInt + b.toInt < 2147483648) : (a + b).toInt = a.toInt + b.toInt := by
  rw [Int32.toInt_add, own_bm h1 h2]
theorem own_sub {a b : Int32} (h1 : -2147483648 ≤ a.toInt - b.toInt) (h2 : a.toInt - b.toInt < 2147483648) : (a - b).toInt = a.toInt - b.toInt := by
  rw [Int32.toInt_sub, own_bm h1 h2]
theorem own_mask (z K : Int32) {k : Nat} (hK : K.toInt = k) : ∃ i : Nat, (z &&& K).toInt = i ∧ i ≤ k := by
  have hk : K.toBitVec.toInt = k := hK
  have h1 : K.toBitVec.toNat = k := by
    rw [BitVec.toInt_eq_toNat_cond] at hk
    have := K.toBitVec.isLt
    split at hk <;> omega
  have h2 : 2 * K.toBitVec.toNat < 2 ^ 32 := by
    rw [BitVec.toInt_eq_toNat_cond] at hk
    have := K.toBitVec.isLt
    split at hk <;> omega
  have h3 : (z &&& K).toBitVec.toNat ≤ k := by
    show (z.toBitVec &&& K.toBitVec).toNat ≤ k
    rw [BitVec.toNat_and, ← h1]
    exact Nat.and_le_right
  refine ⟨(z &&& K).toBitVec.toNat, ?_, h3⟩
  show (z &&& K).toBitVec.toInt = _
  rw [BitVec.toInt_eq_toNat_cond, if_pos (by omega)]
theorem own_lt32 {a b : Int32} : a < b ↔ a.toInt < b.toInt := Int32.lt_iff_toInt_lt
theorem own_rem {a b : Int32} (ha : 0 ≤ a.toInt) (hb : 0 < b.toInt) : (a % b).toInt = a.toInt % b.toInt := by
  rw [Int32.toInt_mod]
  exact Int.tmod_eq_emod_of_nonneg ha
end OwnKit

theorem own_as (u : Int32) : u + 1 - 1 = u := by
  apply Int32.toBitVec_inj.mp
  show u.toBitVec + 1#32 - 1#32 = u.toBitVec
  exact BitVec.add_sub_cancel _ _
theorem own_ai {u v : Int32} (h : u + 1 = v + 1) : u = v := by
  rw [← own_as u, h, own_as]
/-- how many of the first n places are free -/
def own_zero (kf : Nat → Int32) : Nat → Nat
  | 0 => 0
  | n + 1 => own_zero kf n + (if kf n = 0 then 1 else 0)
theorem own_zero_pos {kf : Nat → Int32} {n : Nat} (h : 0 < own_zero kf n) : ∃ z, z < n ∧ kf z = 0 := by
  induction n with
  | zero => exact absurd h (by show ¬ 0 < 0; omega)
  | succ n ih =>
    by_cases q : kf n = 0
    · exact ⟨n, by omega, q⟩
    · have h' : 0 < own_zero kf n := by
        have h2 : 0 < own_zero kf n + (if kf n = 0 then 1 else 0) := h
        rw [if_neg q] at h2
        omega
      obtain ⟨z, hz, hk⟩ := ih h'
      exact ⟨z, by omega, hk⟩
theorem own_zero_out {kf : Nat → Int32} {r : Nat} {k : Int32} {n : Nat} (h : n ≤ r) : own_zero (fun t => if t = r then k else kf t) n = own_zero kf n := by
  induction n with
  | zero => rfl
  | succ n ih =>
    show own_zero _ n + (if (if n = r then k else kf n) = 0 then 1 else 0) = own_zero kf n + (if kf n = 0 then 1 else 0)
    rw [ih (by omega), if_neg (show ¬ n = r by omega)]
theorem own_zero_set {kf : Nat → Int32} {r : Nat} {k : Int32} {n : Nat} (h : r < n) (h0 : kf r = 0) (hk : k ≠ 0) : own_zero (fun t => if t = r then k else kf t) n + 1 = own_zero kf n := by
  induction n with
  | zero => omega
  | succ n ih =>
    show own_zero _ n + (if (if n = r then k else kf n) = 0 then 1 else 0) + 1 = own_zero kf n + (if kf n = 0 then 1 else 0)
    by_cases q : n = r
    · subst q
      rw [own_zero_out (Nat.le_refl _), if_pos rfl, if_neg hk, if_pos h0]
    · rw [if_neg q]
      have := ih (by omega)
      omega
/-- where 'place' stops: from hs on, past places that are taken by others -/
def own_Pl (kf : Nat → Int32) (N hs : Nat) (key : Int32) (r : Nat) : Prop := ∃ d, r = (hs + d) % N ∧ (∀ e, e < d → kf ((hs + e) % N) ≠ 0 ∧ kf ((hs + e) % N) ≠ key) ∧ (kf r = 0 ∨ kf r = key)
/-- the table holds just the pairs of S -/
def own_T (N : Nat) (hs : Int32 → Nat) (kf nf : Nat → Int32) (S : Int32 → Int32 → Prop) : Prop :=
  (∀ r, r < N → kf r ≠ 0 → S (kf r - 1) (nf r)) ∧
  (∀ u n, S u n → u + 1 ≠ 0 ∧ ∃ d, kf ((hs u + d) % N) = u + 1 ∧ ∀ e, e < d → kf ((hs u + e) % N) ≠ 0) ∧
  (∀ u n n', S u n → S u n' → n = n') ∧
  (∀ r r', r < N → r' < N → kf r ≠ 0 → kf r = kf r' → r = r')
theorem own_T_hit {N : Nat} {hs : Int32 → Nat} {kf nf : Nat → Int32} {S : Int32 → Int32 → Prop} {u n : Int32} {r : Nat} (hN : 0 < N) (H : own_T N hs kf nf S) (hS : S u n) (P : own_Pl kf N (hs u) (u + 1) r) : kf r = u + 1 ∧ kf r ≠ 0 ∧ nf r = n := by
  obtain ⟨A, B, F, U⟩ := H
  obtain ⟨hu, d', hk', hp'⟩ := B u n hS
  obtain ⟨d, hr, hp, hc⟩ := P
  have hrN : r < N := by rw [hr]; exact Nat.mod_lt _ hN
  have key : kf r = u + 1 := by
    rcases hc with h0 | h1
    · exfalso
      rcases Nat.lt_trichotomy d d' with q | q | q
      · exact hp' d q (by rw [← hr]; exact h0)
      · subst q
        rw [← hr, h0] at hk'
        exact hu hk'.symm
      · exact (hp d' q).2 hk'
    · exact h1
  have nz : kf r ≠ 0 := by rw [key]; exact hu
  refine ⟨key, nz, ?_⟩
  have q := A r hrN nz
  rw [key, own_as] at q
  exact F u _ _ q hS
theorem own_T_miss {N : Nat} {hs : Int32 → Nat} {kf nf : Nat → Int32} {S : Int32 → Int32 → Prop} {u : Int32} {r : Nat} (hN : 0 < N) (H : own_T N hs kf nf S) (hS : ∀ n, ¬ S u n) (P : own_Pl kf N (hs u) (u + 1) r) : kf r = 0 := by
  obtain ⟨A, B, F, U⟩ := H
  obtain ⟨d, hr, hp, hc⟩ := P
  have hrN : r < N := by rw [hr]; exact Nat.mod_lt _ hN
  rcases hc with h0 | h1
  · exact h0
  · by_cases q : kf r = 0
    · exact q
    · have t := A r hrN q
      rw [h1, own_as] at t
      exact absurd t (hS _)
theorem own_T_ins {N : Nat} {hs : Int32 → Nat} {kf nf : Nat → Int32} {S : Int32 → Int32 → Prop} {u n : Int32} {r : Nat} (hN : 0 < N) (H : own_T N hs kf nf S) (hS : ∀ n, ¬ S u n) (hu : u + 1 ≠ 0) (P : own_Pl kf N (hs u) (u + 1) r) :
    own_T N hs (fun t => if t = r then u + 1 else kf t) (fun t => if t = r then n else nf t) (fun u' n' => S u' n' ∨ (u' = u ∧ n' = n)) := by
  have h0 := own_T_miss hN H hS P
  obtain ⟨A, B, F, U⟩ := H
  obtain ⟨d, hr, hp, -⟩ := P
  have hrN : r < N := by rw [hr]; exact Nat.mod_lt _ hN
  have hnk : ∀ t, t < N → kf t ≠ u + 1 := fun t ht q => by
    have a := A t ht (by rw [q]; exact hu)
    rw [q, own_as] at a
    exact hS _ a
  refine ⟨fun t ht hk => ?_, fun u' n' h => ?_, fun u' n1 n2 h1 h2 => ?_, fun t t' ht ht' hk hkk => ?_⟩
  · by_cases q : t = r
    · subst q
      exact Or.inr ⟨by show (if t = t then u + 1 else kf t) - 1 = u; rw [if_pos rfl]; exact own_as u, if_pos rfl⟩
    · simp only [if_neg q] at hk ⊢
      exact Or.inl (A t ht hk)
  · rcases h with h | ⟨rfl, rfl⟩
    · obtain ⟨g1, d', g2, g3⟩ := B u' n' h
      refine ⟨g1, d', ?_, fun e he => ?_⟩
      · have q : ¬ (hs u' + d') % N = r := fun q => by rw [q, h0] at g2; exact g1 g2.symm
        simp only [if_neg q]
        exact g2
      · by_cases q : (hs u' + e) % N = r
        · simp only [if_pos q]
          exact hu
        · simp only [if_neg q]
          exact g3 e he
    · refine ⟨hu, d, ?_, fun e he => ?_⟩
      · simp only [← hr, if_true]
      · by_cases q : (hs u' + e) % N = r
        · simp only [if_pos q]
          exact hu
        · simp only [if_neg q]
          exact (hp e he).1
  · rcases h1 with h1 | ⟨rfl, rfl⟩
    · rcases h2 with h2 | ⟨rfl, rfl⟩
      · exact F _ _ _ h1 h2
      · exact absurd h1 (hS _)
    · rcases h2 with h2 | ⟨-, rfl⟩
      · exact absurd h2 (hS _)
      · rfl
  · by_cases q : t = r
    · by_cases q' : t' = r
      · rw [q, q']
      · simp only [if_pos q, if_neg q'] at hkk
        exact absurd hkk.symm (hnk t' ht')
    · by_cases q' : t' = r
      · simp only [if_neg q, if_pos q'] at hkk
        exact absurd hkk (hnk t ht)
      · simp only [if_neg q, if_neg q'] at hkk hk
        exact U t t' ht ht' hk hkk
theorem own_T_congr {N : Nat} {hs : Int32 → Nat} {kf nf : Nat → Int32} {S S' : Int32 → Int32 → Prop} (H : own_T N hs kf nf S) (q : ∀ u n, S u n ↔ S' u n) : own_T N hs kf nf S' := by
  obtain ⟨A, B, F, U⟩ := H
  exact ⟨fun r hr hk => (q _ _).mp (A r hr hk), fun u n h => B u n ((q _ _).mpr h), fun u n n' h h' => F u n n' ((q _ _).mpr h) ((q _ _).mpr h'), U⟩
/-- the pairs in the first i places -/
def own_Si (kf nf : Nat → Int32) (i : Nat) (u n : Int32) : Prop := ∃ r, r < i ∧ kf r ≠ 0 ∧ u = kf r - 1 ∧ n = nf r
theorem own_Si_all {N : Nat} {hs : Int32 → Nat} {kf nf : Nat → Int32} {S : Int32 → Int32 → Prop} (hN : 0 < N) (H : own_T N hs kf nf S) (u n : Int32) : own_Si kf nf N u n ↔ S u n := by
  obtain ⟨A, B, F, U⟩ := H
  constructor
  · rintro ⟨r, hr, hk, rfl, rfl⟩
    exact A r hr hk
  · intro h
    obtain ⟨hu, d, hk, -⟩ := B u n h
    have hr : (hs u + d) % N < N := Nat.mod_lt _ hN
    have nz : kf ((hs u + d) % N) ≠ 0 := by rw [hk]; exact hu
    have a := A _ hr nz
    rw [hk, own_as] at a
    exact ⟨_, hr, nz, by rw [hk, own_as], F u _ _ h a⟩
theorem own_T_nil {N : Nat} {hs : Int32 → Nat} {nf : Nat → Int32} : own_T N hs (fun _ => 0) nf (fun _ _ => False) := ⟨fun _ _ h => absurd rfl h, fun _ _ h => h.elim, fun _ _ _ h => h.elim, fun _ _ _ _ h => absurd rfl h⟩
theorem own_zero_all (n : Nat) : own_zero (fun _ => 0) n = n := by
  induction n with
  | zero => rfl
  | succ n ih => show own_zero _ n + (if (0 : Int32) = 0 then 1 else 0) = _; rw [ih, if_pos rfl]
theorem own_and {z K : Int32} {c m : Nat} (hz : z.toInt = (c : Int)) (hK : K.toBitVec.toNat = 2 ^ m - 1) (hm : m ≤ 30) : (z &&& K).toInt = ((c % 2 ^ m : Nat) : Int) := by
  have hz' : z.toBitVec.toInt = (c : Int) := hz
  have h1 : z.toBitVec.toNat = c := by
    rw [BitVec.toInt_eq_toNat_cond] at hz'
    have := z.toBitVec.isLt
    split at hz' <;> omega
  have h2 : (z &&& K).toBitVec.toNat = c % 2 ^ m := by
    show (z.toBitVec &&& K.toBitVec).toNat = _
    rw [BitVec.toNat_and, h1, hK, Nat.and_two_pow_sub_one_eq_mod]
  have h3 : c % 2 ^ m < 2 ^ 30 := Nat.lt_of_lt_of_le (Nat.mod_lt _ (Nat.two_pow_pos m)) (Nat.pow_le_pow_right (by omega) hm)
  show (z &&& K).toBitVec.toInt = _
  rw [BitVec.toInt_eq_toNat_cond, h2, if_pos (by omega)]
theorem own_ush {z : Int32} {d : Int32} {k : Nat} (hd : ∀ x : Int32, (XT.ushr x d).toBitVec = x.toBitVec >>> (32 - k)) (hk : k ≤ 30) : ∃ n : Nat, (XT.ushr z d).toInt = (n : Int) ∧ n < 2 ^ k := by
  have h1 : (XT.ushr z d).toBitVec.toNat < 2 ^ k := by
    rw [hd, BitVec.toNat_ushiftRight, Nat.shiftRight_eq_div_pow]
    have := z.toBitVec.isLt
    have e : 2 ^ 32 = 2 ^ k * 2 ^ (32 - k) := by rw [← Nat.pow_add]; congr 1; omega
    exact Nat.div_lt_of_lt_mul (by rw [Nat.mul_comm, ← e]; exact this)
  have h3 : 2 ^ k ≤ 2 ^ 30 := Nat.pow_le_pow_right (by omega) hk
  refine ⟨(XT.ushr z d).toBitVec.toNat, ?_, h1⟩
  show (XT.ushr z d).toBitVec.toInt = _
  rw [BitVec.toInt_eq_toNat_cond, if_pos (by omega)]

def own_hs (u : Int32) : Nat := (XT.ushr (u * (-1640531527 : Int32)) (28 : Int32)).toInt.toNat
theorem own_hsp (u : Int32) : (XT.ushr (u * (-1640531527 : Int32)) (28 : Int32)).toInt = (own_hs u : Int) ∧ own_hs u < 16 := by
  obtain ⟨n, hn, hl⟩ := own_ush (z := u * (-1640531527 : Int32)) (d := 28) (k := 4) (fun _ => rfl) (by omega)
  unfold own_hs
  rw [hn]
  exact ⟨rfl, hl⟩
def own_ht (u : Int32) : Nat := (XT.ushr (u * (-1640531527 : Int32)) (27 : Int32)).toInt.toNat
theorem own_htp (u : Int32) : (XT.ushr (u * (-1640531527 : Int32)) (27 : Int32)).toInt = (own_ht u : Int) ∧ own_ht u < 32 := by
  obtain ⟨n, hn, hl⟩ := own_ush (z := u * (-1640531527 : Int32)) (d := 27) (k := 5) (fun _ => rfl) (by omega)
  unfold own_ht
  rw [hn]
  exact ⟨rfl, hl⟩
theorem own_sa (u : Int32) : u - 1 + 1 = u := by
  apply Int32.toBitVec_inj.mp
  show u.toBitVec - 1#32 + 1#32 = u.toBitVec
  exact BitVec.sub_add_cancel _ _
theorem own_si {u v : Int32} (h : u - 1 = v - 1) : u = v := by
  rw [← own_sa u, h, own_sa]
theorem own_Si_no {N : Nat} {hs : Int32 → Nat} {kf nf : Nat → Int32} {S : Int32 → Int32 → Prop} (H : own_T N hs kf nf S) {i : Nat} (hi : i < N) (hk : kf i ≠ 0) : ∀ n, ¬ own_Si kf nf i (kf i - 1) n := by
  rintro n ⟨r, hr, h0, h1, -⟩
  have := H.2.2.2 r i (by omega) hi h0 (own_si h1.symm)
  omega
theorem own_Si_skip {kf nf : Nat → Int32} {i : Nat} (hk : kf i = 0) (u n : Int32) : own_Si kf nf i u n ↔ own_Si kf nf (i + 1) u n := by
  constructor
  · rintro ⟨r, hr, h⟩; exact ⟨r, by omega, h⟩
  · rintro ⟨r, hr, h0, h⟩
    by_cases q : r = i
    · subst q; exact absurd hk h0
    · exact ⟨r, by omega, h0, h⟩
theorem own_Si_more {kf nf : Nat → Int32} {i : Nat} (hk : kf i ≠ 0) (u n : Int32) : (own_Si kf nf i u n ∨ (u = kf i - 1 ∧ n = nf i)) ↔ own_Si kf nf (i + 1) u n := by
  constructor
  · rintro (⟨r, hr, h⟩ | ⟨rfl, rfl⟩)
    · exact ⟨r, by omega, h⟩
    · exact ⟨i, by omega, hk, rfl, rfl⟩
  · rintro ⟨r, hr, h0, h1, h2⟩
    by_cases q : r = i
    · subst q; exact Or.inr ⟨h1, h2⟩
    · exact Or.inl ⟨r, by omega, h0, h1, h2⟩
theorem own_Si_nil {N : Nat} {hs : Int32 → Nat} {kf nf nf' : Nat → Int32} : own_T N hs (fun _ => 0) nf' (own_Si kf nf 0) := own_T_congr own_T_nil fun u n => ⟨fun h => h.elim, fun ⟨r, hr, _⟩ => absurd hr (by omega)⟩
/-- the law's users: the first i of them -/
def own_Su (f : Nat → Int32) (i : Nat) (u n : Int32) : Prop := ∃ j, j < i ∧ u = f j ∧ n = Int32.ofNat j
theorem own_Su_more {f : Nat → Int32} {i : Nat} {n0 : Int32} (hn : n0 = Int32.ofNat i) (u n : Int32) : (own_Su f i u n ∨ (u = f i ∧ n = n0)) ↔ own_Su f (i + 1) u n := by
  subst hn
  constructor
  · rintro (⟨r, hr, h⟩ | ⟨rfl, rfl⟩)
    · exact ⟨r, by omega, h⟩
    · exact ⟨i, by omega, rfl, rfl⟩
  · rintro ⟨r, hr, h1, h2⟩
    by_cases q : r = i
    · subst q; exact Or.inr ⟨h1, h2⟩
    · exact Or.inl ⟨r, by omega, h1, h2⟩
theorem own_Su_no {f : Nat → Int32} {i : Nat} (hf : ∀ a b, a < 10 → b < 10 → f a = f b → a = b) (hi : i < 10) : ∀ n, ¬ own_Su f i (f i) n := by
  rintro n ⟨r, hr, h1, -⟩
  have := hf i r hi (by omega) h1
  omega
def own_us (a s : Int32) (t : Nat) : Int32 := (a + Int32.ofNat t * s) &&& 2147483647
theorem own_us_nat (a s : Int32) (t : Nat) : (own_us a s t).toBitVec.toNat = (a.toBitVec.toNat + t * s.toBitVec.toNat) % 2147483648 := by
  show ((a.toBitVec + (BitVec.ofNat 32 t) * s.toBitVec) &&& 2147483647#32).toNat = _
  rw [BitVec.toNat_and, BitVec.toNat_add, BitVec.toNat_mul, BitVec.toNat_ofNat]
  rw [show (2147483647#32).toNat = 2 ^ 31 - 1 from rfl, Nat.and_two_pow_sub_one_eq_mod]
  show (a.toBitVec.toNat + t % 2 ^ 32 * s.toBitVec.toNat % 2 ^ 32) % 2 ^ 32 % 2 ^ 31 = _ % 2 ^ 31
  rw [Nat.mod_mod_of_dvd _ (by decide : 2 ^ 31 ∣ 2 ^ 32), Nat.add_mod, Nat.mod_mod_of_dvd _ (by decide : 2 ^ 31 ∣ 2 ^ 32), Nat.mul_mod, Nat.mod_mod_of_dvd _ (by decide : 2 ^ 31 ∣ 2 ^ 32), ← Nat.mul_mod, ← Nat.add_mod]
theorem own_odd (b : Int32) : (b ||| 1).toBitVec.toNat % 2 = 1 := by
  have h : ((b ||| 1).toBitVec).getLsbD 0 = true := by
    show (b.toBitVec ||| 1#32).getLsbD 0 = true
    rw [BitVec.getLsbD_or]
    simp
  rw [BitVec.getLsbD, Nat.testBit_zero] at h
  exact of_decide_eq_true h
theorem own_us_inj (a b : Int32) : ∀ i j, i < 10 → j < 10 → own_us a (b ||| 1) i = own_us a (b ||| 1) j → i = j := by
  have key : ∀ i j, i < j → j < 10 → own_us a (b ||| 1) i = own_us a (b ||| 1) j → False := by
    intro i j hij hj h
    have h1 := congrArg (fun z : Int32 => z.toBitVec.toNat) h
    simp only [own_us_nat] at h1
    have ho := own_odd b
    generalize (b ||| 1).toBitVec.toNat = S at *
    generalize a.toBitVec.toNat = A at *
    obtain ⟨d, rfl⟩ : ∃ d, j = i + d := ⟨j - i, by omega⟩
    rw [Nat.add_mul] at h1
    generalize i * S = B at *
    rcases (by omega : d = 1 ∨ d = 2 ∨ d = 3 ∨ d = 4 ∨ d = 5 ∨ d = 6 ∨ d = 7 ∨ d = 8 ∨ d = 9) with rfl | rfl | rfl | rfl | rfl | rfl | rfl | rfl | rfl <;> omega
  intro i j hi hj h
  rcases Nat.lt_trichotomy i j with q | q | q
  · exact (key i j q hj h).elim
  · exact q
  · exact (key j i q hi h.symm).elim
theorem own_us_pos (a s : Int32) (t : Nat) : own_us a s t + 1 ≠ 0 := by
  intro h
  have h1 := own_us_nat a s t
  have h2 : own_us a s t = 0 - 1 := by rw [← h, own_as]
  rw [h2] at h1
  have h3 : ((0 : Int32) - 1).toBitVec.toNat = 4294967295 := by decide
  rw [h3] at h1
  omega
theorem own_d0_0 : decode prog_59_method_1_code 0 = .ok (.aload_n 0, 1) := by decide +kernel
theorem own_d0_1 : decode prog_59_method_1_code 1 = .ok (.invokespecial 1, 3) := by decide +kernel
theorem own_d0_4 : decode prog_59_method_1_code 4 = .ok (.aload_n 0, 1) := by decide +kernel
theorem own_d0_5 : decode prog_59_method_1_code 5 = .ok (.bipush 16, 2) := by decide +kernel
theorem own_d0_7 : decode prog_59_method_1_code 7 = .ok (.newarray .int, 2) := by decide +kernel
theorem own_d0_9 : decode prog_59_method_1_code 9 = .ok (.putfield 7, 3) := by decide +kernel
theorem own_d0_12 : decode prog_59_method_1_code 12 = .ok (.aload_n 0, 1) := by decide +kernel
theorem own_d0_13 : decode prog_59_method_1_code 13 = .ok (.bipush 16, 2) := by decide +kernel
theorem own_d0_15 : decode prog_59_method_1_code 15 = .ok (.newarray .int, 2) := by decide +kernel
theorem own_d0_17 : decode prog_59_method_1_code 17 = .ok (.putfield 13, 3) := by decide +kernel
theorem own_d0_20 : decode prog_59_method_1_code 20 = .ok (.aload_n 0, 1) := by decide +kernel
theorem own_d0_21 : decode prog_59_method_1_code 21 = .ok (.bipush 28, 2) := by decide +kernel
theorem own_d0_23 : decode prog_59_method_1_code 23 = .ok (.putfield 16, 3) := by decide +kernel
theorem own_d0_26 : decode prog_59_method_1_code 26 = .ok (.return_, 1) := by decide +kernel
theorem own_pn0 : plainFor (⟨"com/example/hop_gate/hopgate/UserIndex", "<init>", "()V"⟩ : MethodName) = true := by first | exact plainFor_of_name (show plainName "com/example/hop_gate/hopgate/UserIndex" = true by first | (simp [plainName, overriddenIn]; done) | decide +kernel) | decide +kernel
theorem own_ef0 (m : MethodId) (x0 : Addr) : entryFrame m #[(.ref x0)] 1 = mkF m 0 #[.val (.ref x0)] [] := by first | (simp [entryFrame, mkF, argsToLocals, Value.category]; done) | rfl
set_option maxRecDepth 65536 in
set_option maxHeartbeats 40000000 in
theorem own_rm3 (l : Launch) (Z : State) (a0 : Array Value) (hw : ∀ d ∈ tables_1, d.before a0 Z = true) (a1 : Addr) (h0 : Heap) (n0 : Nat) (Z0 : n0 ≤ h0.size) (Fk : Fld Z h0 a1 "com/example/hop_gate/hopgate/UserIndex" "keys" "[I" .null) (Fn : Fld Z h0 a1 "com/example/hop_gate/hopgate/UserIndex" "numbers" "[I" .null) (Fs : Fld Z h0 a1 "com/example/hop_gate/hopgate/UserIndex" "shift" "I" (.int 0)) (Fz : Fld Z h0 a1 "com/example/hop_gate/hopgate/UserIndex" "size" "I" (.int 0)) (EX : Exa Z h0 a1 "com/example/hop_gate/hopgate/UserIndex") (fr_a1 : n0 ≤ a1) :
    own_Met l Z (⟨"com/example/hop_gate/hopgate/UserIndex", "<init>", "()V"⟩ : MethodName) prog_59_method_1_code 1 none ({ frames := 1, cells := 2, slots := 32, locals := 12 } : Room) #[(.ref a1)] h0 (fun v h' L => ∃ ka na : Addr, v = none ∧ Fr n0 L ∧ Keep h0 h' [a1] ∧ Fld Z h' a1 "com/example/hop_gate/hopgate/UserIndex" "keys" "[I" (.ref ka) ∧ Fld Z h' a1 "com/example/hop_gate/hopgate/UserIndex" "numbers" "[I" (.ref na) ∧ Fld Z h' a1 "com/example/hop_gate/hopgate/UserIndex" "shift" "I" (.int 28) ∧ Fld Z h' a1 "com/example/hop_gate/hopgate/UserIndex" "size" "I" (.int 0) ∧ own_Av Z h' ka .int 16 (fun _ => .int 0) ∧ own_Av Z h' na .int 16 (fun _ => .int 0) ∧ h0.size ≤ ka ∧ ka ≠ na ∧ h0.size ≤ na) := by
  refine own_in own_pn0 ?_
  intro p e s m below meth c s₁ hx hby hml hown hnm hlk hret hZ X0 e0
  have N0 := Fr.nil n0
  refine own_ef (own_ef0 m a1) ?_
  show own_Go p e below s _ _ _ (s₁.setTop (mkF m 0 #[.val (.ref a1)] []))
  refine own_st (fun _ kont => XS.aloadN X0.here hx rfl (hb hby own_d0_0) rfl rfl kont) ?_
  show own_Go p e below s _ _ _ (s₁.setTop (mkF m 1 #[.val (.ref a1)] [(.ref a1)]))
  obtain ⟨T1, X1, e1, st1⟩ := initO X0 hx hZ hown (hw _ (List.mem_of_getElem? (i := 8) rfl)) (hw _ (List.mem_of_getElem? (i := 9) rfl)) (hw _ (List.mem_of_getElem? (i := 10) rfl)) e0 (g := (mkF m 1 #[.val (.ref a1)] [(.ref a1)])) rfl (by rw [hml]; rfl) rfl (hb hby own_d0_1) (by decide) (W := 0) (by show 2 * 0 + _ ≤ _; exact Nat.le_of_eq rfl) (by decide)
  refine own_st st1 ?_
  show own_Go p e below s _ _ _ (T1.setTop (mkF m 4 #[.val (.ref a1)] []))
  refine own_st (fun _ kont => XS.aloadN X1.here hx rfl (hb hby own_d0_4) rfl rfl kont) ?_
  show own_Go p e below s _ _ _ (T1.setTop (mkF m 5 #[.val (.ref a1)] [(.ref a1)]))
  refine own_st (fun _ kont => XS.bipush X1.here hx rfl (hb hby own_d0_5) kont) ?_
  show own_Go p e below s _ _ _ (T1.setTop (mkF m 7 #[.val (.ref a1)] [(.int (16 : Int32)), (.ref a1)]))
  obtain ⟨T2, h2, ka, g2, X2, e2, E2, Vka, st2⟩ := own_newA X1 hx hZ (hw _ (List.mem_of_getElem? (i := 1) rfl)) e1 (g := (mkF m 7 #[.val (.ref a1)] [(.int (16 : Int32)), (.ref a1)])) rfl (hb hby own_d0_7) rfl (n := 16) (cap := 16) (by decide) (by decide) (by decide) (by decide) (by decide)
  replace Vka : own_Av Z h2 ka .int 16 (fun _ => .int 0) := Vka
  have ne_a1_ka : a1 ≠ ka := Nat.ne_of_lt (Nat.lt_of_lt_of_eq Fk.lt g2.symm)
  have fr_ka : n0 ≤ ka := Nat.le_trans Z0 (Nat.le_of_eq g2.symm)
  have sk_ka : h0.size ≤ ka := Nat.le_trans (Keep.refl h0 [a1]).1 (Nat.le_of_eq g2.symm)
  have Fk_2 := Fk.ext E2
  have Fn_2 := Fn.ext E2
  have Fs_2 := Fs.ext E2
  have Fz_2 := Fz.ext E2
  have EX_2 := EX.ext E2
  have sz2 := Nat.le_trans Z0 E2.1
  have K2 := (Keep.refl h0 [a1]).ext E2
  refine own_st st2 ?_
  show own_Go p e below s _ _ _ (T2.setTop (mkF m 9 #[.val (.ref a1)] [(.ref ka), (.ref a1)]))
  obtain ⟨T3, h3, X3, e3, W3, st3⟩ := putF X2 hx hZ hown (host := "") (Or.inl (hw _ (List.mem_of_getElem? (i := 11) rfl))) Via.refl e2 Fk_2 EX_2 (Or.inl (hw _ (List.mem_of_getElem? (i := 12) rfl))) (hw _ (List.mem_of_getElem? (i := 3) rfl)) (ty := (.array .int)) (by decide) rfl rfl (g := (mkF m 9 #[.val (.ref a1)] [(.ref ka), (.ref a1)])) rfl rfl (hb hby own_d0_9)
  have Fk_3 := Fk_2.same W3
  have Fn_3 := Fn_2.other W3 (Or.inr (slot_ne (Or.inl (hw _ (List.mem_of_getElem? (i := 14) rfl))) (Or.inl (hw _ (List.mem_of_getElem? (i := 12) rfl))) (by decide) (t := (.array .int)) (t' := (.array .int)) (by decide) (by decide)))
  have Fs_3 := Fs_2.other W3 (Or.inr (slot_ne (Or.inl (hw _ (List.mem_of_getElem? (i := 16) rfl))) (Or.inl (hw _ (List.mem_of_getElem? (i := 12) rfl))) (by decide) (t := .int) (t' := (.array .int)) (by decide) (by decide)))
  have Fz_3 := Fz_2.other W3 (Or.inr (slot_ne (Or.inl (hw _ (List.mem_of_getElem? (i := 28) rfl))) (Or.inl (hw _ (List.mem_of_getElem? (i := 12) rfl))) (by decide) (t := .int) (t' := (.array .int)) (by decide) (by decide)))
  have EX_3 := EX_2.wr W3
  have Vka_3 := Vka.other W3 (Ne.symm ne_a1_ka)
  have sz3 := Nat.le_trans sz2 (Keep.of_wr W3).1
  have K3 := K2.wr W3 (Or.inl (List.mem_of_getElem? (i := 0) rfl))
  have N3 := Fr.snoc X3 N0 fr_a1
  refine own_st st3 ?_
  show own_Go p e below s _ _ _ (T3.setTop (mkF m 12 #[.val (.ref a1)] []))
  refine own_st (fun _ kont => XS.aloadN X3.here hx rfl (hb hby own_d0_12) rfl rfl kont) ?_
  show own_Go p e below s _ _ _ (T3.setTop (mkF m 13 #[.val (.ref a1)] [(.ref a1)]))
  refine own_st (fun _ kont => XS.bipush X3.here hx rfl (hb hby own_d0_13) kont) ?_
  show own_Go p e below s _ _ _ (T3.setTop (mkF m 15 #[.val (.ref a1)] [(.int (16 : Int32)), (.ref a1)]))
  obtain ⟨T4, h4, na, g4, X4, e4, E4, Vna, st4⟩ := own_newA X3 hx hZ (hw _ (List.mem_of_getElem? (i := 1) rfl)) e3 (g := (mkF m 15 #[.val (.ref a1)] [(.int (16 : Int32)), (.ref a1)])) rfl (hb hby own_d0_15) rfl (n := 16) (cap := 16) (by decide) (by decide) (by decide) (by decide) (by decide)
  replace Vna : own_Av Z h4 na .int 16 (fun _ => .int 0) := Vna
  have ne_a1_na : a1 ≠ na := Nat.ne_of_lt (Nat.lt_of_lt_of_eq Fn_3.lt g4.symm)
  have ne_ka_na : ka ≠ na := Nat.ne_of_lt (Nat.lt_of_lt_of_eq Vka_3.lt g4.symm)
  have fr_na : n0 ≤ na := Nat.le_trans sz3 (Nat.le_of_eq g4.symm)
  have sk_na : h0.size ≤ na := Nat.le_trans K3.1 (Nat.le_of_eq g4.symm)
  have Fn_4 := Fn_3.ext E4
  have Fs_4 := Fs_3.ext E4
  have Fz_4 := Fz_3.ext E4
  have EX_4 := EX_3.ext E4
  have Vka_4 := Vka_3.ext E4
  have Fk_4 := Fk_3.ext E4
  have sz4 := Nat.le_trans sz3 E4.1
  have K4 := K3.ext E4
  refine own_st st4 ?_
  show own_Go p e below s _ _ _ (T4.setTop (mkF m 17 #[.val (.ref a1)] [(.ref na), (.ref a1)]))
  obtain ⟨T5, h5, X5, e5, W5, st5⟩ := putF X4 hx hZ hown (host := "") (Or.inl (hw _ (List.mem_of_getElem? (i := 13) rfl))) Via.refl e4 Fn_4 EX_4 (Or.inl (hw _ (List.mem_of_getElem? (i := 14) rfl))) (hw _ (List.mem_of_getElem? (i := 3) rfl)) (ty := (.array .int)) (by decide) rfl rfl (g := (mkF m 17 #[.val (.ref a1)] [(.ref na), (.ref a1)])) rfl rfl (hb hby own_d0_17)
  have Fn_5 := Fn_4.same W5
  have Fs_5 := Fs_4.other W5 (Or.inr (slot_ne (Or.inl (hw _ (List.mem_of_getElem? (i := 16) rfl))) (Or.inl (hw _ (List.mem_of_getElem? (i := 14) rfl))) (by decide) (t := .int) (t' := (.array .int)) (by decide) (by decide)))
  have Fz_5 := Fz_4.other W5 (Or.inr (slot_ne (Or.inl (hw _ (List.mem_of_getElem? (i := 28) rfl))) (Or.inl (hw _ (List.mem_of_getElem? (i := 14) rfl))) (by decide) (t := .int) (t' := (.array .int)) (by decide) (by decide)))
  have EX_5 := EX_4.wr W5
  have Vka_5 := Vka_4.other W5 (Ne.symm ne_a1_ka)
  have Fk_5 := Fk_4.other W5 (Or.inr (slot_ne (Or.inl (hw _ (List.mem_of_getElem? (i := 12) rfl))) (Or.inl (hw _ (List.mem_of_getElem? (i := 14) rfl))) (by decide) (t := (.array .int)) (t' := (.array .int)) (by decide) (by decide)))
  have Vna_5 := Vna.other W5 (Ne.symm ne_a1_na)
  have sz5 := Nat.le_trans sz4 (Keep.of_wr W5).1
  have K5 := K4.wr W5 (Or.inl (List.mem_of_getElem? (i := 0) rfl))
  have N5 := Fr.snoc X5 N3 fr_a1
  refine own_st st5 ?_
  show own_Go p e below s _ _ _ (T5.setTop (mkF m 20 #[.val (.ref a1)] []))
  refine own_st (fun _ kont => XS.aloadN X5.here hx rfl (hb hby own_d0_20) rfl rfl kont) ?_
  show own_Go p e below s _ _ _ (T5.setTop (mkF m 21 #[.val (.ref a1)] [(.ref a1)]))
  refine own_st (fun _ kont => XS.bipush X5.here hx rfl (hb hby own_d0_21) kont) ?_
  show own_Go p e below s _ _ _ (T5.setTop (mkF m 23 #[.val (.ref a1)] [(.int (28 : Int32)), (.ref a1)]))
  obtain ⟨T6, h6, X6, e6, W6, st6⟩ := putF X5 hx hZ hown (host := "") (Or.inl (hw _ (List.mem_of_getElem? (i := 15) rfl))) Via.refl e5 Fs_5 EX_5 (Or.inl (hw _ (List.mem_of_getElem? (i := 16) rfl))) (hw _ (List.mem_of_getElem? (i := 3) rfl)) (ty := .int) (by decide) rfl rfl (g := (mkF m 23 #[.val (.ref a1)] [(.int (28 : Int32)), (.ref a1)])) rfl rfl (hb hby own_d0_23)
  have Fs_6 := Fs_5.same W6
  have Fz_6 := Fz_5.other W6 (Or.inr (slot_ne (Or.inl (hw _ (List.mem_of_getElem? (i := 28) rfl))) (Or.inl (hw _ (List.mem_of_getElem? (i := 16) rfl))) (by decide) (t := .int) (t' := .int) (by decide) (by decide)))
  have EX_6 := EX_5.wr W6
  have Vka_6 := Vka_5.other W6 (Ne.symm ne_a1_ka)
  have Fk_6 := Fk_5.other W6 (Or.inr (slot_ne (Or.inl (hw _ (List.mem_of_getElem? (i := 12) rfl))) (Or.inl (hw _ (List.mem_of_getElem? (i := 16) rfl))) (by decide) (t := (.array .int)) (t' := .int) (by decide) (by decide)))
  have Vna_6 := Vna_5.other W6 (Ne.symm ne_a1_na)
  have Fn_6 := Fn_5.other W6 (Or.inr (slot_ne (Or.inl (hw _ (List.mem_of_getElem? (i := 14) rfl))) (Or.inl (hw _ (List.mem_of_getElem? (i := 16) rfl))) (by decide) (t := (.array .int)) (t' := .int) (by decide) (by decide)))
  have sz6 := Nat.le_trans sz5 (Keep.of_wr W6).1
  have K6 := K5.wr W6 (Or.inl (List.mem_of_getElem? (i := 0) rfl))
  have N6 := Fr.snoc X6 N5 fr_a1
  refine own_st st6 ?_
  show own_Go p e below s _ _ _ (T6.setTop (mkF m 26 #[.val (.ref a1)] []))
  exact own_endV X6 hx hlk hret (hb hby own_d0_26) (by rw [e6]; exact ⟨ka, na, rfl, N6, K6, Fk_6, Fn_6, Fs_6, Fz_6, Vka_6, Vna_6, sk_ka, ne_ka_na, sk_na⟩) (by decide) (by decide)
theorem own_d1_0 : decode prog_59_method_5_code 0 = .ok (.iload_n 1, 1) := by decide +kernel
theorem own_d1_1 : decode prog_59_method_5_code 1 = .ok (.ldc 30, 2) := by decide +kernel
theorem own_d1_3 : decode prog_59_method_5_code 3 = .ok (.imul, 1) := by decide +kernel
theorem own_d1_4 : decode prog_59_method_5_code 4 = .ok (.aload_n 0, 1) := by decide +kernel
theorem own_d1_5 : decode prog_59_method_5_code 5 = .ok (.getfield 16, 3) := by decide +kernel
theorem own_d1_8 : decode prog_59_method_5_code 8 = .ok (.iushr, 1) := by decide +kernel
theorem own_d1_9 : decode prog_59_method_5_code 9 = .ok (.istore_n 2, 1) := by decide +kernel
theorem own_d1_10 : decode prog_59_method_5_code 10 = .ok (.aload_n 0, 1) := by decide +kernel
theorem own_d1_11 : decode prog_59_method_5_code 11 = .ok (.getfield 7, 3) := by decide +kernel
theorem own_d1_14 : decode prog_59_method_5_code 14 = .ok (.iload_n 2, 1) := by decide +kernel
theorem own_d1_15 : decode prog_59_method_5_code 15 = .ok (.iaload, 1) := by decide +kernel
theorem own_d1_16 : decode prog_59_method_5_code 16 = .ok (.ifCond .eq 30, 3) := by decide +kernel
theorem own_d1_19 : decode prog_59_method_5_code 19 = .ok (.aload_n 0, 1) := by decide +kernel
theorem own_d1_20 : decode prog_59_method_5_code 20 = .ok (.getfield 7, 3) := by decide +kernel
theorem own_d1_23 : decode prog_59_method_5_code 23 = .ok (.iload_n 2, 1) := by decide +kernel
theorem own_d1_24 : decode prog_59_method_5_code 24 = .ok (.iaload, 1) := by decide +kernel
theorem own_d1_25 : decode prog_59_method_5_code 25 = .ok (.iload_n 1, 1) := by decide +kernel
theorem own_d1_26 : decode prog_59_method_5_code 26 = .ok (.iconst 1, 1) := by decide +kernel
theorem own_d1_27 : decode prog_59_method_5_code 27 = .ok (.iadd, 1) := by decide +kernel
theorem own_d1_28 : decode prog_59_method_5_code 28 = .ok (.if_icmp .eq 18, 3) := by decide +kernel
theorem own_d1_31 : decode prog_59_method_5_code 31 = .ok (.iload_n 2, 1) := by decide +kernel
theorem own_d1_32 : decode prog_59_method_5_code 32 = .ok (.iconst 1, 1) := by decide +kernel
theorem own_d1_33 : decode prog_59_method_5_code 33 = .ok (.iadd, 1) := by decide +kernel
theorem own_d1_34 : decode prog_59_method_5_code 34 = .ok (.aload_n 0, 1) := by decide +kernel
theorem own_d1_35 : decode prog_59_method_5_code 35 = .ok (.getfield 7, 3) := by decide +kernel
theorem own_d1_38 : decode prog_59_method_5_code 38 = .ok (.arraylength, 1) := by decide +kernel
theorem own_d1_39 : decode prog_59_method_5_code 39 = .ok (.iconst 1, 1) := by decide +kernel
theorem own_d1_40 : decode prog_59_method_5_code 40 = .ok (.isub, 1) := by decide +kernel
theorem own_d1_41 : decode prog_59_method_5_code 41 = .ok (.iand, 1) := by decide +kernel
theorem own_d1_42 : decode prog_59_method_5_code 42 = .ok (.istore_n 2, 1) := by decide +kernel
theorem own_d1_43 : decode prog_59_method_5_code 43 = .ok (.goto (-33), 3) := by decide +kernel
theorem own_d1_46 : decode prog_59_method_5_code 46 = .ok (.iload_n 2, 1) := by decide +kernel
theorem own_d1_47 : decode prog_59_method_5_code 47 = .ok (.ireturn, 1) := by decide +kernel
theorem own_pn1 : plainFor (⟨"com/example/hop_gate/hopgate/UserIndex", "place", "(I)I"⟩ : MethodName) = true := by first | exact plainFor_of_name (show plainName "com/example/hop_gate/hopgate/UserIndex" = true by first | (simp [plainName, overriddenIn]; done) | decide +kernel) | decide +kernel
theorem own_ef1 (m : MethodId) (x0 : Addr) (x1 : Int32) : entryFrame m #[(.ref x0), (.int x1)] 3 = mkF m 0 #[.val (.ref x0), .val (.int x1), .unset] [] := by first | (simp [entryFrame, mkF, argsToLocals, Value.category]; done) | rfl
set_option maxRecDepth 65536 in
set_option maxHeartbeats 40000000 in
theorem own_rm4 (l : Launch) (Z : State) (a0 : Array Value) (hw : ∀ d ∈ tables_1, d.before a0 Z = true) (a1 : Addr) (pu : Int32) (ka : Addr) (kf : Nat → Int32) (z : Nat) (h0 : Heap) (n0 : Nat) (Z0 : n0 ≤ h0.size) (V : own_Av Z h0 ka .int 16 (fun t => .int (kf t))) (Fk : Fld Z h0 a1 "com/example/hop_gate/hopgate/UserIndex" "keys" "[I" (.ref ka)) (Fs : Fld Z h0 a1 "com/example/hop_gate/hopgate/UserIndex" "shift" "I" (.int 28)) (hz : z < 16) (hz0 : kf z = 0) :
    own_Met l Z (⟨"com/example/hop_gate/hopgate/UserIndex", "place", "(I)I"⟩ : MethodName) prog_59_method_5_code 3 (some .int) ({ frames := 0, cells := 0, slots := 0, locals := 0 } : Room) #[(.ref a1), (.int pu)] h0 (fun v h' L => (∃ (zr : Int32) (r : Nat), v = some (.int zr) ∧ zr.toInt = (r : Int) ∧ r < 16 ∧ own_Pl kf 16 (own_hs pu) (pu + 1) r) ∧ h' = h0 ∧ L = []) := by
  refine own_in own_pn1 ?_
  intro p e s m below meth c s₁ hx hby hml hown hnm hlk hret hZ X0 e0
  have N0 := Fr.nil n0
  refine own_ef (own_ef1 m a1 pu) ?_
  show own_Go p e below s _ _ _ (s₁.setTop (mkF m 0 #[.val (.ref a1), .val (.int pu), .unset] []))
  refine own_st (fun _ kont => XS.iloadN X0.here hx rfl (hb hby own_d1_0) rfl kont) ?_
  show own_Go p e below s _ _ _ (s₁.setTop (mkF m 1 #[.val (.ref a1), .val (.int pu), .unset] [(.int pu)]))
  refine own_st (fun _ kont => X0.ldcInt hx hown (mvT hZ (hw _ (List.mem_of_getElem? (i := 26) rfl))) (g := (mkF m 1 #[.val (.ref a1), .val (.int pu), .unset] [(.int pu)])) rfl (hb hby own_d1_1) _ kont) ?_
  show own_Go p e below s _ _ _ (s₁.setTop (mkF m 3 #[.val (.ref a1), .val (.int pu), .unset] [(.int (-1640531527 : Int32)), (.int pu)]))
  refine own_st (fun _ kont => XS.imul X0.here hx rfl (hb hby own_d1_3) rfl kont) ?_
  show own_Go p e below s _ _ _ (s₁.setTop (mkF m 4 #[.val (.ref a1), .val (.int pu), .unset] [(.int (pu * (-1640531527 : Int32)))]))
  refine own_st (fun _ kont => XS.aloadN X0.here hx rfl (hb hby own_d1_4) rfl rfl kont) ?_
  show own_Go p e below s _ _ _ (s₁.setTop (mkF m 5 #[.val (.ref a1), .val (.int pu), .unset] [(.ref a1), (.int (pu * (-1640531527 : Int32)))]))
  obtain ⟨T1, X1, e1, st1⟩ := getF X0 hx hZ hown (host := "") (Or.inl (hw _ (List.mem_of_getElem? (i := 15) rfl))) Via.refl e0 Fs (g := (mkF m 5 #[.val (.ref a1), .val (.int pu), .unset] [(.ref a1), (.int (pu * (-1640531527 : Int32)))])) rfl rfl (hb hby own_d1_5)
  refine own_st st1 ?_
  show own_Go p e below s _ _ _ (T1.setTop (mkF m 8 #[.val (.ref a1), .val (.int pu), .unset] [(.int (28 : Int32)), (.int (pu * (-1640531527 : Int32)))]))
  refine own_st (fun _ kont => XT.iushr X1.here hx rfl (hb hby own_d1_8) rfl kont) ?_
  show own_Go p e below s _ _ _ (T1.setTop (mkF m 9 #[.val (.ref a1), .val (.int pu), .unset] [(.int (XT.ushr (pu * (-1640531527 : Int32)) (28 : Int32)))]))
  refine own_st (fun _ kont => XS.istoreN X1.here hx rfl (hb hby own_d1_9) rfl (l' := #[.val (.ref a1), .val (.int pu), .val (.int (XT.ushr (pu * (-1640531527 : Int32)) (28 : Int32)))]) rfl kont) ?_
  show own_Go p e below s _ _ _ (T1.setTop (mkF m 10 #[.val (.ref a1), .val (.int pu), .val (.int (XT.ushr (pu * (-1640531527 : Int32)) (28 : Int32)))] []))
  obtain ⟨hh, hl⟩ := own_hsp pu
  obtain ⟨hs, ehs⟩ : ∃ n, n = own_hs pu := ⟨_, rfl⟩
  rw [← ehs] at hh hl ⊢
  have loop : ∀ (r q : Nat) (cur : Int32) (Tl : State), (hs + (q + r)) % 16 = z → cur.toInt = (((hs + q) % 16 : Nat) : Int) → (∀ t, t < q → kf ((hs + t) % 16) ≠ 0 ∧ kf ((hs + t) % 16) ≠ pu + 1) → Stand p l e ({ frames := 0, cells := 0, slots := 0, locals := 0 } : Room) s m #[(.ref a1), (.int pu)] below meth c Tl [] 0 0 → Tl.heap = h0 → own_Go p e below s (fun v h' L => (∃ (zr : Int32) (r : Nat), v = some (.int zr) ∧ zr.toInt = (r : Int) ∧ r < 16 ∧ own_Pl kf 16 (hs) (pu + 1) r) ∧ h' = h0 ∧ L = []) ({ frames := 0, cells := 0, slots := 0, locals := 0 } : Room).cells ({ frames := 0, cells := 0, slots := 0, locals := 0 } : Room).slots (Tl.setTop (mkF m 10 #[.val (.ref a1), .val (.int pu), .val (.int cur)] [])) := by
    intro r
    induction r with
    | zero =>
      intro q cur Tl hk hc hp Xl el
      show own_Go p e below s _ _ _ (Tl.setTop (mkF m 10 #[.val (.ref a1), .val (.int pu), .val (.int cur)] []))
      refine own_st (fun _ kont => XS.aloadN Xl.here hx rfl (hb hby own_d1_10) rfl rfl kont) ?_
      show own_Go p e below s _ _ _ (Tl.setTop (mkF m 11 #[.val (.ref a1), .val (.int pu), .val (.int cur)] [(.ref a1)]))
      obtain ⟨T2, X2, e2, st2⟩ := getF Xl hx hZ hown (host := "") (Or.inl (hw _ (List.mem_of_getElem? (i := 11) rfl))) Via.refl el Fk (g := (mkF m 11 #[.val (.ref a1), .val (.int pu), .val (.int cur)] [(.ref a1)])) rfl rfl (hb hby own_d1_11)
      refine own_st st2 ?_
      show own_Go p e below s _ _ _ (T2.setTop (mkF m 14 #[.val (.ref a1), .val (.int pu), .val (.int cur)] [(.ref ka)]))
      refine own_st (fun _ kont => XS.iloadN X2.here hx rfl (hb hby own_d1_14) rfl kont) ?_
      show own_Go p e below s _ _ _ (T2.setTop (mkF m 15 #[.val (.ref a1), .val (.int pu), .val (.int cur)] [(.int cur), (.ref ka)]))
      refine own_st (own_ldI X2 hx hZ e2 V (i := ((hs + q) % 16)) hc (Nat.mod_lt _ (by omega)) (v := (.int (kf ((hs + q) % 16)))) rfl (g := (mkF m 15 #[.val (.ref a1), .val (.int pu), .val (.int cur)] [(.int cur), (.ref ka)])) rfl rfl (hb hby own_d1_15)) ?_
      show own_Go p e below s _ _ _ (T2.setTop (mkF m 16 #[.val (.ref a1), .val (.int pu), .val (.int cur)] [(.int (kf ((hs + q) % 16)))]))
      have hq0 : kf ((hs + q) % 16) = 0 := by rw [show q = q + 0 by omega, hk]; exact hz0
      show own_Go p e below s _ _ _ (T2.setTop (mkF m 16 #[.val (.ref a1), .val (.int pu), .val (.int cur)] [(.int (kf ((hs + q) % 16)))]))
      refine own_st (fun _ kont => XS.ifYes X2.here hx rfl (pc0 := 16) (pc' := 46) rfl (hb hby own_d1_16) rfl ((if0 _ _).trans (teq hq0).1) (by decide) (by decide) kont) ?_
      show own_Go p e below s _ _ _ (T2.setTop (mkF m 46 #[.val (.ref a1), .val (.int pu), .val (.int cur)] []))
      refine own_st (fun _ kont => XS.iloadN X2.here hx rfl (hb hby own_d1_46) rfl kont) ?_
      show own_Go p e below s _ _ _ (T2.setTop (mkF m 47 #[.val (.ref a1), .val (.int pu), .val (.int cur)] [(.int cur)]))
      exact own_endI X2 hx hlk hret (hb hby own_d1_47) ⟨⟨_, _, rfl, hc, Nat.mod_lt _ (by omega), q, rfl, hp, Or.inl hq0⟩, e2, rfl⟩ (by decide) (by decide)
    | succ r ih =>
      intro q cur Tl hk hc hp Xl el
      show own_Go p e below s _ _ _ (Tl.setTop (mkF m 10 #[.val (.ref a1), .val (.int pu), .val (.int cur)] []))
      refine own_st (fun _ kont => XS.aloadN Xl.here hx rfl (hb hby own_d1_10) rfl rfl kont) ?_
      show own_Go p e below s _ _ _ (Tl.setTop (mkF m 11 #[.val (.ref a1), .val (.int pu), .val (.int cur)] [(.ref a1)]))
      obtain ⟨T3, X3, e3, st3⟩ := getF Xl hx hZ hown (host := "") (Or.inl (hw _ (List.mem_of_getElem? (i := 11) rfl))) Via.refl el Fk (g := (mkF m 11 #[.val (.ref a1), .val (.int pu), .val (.int cur)] [(.ref a1)])) rfl rfl (hb hby own_d1_11)
      refine own_st st3 ?_
      show own_Go p e below s _ _ _ (T3.setTop (mkF m 14 #[.val (.ref a1), .val (.int pu), .val (.int cur)] [(.ref ka)]))
      refine own_st (fun _ kont => XS.iloadN X3.here hx rfl (hb hby own_d1_14) rfl kont) ?_
      show own_Go p e below s _ _ _ (T3.setTop (mkF m 15 #[.val (.ref a1), .val (.int pu), .val (.int cur)] [(.int cur), (.ref ka)]))
      refine own_st (own_ldI X3 hx hZ e3 V (i := ((hs + q) % 16)) hc (Nat.mod_lt _ (by omega)) (v := (.int (kf ((hs + q) % 16)))) rfl (g := (mkF m 15 #[.val (.ref a1), .val (.int pu), .val (.int cur)] [(.int cur), (.ref ka)])) rfl rfl (hb hby own_d1_15)) ?_
      show own_Go p e below s _ _ _ (T3.setTop (mkF m 16 #[.val (.ref a1), .val (.int pu), .val (.int cur)] [(.int (kf ((hs + q) % 16)))]))
      rcases Classical.em ((kf ((hs + q) % 16)) = (0 : Int32)) with c1 | c1
      · show own_Go p e below s _ _ _ (T3.setTop (mkF m 16 #[.val (.ref a1), .val (.int pu), .val (.int cur)] [(.int (kf ((hs + q) % 16)))]))
        refine own_st (fun _ kont => XS.ifYes X3.here hx rfl (pc0 := 16) (pc' := 46) rfl (hb hby own_d1_16) rfl ((if0 _ _).trans (teq c1).1) (by decide) (by decide) kont) ?_
        show own_Go p e below s _ _ _ (T3.setTop (mkF m 46 #[.val (.ref a1), .val (.int pu), .val (.int cur)] []))
        refine own_st (fun _ kont => XS.iloadN X3.here hx rfl (hb hby own_d1_46) rfl kont) ?_
        show own_Go p e below s _ _ _ (T3.setTop (mkF m 47 #[.val (.ref a1), .val (.int pu), .val (.int cur)] [(.int cur)]))
        exact own_endI X3 hx hlk hret (hb hby own_d1_47) ⟨⟨_, _, rfl, hc, Nat.mod_lt _ (by omega), q, rfl, hp, Or.inl c1⟩, e3, rfl⟩ (by decide) (by decide)
      · show own_Go p e below s _ _ _ (T3.setTop (mkF m 16 #[.val (.ref a1), .val (.int pu), .val (.int cur)] [(.int (kf ((hs + q) % 16)))]))
        refine own_st (fun _ kont => XS.ifNo X3.here hx rfl (hb hby own_d1_16) rfl ((if0 _ _).trans (feq c1).1) kont) ?_
        show own_Go p e below s _ _ _ (T3.setTop (mkF m 19 #[.val (.ref a1), .val (.int pu), .val (.int cur)] []))
        refine own_st (fun _ kont => XS.aloadN X3.here hx rfl (hb hby own_d1_19) rfl rfl kont) ?_
        show own_Go p e below s _ _ _ (T3.setTop (mkF m 20 #[.val (.ref a1), .val (.int pu), .val (.int cur)] [(.ref a1)]))
        obtain ⟨T4, X4, e4, st4⟩ := getF X3 hx hZ hown (host := "") (Or.inl (hw _ (List.mem_of_getElem? (i := 11) rfl))) Via.refl e3 Fk (g := (mkF m 20 #[.val (.ref a1), .val (.int pu), .val (.int cur)] [(.ref a1)])) rfl rfl (hb hby own_d1_20)
        refine own_st st4 ?_
        show own_Go p e below s _ _ _ (T4.setTop (mkF m 23 #[.val (.ref a1), .val (.int pu), .val (.int cur)] [(.ref ka)]))
        refine own_st (fun _ kont => XS.iloadN X4.here hx rfl (hb hby own_d1_23) rfl kont) ?_
        show own_Go p e below s _ _ _ (T4.setTop (mkF m 24 #[.val (.ref a1), .val (.int pu), .val (.int cur)] [(.int cur), (.ref ka)]))
        refine own_st (own_ldI X4 hx hZ e4 V (i := ((hs + q) % 16)) hc (Nat.mod_lt _ (by omega)) (v := (.int (kf ((hs + q) % 16)))) rfl (g := (mkF m 24 #[.val (.ref a1), .val (.int pu), .val (.int cur)] [(.int cur), (.ref ka)])) rfl rfl (hb hby own_d1_24)) ?_
        show own_Go p e below s _ _ _ (T4.setTop (mkF m 25 #[.val (.ref a1), .val (.int pu), .val (.int cur)] [(.int (kf ((hs + q) % 16)))]))
        refine own_st (fun _ kont => XS.iloadN X4.here hx rfl (hb hby own_d1_25) rfl kont) ?_
        show own_Go p e below s _ _ _ (T4.setTop (mkF m 26 #[.val (.ref a1), .val (.int pu), .val (.int cur)] [(.int pu), (.int (kf ((hs + q) % 16)))]))
        refine own_st (fun _ kont => XS.iconst X4.here hx rfl (hb hby own_d1_26) kont) ?_
        show own_Go p e below s _ _ _ (T4.setTop (mkF m 27 #[.val (.ref a1), .val (.int pu), .val (.int cur)] [(.int (1 : Int32)), (.int pu), (.int (kf ((hs + q) % 16)))]))
        refine own_st (fun _ kont => XS.iadd X4.here hx rfl (hb hby own_d1_27) rfl kont) ?_
        show own_Go p e below s _ _ _ (T4.setTop (mkF m 28 #[.val (.ref a1), .val (.int pu), .val (.int cur)] [(.int (pu + (1 : Int32))), (.int (kf ((hs + q) % 16)))]))
        rcases Classical.em ((kf ((hs + q) % 16)) = (pu + (1 : Int32))) with c2 | c2
        · show own_Go p e below s _ _ _ (T4.setTop (mkF m 28 #[.val (.ref a1), .val (.int pu), .val (.int cur)] [(.int (pu + (1 : Int32))), (.int (kf ((hs + q) % 16)))]))
          refine own_st (fun _ kont => XS.icmpYes X4.here hx rfl (pc0 := 28) (pc' := 46) rfl (hb hby own_d1_28) rfl (teq c2).1 (by decide) (by decide) kont) ?_
          show own_Go p e below s _ _ _ (T4.setTop (mkF m 46 #[.val (.ref a1), .val (.int pu), .val (.int cur)] []))
          refine own_st (fun _ kont => XS.iloadN X4.here hx rfl (hb hby own_d1_46) rfl kont) ?_
          show own_Go p e below s _ _ _ (T4.setTop (mkF m 47 #[.val (.ref a1), .val (.int pu), .val (.int cur)] [(.int cur)]))
          exact own_endI X4 hx hlk hret (hb hby own_d1_47) ⟨⟨_, _, rfl, hc, Nat.mod_lt _ (by omega), q, rfl, hp, Or.inr c2⟩, e4, rfl⟩ (by decide) (by decide)
        · show own_Go p e below s _ _ _ (T4.setTop (mkF m 28 #[.val (.ref a1), .val (.int pu), .val (.int cur)] [(.int (pu + (1 : Int32))), (.int (kf ((hs + q) % 16)))]))
          refine own_st (fun _ kont => XS.icmpNo X4.here hx rfl (hb hby own_d1_28) rfl (feq c2).1 kont) ?_
          show own_Go p e below s _ _ _ (T4.setTop (mkF m 31 #[.val (.ref a1), .val (.int pu), .val (.int cur)] []))
          refine own_st (fun _ kont => XS.iloadN X4.here hx rfl (hb hby own_d1_31) rfl kont) ?_
          show own_Go p e below s _ _ _ (T4.setTop (mkF m 32 #[.val (.ref a1), .val (.int pu), .val (.int cur)] [(.int cur)]))
          refine own_st (fun _ kont => XS.iconst X4.here hx rfl (hb hby own_d1_32) kont) ?_
          show own_Go p e below s _ _ _ (T4.setTop (mkF m 33 #[.val (.ref a1), .val (.int pu), .val (.int cur)] [(.int (1 : Int32)), (.int cur)]))
          refine own_st (fun _ kont => XS.iadd X4.here hx rfl (hb hby own_d1_33) rfl kont) ?_
          show own_Go p e below s _ _ _ (T4.setTop (mkF m 34 #[.val (.ref a1), .val (.int pu), .val (.int cur)] [(.int (cur + (1 : Int32)))]))
          refine own_st (fun _ kont => XS.aloadN X4.here hx rfl (hb hby own_d1_34) rfl rfl kont) ?_
          show own_Go p e below s _ _ _ (T4.setTop (mkF m 35 #[.val (.ref a1), .val (.int pu), .val (.int cur)] [(.ref a1), (.int (cur + (1 : Int32)))]))
          obtain ⟨T5, X5, e5, st5⟩ := getF X4 hx hZ hown (host := "") (Or.inl (hw _ (List.mem_of_getElem? (i := 11) rfl))) Via.refl e4 Fk (g := (mkF m 35 #[.val (.ref a1), .val (.int pu), .val (.int cur)] [(.ref a1), (.int (cur + (1 : Int32)))])) rfl rfl (hb hby own_d1_35)
          refine own_st st5 ?_
          show own_Go p e below s _ _ _ (T5.setTop (mkF m 38 #[.val (.ref a1), .val (.int pu), .val (.int cur)] [(.ref ka), (.int (cur + (1 : Int32)))]))
          refine own_st (own_len X5 hx hZ e5 V (z := (16 : Int32)) (by decide) (g := (mkF m 38 #[.val (.ref a1), .val (.int pu), .val (.int cur)] [(.ref ka), (.int (cur + (1 : Int32)))])) rfl rfl (hb hby own_d1_38)) ?_
          show own_Go p e below s _ _ _ (T5.setTop (mkF m 39 #[.val (.ref a1), .val (.int pu), .val (.int cur)] [(.int (16 : Int32)), (.int (cur + (1 : Int32)))]))
          refine own_st (fun _ kont => XS.iconst X5.here hx rfl (hb hby own_d1_39) kont) ?_
          show own_Go p e below s _ _ _ (T5.setTop (mkF m 40 #[.val (.ref a1), .val (.int pu), .val (.int cur)] [(.int (1 : Int32)), (.int (16 : Int32)), (.int (cur + (1 : Int32)))]))
          refine own_st (fun _ kont => XS.isub X5.here hx rfl (hb hby own_d1_40) rfl kont) ?_
          show own_Go p e below s _ _ _ (T5.setTop (mkF m 41 #[.val (.ref a1), .val (.int pu), .val (.int cur)] [(.int (15 : Int32)), (.int (cur + (1 : Int32)))]))
          refine own_st (fun _ kont => XS.iand X5.here hx rfl (hb hby own_d1_41) rfl kont) ?_
          show own_Go p e below s _ _ _ (T5.setTop (mkF m 42 #[.val (.ref a1), .val (.int pu), .val (.int cur)] [(.int ((cur + (1 : Int32)) &&& (15 : Int32)))]))
          refine own_st (fun _ kont => XS.istoreN X5.here hx rfl (hb hby own_d1_42) rfl (l' := #[.val (.ref a1), .val (.int pu), .val (.int ((cur + (1 : Int32)) &&& (15 : Int32)))]) rfl kont) ?_
          show own_Go p e below s _ _ _ (T5.setTop (mkF m 43 #[.val (.ref a1), .val (.int pu), .val (.int ((cur + (1 : Int32)) &&& (15 : Int32)))] []))
          refine own_st (fun _ kont => XS.goto X5.here hx rfl (pc0 := 43) (pc' := 10) rfl (hb hby own_d1_43) (by decide) (by decide) kont) ?_
          show own_Go p e below s _ _ _ (T5.setTop (mkF m 10 #[.val (.ref a1), .val (.int pu), .val (.int ((cur + (1 : Int32)) &&& (15 : Int32)))] []))
          refine ih (q + 1) _ _ (by rw [← hk]; congr 1; omega) ?_ (fun t ht => ?_) X5 e5
          · rw [own_and (c := (hs + q) % 16 + 1) (m := 4) (own_addN hc (by decide) (by omega)) (by decide) (by omega)]
            congr 1
            show ((hs + q) % 16 + 1) % 16 = (hs + (q + 1)) % 16
            omega
          · by_cases e : t = q
            · subst e; exact ⟨c1, c2⟩
            · exact hp t (by omega)
  show own_Go p e below s _ _ _ (T1.setTop (mkF m 10 #[.val (.ref a1), .val (.int pu), .val (.int (XT.ushr (pu * (-1640531527 : Int32)) (28 : Int32)))] []))
  exact loop ((z + 16 - hs) % 16) 0 _ _ (by omega) (by rw [hh]; congr 1; omega) (fun t ht => absurd ht (by omega)) X1 e1
theorem own_d2_0 : decode prog_59_method_5_code 0 = .ok (.iload_n 1, 1) := by decide +kernel
theorem own_d2_1 : decode prog_59_method_5_code 1 = .ok (.ldc 30, 2) := by decide +kernel
theorem own_d2_3 : decode prog_59_method_5_code 3 = .ok (.imul, 1) := by decide +kernel
theorem own_d2_4 : decode prog_59_method_5_code 4 = .ok (.aload_n 0, 1) := by decide +kernel
theorem own_d2_5 : decode prog_59_method_5_code 5 = .ok (.getfield 16, 3) := by decide +kernel
theorem own_d2_8 : decode prog_59_method_5_code 8 = .ok (.iushr, 1) := by decide +kernel
theorem own_d2_9 : decode prog_59_method_5_code 9 = .ok (.istore_n 2, 1) := by decide +kernel
theorem own_d2_10 : decode prog_59_method_5_code 10 = .ok (.aload_n 0, 1) := by decide +kernel
theorem own_d2_11 : decode prog_59_method_5_code 11 = .ok (.getfield 7, 3) := by decide +kernel
theorem own_d2_14 : decode prog_59_method_5_code 14 = .ok (.iload_n 2, 1) := by decide +kernel
theorem own_d2_15 : decode prog_59_method_5_code 15 = .ok (.iaload, 1) := by decide +kernel
theorem own_d2_16 : decode prog_59_method_5_code 16 = .ok (.ifCond .eq 30, 3) := by decide +kernel
theorem own_d2_19 : decode prog_59_method_5_code 19 = .ok (.aload_n 0, 1) := by decide +kernel
theorem own_d2_20 : decode prog_59_method_5_code 20 = .ok (.getfield 7, 3) := by decide +kernel
theorem own_d2_23 : decode prog_59_method_5_code 23 = .ok (.iload_n 2, 1) := by decide +kernel
theorem own_d2_24 : decode prog_59_method_5_code 24 = .ok (.iaload, 1) := by decide +kernel
theorem own_d2_25 : decode prog_59_method_5_code 25 = .ok (.iload_n 1, 1) := by decide +kernel
theorem own_d2_26 : decode prog_59_method_5_code 26 = .ok (.iconst 1, 1) := by decide +kernel
theorem own_d2_27 : decode prog_59_method_5_code 27 = .ok (.iadd, 1) := by decide +kernel
theorem own_d2_28 : decode prog_59_method_5_code 28 = .ok (.if_icmp .eq 18, 3) := by decide +kernel
theorem own_d2_31 : decode prog_59_method_5_code 31 = .ok (.iload_n 2, 1) := by decide +kernel
theorem own_d2_32 : decode prog_59_method_5_code 32 = .ok (.iconst 1, 1) := by decide +kernel
theorem own_d2_33 : decode prog_59_method_5_code 33 = .ok (.iadd, 1) := by decide +kernel
theorem own_d2_34 : decode prog_59_method_5_code 34 = .ok (.aload_n 0, 1) := by decide +kernel
theorem own_d2_35 : decode prog_59_method_5_code 35 = .ok (.getfield 7, 3) := by decide +kernel
theorem own_d2_38 : decode prog_59_method_5_code 38 = .ok (.arraylength, 1) := by decide +kernel
theorem own_d2_39 : decode prog_59_method_5_code 39 = .ok (.iconst 1, 1) := by decide +kernel
theorem own_d2_40 : decode prog_59_method_5_code 40 = .ok (.isub, 1) := by decide +kernel
theorem own_d2_41 : decode prog_59_method_5_code 41 = .ok (.iand, 1) := by decide +kernel
theorem own_d2_42 : decode prog_59_method_5_code 42 = .ok (.istore_n 2, 1) := by decide +kernel
theorem own_d2_43 : decode prog_59_method_5_code 43 = .ok (.goto (-33), 3) := by decide +kernel
theorem own_d2_46 : decode prog_59_method_5_code 46 = .ok (.iload_n 2, 1) := by decide +kernel
theorem own_d2_47 : decode prog_59_method_5_code 47 = .ok (.ireturn, 1) := by decide +kernel
theorem own_pn2 : plainFor (⟨"com/example/hop_gate/hopgate/UserIndex", "place", "(I)I"⟩ : MethodName) = true := by first | exact plainFor_of_name (show plainName "com/example/hop_gate/hopgate/UserIndex" = true by first | (simp [plainName, overriddenIn]; done) | decide +kernel) | decide +kernel
theorem own_ef2 (m : MethodId) (x0 : Addr) (x1 : Int32) : entryFrame m #[(.ref x0), (.int x1)] 3 = mkF m 0 #[.val (.ref x0), .val (.int x1), .unset] [] := by first | (simp [entryFrame, mkF, argsToLocals, Value.category]; done) | rfl
set_option maxRecDepth 65536 in
set_option maxHeartbeats 40000000 in
theorem own_rm5 (l : Launch) (Z : State) (a0 : Array Value) (hw : ∀ d ∈ tables_1, d.before a0 Z = true) (a1 : Addr) (pu : Int32) (ka : Addr) (kf : Nat → Int32) (z : Nat) (h0 : Heap) (n0 : Nat) (Z0 : n0 ≤ h0.size) (V : own_Av Z h0 ka .int 32 (fun t => .int (kf t))) (Fk : Fld Z h0 a1 "com/example/hop_gate/hopgate/UserIndex" "keys" "[I" (.ref ka)) (Fs : Fld Z h0 a1 "com/example/hop_gate/hopgate/UserIndex" "shift" "I" (.int 27)) (hz : z < 32) (hz0 : kf z = 0) :
    own_Met l Z (⟨"com/example/hop_gate/hopgate/UserIndex", "place", "(I)I"⟩ : MethodName) prog_59_method_5_code 3 (some .int) ({ frames := 0, cells := 0, slots := 0, locals := 0 } : Room) #[(.ref a1), (.int pu)] h0 (fun v h' L => (∃ (zr : Int32) (r : Nat), v = some (.int zr) ∧ zr.toInt = (r : Int) ∧ r < 32 ∧ own_Pl kf 32 (own_ht pu) (pu + 1) r) ∧ h' = h0 ∧ L = []) := by
  refine own_in own_pn2 ?_
  intro p e s m below meth c s₁ hx hby hml hown hnm hlk hret hZ X0 e0
  have N0 := Fr.nil n0
  refine own_ef (own_ef2 m a1 pu) ?_
  show own_Go p e below s _ _ _ (s₁.setTop (mkF m 0 #[.val (.ref a1), .val (.int pu), .unset] []))
  refine own_st (fun _ kont => XS.iloadN X0.here hx rfl (hb hby own_d2_0) rfl kont) ?_
  show own_Go p e below s _ _ _ (s₁.setTop (mkF m 1 #[.val (.ref a1), .val (.int pu), .unset] [(.int pu)]))
  refine own_st (fun _ kont => X0.ldcInt hx hown (mvT hZ (hw _ (List.mem_of_getElem? (i := 26) rfl))) (g := (mkF m 1 #[.val (.ref a1), .val (.int pu), .unset] [(.int pu)])) rfl (hb hby own_d2_1) _ kont) ?_
  show own_Go p e below s _ _ _ (s₁.setTop (mkF m 3 #[.val (.ref a1), .val (.int pu), .unset] [(.int (-1640531527 : Int32)), (.int pu)]))
  refine own_st (fun _ kont => XS.imul X0.here hx rfl (hb hby own_d2_3) rfl kont) ?_
  show own_Go p e below s _ _ _ (s₁.setTop (mkF m 4 #[.val (.ref a1), .val (.int pu), .unset] [(.int (pu * (-1640531527 : Int32)))]))
  refine own_st (fun _ kont => XS.aloadN X0.here hx rfl (hb hby own_d2_4) rfl rfl kont) ?_
  show own_Go p e below s _ _ _ (s₁.setTop (mkF m 5 #[.val (.ref a1), .val (.int pu), .unset] [(.ref a1), (.int (pu * (-1640531527 : Int32)))]))
  obtain ⟨T1, X1, e1, st1⟩ := getF X0 hx hZ hown (host := "") (Or.inl (hw _ (List.mem_of_getElem? (i := 15) rfl))) Via.refl e0 Fs (g := (mkF m 5 #[.val (.ref a1), .val (.int pu), .unset] [(.ref a1), (.int (pu * (-1640531527 : Int32)))])) rfl rfl (hb hby own_d2_5)
  refine own_st st1 ?_
  show own_Go p e below s _ _ _ (T1.setTop (mkF m 8 #[.val (.ref a1), .val (.int pu), .unset] [(.int (27 : Int32)), (.int (pu * (-1640531527 : Int32)))]))
  refine own_st (fun _ kont => XT.iushr X1.here hx rfl (hb hby own_d2_8) rfl kont) ?_
  show own_Go p e below s _ _ _ (T1.setTop (mkF m 9 #[.val (.ref a1), .val (.int pu), .unset] [(.int (XT.ushr (pu * (-1640531527 : Int32)) (27 : Int32)))]))
  refine own_st (fun _ kont => XS.istoreN X1.here hx rfl (hb hby own_d2_9) rfl (l' := #[.val (.ref a1), .val (.int pu), .val (.int (XT.ushr (pu * (-1640531527 : Int32)) (27 : Int32)))]) rfl kont) ?_
  show own_Go p e below s _ _ _ (T1.setTop (mkF m 10 #[.val (.ref a1), .val (.int pu), .val (.int (XT.ushr (pu * (-1640531527 : Int32)) (27 : Int32)))] []))
  obtain ⟨hh, hl⟩ := own_htp pu
  obtain ⟨hs, ehs⟩ : ∃ n, n = own_ht pu := ⟨_, rfl⟩
  rw [← ehs] at hh hl ⊢
  have loop : ∀ (r q : Nat) (cur : Int32) (Tl : State), (hs + (q + r)) % 32 = z → cur.toInt = (((hs + q) % 32 : Nat) : Int) → (∀ t, t < q → kf ((hs + t) % 32) ≠ 0 ∧ kf ((hs + t) % 32) ≠ pu + 1) → Stand p l e ({ frames := 0, cells := 0, slots := 0, locals := 0 } : Room) s m #[(.ref a1), (.int pu)] below meth c Tl [] 0 0 → Tl.heap = h0 → own_Go p e below s (fun v h' L => (∃ (zr : Int32) (r : Nat), v = some (.int zr) ∧ zr.toInt = (r : Int) ∧ r < 32 ∧ own_Pl kf 32 (hs) (pu + 1) r) ∧ h' = h0 ∧ L = []) ({ frames := 0, cells := 0, slots := 0, locals := 0 } : Room).cells ({ frames := 0, cells := 0, slots := 0, locals := 0 } : Room).slots (Tl.setTop (mkF m 10 #[.val (.ref a1), .val (.int pu), .val (.int cur)] [])) := by
    intro r
    induction r with
    | zero =>
      intro q cur Tl hk hc hp Xl el
      show own_Go p e below s _ _ _ (Tl.setTop (mkF m 10 #[.val (.ref a1), .val (.int pu), .val (.int cur)] []))
      refine own_st (fun _ kont => XS.aloadN Xl.here hx rfl (hb hby own_d2_10) rfl rfl kont) ?_
      show own_Go p e below s _ _ _ (Tl.setTop (mkF m 11 #[.val (.ref a1), .val (.int pu), .val (.int cur)] [(.ref a1)]))
      obtain ⟨T2, X2, e2, st2⟩ := getF Xl hx hZ hown (host := "") (Or.inl (hw _ (List.mem_of_getElem? (i := 11) rfl))) Via.refl el Fk (g := (mkF m 11 #[.val (.ref a1), .val (.int pu), .val (.int cur)] [(.ref a1)])) rfl rfl (hb hby own_d2_11)
      refine own_st st2 ?_
      show own_Go p e below s _ _ _ (T2.setTop (mkF m 14 #[.val (.ref a1), .val (.int pu), .val (.int cur)] [(.ref ka)]))
      refine own_st (fun _ kont => XS.iloadN X2.here hx rfl (hb hby own_d2_14) rfl kont) ?_
      show own_Go p e below s _ _ _ (T2.setTop (mkF m 15 #[.val (.ref a1), .val (.int pu), .val (.int cur)] [(.int cur), (.ref ka)]))
      refine own_st (own_ldI X2 hx hZ e2 V (i := ((hs + q) % 32)) hc (Nat.mod_lt _ (by omega)) (v := (.int (kf ((hs + q) % 32)))) rfl (g := (mkF m 15 #[.val (.ref a1), .val (.int pu), .val (.int cur)] [(.int cur), (.ref ka)])) rfl rfl (hb hby own_d2_15)) ?_
      show own_Go p e below s _ _ _ (T2.setTop (mkF m 16 #[.val (.ref a1), .val (.int pu), .val (.int cur)] [(.int (kf ((hs + q) % 32)))]))
      have hq0 : kf ((hs + q) % 32) = 0 := by rw [show q = q + 0 by omega, hk]; exact hz0
      show own_Go p e below s _ _ _ (T2.setTop (mkF m 16 #[.val (.ref a1), .val (.int pu), .val (.int cur)] [(.int (kf ((hs + q) % 32)))]))
      refine own_st (fun _ kont => XS.ifYes X2.here hx rfl (pc0 := 16) (pc' := 46) rfl (hb hby own_d2_16) rfl ((if0 _ _).trans (teq hq0).1) (by decide) (by decide) kont) ?_
      show own_Go p e below s _ _ _ (T2.setTop (mkF m 46 #[.val (.ref a1), .val (.int pu), .val (.int cur)] []))
      refine own_st (fun _ kont => XS.iloadN X2.here hx rfl (hb hby own_d2_46) rfl kont) ?_
      show own_Go p e below s _ _ _ (T2.setTop (mkF m 47 #[.val (.ref a1), .val (.int pu), .val (.int cur)] [(.int cur)]))
      exact own_endI X2 hx hlk hret (hb hby own_d2_47) ⟨⟨_, _, rfl, hc, Nat.mod_lt _ (by omega), q, rfl, hp, Or.inl hq0⟩, e2, rfl⟩ (by decide) (by decide)
    | succ r ih =>
      intro q cur Tl hk hc hp Xl el
      show own_Go p e below s _ _ _ (Tl.setTop (mkF m 10 #[.val (.ref a1), .val (.int pu), .val (.int cur)] []))
      refine own_st (fun _ kont => XS.aloadN Xl.here hx rfl (hb hby own_d2_10) rfl rfl kont) ?_
      show own_Go p e below s _ _ _ (Tl.setTop (mkF m 11 #[.val (.ref a1), .val (.int pu), .val (.int cur)] [(.ref a1)]))
      obtain ⟨T3, X3, e3, st3⟩ := getF Xl hx hZ hown (host := "") (Or.inl (hw _ (List.mem_of_getElem? (i := 11) rfl))) Via.refl el Fk (g := (mkF m 11 #[.val (.ref a1), .val (.int pu), .val (.int cur)] [(.ref a1)])) rfl rfl (hb hby own_d2_11)
      refine own_st st3 ?_
      show own_Go p e below s _ _ _ (T3.setTop (mkF m 14 #[.val (.ref a1), .val (.int pu), .val (.int cur)] [(.ref ka)]))
      refine own_st (fun _ kont => XS.iloadN X3.here hx rfl (hb hby own_d2_14) rfl kont) ?_
      show own_Go p e below s _ _ _ (T3.setTop (mkF m 15 #[.val (.ref a1), .val (.int pu), .val (.int cur)] [(.int cur), (.ref ka)]))
      refine own_st (own_ldI X3 hx hZ e3 V (i := ((hs + q) % 32)) hc (Nat.mod_lt _ (by omega)) (v := (.int (kf ((hs + q) % 32)))) rfl (g := (mkF m 15 #[.val (.ref a1), .val (.int pu), .val (.int cur)] [(.int cur), (.ref ka)])) rfl rfl (hb hby own_d2_15)) ?_
      show own_Go p e below s _ _ _ (T3.setTop (mkF m 16 #[.val (.ref a1), .val (.int pu), .val (.int cur)] [(.int (kf ((hs + q) % 32)))]))
      rcases Classical.em ((kf ((hs + q) % 32)) = (0 : Int32)) with c1 | c1
      · show own_Go p e below s _ _ _ (T3.setTop (mkF m 16 #[.val (.ref a1), .val (.int pu), .val (.int cur)] [(.int (kf ((hs + q) % 32)))]))
        refine own_st (fun _ kont => XS.ifYes X3.here hx rfl (pc0 := 16) (pc' := 46) rfl (hb hby own_d2_16) rfl ((if0 _ _).trans (teq c1).1) (by decide) (by decide) kont) ?_
        show own_Go p e below s _ _ _ (T3.setTop (mkF m 46 #[.val (.ref a1), .val (.int pu), .val (.int cur)] []))
        refine own_st (fun _ kont => XS.iloadN X3.here hx rfl (hb hby own_d2_46) rfl kont) ?_
        show own_Go p e below s _ _ _ (T3.setTop (mkF m 47 #[.val (.ref a1), .val (.int pu), .val (.int cur)] [(.int cur)]))
        exact own_endI X3 hx hlk hret (hb hby own_d2_47) ⟨⟨_, _, rfl, hc, Nat.mod_lt _ (by omega), q, rfl, hp, Or.inl c1⟩, e3, rfl⟩ (by decide) (by decide)
      · show own_Go p e below s _ _ _ (T3.setTop (mkF m 16 #[.val (.ref a1), .val (.int pu), .val (.int cur)] [(.int (kf ((hs + q) % 32)))]))
        refine own_st (fun _ kont => XS.ifNo X3.here hx rfl (hb hby own_d2_16) rfl ((if0 _ _).trans (feq c1).1) kont) ?_
        show own_Go p e below s _ _ _ (T3.setTop (mkF m 19 #[.val (.ref a1), .val (.int pu), .val (.int cur)] []))
        refine own_st (fun _ kont => XS.aloadN X3.here hx rfl (hb hby own_d2_19) rfl rfl kont) ?_
        show own_Go p e below s _ _ _ (T3.setTop (mkF m 20 #[.val (.ref a1), .val (.int pu), .val (.int cur)] [(.ref a1)]))
        obtain ⟨T4, X4, e4, st4⟩ := getF X3 hx hZ hown (host := "") (Or.inl (hw _ (List.mem_of_getElem? (i := 11) rfl))) Via.refl e3 Fk (g := (mkF m 20 #[.val (.ref a1), .val (.int pu), .val (.int cur)] [(.ref a1)])) rfl rfl (hb hby own_d2_20)
        refine own_st st4 ?_
        show own_Go p e below s _ _ _ (T4.setTop (mkF m 23 #[.val (.ref a1), .val (.int pu), .val (.int cur)] [(.ref ka)]))
        refine own_st (fun _ kont => XS.iloadN X4.here hx rfl (hb hby own_d2_23) rfl kont) ?_
        show own_Go p e below s _ _ _ (T4.setTop (mkF m 24 #[.val (.ref a1), .val (.int pu), .val (.int cur)] [(.int cur), (.ref ka)]))
        refine own_st (own_ldI X4 hx hZ e4 V (i := ((hs + q) % 32)) hc (Nat.mod_lt _ (by omega)) (v := (.int (kf ((hs + q) % 32)))) rfl (g := (mkF m 24 #[.val (.ref a1), .val (.int pu), .val (.int cur)] [(.int cur), (.ref ka)])) rfl rfl (hb hby own_d2_24)) ?_
        show own_Go p e below s _ _ _ (T4.setTop (mkF m 25 #[.val (.ref a1), .val (.int pu), .val (.int cur)] [(.int (kf ((hs + q) % 32)))]))
        refine own_st (fun _ kont => XS.iloadN X4.here hx rfl (hb hby own_d2_25) rfl kont) ?_
        show own_Go p e below s _ _ _ (T4.setTop (mkF m 26 #[.val (.ref a1), .val (.int pu), .val (.int cur)] [(.int pu), (.int (kf ((hs + q) % 32)))]))
        refine own_st (fun _ kont => XS.iconst X4.here hx rfl (hb hby own_d2_26) kont) ?_
        show own_Go p e below s _ _ _ (T4.setTop (mkF m 27 #[.val (.ref a1), .val (.int pu), .val (.int cur)] [(.int (1 : Int32)), (.int pu), (.int (kf ((hs + q) % 32)))]))
        refine own_st (fun _ kont => XS.iadd X4.here hx rfl (hb hby own_d2_27) rfl kont) ?_
        show own_Go p e below s _ _ _ (T4.setTop (mkF m 28 #[.val (.ref a1), .val (.int pu), .val (.int cur)] [(.int (pu + (1 : Int32))), (.int (kf ((hs + q) % 32)))]))
        rcases Classical.em ((kf ((hs + q) % 32)) = (pu + (1 : Int32))) with c2 | c2
        · show own_Go p e below s _ _ _ (T4.setTop (mkF m 28 #[.val (.ref a1), .val (.int pu), .val (.int cur)] [(.int (pu + (1 : Int32))), (.int (kf ((hs + q) % 32)))]))
          refine own_st (fun _ kont => XS.icmpYes X4.here hx rfl (pc0 := 28) (pc' := 46) rfl (hb hby own_d2_28) rfl (teq c2).1 (by decide) (by decide) kont) ?_
          show own_Go p e below s _ _ _ (T4.setTop (mkF m 46 #[.val (.ref a1), .val (.int pu), .val (.int cur)] []))
          refine own_st (fun _ kont => XS.iloadN X4.here hx rfl (hb hby own_d2_46) rfl kont) ?_
          show own_Go p e below s _ _ _ (T4.setTop (mkF m 47 #[.val (.ref a1), .val (.int pu), .val (.int cur)] [(.int cur)]))
          exact own_endI X4 hx hlk hret (hb hby own_d2_47) ⟨⟨_, _, rfl, hc, Nat.mod_lt _ (by omega), q, rfl, hp, Or.inr c2⟩, e4, rfl⟩ (by decide) (by decide)
        · show own_Go p e below s _ _ _ (T4.setTop (mkF m 28 #[.val (.ref a1), .val (.int pu), .val (.int cur)] [(.int (pu + (1 : Int32))), (.int (kf ((hs + q) % 32)))]))
          refine own_st (fun _ kont => XS.icmpNo X4.here hx rfl (hb hby own_d2_28) rfl (feq c2).1 kont) ?_
          show own_Go p e below s _ _ _ (T4.setTop (mkF m 31 #[.val (.ref a1), .val (.int pu), .val (.int cur)] []))
          refine own_st (fun _ kont => XS.iloadN X4.here hx rfl (hb hby own_d2_31) rfl kont) ?_
          show own_Go p e below s _ _ _ (T4.setTop (mkF m 32 #[.val (.ref a1), .val (.int pu), .val (.int cur)] [(.int cur)]))
          refine own_st (fun _ kont => XS.iconst X4.here hx rfl (hb hby own_d2_32) kont) ?_
          show own_Go p e below s _ _ _ (T4.setTop (mkF m 33 #[.val (.ref a1), .val (.int pu), .val (.int cur)] [(.int (1 : Int32)), (.int cur)]))
          refine own_st (fun _ kont => XS.iadd X4.here hx rfl (hb hby own_d2_33) rfl kont) ?_
          show own_Go p e below s _ _ _ (T4.setTop (mkF m 34 #[.val (.ref a1), .val (.int pu), .val (.int cur)] [(.int (cur + (1 : Int32)))]))
          refine own_st (fun _ kont => XS.aloadN X4.here hx rfl (hb hby own_d2_34) rfl rfl kont) ?_
          show own_Go p e below s _ _ _ (T4.setTop (mkF m 35 #[.val (.ref a1), .val (.int pu), .val (.int cur)] [(.ref a1), (.int (cur + (1 : Int32)))]))
          obtain ⟨T5, X5, e5, st5⟩ := getF X4 hx hZ hown (host := "") (Or.inl (hw _ (List.mem_of_getElem? (i := 11) rfl))) Via.refl e4 Fk (g := (mkF m 35 #[.val (.ref a1), .val (.int pu), .val (.int cur)] [(.ref a1), (.int (cur + (1 : Int32)))])) rfl rfl (hb hby own_d2_35)
          refine own_st st5 ?_
          show own_Go p e below s _ _ _ (T5.setTop (mkF m 38 #[.val (.ref a1), .val (.int pu), .val (.int cur)] [(.ref ka), (.int (cur + (1 : Int32)))]))
          refine own_st (own_len X5 hx hZ e5 V (z := (32 : Int32)) (by decide) (g := (mkF m 38 #[.val (.ref a1), .val (.int pu), .val (.int cur)] [(.ref ka), (.int (cur + (1 : Int32)))])) rfl rfl (hb hby own_d2_38)) ?_
          show own_Go p e below s _ _ _ (T5.setTop (mkF m 39 #[.val (.ref a1), .val (.int pu), .val (.int cur)] [(.int (32 : Int32)), (.int (cur + (1 : Int32)))]))
          refine own_st (fun _ kont => XS.iconst X5.here hx rfl (hb hby own_d2_39) kont) ?_
          show own_Go p e below s _ _ _ (T5.setTop (mkF m 40 #[.val (.ref a1), .val (.int pu), .val (.int cur)] [(.int (1 : Int32)), (.int (32 : Int32)), (.int (cur + (1 : Int32)))]))
          refine own_st (fun _ kont => XS.isub X5.here hx rfl (hb hby own_d2_40) rfl kont) ?_
          show own_Go p e below s _ _ _ (T5.setTop (mkF m 41 #[.val (.ref a1), .val (.int pu), .val (.int cur)] [(.int (31 : Int32)), (.int (cur + (1 : Int32)))]))
          refine own_st (fun _ kont => XS.iand X5.here hx rfl (hb hby own_d2_41) rfl kont) ?_
          show own_Go p e below s _ _ _ (T5.setTop (mkF m 42 #[.val (.ref a1), .val (.int pu), .val (.int cur)] [(.int ((cur + (1 : Int32)) &&& (31 : Int32)))]))
          refine own_st (fun _ kont => XS.istoreN X5.here hx rfl (hb hby own_d2_42) rfl (l' := #[.val (.ref a1), .val (.int pu), .val (.int ((cur + (1 : Int32)) &&& (31 : Int32)))]) rfl kont) ?_
          show own_Go p e below s _ _ _ (T5.setTop (mkF m 43 #[.val (.ref a1), .val (.int pu), .val (.int ((cur + (1 : Int32)) &&& (31 : Int32)))] []))
          refine own_st (fun _ kont => XS.goto X5.here hx rfl (pc0 := 43) (pc' := 10) rfl (hb hby own_d2_43) (by decide) (by decide) kont) ?_
          show own_Go p e below s _ _ _ (T5.setTop (mkF m 10 #[.val (.ref a1), .val (.int pu), .val (.int ((cur + (1 : Int32)) &&& (31 : Int32)))] []))
          refine ih (q + 1) _ _ (by rw [← hk]; congr 1; omega) ?_ (fun t ht => ?_) X5 e5
          · rw [own_and (c := (hs + q) % 32 + 1) (m := 5) (own_addN hc (by decide) (by omega)) (by decide) (by omega)]
            congr 1
            show ((hs + q) % 32 + 1) % 32 = (hs + (q + 1)) % 32
            omega
          · by_cases e : t = q
            · subst e; exact ⟨c1, c2⟩
            · exact hp t (by omega)
  show own_Go p e below s _ _ _ (T1.setTop (mkF m 10 #[.val (.ref a1), .val (.int pu), .val (.int (XT.ushr (pu * (-1640531527 : Int32)) (27 : Int32)))] []))
  exact loop ((z + 32 - hs) % 32) 0 _ _ (by omega) (by rw [hh]; congr 1; omega) (fun t ht => absurd ht (by omega)) X1 e1
theorem own_pd0 : parseMethodDescriptor "(I)I" = some ⟨[.int], some .int⟩ := by decide +kernel
theorem own_d3_0 : decode prog_59_method_6_code 0 = .ok (.aload_n 0, 1) := by decide +kernel
theorem own_d3_1 : decode prog_59_method_6_code 1 = .ok (.getfield 7, 3) := by decide +kernel
theorem own_d3_4 : decode prog_59_method_6_code 4 = .ok (.astore_n 1, 1) := by decide +kernel
theorem own_d3_5 : decode prog_59_method_6_code 5 = .ok (.aload_n 0, 1) := by decide +kernel
theorem own_d3_6 : decode prog_59_method_6_code 6 = .ok (.getfield 13, 3) := by decide +kernel
theorem own_d3_9 : decode prog_59_method_6_code 9 = .ok (.astore_n 2, 1) := by decide +kernel
theorem own_d3_10 : decode prog_59_method_6_code 10 = .ok (.aload_n 0, 1) := by decide +kernel
theorem own_d3_11 : decode prog_59_method_6_code 11 = .ok (.iconst 2, 1) := by decide +kernel
theorem own_d3_12 : decode prog_59_method_6_code 12 = .ok (.aload_n 1, 1) := by decide +kernel
theorem own_d3_13 : decode prog_59_method_6_code 13 = .ok (.arraylength, 1) := by decide +kernel
theorem own_d3_14 : decode prog_59_method_6_code 14 = .ok (.imul, 1) := by decide +kernel
theorem own_d3_15 : decode prog_59_method_6_code 15 = .ok (.newarray .int, 2) := by decide +kernel
theorem own_d3_17 : decode prog_59_method_6_code 17 = .ok (.putfield 7, 3) := by decide +kernel
theorem own_d3_20 : decode prog_59_method_6_code 20 = .ok (.aload_n 0, 1) := by decide +kernel
theorem own_d3_21 : decode prog_59_method_6_code 21 = .ok (.aload_n 0, 1) := by decide +kernel
theorem own_d3_22 : decode prog_59_method_6_code 22 = .ok (.getfield 7, 3) := by decide +kernel
theorem own_d3_25 : decode prog_59_method_6_code 25 = .ok (.arraylength, 1) := by decide +kernel
theorem own_d3_26 : decode prog_59_method_6_code 26 = .ok (.newarray .int, 2) := by decide +kernel
theorem own_d3_28 : decode prog_59_method_6_code 28 = .ok (.putfield 13, 3) := by decide +kernel
theorem own_d3_31 : decode prog_59_method_6_code 31 = .ok (.aload_n 0, 1) := by decide +kernel
theorem own_d3_32 : decode prog_59_method_6_code 32 = .ok (.dup, 1) := by decide +kernel
theorem own_d3_33 : decode prog_59_method_6_code 33 = .ok (.getfield 16, 3) := by decide +kernel
theorem own_d3_36 : decode prog_59_method_6_code 36 = .ok (.iconst 1, 1) := by decide +kernel
theorem own_d3_37 : decode prog_59_method_6_code 37 = .ok (.isub, 1) := by decide +kernel
theorem own_d3_38 : decode prog_59_method_6_code 38 = .ok (.putfield 16, 3) := by decide +kernel
theorem own_d3_41 : decode prog_59_method_6_code 41 = .ok (.iconst 0, 1) := by decide +kernel
theorem own_d3_42 : decode prog_59_method_6_code 42 = .ok (.istore_n 3, 1) := by decide +kernel
theorem own_d3_43 : decode prog_59_method_6_code 43 = .ok (.iload_n 3, 1) := by decide +kernel
theorem own_d3_44 : decode prog_59_method_6_code 44 = .ok (.aload_n 1, 1) := by decide +kernel
theorem own_d3_45 : decode prog_59_method_6_code 45 = .ok (.arraylength, 1) := by decide +kernel
theorem own_d3_46 : decode prog_59_method_6_code 46 = .ok (.if_icmp .ge 46, 3) := by decide +kernel
theorem own_d3_49 : decode prog_59_method_6_code 49 = .ok (.aload_n 1, 1) := by decide +kernel
theorem own_d3_50 : decode prog_59_method_6_code 50 = .ok (.iload_n 3, 1) := by decide +kernel
theorem own_d3_51 : decode prog_59_method_6_code 51 = .ok (.iaload, 1) := by decide +kernel
theorem own_d3_52 : decode prog_59_method_6_code 52 = .ok (.ifCond .eq 34, 3) := by decide +kernel
theorem own_d3_55 : decode prog_59_method_6_code 55 = .ok (.aload_n 0, 1) := by decide +kernel
theorem own_d3_56 : decode prog_59_method_6_code 56 = .ok (.aload_n 1, 1) := by decide +kernel
theorem own_d3_57 : decode prog_59_method_6_code 57 = .ok (.iload_n 3, 1) := by decide +kernel
theorem own_d3_58 : decode prog_59_method_6_code 58 = .ok (.iaload, 1) := by decide +kernel
theorem own_d3_59 : decode prog_59_method_6_code 59 = .ok (.iconst 1, 1) := by decide +kernel
theorem own_d3_60 : decode prog_59_method_6_code 60 = .ok (.isub, 1) := by decide +kernel
theorem own_d3_61 : decode prog_59_method_6_code 61 = .ok (.invokevirtual 23, 3) := by decide +kernel
theorem own_d3_64 : decode prog_59_method_6_code 64 = .ok (.istore 4, 2) := by decide +kernel
theorem own_d3_66 : decode prog_59_method_6_code 66 = .ok (.aload_n 0, 1) := by decide +kernel
theorem own_d3_67 : decode prog_59_method_6_code 67 = .ok (.getfield 7, 3) := by decide +kernel
theorem own_d3_70 : decode prog_59_method_6_code 70 = .ok (.iload 4, 2) := by decide +kernel
theorem own_d3_72 : decode prog_59_method_6_code 72 = .ok (.aload_n 1, 1) := by decide +kernel
theorem own_d3_73 : decode prog_59_method_6_code 73 = .ok (.iload_n 3, 1) := by decide +kernel
theorem own_d3_74 : decode prog_59_method_6_code 74 = .ok (.iaload, 1) := by decide +kernel
theorem own_d3_75 : decode prog_59_method_6_code 75 = .ok (.iastore, 1) := by decide +kernel
theorem own_d3_76 : decode prog_59_method_6_code 76 = .ok (.aload_n 0, 1) := by decide +kernel
theorem own_d3_77 : decode prog_59_method_6_code 77 = .ok (.getfield 13, 3) := by decide +kernel
theorem own_d3_80 : decode prog_59_method_6_code 80 = .ok (.iload 4, 2) := by decide +kernel
theorem own_d3_82 : decode prog_59_method_6_code 82 = .ok (.aload_n 2, 1) := by decide +kernel
theorem own_d3_83 : decode prog_59_method_6_code 83 = .ok (.iload_n 3, 1) := by decide +kernel
theorem own_d3_84 : decode prog_59_method_6_code 84 = .ok (.iaload, 1) := by decide +kernel
theorem own_d3_85 : decode prog_59_method_6_code 85 = .ok (.iastore, 1) := by decide +kernel
theorem own_d3_86 : decode prog_59_method_6_code 86 = .ok (.iinc 3 1, 3) := by decide +kernel
theorem own_d3_89 : decode prog_59_method_6_code 89 = .ok (.goto (-46), 3) := by decide +kernel
theorem own_d3_92 : decode prog_59_method_6_code 92 = .ok (.return_, 1) := by decide +kernel
theorem own_pn3 : plainFor (⟨"com/example/hop_gate/hopgate/UserIndex", "grow", "()V"⟩ : MethodName) = true := by first | exact plainFor_of_name (show plainName "com/example/hop_gate/hopgate/UserIndex" = true by first | (simp [plainName, overriddenIn]; done) | decide +kernel) | decide +kernel
theorem own_ef3 (m : MethodId) (x0 : Addr) : entryFrame m #[(.ref x0)] 5 = mkF m 0 #[.val (.ref x0), .unset, .unset, .unset, .unset] [] := by first | (simp [entryFrame, mkF, argsToLocals, Value.category]; done) | rfl
set_option maxRecDepth 65536 in
set_option maxHeartbeats 40000000 in
theorem own_rm6 (l : Launch) (Z : State) (a0 : Array Value) (hw : ∀ d ∈ tables_1, d.before a0 Z = true) (a1 : Addr) (ka na : Addr) (kf nf : Nat → Int32) (S : Int32 → Int32 → Prop) (sz : Int32) (h0 : Heap) (n0 : Nat) (Z0 : n0 ≤ h0.size) (Vk : own_Av Z h0 ka .int 16 (fun t => .int (kf t))) (Vn : own_Av Z h0 na .int 16 (fun t => .int (nf t))) (Fk : Fld Z h0 a1 "com/example/hop_gate/hopgate/UserIndex" "keys" "[I" (.ref ka)) (Fn : Fld Z h0 a1 "com/example/hop_gate/hopgate/UserIndex" "numbers" "[I" (.ref na)) (Fs : Fld Z h0 a1 "com/example/hop_gate/hopgate/UserIndex" "shift" "I" (.int 28)) (Fz : Fld Z h0 a1 "com/example/hop_gate/hopgate/UserIndex" "size" "I" (.int sz)) (EX : Exa Z h0 a1 "com/example/hop_gate/hopgate/UserIndex") (HT : own_T 16 own_hs kf nf S) (fr_a1 : n0 ≤ a1) (nak : a1 ≠ ka) (nan : a1 ≠ na) (nkn : ka ≠ na) :
    own_Met l Z (⟨"com/example/hop_gate/hopgate/UserIndex", "grow", "()V"⟩ : MethodName) prog_59_method_6_code 5 none ({ frames := 1, cells := 2, slots := 64, locals := 15 } : Room) #[(.ref a1)] h0 (fun v h' L => ∃ (kb nb : Addr) (kg ng : Nat → Int32), v = none ∧ Fr n0 L ∧ Keep h0 h' [a1] ∧ Fld Z h' a1 "com/example/hop_gate/hopgate/UserIndex" "keys" "[I" (.ref kb) ∧ Fld Z h' a1 "com/example/hop_gate/hopgate/UserIndex" "numbers" "[I" (.ref nb) ∧ Fld Z h' a1 "com/example/hop_gate/hopgate/UserIndex" "shift" "I" (.int 27) ∧ Fld Z h' a1 "com/example/hop_gate/hopgate/UserIndex" "size" "I" (.int sz) ∧ own_Av Z h' kb .int 32 (fun t => .int (kg t)) ∧ own_Av Z h' nb .int 32 (fun t => .int (ng t)) ∧ own_T 32 own_ht kg ng S ∧ 32 ≤ own_zero kg 32 + 16 ∧ h0.size ≤ kb ∧ h0.size ≤ nb ∧ kb ≠ nb) := by
  refine own_in own_pn3 ?_
  intro p e s m below meth c s₁ hx hby hml hown hnm hlk hret hZ X0 e0
  have N0 := Fr.nil n0
  refine own_ef (own_ef3 m a1) ?_
  show own_Go p e below s _ _ _ (s₁.setTop (mkF m 0 #[.val (.ref a1), .unset, .unset, .unset, .unset] []))
  refine own_st (fun _ kont => XS.aloadN X0.here hx rfl (hb hby own_d3_0) rfl rfl kont) ?_
  show own_Go p e below s _ _ _ (s₁.setTop (mkF m 1 #[.val (.ref a1), .unset, .unset, .unset, .unset] [(.ref a1)]))
  obtain ⟨T1, X1, e1, st1⟩ := getF X0 hx hZ hown (host := "") (Or.inl (hw _ (List.mem_of_getElem? (i := 11) rfl))) Via.refl e0 Fk (g := (mkF m 1 #[.val (.ref a1), .unset, .unset, .unset, .unset] [(.ref a1)])) rfl rfl (hb hby own_d3_1)
  refine own_st st1 ?_
  show own_Go p e below s _ _ _ (T1.setTop (mkF m 4 #[.val (.ref a1), .unset, .unset, .unset, .unset] [(.ref ka)]))
  refine own_st (fun _ kont => XS.astoreN X1.here hx rfl (hb hby own_d3_4) rfl rfl (l' := #[.val (.ref a1), .val (.ref ka), .unset, .unset, .unset]) rfl kont) ?_
  show own_Go p e below s _ _ _ (T1.setTop (mkF m 5 #[.val (.ref a1), .val (.ref ka), .unset, .unset, .unset] []))
  refine own_st (fun _ kont => XS.aloadN X1.here hx rfl (hb hby own_d3_5) rfl rfl kont) ?_
  show own_Go p e below s _ _ _ (T1.setTop (mkF m 6 #[.val (.ref a1), .val (.ref ka), .unset, .unset, .unset] [(.ref a1)]))
  obtain ⟨T2, X2, e2, st2⟩ := getF X1 hx hZ hown (host := "") (Or.inl (hw _ (List.mem_of_getElem? (i := 13) rfl))) Via.refl e1 Fn (g := (mkF m 6 #[.val (.ref a1), .val (.ref ka), .unset, .unset, .unset] [(.ref a1)])) rfl rfl (hb hby own_d3_6)
  refine own_st st2 ?_
  show own_Go p e below s _ _ _ (T2.setTop (mkF m 9 #[.val (.ref a1), .val (.ref ka), .unset, .unset, .unset] [(.ref na)]))
  refine own_st (fun _ kont => XS.astoreN X2.here hx rfl (hb hby own_d3_9) rfl rfl (l' := #[.val (.ref a1), .val (.ref ka), .val (.ref na), .unset, .unset]) rfl kont) ?_
  show own_Go p e below s _ _ _ (T2.setTop (mkF m 10 #[.val (.ref a1), .val (.ref ka), .val (.ref na), .unset, .unset] []))
  refine own_st (fun _ kont => XS.aloadN X2.here hx rfl (hb hby own_d3_10) rfl rfl kont) ?_
  show own_Go p e below s _ _ _ (T2.setTop (mkF m 11 #[.val (.ref a1), .val (.ref ka), .val (.ref na), .unset, .unset] [(.ref a1)]))
  refine own_st (fun _ kont => XS.iconst X2.here hx rfl (hb hby own_d3_11) kont) ?_
  show own_Go p e below s _ _ _ (T2.setTop (mkF m 12 #[.val (.ref a1), .val (.ref ka), .val (.ref na), .unset, .unset] [(.int (2 : Int32)), (.ref a1)]))
  refine own_st (fun _ kont => XS.aloadN X2.here hx rfl (hb hby own_d3_12) rfl rfl kont) ?_
  show own_Go p e below s _ _ _ (T2.setTop (mkF m 13 #[.val (.ref a1), .val (.ref ka), .val (.ref na), .unset, .unset] [(.ref ka), (.int (2 : Int32)), (.ref a1)]))
  refine own_st (own_len X2 hx hZ e2 Vk (z := (16 : Int32)) (by decide) (g := (mkF m 13 #[.val (.ref a1), .val (.ref ka), .val (.ref na), .unset, .unset] [(.ref ka), (.int (2 : Int32)), (.ref a1)])) rfl rfl (hb hby own_d3_13)) ?_
  show own_Go p e below s _ _ _ (T2.setTop (mkF m 14 #[.val (.ref a1), .val (.ref ka), .val (.ref na), .unset, .unset] [(.int (16 : Int32)), (.int (2 : Int32)), (.ref a1)]))
  refine own_st (fun _ kont => XS.imul X2.here hx rfl (hb hby own_d3_14) rfl kont) ?_
  show own_Go p e below s _ _ _ (T2.setTop (mkF m 15 #[.val (.ref a1), .val (.ref ka), .val (.ref na), .unset, .unset] [(.int (32 : Int32)), (.ref a1)]))
  obtain ⟨T3, h3, kb, g3, X3, e3, E3, Vkb, st3⟩ := own_newA X2 hx hZ (hw _ (List.mem_of_getElem? (i := 1) rfl)) e2 (g := (mkF m 15 #[.val (.ref a1), .val (.ref ka), .val (.ref na), .unset, .unset] [(.int (32 : Int32)), (.ref a1)])) rfl (hb hby own_d3_15) rfl (n := 32) (cap := 32) (by decide) (by decide) (by decide) (by decide) (by decide)
  replace Vkb : own_Av Z h3 kb .int 32 (fun _ => .int 0) := Vkb
  have ne_a1_kb : a1 ≠ kb := Nat.ne_of_lt (Nat.lt_of_lt_of_eq Fk.lt g3.symm)
  have ne_ka_kb : ka ≠ kb := Nat.ne_of_lt (Nat.lt_of_lt_of_eq Vk.lt g3.symm)
  have ne_na_kb : na ≠ kb := Nat.ne_of_lt (Nat.lt_of_lt_of_eq Vn.lt g3.symm)
  have fr_kb : n0 ≤ kb := Nat.le_trans Z0 (Nat.le_of_eq g3.symm)
  have sk_kb : h0.size ≤ kb := Nat.le_trans (Keep.refl h0 [a1]).1 (Nat.le_of_eq g3.symm)
  have Fk_3 := Fk.ext E3
  have Fn_3 := Fn.ext E3
  have Fs_3 := Fs.ext E3
  have Fz_3 := Fz.ext E3
  have EX_3 := EX.ext E3
  have Vk_3 := Vk.ext E3
  have Vn_3 := Vn.ext E3
  have sz3 := Nat.le_trans Z0 E3.1
  have K3 := (Keep.refl h0 [a1]).ext E3
  refine own_st st3 ?_
  show own_Go p e below s _ _ _ (T3.setTop (mkF m 17 #[.val (.ref a1), .val (.ref ka), .val (.ref na), .unset, .unset] [(.ref kb), (.ref a1)]))
  obtain ⟨T4, h4, X4, e4, W4, st4⟩ := putF X3 hx hZ hown (host := "") (Or.inl (hw _ (List.mem_of_getElem? (i := 11) rfl))) Via.refl e3 Fk_3 EX_3 (Or.inl (hw _ (List.mem_of_getElem? (i := 12) rfl))) (hw _ (List.mem_of_getElem? (i := 3) rfl)) (ty := (.array .int)) (by decide) rfl rfl (g := (mkF m 17 #[.val (.ref a1), .val (.ref ka), .val (.ref na), .unset, .unset] [(.ref kb), (.ref a1)])) rfl rfl (hb hby own_d3_17)
  have Fk_4 := Fk_3.same W4
  have Fn_4 := Fn_3.other W4 (Or.inr (slot_ne (Or.inl (hw _ (List.mem_of_getElem? (i := 14) rfl))) (Or.inl (hw _ (List.mem_of_getElem? (i := 12) rfl))) (by decide) (t := (.array .int)) (t' := (.array .int)) (by decide) (by decide)))
  have Fs_4 := Fs_3.other W4 (Or.inr (slot_ne (Or.inl (hw _ (List.mem_of_getElem? (i := 16) rfl))) (Or.inl (hw _ (List.mem_of_getElem? (i := 12) rfl))) (by decide) (t := .int) (t' := (.array .int)) (by decide) (by decide)))
  have Fz_4 := Fz_3.other W4 (Or.inr (slot_ne (Or.inl (hw _ (List.mem_of_getElem? (i := 28) rfl))) (Or.inl (hw _ (List.mem_of_getElem? (i := 12) rfl))) (by decide) (t := .int) (t' := (.array .int)) (by decide) (by decide)))
  have EX_4 := EX_3.wr W4
  have Vk_4 := Vk_3.other W4 (Ne.symm nak)
  have Vn_4 := Vn_3.other W4 (Ne.symm nan)
  have Vkb_4 := Vkb.other W4 (Ne.symm ne_a1_kb)
  have sz4 := Nat.le_trans sz3 (Keep.of_wr W4).1
  have K4 := K3.wr W4 (Or.inl (List.mem_of_getElem? (i := 0) rfl))
  have N4 := Fr.snoc X4 N0 fr_a1
  refine own_st st4 ?_
  show own_Go p e below s _ _ _ (T4.setTop (mkF m 20 #[.val (.ref a1), .val (.ref ka), .val (.ref na), .unset, .unset] []))
  refine own_st (fun _ kont => XS.aloadN X4.here hx rfl (hb hby own_d3_20) rfl rfl kont) ?_
  show own_Go p e below s _ _ _ (T4.setTop (mkF m 21 #[.val (.ref a1), .val (.ref ka), .val (.ref na), .unset, .unset] [(.ref a1)]))
  refine own_st (fun _ kont => XS.aloadN X4.here hx rfl (hb hby own_d3_21) rfl rfl kont) ?_
  show own_Go p e below s _ _ _ (T4.setTop (mkF m 22 #[.val (.ref a1), .val (.ref ka), .val (.ref na), .unset, .unset] [(.ref a1), (.ref a1)]))
  obtain ⟨T5, X5, e5, st5⟩ := getF X4 hx hZ hown (host := "") (Or.inl (hw _ (List.mem_of_getElem? (i := 11) rfl))) Via.refl e4 Fk_4 (g := (mkF m 22 #[.val (.ref a1), .val (.ref ka), .val (.ref na), .unset, .unset] [(.ref a1), (.ref a1)])) rfl rfl (hb hby own_d3_22)
  refine own_st st5 ?_
  show own_Go p e below s _ _ _ (T5.setTop (mkF m 25 #[.val (.ref a1), .val (.ref ka), .val (.ref na), .unset, .unset] [(.ref kb), (.ref a1)]))
  refine own_st (own_len X5 hx hZ e5 Vkb_4 (z := (32 : Int32)) (by decide) (g := (mkF m 25 #[.val (.ref a1), .val (.ref ka), .val (.ref na), .unset, .unset] [(.ref kb), (.ref a1)])) rfl rfl (hb hby own_d3_25)) ?_
  show own_Go p e below s _ _ _ (T5.setTop (mkF m 26 #[.val (.ref a1), .val (.ref ka), .val (.ref na), .unset, .unset] [(.int (32 : Int32)), (.ref a1)]))
  obtain ⟨T6, h6, nb, g6, X6, e6, E6, Vnb, st6⟩ := own_newA X5 hx hZ (hw _ (List.mem_of_getElem? (i := 1) rfl)) e5 (g := (mkF m 26 #[.val (.ref a1), .val (.ref ka), .val (.ref na), .unset, .unset] [(.int (32 : Int32)), (.ref a1)])) rfl (hb hby own_d3_26) rfl (n := 32) (cap := 32) (by decide) (by decide) (by decide) (by decide) (by decide)
  replace Vnb : own_Av Z h6 nb .int 32 (fun _ => .int 0) := Vnb
  have ne_a1_nb : a1 ≠ nb := Nat.ne_of_lt (Nat.lt_of_lt_of_eq Fn_4.lt g6.symm)
  have ne_ka_nb : ka ≠ nb := Nat.ne_of_lt (Nat.lt_of_lt_of_eq Vk_4.lt g6.symm)
  have ne_na_nb : na ≠ nb := Nat.ne_of_lt (Nat.lt_of_lt_of_eq Vn_4.lt g6.symm)
  have ne_kb_nb : kb ≠ nb := Nat.ne_of_lt (Nat.lt_of_lt_of_eq Vkb_4.lt g6.symm)
  have fr_nb : n0 ≤ nb := Nat.le_trans sz4 (Nat.le_of_eq g6.symm)
  have sk_nb : h0.size ≤ nb := Nat.le_trans K4.1 (Nat.le_of_eq g6.symm)
  have Fn_6 := Fn_4.ext E6
  have Fs_6 := Fs_4.ext E6
  have Fz_6 := Fz_4.ext E6
  have EX_6 := EX_4.ext E6
  have Vk_6 := Vk_4.ext E6
  have Vn_6 := Vn_4.ext E6
  have Vkb_6 := Vkb_4.ext E6
  have Fk_6 := Fk_4.ext E6
  have sz6 := Nat.le_trans sz4 E6.1
  have K6 := K4.ext E6
  refine own_st st6 ?_
  show own_Go p e below s _ _ _ (T6.setTop (mkF m 28 #[.val (.ref a1), .val (.ref ka), .val (.ref na), .unset, .unset] [(.ref nb), (.ref a1)]))
  obtain ⟨T7, h7, X7, e7, W7, st7⟩ := putF X6 hx hZ hown (host := "") (Or.inl (hw _ (List.mem_of_getElem? (i := 13) rfl))) Via.refl e6 Fn_6 EX_6 (Or.inl (hw _ (List.mem_of_getElem? (i := 14) rfl))) (hw _ (List.mem_of_getElem? (i := 3) rfl)) (ty := (.array .int)) (by decide) rfl rfl (g := (mkF m 28 #[.val (.ref a1), .val (.ref ka), .val (.ref na), .unset, .unset] [(.ref nb), (.ref a1)])) rfl rfl (hb hby own_d3_28)
  have Fn_7 := Fn_6.same W7
  have Fs_7 := Fs_6.other W7 (Or.inr (slot_ne (Or.inl (hw _ (List.mem_of_getElem? (i := 16) rfl))) (Or.inl (hw _ (List.mem_of_getElem? (i := 14) rfl))) (by decide) (t := .int) (t' := (.array .int)) (by decide) (by decide)))
  have Fz_7 := Fz_6.other W7 (Or.inr (slot_ne (Or.inl (hw _ (List.mem_of_getElem? (i := 28) rfl))) (Or.inl (hw _ (List.mem_of_getElem? (i := 14) rfl))) (by decide) (t := .int) (t' := (.array .int)) (by decide) (by decide)))
  have EX_7 := EX_6.wr W7
  have Vk_7 := Vk_6.other W7 (Ne.symm nak)
  have Vn_7 := Vn_6.other W7 (Ne.symm nan)
  have Vkb_7 := Vkb_6.other W7 (Ne.symm ne_a1_kb)
  have Fk_7 := Fk_6.other W7 (Or.inr (slot_ne (Or.inl (hw _ (List.mem_of_getElem? (i := 12) rfl))) (Or.inl (hw _ (List.mem_of_getElem? (i := 14) rfl))) (by decide) (t := (.array .int)) (t' := (.array .int)) (by decide) (by decide)))
  have Vnb_7 := Vnb.other W7 (Ne.symm ne_a1_nb)
  have sz7 := Nat.le_trans sz6 (Keep.of_wr W7).1
  have K7 := K6.wr W7 (Or.inl (List.mem_of_getElem? (i := 0) rfl))
  have N7 := Fr.snoc X7 N4 fr_a1
  refine own_st st7 ?_
  show own_Go p e below s _ _ _ (T7.setTop (mkF m 31 #[.val (.ref a1), .val (.ref ka), .val (.ref na), .unset, .unset] []))
  refine own_st (fun _ kont => XS.aloadN X7.here hx rfl (hb hby own_d3_31) rfl rfl kont) ?_
  show own_Go p e below s _ _ _ (T7.setTop (mkF m 32 #[.val (.ref a1), .val (.ref ka), .val (.ref na), .unset, .unset] [(.ref a1)]))
  refine own_st (fun _ kont => XS.dup X7.here hx rfl (hb hby own_d3_32) rfl rfl kont) ?_
  show own_Go p e below s _ _ _ (T7.setTop (mkF m 33 #[.val (.ref a1), .val (.ref ka), .val (.ref na), .unset, .unset] [(.ref a1), (.ref a1)]))
  obtain ⟨T8, X8, e8, st8⟩ := getF X7 hx hZ hown (host := "") (Or.inl (hw _ (List.mem_of_getElem? (i := 15) rfl))) Via.refl e7 Fs_7 (g := (mkF m 33 #[.val (.ref a1), .val (.ref ka), .val (.ref na), .unset, .unset] [(.ref a1), (.ref a1)])) rfl rfl (hb hby own_d3_33)
  refine own_st st8 ?_
  show own_Go p e below s _ _ _ (T8.setTop (mkF m 36 #[.val (.ref a1), .val (.ref ka), .val (.ref na), .unset, .unset] [(.int (28 : Int32)), (.ref a1)]))
  refine own_st (fun _ kont => XS.iconst X8.here hx rfl (hb hby own_d3_36) kont) ?_
  show own_Go p e below s _ _ _ (T8.setTop (mkF m 37 #[.val (.ref a1), .val (.ref ka), .val (.ref na), .unset, .unset] [(.int (1 : Int32)), (.int (28 : Int32)), (.ref a1)]))
  refine own_st (fun _ kont => XS.isub X8.here hx rfl (hb hby own_d3_37) rfl kont) ?_
  show own_Go p e below s _ _ _ (T8.setTop (mkF m 38 #[.val (.ref a1), .val (.ref ka), .val (.ref na), .unset, .unset] [(.int (27 : Int32)), (.ref a1)]))
  obtain ⟨T9, h9, X9, e9, W9, st9⟩ := putF X8 hx hZ hown (host := "") (Or.inl (hw _ (List.mem_of_getElem? (i := 15) rfl))) Via.refl e8 Fs_7 EX_7 (Or.inl (hw _ (List.mem_of_getElem? (i := 16) rfl))) (hw _ (List.mem_of_getElem? (i := 3) rfl)) (ty := .int) (by decide) rfl rfl (g := (mkF m 38 #[.val (.ref a1), .val (.ref ka), .val (.ref na), .unset, .unset] [(.int (27 : Int32)), (.ref a1)])) rfl rfl (hb hby own_d3_38)
  have Fs_9 := Fs_7.same W9
  have Fz_9 := Fz_7.other W9 (Or.inr (slot_ne (Or.inl (hw _ (List.mem_of_getElem? (i := 28) rfl))) (Or.inl (hw _ (List.mem_of_getElem? (i := 16) rfl))) (by decide) (t := .int) (t' := .int) (by decide) (by decide)))
  have EX_9 := EX_7.wr W9
  have Vk_9 := Vk_7.other W9 (Ne.symm nak)
  have Vn_9 := Vn_7.other W9 (Ne.symm nan)
  have Vkb_9 := Vkb_7.other W9 (Ne.symm ne_a1_kb)
  have Fk_9 := Fk_7.other W9 (Or.inr (slot_ne (Or.inl (hw _ (List.mem_of_getElem? (i := 12) rfl))) (Or.inl (hw _ (List.mem_of_getElem? (i := 16) rfl))) (by decide) (t := (.array .int)) (t' := .int) (by decide) (by decide)))
  have Vnb_9 := Vnb_7.other W9 (Ne.symm ne_a1_nb)
  have Fn_9 := Fn_7.other W9 (Or.inr (slot_ne (Or.inl (hw _ (List.mem_of_getElem? (i := 14) rfl))) (Or.inl (hw _ (List.mem_of_getElem? (i := 16) rfl))) (by decide) (t := (.array .int)) (t' := .int) (by decide) (by decide)))
  have sz9 := Nat.le_trans sz7 (Keep.of_wr W9).1
  have K9 := K7.wr W9 (Or.inl (List.mem_of_getElem? (i := 0) rfl))
  have N9 := Fr.snoc X9 N7 fr_a1
  refine own_st st9 ?_
  show own_Go p e below s _ _ _ (T9.setTop (mkF m 41 #[.val (.ref a1), .val (.ref ka), .val (.ref na), .unset, .unset] []))
  refine own_st (fun _ kont => XS.iconst X9.here hx rfl (hb hby own_d3_41) kont) ?_
  show own_Go p e below s _ _ _ (T9.setTop (mkF m 42 #[.val (.ref a1), .val (.ref ka), .val (.ref na), .unset, .unset] [(.int (0 : Int32))]))
  refine own_st (fun _ kont => XS.istoreN X9.here hx rfl (hb hby own_d3_42) rfl (l' := #[.val (.ref a1), .val (.ref ka), .val (.ref na), .val (.int (0 : Int32)), .unset]) rfl kont) ?_
  show own_Go p e below s _ _ _ (T9.setTop (mkF m 43 #[.val (.ref a1), .val (.ref ka), .val (.ref na), .val (.int (0 : Int32)), .unset] []))
  have loop : ∀ (r i : Nat) (ci : Int32) (s4 : Slot) (Tl : State) (Ll : List Loc) (kg ng : Nat → Int32), i + r = 16 → ci.toInt = (i : Int) → One s4 → Stand p l e ({ frames := 1, cells := 2, slots := 64, locals := 15 } : Room) s m #[(.ref a1)] below meth c Tl Ll 2 64 → Fr n0 Ll → Keep h0 Tl.heap [a1] → n0 ≤ Tl.heap.size → Exa Z Tl.heap a1 "com/example/hop_gate/hopgate/UserIndex" → Fld Z Tl.heap a1 "com/example/hop_gate/hopgate/UserIndex" "keys" "[I" (.ref kb) → Fld Z Tl.heap a1 "com/example/hop_gate/hopgate/UserIndex" "numbers" "[I" (.ref nb) → Fld Z Tl.heap a1 "com/example/hop_gate/hopgate/UserIndex" "shift" "I" (.int 27) → Fld Z Tl.heap a1 "com/example/hop_gate/hopgate/UserIndex" "size" "I" (.int sz) → own_Av Z Tl.heap ka .int 16 (fun t => .int (kf t)) → own_Av Z Tl.heap na .int 16 (fun t => .int (nf t)) → own_Av Z Tl.heap kb .int 32 (fun t => .int (kg t)) → own_Av Z Tl.heap nb .int 32 (fun t => .int (ng t)) → own_T 32 own_ht kg ng (own_Si kf nf i) → 32 ≤ own_zero kg 32 + i → own_Go p e below s (fun v h' L => ∃ (kb nb : Addr) (kg ng : Nat → Int32), v = none ∧ Fr n0 L ∧ Keep h0 h' [a1] ∧ Fld Z h' a1 "com/example/hop_gate/hopgate/UserIndex" "keys" "[I" (.ref kb) ∧ Fld Z h' a1 "com/example/hop_gate/hopgate/UserIndex" "numbers" "[I" (.ref nb) ∧ Fld Z h' a1 "com/example/hop_gate/hopgate/UserIndex" "shift" "I" (.int 27) ∧ Fld Z h' a1 "com/example/hop_gate/hopgate/UserIndex" "size" "I" (.int sz) ∧ own_Av Z h' kb .int 32 (fun t => .int (kg t)) ∧ own_Av Z h' nb .int 32 (fun t => .int (ng t)) ∧ own_T 32 own_ht kg ng S ∧ 32 ≤ own_zero kg 32 + 16 ∧ h0.size ≤ kb ∧ h0.size ≤ nb ∧ kb ≠ nb) ({ frames := 1, cells := 2, slots := 64, locals := 15 } : Room).cells ({ frames := 1, cells := 2, slots := 64, locals := 15 } : Room).slots (Tl.setTop (mkF m 43 #[.val (.ref a1), .val (.ref ka), .val (.ref na), .val (.int ci), s4] [])) := by
    intro r
    induction r with
    | zero =>
      intro i ci s4 Tl Ll kg ng hr hci hs4 Xl Nl Kl szl EXl Fkl Fnl Fsl Fzl Val Vnl Vbl Vml HG hzg
      show own_Go p e below s _ _ _ (Tl.setTop (mkF m 43 #[.val (.ref a1), .val (.ref ka), .val (.ref na), .val (.int ci), s4] []))
      refine own_st (fun _ kont => XS.iloadN Xl.here hx rfl (hb hby own_d3_43) rfl kont) ?_
      show own_Go p e below s _ _ _ (Tl.setTop (mkF m 44 #[.val (.ref a1), .val (.ref ka), .val (.ref na), .val (.int ci), s4] [(.int ci)]))
      refine own_st (fun _ kont => XS.aloadN Xl.here hx rfl (hb hby own_d3_44) rfl rfl kont) ?_
      show own_Go p e below s _ _ _ (Tl.setTop (mkF m 45 #[.val (.ref a1), .val (.ref ka), .val (.ref na), .val (.int ci), s4] [(.ref ka), (.int ci)]))
      refine own_st (own_len Xl hx hZ (rfl : Tl.heap = Tl.heap) Val (z := (16 : Int32)) (by decide) (g := (mkF m 45 #[.val (.ref a1), .val (.ref ka), .val (.ref na), .val (.int ci), s4] [(.ref ka), (.int ci)])) rfl rfl (hb hby own_d3_45)) ?_
      show own_Go p e below s _ _ _ (Tl.setTop (mkF m 46 #[.val (.ref a1), .val (.ref ka), .val (.ref na), .val (.int ci), s4] [(.int (16 : Int32)), (.int ci)]))
      refine own_st (fun _ kont => XS.icmpYes Xl.here hx rfl (pc0 := 46) (pc' := 92) rfl (hb hby own_d3_46) rfl (flt (fun q => by rw [own_lt32, hci] at q; have c6 : ((16 : Int32)).toInt = 16 := (by decide); omega)).2.1 (by decide) (by decide) kont) ?_
      show own_Go p e below s _ _ _ (Tl.setTop (mkF m 92 #[.val (.ref a1), .val (.ref ka), .val (.ref na), .val (.int ci), s4] []))
      exact own_endV Xl hx hlk hret (hb hby own_d3_92) ⟨kb, nb, kg, ng, rfl, Nl, Kl, Fkl, Fnl, Fsl, Fzl, Vbl, Vml, own_T_congr HG (fun a b => by rw [show i = 16 by omega]; exact own_Si_all (by omega) HT a b), by omega, sk_kb, sk_nb, ne_kb_nb⟩ (by decide) (by decide)
    | succ r ih =>
      intro i ci s4 Tl Ll kg ng hr hci hs4 Xl Nl Kl szl EXl Fkl Fnl Fsl Fzl Val Vnl Vbl Vml HG hzg
      show own_Go p e below s _ _ _ (Tl.setTop (mkF m 43 #[.val (.ref a1), .val (.ref ka), .val (.ref na), .val (.int ci), s4] []))
      refine own_st (fun _ kont => XS.iloadN Xl.here hx rfl (hb hby own_d3_43) rfl kont) ?_
      show own_Go p e below s _ _ _ (Tl.setTop (mkF m 44 #[.val (.ref a1), .val (.ref ka), .val (.ref na), .val (.int ci), s4] [(.int ci)]))
      refine own_st (fun _ kont => XS.aloadN Xl.here hx rfl (hb hby own_d3_44) rfl rfl kont) ?_
      show own_Go p e below s _ _ _ (Tl.setTop (mkF m 45 #[.val (.ref a1), .val (.ref ka), .val (.ref na), .val (.int ci), s4] [(.ref ka), (.int ci)]))
      refine own_st (own_len Xl hx hZ (rfl : Tl.heap = Tl.heap) Val (z := (16 : Int32)) (by decide) (g := (mkF m 45 #[.val (.ref a1), .val (.ref ka), .val (.ref na), .val (.int ci), s4] [(.ref ka), (.int ci)])) rfl rfl (hb hby own_d3_45)) ?_
      show own_Go p e below s _ _ _ (Tl.setTop (mkF m 46 #[.val (.ref a1), .val (.ref ka), .val (.ref na), .val (.int ci), s4] [(.int (16 : Int32)), (.int ci)]))
      refine own_st (fun _ kont => XS.icmpNo Xl.here hx rfl (hb hby own_d3_46) rfl (tlt (own_lt32.mpr (by rw [hci]; show (i : Int) < 16; omega))).2.1 kont) ?_
      show own_Go p e below s _ _ _ (Tl.setTop (mkF m 49 #[.val (.ref a1), .val (.ref ka), .val (.ref na), .val (.int ci), s4] []))
      refine own_st (fun _ kont => XS.aloadN Xl.here hx rfl (hb hby own_d3_49) rfl rfl kont) ?_
      show own_Go p e below s _ _ _ (Tl.setTop (mkF m 50 #[.val (.ref a1), .val (.ref ka), .val (.ref na), .val (.int ci), s4] [(.ref ka)]))
      refine own_st (fun _ kont => XS.iloadN Xl.here hx rfl (hb hby own_d3_50) rfl kont) ?_
      show own_Go p e below s _ _ _ (Tl.setTop (mkF m 51 #[.val (.ref a1), .val (.ref ka), .val (.ref na), .val (.int ci), s4] [(.int ci), (.ref ka)]))
      refine own_st (own_ldI Xl hx hZ (rfl : Tl.heap = Tl.heap) Val (i := i) hci (by omega) (v := (.int (kf i))) rfl (g := (mkF m 51 #[.val (.ref a1), .val (.ref ka), .val (.ref na), .val (.int ci), s4] [(.int ci), (.ref ka)])) rfl rfl (hb hby own_d3_51)) ?_
      show own_Go p e below s _ _ _ (Tl.setTop (mkF m 52 #[.val (.ref a1), .val (.ref ka), .val (.ref na), .val (.int ci), s4] [(.int (kf i))]))
      rcases Classical.em ((kf i) = (0 : Int32)) with c1 | c1
      · show own_Go p e below s _ _ _ (Tl.setTop (mkF m 52 #[.val (.ref a1), .val (.ref ka), .val (.ref na), .val (.int ci), s4] [(.int (kf i))]))
        refine own_st (fun _ kont => XS.ifYes Xl.here hx rfl (pc0 := 52) (pc' := 86) rfl (hb hby own_d3_52) rfl ((if0 _ _).trans (teq c1).1) (by decide) (by decide) kont) ?_
        show own_Go p e below s _ _ _ (Tl.setTop (mkF m 86 #[.val (.ref a1), .val (.ref ka), .val (.ref na), .val (.int ci), s4] []))
        refine own_st (fun _ kont => XS.iinc Xl.here hx rfl (hb hby own_d3_86) rfl (l' := #[.val (.ref a1), .val (.ref ka), .val (.ref na), .val (.int (ci + (1 : Int32))), s4]) rfl kont) ?_
        show own_Go p e below s _ _ _ (Tl.setTop (mkF m 89 #[.val (.ref a1), .val (.ref ka), .val (.ref na), .val (.int (ci + (1 : Int32))), s4] []))
        refine own_st (fun _ kont => XS.goto Xl.here hx rfl (pc0 := 89) (pc' := 43) rfl (hb hby own_d3_89) (by decide) (by decide) kont) ?_
        show own_Go p e below s _ _ _ (Tl.setTop (mkF m 43 #[.val (.ref a1), .val (.ref ka), .val (.ref na), .val (.int (ci + (1 : Int32))), s4] []))
        exact ih (i + 1) _ _ _ _ kg ng (by omega) (own_addN hci (by decide) (by omega)) hs4 Xl Nl Kl szl EXl Fkl Fnl Fsl Fzl Val Vnl Vbl Vml (own_T_congr HG (own_Si_skip c1)) (by omega)
      · show own_Go p e below s _ _ _ (Tl.setTop (mkF m 52 #[.val (.ref a1), .val (.ref ka), .val (.ref na), .val (.int ci), s4] [(.int (kf i))]))
        refine own_st (fun _ kont => XS.ifNo Xl.here hx rfl (hb hby own_d3_52) rfl ((if0 _ _).trans (feq c1).1) kont) ?_
        show own_Go p e below s _ _ _ (Tl.setTop (mkF m 55 #[.val (.ref a1), .val (.ref ka), .val (.ref na), .val (.int ci), s4] []))
        refine own_st (fun _ kont => XS.aloadN Xl.here hx rfl (hb hby own_d3_55) rfl rfl kont) ?_
        show own_Go p e below s _ _ _ (Tl.setTop (mkF m 56 #[.val (.ref a1), .val (.ref ka), .val (.ref na), .val (.int ci), s4] [(.ref a1)]))
        refine own_st (fun _ kont => XS.aloadN Xl.here hx rfl (hb hby own_d3_56) rfl rfl kont) ?_
        show own_Go p e below s _ _ _ (Tl.setTop (mkF m 57 #[.val (.ref a1), .val (.ref ka), .val (.ref na), .val (.int ci), s4] [(.ref ka), (.ref a1)]))
        refine own_st (fun _ kont => XS.iloadN Xl.here hx rfl (hb hby own_d3_57) rfl kont) ?_
        show own_Go p e below s _ _ _ (Tl.setTop (mkF m 58 #[.val (.ref a1), .val (.ref ka), .val (.ref na), .val (.int ci), s4] [(.int ci), (.ref ka), (.ref a1)]))
        refine own_st (own_ldI Xl hx hZ (rfl : Tl.heap = Tl.heap) Val (i := i) hci (by omega) (v := (.int (kf i))) rfl (g := (mkF m 58 #[.val (.ref a1), .val (.ref ka), .val (.ref na), .val (.int ci), s4] [(.int ci), (.ref ka), (.ref a1)])) rfl rfl (hb hby own_d3_58)) ?_
        show own_Go p e below s _ _ _ (Tl.setTop (mkF m 59 #[.val (.ref a1), .val (.ref ka), .val (.ref na), .val (.int ci), s4] [(.int (kf i)), (.ref a1)]))
        refine own_st (fun _ kont => XS.iconst Xl.here hx rfl (hb hby own_d3_59) kont) ?_
        show own_Go p e below s _ _ _ (Tl.setTop (mkF m 60 #[.val (.ref a1), .val (.ref ka), .val (.ref na), .val (.int ci), s4] [(.int (1 : Int32)), (.int (kf i)), (.ref a1)]))
        refine own_st (fun _ kont => XS.isub Xl.here hx rfl (hb hby own_d3_60) rfl kont) ?_
        show own_Go p e below s _ _ _ (Tl.setTop (mkF m 61 #[.val (.ref a1), .val (.ref ka), .val (.ref na), .val (.int ci), s4] [(.int ((kf i) - (1 : Int32))), (.ref a1)]))
        obtain ⟨z, hzl, hz0⟩ := own_zero_pos (kf := kg) (n := 32) (by omega)
        refine own_cP Xl hx hml hZ hown (hw _ (List.mem_of_getElem? (i := 22) rfl)) (hw _ (List.mem_of_getElem? (i := 23) rfl)) (hw _ (List.mem_of_getElem? (i := 24) rfl)) (hw _ (List.mem_of_getElem? (i := 3) rfl)) (hw _ (List.mem_of_getElem? (i := 4) rfl)) (hw _ (List.mem_of_getElem? (i := 25) rfl)) (by decide) (own_rm5 l Z a0 hw a1 ((kf i) - (1 : Int32)) kb kg z Tl.heap n0 szl Vbl Fkl Fsl hzl hz0) (rfl : Tl.heap = Tl.heap) EXl (by decide) (W := 0) (by decide) (g := (mkF m 61 #[.val (.ref a1), .val (.ref ka), .val (.ref na), .val (.int ci), s4] [(.int ((kf i) - (1 : Int32))), (.ref a1)])) rfl rfl own_pd0 (argsL := [(.int ((kf i) - (1 : Int32)))]) (rest := []) rfl rfl rfl (by show 2 * 0 + _ ≤ _; exact Nat.le_of_eq rfl) (hb hby own_d3_61) (by decide) (by decide) ?_
        intro T10 L10 v10 X10 hQ10
        obtain ⟨⟨zr, ri, rfl, hzr, hri, hpl⟩, eh10, le10⟩ := hQ10
        have N10 := own_nil Nl le10
        show own_Go p e below s _ _ _ (T10.setTop (mkF m 64 #[.val (.ref a1), .val (.ref ka), .val (.ref na), .val (.int ci), s4] [(.int zr)]))
        refine own_st (fun _ kont => XS.istore X10.here hx rfl (hb hby own_d3_64) rfl (l' := #[.val (.ref a1), .val (.ref ka), .val (.ref na), .val (.int ci), .val (.int zr)]) (XS.store1 (o := s4) rfl hs4 rfl) kont) ?_
        show own_Go p e below s _ _ _ (T10.setTop (mkF m 66 #[.val (.ref a1), .val (.ref ka), .val (.ref na), .val (.int ci), .val (.int zr)] []))
        refine own_st (fun _ kont => XS.aloadN X10.here hx rfl (hb hby own_d3_66) rfl rfl kont) ?_
        show own_Go p e below s _ _ _ (T10.setTop (mkF m 67 #[.val (.ref a1), .val (.ref ka), .val (.ref na), .val (.int ci), .val (.int zr)] [(.ref a1)]))
        obtain ⟨T11, X11, e11, st11⟩ := getF X10 hx hZ hown (host := "") (Or.inl (hw _ (List.mem_of_getElem? (i := 11) rfl))) Via.refl eh10 Fkl (g := (mkF m 67 #[.val (.ref a1), .val (.ref ka), .val (.ref na), .val (.int ci), .val (.int zr)] [(.ref a1)])) rfl rfl (hb hby own_d3_67)
        refine own_st st11 ?_
        show own_Go p e below s _ _ _ (T11.setTop (mkF m 70 #[.val (.ref a1), .val (.ref ka), .val (.ref na), .val (.int ci), .val (.int zr)] [(.ref kb)]))
        refine own_st (fun _ kont => XS.iload X11.here hx rfl (hb hby own_d3_70) rfl kont) ?_
        show own_Go p e below s _ _ _ (T11.setTop (mkF m 72 #[.val (.ref a1), .val (.ref ka), .val (.ref na), .val (.int ci), .val (.int zr)] [(.int zr), (.ref kb)]))
        refine own_st (fun _ kont => XS.aloadN X11.here hx rfl (hb hby own_d3_72) rfl rfl kont) ?_
        show own_Go p e below s _ _ _ (T11.setTop (mkF m 73 #[.val (.ref a1), .val (.ref ka), .val (.ref na), .val (.int ci), .val (.int zr)] [(.ref ka), (.int zr), (.ref kb)]))
        refine own_st (fun _ kont => XS.iloadN X11.here hx rfl (hb hby own_d3_73) rfl kont) ?_
        show own_Go p e below s _ _ _ (T11.setTop (mkF m 74 #[.val (.ref a1), .val (.ref ka), .val (.ref na), .val (.int ci), .val (.int zr)] [(.int ci), (.ref ka), (.int zr), (.ref kb)]))
        refine own_st (own_ldI X11 hx hZ e11 Val (i := i) hci (by omega) (v := (.int (kf i))) rfl (g := (mkF m 74 #[.val (.ref a1), .val (.ref ka), .val (.ref na), .val (.int ci), .val (.int zr)] [(.int ci), (.ref ka), (.int zr), (.ref kb)])) rfl rfl (hb hby own_d3_74)) ?_
        show own_Go p e below s _ _ _ (T11.setTop (mkF m 75 #[.val (.ref a1), .val (.ref ka), .val (.ref na), .val (.int ci), .val (.int zr)] [(.int (kf i)), (.int zr), (.ref kb)]))
        obtain ⟨T12, h12, X12, e12, W12, Vbl_12, st12⟩ := own_stI X11 hx hZ e11 Vbl (i := ri) hzr hri (g := (mkF m 75 #[.val (.ref a1), .val (.ref ka), .val (.ref na), .val (.int ci), .val (.int zr)] [(.int (kf i)), (.int zr), (.ref kb)])) rfl rfl (hb hby own_d3_75)
        have Fkl_12 := Fkl.other W12 (Or.inl ne_a1_kb)
        have Fnl_12 := Fnl.other W12 (Or.inl ne_a1_kb)
        have Fsl_12 := Fsl.other W12 (Or.inl ne_a1_kb)
        have Fzl_12 := Fzl.other W12 (Or.inl ne_a1_kb)
        have EXl_12 := EXl.wr W12
        have Val_12 := Val.other W12 ne_ka_kb
        have Vnl_12 := Vnl.other W12 ne_na_kb
        have Vml_12 := Vml.other W12 (Ne.symm ne_kb_nb)
        have sz12 := Nat.le_trans szl (Keep.of_wr W12).1
        have K12 := Kl.wr W12 (Or.inr sk_kb)
        have N12 := Fr.snoc X12 N10 fr_kb
        refine own_st st12 ?_
        show own_Go p e below s _ _ _ (T12.setTop (mkF m 76 #[.val (.ref a1), .val (.ref ka), .val (.ref na), .val (.int ci), .val (.int zr)] []))
        refine own_st (fun _ kont => XS.aloadN X12.here hx rfl (hb hby own_d3_76) rfl rfl kont) ?_
        show own_Go p e below s _ _ _ (T12.setTop (mkF m 77 #[.val (.ref a1), .val (.ref ka), .val (.ref na), .val (.int ci), .val (.int zr)] [(.ref a1)]))
        obtain ⟨T13, X13, e13, st13⟩ := getF X12 hx hZ hown (host := "") (Or.inl (hw _ (List.mem_of_getElem? (i := 13) rfl))) Via.refl e12 Fnl_12 (g := (mkF m 77 #[.val (.ref a1), .val (.ref ka), .val (.ref na), .val (.int ci), .val (.int zr)] [(.ref a1)])) rfl rfl (hb hby own_d3_77)
        refine own_st st13 ?_
        show own_Go p e below s _ _ _ (T13.setTop (mkF m 80 #[.val (.ref a1), .val (.ref ka), .val (.ref na), .val (.int ci), .val (.int zr)] [(.ref nb)]))
        refine own_st (fun _ kont => XS.iload X13.here hx rfl (hb hby own_d3_80) rfl kont) ?_
        show own_Go p e below s _ _ _ (T13.setTop (mkF m 82 #[.val (.ref a1), .val (.ref ka), .val (.ref na), .val (.int ci), .val (.int zr)] [(.int zr), (.ref nb)]))
        refine own_st (fun _ kont => XS.aloadN X13.here hx rfl (hb hby own_d3_82) rfl rfl kont) ?_
        show own_Go p e below s _ _ _ (T13.setTop (mkF m 83 #[.val (.ref a1), .val (.ref ka), .val (.ref na), .val (.int ci), .val (.int zr)] [(.ref na), (.int zr), (.ref nb)]))
        refine own_st (fun _ kont => XS.iloadN X13.here hx rfl (hb hby own_d3_83) rfl kont) ?_
        show own_Go p e below s _ _ _ (T13.setTop (mkF m 84 #[.val (.ref a1), .val (.ref ka), .val (.ref na), .val (.int ci), .val (.int zr)] [(.int ci), (.ref na), (.int zr), (.ref nb)]))
        refine own_st (own_ldI X13 hx hZ e13 Vnl_12 (i := i) hci (by omega) (v := (.int (nf i))) rfl (g := (mkF m 84 #[.val (.ref a1), .val (.ref ka), .val (.ref na), .val (.int ci), .val (.int zr)] [(.int ci), (.ref na), (.int zr), (.ref nb)])) rfl rfl (hb hby own_d3_84)) ?_
        show own_Go p e below s _ _ _ (T13.setTop (mkF m 85 #[.val (.ref a1), .val (.ref ka), .val (.ref na), .val (.int ci), .val (.int zr)] [(.int (nf i)), (.int zr), (.ref nb)]))
        obtain ⟨T14, h14, X14, e14, W14, Vml_14, st14⟩ := own_stI X13 hx hZ e13 Vml_12 (i := ri) hzr hri (g := (mkF m 85 #[.val (.ref a1), .val (.ref ka), .val (.ref na), .val (.int ci), .val (.int zr)] [(.int (nf i)), (.int zr), (.ref nb)])) rfl rfl (hb hby own_d3_85)
        have Fkl_14 := Fkl_12.other W14 (Or.inl ne_a1_nb)
        have Fnl_14 := Fnl_12.other W14 (Or.inl ne_a1_nb)
        have Fsl_14 := Fsl_12.other W14 (Or.inl ne_a1_nb)
        have Fzl_14 := Fzl_12.other W14 (Or.inl ne_a1_nb)
        have EXl_14 := EXl_12.wr W14
        have Val_14 := Val_12.other W14 ne_ka_nb
        have Vnl_14 := Vnl_12.other W14 ne_na_nb
        have Vbl_14 := Vbl_12.other W14 ne_kb_nb
        have sz14 := Nat.le_trans sz12 (Keep.of_wr W14).1
        have K14 := K12.wr W14 (Or.inr sk_nb)
        have N14 := Fr.snoc X14 N12 fr_nb
        refine own_st st14 ?_
        show own_Go p e below s _ _ _ (T14.setTop (mkF m 86 #[.val (.ref a1), .val (.ref ka), .val (.ref na), .val (.int ci), .val (.int zr)] []))
        refine own_st (fun _ kont => XS.iinc X14.here hx rfl (hb hby own_d3_86) rfl (l' := #[.val (.ref a1), .val (.ref ka), .val (.ref na), .val (.int (ci + (1 : Int32))), .val (.int zr)]) rfl kont) ?_
        show own_Go p e below s _ _ _ (T14.setTop (mkF m 89 #[.val (.ref a1), .val (.ref ka), .val (.ref na), .val (.int (ci + (1 : Int32))), .val (.int zr)] []))
        refine own_st (fun _ kont => XS.goto X14.here hx rfl (pc0 := 89) (pc' := 43) rfl (hb hby own_d3_89) (by decide) (by decide) kont) ?_
        show own_Go p e below s _ _ _ (T14.setTop (mkF m 43 #[.val (.ref a1), .val (.ref ka), .val (.ref na), .val (.int (ci + (1 : Int32))), .val (.int zr)] []))
        have hno := own_Si_no HT (i := i) (by omega) c1
        have hins := own_T_ins (n := nf i) (by omega) HG hno (by rw [own_sa]; exact c1) hpl
        rw [own_sa] at hins
        have hz32 := own_T_miss (by omega) HG hno hpl
        have hzs := own_zero_set (n := 32) (k := kf i) hri hz32 c1
        exact ih (i + 1) _ _ _ _ _ _ (by omega) (own_addN hci (by decide) (by omega)) (Or.inr ⟨_, rfl, rfl⟩) X14 N14 (by rw [e14]; exact K14) (by rw [e14]; exact sz14) (by rw [e14]; exact EXl_14) (by rw [e14]; exact Fkl_14) (by rw [e14]; exact Fnl_14) (by rw [e14]; exact Fsl_14) (by rw [e14]; exact Fzl_14) (by rw [e14]; exact Val_14) (by rw [e14]; exact Vnl_14) (by rw [e14]; exact Vbl_14) (by rw [e14]; exact Vml_14) (own_T_congr hins (own_Si_more c1)) (by omega)
  show own_Go p e below s _ _ _ (T9.setTop (mkF m 43 #[.val (.ref a1), .val (.ref ka), .val (.ref na), .val (.int (0 : Int32)), .unset] []))
  exact loop 16 0 _ _ _ _ _ _ (by omega) (by decide) (Or.inl rfl) X9 N9 (by rw [e9]; exact K9) (by rw [e9]; exact sz9) (by rw [e9]; exact EX_9) (by rw [e9]; exact Fk_9) (by rw [e9]; exact Fn_9) (by rw [e9]; exact Fs_9) (by rw [e9]; exact Fz_9) (by rw [e9]; exact Vk_9) (by rw [e9]; exact Vn_9) (by rw [e9]; exact Vkb_9) (by rw [e9]; exact Vnb_9) own_Si_nil (by rw [own_zero_all]; omega)
theorem own_d4_0 : decode prog_59_method_4_code 0 = .ok (.aload_n 0, 1) := by decide +kernel
theorem own_d4_1 : decode prog_59_method_4_code 1 = .ok (.iload_n 1, 1) := by decide +kernel
theorem own_d4_2 : decode prog_59_method_4_code 2 = .ok (.invokevirtual 23, 3) := by decide +kernel
theorem own_d4_5 : decode prog_59_method_4_code 5 = .ok (.istore_n 2, 1) := by decide +kernel
theorem own_d4_6 : decode prog_59_method_4_code 6 = .ok (.aload_n 0, 1) := by decide +kernel
theorem own_d4_7 : decode prog_59_method_4_code 7 = .ok (.getfield 7, 3) := by decide +kernel
theorem own_d4_10 : decode prog_59_method_4_code 10 = .ok (.iload_n 2, 1) := by decide +kernel
theorem own_d4_11 : decode prog_59_method_4_code 11 = .ok (.iaload, 1) := by decide +kernel
theorem own_d4_12 : decode prog_59_method_4_code 12 = .ok (.ifCond .ne 52, 3) := by decide +kernel
theorem own_d4_15 : decode prog_59_method_4_code 15 = .ok (.aload_n 0, 1) := by decide +kernel
theorem own_d4_16 : decode prog_59_method_4_code 16 = .ok (.dup, 1) := by decide +kernel
theorem own_d4_17 : decode prog_59_method_4_code 17 = .ok (.getfield 20, 3) := by decide +kernel
theorem own_d4_20 : decode prog_59_method_4_code 20 = .ok (.dup_x1, 1) := by decide +kernel
theorem own_d4_21 : decode prog_59_method_4_code 21 = .ok (.iconst 1, 1) := by decide +kernel
theorem own_d4_22 : decode prog_59_method_4_code 22 = .ok (.iadd, 1) := by decide +kernel
theorem own_d4_23 : decode prog_59_method_4_code 23 = .ok (.putfield 20, 3) := by decide +kernel
theorem own_d4_26 : decode prog_59_method_4_code 26 = .ok (.istore_n 3, 1) := by decide +kernel
theorem own_d4_27 : decode prog_59_method_4_code 27 = .ok (.aload_n 0, 1) := by decide +kernel
theorem own_d4_28 : decode prog_59_method_4_code 28 = .ok (.getfield 7, 3) := by decide +kernel
theorem own_d4_31 : decode prog_59_method_4_code 31 = .ok (.iload_n 2, 1) := by decide +kernel
theorem own_d4_32 : decode prog_59_method_4_code 32 = .ok (.iload_n 1, 1) := by decide +kernel
theorem own_d4_33 : decode prog_59_method_4_code 33 = .ok (.iconst 1, 1) := by decide +kernel
theorem own_d4_34 : decode prog_59_method_4_code 34 = .ok (.iadd, 1) := by decide +kernel
theorem own_d4_35 : decode prog_59_method_4_code 35 = .ok (.iastore, 1) := by decide +kernel
theorem own_d4_36 : decode prog_59_method_4_code 36 = .ok (.aload_n 0, 1) := by decide +kernel
theorem own_d4_37 : decode prog_59_method_4_code 37 = .ok (.getfield 13, 3) := by decide +kernel
theorem own_d4_40 : decode prog_59_method_4_code 40 = .ok (.iload_n 2, 1) := by decide +kernel
theorem own_d4_41 : decode prog_59_method_4_code 41 = .ok (.iload_n 3, 1) := by decide +kernel
theorem own_d4_42 : decode prog_59_method_4_code 42 = .ok (.iastore, 1) := by decide +kernel
theorem own_d4_43 : decode prog_59_method_4_code 43 = .ok (.iconst 2, 1) := by decide +kernel
theorem own_d4_44 : decode prog_59_method_4_code 44 = .ok (.aload_n 0, 1) := by decide +kernel
theorem own_d4_45 : decode prog_59_method_4_code 45 = .ok (.getfield 20, 3) := by decide +kernel
theorem own_d4_48 : decode prog_59_method_4_code 48 = .ok (.imul, 1) := by decide +kernel
theorem own_d4_49 : decode prog_59_method_4_code 49 = .ok (.aload_n 0, 1) := by decide +kernel
theorem own_d4_50 : decode prog_59_method_4_code 50 = .ok (.getfield 7, 3) := by decide +kernel
theorem own_d4_53 : decode prog_59_method_4_code 53 = .ok (.arraylength, 1) := by decide +kernel
theorem own_d4_54 : decode prog_59_method_4_code 54 = .ok (.if_icmp .le 17, 3) := by decide +kernel
theorem own_d4_71 : decode prog_59_method_4_code 71 = .ok (.iload_n 3, 1) := by decide +kernel
theorem own_d4_72 : decode prog_59_method_4_code 72 = .ok (.ireturn, 1) := by decide +kernel
theorem own_pn4 : plainFor (⟨"com/example/hop_gate/hopgate/UserIndex", "add", "(I)I"⟩ : MethodName) = true := by first | exact plainFor_of_name (show plainName "com/example/hop_gate/hopgate/UserIndex" = true by first | (simp [plainName, overriddenIn]; done) | decide +kernel) | decide +kernel
theorem own_ef4 (m : MethodId) (x0 : Addr) (x1 : Int32) : entryFrame m #[(.ref x0), (.int x1)] 4 = mkF m 0 #[.val (.ref x0), .val (.int x1), .unset, .unset] [] := by first | (simp [entryFrame, mkF, argsToLocals, Value.category]; done) | rfl
set_option maxRecDepth 65536 in
set_option maxHeartbeats 40000000 in
theorem own_rm7 (l : Launch) (Z : State) (a0 : Array Value) (hw : ∀ d ∈ tables_1, d.before a0 Z = true) (a1 : Addr) (pu : Int32) (ka na : Addr) (kf nf : Nat → Int32) (S : Int32 → Int32 → Prop) (sz : Int32) (kk : Nat) (h0 : Heap) (n0 : Nat) (Z0 : n0 ≤ h0.size) (Vk : own_Av Z h0 ka .int 16 (fun t => .int (kf t))) (Vn : own_Av Z h0 na .int 16 (fun t => .int (nf t))) (Fk : Fld Z h0 a1 "com/example/hop_gate/hopgate/UserIndex" "keys" "[I" (.ref ka)) (Fn : Fld Z h0 a1 "com/example/hop_gate/hopgate/UserIndex" "numbers" "[I" (.ref na)) (Fs : Fld Z h0 a1 "com/example/hop_gate/hopgate/UserIndex" "shift" "I" (.int 28)) (Fz : Fld Z h0 a1 "com/example/hop_gate/hopgate/UserIndex" "size" "I" (.int sz)) (EX : Exa Z h0 a1 "com/example/hop_gate/hopgate/UserIndex") (HT : own_T 16 own_hs kf nf S) (hz : 16 ≤ own_zero kf 16 + kk) (hkk : kk < 16) (fr_a1 : n0 ≤ a1) (fr_ka : n0 ≤ ka) (fr_na : n0 ≤ na) (nak : a1 ≠ ka) (nan : a1 ≠ na) (nkn : ka ≠ na) (hno : ∀ n, ¬ S pu n) (hpu : pu + 1 ≠ 0) (hgr : ¬ (16 : Int32) < (2 : Int32) * (sz + (1 : Int32))) :
    own_Met l Z (⟨"com/example/hop_gate/hopgate/UserIndex", "add", "(I)I"⟩ : MethodName) prog_59_method_4_code 4 (some .int) ({ frames := 1, cells := 0, slots := 0, locals := 14 } : Room) #[(.ref a1), (.int pu)] h0 (fun v h' L => ∃ (kf' nf' : Nat → Int32), v = some (.int sz) ∧ Fr n0 L ∧ Keep h0 h' [a1, ka, na] ∧ Fld Z h' a1 "com/example/hop_gate/hopgate/UserIndex" "keys" "[I" (.ref ka) ∧ Fld Z h' a1 "com/example/hop_gate/hopgate/UserIndex" "numbers" "[I" (.ref na) ∧ Fld Z h' a1 "com/example/hop_gate/hopgate/UserIndex" "shift" "I" (.int 28) ∧ Fld Z h' a1 "com/example/hop_gate/hopgate/UserIndex" "size" "I" (.int (sz + (1 : Int32))) ∧ own_Av Z h' ka .int 16 (fun t => .int (kf' t)) ∧ own_Av Z h' na .int 16 (fun t => .int (nf' t)) ∧ own_T 16 own_hs kf' nf' (fun u n => S u n ∨ (u = pu ∧ n = sz)) ∧ 16 ≤ own_zero kf' 16 + (kk + 1)) := by
  refine own_in own_pn4 ?_
  intro p e s m below meth c s₁ hx hby hml hown hnm hlk hret hZ X0 e0
  have N0 := Fr.nil n0
  refine own_ef (own_ef4 m a1 pu) ?_
  show own_Go p e below s _ _ _ (s₁.setTop (mkF m 0 #[.val (.ref a1), .val (.int pu), .unset, .unset] []))
  refine own_st (fun _ kont => XS.aloadN X0.here hx rfl (hb hby own_d4_0) rfl rfl kont) ?_
  show own_Go p e below s _ _ _ (s₁.setTop (mkF m 1 #[.val (.ref a1), .val (.int pu), .unset, .unset] [(.ref a1)]))
  refine own_st (fun _ kont => XS.iloadN X0.here hx rfl (hb hby own_d4_1) rfl kont) ?_
  show own_Go p e below s _ _ _ (s₁.setTop (mkF m 2 #[.val (.ref a1), .val (.int pu), .unset, .unset] [(.int pu), (.ref a1)]))
  obtain ⟨z, hzl, hz0⟩ := own_zero_pos (kf := kf) (n := 16) (by omega)
  refine own_cP X0 hx hml hZ hown (hw _ (List.mem_of_getElem? (i := 22) rfl)) (hw _ (List.mem_of_getElem? (i := 23) rfl)) (hw _ (List.mem_of_getElem? (i := 24) rfl)) (hw _ (List.mem_of_getElem? (i := 3) rfl)) (hw _ (List.mem_of_getElem? (i := 4) rfl)) (hw _ (List.mem_of_getElem? (i := 25) rfl)) (by decide) (own_rm4 l Z a0 hw a1 pu ka kf z h0 n0 Z0 Vk Fk Fs hzl hz0) e0 EX (by decide) (W := 0) (by decide) (g := (mkF m 2 #[.val (.ref a1), .val (.int pu), .unset, .unset] [(.int pu), (.ref a1)])) rfl rfl own_pd0 (argsL := [(.int pu)]) (rest := []) rfl rfl rfl (by show 2 * 0 + _ ≤ _; exact Nat.le_of_eq rfl) (hb hby own_d4_2) (by decide) (by decide) ?_
  intro T1 L1 v1 X1 hQ1
  obtain ⟨⟨zr, r, rfl, hzr, hr, hpl⟩, eh1, le1⟩ := hQ1
  have N1 := own_nil N0 le1
  show own_Go p e below s _ _ _ (T1.setTop (mkF m 5 #[.val (.ref a1), .val (.int pu), .unset, .unset] [(.int zr)]))
  refine own_st (fun _ kont => XS.istoreN X1.here hx rfl (hb hby own_d4_5) rfl (l' := #[.val (.ref a1), .val (.int pu), .val (.int zr), .unset]) rfl kont) ?_
  show own_Go p e below s _ _ _ (T1.setTop (mkF m 6 #[.val (.ref a1), .val (.int pu), .val (.int zr), .unset] []))
  refine own_st (fun _ kont => XS.aloadN X1.here hx rfl (hb hby own_d4_6) rfl rfl kont) ?_
  show own_Go p e below s _ _ _ (T1.setTop (mkF m 7 #[.val (.ref a1), .val (.int pu), .val (.int zr), .unset] [(.ref a1)]))
  obtain ⟨T2, X2, e2, st2⟩ := getF X1 hx hZ hown (host := "") (Or.inl (hw _ (List.mem_of_getElem? (i := 11) rfl))) Via.refl eh1 Fk (g := (mkF m 7 #[.val (.ref a1), .val (.int pu), .val (.int zr), .unset] [(.ref a1)])) rfl rfl (hb hby own_d4_7)
  refine own_st st2 ?_
  show own_Go p e below s _ _ _ (T2.setTop (mkF m 10 #[.val (.ref a1), .val (.int pu), .val (.int zr), .unset] [(.ref ka)]))
  refine own_st (fun _ kont => XS.iloadN X2.here hx rfl (hb hby own_d4_10) rfl kont) ?_
  show own_Go p e below s _ _ _ (T2.setTop (mkF m 11 #[.val (.ref a1), .val (.int pu), .val (.int zr), .unset] [(.int zr), (.ref ka)]))
  refine own_st (own_ldI X2 hx hZ e2 Vk (i := r) hzr hr (v := (.int (kf r))) rfl (g := (mkF m 11 #[.val (.ref a1), .val (.int pu), .val (.int zr), .unset] [(.int zr), (.ref ka)])) rfl rfl (hb hby own_d4_11)) ?_
  show own_Go p e below s _ _ _ (T2.setTop (mkF m 12 #[.val (.ref a1), .val (.int pu), .val (.int zr), .unset] [(.int (kf r))]))
  have c1 : kf r = 0 := own_T_miss (by omega) HT hno hpl
  show own_Go p e below s _ _ _ (T2.setTop (mkF m 12 #[.val (.ref a1), .val (.int pu), .val (.int zr), .unset] [(.int (kf r))]))
  refine own_st (fun _ kont => XS.ifNo X2.here hx rfl (hb hby own_d4_12) rfl ((if0 _ _).trans (teq c1).2) kont) ?_
  show own_Go p e below s _ _ _ (T2.setTop (mkF m 15 #[.val (.ref a1), .val (.int pu), .val (.int zr), .unset] []))
  refine own_st (fun _ kont => XS.aloadN X2.here hx rfl (hb hby own_d4_15) rfl rfl kont) ?_
  show own_Go p e below s _ _ _ (T2.setTop (mkF m 16 #[.val (.ref a1), .val (.int pu), .val (.int zr), .unset] [(.ref a1)]))
  refine own_st (fun _ kont => XS.dup X2.here hx rfl (hb hby own_d4_16) rfl rfl kont) ?_
  show own_Go p e below s _ _ _ (T2.setTop (mkF m 17 #[.val (.ref a1), .val (.int pu), .val (.int zr), .unset] [(.ref a1), (.ref a1)]))
  obtain ⟨T3, X3, e3, st3⟩ := getF X2 hx hZ hown (host := "") (Or.inl (hw _ (List.mem_of_getElem? (i := 27) rfl))) Via.refl e2 Fz (g := (mkF m 17 #[.val (.ref a1), .val (.int pu), .val (.int zr), .unset] [(.ref a1), (.ref a1)])) rfl rfl (hb hby own_d4_17)
  refine own_st st3 ?_
  show own_Go p e below s _ _ _ (T3.setTop (mkF m 20 #[.val (.ref a1), .val (.int pu), .val (.int zr), .unset] [(.int sz), (.ref a1)]))
  refine own_st (fun _ kont => XS.dupX1 X3.here hx rfl (hb hby own_d4_20) rfl rfl rfl kont) ?_
  show own_Go p e below s _ _ _ (T3.setTop (mkF m 21 #[.val (.ref a1), .val (.int pu), .val (.int zr), .unset] [(.int sz), (.ref a1), (.int sz)]))
  refine own_st (fun _ kont => XS.iconst X3.here hx rfl (hb hby own_d4_21) kont) ?_
  show own_Go p e below s _ _ _ (T3.setTop (mkF m 22 #[.val (.ref a1), .val (.int pu), .val (.int zr), .unset] [(.int (1 : Int32)), (.int sz), (.ref a1), (.int sz)]))
  refine own_st (fun _ kont => XS.iadd X3.here hx rfl (hb hby own_d4_22) rfl kont) ?_
  show own_Go p e below s _ _ _ (T3.setTop (mkF m 23 #[.val (.ref a1), .val (.int pu), .val (.int zr), .unset] [(.int (sz + (1 : Int32))), (.ref a1), (.int sz)]))
  obtain ⟨T4, h4, X4, e4, W4, st4⟩ := putF X3 hx hZ hown (host := "") (Or.inl (hw _ (List.mem_of_getElem? (i := 27) rfl))) Via.refl e3 Fz EX (Or.inl (hw _ (List.mem_of_getElem? (i := 28) rfl))) (hw _ (List.mem_of_getElem? (i := 3) rfl)) (ty := .int) (by decide) rfl rfl (g := (mkF m 23 #[.val (.ref a1), .val (.int pu), .val (.int zr), .unset] [(.int (sz + (1 : Int32))), (.ref a1), (.int sz)])) rfl rfl (hb hby own_d4_23)
  have Fz_4 := Fz.same W4
  have Fk_4 := Fk.other W4 (Or.inr (slot_ne (Or.inl (hw _ (List.mem_of_getElem? (i := 12) rfl))) (Or.inl (hw _ (List.mem_of_getElem? (i := 28) rfl))) (by decide) (t := (.array .int)) (t' := .int) (by decide) (by decide)))
  have Fn_4 := Fn.other W4 (Or.inr (slot_ne (Or.inl (hw _ (List.mem_of_getElem? (i := 14) rfl))) (Or.inl (hw _ (List.mem_of_getElem? (i := 28) rfl))) (by decide) (t := (.array .int)) (t' := .int) (by decide) (by decide)))
  have Fs_4 := Fs.other W4 (Or.inr (slot_ne (Or.inl (hw _ (List.mem_of_getElem? (i := 16) rfl))) (Or.inl (hw _ (List.mem_of_getElem? (i := 28) rfl))) (by decide) (t := .int) (t' := .int) (by decide) (by decide)))
  have EX_4 := EX.wr W4
  have Vk_4 := Vk.other W4 (Ne.symm nak)
  have Vn_4 := Vn.other W4 (Ne.symm nan)
  have sz4 := Nat.le_trans Z0 (Keep.of_wr W4).1
  have K4 := (Keep.refl h0 [a1, ka, na]).wr W4 (Or.inl (List.mem_of_getElem? (i := 0) rfl))
  have N4 := Fr.snoc X4 N1 fr_a1
  refine own_st st4 ?_
  show own_Go p e below s _ _ _ (T4.setTop (mkF m 26 #[.val (.ref a1), .val (.int pu), .val (.int zr), .unset] [(.int sz)]))
  refine own_st (fun _ kont => XS.istoreN X4.here hx rfl (hb hby own_d4_26) rfl (l' := #[.val (.ref a1), .val (.int pu), .val (.int zr), .val (.int sz)]) rfl kont) ?_
  show own_Go p e below s _ _ _ (T4.setTop (mkF m 27 #[.val (.ref a1), .val (.int pu), .val (.int zr), .val (.int sz)] []))
  refine own_st (fun _ kont => XS.aloadN X4.here hx rfl (hb hby own_d4_27) rfl rfl kont) ?_
  show own_Go p e below s _ _ _ (T4.setTop (mkF m 28 #[.val (.ref a1), .val (.int pu), .val (.int zr), .val (.int sz)] [(.ref a1)]))
  obtain ⟨T5, X5, e5, st5⟩ := getF X4 hx hZ hown (host := "") (Or.inl (hw _ (List.mem_of_getElem? (i := 11) rfl))) Via.refl e4 Fk_4 (g := (mkF m 28 #[.val (.ref a1), .val (.int pu), .val (.int zr), .val (.int sz)] [(.ref a1)])) rfl rfl (hb hby own_d4_28)
  refine own_st st5 ?_
  show own_Go p e below s _ _ _ (T5.setTop (mkF m 31 #[.val (.ref a1), .val (.int pu), .val (.int zr), .val (.int sz)] [(.ref ka)]))
  refine own_st (fun _ kont => XS.iloadN X5.here hx rfl (hb hby own_d4_31) rfl kont) ?_
  show own_Go p e below s _ _ _ (T5.setTop (mkF m 32 #[.val (.ref a1), .val (.int pu), .val (.int zr), .val (.int sz)] [(.int zr), (.ref ka)]))
  refine own_st (fun _ kont => XS.iloadN X5.here hx rfl (hb hby own_d4_32) rfl kont) ?_
  show own_Go p e below s _ _ _ (T5.setTop (mkF m 33 #[.val (.ref a1), .val (.int pu), .val (.int zr), .val (.int sz)] [(.int pu), (.int zr), (.ref ka)]))
  refine own_st (fun _ kont => XS.iconst X5.here hx rfl (hb hby own_d4_33) kont) ?_
  show own_Go p e below s _ _ _ (T5.setTop (mkF m 34 #[.val (.ref a1), .val (.int pu), .val (.int zr), .val (.int sz)] [(.int (1 : Int32)), (.int pu), (.int zr), (.ref ka)]))
  refine own_st (fun _ kont => XS.iadd X5.here hx rfl (hb hby own_d4_34) rfl kont) ?_
  show own_Go p e below s _ _ _ (T5.setTop (mkF m 35 #[.val (.ref a1), .val (.int pu), .val (.int zr), .val (.int sz)] [(.int (pu + (1 : Int32))), (.int zr), (.ref ka)]))
  obtain ⟨T6, h6, X6, e6, W6, Vk_6, st6⟩ := own_stI X5 hx hZ e5 Vk_4 (i := r) hzr hr (g := (mkF m 35 #[.val (.ref a1), .val (.int pu), .val (.int zr), .val (.int sz)] [(.int (pu + (1 : Int32))), (.int zr), (.ref ka)])) rfl rfl (hb hby own_d4_35)
  have Fk_6 := Fk_4.other W6 (Or.inl nak)
  have Fn_6 := Fn_4.other W6 (Or.inl nak)
  have Fs_6 := Fs_4.other W6 (Or.inl nak)
  have EX_6 := EX_4.wr W6
  have Vn_6 := Vn_4.other W6 (Ne.symm nkn)
  have Fz_6 := Fz_4.other W6 (Or.inl nak)
  have sz6 := Nat.le_trans sz4 (Keep.of_wr W6).1
  have K6 := K4.wr W6 (Or.inl (List.mem_of_getElem? (i := 1) rfl))
  have N6 := Fr.snoc X6 N4 fr_ka
  refine own_st st6 ?_
  show own_Go p e below s _ _ _ (T6.setTop (mkF m 36 #[.val (.ref a1), .val (.int pu), .val (.int zr), .val (.int sz)] []))
  refine own_st (fun _ kont => XS.aloadN X6.here hx rfl (hb hby own_d4_36) rfl rfl kont) ?_
  show own_Go p e below s _ _ _ (T6.setTop (mkF m 37 #[.val (.ref a1), .val (.int pu), .val (.int zr), .val (.int sz)] [(.ref a1)]))
  obtain ⟨T7, X7, e7, st7⟩ := getF X6 hx hZ hown (host := "") (Or.inl (hw _ (List.mem_of_getElem? (i := 13) rfl))) Via.refl e6 Fn_6 (g := (mkF m 37 #[.val (.ref a1), .val (.int pu), .val (.int zr), .val (.int sz)] [(.ref a1)])) rfl rfl (hb hby own_d4_37)
  refine own_st st7 ?_
  show own_Go p e below s _ _ _ (T7.setTop (mkF m 40 #[.val (.ref a1), .val (.int pu), .val (.int zr), .val (.int sz)] [(.ref na)]))
  refine own_st (fun _ kont => XS.iloadN X7.here hx rfl (hb hby own_d4_40) rfl kont) ?_
  show own_Go p e below s _ _ _ (T7.setTop (mkF m 41 #[.val (.ref a1), .val (.int pu), .val (.int zr), .val (.int sz)] [(.int zr), (.ref na)]))
  refine own_st (fun _ kont => XS.iloadN X7.here hx rfl (hb hby own_d4_41) rfl kont) ?_
  show own_Go p e below s _ _ _ (T7.setTop (mkF m 42 #[.val (.ref a1), .val (.int pu), .val (.int zr), .val (.int sz)] [(.int sz), (.int zr), (.ref na)]))
  obtain ⟨T8, h8, X8, e8, W8, Vn_8, st8⟩ := own_stI X7 hx hZ e7 Vn_6 (i := r) hzr hr (g := (mkF m 42 #[.val (.ref a1), .val (.int pu), .val (.int zr), .val (.int sz)] [(.int sz), (.int zr), (.ref na)])) rfl rfl (hb hby own_d4_42)
  have Fk_8 := Fk_6.other W8 (Or.inl nan)
  have Fn_8 := Fn_6.other W8 (Or.inl nan)
  have Fs_8 := Fs_6.other W8 (Or.inl nan)
  have EX_8 := EX_6.wr W8
  have Fz_8 := Fz_6.other W8 (Or.inl nan)
  have Vk_8 := Vk_6.other W8 nkn
  have sz8 := Nat.le_trans sz6 (Keep.of_wr W8).1
  have K8 := K6.wr W8 (Or.inl (List.mem_of_getElem? (i := 2) rfl))
  have N8 := Fr.snoc X8 N6 fr_na
  refine own_st st8 ?_
  show own_Go p e below s _ _ _ (T8.setTop (mkF m 43 #[.val (.ref a1), .val (.int pu), .val (.int zr), .val (.int sz)] []))
  refine own_st (fun _ kont => XS.iconst X8.here hx rfl (hb hby own_d4_43) kont) ?_
  show own_Go p e below s _ _ _ (T8.setTop (mkF m 44 #[.val (.ref a1), .val (.int pu), .val (.int zr), .val (.int sz)] [(.int (2 : Int32))]))
  refine own_st (fun _ kont => XS.aloadN X8.here hx rfl (hb hby own_d4_44) rfl rfl kont) ?_
  show own_Go p e below s _ _ _ (T8.setTop (mkF m 45 #[.val (.ref a1), .val (.int pu), .val (.int zr), .val (.int sz)] [(.ref a1), (.int (2 : Int32))]))
  obtain ⟨T9, X9, e9, st9⟩ := getF X8 hx hZ hown (host := "") (Or.inl (hw _ (List.mem_of_getElem? (i := 27) rfl))) Via.refl e8 Fz_8 (g := (mkF m 45 #[.val (.ref a1), .val (.int pu), .val (.int zr), .val (.int sz)] [(.ref a1), (.int (2 : Int32))])) rfl rfl (hb hby own_d4_45)
  refine own_st st9 ?_
  show own_Go p e below s _ _ _ (T9.setTop (mkF m 48 #[.val (.ref a1), .val (.int pu), .val (.int zr), .val (.int sz)] [(.int (sz + (1 : Int32))), (.int (2 : Int32))]))
  refine own_st (fun _ kont => XS.imul X9.here hx rfl (hb hby own_d4_48) rfl kont) ?_
  show own_Go p e below s _ _ _ (T9.setTop (mkF m 49 #[.val (.ref a1), .val (.int pu), .val (.int zr), .val (.int sz)] [(.int ((2 : Int32) * (sz + (1 : Int32))))]))
  refine own_st (fun _ kont => XS.aloadN X9.here hx rfl (hb hby own_d4_49) rfl rfl kont) ?_
  show own_Go p e below s _ _ _ (T9.setTop (mkF m 50 #[.val (.ref a1), .val (.int pu), .val (.int zr), .val (.int sz)] [(.ref a1), (.int ((2 : Int32) * (sz + (1 : Int32))))]))
  obtain ⟨T10, X10, e10, st10⟩ := getF X9 hx hZ hown (host := "") (Or.inl (hw _ (List.mem_of_getElem? (i := 11) rfl))) Via.refl e9 Fk_8 (g := (mkF m 50 #[.val (.ref a1), .val (.int pu), .val (.int zr), .val (.int sz)] [(.ref a1), (.int ((2 : Int32) * (sz + (1 : Int32))))])) rfl rfl (hb hby own_d4_50)
  refine own_st st10 ?_
  show own_Go p e below s _ _ _ (T10.setTop (mkF m 53 #[.val (.ref a1), .val (.int pu), .val (.int zr), .val (.int sz)] [(.ref ka), (.int ((2 : Int32) * (sz + (1 : Int32))))]))
  refine own_st (own_len X10 hx hZ e10 Vk_8 (z := (16 : Int32)) (by decide) (g := (mkF m 53 #[.val (.ref a1), .val (.int pu), .val (.int zr), .val (.int sz)] [(.ref ka), (.int ((2 : Int32) * (sz + (1 : Int32))))])) rfl rfl (hb hby own_d4_53)) ?_
  show own_Go p e below s _ _ _ (T10.setTop (mkF m 54 #[.val (.ref a1), .val (.int pu), .val (.int zr), .val (.int sz)] [(.int (16 : Int32)), (.int ((2 : Int32) * (sz + (1 : Int32))))]))
  refine own_st (fun _ kont => XS.icmpYes X10.here hx rfl (pc0 := 54) (pc' := 71) rfl (hb hby own_d4_54) rfl (flt hgr).2.2.2 (by decide) (by decide) kont) ?_
  show own_Go p e below s _ _ _ (T10.setTop (mkF m 71 #[.val (.ref a1), .val (.int pu), .val (.int zr), .val (.int sz)] []))
  refine own_st (fun _ kont => XS.iloadN X10.here hx rfl (hb hby own_d4_71) rfl kont) ?_
  show own_Go p e below s _ _ _ (T10.setTop (mkF m 72 #[.val (.ref a1), .val (.int pu), .val (.int zr), .val (.int sz)] [(.int sz)]))
  exact own_endI X10 hx hlk hret (hb hby own_d4_72) (by rw [e10]; exact ⟨_, _, rfl, N8, K8, Fk_8, Fn_8, Fs_8, Fz_8, Vk_8, Vn_8, own_T_ins (by omega) HT hno hpu hpl, by have := own_zero_set (n := 16) hr c1 hpu; omega⟩) (by decide) (by decide)
theorem own_pd1 : parseMethodDescriptor "()V" = some ⟨[], none⟩ := by decide +kernel
theorem own_d5_0 : decode prog_59_method_4_code 0 = .ok (.aload_n 0, 1) := by decide +kernel
theorem own_d5_1 : decode prog_59_method_4_code 1 = .ok (.iload_n 1, 1) := by decide +kernel
theorem own_d5_2 : decode prog_59_method_4_code 2 = .ok (.invokevirtual 23, 3) := by decide +kernel
theorem own_d5_5 : decode prog_59_method_4_code 5 = .ok (.istore_n 2, 1) := by decide +kernel
theorem own_d5_6 : decode prog_59_method_4_code 6 = .ok (.aload_n 0, 1) := by decide +kernel
theorem own_d5_7 : decode prog_59_method_4_code 7 = .ok (.getfield 7, 3) := by decide +kernel
theorem own_d5_10 : decode prog_59_method_4_code 10 = .ok (.iload_n 2, 1) := by decide +kernel
theorem own_d5_11 : decode prog_59_method_4_code 11 = .ok (.iaload, 1) := by decide +kernel
theorem own_d5_12 : decode prog_59_method_4_code 12 = .ok (.ifCond .ne 52, 3) := by decide +kernel
theorem own_d5_15 : decode prog_59_method_4_code 15 = .ok (.aload_n 0, 1) := by decide +kernel
theorem own_d5_16 : decode prog_59_method_4_code 16 = .ok (.dup, 1) := by decide +kernel
theorem own_d5_17 : decode prog_59_method_4_code 17 = .ok (.getfield 20, 3) := by decide +kernel
theorem own_d5_20 : decode prog_59_method_4_code 20 = .ok (.dup_x1, 1) := by decide +kernel
theorem own_d5_21 : decode prog_59_method_4_code 21 = .ok (.iconst 1, 1) := by decide +kernel
theorem own_d5_22 : decode prog_59_method_4_code 22 = .ok (.iadd, 1) := by decide +kernel
theorem own_d5_23 : decode prog_59_method_4_code 23 = .ok (.putfield 20, 3) := by decide +kernel
theorem own_d5_26 : decode prog_59_method_4_code 26 = .ok (.istore_n 3, 1) := by decide +kernel
theorem own_d5_27 : decode prog_59_method_4_code 27 = .ok (.aload_n 0, 1) := by decide +kernel
theorem own_d5_28 : decode prog_59_method_4_code 28 = .ok (.getfield 7, 3) := by decide +kernel
theorem own_d5_31 : decode prog_59_method_4_code 31 = .ok (.iload_n 2, 1) := by decide +kernel
theorem own_d5_32 : decode prog_59_method_4_code 32 = .ok (.iload_n 1, 1) := by decide +kernel
theorem own_d5_33 : decode prog_59_method_4_code 33 = .ok (.iconst 1, 1) := by decide +kernel
theorem own_d5_34 : decode prog_59_method_4_code 34 = .ok (.iadd, 1) := by decide +kernel
theorem own_d5_35 : decode prog_59_method_4_code 35 = .ok (.iastore, 1) := by decide +kernel
theorem own_d5_36 : decode prog_59_method_4_code 36 = .ok (.aload_n 0, 1) := by decide +kernel
theorem own_d5_37 : decode prog_59_method_4_code 37 = .ok (.getfield 13, 3) := by decide +kernel
theorem own_d5_40 : decode prog_59_method_4_code 40 = .ok (.iload_n 2, 1) := by decide +kernel
theorem own_d5_41 : decode prog_59_method_4_code 41 = .ok (.iload_n 3, 1) := by decide +kernel
theorem own_d5_42 : decode prog_59_method_4_code 42 = .ok (.iastore, 1) := by decide +kernel
theorem own_d5_43 : decode prog_59_method_4_code 43 = .ok (.iconst 2, 1) := by decide +kernel
theorem own_d5_44 : decode prog_59_method_4_code 44 = .ok (.aload_n 0, 1) := by decide +kernel
theorem own_d5_45 : decode prog_59_method_4_code 45 = .ok (.getfield 20, 3) := by decide +kernel
theorem own_d5_48 : decode prog_59_method_4_code 48 = .ok (.imul, 1) := by decide +kernel
theorem own_d5_49 : decode prog_59_method_4_code 49 = .ok (.aload_n 0, 1) := by decide +kernel
theorem own_d5_50 : decode prog_59_method_4_code 50 = .ok (.getfield 7, 3) := by decide +kernel
theorem own_d5_53 : decode prog_59_method_4_code 53 = .ok (.arraylength, 1) := by decide +kernel
theorem own_d5_54 : decode prog_59_method_4_code 54 = .ok (.if_icmp .le 17, 3) := by decide +kernel
theorem own_d5_57 : decode prog_59_method_4_code 57 = .ok (.aload_n 0, 1) := by decide +kernel
theorem own_d5_58 : decode prog_59_method_4_code 58 = .ok (.invokevirtual 27, 3) := by decide +kernel
theorem own_d5_61 : decode prog_59_method_4_code 61 = .ok (.goto 10, 3) := by decide +kernel
theorem own_d5_71 : decode prog_59_method_4_code 71 = .ok (.iload_n 3, 1) := by decide +kernel
theorem own_d5_72 : decode prog_59_method_4_code 72 = .ok (.ireturn, 1) := by decide +kernel
theorem own_pn5 : plainFor (⟨"com/example/hop_gate/hopgate/UserIndex", "add", "(I)I"⟩ : MethodName) = true := by first | exact plainFor_of_name (show plainName "com/example/hop_gate/hopgate/UserIndex" = true by first | (simp [plainName, overriddenIn]; done) | decide +kernel) | decide +kernel
theorem own_ef5 (m : MethodId) (x0 : Addr) (x1 : Int32) : entryFrame m #[(.ref x0), (.int x1)] 4 = mkF m 0 #[.val (.ref x0), .val (.int x1), .unset, .unset] [] := by first | (simp [entryFrame, mkF, argsToLocals, Value.category]; done) | rfl
set_option maxRecDepth 65536 in
set_option maxHeartbeats 40000000 in
theorem own_rm8 (l : Launch) (Z : State) (a0 : Array Value) (hw : ∀ d ∈ tables_1, d.before a0 Z = true) (a1 : Addr) (pu : Int32) (ka na : Addr) (kf nf : Nat → Int32) (S : Int32 → Int32 → Prop) (sz : Int32) (kk : Nat) (h0 : Heap) (n0 : Nat) (Z0 : n0 ≤ h0.size) (Vk : own_Av Z h0 ka .int 16 (fun t => .int (kf t))) (Vn : own_Av Z h0 na .int 16 (fun t => .int (nf t))) (Fk : Fld Z h0 a1 "com/example/hop_gate/hopgate/UserIndex" "keys" "[I" (.ref ka)) (Fn : Fld Z h0 a1 "com/example/hop_gate/hopgate/UserIndex" "numbers" "[I" (.ref na)) (Fs : Fld Z h0 a1 "com/example/hop_gate/hopgate/UserIndex" "shift" "I" (.int 28)) (Fz : Fld Z h0 a1 "com/example/hop_gate/hopgate/UserIndex" "size" "I" (.int sz)) (EX : Exa Z h0 a1 "com/example/hop_gate/hopgate/UserIndex") (HT : own_T 16 own_hs kf nf S) (hz : 16 ≤ own_zero kf 16 + kk) (hkk : kk < 16) (fr_a1 : n0 ≤ a1) (fr_ka : n0 ≤ ka) (fr_na : n0 ≤ na) (nak : a1 ≠ ka) (nan : a1 ≠ na) (nkn : ka ≠ na) (hno : ∀ n, ¬ S pu n) (hpu : pu + 1 ≠ 0) (hgr : (16 : Int32) < (2 : Int32) * (sz + (1 : Int32))) :
    own_Met l Z (⟨"com/example/hop_gate/hopgate/UserIndex", "add", "(I)I"⟩ : MethodName) prog_59_method_4_code 4 (some .int) ({ frames := 2, cells := 2, slots := 64, locals := 31 } : Room) #[(.ref a1), (.int pu)] h0 (fun v h' L => ∃ (kb nb : Addr) (kf' nf' : Nat → Int32), v = some (.int sz) ∧ Fr n0 L ∧ Keep h0 h' [a1, ka, na] ∧ Fld Z h' a1 "com/example/hop_gate/hopgate/UserIndex" "keys" "[I" (.ref kb) ∧ Fld Z h' a1 "com/example/hop_gate/hopgate/UserIndex" "numbers" "[I" (.ref nb) ∧ Fld Z h' a1 "com/example/hop_gate/hopgate/UserIndex" "shift" "I" (.int 27) ∧ Fld Z h' a1 "com/example/hop_gate/hopgate/UserIndex" "size" "I" (.int (sz + (1 : Int32))) ∧ own_Av Z h' kb .int 32 (fun t => .int (kf' t)) ∧ own_Av Z h' nb .int 32 (fun t => .int (nf' t)) ∧ own_T 32 own_ht kf' nf' (fun u n => S u n ∨ (u = pu ∧ n = sz)) ∧ 32 ≤ own_zero kf' 32 + 16 ∧ h0.size ≤ kb ∧ h0.size ≤ nb ∧ kb ≠ nb) := by
  refine own_in own_pn5 ?_
  intro p e s m below meth c s₁ hx hby hml hown hnm hlk hret hZ X0 e0
  have N0 := Fr.nil n0
  refine own_ef (own_ef5 m a1 pu) ?_
  show own_Go p e below s _ _ _ (s₁.setTop (mkF m 0 #[.val (.ref a1), .val (.int pu), .unset, .unset] []))
  refine own_st (fun _ kont => XS.aloadN X0.here hx rfl (hb hby own_d5_0) rfl rfl kont) ?_
  show own_Go p e below s _ _ _ (s₁.setTop (mkF m 1 #[.val (.ref a1), .val (.int pu), .unset, .unset] [(.ref a1)]))
  refine own_st (fun _ kont => XS.iloadN X0.here hx rfl (hb hby own_d5_1) rfl kont) ?_
  show own_Go p e below s _ _ _ (s₁.setTop (mkF m 2 #[.val (.ref a1), .val (.int pu), .unset, .unset] [(.int pu), (.ref a1)]))
  obtain ⟨z, hzl, hz0⟩ := own_zero_pos (kf := kf) (n := 16) (by omega)
  refine own_cP X0 hx hml hZ hown (hw _ (List.mem_of_getElem? (i := 22) rfl)) (hw _ (List.mem_of_getElem? (i := 23) rfl)) (hw _ (List.mem_of_getElem? (i := 24) rfl)) (hw _ (List.mem_of_getElem? (i := 3) rfl)) (hw _ (List.mem_of_getElem? (i := 4) rfl)) (hw _ (List.mem_of_getElem? (i := 25) rfl)) (by decide) (own_rm4 l Z a0 hw a1 pu ka kf z h0 n0 Z0 Vk Fk Fs hzl hz0) e0 EX (by decide) (W := 0) (by decide) (g := (mkF m 2 #[.val (.ref a1), .val (.int pu), .unset, .unset] [(.int pu), (.ref a1)])) rfl rfl own_pd0 (argsL := [(.int pu)]) (rest := []) rfl rfl rfl (by show 2 * 0 + _ ≤ _; exact Nat.le_of_eq rfl) (hb hby own_d5_2) (by decide) (by decide) ?_
  intro T1 L1 v1 X1 hQ1
  obtain ⟨⟨zr, r, rfl, hzr, hr, hpl⟩, eh1, le1⟩ := hQ1
  have N1 := own_nil N0 le1
  show own_Go p e below s _ _ _ (T1.setTop (mkF m 5 #[.val (.ref a1), .val (.int pu), .unset, .unset] [(.int zr)]))
  refine own_st (fun _ kont => XS.istoreN X1.here hx rfl (hb hby own_d5_5) rfl (l' := #[.val (.ref a1), .val (.int pu), .val (.int zr), .unset]) rfl kont) ?_
  show own_Go p e below s _ _ _ (T1.setTop (mkF m 6 #[.val (.ref a1), .val (.int pu), .val (.int zr), .unset] []))
  refine own_st (fun _ kont => XS.aloadN X1.here hx rfl (hb hby own_d5_6) rfl rfl kont) ?_
  show own_Go p e below s _ _ _ (T1.setTop (mkF m 7 #[.val (.ref a1), .val (.int pu), .val (.int zr), .unset] [(.ref a1)]))
  obtain ⟨T2, X2, e2, st2⟩ := getF X1 hx hZ hown (host := "") (Or.inl (hw _ (List.mem_of_getElem? (i := 11) rfl))) Via.refl eh1 Fk (g := (mkF m 7 #[.val (.ref a1), .val (.int pu), .val (.int zr), .unset] [(.ref a1)])) rfl rfl (hb hby own_d5_7)
  refine own_st st2 ?_
  show own_Go p e below s _ _ _ (T2.setTop (mkF m 10 #[.val (.ref a1), .val (.int pu), .val (.int zr), .unset] [(.ref ka)]))
  refine own_st (fun _ kont => XS.iloadN X2.here hx rfl (hb hby own_d5_10) rfl kont) ?_
  show own_Go p e below s _ _ _ (T2.setTop (mkF m 11 #[.val (.ref a1), .val (.int pu), .val (.int zr), .unset] [(.int zr), (.ref ka)]))
  refine own_st (own_ldI X2 hx hZ e2 Vk (i := r) hzr hr (v := (.int (kf r))) rfl (g := (mkF m 11 #[.val (.ref a1), .val (.int pu), .val (.int zr), .unset] [(.int zr), (.ref ka)])) rfl rfl (hb hby own_d5_11)) ?_
  show own_Go p e below s _ _ _ (T2.setTop (mkF m 12 #[.val (.ref a1), .val (.int pu), .val (.int zr), .unset] [(.int (kf r))]))
  have c1 : kf r = 0 := own_T_miss (by omega) HT hno hpl
  show own_Go p e below s _ _ _ (T2.setTop (mkF m 12 #[.val (.ref a1), .val (.int pu), .val (.int zr), .unset] [(.int (kf r))]))
  refine own_st (fun _ kont => XS.ifNo X2.here hx rfl (hb hby own_d5_12) rfl ((if0 _ _).trans (teq c1).2) kont) ?_
  show own_Go p e below s _ _ _ (T2.setTop (mkF m 15 #[.val (.ref a1), .val (.int pu), .val (.int zr), .unset] []))
  refine own_st (fun _ kont => XS.aloadN X2.here hx rfl (hb hby own_d5_15) rfl rfl kont) ?_
  show own_Go p e below s _ _ _ (T2.setTop (mkF m 16 #[.val (.ref a1), .val (.int pu), .val (.int zr), .unset] [(.ref a1)]))
  refine own_st (fun _ kont => XS.dup X2.here hx rfl (hb hby own_d5_16) rfl rfl kont) ?_
  show own_Go p e below s _ _ _ (T2.setTop (mkF m 17 #[.val (.ref a1), .val (.int pu), .val (.int zr), .unset] [(.ref a1), (.ref a1)]))
  obtain ⟨T3, X3, e3, st3⟩ := getF X2 hx hZ hown (host := "") (Or.inl (hw _ (List.mem_of_getElem? (i := 27) rfl))) Via.refl e2 Fz (g := (mkF m 17 #[.val (.ref a1), .val (.int pu), .val (.int zr), .unset] [(.ref a1), (.ref a1)])) rfl rfl (hb hby own_d5_17)
  refine own_st st3 ?_
  show own_Go p e below s _ _ _ (T3.setTop (mkF m 20 #[.val (.ref a1), .val (.int pu), .val (.int zr), .unset] [(.int sz), (.ref a1)]))
  refine own_st (fun _ kont => XS.dupX1 X3.here hx rfl (hb hby own_d5_20) rfl rfl rfl kont) ?_
  show own_Go p e below s _ _ _ (T3.setTop (mkF m 21 #[.val (.ref a1), .val (.int pu), .val (.int zr), .unset] [(.int sz), (.ref a1), (.int sz)]))
  refine own_st (fun _ kont => XS.iconst X3.here hx rfl (hb hby own_d5_21) kont) ?_
  show own_Go p e below s _ _ _ (T3.setTop (mkF m 22 #[.val (.ref a1), .val (.int pu), .val (.int zr), .unset] [(.int (1 : Int32)), (.int sz), (.ref a1), (.int sz)]))
  refine own_st (fun _ kont => XS.iadd X3.here hx rfl (hb hby own_d5_22) rfl kont) ?_
  show own_Go p e below s _ _ _ (T3.setTop (mkF m 23 #[.val (.ref a1), .val (.int pu), .val (.int zr), .unset] [(.int (sz + (1 : Int32))), (.ref a1), (.int sz)]))
  obtain ⟨T4, h4, X4, e4, W4, st4⟩ := putF X3 hx hZ hown (host := "") (Or.inl (hw _ (List.mem_of_getElem? (i := 27) rfl))) Via.refl e3 Fz EX (Or.inl (hw _ (List.mem_of_getElem? (i := 28) rfl))) (hw _ (List.mem_of_getElem? (i := 3) rfl)) (ty := .int) (by decide) rfl rfl (g := (mkF m 23 #[.val (.ref a1), .val (.int pu), .val (.int zr), .unset] [(.int (sz + (1 : Int32))), (.ref a1), (.int sz)])) rfl rfl (hb hby own_d5_23)
  have Fz_4 := Fz.same W4
  have Fk_4 := Fk.other W4 (Or.inr (slot_ne (Or.inl (hw _ (List.mem_of_getElem? (i := 12) rfl))) (Or.inl (hw _ (List.mem_of_getElem? (i := 28) rfl))) (by decide) (t := (.array .int)) (t' := .int) (by decide) (by decide)))
  have Fn_4 := Fn.other W4 (Or.inr (slot_ne (Or.inl (hw _ (List.mem_of_getElem? (i := 14) rfl))) (Or.inl (hw _ (List.mem_of_getElem? (i := 28) rfl))) (by decide) (t := (.array .int)) (t' := .int) (by decide) (by decide)))
  have Fs_4 := Fs.other W4 (Or.inr (slot_ne (Or.inl (hw _ (List.mem_of_getElem? (i := 16) rfl))) (Or.inl (hw _ (List.mem_of_getElem? (i := 28) rfl))) (by decide) (t := .int) (t' := .int) (by decide) (by decide)))
  have EX_4 := EX.wr W4
  have Vk_4 := Vk.other W4 (Ne.symm nak)
  have Vn_4 := Vn.other W4 (Ne.symm nan)
  have sz4 := Nat.le_trans Z0 (Keep.of_wr W4).1
  have K4 := (Keep.refl h0 [a1, ka, na]).wr W4 (Or.inl (List.mem_of_getElem? (i := 0) rfl))
  have N4 := Fr.snoc X4 N1 fr_a1
  refine own_st st4 ?_
  show own_Go p e below s _ _ _ (T4.setTop (mkF m 26 #[.val (.ref a1), .val (.int pu), .val (.int zr), .unset] [(.int sz)]))
  refine own_st (fun _ kont => XS.istoreN X4.here hx rfl (hb hby own_d5_26) rfl (l' := #[.val (.ref a1), .val (.int pu), .val (.int zr), .val (.int sz)]) rfl kont) ?_
  show own_Go p e below s _ _ _ (T4.setTop (mkF m 27 #[.val (.ref a1), .val (.int pu), .val (.int zr), .val (.int sz)] []))
  refine own_st (fun _ kont => XS.aloadN X4.here hx rfl (hb hby own_d5_27) rfl rfl kont) ?_
  show own_Go p e below s _ _ _ (T4.setTop (mkF m 28 #[.val (.ref a1), .val (.int pu), .val (.int zr), .val (.int sz)] [(.ref a1)]))
  obtain ⟨T5, X5, e5, st5⟩ := getF X4 hx hZ hown (host := "") (Or.inl (hw _ (List.mem_of_getElem? (i := 11) rfl))) Via.refl e4 Fk_4 (g := (mkF m 28 #[.val (.ref a1), .val (.int pu), .val (.int zr), .val (.int sz)] [(.ref a1)])) rfl rfl (hb hby own_d5_28)
  refine own_st st5 ?_
  show own_Go p e below s _ _ _ (T5.setTop (mkF m 31 #[.val (.ref a1), .val (.int pu), .val (.int zr), .val (.int sz)] [(.ref ka)]))
  refine own_st (fun _ kont => XS.iloadN X5.here hx rfl (hb hby own_d5_31) rfl kont) ?_
  show own_Go p e below s _ _ _ (T5.setTop (mkF m 32 #[.val (.ref a1), .val (.int pu), .val (.int zr), .val (.int sz)] [(.int zr), (.ref ka)]))
  refine own_st (fun _ kont => XS.iloadN X5.here hx rfl (hb hby own_d5_32) rfl kont) ?_
  show own_Go p e below s _ _ _ (T5.setTop (mkF m 33 #[.val (.ref a1), .val (.int pu), .val (.int zr), .val (.int sz)] [(.int pu), (.int zr), (.ref ka)]))
  refine own_st (fun _ kont => XS.iconst X5.here hx rfl (hb hby own_d5_33) kont) ?_
  show own_Go p e below s _ _ _ (T5.setTop (mkF m 34 #[.val (.ref a1), .val (.int pu), .val (.int zr), .val (.int sz)] [(.int (1 : Int32)), (.int pu), (.int zr), (.ref ka)]))
  refine own_st (fun _ kont => XS.iadd X5.here hx rfl (hb hby own_d5_34) rfl kont) ?_
  show own_Go p e below s _ _ _ (T5.setTop (mkF m 35 #[.val (.ref a1), .val (.int pu), .val (.int zr), .val (.int sz)] [(.int (pu + (1 : Int32))), (.int zr), (.ref ka)]))
  obtain ⟨T6, h6, X6, e6, W6, Vk_6, st6⟩ := own_stI X5 hx hZ e5 Vk_4 (i := r) hzr hr (g := (mkF m 35 #[.val (.ref a1), .val (.int pu), .val (.int zr), .val (.int sz)] [(.int (pu + (1 : Int32))), (.int zr), (.ref ka)])) rfl rfl (hb hby own_d5_35)
  have Fk_6 := Fk_4.other W6 (Or.inl nak)
  have Fn_6 := Fn_4.other W6 (Or.inl nak)
  have Fs_6 := Fs_4.other W6 (Or.inl nak)
  have EX_6 := EX_4.wr W6
  have Vn_6 := Vn_4.other W6 (Ne.symm nkn)
  have Fz_6 := Fz_4.other W6 (Or.inl nak)
  have sz6 := Nat.le_trans sz4 (Keep.of_wr W6).1
  have K6 := K4.wr W6 (Or.inl (List.mem_of_getElem? (i := 1) rfl))
  have N6 := Fr.snoc X6 N4 fr_ka
  refine own_st st6 ?_
  show own_Go p e below s _ _ _ (T6.setTop (mkF m 36 #[.val (.ref a1), .val (.int pu), .val (.int zr), .val (.int sz)] []))
  refine own_st (fun _ kont => XS.aloadN X6.here hx rfl (hb hby own_d5_36) rfl rfl kont) ?_
  show own_Go p e below s _ _ _ (T6.setTop (mkF m 37 #[.val (.ref a1), .val (.int pu), .val (.int zr), .val (.int sz)] [(.ref a1)]))
  obtain ⟨T7, X7, e7, st7⟩ := getF X6 hx hZ hown (host := "") (Or.inl (hw _ (List.mem_of_getElem? (i := 13) rfl))) Via.refl e6 Fn_6 (g := (mkF m 37 #[.val (.ref a1), .val (.int pu), .val (.int zr), .val (.int sz)] [(.ref a1)])) rfl rfl (hb hby own_d5_37)
  refine own_st st7 ?_
  show own_Go p e below s _ _ _ (T7.setTop (mkF m 40 #[.val (.ref a1), .val (.int pu), .val (.int zr), .val (.int sz)] [(.ref na)]))
  refine own_st (fun _ kont => XS.iloadN X7.here hx rfl (hb hby own_d5_40) rfl kont) ?_
  show own_Go p e below s _ _ _ (T7.setTop (mkF m 41 #[.val (.ref a1), .val (.int pu), .val (.int zr), .val (.int sz)] [(.int zr), (.ref na)]))
  refine own_st (fun _ kont => XS.iloadN X7.here hx rfl (hb hby own_d5_41) rfl kont) ?_
  show own_Go p e below s _ _ _ (T7.setTop (mkF m 42 #[.val (.ref a1), .val (.int pu), .val (.int zr), .val (.int sz)] [(.int sz), (.int zr), (.ref na)]))
  obtain ⟨T8, h8, X8, e8, W8, Vn_8, st8⟩ := own_stI X7 hx hZ e7 Vn_6 (i := r) hzr hr (g := (mkF m 42 #[.val (.ref a1), .val (.int pu), .val (.int zr), .val (.int sz)] [(.int sz), (.int zr), (.ref na)])) rfl rfl (hb hby own_d5_42)
  have Fk_8 := Fk_6.other W8 (Or.inl nan)
  have Fn_8 := Fn_6.other W8 (Or.inl nan)
  have Fs_8 := Fs_6.other W8 (Or.inl nan)
  have EX_8 := EX_6.wr W8
  have Fz_8 := Fz_6.other W8 (Or.inl nan)
  have Vk_8 := Vk_6.other W8 nkn
  have sz8 := Nat.le_trans sz6 (Keep.of_wr W8).1
  have K8 := K6.wr W8 (Or.inl (List.mem_of_getElem? (i := 2) rfl))
  have N8 := Fr.snoc X8 N6 fr_na
  refine own_st st8 ?_
  show own_Go p e below s _ _ _ (T8.setTop (mkF m 43 #[.val (.ref a1), .val (.int pu), .val (.int zr), .val (.int sz)] []))
  refine own_st (fun _ kont => XS.iconst X8.here hx rfl (hb hby own_d5_43) kont) ?_
  show own_Go p e below s _ _ _ (T8.setTop (mkF m 44 #[.val (.ref a1), .val (.int pu), .val (.int zr), .val (.int sz)] [(.int (2 : Int32))]))
  refine own_st (fun _ kont => XS.aloadN X8.here hx rfl (hb hby own_d5_44) rfl rfl kont) ?_
  show own_Go p e below s _ _ _ (T8.setTop (mkF m 45 #[.val (.ref a1), .val (.int pu), .val (.int zr), .val (.int sz)] [(.ref a1), (.int (2 : Int32))]))
  obtain ⟨T9, X9, e9, st9⟩ := getF X8 hx hZ hown (host := "") (Or.inl (hw _ (List.mem_of_getElem? (i := 27) rfl))) Via.refl e8 Fz_8 (g := (mkF m 45 #[.val (.ref a1), .val (.int pu), .val (.int zr), .val (.int sz)] [(.ref a1), (.int (2 : Int32))])) rfl rfl (hb hby own_d5_45)
  refine own_st st9 ?_
  show own_Go p e below s _ _ _ (T9.setTop (mkF m 48 #[.val (.ref a1), .val (.int pu), .val (.int zr), .val (.int sz)] [(.int (sz + (1 : Int32))), (.int (2 : Int32))]))
  refine own_st (fun _ kont => XS.imul X9.here hx rfl (hb hby own_d5_48) rfl kont) ?_
  show own_Go p e below s _ _ _ (T9.setTop (mkF m 49 #[.val (.ref a1), .val (.int pu), .val (.int zr), .val (.int sz)] [(.int ((2 : Int32) * (sz + (1 : Int32))))]))
  refine own_st (fun _ kont => XS.aloadN X9.here hx rfl (hb hby own_d5_49) rfl rfl kont) ?_
  show own_Go p e below s _ _ _ (T9.setTop (mkF m 50 #[.val (.ref a1), .val (.int pu), .val (.int zr), .val (.int sz)] [(.ref a1), (.int ((2 : Int32) * (sz + (1 : Int32))))]))
  obtain ⟨T10, X10, e10, st10⟩ := getF X9 hx hZ hown (host := "") (Or.inl (hw _ (List.mem_of_getElem? (i := 11) rfl))) Via.refl e9 Fk_8 (g := (mkF m 50 #[.val (.ref a1), .val (.int pu), .val (.int zr), .val (.int sz)] [(.ref a1), (.int ((2 : Int32) * (sz + (1 : Int32))))])) rfl rfl (hb hby own_d5_50)
  refine own_st st10 ?_
  show own_Go p e below s _ _ _ (T10.setTop (mkF m 53 #[.val (.ref a1), .val (.int pu), .val (.int zr), .val (.int sz)] [(.ref ka), (.int ((2 : Int32) * (sz + (1 : Int32))))]))
  refine own_st (own_len X10 hx hZ e10 Vk_8 (z := (16 : Int32)) (by decide) (g := (mkF m 53 #[.val (.ref a1), .val (.int pu), .val (.int zr), .val (.int sz)] [(.ref ka), (.int ((2 : Int32) * (sz + (1 : Int32))))])) rfl rfl (hb hby own_d5_53)) ?_
  show own_Go p e below s _ _ _ (T10.setTop (mkF m 54 #[.val (.ref a1), .val (.int pu), .val (.int zr), .val (.int sz)] [(.int (16 : Int32)), (.int ((2 : Int32) * (sz + (1 : Int32))))]))
  refine own_st (fun _ kont => XS.icmpNo X10.here hx rfl (hb hby own_d5_54) rfl (tlt hgr).2.2.2 kont) ?_
  show own_Go p e below s _ _ _ (T10.setTop (mkF m 57 #[.val (.ref a1), .val (.int pu), .val (.int zr), .val (.int sz)] []))
  refine own_st (fun _ kont => XS.aloadN X10.here hx rfl (hb hby own_d5_57) rfl rfl kont) ?_
  show own_Go p e below s _ _ _ (T10.setTop (mkF m 58 #[.val (.ref a1), .val (.int pu), .val (.int zr), .val (.int sz)] [(.ref a1)]))
  refine own_cP X10 hx hml hZ hown (hw _ (List.mem_of_getElem? (i := 29) rfl)) (hw _ (List.mem_of_getElem? (i := 30) rfl)) (hw _ (List.mem_of_getElem? (i := 31) rfl)) (hw _ (List.mem_of_getElem? (i := 3) rfl)) (hw _ (List.mem_of_getElem? (i := 4) rfl)) (hw _ (List.mem_of_getElem? (i := 32) rfl)) (by decide) (own_rm6 l Z a0 hw a1 ka na _ _ (fun u n => S u n ∨ (u = pu ∧ n = sz)) (sz + (1 : Int32)) h8 n0 sz8 Vk_8 Vn_8 Fk_8 Fn_8 Fs_8 Fz_8 EX_8 (own_T_ins (by omega) HT hno hpu hpl) fr_a1 nak nan nkn) e10 EX_8 (by decide) (W := 0) (by decide) (g := (mkF m 58 #[.val (.ref a1), .val (.int pu), .val (.int zr), .val (.int sz)] [(.ref a1)])) rfl rfl own_pd1 (argsL := []) (rest := []) rfl rfl rfl (by show 2 * 0 + _ ≤ _; exact Nat.le_of_eq rfl) (hb hby own_d5_58) (by decide) (by decide) ?_
  intro T11 L11 v11 X11 hQ11
  obtain ⟨kb, nb, kg, ng, rfl, Nc11, K11, Fk11, Fn11, Fs11, Fz11, Vk11, Vn11, HT11, hz11, hkb, hnb, hkn⟩ := hQ11
  have N11 := Fr.app N8 Nc11
  have EX_11 := EX_8.keep K11
  have Vk_11 := Vk_8.keep K11 (ninS (Ne.symm nak) nin0)
  have Vn_11 := Vn_8.keep K11 (ninS (Ne.symm nan) nin0)
  have sz11 := Nat.le_trans sz8 K11.1
  have KK11 := K8.trans K11 (allS (Or.inl (List.mem_of_getElem? (i := 0) rfl)) all0)
  show own_Go p e below s _ _ _ (T11.setTop (mkF m 61 #[.val (.ref a1), .val (.int pu), .val (.int zr), .val (.int sz)] []))
  refine own_st (fun _ kont => XS.goto X11.here hx rfl (pc0 := 61) (pc' := 71) rfl (hb hby own_d5_61) (by decide) (by decide) kont) ?_
  show own_Go p e below s _ _ _ (T11.setTop (mkF m 71 #[.val (.ref a1), .val (.int pu), .val (.int zr), .val (.int sz)] []))
  refine own_st (fun _ kont => XS.iloadN X11.here hx rfl (hb hby own_d5_71) rfl kont) ?_
  show own_Go p e below s _ _ _ (T11.setTop (mkF m 72 #[.val (.ref a1), .val (.int pu), .val (.int zr), .val (.int sz)] [(.int sz)]))
  exact own_endI X11 hx hlk hret (hb hby own_d5_72) ⟨kb, nb, _, _, rfl, N11, KK11, Fk11, Fn11, Fs11, Fz11, Vk11, Vn11, HT11, hz11, Nat.le_trans K8.1 hkb, Nat.le_trans K8.1 hnb, hkn⟩ (by decide) (by decide)
theorem own_d6_0 : decode prog_59_method_4_code 0 = .ok (.aload_n 0, 1) := by decide +kernel
theorem own_d6_1 : decode prog_59_method_4_code 1 = .ok (.iload_n 1, 1) := by decide +kernel
theorem own_d6_2 : decode prog_59_method_4_code 2 = .ok (.invokevirtual 23, 3) := by decide +kernel
theorem own_d6_5 : decode prog_59_method_4_code 5 = .ok (.istore_n 2, 1) := by decide +kernel
theorem own_d6_6 : decode prog_59_method_4_code 6 = .ok (.aload_n 0, 1) := by decide +kernel
theorem own_d6_7 : decode prog_59_method_4_code 7 = .ok (.getfield 7, 3) := by decide +kernel
theorem own_d6_10 : decode prog_59_method_4_code 10 = .ok (.iload_n 2, 1) := by decide +kernel
theorem own_d6_11 : decode prog_59_method_4_code 11 = .ok (.iaload, 1) := by decide +kernel
theorem own_d6_12 : decode prog_59_method_4_code 12 = .ok (.ifCond .ne 52, 3) := by decide +kernel
theorem own_d6_15 : decode prog_59_method_4_code 15 = .ok (.aload_n 0, 1) := by decide +kernel
theorem own_d6_16 : decode prog_59_method_4_code 16 = .ok (.dup, 1) := by decide +kernel
theorem own_d6_17 : decode prog_59_method_4_code 17 = .ok (.getfield 20, 3) := by decide +kernel
theorem own_d6_20 : decode prog_59_method_4_code 20 = .ok (.dup_x1, 1) := by decide +kernel
theorem own_d6_21 : decode prog_59_method_4_code 21 = .ok (.iconst 1, 1) := by decide +kernel
theorem own_d6_22 : decode prog_59_method_4_code 22 = .ok (.iadd, 1) := by decide +kernel
theorem own_d6_23 : decode prog_59_method_4_code 23 = .ok (.putfield 20, 3) := by decide +kernel
theorem own_d6_26 : decode prog_59_method_4_code 26 = .ok (.istore_n 3, 1) := by decide +kernel
theorem own_d6_27 : decode prog_59_method_4_code 27 = .ok (.aload_n 0, 1) := by decide +kernel
theorem own_d6_28 : decode prog_59_method_4_code 28 = .ok (.getfield 7, 3) := by decide +kernel
theorem own_d6_31 : decode prog_59_method_4_code 31 = .ok (.iload_n 2, 1) := by decide +kernel
theorem own_d6_32 : decode prog_59_method_4_code 32 = .ok (.iload_n 1, 1) := by decide +kernel
theorem own_d6_33 : decode prog_59_method_4_code 33 = .ok (.iconst 1, 1) := by decide +kernel
theorem own_d6_34 : decode prog_59_method_4_code 34 = .ok (.iadd, 1) := by decide +kernel
theorem own_d6_35 : decode prog_59_method_4_code 35 = .ok (.iastore, 1) := by decide +kernel
theorem own_d6_36 : decode prog_59_method_4_code 36 = .ok (.aload_n 0, 1) := by decide +kernel
theorem own_d6_37 : decode prog_59_method_4_code 37 = .ok (.getfield 13, 3) := by decide +kernel
theorem own_d6_40 : decode prog_59_method_4_code 40 = .ok (.iload_n 2, 1) := by decide +kernel
theorem own_d6_41 : decode prog_59_method_4_code 41 = .ok (.iload_n 3, 1) := by decide +kernel
theorem own_d6_42 : decode prog_59_method_4_code 42 = .ok (.iastore, 1) := by decide +kernel
theorem own_d6_43 : decode prog_59_method_4_code 43 = .ok (.iconst 2, 1) := by decide +kernel
theorem own_d6_44 : decode prog_59_method_4_code 44 = .ok (.aload_n 0, 1) := by decide +kernel
theorem own_d6_45 : decode prog_59_method_4_code 45 = .ok (.getfield 20, 3) := by decide +kernel
theorem own_d6_48 : decode prog_59_method_4_code 48 = .ok (.imul, 1) := by decide +kernel
theorem own_d6_49 : decode prog_59_method_4_code 49 = .ok (.aload_n 0, 1) := by decide +kernel
theorem own_d6_50 : decode prog_59_method_4_code 50 = .ok (.getfield 7, 3) := by decide +kernel
theorem own_d6_53 : decode prog_59_method_4_code 53 = .ok (.arraylength, 1) := by decide +kernel
theorem own_d6_54 : decode prog_59_method_4_code 54 = .ok (.if_icmp .le 17, 3) := by decide +kernel
theorem own_d6_71 : decode prog_59_method_4_code 71 = .ok (.iload_n 3, 1) := by decide +kernel
theorem own_d6_72 : decode prog_59_method_4_code 72 = .ok (.ireturn, 1) := by decide +kernel
theorem own_pn6 : plainFor (⟨"com/example/hop_gate/hopgate/UserIndex", "add", "(I)I"⟩ : MethodName) = true := by first | exact plainFor_of_name (show plainName "com/example/hop_gate/hopgate/UserIndex" = true by first | (simp [plainName, overriddenIn]; done) | decide +kernel) | decide +kernel
theorem own_ef6 (m : MethodId) (x0 : Addr) (x1 : Int32) : entryFrame m #[(.ref x0), (.int x1)] 4 = mkF m 0 #[.val (.ref x0), .val (.int x1), .unset, .unset] [] := by first | (simp [entryFrame, mkF, argsToLocals, Value.category]; done) | rfl
set_option maxRecDepth 65536 in
set_option maxHeartbeats 40000000 in
theorem own_rm9 (l : Launch) (Z : State) (a0 : Array Value) (hw : ∀ d ∈ tables_1, d.before a0 Z = true) (a1 : Addr) (pu : Int32) (ka na : Addr) (kf nf : Nat → Int32) (S : Int32 → Int32 → Prop) (sz : Int32) (kk : Nat) (h0 : Heap) (n0 : Nat) (Z0 : n0 ≤ h0.size) (Vk : own_Av Z h0 ka .int 32 (fun t => .int (kf t))) (Vn : own_Av Z h0 na .int 32 (fun t => .int (nf t))) (Fk : Fld Z h0 a1 "com/example/hop_gate/hopgate/UserIndex" "keys" "[I" (.ref ka)) (Fn : Fld Z h0 a1 "com/example/hop_gate/hopgate/UserIndex" "numbers" "[I" (.ref na)) (Fs : Fld Z h0 a1 "com/example/hop_gate/hopgate/UserIndex" "shift" "I" (.int 27)) (Fz : Fld Z h0 a1 "com/example/hop_gate/hopgate/UserIndex" "size" "I" (.int sz)) (EX : Exa Z h0 a1 "com/example/hop_gate/hopgate/UserIndex") (HT : own_T 32 own_ht kf nf S) (hz : 32 ≤ own_zero kf 32 + kk) (hkk : kk < 32) (fr_a1 : n0 ≤ a1) (fr_ka : n0 ≤ ka) (fr_na : n0 ≤ na) (nak : a1 ≠ ka) (nan : a1 ≠ na) (nkn : ka ≠ na) (hno : ∀ n, ¬ S pu n) (hpu : pu + 1 ≠ 0) (hgr : ¬ (32 : Int32) < (2 : Int32) * (sz + (1 : Int32))) :
    own_Met l Z (⟨"com/example/hop_gate/hopgate/UserIndex", "add", "(I)I"⟩ : MethodName) prog_59_method_4_code 4 (some .int) ({ frames := 1, cells := 0, slots := 0, locals := 14 } : Room) #[(.ref a1), (.int pu)] h0 (fun v h' L => ∃ (kf' nf' : Nat → Int32), v = some (.int sz) ∧ Fr n0 L ∧ Keep h0 h' [a1, ka, na] ∧ Fld Z h' a1 "com/example/hop_gate/hopgate/UserIndex" "keys" "[I" (.ref ka) ∧ Fld Z h' a1 "com/example/hop_gate/hopgate/UserIndex" "numbers" "[I" (.ref na) ∧ Fld Z h' a1 "com/example/hop_gate/hopgate/UserIndex" "shift" "I" (.int 27) ∧ Fld Z h' a1 "com/example/hop_gate/hopgate/UserIndex" "size" "I" (.int (sz + (1 : Int32))) ∧ own_Av Z h' ka .int 32 (fun t => .int (kf' t)) ∧ own_Av Z h' na .int 32 (fun t => .int (nf' t)) ∧ own_T 32 own_ht kf' nf' (fun u n => S u n ∨ (u = pu ∧ n = sz)) ∧ 32 ≤ own_zero kf' 32 + (kk + 1)) := by
  refine own_in own_pn6 ?_
  intro p e s m below meth c s₁ hx hby hml hown hnm hlk hret hZ X0 e0
  have N0 := Fr.nil n0
  refine own_ef (own_ef6 m a1 pu) ?_
  show own_Go p e below s _ _ _ (s₁.setTop (mkF m 0 #[.val (.ref a1), .val (.int pu), .unset, .unset] []))
  refine own_st (fun _ kont => XS.aloadN X0.here hx rfl (hb hby own_d6_0) rfl rfl kont) ?_
  show own_Go p e below s _ _ _ (s₁.setTop (mkF m 1 #[.val (.ref a1), .val (.int pu), .unset, .unset] [(.ref a1)]))
  refine own_st (fun _ kont => XS.iloadN X0.here hx rfl (hb hby own_d6_1) rfl kont) ?_
  show own_Go p e below s _ _ _ (s₁.setTop (mkF m 2 #[.val (.ref a1), .val (.int pu), .unset, .unset] [(.int pu), (.ref a1)]))
  obtain ⟨z, hzl, hz0⟩ := own_zero_pos (kf := kf) (n := 32) (by omega)
  refine own_cP X0 hx hml hZ hown (hw _ (List.mem_of_getElem? (i := 22) rfl)) (hw _ (List.mem_of_getElem? (i := 23) rfl)) (hw _ (List.mem_of_getElem? (i := 24) rfl)) (hw _ (List.mem_of_getElem? (i := 3) rfl)) (hw _ (List.mem_of_getElem? (i := 4) rfl)) (hw _ (List.mem_of_getElem? (i := 25) rfl)) (by decide) (own_rm5 l Z a0 hw a1 pu ka kf z h0 n0 Z0 Vk Fk Fs hzl hz0) e0 EX (by decide) (W := 0) (by decide) (g := (mkF m 2 #[.val (.ref a1), .val (.int pu), .unset, .unset] [(.int pu), (.ref a1)])) rfl rfl own_pd0 (argsL := [(.int pu)]) (rest := []) rfl rfl rfl (by show 2 * 0 + _ ≤ _; exact Nat.le_of_eq rfl) (hb hby own_d6_2) (by decide) (by decide) ?_
  intro T1 L1 v1 X1 hQ1
  obtain ⟨⟨zr, r, rfl, hzr, hr, hpl⟩, eh1, le1⟩ := hQ1
  have N1 := own_nil N0 le1
  show own_Go p e below s _ _ _ (T1.setTop (mkF m 5 #[.val (.ref a1), .val (.int pu), .unset, .unset] [(.int zr)]))
  refine own_st (fun _ kont => XS.istoreN X1.here hx rfl (hb hby own_d6_5) rfl (l' := #[.val (.ref a1), .val (.int pu), .val (.int zr), .unset]) rfl kont) ?_
  show own_Go p e below s _ _ _ (T1.setTop (mkF m 6 #[.val (.ref a1), .val (.int pu), .val (.int zr), .unset] []))
  refine own_st (fun _ kont => XS.aloadN X1.here hx rfl (hb hby own_d6_6) rfl rfl kont) ?_
  show own_Go p e below s _ _ _ (T1.setTop (mkF m 7 #[.val (.ref a1), .val (.int pu), .val (.int zr), .unset] [(.ref a1)]))
  obtain ⟨T2, X2, e2, st2⟩ := getF X1 hx hZ hown (host := "") (Or.inl (hw _ (List.mem_of_getElem? (i := 11) rfl))) Via.refl eh1 Fk (g := (mkF m 7 #[.val (.ref a1), .val (.int pu), .val (.int zr), .unset] [(.ref a1)])) rfl rfl (hb hby own_d6_7)
  refine own_st st2 ?_
  show own_Go p e below s _ _ _ (T2.setTop (mkF m 10 #[.val (.ref a1), .val (.int pu), .val (.int zr), .unset] [(.ref ka)]))
  refine own_st (fun _ kont => XS.iloadN X2.here hx rfl (hb hby own_d6_10) rfl kont) ?_
  show own_Go p e below s _ _ _ (T2.setTop (mkF m 11 #[.val (.ref a1), .val (.int pu), .val (.int zr), .unset] [(.int zr), (.ref ka)]))
  refine own_st (own_ldI X2 hx hZ e2 Vk (i := r) hzr hr (v := (.int (kf r))) rfl (g := (mkF m 11 #[.val (.ref a1), .val (.int pu), .val (.int zr), .unset] [(.int zr), (.ref ka)])) rfl rfl (hb hby own_d6_11)) ?_
  show own_Go p e below s _ _ _ (T2.setTop (mkF m 12 #[.val (.ref a1), .val (.int pu), .val (.int zr), .unset] [(.int (kf r))]))
  have c1 : kf r = 0 := own_T_miss (by omega) HT hno hpl
  show own_Go p e below s _ _ _ (T2.setTop (mkF m 12 #[.val (.ref a1), .val (.int pu), .val (.int zr), .unset] [(.int (kf r))]))
  refine own_st (fun _ kont => XS.ifNo X2.here hx rfl (hb hby own_d6_12) rfl ((if0 _ _).trans (teq c1).2) kont) ?_
  show own_Go p e below s _ _ _ (T2.setTop (mkF m 15 #[.val (.ref a1), .val (.int pu), .val (.int zr), .unset] []))
  refine own_st (fun _ kont => XS.aloadN X2.here hx rfl (hb hby own_d6_15) rfl rfl kont) ?_
  show own_Go p e below s _ _ _ (T2.setTop (mkF m 16 #[.val (.ref a1), .val (.int pu), .val (.int zr), .unset] [(.ref a1)]))
  refine own_st (fun _ kont => XS.dup X2.here hx rfl (hb hby own_d6_16) rfl rfl kont) ?_
  show own_Go p e below s _ _ _ (T2.setTop (mkF m 17 #[.val (.ref a1), .val (.int pu), .val (.int zr), .unset] [(.ref a1), (.ref a1)]))
  obtain ⟨T3, X3, e3, st3⟩ := getF X2 hx hZ hown (host := "") (Or.inl (hw _ (List.mem_of_getElem? (i := 27) rfl))) Via.refl e2 Fz (g := (mkF m 17 #[.val (.ref a1), .val (.int pu), .val (.int zr), .unset] [(.ref a1), (.ref a1)])) rfl rfl (hb hby own_d6_17)
  refine own_st st3 ?_
  show own_Go p e below s _ _ _ (T3.setTop (mkF m 20 #[.val (.ref a1), .val (.int pu), .val (.int zr), .unset] [(.int sz), (.ref a1)]))
  refine own_st (fun _ kont => XS.dupX1 X3.here hx rfl (hb hby own_d6_20) rfl rfl rfl kont) ?_
  show own_Go p e below s _ _ _ (T3.setTop (mkF m 21 #[.val (.ref a1), .val (.int pu), .val (.int zr), .unset] [(.int sz), (.ref a1), (.int sz)]))
  refine own_st (fun _ kont => XS.iconst X3.here hx rfl (hb hby own_d6_21) kont) ?_
  show own_Go p e below s _ _ _ (T3.setTop (mkF m 22 #[.val (.ref a1), .val (.int pu), .val (.int zr), .unset] [(.int (1 : Int32)), (.int sz), (.ref a1), (.int sz)]))
  refine own_st (fun _ kont => XS.iadd X3.here hx rfl (hb hby own_d6_22) rfl kont) ?_
  show own_Go p e below s _ _ _ (T3.setTop (mkF m 23 #[.val (.ref a1), .val (.int pu), .val (.int zr), .unset] [(.int (sz + (1 : Int32))), (.ref a1), (.int sz)]))
  obtain ⟨T4, h4, X4, e4, W4, st4⟩ := putF X3 hx hZ hown (host := "") (Or.inl (hw _ (List.mem_of_getElem? (i := 27) rfl))) Via.refl e3 Fz EX (Or.inl (hw _ (List.mem_of_getElem? (i := 28) rfl))) (hw _ (List.mem_of_getElem? (i := 3) rfl)) (ty := .int) (by decide) rfl rfl (g := (mkF m 23 #[.val (.ref a1), .val (.int pu), .val (.int zr), .unset] [(.int (sz + (1 : Int32))), (.ref a1), (.int sz)])) rfl rfl (hb hby own_d6_23)
  have Fz_4 := Fz.same W4
  have Fk_4 := Fk.other W4 (Or.inr (slot_ne (Or.inl (hw _ (List.mem_of_getElem? (i := 12) rfl))) (Or.inl (hw _ (List.mem_of_getElem? (i := 28) rfl))) (by decide) (t := (.array .int)) (t' := .int) (by decide) (by decide)))
  have Fn_4 := Fn.other W4 (Or.inr (slot_ne (Or.inl (hw _ (List.mem_of_getElem? (i := 14) rfl))) (Or.inl (hw _ (List.mem_of_getElem? (i := 28) rfl))) (by decide) (t := (.array .int)) (t' := .int) (by decide) (by decide)))
  have Fs_4 := Fs.other W4 (Or.inr (slot_ne (Or.inl (hw _ (List.mem_of_getElem? (i := 16) rfl))) (Or.inl (hw _ (List.mem_of_getElem? (i := 28) rfl))) (by decide) (t := .int) (t' := .int) (by decide) (by decide)))
  have EX_4 := EX.wr W4
  have Vk_4 := Vk.other W4 (Ne.symm nak)
  have Vn_4 := Vn.other W4 (Ne.symm nan)
  have sz4 := Nat.le_trans Z0 (Keep.of_wr W4).1
  have K4 := (Keep.refl h0 [a1, ka, na]).wr W4 (Or.inl (List.mem_of_getElem? (i := 0) rfl))
  have N4 := Fr.snoc X4 N1 fr_a1
  refine own_st st4 ?_
  show own_Go p e below s _ _ _ (T4.setTop (mkF m 26 #[.val (.ref a1), .val (.int pu), .val (.int zr), .unset] [(.int sz)]))
  refine own_st (fun _ kont => XS.istoreN X4.here hx rfl (hb hby own_d6_26) rfl (l' := #[.val (.ref a1), .val (.int pu), .val (.int zr), .val (.int sz)]) rfl kont) ?_
  show own_Go p e below s _ _ _ (T4.setTop (mkF m 27 #[.val (.ref a1), .val (.int pu), .val (.int zr), .val (.int sz)] []))
  refine own_st (fun _ kont => XS.aloadN X4.here hx rfl (hb hby own_d6_27) rfl rfl kont) ?_
  show own_Go p e below s _ _ _ (T4.setTop (mkF m 28 #[.val (.ref a1), .val (.int pu), .val (.int zr), .val (.int sz)] [(.ref a1)]))
  obtain ⟨T5, X5, e5, st5⟩ := getF X4 hx hZ hown (host := "") (Or.inl (hw _ (List.mem_of_getElem? (i := 11) rfl))) Via.refl e4 Fk_4 (g := (mkF m 28 #[.val (.ref a1), .val (.int pu), .val (.int zr), .val (.int sz)] [(.ref a1)])) rfl rfl (hb hby own_d6_28)
  refine own_st st5 ?_
  show own_Go p e below s _ _ _ (T5.setTop (mkF m 31 #[.val (.ref a1), .val (.int pu), .val (.int zr), .val (.int sz)] [(.ref ka)]))
  refine own_st (fun _ kont => XS.iloadN X5.here hx rfl (hb hby own_d6_31) rfl kont) ?_
  show own_Go p e below s _ _ _ (T5.setTop (mkF m 32 #[.val (.ref a1), .val (.int pu), .val (.int zr), .val (.int sz)] [(.int zr), (.ref ka)]))
  refine own_st (fun _ kont => XS.iloadN X5.here hx rfl (hb hby own_d6_32) rfl kont) ?_
  show own_Go p e below s _ _ _ (T5.setTop (mkF m 33 #[.val (.ref a1), .val (.int pu), .val (.int zr), .val (.int sz)] [(.int pu), (.int zr), (.ref ka)]))
  refine own_st (fun _ kont => XS.iconst X5.here hx rfl (hb hby own_d6_33) kont) ?_
  show own_Go p e below s _ _ _ (T5.setTop (mkF m 34 #[.val (.ref a1), .val (.int pu), .val (.int zr), .val (.int sz)] [(.int (1 : Int32)), (.int pu), (.int zr), (.ref ka)]))
  refine own_st (fun _ kont => XS.iadd X5.here hx rfl (hb hby own_d6_34) rfl kont) ?_
  show own_Go p e below s _ _ _ (T5.setTop (mkF m 35 #[.val (.ref a1), .val (.int pu), .val (.int zr), .val (.int sz)] [(.int (pu + (1 : Int32))), (.int zr), (.ref ka)]))
  obtain ⟨T6, h6, X6, e6, W6, Vk_6, st6⟩ := own_stI X5 hx hZ e5 Vk_4 (i := r) hzr hr (g := (mkF m 35 #[.val (.ref a1), .val (.int pu), .val (.int zr), .val (.int sz)] [(.int (pu + (1 : Int32))), (.int zr), (.ref ka)])) rfl rfl (hb hby own_d6_35)
  have Fk_6 := Fk_4.other W6 (Or.inl nak)
  have Fn_6 := Fn_4.other W6 (Or.inl nak)
  have Fs_6 := Fs_4.other W6 (Or.inl nak)
  have EX_6 := EX_4.wr W6
  have Vn_6 := Vn_4.other W6 (Ne.symm nkn)
  have Fz_6 := Fz_4.other W6 (Or.inl nak)
  have sz6 := Nat.le_trans sz4 (Keep.of_wr W6).1
  have K6 := K4.wr W6 (Or.inl (List.mem_of_getElem? (i := 1) rfl))
  have N6 := Fr.snoc X6 N4 fr_ka
  refine own_st st6 ?_
  show own_Go p e below s _ _ _ (T6.setTop (mkF m 36 #[.val (.ref a1), .val (.int pu), .val (.int zr), .val (.int sz)] []))
  refine own_st (fun _ kont => XS.aloadN X6.here hx rfl (hb hby own_d6_36) rfl rfl kont) ?_
  show own_Go p e below s _ _ _ (T6.setTop (mkF m 37 #[.val (.ref a1), .val (.int pu), .val (.int zr), .val (.int sz)] [(.ref a1)]))
  obtain ⟨T7, X7, e7, st7⟩ := getF X6 hx hZ hown (host := "") (Or.inl (hw _ (List.mem_of_getElem? (i := 13) rfl))) Via.refl e6 Fn_6 (g := (mkF m 37 #[.val (.ref a1), .val (.int pu), .val (.int zr), .val (.int sz)] [(.ref a1)])) rfl rfl (hb hby own_d6_37)
  refine own_st st7 ?_
  show own_Go p e below s _ _ _ (T7.setTop (mkF m 40 #[.val (.ref a1), .val (.int pu), .val (.int zr), .val (.int sz)] [(.ref na)]))
  refine own_st (fun _ kont => XS.iloadN X7.here hx rfl (hb hby own_d6_40) rfl kont) ?_
  show own_Go p e below s _ _ _ (T7.setTop (mkF m 41 #[.val (.ref a1), .val (.int pu), .val (.int zr), .val (.int sz)] [(.int zr), (.ref na)]))
  refine own_st (fun _ kont => XS.iloadN X7.here hx rfl (hb hby own_d6_41) rfl kont) ?_
  show own_Go p e below s _ _ _ (T7.setTop (mkF m 42 #[.val (.ref a1), .val (.int pu), .val (.int zr), .val (.int sz)] [(.int sz), (.int zr), (.ref na)]))
  obtain ⟨T8, h8, X8, e8, W8, Vn_8, st8⟩ := own_stI X7 hx hZ e7 Vn_6 (i := r) hzr hr (g := (mkF m 42 #[.val (.ref a1), .val (.int pu), .val (.int zr), .val (.int sz)] [(.int sz), (.int zr), (.ref na)])) rfl rfl (hb hby own_d6_42)
  have Fk_8 := Fk_6.other W8 (Or.inl nan)
  have Fn_8 := Fn_6.other W8 (Or.inl nan)
  have Fs_8 := Fs_6.other W8 (Or.inl nan)
  have EX_8 := EX_6.wr W8
  have Fz_8 := Fz_6.other W8 (Or.inl nan)
  have Vk_8 := Vk_6.other W8 nkn
  have sz8 := Nat.le_trans sz6 (Keep.of_wr W8).1
  have K8 := K6.wr W8 (Or.inl (List.mem_of_getElem? (i := 2) rfl))
  have N8 := Fr.snoc X8 N6 fr_na
  refine own_st st8 ?_
  show own_Go p e below s _ _ _ (T8.setTop (mkF m 43 #[.val (.ref a1), .val (.int pu), .val (.int zr), .val (.int sz)] []))
  refine own_st (fun _ kont => XS.iconst X8.here hx rfl (hb hby own_d6_43) kont) ?_
  show own_Go p e below s _ _ _ (T8.setTop (mkF m 44 #[.val (.ref a1), .val (.int pu), .val (.int zr), .val (.int sz)] [(.int (2 : Int32))]))
  refine own_st (fun _ kont => XS.aloadN X8.here hx rfl (hb hby own_d6_44) rfl rfl kont) ?_
  show own_Go p e below s _ _ _ (T8.setTop (mkF m 45 #[.val (.ref a1), .val (.int pu), .val (.int zr), .val (.int sz)] [(.ref a1), (.int (2 : Int32))]))
  obtain ⟨T9, X9, e9, st9⟩ := getF X8 hx hZ hown (host := "") (Or.inl (hw _ (List.mem_of_getElem? (i := 27) rfl))) Via.refl e8 Fz_8 (g := (mkF m 45 #[.val (.ref a1), .val (.int pu), .val (.int zr), .val (.int sz)] [(.ref a1), (.int (2 : Int32))])) rfl rfl (hb hby own_d6_45)
  refine own_st st9 ?_
  show own_Go p e below s _ _ _ (T9.setTop (mkF m 48 #[.val (.ref a1), .val (.int pu), .val (.int zr), .val (.int sz)] [(.int (sz + (1 : Int32))), (.int (2 : Int32))]))
  refine own_st (fun _ kont => XS.imul X9.here hx rfl (hb hby own_d6_48) rfl kont) ?_
  show own_Go p e below s _ _ _ (T9.setTop (mkF m 49 #[.val (.ref a1), .val (.int pu), .val (.int zr), .val (.int sz)] [(.int ((2 : Int32) * (sz + (1 : Int32))))]))
  refine own_st (fun _ kont => XS.aloadN X9.here hx rfl (hb hby own_d6_49) rfl rfl kont) ?_
  show own_Go p e below s _ _ _ (T9.setTop (mkF m 50 #[.val (.ref a1), .val (.int pu), .val (.int zr), .val (.int sz)] [(.ref a1), (.int ((2 : Int32) * (sz + (1 : Int32))))]))
  obtain ⟨T10, X10, e10, st10⟩ := getF X9 hx hZ hown (host := "") (Or.inl (hw _ (List.mem_of_getElem? (i := 11) rfl))) Via.refl e9 Fk_8 (g := (mkF m 50 #[.val (.ref a1), .val (.int pu), .val (.int zr), .val (.int sz)] [(.ref a1), (.int ((2 : Int32) * (sz + (1 : Int32))))])) rfl rfl (hb hby own_d6_50)
  refine own_st st10 ?_
  show own_Go p e below s _ _ _ (T10.setTop (mkF m 53 #[.val (.ref a1), .val (.int pu), .val (.int zr), .val (.int sz)] [(.ref ka), (.int ((2 : Int32) * (sz + (1 : Int32))))]))
  refine own_st (own_len X10 hx hZ e10 Vk_8 (z := (32 : Int32)) (by decide) (g := (mkF m 53 #[.val (.ref a1), .val (.int pu), .val (.int zr), .val (.int sz)] [(.ref ka), (.int ((2 : Int32) * (sz + (1 : Int32))))])) rfl rfl (hb hby own_d6_53)) ?_
  show own_Go p e below s _ _ _ (T10.setTop (mkF m 54 #[.val (.ref a1), .val (.int pu), .val (.int zr), .val (.int sz)] [(.int (32 : Int32)), (.int ((2 : Int32) * (sz + (1 : Int32))))]))
  refine own_st (fun _ kont => XS.icmpYes X10.here hx rfl (pc0 := 54) (pc' := 71) rfl (hb hby own_d6_54) rfl (flt hgr).2.2.2 (by decide) (by decide) kont) ?_
  show own_Go p e below s _ _ _ (T10.setTop (mkF m 71 #[.val (.ref a1), .val (.int pu), .val (.int zr), .val (.int sz)] []))
  refine own_st (fun _ kont => XS.iloadN X10.here hx rfl (hb hby own_d6_71) rfl kont) ?_
  show own_Go p e below s _ _ _ (T10.setTop (mkF m 72 #[.val (.ref a1), .val (.int pu), .val (.int zr), .val (.int sz)] [(.int sz)]))
  exact own_endI X10 hx hlk hret (hb hby own_d6_72) (by rw [e10]; exact ⟨_, _, rfl, N8, K8, Fk_8, Fn_8, Fs_8, Fz_8, Vk_8, Vn_8, own_T_ins (by omega) HT hno hpu hpl, by have := own_zero_set (n := 32) hr c1 hpu; omega⟩) (by decide) (by decide)
theorem own_d7_0 : decode prog_59_method_4_code 0 = .ok (.aload_n 0, 1) := by decide +kernel
theorem own_d7_1 : decode prog_59_method_4_code 1 = .ok (.iload_n 1, 1) := by decide +kernel
theorem own_d7_2 : decode prog_59_method_4_code 2 = .ok (.invokevirtual 23, 3) := by decide +kernel
theorem own_d7_5 : decode prog_59_method_4_code 5 = .ok (.istore_n 2, 1) := by decide +kernel
theorem own_d7_6 : decode prog_59_method_4_code 6 = .ok (.aload_n 0, 1) := by decide +kernel
theorem own_d7_7 : decode prog_59_method_4_code 7 = .ok (.getfield 7, 3) := by decide +kernel
theorem own_d7_10 : decode prog_59_method_4_code 10 = .ok (.iload_n 2, 1) := by decide +kernel
theorem own_d7_11 : decode prog_59_method_4_code 11 = .ok (.iaload, 1) := by decide +kernel
theorem own_d7_12 : decode prog_59_method_4_code 12 = .ok (.ifCond .ne 52, 3) := by decide +kernel
theorem own_d7_64 : decode prog_59_method_4_code 64 = .ok (.aload_n 0, 1) := by decide +kernel
theorem own_d7_65 : decode prog_59_method_4_code 65 = .ok (.getfield 13, 3) := by decide +kernel
theorem own_d7_68 : decode prog_59_method_4_code 68 = .ok (.iload_n 2, 1) := by decide +kernel
theorem own_d7_69 : decode prog_59_method_4_code 69 = .ok (.iaload, 1) := by decide +kernel
theorem own_d7_70 : decode prog_59_method_4_code 70 = .ok (.istore_n 3, 1) := by decide +kernel
theorem own_d7_71 : decode prog_59_method_4_code 71 = .ok (.iload_n 3, 1) := by decide +kernel
theorem own_d7_72 : decode prog_59_method_4_code 72 = .ok (.ireturn, 1) := by decide +kernel
theorem own_pn7 : plainFor (⟨"com/example/hop_gate/hopgate/UserIndex", "add", "(I)I"⟩ : MethodName) = true := by first | exact plainFor_of_name (show plainName "com/example/hop_gate/hopgate/UserIndex" = true by first | (simp [plainName, overriddenIn]; done) | decide +kernel) | decide +kernel
theorem own_ef7 (m : MethodId) (x0 : Addr) (x1 : Int32) : entryFrame m #[(.ref x0), (.int x1)] 4 = mkF m 0 #[.val (.ref x0), .val (.int x1), .unset, .unset] [] := by first | (simp [entryFrame, mkF, argsToLocals, Value.category]; done) | rfl
set_option maxRecDepth 65536 in
set_option maxHeartbeats 40000000 in
theorem own_rm10 (l : Launch) (Z : State) (a0 : Array Value) (hw : ∀ d ∈ tables_1, d.before a0 Z = true) (a1 : Addr) (pu : Int32) (ka na : Addr) (kf nf : Nat → Int32) (S : Int32 → Int32 → Prop) (sz : Int32) (kk : Nat) (nn : Int32) (h0 : Heap) (n0 : Nat) (Z0 : n0 ≤ h0.size) (Vk : own_Av Z h0 ka .int 32 (fun t => .int (kf t))) (Vn : own_Av Z h0 na .int 32 (fun t => .int (nf t))) (Fk : Fld Z h0 a1 "com/example/hop_gate/hopgate/UserIndex" "keys" "[I" (.ref ka)) (Fn : Fld Z h0 a1 "com/example/hop_gate/hopgate/UserIndex" "numbers" "[I" (.ref na)) (Fs : Fld Z h0 a1 "com/example/hop_gate/hopgate/UserIndex" "shift" "I" (.int 27)) (Fz : Fld Z h0 a1 "com/example/hop_gate/hopgate/UserIndex" "size" "I" (.int sz)) (EX : Exa Z h0 a1 "com/example/hop_gate/hopgate/UserIndex") (HT : own_T 32 own_ht kf nf S) (hz : 32 ≤ own_zero kf 32 + kk) (hkk : kk < 32) (fr_a1 : n0 ≤ a1) (fr_ka : n0 ≤ ka) (fr_na : n0 ≤ na) (nak : a1 ≠ ka) (nan : a1 ≠ na) (nkn : ka ≠ na) (hS : S pu nn) :
    own_Met l Z (⟨"com/example/hop_gate/hopgate/UserIndex", "add", "(I)I"⟩ : MethodName) prog_59_method_4_code 4 (some .int) ({ frames := 1, cells := 0, slots := 0, locals := 14 } : Room) #[(.ref a1), (.int pu)] h0 (fun v h' L => v = some (.int nn) ∧ h' = h0 ∧ L = []) := by
  refine own_in own_pn7 ?_
  intro p e s m below meth c s₁ hx hby hml hown hnm hlk hret hZ X0 e0
  have N0 := Fr.nil n0
  refine own_ef (own_ef7 m a1 pu) ?_
  show own_Go p e below s _ _ _ (s₁.setTop (mkF m 0 #[.val (.ref a1), .val (.int pu), .unset, .unset] []))
  refine own_st (fun _ kont => XS.aloadN X0.here hx rfl (hb hby own_d7_0) rfl rfl kont) ?_
  show own_Go p e below s _ _ _ (s₁.setTop (mkF m 1 #[.val (.ref a1), .val (.int pu), .unset, .unset] [(.ref a1)]))
  refine own_st (fun _ kont => XS.iloadN X0.here hx rfl (hb hby own_d7_1) rfl kont) ?_
  show own_Go p e below s _ _ _ (s₁.setTop (mkF m 2 #[.val (.ref a1), .val (.int pu), .unset, .unset] [(.int pu), (.ref a1)]))
  obtain ⟨z, hzl, hz0⟩ := own_zero_pos (kf := kf) (n := 32) (by omega)
  refine own_cP X0 hx hml hZ hown (hw _ (List.mem_of_getElem? (i := 22) rfl)) (hw _ (List.mem_of_getElem? (i := 23) rfl)) (hw _ (List.mem_of_getElem? (i := 24) rfl)) (hw _ (List.mem_of_getElem? (i := 3) rfl)) (hw _ (List.mem_of_getElem? (i := 4) rfl)) (hw _ (List.mem_of_getElem? (i := 25) rfl)) (by decide) (own_rm5 l Z a0 hw a1 pu ka kf z h0 n0 Z0 Vk Fk Fs hzl hz0) e0 EX (by decide) (W := 0) (by decide) (g := (mkF m 2 #[.val (.ref a1), .val (.int pu), .unset, .unset] [(.int pu), (.ref a1)])) rfl rfl own_pd0 (argsL := [(.int pu)]) (rest := []) rfl rfl rfl (by show 2 * 0 + _ ≤ _; exact Nat.le_of_eq rfl) (hb hby own_d7_2) (by decide) (by decide) ?_
  intro T1 L1 v1 X1 hQ1
  obtain ⟨⟨zr, r, rfl, hzr, hr, hpl⟩, eh1, le1⟩ := hQ1
  have N1 := own_nil N0 le1
  show own_Go p e below s _ _ _ (T1.setTop (mkF m 5 #[.val (.ref a1), .val (.int pu), .unset, .unset] [(.int zr)]))
  refine own_st (fun _ kont => XS.istoreN X1.here hx rfl (hb hby own_d7_5) rfl (l' := #[.val (.ref a1), .val (.int pu), .val (.int zr), .unset]) rfl kont) ?_
  show own_Go p e below s _ _ _ (T1.setTop (mkF m 6 #[.val (.ref a1), .val (.int pu), .val (.int zr), .unset] []))
  refine own_st (fun _ kont => XS.aloadN X1.here hx rfl (hb hby own_d7_6) rfl rfl kont) ?_
  show own_Go p e below s _ _ _ (T1.setTop (mkF m 7 #[.val (.ref a1), .val (.int pu), .val (.int zr), .unset] [(.ref a1)]))
  obtain ⟨T2, X2, e2, st2⟩ := getF X1 hx hZ hown (host := "") (Or.inl (hw _ (List.mem_of_getElem? (i := 11) rfl))) Via.refl eh1 Fk (g := (mkF m 7 #[.val (.ref a1), .val (.int pu), .val (.int zr), .unset] [(.ref a1)])) rfl rfl (hb hby own_d7_7)
  refine own_st st2 ?_
  show own_Go p e below s _ _ _ (T2.setTop (mkF m 10 #[.val (.ref a1), .val (.int pu), .val (.int zr), .unset] [(.ref ka)]))
  refine own_st (fun _ kont => XS.iloadN X2.here hx rfl (hb hby own_d7_10) rfl kont) ?_
  show own_Go p e below s _ _ _ (T2.setTop (mkF m 11 #[.val (.ref a1), .val (.int pu), .val (.int zr), .unset] [(.int zr), (.ref ka)]))
  refine own_st (own_ldI X2 hx hZ e2 Vk (i := r) hzr hr (v := (.int (kf r))) rfl (g := (mkF m 11 #[.val (.ref a1), .val (.int pu), .val (.int zr), .unset] [(.int zr), (.ref ka)])) rfl rfl (hb hby own_d7_11)) ?_
  show own_Go p e below s _ _ _ (T2.setTop (mkF m 12 #[.val (.ref a1), .val (.int pu), .val (.int zr), .unset] [(.int (kf r))]))
  obtain ⟨-, c1, c2⟩ := own_T_hit (by omega) HT hS hpl
  show own_Go p e below s _ _ _ (T2.setTop (mkF m 12 #[.val (.ref a1), .val (.int pu), .val (.int zr), .unset] [(.int (kf r))]))
  refine own_st (fun _ kont => XS.ifYes X2.here hx rfl (pc0 := 12) (pc' := 64) rfl (hb hby own_d7_12) rfl ((if0 _ _).trans (feq c1).2) (by decide) (by decide) kont) ?_
  show own_Go p e below s _ _ _ (T2.setTop (mkF m 64 #[.val (.ref a1), .val (.int pu), .val (.int zr), .unset] []))
  refine own_st (fun _ kont => XS.aloadN X2.here hx rfl (hb hby own_d7_64) rfl rfl kont) ?_
  show own_Go p e below s _ _ _ (T2.setTop (mkF m 65 #[.val (.ref a1), .val (.int pu), .val (.int zr), .unset] [(.ref a1)]))
  obtain ⟨T3, X3, e3, st3⟩ := getF X2 hx hZ hown (host := "") (Or.inl (hw _ (List.mem_of_getElem? (i := 13) rfl))) Via.refl e2 Fn (g := (mkF m 65 #[.val (.ref a1), .val (.int pu), .val (.int zr), .unset] [(.ref a1)])) rfl rfl (hb hby own_d7_65)
  refine own_st st3 ?_
  show own_Go p e below s _ _ _ (T3.setTop (mkF m 68 #[.val (.ref a1), .val (.int pu), .val (.int zr), .unset] [(.ref na)]))
  refine own_st (fun _ kont => XS.iloadN X3.here hx rfl (hb hby own_d7_68) rfl kont) ?_
  show own_Go p e below s _ _ _ (T3.setTop (mkF m 69 #[.val (.ref a1), .val (.int pu), .val (.int zr), .unset] [(.int zr), (.ref na)]))
  refine own_st (own_ldI X3 hx hZ e3 Vn (i := r) hzr hr (v := (.int nn)) (by rw [c2]) (g := (mkF m 69 #[.val (.ref a1), .val (.int pu), .val (.int zr), .unset] [(.int zr), (.ref na)])) rfl rfl (hb hby own_d7_69)) ?_
  show own_Go p e below s _ _ _ (T3.setTop (mkF m 70 #[.val (.ref a1), .val (.int pu), .val (.int zr), .unset] [(.int nn)]))
  refine own_st (fun _ kont => XS.istoreN X3.here hx rfl (hb hby own_d7_70) rfl (l' := #[.val (.ref a1), .val (.int pu), .val (.int zr), .val (.int nn)]) rfl kont) ?_
  show own_Go p e below s _ _ _ (T3.setTop (mkF m 71 #[.val (.ref a1), .val (.int pu), .val (.int zr), .val (.int nn)] []))
  refine own_st (fun _ kont => XS.iloadN X3.here hx rfl (hb hby own_d7_71) rfl kont) ?_
  show own_Go p e below s _ _ _ (T3.setTop (mkF m 72 #[.val (.ref a1), .val (.int pu), .val (.int zr), .val (.int nn)] [(.int nn)]))
  exact own_endI X3 hx hlk hret (hb hby own_d7_72) ⟨rfl, e3, le1⟩ (by decide) (by decide)
theorem own_pn8 : plainFor x = true := by first | exact plainFor_of_name (show plainName "com/example/hop_gate/hopgate/UserIndexAddPinLaw" = true by first | (simp [plainName, overriddenIn]; done) | decide +kernel) | decide +kernel
theorem own_ef8 (m : MethodId) (x0 : Int32) (x1 : Int32) (x2 : Int32) (x3 : Int32) : entryFrame m #[(.int x0), (.int x1), (.int x2), (.int x3)] maxLocals = mkF m 0 #[.val (.int x0), .val (.int x1), .val (.int x2), .val (.int x3), .unset, .unset, .unset, .unset, .unset, .unset, .unset] [] := by first | (simp [entryFrame, mkF, argsToLocals, Value.category, maxLocals]; done) | rfl
set_option maxRecDepth 65536 in
set_option maxHeartbeats 40000000 in
theorem own_rm0 (l : Launch) (Z : State) (a0 : Array Value) (hw : ∀ d ∈ tables_1, d.before a0 Z = true) (ba bb bc bd : Int32) (h0 : Heap) (n0 : Nat) (Z0 : n0 ≤ h0.size)  :
    own_Met l Z x code maxLocals ret room_1 #[(.int ba), (.int bb), (.int bc), (.int bd)] h0 (fun v h' L => v = some (.int 1) ∧ Fr n0 L) := by
  refine own_in own_pn8 ?_
  intro p e s m below meth c s₁ hx hby hml hown hnm hlk hret hZ X0 e0
  have N0 := Fr.nil n0
  refine own_ef (own_ef8 m ba bb bc bd) ?_
  show own_Go p e below s _ _ _ (s₁.setTop (mkF m 0 #[.val (.int ba), .val (.int bb), .val (.int bc), .val (.int bd), .unset, .unset, .unset, .unset, .unset, .unset, .unset] []))
  refine own_st (fun _ kont => X0.ldcInt hx hown (mvT hZ (hw _ (List.mem_of_getElem? (i := 0) rfl))) (g := (mkF m 0 #[.val (.int ba), .val (.int bb), .val (.int bc), .val (.int bd), .unset, .unset, .unset, .unset, .unset, .unset, .unset] [])) rfl (hb hby at_0) _ kont) ?_
  show own_Go p e below s _ _ _ (s₁.setTop (mkF m 2 #[.val (.int ba), .val (.int bb), .val (.int bc), .val (.int bd), .unset, .unset, .unset, .unset, .unset, .unset, .unset] [(.int (2147483647 : Int32))]))
  refine own_st (fun _ kont => XS.istore X0.here hx rfl (hb hby at_2) rfl (l' := #[.val (.int ba), .val (.int bb), .val (.int bc), .val (.int bd), .val (.int (2147483647 : Int32)), .unset, .unset, .unset, .unset, .unset, .unset]) rfl kont) ?_
  show own_Go p e below s _ _ _ (s₁.setTop (mkF m 4 #[.val (.int ba), .val (.int bb), .val (.int bc), .val (.int bd), .val (.int (2147483647 : Int32)), .unset, .unset, .unset, .unset, .unset, .unset] []))
  refine own_st (fun _ kont => XS.iloadN X0.here hx rfl (hb hby at_4) rfl kont) ?_
  show own_Go p e below s _ _ _ (s₁.setTop (mkF m 5 #[.val (.int ba), .val (.int bb), .val (.int bc), .val (.int bd), .val (.int (2147483647 : Int32)), .unset, .unset, .unset, .unset, .unset, .unset] [(.int bb)]))
  refine own_st (fun _ kont => XS.iconst X0.here hx rfl (hb hby at_5) kont) ?_
  show own_Go p e below s _ _ _ (s₁.setTop (mkF m 6 #[.val (.int ba), .val (.int bb), .val (.int bc), .val (.int bd), .val (.int (2147483647 : Int32)), .unset, .unset, .unset, .unset, .unset, .unset] [(.int (1 : Int32)), (.int bb)]))
  refine own_st (fun _ kont => XS.ior X0.here hx rfl (hb hby at_6) rfl kont) ?_
  show own_Go p e below s _ _ _ (s₁.setTop (mkF m 7 #[.val (.int ba), .val (.int bb), .val (.int bc), .val (.int bd), .val (.int (2147483647 : Int32)), .unset, .unset, .unset, .unset, .unset, .unset] [(.int (bb ||| (1 : Int32)))]))
  refine own_st (fun _ kont => XS.istore X0.here hx rfl (hb hby at_7) rfl (l' := #[.val (.int ba), .val (.int bb), .val (.int bc), .val (.int bd), .val (.int (2147483647 : Int32)), .val (.int (bb ||| (1 : Int32))), .unset, .unset, .unset, .unset, .unset]) rfl kont) ?_
  show own_Go p e below s _ _ _ (s₁.setTop (mkF m 9 #[.val (.int ba), .val (.int bb), .val (.int bc), .val (.int bd), .val (.int (2147483647 : Int32)), .val (.int (bb ||| (1 : Int32))), .unset, .unset, .unset, .unset, .unset] []))
  refine own_st (fun _ kont => XS.bipush X0.here hx rfl (hb hby at_9) kont) ?_
  show own_Go p e below s _ _ _ (s₁.setTop (mkF m 11 #[.val (.int ba), .val (.int bb), .val (.int bc), .val (.int bd), .val (.int (2147483647 : Int32)), .val (.int (bb ||| (1 : Int32))), .unset, .unset, .unset, .unset, .unset] [(.int (10 : Int32))]))
  obtain ⟨T1, h1, ua, g1, X1, e1, E1, Vua, st1⟩ := own_newA X0 hx hZ (hw _ (List.mem_of_getElem? (i := 1) rfl)) e0 (g := (mkF m 11 #[.val (.int ba), .val (.int bb), .val (.int bc), .val (.int bd), .val (.int (2147483647 : Int32)), .val (.int (bb ||| (1 : Int32))), .unset, .unset, .unset, .unset, .unset] [(.int (10 : Int32))])) rfl (hb hby at_11) rfl (n := 10) (cap := 10) (by decide) (by decide) (by decide) (by decide) (by decide)
  replace Vua : own_Av Z h1 ua .int 10 (fun _ => .int 0) := Vua
  have fr_ua : n0 ≤ ua := Nat.le_trans Z0 (Nat.le_of_eq g1.symm)
  have sz1 := Nat.le_trans Z0 E1.1
  refine own_st st1 ?_
  show own_Go p e below s _ _ _ (T1.setTop (mkF m 13 #[.val (.int ba), .val (.int bb), .val (.int bc), .val (.int bd), .val (.int (2147483647 : Int32)), .val (.int (bb ||| (1 : Int32))), .unset, .unset, .unset, .unset, .unset] [(.ref ua)]))
  refine own_st (fun _ kont => XS.astore X1.here hx rfl (hb hby at_13) rfl rfl (l' := #[.val (.int ba), .val (.int bb), .val (.int bc), .val (.int bd), .val (.int (2147483647 : Int32)), .val (.int (bb ||| (1 : Int32))), .val (.ref ua), .unset, .unset, .unset, .unset]) rfl kont) ?_
  show own_Go p e below s _ _ _ (T1.setTop (mkF m 15 #[.val (.int ba), .val (.int bb), .val (.int bc), .val (.int bd), .val (.int (2147483647 : Int32)), .val (.int (bb ||| (1 : Int32))), .val (.ref ua), .unset, .unset, .unset, .unset] []))
  refine own_st (fun _ kont => XS.aload X1.here hx rfl (hb hby at_15) rfl rfl kont) ?_
  show own_Go p e below s _ _ _ (T1.setTop (mkF m 17 #[.val (.int ba), .val (.int bb), .val (.int bc), .val (.int bd), .val (.int (2147483647 : Int32)), .val (.int (bb ||| (1 : Int32))), .val (.ref ua), .unset, .unset, .unset, .unset] [(.ref ua)]))
  refine own_st (fun _ kont => XS.iconst X1.here hx rfl (hb hby at_17) kont) ?_
  show own_Go p e below s _ _ _ (T1.setTop (mkF m 18 #[.val (.int ba), .val (.int bb), .val (.int bc), .val (.int bd), .val (.int (2147483647 : Int32)), .val (.int (bb ||| (1 : Int32))), .val (.ref ua), .unset, .unset, .unset, .unset] [(.int (0 : Int32)), (.ref ua)]))
  refine own_st (fun _ kont => XS.iloadN X1.here hx rfl (hb hby at_18) rfl kont) ?_
  show own_Go p e below s _ _ _ (T1.setTop (mkF m 19 #[.val (.int ba), .val (.int bb), .val (.int bc), .val (.int bd), .val (.int (2147483647 : Int32)), .val (.int (bb ||| (1 : Int32))), .val (.ref ua), .unset, .unset, .unset, .unset] [(.int ba), (.int (0 : Int32)), (.ref ua)]))
  refine own_st (fun _ kont => XS.iload X1.here hx rfl (hb hby at_19) rfl kont) ?_
  show own_Go p e below s _ _ _ (T1.setTop (mkF m 21 #[.val (.int ba), .val (.int bb), .val (.int bc), .val (.int bd), .val (.int (2147483647 : Int32)), .val (.int (bb ||| (1 : Int32))), .val (.ref ua), .unset, .unset, .unset, .unset] [(.int (2147483647 : Int32)), (.int ba), (.int (0 : Int32)), (.ref ua)]))
  refine own_st (fun _ kont => XS.iand X1.here hx rfl (hb hby at_21) rfl kont) ?_
  show own_Go p e below s _ _ _ (T1.setTop (mkF m 22 #[.val (.int ba), .val (.int bb), .val (.int bc), .val (.int bd), .val (.int (2147483647 : Int32)), .val (.int (bb ||| (1 : Int32))), .val (.ref ua), .unset, .unset, .unset, .unset] [(.int (ba &&& (2147483647 : Int32))), (.int (0 : Int32)), (.ref ua)]))
  obtain ⟨T2, h2, X2, e2, W2, Vua_2, st2⟩ := own_stI X1 hx hZ e1 Vua (i := 0) (by decide) (by decide) (g := (mkF m 22 #[.val (.int ba), .val (.int bb), .val (.int bc), .val (.int bd), .val (.int (2147483647 : Int32)), .val (.int (bb ||| (1 : Int32))), .val (.ref ua), .unset, .unset, .unset, .unset] [(.int (ba &&& (2147483647 : Int32))), (.int (0 : Int32)), (.ref ua)])) rfl rfl (hb hby at_22)
  have sz2 := Nat.le_trans sz1 (Keep.of_wr W2).1
  have N2 := Fr.snoc X2 N0 fr_ua
  refine own_st st2 ?_
  show own_Go p e below s _ _ _ (T2.setTop (mkF m 23 #[.val (.int ba), .val (.int bb), .val (.int bc), .val (.int bd), .val (.int (2147483647 : Int32)), .val (.int (bb ||| (1 : Int32))), .val (.ref ua), .unset, .unset, .unset, .unset] []))
  refine own_st (fun _ kont => XS.aload X2.here hx rfl (hb hby at_23) rfl rfl kont) ?_
  show own_Go p e below s _ _ _ (T2.setTop (mkF m 25 #[.val (.int ba), .val (.int bb), .val (.int bc), .val (.int bd), .val (.int (2147483647 : Int32)), .val (.int (bb ||| (1 : Int32))), .val (.ref ua), .unset, .unset, .unset, .unset] [(.ref ua)]))
  refine own_st (fun _ kont => XS.iconst X2.here hx rfl (hb hby at_25) kont) ?_
  show own_Go p e below s _ _ _ (T2.setTop (mkF m 26 #[.val (.int ba), .val (.int bb), .val (.int bc), .val (.int bd), .val (.int (2147483647 : Int32)), .val (.int (bb ||| (1 : Int32))), .val (.ref ua), .unset, .unset, .unset, .unset] [(.int (1 : Int32)), (.ref ua)]))
  refine own_st (fun _ kont => XS.iloadN X2.here hx rfl (hb hby at_26) rfl kont) ?_
  show own_Go p e below s _ _ _ (T2.setTop (mkF m 27 #[.val (.int ba), .val (.int bb), .val (.int bc), .val (.int bd), .val (.int (2147483647 : Int32)), .val (.int (bb ||| (1 : Int32))), .val (.ref ua), .unset, .unset, .unset, .unset] [(.int ba), (.int (1 : Int32)), (.ref ua)]))
  refine own_st (fun _ kont => XS.iload X2.here hx rfl (hb hby at_27) rfl kont) ?_
  show own_Go p e below s _ _ _ (T2.setTop (mkF m 29 #[.val (.int ba), .val (.int bb), .val (.int bc), .val (.int bd), .val (.int (2147483647 : Int32)), .val (.int (bb ||| (1 : Int32))), .val (.ref ua), .unset, .unset, .unset, .unset] [(.int (bb ||| (1 : Int32))), (.int ba), (.int (1 : Int32)), (.ref ua)]))
  refine own_st (fun _ kont => XS.iadd X2.here hx rfl (hb hby at_29) rfl kont) ?_
  show own_Go p e below s _ _ _ (T2.setTop (mkF m 30 #[.val (.int ba), .val (.int bb), .val (.int bc), .val (.int bd), .val (.int (2147483647 : Int32)), .val (.int (bb ||| (1 : Int32))), .val (.ref ua), .unset, .unset, .unset, .unset] [(.int (ba + (bb ||| (1 : Int32)))), (.int (1 : Int32)), (.ref ua)]))
  refine own_st (fun _ kont => XS.iload X2.here hx rfl (hb hby at_30) rfl kont) ?_
  show own_Go p e below s _ _ _ (T2.setTop (mkF m 32 #[.val (.int ba), .val (.int bb), .val (.int bc), .val (.int bd), .val (.int (2147483647 : Int32)), .val (.int (bb ||| (1 : Int32))), .val (.ref ua), .unset, .unset, .unset, .unset] [(.int (2147483647 : Int32)), (.int (ba + (bb ||| (1 : Int32)))), (.int (1 : Int32)), (.ref ua)]))
  refine own_st (fun _ kont => XS.iand X2.here hx rfl (hb hby at_32) rfl kont) ?_
  show own_Go p e below s _ _ _ (T2.setTop (mkF m 33 #[.val (.int ba), .val (.int bb), .val (.int bc), .val (.int bd), .val (.int (2147483647 : Int32)), .val (.int (bb ||| (1 : Int32))), .val (.ref ua), .unset, .unset, .unset, .unset] [(.int ((ba + (bb ||| (1 : Int32))) &&& (2147483647 : Int32))), (.int (1 : Int32)), (.ref ua)]))
  obtain ⟨T3, h3, X3, e3, W3, Vua_3, st3⟩ := own_stI X2 hx hZ e2 Vua_2 (i := 1) (by decide) (by decide) (g := (mkF m 33 #[.val (.int ba), .val (.int bb), .val (.int bc), .val (.int bd), .val (.int (2147483647 : Int32)), .val (.int (bb ||| (1 : Int32))), .val (.ref ua), .unset, .unset, .unset, .unset] [(.int ((ba + (bb ||| (1 : Int32))) &&& (2147483647 : Int32))), (.int (1 : Int32)), (.ref ua)])) rfl rfl (hb hby at_33)
  have sz3 := Nat.le_trans sz2 (Keep.of_wr W3).1
  have N3 := Fr.snoc X3 N2 fr_ua
  refine own_st st3 ?_
  show own_Go p e below s _ _ _ (T3.setTop (mkF m 34 #[.val (.int ba), .val (.int bb), .val (.int bc), .val (.int bd), .val (.int (2147483647 : Int32)), .val (.int (bb ||| (1 : Int32))), .val (.ref ua), .unset, .unset, .unset, .unset] []))
  refine own_st (fun _ kont => XS.aload X3.here hx rfl (hb hby at_34) rfl rfl kont) ?_
  show own_Go p e below s _ _ _ (T3.setTop (mkF m 36 #[.val (.int ba), .val (.int bb), .val (.int bc), .val (.int bd), .val (.int (2147483647 : Int32)), .val (.int (bb ||| (1 : Int32))), .val (.ref ua), .unset, .unset, .unset, .unset] [(.ref ua)]))
  refine own_st (fun _ kont => XS.iconst X3.here hx rfl (hb hby at_36) kont) ?_
  show own_Go p e below s _ _ _ (T3.setTop (mkF m 37 #[.val (.int ba), .val (.int bb), .val (.int bc), .val (.int bd), .val (.int (2147483647 : Int32)), .val (.int (bb ||| (1 : Int32))), .val (.ref ua), .unset, .unset, .unset, .unset] [(.int (2 : Int32)), (.ref ua)]))
  refine own_st (fun _ kont => XS.iloadN X3.here hx rfl (hb hby at_37) rfl kont) ?_
  show own_Go p e below s _ _ _ (T3.setTop (mkF m 38 #[.val (.int ba), .val (.int bb), .val (.int bc), .val (.int bd), .val (.int (2147483647 : Int32)), .val (.int (bb ||| (1 : Int32))), .val (.ref ua), .unset, .unset, .unset, .unset] [(.int ba), (.int (2 : Int32)), (.ref ua)]))
  refine own_st (fun _ kont => XS.iconst X3.here hx rfl (hb hby at_38) kont) ?_
  show own_Go p e below s _ _ _ (T3.setTop (mkF m 39 #[.val (.int ba), .val (.int bb), .val (.int bc), .val (.int bd), .val (.int (2147483647 : Int32)), .val (.int (bb ||| (1 : Int32))), .val (.ref ua), .unset, .unset, .unset, .unset] [(.int (2 : Int32)), (.int ba), (.int (2 : Int32)), (.ref ua)]))
  refine own_st (fun _ kont => XS.iload X3.here hx rfl (hb hby at_39) rfl kont) ?_
  show own_Go p e below s _ _ _ (T3.setTop (mkF m 41 #[.val (.int ba), .val (.int bb), .val (.int bc), .val (.int bd), .val (.int (2147483647 : Int32)), .val (.int (bb ||| (1 : Int32))), .val (.ref ua), .unset, .unset, .unset, .unset] [(.int (bb ||| (1 : Int32))), (.int (2 : Int32)), (.int ba), (.int (2 : Int32)), (.ref ua)]))
  refine own_st (fun _ kont => XS.imul X3.here hx rfl (hb hby at_41) rfl kont) ?_
  show own_Go p e below s _ _ _ (T3.setTop (mkF m 42 #[.val (.int ba), .val (.int bb), .val (.int bc), .val (.int bd), .val (.int (2147483647 : Int32)), .val (.int (bb ||| (1 : Int32))), .val (.ref ua), .unset, .unset, .unset, .unset] [(.int ((2 : Int32) * (bb ||| (1 : Int32)))), (.int ba), (.int (2 : Int32)), (.ref ua)]))
  refine own_st (fun _ kont => XS.iadd X3.here hx rfl (hb hby at_42) rfl kont) ?_
  show own_Go p e below s _ _ _ (T3.setTop (mkF m 43 #[.val (.int ba), .val (.int bb), .val (.int bc), .val (.int bd), .val (.int (2147483647 : Int32)), .val (.int (bb ||| (1 : Int32))), .val (.ref ua), .unset, .unset, .unset, .unset] [(.int (ba + ((2 : Int32) * (bb ||| (1 : Int32))))), (.int (2 : Int32)), (.ref ua)]))
  refine own_st (fun _ kont => XS.iload X3.here hx rfl (hb hby at_43) rfl kont) ?_
  show own_Go p e below s _ _ _ (T3.setTop (mkF m 45 #[.val (.int ba), .val (.int bb), .val (.int bc), .val (.int bd), .val (.int (2147483647 : Int32)), .val (.int (bb ||| (1 : Int32))), .val (.ref ua), .unset, .unset, .unset, .unset] [(.int (2147483647 : Int32)), (.int (ba + ((2 : Int32) * (bb ||| (1 : Int32))))), (.int (2 : Int32)), (.ref ua)]))
  refine own_st (fun _ kont => XS.iand X3.here hx rfl (hb hby at_45) rfl kont) ?_
  show own_Go p e below s _ _ _ (T3.setTop (mkF m 46 #[.val (.int ba), .val (.int bb), .val (.int bc), .val (.int bd), .val (.int (2147483647 : Int32)), .val (.int (bb ||| (1 : Int32))), .val (.ref ua), .unset, .unset, .unset, .unset] [(.int ((ba + ((2 : Int32) * (bb ||| (1 : Int32)))) &&& (2147483647 : Int32))), (.int (2 : Int32)), (.ref ua)]))
  obtain ⟨T4, h4, X4, e4, W4, Vua_4, st4⟩ := own_stI X3 hx hZ e3 Vua_3 (i := 2) (by decide) (by decide) (g := (mkF m 46 #[.val (.int ba), .val (.int bb), .val (.int bc), .val (.int bd), .val (.int (2147483647 : Int32)), .val (.int (bb ||| (1 : Int32))), .val (.ref ua), .unset, .unset, .unset, .unset] [(.int ((ba + ((2 : Int32) * (bb ||| (1 : Int32)))) &&& (2147483647 : Int32))), (.int (2 : Int32)), (.ref ua)])) rfl rfl (hb hby at_46)
  have sz4 := Nat.le_trans sz3 (Keep.of_wr W4).1
  have N4 := Fr.snoc X4 N3 fr_ua
  refine own_st st4 ?_
  show own_Go p e below s _ _ _ (T4.setTop (mkF m 47 #[.val (.int ba), .val (.int bb), .val (.int bc), .val (.int bd), .val (.int (2147483647 : Int32)), .val (.int (bb ||| (1 : Int32))), .val (.ref ua), .unset, .unset, .unset, .unset] []))
  refine own_st (fun _ kont => XS.aload X4.here hx rfl (hb hby at_47) rfl rfl kont) ?_
  show own_Go p e below s _ _ _ (T4.setTop (mkF m 49 #[.val (.int ba), .val (.int bb), .val (.int bc), .val (.int bd), .val (.int (2147483647 : Int32)), .val (.int (bb ||| (1 : Int32))), .val (.ref ua), .unset, .unset, .unset, .unset] [(.ref ua)]))
  refine own_st (fun _ kont => XS.iconst X4.here hx rfl (hb hby at_49) kont) ?_
  show own_Go p e below s _ _ _ (T4.setTop (mkF m 50 #[.val (.int ba), .val (.int bb), .val (.int bc), .val (.int bd), .val (.int (2147483647 : Int32)), .val (.int (bb ||| (1 : Int32))), .val (.ref ua), .unset, .unset, .unset, .unset] [(.int (3 : Int32)), (.ref ua)]))
  refine own_st (fun _ kont => XS.iloadN X4.here hx rfl (hb hby at_50) rfl kont) ?_
  show own_Go p e below s _ _ _ (T4.setTop (mkF m 51 #[.val (.int ba), .val (.int bb), .val (.int bc), .val (.int bd), .val (.int (2147483647 : Int32)), .val (.int (bb ||| (1 : Int32))), .val (.ref ua), .unset, .unset, .unset, .unset] [(.int ba), (.int (3 : Int32)), (.ref ua)]))
  refine own_st (fun _ kont => XS.iconst X4.here hx rfl (hb hby at_51) kont) ?_
  show own_Go p e below s _ _ _ (T4.setTop (mkF m 52 #[.val (.int ba), .val (.int bb), .val (.int bc), .val (.int bd), .val (.int (2147483647 : Int32)), .val (.int (bb ||| (1 : Int32))), .val (.ref ua), .unset, .unset, .unset, .unset] [(.int (3 : Int32)), (.int ba), (.int (3 : Int32)), (.ref ua)]))
  refine own_st (fun _ kont => XS.iload X4.here hx rfl (hb hby at_52) rfl kont) ?_
  show own_Go p e below s _ _ _ (T4.setTop (mkF m 54 #[.val (.int ba), .val (.int bb), .val (.int bc), .val (.int bd), .val (.int (2147483647 : Int32)), .val (.int (bb ||| (1 : Int32))), .val (.ref ua), .unset, .unset, .unset, .unset] [(.int (bb ||| (1 : Int32))), (.int (3 : Int32)), (.int ba), (.int (3 : Int32)), (.ref ua)]))
  refine own_st (fun _ kont => XS.imul X4.here hx rfl (hb hby at_54) rfl kont) ?_
  show own_Go p e below s _ _ _ (T4.setTop (mkF m 55 #[.val (.int ba), .val (.int bb), .val (.int bc), .val (.int bd), .val (.int (2147483647 : Int32)), .val (.int (bb ||| (1 : Int32))), .val (.ref ua), .unset, .unset, .unset, .unset] [(.int ((3 : Int32) * (bb ||| (1 : Int32)))), (.int ba), (.int (3 : Int32)), (.ref ua)]))
  refine own_st (fun _ kont => XS.iadd X4.here hx rfl (hb hby at_55) rfl kont) ?_
  show own_Go p e below s _ _ _ (T4.setTop (mkF m 56 #[.val (.int ba), .val (.int bb), .val (.int bc), .val (.int bd), .val (.int (2147483647 : Int32)), .val (.int (bb ||| (1 : Int32))), .val (.ref ua), .unset, .unset, .unset, .unset] [(.int (ba + ((3 : Int32) * (bb ||| (1 : Int32))))), (.int (3 : Int32)), (.ref ua)]))
  refine own_st (fun _ kont => XS.iload X4.here hx rfl (hb hby at_56) rfl kont) ?_
  show own_Go p e below s _ _ _ (T4.setTop (mkF m 58 #[.val (.int ba), .val (.int bb), .val (.int bc), .val (.int bd), .val (.int (2147483647 : Int32)), .val (.int (bb ||| (1 : Int32))), .val (.ref ua), .unset, .unset, .unset, .unset] [(.int (2147483647 : Int32)), (.int (ba + ((3 : Int32) * (bb ||| (1 : Int32))))), (.int (3 : Int32)), (.ref ua)]))
  refine own_st (fun _ kont => XS.iand X4.here hx rfl (hb hby at_58) rfl kont) ?_
  show own_Go p e below s _ _ _ (T4.setTop (mkF m 59 #[.val (.int ba), .val (.int bb), .val (.int bc), .val (.int bd), .val (.int (2147483647 : Int32)), .val (.int (bb ||| (1 : Int32))), .val (.ref ua), .unset, .unset, .unset, .unset] [(.int ((ba + ((3 : Int32) * (bb ||| (1 : Int32)))) &&& (2147483647 : Int32))), (.int (3 : Int32)), (.ref ua)]))
  obtain ⟨T5, h5, X5, e5, W5, Vua_5, st5⟩ := own_stI X4 hx hZ e4 Vua_4 (i := 3) (by decide) (by decide) (g := (mkF m 59 #[.val (.int ba), .val (.int bb), .val (.int bc), .val (.int bd), .val (.int (2147483647 : Int32)), .val (.int (bb ||| (1 : Int32))), .val (.ref ua), .unset, .unset, .unset, .unset] [(.int ((ba + ((3 : Int32) * (bb ||| (1 : Int32)))) &&& (2147483647 : Int32))), (.int (3 : Int32)), (.ref ua)])) rfl rfl (hb hby at_59)
  have sz5 := Nat.le_trans sz4 (Keep.of_wr W5).1
  have N5 := Fr.snoc X5 N4 fr_ua
  refine own_st st5 ?_
  show own_Go p e below s _ _ _ (T5.setTop (mkF m 60 #[.val (.int ba), .val (.int bb), .val (.int bc), .val (.int bd), .val (.int (2147483647 : Int32)), .val (.int (bb ||| (1 : Int32))), .val (.ref ua), .unset, .unset, .unset, .unset] []))
  refine own_st (fun _ kont => XS.aload X5.here hx rfl (hb hby at_60) rfl rfl kont) ?_
  show own_Go p e below s _ _ _ (T5.setTop (mkF m 62 #[.val (.int ba), .val (.int bb), .val (.int bc), .val (.int bd), .val (.int (2147483647 : Int32)), .val (.int (bb ||| (1 : Int32))), .val (.ref ua), .unset, .unset, .unset, .unset] [(.ref ua)]))
  refine own_st (fun _ kont => XS.iconst X5.here hx rfl (hb hby at_62) kont) ?_
  show own_Go p e below s _ _ _ (T5.setTop (mkF m 63 #[.val (.int ba), .val (.int bb), .val (.int bc), .val (.int bd), .val (.int (2147483647 : Int32)), .val (.int (bb ||| (1 : Int32))), .val (.ref ua), .unset, .unset, .unset, .unset] [(.int (4 : Int32)), (.ref ua)]))
  refine own_st (fun _ kont => XS.iloadN X5.here hx rfl (hb hby at_63) rfl kont) ?_
  show own_Go p e below s _ _ _ (T5.setTop (mkF m 64 #[.val (.int ba), .val (.int bb), .val (.int bc), .val (.int bd), .val (.int (2147483647 : Int32)), .val (.int (bb ||| (1 : Int32))), .val (.ref ua), .unset, .unset, .unset, .unset] [(.int ba), (.int (4 : Int32)), (.ref ua)]))
  refine own_st (fun _ kont => XS.iconst X5.here hx rfl (hb hby at_64) kont) ?_
  show own_Go p e below s _ _ _ (T5.setTop (mkF m 65 #[.val (.int ba), .val (.int bb), .val (.int bc), .val (.int bd), .val (.int (2147483647 : Int32)), .val (.int (bb ||| (1 : Int32))), .val (.ref ua), .unset, .unset, .unset, .unset] [(.int (4 : Int32)), (.int ba), (.int (4 : Int32)), (.ref ua)]))
  refine own_st (fun _ kont => XS.iload X5.here hx rfl (hb hby at_65) rfl kont) ?_
  show own_Go p e below s _ _ _ (T5.setTop (mkF m 67 #[.val (.int ba), .val (.int bb), .val (.int bc), .val (.int bd), .val (.int (2147483647 : Int32)), .val (.int (bb ||| (1 : Int32))), .val (.ref ua), .unset, .unset, .unset, .unset] [(.int (bb ||| (1 : Int32))), (.int (4 : Int32)), (.int ba), (.int (4 : Int32)), (.ref ua)]))
  refine own_st (fun _ kont => XS.imul X5.here hx rfl (hb hby at_67) rfl kont) ?_
  show own_Go p e below s _ _ _ (T5.setTop (mkF m 68 #[.val (.int ba), .val (.int bb), .val (.int bc), .val (.int bd), .val (.int (2147483647 : Int32)), .val (.int (bb ||| (1 : Int32))), .val (.ref ua), .unset, .unset, .unset, .unset] [(.int ((4 : Int32) * (bb ||| (1 : Int32)))), (.int ba), (.int (4 : Int32)), (.ref ua)]))
  refine own_st (fun _ kont => XS.iadd X5.here hx rfl (hb hby at_68) rfl kont) ?_
  show own_Go p e below s _ _ _ (T5.setTop (mkF m 69 #[.val (.int ba), .val (.int bb), .val (.int bc), .val (.int bd), .val (.int (2147483647 : Int32)), .val (.int (bb ||| (1 : Int32))), .val (.ref ua), .unset, .unset, .unset, .unset] [(.int (ba + ((4 : Int32) * (bb ||| (1 : Int32))))), (.int (4 : Int32)), (.ref ua)]))
  refine own_st (fun _ kont => XS.iload X5.here hx rfl (hb hby at_69) rfl kont) ?_
  show own_Go p e below s _ _ _ (T5.setTop (mkF m 71 #[.val (.int ba), .val (.int bb), .val (.int bc), .val (.int bd), .val (.int (2147483647 : Int32)), .val (.int (bb ||| (1 : Int32))), .val (.ref ua), .unset, .unset, .unset, .unset] [(.int (2147483647 : Int32)), (.int (ba + ((4 : Int32) * (bb ||| (1 : Int32))))), (.int (4 : Int32)), (.ref ua)]))
  refine own_st (fun _ kont => XS.iand X5.here hx rfl (hb hby at_71) rfl kont) ?_
  show own_Go p e below s _ _ _ (T5.setTop (mkF m 72 #[.val (.int ba), .val (.int bb), .val (.int bc), .val (.int bd), .val (.int (2147483647 : Int32)), .val (.int (bb ||| (1 : Int32))), .val (.ref ua), .unset, .unset, .unset, .unset] [(.int ((ba + ((4 : Int32) * (bb ||| (1 : Int32)))) &&& (2147483647 : Int32))), (.int (4 : Int32)), (.ref ua)]))
  obtain ⟨T6, h6, X6, e6, W6, Vua_6, st6⟩ := own_stI X5 hx hZ e5 Vua_5 (i := 4) (by decide) (by decide) (g := (mkF m 72 #[.val (.int ba), .val (.int bb), .val (.int bc), .val (.int bd), .val (.int (2147483647 : Int32)), .val (.int (bb ||| (1 : Int32))), .val (.ref ua), .unset, .unset, .unset, .unset] [(.int ((ba + ((4 : Int32) * (bb ||| (1 : Int32)))) &&& (2147483647 : Int32))), (.int (4 : Int32)), (.ref ua)])) rfl rfl (hb hby at_72)
  have sz6 := Nat.le_trans sz5 (Keep.of_wr W6).1
  have N6 := Fr.snoc X6 N5 fr_ua
  refine own_st st6 ?_
  show own_Go p e below s _ _ _ (T6.setTop (mkF m 73 #[.val (.int ba), .val (.int bb), .val (.int bc), .val (.int bd), .val (.int (2147483647 : Int32)), .val (.int (bb ||| (1 : Int32))), .val (.ref ua), .unset, .unset, .unset, .unset] []))
  refine own_st (fun _ kont => XS.aload X6.here hx rfl (hb hby at_73) rfl rfl kont) ?_
  show own_Go p e below s _ _ _ (T6.setTop (mkF m 75 #[.val (.int ba), .val (.int bb), .val (.int bc), .val (.int bd), .val (.int (2147483647 : Int32)), .val (.int (bb ||| (1 : Int32))), .val (.ref ua), .unset, .unset, .unset, .unset] [(.ref ua)]))
  refine own_st (fun _ kont => XS.iconst X6.here hx rfl (hb hby at_75) kont) ?_
  show own_Go p e below s _ _ _ (T6.setTop (mkF m 76 #[.val (.int ba), .val (.int bb), .val (.int bc), .val (.int bd), .val (.int (2147483647 : Int32)), .val (.int (bb ||| (1 : Int32))), .val (.ref ua), .unset, .unset, .unset, .unset] [(.int (5 : Int32)), (.ref ua)]))
  refine own_st (fun _ kont => XS.iloadN X6.here hx rfl (hb hby at_76) rfl kont) ?_
  show own_Go p e below s _ _ _ (T6.setTop (mkF m 77 #[.val (.int ba), .val (.int bb), .val (.int bc), .val (.int bd), .val (.int (2147483647 : Int32)), .val (.int (bb ||| (1 : Int32))), .val (.ref ua), .unset, .unset, .unset, .unset] [(.int ba), (.int (5 : Int32)), (.ref ua)]))
  refine own_st (fun _ kont => XS.iconst X6.here hx rfl (hb hby at_77) kont) ?_
  show own_Go p e below s _ _ _ (T6.setTop (mkF m 78 #[.val (.int ba), .val (.int bb), .val (.int bc), .val (.int bd), .val (.int (2147483647 : Int32)), .val (.int (bb ||| (1 : Int32))), .val (.ref ua), .unset, .unset, .unset, .unset] [(.int (5 : Int32)), (.int ba), (.int (5 : Int32)), (.ref ua)]))
  refine own_st (fun _ kont => XS.iload X6.here hx rfl (hb hby at_78) rfl kont) ?_
  show own_Go p e below s _ _ _ (T6.setTop (mkF m 80 #[.val (.int ba), .val (.int bb), .val (.int bc), .val (.int bd), .val (.int (2147483647 : Int32)), .val (.int (bb ||| (1 : Int32))), .val (.ref ua), .unset, .unset, .unset, .unset] [(.int (bb ||| (1 : Int32))), (.int (5 : Int32)), (.int ba), (.int (5 : Int32)), (.ref ua)]))
  refine own_st (fun _ kont => XS.imul X6.here hx rfl (hb hby at_80) rfl kont) ?_
  show own_Go p e below s _ _ _ (T6.setTop (mkF m 81 #[.val (.int ba), .val (.int bb), .val (.int bc), .val (.int bd), .val (.int (2147483647 : Int32)), .val (.int (bb ||| (1 : Int32))), .val (.ref ua), .unset, .unset, .unset, .unset] [(.int ((5 : Int32) * (bb ||| (1 : Int32)))), (.int ba), (.int (5 : Int32)), (.ref ua)]))
  refine own_st (fun _ kont => XS.iadd X6.here hx rfl (hb hby at_81) rfl kont) ?_
  show own_Go p e below s _ _ _ (T6.setTop (mkF m 82 #[.val (.int ba), .val (.int bb), .val (.int bc), .val (.int bd), .val (.int (2147483647 : Int32)), .val (.int (bb ||| (1 : Int32))), .val (.ref ua), .unset, .unset, .unset, .unset] [(.int (ba + ((5 : Int32) * (bb ||| (1 : Int32))))), (.int (5 : Int32)), (.ref ua)]))
  refine own_st (fun _ kont => XS.iload X6.here hx rfl (hb hby at_82) rfl kont) ?_
  show own_Go p e below s _ _ _ (T6.setTop (mkF m 84 #[.val (.int ba), .val (.int bb), .val (.int bc), .val (.int bd), .val (.int (2147483647 : Int32)), .val (.int (bb ||| (1 : Int32))), .val (.ref ua), .unset, .unset, .unset, .unset] [(.int (2147483647 : Int32)), (.int (ba + ((5 : Int32) * (bb ||| (1 : Int32))))), (.int (5 : Int32)), (.ref ua)]))
  refine own_st (fun _ kont => XS.iand X6.here hx rfl (hb hby at_84) rfl kont) ?_
  show own_Go p e below s _ _ _ (T6.setTop (mkF m 85 #[.val (.int ba), .val (.int bb), .val (.int bc), .val (.int bd), .val (.int (2147483647 : Int32)), .val (.int (bb ||| (1 : Int32))), .val (.ref ua), .unset, .unset, .unset, .unset] [(.int ((ba + ((5 : Int32) * (bb ||| (1 : Int32)))) &&& (2147483647 : Int32))), (.int (5 : Int32)), (.ref ua)]))
  obtain ⟨T7, h7, X7, e7, W7, Vua_7, st7⟩ := own_stI X6 hx hZ e6 Vua_6 (i := 5) (by decide) (by decide) (g := (mkF m 85 #[.val (.int ba), .val (.int bb), .val (.int bc), .val (.int bd), .val (.int (2147483647 : Int32)), .val (.int (bb ||| (1 : Int32))), .val (.ref ua), .unset, .unset, .unset, .unset] [(.int ((ba + ((5 : Int32) * (bb ||| (1 : Int32)))) &&& (2147483647 : Int32))), (.int (5 : Int32)), (.ref ua)])) rfl rfl (hb hby at_85)
  have sz7 := Nat.le_trans sz6 (Keep.of_wr W7).1
  have N7 := Fr.snoc X7 N6 fr_ua
  refine own_st st7 ?_
  show own_Go p e below s _ _ _ (T7.setTop (mkF m 86 #[.val (.int ba), .val (.int bb), .val (.int bc), .val (.int bd), .val (.int (2147483647 : Int32)), .val (.int (bb ||| (1 : Int32))), .val (.ref ua), .unset, .unset, .unset, .unset] []))
  refine own_st (fun _ kont => XS.aload X7.here hx rfl (hb hby at_86) rfl rfl kont) ?_
  show own_Go p e below s _ _ _ (T7.setTop (mkF m 88 #[.val (.int ba), .val (.int bb), .val (.int bc), .val (.int bd), .val (.int (2147483647 : Int32)), .val (.int (bb ||| (1 : Int32))), .val (.ref ua), .unset, .unset, .unset, .unset] [(.ref ua)]))
  refine own_st (fun _ kont => XS.bipush X7.here hx rfl (hb hby at_88) kont) ?_
  show own_Go p e below s _ _ _ (T7.setTop (mkF m 90 #[.val (.int ba), .val (.int bb), .val (.int bc), .val (.int bd), .val (.int (2147483647 : Int32)), .val (.int (bb ||| (1 : Int32))), .val (.ref ua), .unset, .unset, .unset, .unset] [(.int (6 : Int32)), (.ref ua)]))
  refine own_st (fun _ kont => XS.iloadN X7.here hx rfl (hb hby at_90) rfl kont) ?_
  show own_Go p e below s _ _ _ (T7.setTop (mkF m 91 #[.val (.int ba), .val (.int bb), .val (.int bc), .val (.int bd), .val (.int (2147483647 : Int32)), .val (.int (bb ||| (1 : Int32))), .val (.ref ua), .unset, .unset, .unset, .unset] [(.int ba), (.int (6 : Int32)), (.ref ua)]))
  refine own_st (fun _ kont => XS.bipush X7.here hx rfl (hb hby at_91) kont) ?_
  show own_Go p e below s _ _ _ (T7.setTop (mkF m 93 #[.val (.int ba), .val (.int bb), .val (.int bc), .val (.int bd), .val (.int (2147483647 : Int32)), .val (.int (bb ||| (1 : Int32))), .val (.ref ua), .unset, .unset, .unset, .unset] [(.int (6 : Int32)), (.int ba), (.int (6 : Int32)), (.ref ua)]))
  refine own_st (fun _ kont => XS.iload X7.here hx rfl (hb hby at_93) rfl kont) ?_
  show own_Go p e below s _ _ _ (T7.setTop (mkF m 95 #[.val (.int ba), .val (.int bb), .val (.int bc), .val (.int bd), .val (.int (2147483647 : Int32)), .val (.int (bb ||| (1 : Int32))), .val (.ref ua), .unset, .unset, .unset, .unset] [(.int (bb ||| (1 : Int32))), (.int (6 : Int32)), (.int ba), (.int (6 : Int32)), (.ref ua)]))
  refine own_st (fun _ kont => XS.imul X7.here hx rfl (hb hby at_95) rfl kont) ?_
  show own_Go p e below s _ _ _ (T7.setTop (mkF m 96 #[.val (.int ba), .val (.int bb), .val (.int bc), .val (.int bd), .val (.int (2147483647 : Int32)), .val (.int (bb ||| (1 : Int32))), .val (.ref ua), .unset, .unset, .unset, .unset] [(.int ((6 : Int32) * (bb ||| (1 : Int32)))), (.int ba), (.int (6 : Int32)), (.ref ua)]))
  refine own_st (fun _ kont => XS.iadd X7.here hx rfl (hb hby at_96) rfl kont) ?_
  show own_Go p e below s _ _ _ (T7.setTop (mkF m 97 #[.val (.int ba), .val (.int bb), .val (.int bc), .val (.int bd), .val (.int (2147483647 : Int32)), .val (.int (bb ||| (1 : Int32))), .val (.ref ua), .unset, .unset, .unset, .unset] [(.int (ba + ((6 : Int32) * (bb ||| (1 : Int32))))), (.int (6 : Int32)), (.ref ua)]))
  refine own_st (fun _ kont => XS.iload X7.here hx rfl (hb hby at_97) rfl kont) ?_
  show own_Go p e below s _ _ _ (T7.setTop (mkF m 99 #[.val (.int ba), .val (.int bb), .val (.int bc), .val (.int bd), .val (.int (2147483647 : Int32)), .val (.int (bb ||| (1 : Int32))), .val (.ref ua), .unset, .unset, .unset, .unset] [(.int (2147483647 : Int32)), (.int (ba + ((6 : Int32) * (bb ||| (1 : Int32))))), (.int (6 : Int32)), (.ref ua)]))
  refine own_st (fun _ kont => XS.iand X7.here hx rfl (hb hby at_99) rfl kont) ?_
  show own_Go p e below s _ _ _ (T7.setTop (mkF m 100 #[.val (.int ba), .val (.int bb), .val (.int bc), .val (.int bd), .val (.int (2147483647 : Int32)), .val (.int (bb ||| (1 : Int32))), .val (.ref ua), .unset, .unset, .unset, .unset] [(.int ((ba + ((6 : Int32) * (bb ||| (1 : Int32)))) &&& (2147483647 : Int32))), (.int (6 : Int32)), (.ref ua)]))
  obtain ⟨T8, h8, X8, e8, W8, Vua_8, st8⟩ := own_stI X7 hx hZ e7 Vua_7 (i := 6) (by decide) (by decide) (g := (mkF m 100 #[.val (.int ba), .val (.int bb), .val (.int bc), .val (.int bd), .val (.int (2147483647 : Int32)), .val (.int (bb ||| (1 : Int32))), .val (.ref ua), .unset, .unset, .unset, .unset] [(.int ((ba + ((6 : Int32) * (bb ||| (1 : Int32)))) &&& (2147483647 : Int32))), (.int (6 : Int32)), (.ref ua)])) rfl rfl (hb hby at_100)
  have sz8 := Nat.le_trans sz7 (Keep.of_wr W8).1
  have N8 := Fr.snoc X8 N7 fr_ua
  refine own_st st8 ?_
  show own_Go p e below s _ _ _ (T8.setTop (mkF m 101 #[.val (.int ba), .val (.int bb), .val (.int bc), .val (.int bd), .val (.int (2147483647 : Int32)), .val (.int (bb ||| (1 : Int32))), .val (.ref ua), .unset, .unset, .unset, .unset] []))
  refine own_st (fun _ kont => XS.aload X8.here hx rfl (hb hby at_101) rfl rfl kont) ?_
  show own_Go p e below s _ _ _ (T8.setTop (mkF m 103 #[.val (.int ba), .val (.int bb), .val (.int bc), .val (.int bd), .val (.int (2147483647 : Int32)), .val (.int (bb ||| (1 : Int32))), .val (.ref ua), .unset, .unset, .unset, .unset] [(.ref ua)]))
  refine own_st (fun _ kont => XS.bipush X8.here hx rfl (hb hby at_103) kont) ?_
  show own_Go p e below s _ _ _ (T8.setTop (mkF m 105 #[.val (.int ba), .val (.int bb), .val (.int bc), .val (.int bd), .val (.int (2147483647 : Int32)), .val (.int (bb ||| (1 : Int32))), .val (.ref ua), .unset, .unset, .unset, .unset] [(.int (7 : Int32)), (.ref ua)]))
  refine own_st (fun _ kont => XS.iloadN X8.here hx rfl (hb hby at_105) rfl kont) ?_
  show own_Go p e below s _ _ _ (T8.setTop (mkF m 106 #[.val (.int ba), .val (.int bb), .val (.int bc), .val (.int bd), .val (.int (2147483647 : Int32)), .val (.int (bb ||| (1 : Int32))), .val (.ref ua), .unset, .unset, .unset, .unset] [(.int ba), (.int (7 : Int32)), (.ref ua)]))
  refine own_st (fun _ kont => XS.bipush X8.here hx rfl (hb hby at_106) kont) ?_
  show own_Go p e below s _ _ _ (T8.setTop (mkF m 108 #[.val (.int ba), .val (.int bb), .val (.int bc), .val (.int bd), .val (.int (2147483647 : Int32)), .val (.int (bb ||| (1 : Int32))), .val (.ref ua), .unset, .unset, .unset, .unset] [(.int (7 : Int32)), (.int ba), (.int (7 : Int32)), (.ref ua)]))
  refine own_st (fun _ kont => XS.iload X8.here hx rfl (hb hby at_108) rfl kont) ?_
  show own_Go p e below s _ _ _ (T8.setTop (mkF m 110 #[.val (.int ba), .val (.int bb), .val (.int bc), .val (.int bd), .val (.int (2147483647 : Int32)), .val (.int (bb ||| (1 : Int32))), .val (.ref ua), .unset, .unset, .unset, .unset] [(.int (bb ||| (1 : Int32))), (.int (7 : Int32)), (.int ba), (.int (7 : Int32)), (.ref ua)]))
  refine own_st (fun _ kont => XS.imul X8.here hx rfl (hb hby at_110) rfl kont) ?_
  show own_Go p e below s _ _ _ (T8.setTop (mkF m 111 #[.val (.int ba), .val (.int bb), .val (.int bc), .val (.int bd), .val (.int (2147483647 : Int32)), .val (.int (bb ||| (1 : Int32))), .val (.ref ua), .unset, .unset, .unset, .unset] [(.int ((7 : Int32) * (bb ||| (1 : Int32)))), (.int ba), (.int (7 : Int32)), (.ref ua)]))
  refine own_st (fun _ kont => XS.iadd X8.here hx rfl (hb hby at_111) rfl kont) ?_
  show own_Go p e below s _ _ _ (T8.setTop (mkF m 112 #[.val (.int ba), .val (.int bb), .val (.int bc), .val (.int bd), .val (.int (2147483647 : Int32)), .val (.int (bb ||| (1 : Int32))), .val (.ref ua), .unset, .unset, .unset, .unset] [(.int (ba + ((7 : Int32) * (bb ||| (1 : Int32))))), (.int (7 : Int32)), (.ref ua)]))
  refine own_st (fun _ kont => XS.iload X8.here hx rfl (hb hby at_112) rfl kont) ?_
  show own_Go p e below s _ _ _ (T8.setTop (mkF m 114 #[.val (.int ba), .val (.int bb), .val (.int bc), .val (.int bd), .val (.int (2147483647 : Int32)), .val (.int (bb ||| (1 : Int32))), .val (.ref ua), .unset, .unset, .unset, .unset] [(.int (2147483647 : Int32)), (.int (ba + ((7 : Int32) * (bb ||| (1 : Int32))))), (.int (7 : Int32)), (.ref ua)]))
  refine own_st (fun _ kont => XS.iand X8.here hx rfl (hb hby at_114) rfl kont) ?_
  show own_Go p e below s _ _ _ (T8.setTop (mkF m 115 #[.val (.int ba), .val (.int bb), .val (.int bc), .val (.int bd), .val (.int (2147483647 : Int32)), .val (.int (bb ||| (1 : Int32))), .val (.ref ua), .unset, .unset, .unset, .unset] [(.int ((ba + ((7 : Int32) * (bb ||| (1 : Int32)))) &&& (2147483647 : Int32))), (.int (7 : Int32)), (.ref ua)]))
  obtain ⟨T9, h9, X9, e9, W9, Vua_9, st9⟩ := own_stI X8 hx hZ e8 Vua_8 (i := 7) (by decide) (by decide) (g := (mkF m 115 #[.val (.int ba), .val (.int bb), .val (.int bc), .val (.int bd), .val (.int (2147483647 : Int32)), .val (.int (bb ||| (1 : Int32))), .val (.ref ua), .unset, .unset, .unset, .unset] [(.int ((ba + ((7 : Int32) * (bb ||| (1 : Int32)))) &&& (2147483647 : Int32))), (.int (7 : Int32)), (.ref ua)])) rfl rfl (hb hby at_115)
  have sz9 := Nat.le_trans sz8 (Keep.of_wr W9).1
  have N9 := Fr.snoc X9 N8 fr_ua
  refine own_st st9 ?_
  show own_Go p e below s _ _ _ (T9.setTop (mkF m 116 #[.val (.int ba), .val (.int bb), .val (.int bc), .val (.int bd), .val (.int (2147483647 : Int32)), .val (.int (bb ||| (1 : Int32))), .val (.ref ua), .unset, .unset, .unset, .unset] []))
  refine own_st (fun _ kont => XS.aload X9.here hx rfl (hb hby at_116) rfl rfl kont) ?_
  show own_Go p e below s _ _ _ (T9.setTop (mkF m 118 #[.val (.int ba), .val (.int bb), .val (.int bc), .val (.int bd), .val (.int (2147483647 : Int32)), .val (.int (bb ||| (1 : Int32))), .val (.ref ua), .unset, .unset, .unset, .unset] [(.ref ua)]))
  refine own_st (fun _ kont => XS.bipush X9.here hx rfl (hb hby at_118) kont) ?_
  show own_Go p e below s _ _ _ (T9.setTop (mkF m 120 #[.val (.int ba), .val (.int bb), .val (.int bc), .val (.int bd), .val (.int (2147483647 : Int32)), .val (.int (bb ||| (1 : Int32))), .val (.ref ua), .unset, .unset, .unset, .unset] [(.int (8 : Int32)), (.ref ua)]))
  refine own_st (fun _ kont => XS.iloadN X9.here hx rfl (hb hby at_120) rfl kont) ?_
  show own_Go p e below s _ _ _ (T9.setTop (mkF m 121 #[.val (.int ba), .val (.int bb), .val (.int bc), .val (.int bd), .val (.int (2147483647 : Int32)), .val (.int (bb ||| (1 : Int32))), .val (.ref ua), .unset, .unset, .unset, .unset] [(.int ba), (.int (8 : Int32)), (.ref ua)]))
  refine own_st (fun _ kont => XS.bipush X9.here hx rfl (hb hby at_121) kont) ?_
  show own_Go p e below s _ _ _ (T9.setTop (mkF m 123 #[.val (.int ba), .val (.int bb), .val (.int bc), .val (.int bd), .val (.int (2147483647 : Int32)), .val (.int (bb ||| (1 : Int32))), .val (.ref ua), .unset, .unset, .unset, .unset] [(.int (8 : Int32)), (.int ba), (.int (8 : Int32)), (.ref ua)]))
  refine own_st (fun _ kont => XS.iload X9.here hx rfl (hb hby at_123) rfl kont) ?_
  show own_Go p e below s _ _ _ (T9.setTop (mkF m 125 #[.val (.int ba), .val (.int bb), .val (.int bc), .val (.int bd), .val (.int (2147483647 : Int32)), .val (.int (bb ||| (1 : Int32))), .val (.ref ua), .unset, .unset, .unset, .unset] [(.int (bb ||| (1 : Int32))), (.int (8 : Int32)), (.int ba), (.int (8 : Int32)), (.ref ua)]))
  refine own_st (fun _ kont => XS.imul X9.here hx rfl (hb hby at_125) rfl kont) ?_
  show own_Go p e below s _ _ _ (T9.setTop (mkF m 126 #[.val (.int ba), .val (.int bb), .val (.int bc), .val (.int bd), .val (.int (2147483647 : Int32)), .val (.int (bb ||| (1 : Int32))), .val (.ref ua), .unset, .unset, .unset, .unset] [(.int ((8 : Int32) * (bb ||| (1 : Int32)))), (.int ba), (.int (8 : Int32)), (.ref ua)]))
  refine own_st (fun _ kont => XS.iadd X9.here hx rfl (hb hby at_126) rfl kont) ?_
  show own_Go p e below s _ _ _ (T9.setTop (mkF m 127 #[.val (.int ba), .val (.int bb), .val (.int bc), .val (.int bd), .val (.int (2147483647 : Int32)), .val (.int (bb ||| (1 : Int32))), .val (.ref ua), .unset, .unset, .unset, .unset] [(.int (ba + ((8 : Int32) * (bb ||| (1 : Int32))))), (.int (8 : Int32)), (.ref ua)]))
  refine own_st (fun _ kont => XS.iload X9.here hx rfl (hb hby at_127) rfl kont) ?_
  show own_Go p e below s _ _ _ (T9.setTop (mkF m 129 #[.val (.int ba), .val (.int bb), .val (.int bc), .val (.int bd), .val (.int (2147483647 : Int32)), .val (.int (bb ||| (1 : Int32))), .val (.ref ua), .unset, .unset, .unset, .unset] [(.int (2147483647 : Int32)), (.int (ba + ((8 : Int32) * (bb ||| (1 : Int32))))), (.int (8 : Int32)), (.ref ua)]))
  refine own_st (fun _ kont => XS.iand X9.here hx rfl (hb hby at_129) rfl kont) ?_
  show own_Go p e below s _ _ _ (T9.setTop (mkF m 130 #[.val (.int ba), .val (.int bb), .val (.int bc), .val (.int bd), .val (.int (2147483647 : Int32)), .val (.int (bb ||| (1 : Int32))), .val (.ref ua), .unset, .unset, .unset, .unset] [(.int ((ba + ((8 : Int32) * (bb ||| (1 : Int32)))) &&& (2147483647 : Int32))), (.int (8 : Int32)), (.ref ua)]))
  obtain ⟨T10, h10, X10, e10, W10, Vua_10, st10⟩ := own_stI X9 hx hZ e9 Vua_9 (i := 8) (by decide) (by decide) (g := (mkF m 130 #[.val (.int ba), .val (.int bb), .val (.int bc), .val (.int bd), .val (.int (2147483647 : Int32)), .val (.int (bb ||| (1 : Int32))), .val (.ref ua), .unset, .unset, .unset, .unset] [(.int ((ba + ((8 : Int32) * (bb ||| (1 : Int32)))) &&& (2147483647 : Int32))), (.int (8 : Int32)), (.ref ua)])) rfl rfl (hb hby at_130)
  have sz10 := Nat.le_trans sz9 (Keep.of_wr W10).1
  have N10 := Fr.snoc X10 N9 fr_ua
  refine own_st st10 ?_
  show own_Go p e below s _ _ _ (T10.setTop (mkF m 131 #[.val (.int ba), .val (.int bb), .val (.int bc), .val (.int bd), .val (.int (2147483647 : Int32)), .val (.int (bb ||| (1 : Int32))), .val (.ref ua), .unset, .unset, .unset, .unset] []))
  refine own_st (fun _ kont => XS.aload X10.here hx rfl (hb hby at_131) rfl rfl kont) ?_
  show own_Go p e below s _ _ _ (T10.setTop (mkF m 133 #[.val (.int ba), .val (.int bb), .val (.int bc), .val (.int bd), .val (.int (2147483647 : Int32)), .val (.int (bb ||| (1 : Int32))), .val (.ref ua), .unset, .unset, .unset, .unset] [(.ref ua)]))
  refine own_st (fun _ kont => XS.bipush X10.here hx rfl (hb hby at_133) kont) ?_
  show own_Go p e below s _ _ _ (T10.setTop (mkF m 135 #[.val (.int ba), .val (.int bb), .val (.int bc), .val (.int bd), .val (.int (2147483647 : Int32)), .val (.int (bb ||| (1 : Int32))), .val (.ref ua), .unset, .unset, .unset, .unset] [(.int (9 : Int32)), (.ref ua)]))
  refine own_st (fun _ kont => XS.iloadN X10.here hx rfl (hb hby at_135) rfl kont) ?_
  show own_Go p e below s _ _ _ (T10.setTop (mkF m 136 #[.val (.int ba), .val (.int bb), .val (.int bc), .val (.int bd), .val (.int (2147483647 : Int32)), .val (.int (bb ||| (1 : Int32))), .val (.ref ua), .unset, .unset, .unset, .unset] [(.int ba), (.int (9 : Int32)), (.ref ua)]))
  refine own_st (fun _ kont => XS.bipush X10.here hx rfl (hb hby at_136) kont) ?_
  show own_Go p e below s _ _ _ (T10.setTop (mkF m 138 #[.val (.int ba), .val (.int bb), .val (.int bc), .val (.int bd), .val (.int (2147483647 : Int32)), .val (.int (bb ||| (1 : Int32))), .val (.ref ua), .unset, .unset, .unset, .unset] [(.int (9 : Int32)), (.int ba), (.int (9 : Int32)), (.ref ua)]))
  refine own_st (fun _ kont => XS.iload X10.here hx rfl (hb hby at_138) rfl kont) ?_
  show own_Go p e below s _ _ _ (T10.setTop (mkF m 140 #[.val (.int ba), .val (.int bb), .val (.int bc), .val (.int bd), .val (.int (2147483647 : Int32)), .val (.int (bb ||| (1 : Int32))), .val (.ref ua), .unset, .unset, .unset, .unset] [(.int (bb ||| (1 : Int32))), (.int (9 : Int32)), (.int ba), (.int (9 : Int32)), (.ref ua)]))
  refine own_st (fun _ kont => XS.imul X10.here hx rfl (hb hby at_140) rfl kont) ?_
  show own_Go p e below s _ _ _ (T10.setTop (mkF m 141 #[.val (.int ba), .val (.int bb), .val (.int bc), .val (.int bd), .val (.int (2147483647 : Int32)), .val (.int (bb ||| (1 : Int32))), .val (.ref ua), .unset, .unset, .unset, .unset] [(.int ((9 : Int32) * (bb ||| (1 : Int32)))), (.int ba), (.int (9 : Int32)), (.ref ua)]))
  refine own_st (fun _ kont => XS.iadd X10.here hx rfl (hb hby at_141) rfl kont) ?_
  show own_Go p e below s _ _ _ (T10.setTop (mkF m 142 #[.val (.int ba), .val (.int bb), .val (.int bc), .val (.int bd), .val (.int (2147483647 : Int32)), .val (.int (bb ||| (1 : Int32))), .val (.ref ua), .unset, .unset, .unset, .unset] [(.int (ba + ((9 : Int32) * (bb ||| (1 : Int32))))), (.int (9 : Int32)), (.ref ua)]))
  refine own_st (fun _ kont => XS.iload X10.here hx rfl (hb hby at_142) rfl kont) ?_
  show own_Go p e below s _ _ _ (T10.setTop (mkF m 144 #[.val (.int ba), .val (.int bb), .val (.int bc), .val (.int bd), .val (.int (2147483647 : Int32)), .val (.int (bb ||| (1 : Int32))), .val (.ref ua), .unset, .unset, .unset, .unset] [(.int (2147483647 : Int32)), (.int (ba + ((9 : Int32) * (bb ||| (1 : Int32))))), (.int (9 : Int32)), (.ref ua)]))
  refine own_st (fun _ kont => XS.iand X10.here hx rfl (hb hby at_144) rfl kont) ?_
  show own_Go p e below s _ _ _ (T10.setTop (mkF m 145 #[.val (.int ba), .val (.int bb), .val (.int bc), .val (.int bd), .val (.int (2147483647 : Int32)), .val (.int (bb ||| (1 : Int32))), .val (.ref ua), .unset, .unset, .unset, .unset] [(.int ((ba + ((9 : Int32) * (bb ||| (1 : Int32)))) &&& (2147483647 : Int32))), (.int (9 : Int32)), (.ref ua)]))
  obtain ⟨T11, h11, X11, e11, W11, Vua_11, st11⟩ := own_stI X10 hx hZ e10 Vua_10 (i := 9) (by decide) (by decide) (g := (mkF m 145 #[.val (.int ba), .val (.int bb), .val (.int bc), .val (.int bd), .val (.int (2147483647 : Int32)), .val (.int (bb ||| (1 : Int32))), .val (.ref ua), .unset, .unset, .unset, .unset] [(.int ((ba + ((9 : Int32) * (bb ||| (1 : Int32)))) &&& (2147483647 : Int32))), (.int (9 : Int32)), (.ref ua)])) rfl rfl (hb hby at_145)
  have sz11 := Nat.le_trans sz10 (Keep.of_wr W11).1
  have N11 := Fr.snoc X11 N10 fr_ua
  refine own_st st11 ?_
  show own_Go p e below s _ _ _ (T11.setTop (mkF m 146 #[.val (.int ba), .val (.int bb), .val (.int bc), .val (.int bd), .val (.int (2147483647 : Int32)), .val (.int (bb ||| (1 : Int32))), .val (.ref ua), .unset, .unset, .unset, .unset] []))
  obtain ⟨f, hinj, hpos, Vua_11⟩ : ∃ f : Nat → Int32, (∀ i j, i < 10 → j < 10 → f i = f j → i = j) ∧ (∀ i, f i + 1 ≠ 0) ∧ own_Av Z h11 ua .int 10 (fun t => .int (f t)) := by
    refine ⟨own_us ba (bb ||| 1), own_us_inj ba bb, own_us_pos ba (bb ||| 1), Vua_11.congr (fun j hj => ?_)⟩
    have z0 : (0 : Int32) * (bb ||| 1) = 0 := Int32.zero_mul
    have z1 : (1 : Int32) * (bb ||| 1) = (bb ||| 1) := Int32.one_mul _
    rcases (by omega : j = 0 ∨ j = 1 ∨ j = 2 ∨ j = 3 ∨ j = 4 ∨ j = 5 ∨ j = 6 ∨ j = 7 ∨ j = 8 ∨ j = 9) with rfl | rfl | rfl | rfl | rfl | rfl | rfl | rfl | rfl | rfl
    · show Value.int (ba &&& 2147483647) = .int ((ba + (0 : Int32) * (bb ||| 1)) &&& 2147483647)
      rw [z0, Int32.add_zero]
    · show Value.int ((ba + (bb ||| 1)) &&& 2147483647) = .int ((ba + (1 : Int32) * (bb ||| 1)) &&& 2147483647)
      rw [z1]
    all_goals rfl
  show own_Go p e below s _ _ _ (T11.setTop (mkF m 146 #[.val (.int ba), .val (.int bb), .val (.int bc), .val (.int bd), .val (.int (2147483647 : Int32)), .val (.int (bb ||| (1 : Int32))), .val (.ref ua), .unset, .unset, .unset, .unset] []))
  obtain ⟨T12, h12, X12, e12, E12, A12, D12, -, st12⟩ := newO X11 hx hZ hown (hw _ (List.mem_of_getElem? (i := 2) rfl)) (hw _ (List.mem_of_getElem? (i := 3) rfl)) (hw _ (List.mem_of_getElem? (i := 4) rfl)) e11 (g := (mkF m 146 #[.val (.int ba), .val (.int bb), .val (.int bc), .val (.int bd), .val (.int (2147483647 : Int32)), .val (.int (bb ||| (1 : Int32))), .val (.ref ua), .unset, .unset, .unset, .unset] [])) rfl (hb hby at_146) (by decide) (by decide)
  obtain ⟨ui, g12⟩ : ∃ z, z = h11.size := ⟨_, rfl⟩
  rw [← g12] at A12 D12 st12
  have ne_ua_ui : ua ≠ ui := Nat.ne_of_lt (Nat.lt_of_lt_of_eq Vua_11.lt g12.symm)
  have fr_ui : n0 ≤ ui := Nat.le_trans sz11 (Nat.le_of_eq g12.symm)
  have Vua_12 := Vua_11.ext E12
  have sz12 := Nat.le_trans sz11 E12.1
  have EXui := A12
  have Fui_keys : Fld Z h12 ui "com/example/hop_gate/hopgate/UserIndex" "keys" "[I" .null := D12 (Or.inl (hw _ (List.mem_of_getElem? (i := 12) rfl))) (ty := (.array .int)) (by decide)
  have Fui_numbers : Fld Z h12 ui "com/example/hop_gate/hopgate/UserIndex" "numbers" "[I" .null := D12 (Or.inl (hw _ (List.mem_of_getElem? (i := 14) rfl))) (ty := (.array .int)) (by decide)
  have Fui_shift : Fld Z h12 ui "com/example/hop_gate/hopgate/UserIndex" "shift" "I" (.int 0) := D12 (Or.inl (hw _ (List.mem_of_getElem? (i := 16) rfl))) (ty := .int) (by decide)
  have Fui_size : Fld Z h12 ui "com/example/hop_gate/hopgate/UserIndex" "size" "I" (.int 0) := D12 (Or.inl (hw _ (List.mem_of_getElem? (i := 28) rfl))) (ty := .int) (by decide)
  refine own_st st12 ?_
  show own_Go p e below s _ _ _ (T12.setTop (mkF m 149 #[.val (.int ba), .val (.int bb), .val (.int bc), .val (.int bd), .val (.int (2147483647 : Int32)), .val (.int (bb ||| (1 : Int32))), .val (.ref ua), .unset, .unset, .unset, .unset] [(.ref ui)]))
  refine own_st (fun _ kont => XS.dup X12.here hx rfl (hb hby at_149) rfl rfl kont) ?_
  show own_Go p e below s _ _ _ (T12.setTop (mkF m 150 #[.val (.int ba), .val (.int bb), .val (.int bc), .val (.int bd), .val (.int (2147483647 : Int32)), .val (.int (bb ||| (1 : Int32))), .val (.ref ua), .unset, .unset, .unset, .unset] [(.ref ui), (.ref ui)]))
  refine own_cN X12 hx hml hZ rfl hown (hw _ (List.mem_of_getElem? (i := 5) rfl)) (hw _ (List.mem_of_getElem? (i := 6) rfl)) (hw _ (List.mem_of_getElem? (i := 4) rfl)) (hw _ (List.mem_of_getElem? (i := 7) rfl)) (by decide) (own_rm3 l Z a0 hw ui h12 n0 sz12 Fui_keys Fui_numbers Fui_shift Fui_size EXui fr_ui) e12 (by decide) (W := 1) (by decide) (g := (mkF m 150 #[.val (.int ba), .val (.int bb), .val (.int bc), .val (.int bd), .val (.int (2147483647 : Int32)), .val (.int (bb ||| (1 : Int32))), .val (.ref ua), .unset, .unset, .unset, .unset] [(.ref ui), (.ref ui)])) rfl rfl own_pd1 (argsL := []) (rest := [(.ref ui)]) rfl rfl rfl (by show 2 * 0 + _ ≤ _; exact Nat.le_of_eq rfl) (hb hby at_150) (by decide) (by decide) ?_
  intro T13 L13 v13 X13 hQ13
  obtain ⟨ka, na, rfl, Nc13, K13, Fk13, Fn13, Fs13, Fz13, Vk13, Vn13, gk13, kn, gn13⟩ := hQ13
  have fr_ka : n0 ≤ ka := Nat.le_trans sz12 gk13
  have fr_na : n0 ≤ na := Nat.le_trans sz12 gn13
  have nak : ui ≠ ka := Nat.ne_of_lt (Nat.lt_of_lt_of_le EXui.lt gk13)
  have nan : ui ≠ na := Nat.ne_of_lt (Nat.lt_of_lt_of_le EXui.lt gn13)
  have uak : ua ≠ ka := Nat.ne_of_lt (Nat.lt_of_lt_of_le Vua_12.lt gk13)
  have uan : ua ≠ na := Nat.ne_of_lt (Nat.lt_of_lt_of_le Vua_12.lt gn13)
  have N13 := Fr.app N11 Nc13
  have Vua_13 := Vua_12.keep K13 (ninS ne_ua_ui nin0)
  have EXui_13 := EXui.keep K13
  have sz13 := Nat.le_trans sz12 K13.1
  show own_Go p e below s _ _ _ (T13.setTop (mkF m 153 #[.val (.int ba), .val (.int bb), .val (.int bc), .val (.int bd), .val (.int (2147483647 : Int32)), .val (.int (bb ||| (1 : Int32))), .val (.ref ua), .unset, .unset, .unset, .unset] [(.ref ui)]))
  have HT0 : own_T 16 own_hs (fun _ => 0) (fun _ => 0) (own_Su f 0) := own_T_congr own_T_nil fun u n => ⟨fun h => h.elim, fun ⟨r, hr, _⟩ => absurd hr (by omega)⟩
  have hzz0 : 16 ≤ own_zero (fun _ => 0) 16 + 0 := by rw [own_zero_all]; omega
  show own_Go p e below s _ _ _ (T13.setTop (mkF m 153 #[.val (.int ba), .val (.int bb), .val (.int bc), .val (.int bd), .val (.int (2147483647 : Int32)), .val (.int (bb ||| (1 : Int32))), .val (.ref ua), .unset, .unset, .unset, .unset] [(.ref ui)]))
  refine own_st (fun _ kont => XS.astore X13.here hx rfl (hb hby at_153) rfl rfl (l' := #[.val (.int ba), .val (.int bb), .val (.int bc), .val (.int bd), .val (.int (2147483647 : Int32)), .val (.int (bb ||| (1 : Int32))), .val (.ref ua), .val (.ref ui), .unset, .unset, .unset]) rfl kont) ?_
  show own_Go p e below s _ _ _ (T13.setTop (mkF m 155 #[.val (.int ba), .val (.int bb), .val (.int bc), .val (.int bd), .val (.int (2147483647 : Int32)), .val (.int (bb ||| (1 : Int32))), .val (.ref ua), .val (.ref ui), .unset, .unset, .unset] []))
  refine own_st (fun _ kont => XS.aload X13.here hx rfl (hb hby at_155) rfl rfl kont) ?_
  show own_Go p e below s _ _ _ (T13.setTop (mkF m 157 #[.val (.int ba), .val (.int bb), .val (.int bc), .val (.int bd), .val (.int (2147483647 : Int32)), .val (.int (bb ||| (1 : Int32))), .val (.ref ua), .val (.ref ui), .unset, .unset, .unset] [(.ref ui)]))
  refine own_st (fun _ kont => XS.aload X13.here hx rfl (hb hby at_157) rfl rfl kont) ?_
  show own_Go p e below s _ _ _ (T13.setTop (mkF m 159 #[.val (.int ba), .val (.int bb), .val (.int bc), .val (.int bd), .val (.int (2147483647 : Int32)), .val (.int (bb ||| (1 : Int32))), .val (.ref ua), .val (.ref ui), .unset, .unset, .unset] [(.ref ua), (.ref ui)]))
  refine own_st (fun _ kont => XS.iconst X13.here hx rfl (hb hby at_159) kont) ?_
  show own_Go p e below s _ _ _ (T13.setTop (mkF m 160 #[.val (.int ba), .val (.int bb), .val (.int bc), .val (.int bd), .val (.int (2147483647 : Int32)), .val (.int (bb ||| (1 : Int32))), .val (.ref ua), .val (.ref ui), .unset, .unset, .unset] [(.int (0 : Int32)), (.ref ua), (.ref ui)]))
  refine own_st (own_ldI X13 hx hZ (rfl : T13.heap = T13.heap) Vua_13 (i := 0) (by decide) (by decide) (v := (.int (f 0))) rfl (g := (mkF m 160 #[.val (.int ba), .val (.int bb), .val (.int bc), .val (.int bd), .val (.int (2147483647 : Int32)), .val (.int (bb ||| (1 : Int32))), .val (.ref ua), .val (.ref ui), .unset, .unset, .unset] [(.int (0 : Int32)), (.ref ua), (.ref ui)])) rfl rfl (hb hby at_160)) ?_
  show own_Go p e below s _ _ _ (T13.setTop (mkF m 161 #[.val (.int ba), .val (.int bb), .val (.int bc), .val (.int bd), .val (.int (2147483647 : Int32)), .val (.int (bb ||| (1 : Int32))), .val (.ref ua), .val (.ref ui), .unset, .unset, .unset] [(.int (f 0)), (.ref ui)]))
  refine own_cV X13 hx hml hZ hown (hw _ (List.mem_of_getElem? (i := 17) rfl)) (hw _ (List.mem_of_getElem? (i := 18) rfl)) (hw _ (List.mem_of_getElem? (i := 20) rfl)) (hw _ (List.mem_of_getElem? (i := 19) rfl)) (hw _ (List.mem_of_getElem? (i := 4) rfl)) (hw _ (List.mem_of_getElem? (i := 21) rfl)) (by decide) (own_rm7 l Z a0 hw ui (f 0) ka na (fun _ => 0) (fun _ => 0) (own_Su f 0) (0 : Int32) 0 T13.heap n0 sz13 Vk13 Vn13 Fk13 Fn13 Fs13 Fz13 EXui_13 HT0 hzz0 (by omega) fr_ui fr_ka fr_na nak nan kn (own_Su_no hinj (by decide)) (hpos _) (by decide)) (rfl : T13.heap = T13.heap) EXui_13 (by decide) (W := 0) (by decide) (g := (mkF m 161 #[.val (.int ba), .val (.int bb), .val (.int bc), .val (.int bd), .val (.int (2147483647 : Int32)), .val (.int (bb ||| (1 : Int32))), .val (.ref ua), .val (.ref ui), .unset, .unset, .unset] [(.int (f 0)), (.ref ui)])) rfl rfl own_pd0 (argsL := [(.int (f 0))]) (rest := []) rfl rfl rfl (by show 2 * 0 + _ ≤ _; exact Nat.le_of_eq rfl) (hb hby at_161) (by decide) (by decide) ?_
  intro T14 L14 v14 X14 hQ14
  obtain ⟨kf14, nf14, rfl, Nc14, K14, Fk14, Fn14, Fs14, Fz14, Vk14, Vn14, HT14, hz14⟩ := hQ14
  have N14 := Fr.app N13 Nc14
  have Vua_14 := Vua_13.keep K14 (ninS ne_ua_ui (ninS uak (ninS uan nin0)))
  have EXui_14 := EXui_13.keep K14
  have sz14 := Nat.le_trans sz13 K14.1
  show own_Go p e below s _ _ _ (T14.setTop (mkF m 164 #[.val (.int ba), .val (.int bb), .val (.int bc), .val (.int bd), .val (.int (2147483647 : Int32)), .val (.int (bb ||| (1 : Int32))), .val (.ref ua), .val (.ref ui), .unset, .unset, .unset] [(.int (0 : Int32))]))
  replace Fz14 : Fld Z T14.heap ui "com/example/hop_gate/hopgate/UserIndex" "size" "I" (.int (1 : Int32)) := Fz14
  replace HT14 := own_T_congr HT14 (own_Su_more (f := f) (i := 0) (by decide))
  show own_Go p e below s _ _ _ (T14.setTop (mkF m 164 #[.val (.int ba), .val (.int bb), .val (.int bc), .val (.int bd), .val (.int (2147483647 : Int32)), .val (.int (bb ||| (1 : Int32))), .val (.ref ua), .val (.ref ui), .unset, .unset, .unset] [(.int (0 : Int32))]))
  refine own_st (fun _ kont => XS.ifNo X14.here hx rfl (hb hby at_164) rfl (by decide) kont) ?_
  show own_Go p e below s _ _ _ (T14.setTop (mkF m 167 #[.val (.int ba), .val (.int bb), .val (.int bc), .val (.int bd), .val (.int (2147483647 : Int32)), .val (.int (bb ||| (1 : Int32))), .val (.ref ua), .val (.ref ui), .unset, .unset, .unset] []))
  refine own_st (fun _ kont => XS.iconst X14.here hx rfl (hb hby at_167) kont) ?_
  show own_Go p e below s _ _ _ (T14.setTop (mkF m 168 #[.val (.int ba), .val (.int bb), .val (.int bc), .val (.int bd), .val (.int (2147483647 : Int32)), .val (.int (bb ||| (1 : Int32))), .val (.ref ua), .val (.ref ui), .unset, .unset, .unset] [(.int (1 : Int32))]))
  refine own_st (fun _ kont => XS.goto X14.here hx rfl (pc0 := 168) (pc' := 172) rfl (hb hby at_168) (by decide) (by decide) kont) ?_
  show own_Go p e below s _ _ _ (T14.setTop (mkF m 172 #[.val (.int ba), .val (.int bb), .val (.int bc), .val (.int bd), .val (.int (2147483647 : Int32)), .val (.int (bb ||| (1 : Int32))), .val (.ref ua), .val (.ref ui), .unset, .unset, .unset] [(.int (1 : Int32))]))
  refine own_st (fun _ kont => XS.istore X14.here hx rfl (hb hby at_172) rfl (l' := #[.val (.int ba), .val (.int bb), .val (.int bc), .val (.int bd), .val (.int (2147483647 : Int32)), .val (.int (bb ||| (1 : Int32))), .val (.ref ua), .val (.ref ui), .val (.int (1 : Int32)), .unset, .unset]) rfl kont) ?_
  show own_Go p e below s _ _ _ (T14.setTop (mkF m 174 #[.val (.int ba), .val (.int bb), .val (.int bc), .val (.int bd), .val (.int (2147483647 : Int32)), .val (.int (bb ||| (1 : Int32))), .val (.ref ua), .val (.ref ui), .val (.int (1 : Int32)), .unset, .unset] []))
  refine own_st (fun _ kont => XS.iload X14.here hx rfl (hb hby at_174) rfl kont) ?_
  show own_Go p e below s _ _ _ (T14.setTop (mkF m 176 #[.val (.int ba), .val (.int bb), .val (.int bc), .val (.int bd), .val (.int (2147483647 : Int32)), .val (.int (bb ||| (1 : Int32))), .val (.ref ua), .val (.ref ui), .val (.int (1 : Int32)), .unset, .unset] [(.int (1 : Int32))]))
  refine own_st (fun _ kont => XS.aload X14.here hx rfl (hb hby at_176) rfl rfl kont) ?_
  show own_Go p e below s _ _ _ (T14.setTop (mkF m 178 #[.val (.int ba), .val (.int bb), .val (.int bc), .val (.int bd), .val (.int (2147483647 : Int32)), .val (.int (bb ||| (1 : Int32))), .val (.ref ua), .val (.ref ui), .val (.int (1 : Int32)), .unset, .unset] [(.ref ui), (.int (1 : Int32))]))
  refine own_st (fun _ kont => XS.aload X14.here hx rfl (hb hby at_178) rfl rfl kont) ?_
  show own_Go p e below s _ _ _ (T14.setTop (mkF m 180 #[.val (.int ba), .val (.int bb), .val (.int bc), .val (.int bd), .val (.int (2147483647 : Int32)), .val (.int (bb ||| (1 : Int32))), .val (.ref ua), .val (.ref ui), .val (.int (1 : Int32)), .unset, .unset] [(.ref ua), (.ref ui), (.int (1 : Int32))]))
  refine own_st (fun _ kont => XS.iconst X14.here hx rfl (hb hby at_180) kont) ?_
  show own_Go p e below s _ _ _ (T14.setTop (mkF m 181 #[.val (.int ba), .val (.int bb), .val (.int bc), .val (.int bd), .val (.int (2147483647 : Int32)), .val (.int (bb ||| (1 : Int32))), .val (.ref ua), .val (.ref ui), .val (.int (1 : Int32)), .unset, .unset] [(.int (1 : Int32)), (.ref ua), (.ref ui), (.int (1 : Int32))]))
  refine own_st (own_ldI X14 hx hZ (rfl : T14.heap = T14.heap) Vua_14 (i := 1) (by decide) (by decide) (v := (.int (f 1))) rfl (g := (mkF m 181 #[.val (.int ba), .val (.int bb), .val (.int bc), .val (.int bd), .val (.int (2147483647 : Int32)), .val (.int (bb ||| (1 : Int32))), .val (.ref ua), .val (.ref ui), .val (.int (1 : Int32)), .unset, .unset] [(.int (1 : Int32)), (.ref ua), (.ref ui), (.int (1 : Int32))])) rfl rfl (hb hby at_181)) ?_
  show own_Go p e below s _ _ _ (T14.setTop (mkF m 182 #[.val (.int ba), .val (.int bb), .val (.int bc), .val (.int bd), .val (.int (2147483647 : Int32)), .val (.int (bb ||| (1 : Int32))), .val (.ref ua), .val (.ref ui), .val (.int (1 : Int32)), .unset, .unset] [(.int (f 1)), (.ref ui), (.int (1 : Int32))]))
  refine own_cV X14 hx hml hZ hown (hw _ (List.mem_of_getElem? (i := 17) rfl)) (hw _ (List.mem_of_getElem? (i := 18) rfl)) (hw _ (List.mem_of_getElem? (i := 20) rfl)) (hw _ (List.mem_of_getElem? (i := 19) rfl)) (hw _ (List.mem_of_getElem? (i := 4) rfl)) (hw _ (List.mem_of_getElem? (i := 21) rfl)) (by decide) (own_rm7 l Z a0 hw ui (f 1) ka na kf14 nf14 (own_Su f 1) (1 : Int32) 1 T14.heap n0 sz14 Vk14 Vn14 Fk14 Fn14 Fs14 Fz14 EXui_14 HT14 hz14 (by omega) fr_ui fr_ka fr_na nak nan kn (own_Su_no hinj (by decide)) (hpos _) (by decide)) (rfl : T14.heap = T14.heap) EXui_14 (by decide) (W := 1) (by decide) (g := (mkF m 182 #[.val (.int ba), .val (.int bb), .val (.int bc), .val (.int bd), .val (.int (2147483647 : Int32)), .val (.int (bb ||| (1 : Int32))), .val (.ref ua), .val (.ref ui), .val (.int (1 : Int32)), .unset, .unset] [(.int (f 1)), (.ref ui), (.int (1 : Int32))])) rfl rfl own_pd0 (argsL := [(.int (f 1))]) (rest := [(.int (1 : Int32))]) rfl rfl rfl (by show 2 * 0 + _ ≤ _; exact Nat.le_of_eq rfl) (hb hby at_182) (by decide) (by decide) ?_
  intro T15 L15 v15 X15 hQ15
  obtain ⟨kf15, nf15, rfl, Nc15, K15, Fk15, Fn15, Fs15, Fz15, Vk15, Vn15, HT15, hz15⟩ := hQ15
  have N15 := Fr.app N14 Nc15
  have Vua_15 := Vua_14.keep K15 (ninS ne_ua_ui (ninS uak (ninS uan nin0)))
  have EXui_15 := EXui_14.keep K15
  have sz15 := Nat.le_trans sz14 K15.1
  show own_Go p e below s _ _ _ (T15.setTop (mkF m 185 #[.val (.int ba), .val (.int bb), .val (.int bc), .val (.int bd), .val (.int (2147483647 : Int32)), .val (.int (bb ||| (1 : Int32))), .val (.ref ua), .val (.ref ui), .val (.int (1 : Int32)), .unset, .unset] [(.int (1 : Int32)), (.int (1 : Int32))]))
  replace Fz15 : Fld Z T15.heap ui "com/example/hop_gate/hopgate/UserIndex" "size" "I" (.int (2 : Int32)) := Fz15
  replace HT15 := own_T_congr HT15 (own_Su_more (f := f) (i := 1) (by decide))
  show own_Go p e below s _ _ _ (T15.setTop (mkF m 185 #[.val (.int ba), .val (.int bb), .val (.int bc), .val (.int bd), .val (.int (2147483647 : Int32)), .val (.int (bb ||| (1 : Int32))), .val (.ref ua), .val (.ref ui), .val (.int (1 : Int32)), .unset, .unset] [(.int (1 : Int32)), (.int (1 : Int32))]))
  refine own_st (fun _ kont => XS.iconst X15.here hx rfl (hb hby at_185) kont) ?_
  show own_Go p e below s _ _ _ (T15.setTop (mkF m 186 #[.val (.int ba), .val (.int bb), .val (.int bc), .val (.int bd), .val (.int (2147483647 : Int32)), .val (.int (bb ||| (1 : Int32))), .val (.ref ua), .val (.ref ui), .val (.int (1 : Int32)), .unset, .unset] [(.int (1 : Int32)), (.int (1 : Int32)), (.int (1 : Int32))]))
  refine own_st (fun _ kont => XS.icmpNo X15.here hx rfl (hb hby at_186) rfl (by decide) kont) ?_
  show own_Go p e below s _ _ _ (T15.setTop (mkF m 189 #[.val (.int ba), .val (.int bb), .val (.int bc), .val (.int bd), .val (.int (2147483647 : Int32)), .val (.int (bb ||| (1 : Int32))), .val (.ref ua), .val (.ref ui), .val (.int (1 : Int32)), .unset, .unset] [(.int (1 : Int32))]))
  refine own_st (fun _ kont => XS.iconst X15.here hx rfl (hb hby at_189) kont) ?_
  show own_Go p e below s _ _ _ (T15.setTop (mkF m 190 #[.val (.int ba), .val (.int bb), .val (.int bc), .val (.int bd), .val (.int (2147483647 : Int32)), .val (.int (bb ||| (1 : Int32))), .val (.ref ua), .val (.ref ui), .val (.int (1 : Int32)), .unset, .unset] [(.int (1 : Int32)), (.int (1 : Int32))]))
  refine own_st (fun _ kont => XS.goto X15.here hx rfl (pc0 := 190) (pc' := 194) rfl (hb hby at_190) (by decide) (by decide) kont) ?_
  show own_Go p e below s _ _ _ (T15.setTop (mkF m 194 #[.val (.int ba), .val (.int bb), .val (.int bc), .val (.int bd), .val (.int (2147483647 : Int32)), .val (.int (bb ||| (1 : Int32))), .val (.ref ua), .val (.ref ui), .val (.int (1 : Int32)), .unset, .unset] [(.int (1 : Int32)), (.int (1 : Int32))]))
  refine own_st (fun _ kont => XS.iand X15.here hx rfl (hb hby at_194) rfl kont) ?_
  show own_Go p e below s _ _ _ (T15.setTop (mkF m 195 #[.val (.int ba), .val (.int bb), .val (.int bc), .val (.int bd), .val (.int (2147483647 : Int32)), .val (.int (bb ||| (1 : Int32))), .val (.ref ua), .val (.ref ui), .val (.int (1 : Int32)), .unset, .unset] [(.int (1 : Int32))]))
  refine own_st (fun _ kont => XS.istore X15.here hx rfl (hb hby at_195) rfl (l' := #[.val (.int ba), .val (.int bb), .val (.int bc), .val (.int bd), .val (.int (2147483647 : Int32)), .val (.int (bb ||| (1 : Int32))), .val (.ref ua), .val (.ref ui), .val (.int (1 : Int32)), .unset, .unset]) rfl kont) ?_
  show own_Go p e below s _ _ _ (T15.setTop (mkF m 197 #[.val (.int ba), .val (.int bb), .val (.int bc), .val (.int bd), .val (.int (2147483647 : Int32)), .val (.int (bb ||| (1 : Int32))), .val (.ref ua), .val (.ref ui), .val (.int (1 : Int32)), .unset, .unset] []))
  refine own_st (fun _ kont => XS.iload X15.here hx rfl (hb hby at_197) rfl kont) ?_
  show own_Go p e below s _ _ _ (T15.setTop (mkF m 199 #[.val (.int ba), .val (.int bb), .val (.int bc), .val (.int bd), .val (.int (2147483647 : Int32)), .val (.int (bb ||| (1 : Int32))), .val (.ref ua), .val (.ref ui), .val (.int (1 : Int32)), .unset, .unset] [(.int (1 : Int32))]))
  refine own_st (fun _ kont => XS.aload X15.here hx rfl (hb hby at_199) rfl rfl kont) ?_
  show own_Go p e below s _ _ _ (T15.setTop (mkF m 201 #[.val (.int ba), .val (.int bb), .val (.int bc), .val (.int bd), .val (.int (2147483647 : Int32)), .val (.int (bb ||| (1 : Int32))), .val (.ref ua), .val (.ref ui), .val (.int (1 : Int32)), .unset, .unset] [(.ref ui), (.int (1 : Int32))]))
  refine own_st (fun _ kont => XS.aload X15.here hx rfl (hb hby at_201) rfl rfl kont) ?_
  show own_Go p e below s _ _ _ (T15.setTop (mkF m 203 #[.val (.int ba), .val (.int bb), .val (.int bc), .val (.int bd), .val (.int (2147483647 : Int32)), .val (.int (bb ||| (1 : Int32))), .val (.ref ua), .val (.ref ui), .val (.int (1 : Int32)), .unset, .unset] [(.ref ua), (.ref ui), (.int (1 : Int32))]))
  refine own_st (fun _ kont => XS.iconst X15.here hx rfl (hb hby at_203) kont) ?_
  show own_Go p e below s _ _ _ (T15.setTop (mkF m 204 #[.val (.int ba), .val (.int bb), .val (.int bc), .val (.int bd), .val (.int (2147483647 : Int32)), .val (.int (bb ||| (1 : Int32))), .val (.ref ua), .val (.ref ui), .val (.int (1 : Int32)), .unset, .unset] [(.int (2 : Int32)), (.ref ua), (.ref ui), (.int (1 : Int32))]))
  refine own_st (own_ldI X15 hx hZ (rfl : T15.heap = T15.heap) Vua_15 (i := 2) (by decide) (by decide) (v := (.int (f 2))) rfl (g := (mkF m 204 #[.val (.int ba), .val (.int bb), .val (.int bc), .val (.int bd), .val (.int (2147483647 : Int32)), .val (.int (bb ||| (1 : Int32))), .val (.ref ua), .val (.ref ui), .val (.int (1 : Int32)), .unset, .unset] [(.int (2 : Int32)), (.ref ua), (.ref ui), (.int (1 : Int32))])) rfl rfl (hb hby at_204)) ?_
  show own_Go p e below s _ _ _ (T15.setTop (mkF m 205 #[.val (.int ba), .val (.int bb), .val (.int bc), .val (.int bd), .val (.int (2147483647 : Int32)), .val (.int (bb ||| (1 : Int32))), .val (.ref ua), .val (.ref ui), .val (.int (1 : Int32)), .unset, .unset] [(.int (f 2)), (.ref ui), (.int (1 : Int32))]))
  refine own_cV X15 hx hml hZ hown (hw _ (List.mem_of_getElem? (i := 17) rfl)) (hw _ (List.mem_of_getElem? (i := 18) rfl)) (hw _ (List.mem_of_getElem? (i := 20) rfl)) (hw _ (List.mem_of_getElem? (i := 19) rfl)) (hw _ (List.mem_of_getElem? (i := 4) rfl)) (hw _ (List.mem_of_getElem? (i := 21) rfl)) (by decide) (own_rm7 l Z a0 hw ui (f 2) ka na kf15 nf15 (own_Su f 2) (2 : Int32) 2 T15.heap n0 sz15 Vk15 Vn15 Fk15 Fn15 Fs15 Fz15 EXui_15 HT15 hz15 (by omega) fr_ui fr_ka fr_na nak nan kn (own_Su_no hinj (by decide)) (hpos _) (by decide)) (rfl : T15.heap = T15.heap) EXui_15 (by decide) (W := 1) (by decide) (g := (mkF m 205 #[.val (.int ba), .val (.int bb), .val (.int bc), .val (.int bd), .val (.int (2147483647 : Int32)), .val (.int (bb ||| (1 : Int32))), .val (.ref ua), .val (.ref ui), .val (.int (1 : Int32)), .unset, .unset] [(.int (f 2)), (.ref ui), (.int (1 : Int32))])) rfl rfl own_pd0 (argsL := [(.int (f 2))]) (rest := [(.int (1 : Int32))]) rfl rfl rfl (by show 2 * 0 + _ ≤ _; exact Nat.le_of_eq rfl) (hb hby at_205) (by decide) (by decide) ?_
  intro T16 L16 v16 X16 hQ16
  obtain ⟨kf16, nf16, rfl, Nc16, K16, Fk16, Fn16, Fs16, Fz16, Vk16, Vn16, HT16, hz16⟩ := hQ16
  have N16 := Fr.app N15 Nc16
  have Vua_16 := Vua_15.keep K16 (ninS ne_ua_ui (ninS uak (ninS uan nin0)))
  have EXui_16 := EXui_15.keep K16
  have sz16 := Nat.le_trans sz15 K16.1
  show own_Go p e below s _ _ _ (T16.setTop (mkF m 208 #[.val (.int ba), .val (.int bb), .val (.int bc), .val (.int bd), .val (.int (2147483647 : Int32)), .val (.int (bb ||| (1 : Int32))), .val (.ref ua), .val (.ref ui), .val (.int (1 : Int32)), .unset, .unset] [(.int (2 : Int32)), (.int (1 : Int32))]))
  replace Fz16 : Fld Z T16.heap ui "com/example/hop_gate/hopgate/UserIndex" "size" "I" (.int (3 : Int32)) := Fz16
  replace HT16 := own_T_congr HT16 (own_Su_more (f := f) (i := 2) (by decide))
  show own_Go p e below s _ _ _ (T16.setTop (mkF m 208 #[.val (.int ba), .val (.int bb), .val (.int bc), .val (.int bd), .val (.int (2147483647 : Int32)), .val (.int (bb ||| (1 : Int32))), .val (.ref ua), .val (.ref ui), .val (.int (1 : Int32)), .unset, .unset] [(.int (2 : Int32)), (.int (1 : Int32))]))
  refine own_st (fun _ kont => XS.iconst X16.here hx rfl (hb hby at_208) kont) ?_
  show own_Go p e below s _ _ _ (T16.setTop (mkF m 209 #[.val (.int ba), .val (.int bb), .val (.int bc), .val (.int bd), .val (.int (2147483647 : Int32)), .val (.int (bb ||| (1 : Int32))), .val (.ref ua), .val (.ref ui), .val (.int (1 : Int32)), .unset, .unset] [(.int (2 : Int32)), (.int (2 : Int32)), (.int (1 : Int32))]))
  refine own_st (fun _ kont => XS.icmpNo X16.here hx rfl (hb hby at_209) rfl (by decide) kont) ?_
  show own_Go p e below s _ _ _ (T16.setTop (mkF m 212 #[.val (.int ba), .val (.int bb), .val (.int bc), .val (.int bd), .val (.int (2147483647 : Int32)), .val (.int (bb ||| (1 : Int32))), .val (.ref ua), .val (.ref ui), .val (.int (1 : Int32)), .unset, .unset] [(.int (1 : Int32))]))
  refine own_st (fun _ kont => XS.iconst X16.here hx rfl (hb hby at_212) kont) ?_
  show own_Go p e below s _ _ _ (T16.setTop (mkF m 213 #[.val (.int ba), .val (.int bb), .val (.int bc), .val (.int bd), .val (.int (2147483647 : Int32)), .val (.int (bb ||| (1 : Int32))), .val (.ref ua), .val (.ref ui), .val (.int (1 : Int32)), .unset, .unset] [(.int (1 : Int32)), (.int (1 : Int32))]))
  refine own_st (fun _ kont => XS.goto X16.here hx rfl (pc0 := 213) (pc' := 217) rfl (hb hby at_213) (by decide) (by decide) kont) ?_
  show own_Go p e below s _ _ _ (T16.setTop (mkF m 217 #[.val (.int ba), .val (.int bb), .val (.int bc), .val (.int bd), .val (.int (2147483647 : Int32)), .val (.int (bb ||| (1 : Int32))), .val (.ref ua), .val (.ref ui), .val (.int (1 : Int32)), .unset, .unset] [(.int (1 : Int32)), (.int (1 : Int32))]))
  refine own_st (fun _ kont => XS.iand X16.here hx rfl (hb hby at_217) rfl kont) ?_
  show own_Go p e below s _ _ _ (T16.setTop (mkF m 218 #[.val (.int ba), .val (.int bb), .val (.int bc), .val (.int bd), .val (.int (2147483647 : Int32)), .val (.int (bb ||| (1 : Int32))), .val (.ref ua), .val (.ref ui), .val (.int (1 : Int32)), .unset, .unset] [(.int (1 : Int32))]))
  refine own_st (fun _ kont => XS.istore X16.here hx rfl (hb hby at_218) rfl (l' := #[.val (.int ba), .val (.int bb), .val (.int bc), .val (.int bd), .val (.int (2147483647 : Int32)), .val (.int (bb ||| (1 : Int32))), .val (.ref ua), .val (.ref ui), .val (.int (1 : Int32)), .unset, .unset]) rfl kont) ?_
  show own_Go p e below s _ _ _ (T16.setTop (mkF m 220 #[.val (.int ba), .val (.int bb), .val (.int bc), .val (.int bd), .val (.int (2147483647 : Int32)), .val (.int (bb ||| (1 : Int32))), .val (.ref ua), .val (.ref ui), .val (.int (1 : Int32)), .unset, .unset] []))
  refine own_st (fun _ kont => XS.iload X16.here hx rfl (hb hby at_220) rfl kont) ?_
  show own_Go p e below s _ _ _ (T16.setTop (mkF m 222 #[.val (.int ba), .val (.int bb), .val (.int bc), .val (.int bd), .val (.int (2147483647 : Int32)), .val (.int (bb ||| (1 : Int32))), .val (.ref ua), .val (.ref ui), .val (.int (1 : Int32)), .unset, .unset] [(.int (1 : Int32))]))
  refine own_st (fun _ kont => XS.aload X16.here hx rfl (hb hby at_222) rfl rfl kont) ?_
  show own_Go p e below s _ _ _ (T16.setTop (mkF m 224 #[.val (.int ba), .val (.int bb), .val (.int bc), .val (.int bd), .val (.int (2147483647 : Int32)), .val (.int (bb ||| (1 : Int32))), .val (.ref ua), .val (.ref ui), .val (.int (1 : Int32)), .unset, .unset] [(.ref ui), (.int (1 : Int32))]))
  refine own_st (fun _ kont => XS.aload X16.here hx rfl (hb hby at_224) rfl rfl kont) ?_
  show own_Go p e below s _ _ _ (T16.setTop (mkF m 226 #[.val (.int ba), .val (.int bb), .val (.int bc), .val (.int bd), .val (.int (2147483647 : Int32)), .val (.int (bb ||| (1 : Int32))), .val (.ref ua), .val (.ref ui), .val (.int (1 : Int32)), .unset, .unset] [(.ref ua), (.ref ui), (.int (1 : Int32))]))
  refine own_st (fun _ kont => XS.iconst X16.here hx rfl (hb hby at_226) kont) ?_
  show own_Go p e below s _ _ _ (T16.setTop (mkF m 227 #[.val (.int ba), .val (.int bb), .val (.int bc), .val (.int bd), .val (.int (2147483647 : Int32)), .val (.int (bb ||| (1 : Int32))), .val (.ref ua), .val (.ref ui), .val (.int (1 : Int32)), .unset, .unset] [(.int (3 : Int32)), (.ref ua), (.ref ui), (.int (1 : Int32))]))
  refine own_st (own_ldI X16 hx hZ (rfl : T16.heap = T16.heap) Vua_16 (i := 3) (by decide) (by decide) (v := (.int (f 3))) rfl (g := (mkF m 227 #[.val (.int ba), .val (.int bb), .val (.int bc), .val (.int bd), .val (.int (2147483647 : Int32)), .val (.int (bb ||| (1 : Int32))), .val (.ref ua), .val (.ref ui), .val (.int (1 : Int32)), .unset, .unset] [(.int (3 : Int32)), (.ref ua), (.ref ui), (.int (1 : Int32))])) rfl rfl (hb hby at_227)) ?_
  show own_Go p e below s _ _ _ (T16.setTop (mkF m 228 #[.val (.int ba), .val (.int bb), .val (.int bc), .val (.int bd), .val (.int (2147483647 : Int32)), .val (.int (bb ||| (1 : Int32))), .val (.ref ua), .val (.ref ui), .val (.int (1 : Int32)), .unset, .unset] [(.int (f 3)), (.ref ui), (.int (1 : Int32))]))
  refine own_cV X16 hx hml hZ hown (hw _ (List.mem_of_getElem? (i := 17) rfl)) (hw _ (List.mem_of_getElem? (i := 18) rfl)) (hw _ (List.mem_of_getElem? (i := 20) rfl)) (hw _ (List.mem_of_getElem? (i := 19) rfl)) (hw _ (List.mem_of_getElem? (i := 4) rfl)) (hw _ (List.mem_of_getElem? (i := 21) rfl)) (by decide) (own_rm7 l Z a0 hw ui (f 3) ka na kf16 nf16 (own_Su f 3) (3 : Int32) 3 T16.heap n0 sz16 Vk16 Vn16 Fk16 Fn16 Fs16 Fz16 EXui_16 HT16 hz16 (by omega) fr_ui fr_ka fr_na nak nan kn (own_Su_no hinj (by decide)) (hpos _) (by decide)) (rfl : T16.heap = T16.heap) EXui_16 (by decide) (W := 1) (by decide) (g := (mkF m 228 #[.val (.int ba), .val (.int bb), .val (.int bc), .val (.int bd), .val (.int (2147483647 : Int32)), .val (.int (bb ||| (1 : Int32))), .val (.ref ua), .val (.ref ui), .val (.int (1 : Int32)), .unset, .unset] [(.int (f 3)), (.ref ui), (.int (1 : Int32))])) rfl rfl own_pd0 (argsL := [(.int (f 3))]) (rest := [(.int (1 : Int32))]) rfl rfl rfl (by show 2 * 0 + _ ≤ _; exact Nat.le_of_eq rfl) (hb hby at_228) (by decide) (by decide) ?_
  intro T17 L17 v17 X17 hQ17
  obtain ⟨kf17, nf17, rfl, Nc17, K17, Fk17, Fn17, Fs17, Fz17, Vk17, Vn17, HT17, hz17⟩ := hQ17
  have N17 := Fr.app N16 Nc17
  have Vua_17 := Vua_16.keep K17 (ninS ne_ua_ui (ninS uak (ninS uan nin0)))
  have EXui_17 := EXui_16.keep K17
  have sz17 := Nat.le_trans sz16 K17.1
  show own_Go p e below s _ _ _ (T17.setTop (mkF m 231 #[.val (.int ba), .val (.int bb), .val (.int bc), .val (.int bd), .val (.int (2147483647 : Int32)), .val (.int (bb ||| (1 : Int32))), .val (.ref ua), .val (.ref ui), .val (.int (1 : Int32)), .unset, .unset] [(.int (3 : Int32)), (.int (1 : Int32))]))
  replace Fz17 : Fld Z T17.heap ui "com/example/hop_gate/hopgate/UserIndex" "size" "I" (.int (4 : Int32)) := Fz17
  replace HT17 := own_T_congr HT17 (own_Su_more (f := f) (i := 3) (by decide))
  show own_Go p e below s _ _ _ (T17.setTop (mkF m 231 #[.val (.int ba), .val (.int bb), .val (.int bc), .val (.int bd), .val (.int (2147483647 : Int32)), .val (.int (bb ||| (1 : Int32))), .val (.ref ua), .val (.ref ui), .val (.int (1 : Int32)), .unset, .unset] [(.int (3 : Int32)), (.int (1 : Int32))]))
  refine own_st (fun _ kont => XS.iconst X17.here hx rfl (hb hby at_231) kont) ?_
  show own_Go p e below s _ _ _ (T17.setTop (mkF m 232 #[.val (.int ba), .val (.int bb), .val (.int bc), .val (.int bd), .val (.int (2147483647 : Int32)), .val (.int (bb ||| (1 : Int32))), .val (.ref ua), .val (.ref ui), .val (.int (1 : Int32)), .unset, .unset] [(.int (3 : Int32)), (.int (3 : Int32)), (.int (1 : Int32))]))
  refine own_st (fun _ kont => XS.icmpNo X17.here hx rfl (hb hby at_232) rfl (by decide) kont) ?_
  show own_Go p e below s _ _ _ (T17.setTop (mkF m 235 #[.val (.int ba), .val (.int bb), .val (.int bc), .val (.int bd), .val (.int (2147483647 : Int32)), .val (.int (bb ||| (1 : Int32))), .val (.ref ua), .val (.ref ui), .val (.int (1 : Int32)), .unset, .unset] [(.int (1 : Int32))]))
  refine own_st (fun _ kont => XS.iconst X17.here hx rfl (hb hby at_235) kont) ?_
  show own_Go p e below s _ _ _ (T17.setTop (mkF m 236 #[.val (.int ba), .val (.int bb), .val (.int bc), .val (.int bd), .val (.int (2147483647 : Int32)), .val (.int (bb ||| (1 : Int32))), .val (.ref ua), .val (.ref ui), .val (.int (1 : Int32)), .unset, .unset] [(.int (1 : Int32)), (.int (1 : Int32))]))
  refine own_st (fun _ kont => XS.goto X17.here hx rfl (pc0 := 236) (pc' := 240) rfl (hb hby at_236) (by decide) (by decide) kont) ?_
  show own_Go p e below s _ _ _ (T17.setTop (mkF m 240 #[.val (.int ba), .val (.int bb), .val (.int bc), .val (.int bd), .val (.int (2147483647 : Int32)), .val (.int (bb ||| (1 : Int32))), .val (.ref ua), .val (.ref ui), .val (.int (1 : Int32)), .unset, .unset] [(.int (1 : Int32)), (.int (1 : Int32))]))
  refine own_st (fun _ kont => XS.iand X17.here hx rfl (hb hby at_240) rfl kont) ?_
  show own_Go p e below s _ _ _ (T17.setTop (mkF m 241 #[.val (.int ba), .val (.int bb), .val (.int bc), .val (.int bd), .val (.int (2147483647 : Int32)), .val (.int (bb ||| (1 : Int32))), .val (.ref ua), .val (.ref ui), .val (.int (1 : Int32)), .unset, .unset] [(.int (1 : Int32))]))
  refine own_st (fun _ kont => XS.istore X17.here hx rfl (hb hby at_241) rfl (l' := #[.val (.int ba), .val (.int bb), .val (.int bc), .val (.int bd), .val (.int (2147483647 : Int32)), .val (.int (bb ||| (1 : Int32))), .val (.ref ua), .val (.ref ui), .val (.int (1 : Int32)), .unset, .unset]) rfl kont) ?_
  show own_Go p e below s _ _ _ (T17.setTop (mkF m 243 #[.val (.int ba), .val (.int bb), .val (.int bc), .val (.int bd), .val (.int (2147483647 : Int32)), .val (.int (bb ||| (1 : Int32))), .val (.ref ua), .val (.ref ui), .val (.int (1 : Int32)), .unset, .unset] []))
  refine own_st (fun _ kont => XS.iload X17.here hx rfl (hb hby at_243) rfl kont) ?_
  show own_Go p e below s _ _ _ (T17.setTop (mkF m 245 #[.val (.int ba), .val (.int bb), .val (.int bc), .val (.int bd), .val (.int (2147483647 : Int32)), .val (.int (bb ||| (1 : Int32))), .val (.ref ua), .val (.ref ui), .val (.int (1 : Int32)), .unset, .unset] [(.int (1 : Int32))]))
  refine own_st (fun _ kont => XS.aload X17.here hx rfl (hb hby at_245) rfl rfl kont) ?_
  show own_Go p e below s _ _ _ (T17.setTop (mkF m 247 #[.val (.int ba), .val (.int bb), .val (.int bc), .val (.int bd), .val (.int (2147483647 : Int32)), .val (.int (bb ||| (1 : Int32))), .val (.ref ua), .val (.ref ui), .val (.int (1 : Int32)), .unset, .unset] [(.ref ui), (.int (1 : Int32))]))
  refine own_st (fun _ kont => XS.aload X17.here hx rfl (hb hby at_247) rfl rfl kont) ?_
  show own_Go p e below s _ _ _ (T17.setTop (mkF m 249 #[.val (.int ba), .val (.int bb), .val (.int bc), .val (.int bd), .val (.int (2147483647 : Int32)), .val (.int (bb ||| (1 : Int32))), .val (.ref ua), .val (.ref ui), .val (.int (1 : Int32)), .unset, .unset] [(.ref ua), (.ref ui), (.int (1 : Int32))]))
  refine own_st (fun _ kont => XS.iconst X17.here hx rfl (hb hby at_249) kont) ?_
  show own_Go p e below s _ _ _ (T17.setTop (mkF m 250 #[.val (.int ba), .val (.int bb), .val (.int bc), .val (.int bd), .val (.int (2147483647 : Int32)), .val (.int (bb ||| (1 : Int32))), .val (.ref ua), .val (.ref ui), .val (.int (1 : Int32)), .unset, .unset] [(.int (4 : Int32)), (.ref ua), (.ref ui), (.int (1 : Int32))]))
  refine own_st (own_ldI X17 hx hZ (rfl : T17.heap = T17.heap) Vua_17 (i := 4) (by decide) (by decide) (v := (.int (f 4))) rfl (g := (mkF m 250 #[.val (.int ba), .val (.int bb), .val (.int bc), .val (.int bd), .val (.int (2147483647 : Int32)), .val (.int (bb ||| (1 : Int32))), .val (.ref ua), .val (.ref ui), .val (.int (1 : Int32)), .unset, .unset] [(.int (4 : Int32)), (.ref ua), (.ref ui), (.int (1 : Int32))])) rfl rfl (hb hby at_250)) ?_
  show own_Go p e below s _ _ _ (T17.setTop (mkF m 251 #[.val (.int ba), .val (.int bb), .val (.int bc), .val (.int bd), .val (.int (2147483647 : Int32)), .val (.int (bb ||| (1 : Int32))), .val (.ref ua), .val (.ref ui), .val (.int (1 : Int32)), .unset, .unset] [(.int (f 4)), (.ref ui), (.int (1 : Int32))]))
  refine own_cV X17 hx hml hZ hown (hw _ (List.mem_of_getElem? (i := 17) rfl)) (hw _ (List.mem_of_getElem? (i := 18) rfl)) (hw _ (List.mem_of_getElem? (i := 20) rfl)) (hw _ (List.mem_of_getElem? (i := 19) rfl)) (hw _ (List.mem_of_getElem? (i := 4) rfl)) (hw _ (List.mem_of_getElem? (i := 21) rfl)) (by decide) (own_rm7 l Z a0 hw ui (f 4) ka na kf17 nf17 (own_Su f 4) (4 : Int32) 4 T17.heap n0 sz17 Vk17 Vn17 Fk17 Fn17 Fs17 Fz17 EXui_17 HT17 hz17 (by omega) fr_ui fr_ka fr_na nak nan kn (own_Su_no hinj (by decide)) (hpos _) (by decide)) (rfl : T17.heap = T17.heap) EXui_17 (by decide) (W := 1) (by decide) (g := (mkF m 251 #[.val (.int ba), .val (.int bb), .val (.int bc), .val (.int bd), .val (.int (2147483647 : Int32)), .val (.int (bb ||| (1 : Int32))), .val (.ref ua), .val (.ref ui), .val (.int (1 : Int32)), .unset, .unset] [(.int (f 4)), (.ref ui), (.int (1 : Int32))])) rfl rfl own_pd0 (argsL := [(.int (f 4))]) (rest := [(.int (1 : Int32))]) rfl rfl rfl (by show 2 * 0 + _ ≤ _; exact Nat.le_of_eq rfl) (hb hby at_251) (by decide) (by decide) ?_
  intro T18 L18 v18 X18 hQ18
  obtain ⟨kf18, nf18, rfl, Nc18, K18, Fk18, Fn18, Fs18, Fz18, Vk18, Vn18, HT18, hz18⟩ := hQ18
  have N18 := Fr.app N17 Nc18
  have Vua_18 := Vua_17.keep K18 (ninS ne_ua_ui (ninS uak (ninS uan nin0)))
  have EXui_18 := EXui_17.keep K18
  have sz18 := Nat.le_trans sz17 K18.1
  show own_Go p e below s _ _ _ (T18.setTop (mkF m 254 #[.val (.int ba), .val (.int bb), .val (.int bc), .val (.int bd), .val (.int (2147483647 : Int32)), .val (.int (bb ||| (1 : Int32))), .val (.ref ua), .val (.ref ui), .val (.int (1 : Int32)), .unset, .unset] [(.int (4 : Int32)), (.int (1 : Int32))]))
  replace Fz18 : Fld Z T18.heap ui "com/example/hop_gate/hopgate/UserIndex" "size" "I" (.int (5 : Int32)) := Fz18
  replace HT18 := own_T_congr HT18 (own_Su_more (f := f) (i := 4) (by decide))
  show own_Go p e below s _ _ _ (T18.setTop (mkF m 254 #[.val (.int ba), .val (.int bb), .val (.int bc), .val (.int bd), .val (.int (2147483647 : Int32)), .val (.int (bb ||| (1 : Int32))), .val (.ref ua), .val (.ref ui), .val (.int (1 : Int32)), .unset, .unset] [(.int (4 : Int32)), (.int (1 : Int32))]))
  refine own_st (fun _ kont => XS.iconst X18.here hx rfl (hb hby at_254) kont) ?_
  show own_Go p e below s _ _ _ (T18.setTop (mkF m 255 #[.val (.int ba), .val (.int bb), .val (.int bc), .val (.int bd), .val (.int (2147483647 : Int32)), .val (.int (bb ||| (1 : Int32))), .val (.ref ua), .val (.ref ui), .val (.int (1 : Int32)), .unset, .unset] [(.int (4 : Int32)), (.int (4 : Int32)), (.int (1 : Int32))]))
  refine own_st (fun _ kont => XS.icmpNo X18.here hx rfl (hb hby at_255) rfl (by decide) kont) ?_
  show own_Go p e below s _ _ _ (T18.setTop (mkF m 258 #[.val (.int ba), .val (.int bb), .val (.int bc), .val (.int bd), .val (.int (2147483647 : Int32)), .val (.int (bb ||| (1 : Int32))), .val (.ref ua), .val (.ref ui), .val (.int (1 : Int32)), .unset, .unset] [(.int (1 : Int32))]))
  refine own_st (fun _ kont => XS.iconst X18.here hx rfl (hb hby at_258) kont) ?_
  show own_Go p e below s _ _ _ (T18.setTop (mkF m 259 #[.val (.int ba), .val (.int bb), .val (.int bc), .val (.int bd), .val (.int (2147483647 : Int32)), .val (.int (bb ||| (1 : Int32))), .val (.ref ua), .val (.ref ui), .val (.int (1 : Int32)), .unset, .unset] [(.int (1 : Int32)), (.int (1 : Int32))]))
  refine own_st (fun _ kont => XS.goto X18.here hx rfl (pc0 := 259) (pc' := 263) rfl (hb hby at_259) (by decide) (by decide) kont) ?_
  show own_Go p e below s _ _ _ (T18.setTop (mkF m 263 #[.val (.int ba), .val (.int bb), .val (.int bc), .val (.int bd), .val (.int (2147483647 : Int32)), .val (.int (bb ||| (1 : Int32))), .val (.ref ua), .val (.ref ui), .val (.int (1 : Int32)), .unset, .unset] [(.int (1 : Int32)), (.int (1 : Int32))]))
  refine own_st (fun _ kont => XS.iand X18.here hx rfl (hb hby at_263) rfl kont) ?_
  show own_Go p e below s _ _ _ (T18.setTop (mkF m 264 #[.val (.int ba), .val (.int bb), .val (.int bc), .val (.int bd), .val (.int (2147483647 : Int32)), .val (.int (bb ||| (1 : Int32))), .val (.ref ua), .val (.ref ui), .val (.int (1 : Int32)), .unset, .unset] [(.int (1 : Int32))]))
  refine own_st (fun _ kont => XS.istore X18.here hx rfl (hb hby at_264) rfl (l' := #[.val (.int ba), .val (.int bb), .val (.int bc), .val (.int bd), .val (.int (2147483647 : Int32)), .val (.int (bb ||| (1 : Int32))), .val (.ref ua), .val (.ref ui), .val (.int (1 : Int32)), .unset, .unset]) rfl kont) ?_
  show own_Go p e below s _ _ _ (T18.setTop (mkF m 266 #[.val (.int ba), .val (.int bb), .val (.int bc), .val (.int bd), .val (.int (2147483647 : Int32)), .val (.int (bb ||| (1 : Int32))), .val (.ref ua), .val (.ref ui), .val (.int (1 : Int32)), .unset, .unset] []))
  refine own_st (fun _ kont => XS.iload X18.here hx rfl (hb hby at_266) rfl kont) ?_
  show own_Go p e below s _ _ _ (T18.setTop (mkF m 268 #[.val (.int ba), .val (.int bb), .val (.int bc), .val (.int bd), .val (.int (2147483647 : Int32)), .val (.int (bb ||| (1 : Int32))), .val (.ref ua), .val (.ref ui), .val (.int (1 : Int32)), .unset, .unset] [(.int (1 : Int32))]))
  refine own_st (fun _ kont => XS.aload X18.here hx rfl (hb hby at_268) rfl rfl kont) ?_
  show own_Go p e below s _ _ _ (T18.setTop (mkF m 270 #[.val (.int ba), .val (.int bb), .val (.int bc), .val (.int bd), .val (.int (2147483647 : Int32)), .val (.int (bb ||| (1 : Int32))), .val (.ref ua), .val (.ref ui), .val (.int (1 : Int32)), .unset, .unset] [(.ref ui), (.int (1 : Int32))]))
  refine own_st (fun _ kont => XS.aload X18.here hx rfl (hb hby at_270) rfl rfl kont) ?_
  show own_Go p e below s _ _ _ (T18.setTop (mkF m 272 #[.val (.int ba), .val (.int bb), .val (.int bc), .val (.int bd), .val (.int (2147483647 : Int32)), .val (.int (bb ||| (1 : Int32))), .val (.ref ua), .val (.ref ui), .val (.int (1 : Int32)), .unset, .unset] [(.ref ua), (.ref ui), (.int (1 : Int32))]))
  refine own_st (fun _ kont => XS.iconst X18.here hx rfl (hb hby at_272) kont) ?_
  show own_Go p e below s _ _ _ (T18.setTop (mkF m 273 #[.val (.int ba), .val (.int bb), .val (.int bc), .val (.int bd), .val (.int (2147483647 : Int32)), .val (.int (bb ||| (1 : Int32))), .val (.ref ua), .val (.ref ui), .val (.int (1 : Int32)), .unset, .unset] [(.int (5 : Int32)), (.ref ua), (.ref ui), (.int (1 : Int32))]))
  refine own_st (own_ldI X18 hx hZ (rfl : T18.heap = T18.heap) Vua_18 (i := 5) (by decide) (by decide) (v := (.int (f 5))) rfl (g := (mkF m 273 #[.val (.int ba), .val (.int bb), .val (.int bc), .val (.int bd), .val (.int (2147483647 : Int32)), .val (.int (bb ||| (1 : Int32))), .val (.ref ua), .val (.ref ui), .val (.int (1 : Int32)), .unset, .unset] [(.int (5 : Int32)), (.ref ua), (.ref ui), (.int (1 : Int32))])) rfl rfl (hb hby at_273)) ?_
  show own_Go p e below s _ _ _ (T18.setTop (mkF m 274 #[.val (.int ba), .val (.int bb), .val (.int bc), .val (.int bd), .val (.int (2147483647 : Int32)), .val (.int (bb ||| (1 : Int32))), .val (.ref ua), .val (.ref ui), .val (.int (1 : Int32)), .unset, .unset] [(.int (f 5)), (.ref ui), (.int (1 : Int32))]))
  refine own_cV X18 hx hml hZ hown (hw _ (List.mem_of_getElem? (i := 17) rfl)) (hw _ (List.mem_of_getElem? (i := 18) rfl)) (hw _ (List.mem_of_getElem? (i := 20) rfl)) (hw _ (List.mem_of_getElem? (i := 19) rfl)) (hw _ (List.mem_of_getElem? (i := 4) rfl)) (hw _ (List.mem_of_getElem? (i := 21) rfl)) (by decide) (own_rm7 l Z a0 hw ui (f 5) ka na kf18 nf18 (own_Su f 5) (5 : Int32) 5 T18.heap n0 sz18 Vk18 Vn18 Fk18 Fn18 Fs18 Fz18 EXui_18 HT18 hz18 (by omega) fr_ui fr_ka fr_na nak nan kn (own_Su_no hinj (by decide)) (hpos _) (by decide)) (rfl : T18.heap = T18.heap) EXui_18 (by decide) (W := 1) (by decide) (g := (mkF m 274 #[.val (.int ba), .val (.int bb), .val (.int bc), .val (.int bd), .val (.int (2147483647 : Int32)), .val (.int (bb ||| (1 : Int32))), .val (.ref ua), .val (.ref ui), .val (.int (1 : Int32)), .unset, .unset] [(.int (f 5)), (.ref ui), (.int (1 : Int32))])) rfl rfl own_pd0 (argsL := [(.int (f 5))]) (rest := [(.int (1 : Int32))]) rfl rfl rfl (by show 2 * 0 + _ ≤ _; exact Nat.le_of_eq rfl) (hb hby at_274) (by decide) (by decide) ?_
  intro T19 L19 v19 X19 hQ19
  obtain ⟨kf19, nf19, rfl, Nc19, K19, Fk19, Fn19, Fs19, Fz19, Vk19, Vn19, HT19, hz19⟩ := hQ19
  have N19 := Fr.app N18 Nc19
  have Vua_19 := Vua_18.keep K19 (ninS ne_ua_ui (ninS uak (ninS uan nin0)))
  have EXui_19 := EXui_18.keep K19
  have sz19 := Nat.le_trans sz18 K19.1
  show own_Go p e below s _ _ _ (T19.setTop (mkF m 277 #[.val (.int ba), .val (.int bb), .val (.int bc), .val (.int bd), .val (.int (2147483647 : Int32)), .val (.int (bb ||| (1 : Int32))), .val (.ref ua), .val (.ref ui), .val (.int (1 : Int32)), .unset, .unset] [(.int (5 : Int32)), (.int (1 : Int32))]))
  replace Fz19 : Fld Z T19.heap ui "com/example/hop_gate/hopgate/UserIndex" "size" "I" (.int (6 : Int32)) := Fz19
  replace HT19 := own_T_congr HT19 (own_Su_more (f := f) (i := 5) (by decide))
  show own_Go p e below s _ _ _ (T19.setTop (mkF m 277 #[.val (.int ba), .val (.int bb), .val (.int bc), .val (.int bd), .val (.int (2147483647 : Int32)), .val (.int (bb ||| (1 : Int32))), .val (.ref ua), .val (.ref ui), .val (.int (1 : Int32)), .unset, .unset] [(.int (5 : Int32)), (.int (1 : Int32))]))
  refine own_st (fun _ kont => XS.iconst X19.here hx rfl (hb hby at_277) kont) ?_
  show own_Go p e below s _ _ _ (T19.setTop (mkF m 278 #[.val (.int ba), .val (.int bb), .val (.int bc), .val (.int bd), .val (.int (2147483647 : Int32)), .val (.int (bb ||| (1 : Int32))), .val (.ref ua), .val (.ref ui), .val (.int (1 : Int32)), .unset, .unset] [(.int (5 : Int32)), (.int (5 : Int32)), (.int (1 : Int32))]))
  refine own_st (fun _ kont => XS.icmpNo X19.here hx rfl (hb hby at_278) rfl (by decide) kont) ?_
  show own_Go p e below s _ _ _ (T19.setTop (mkF m 281 #[.val (.int ba), .val (.int bb), .val (.int bc), .val (.int bd), .val (.int (2147483647 : Int32)), .val (.int (bb ||| (1 : Int32))), .val (.ref ua), .val (.ref ui), .val (.int (1 : Int32)), .unset, .unset] [(.int (1 : Int32))]))
  refine own_st (fun _ kont => XS.iconst X19.here hx rfl (hb hby at_281) kont) ?_
  show own_Go p e below s _ _ _ (T19.setTop (mkF m 282 #[.val (.int ba), .val (.int bb), .val (.int bc), .val (.int bd), .val (.int (2147483647 : Int32)), .val (.int (bb ||| (1 : Int32))), .val (.ref ua), .val (.ref ui), .val (.int (1 : Int32)), .unset, .unset] [(.int (1 : Int32)), (.int (1 : Int32))]))
  refine own_st (fun _ kont => XS.goto X19.here hx rfl (pc0 := 282) (pc' := 286) rfl (hb hby at_282) (by decide) (by decide) kont) ?_
  show own_Go p e below s _ _ _ (T19.setTop (mkF m 286 #[.val (.int ba), .val (.int bb), .val (.int bc), .val (.int bd), .val (.int (2147483647 : Int32)), .val (.int (bb ||| (1 : Int32))), .val (.ref ua), .val (.ref ui), .val (.int (1 : Int32)), .unset, .unset] [(.int (1 : Int32)), (.int (1 : Int32))]))
  refine own_st (fun _ kont => XS.iand X19.here hx rfl (hb hby at_286) rfl kont) ?_
  show own_Go p e below s _ _ _ (T19.setTop (mkF m 287 #[.val (.int ba), .val (.int bb), .val (.int bc), .val (.int bd), .val (.int (2147483647 : Int32)), .val (.int (bb ||| (1 : Int32))), .val (.ref ua), .val (.ref ui), .val (.int (1 : Int32)), .unset, .unset] [(.int (1 : Int32))]))
  refine own_st (fun _ kont => XS.istore X19.here hx rfl (hb hby at_287) rfl (l' := #[.val (.int ba), .val (.int bb), .val (.int bc), .val (.int bd), .val (.int (2147483647 : Int32)), .val (.int (bb ||| (1 : Int32))), .val (.ref ua), .val (.ref ui), .val (.int (1 : Int32)), .unset, .unset]) rfl kont) ?_
  show own_Go p e below s _ _ _ (T19.setTop (mkF m 289 #[.val (.int ba), .val (.int bb), .val (.int bc), .val (.int bd), .val (.int (2147483647 : Int32)), .val (.int (bb ||| (1 : Int32))), .val (.ref ua), .val (.ref ui), .val (.int (1 : Int32)), .unset, .unset] []))
  refine own_st (fun _ kont => XS.iload X19.here hx rfl (hb hby at_289) rfl kont) ?_
  show own_Go p e below s _ _ _ (T19.setTop (mkF m 291 #[.val (.int ba), .val (.int bb), .val (.int bc), .val (.int bd), .val (.int (2147483647 : Int32)), .val (.int (bb ||| (1 : Int32))), .val (.ref ua), .val (.ref ui), .val (.int (1 : Int32)), .unset, .unset] [(.int (1 : Int32))]))
  refine own_st (fun _ kont => XS.aload X19.here hx rfl (hb hby at_291) rfl rfl kont) ?_
  show own_Go p e below s _ _ _ (T19.setTop (mkF m 293 #[.val (.int ba), .val (.int bb), .val (.int bc), .val (.int bd), .val (.int (2147483647 : Int32)), .val (.int (bb ||| (1 : Int32))), .val (.ref ua), .val (.ref ui), .val (.int (1 : Int32)), .unset, .unset] [(.ref ui), (.int (1 : Int32))]))
  refine own_st (fun _ kont => XS.aload X19.here hx rfl (hb hby at_293) rfl rfl kont) ?_
  show own_Go p e below s _ _ _ (T19.setTop (mkF m 295 #[.val (.int ba), .val (.int bb), .val (.int bc), .val (.int bd), .val (.int (2147483647 : Int32)), .val (.int (bb ||| (1 : Int32))), .val (.ref ua), .val (.ref ui), .val (.int (1 : Int32)), .unset, .unset] [(.ref ua), (.ref ui), (.int (1 : Int32))]))
  refine own_st (fun _ kont => XS.bipush X19.here hx rfl (hb hby at_295) kont) ?_
  show own_Go p e below s _ _ _ (T19.setTop (mkF m 297 #[.val (.int ba), .val (.int bb), .val (.int bc), .val (.int bd), .val (.int (2147483647 : Int32)), .val (.int (bb ||| (1 : Int32))), .val (.ref ua), .val (.ref ui), .val (.int (1 : Int32)), .unset, .unset] [(.int (6 : Int32)), (.ref ua), (.ref ui), (.int (1 : Int32))]))
  refine own_st (own_ldI X19 hx hZ (rfl : T19.heap = T19.heap) Vua_19 (i := 6) (by decide) (by decide) (v := (.int (f 6))) rfl (g := (mkF m 297 #[.val (.int ba), .val (.int bb), .val (.int bc), .val (.int bd), .val (.int (2147483647 : Int32)), .val (.int (bb ||| (1 : Int32))), .val (.ref ua), .val (.ref ui), .val (.int (1 : Int32)), .unset, .unset] [(.int (6 : Int32)), (.ref ua), (.ref ui), (.int (1 : Int32))])) rfl rfl (hb hby at_297)) ?_
  show own_Go p e below s _ _ _ (T19.setTop (mkF m 298 #[.val (.int ba), .val (.int bb), .val (.int bc), .val (.int bd), .val (.int (2147483647 : Int32)), .val (.int (bb ||| (1 : Int32))), .val (.ref ua), .val (.ref ui), .val (.int (1 : Int32)), .unset, .unset] [(.int (f 6)), (.ref ui), (.int (1 : Int32))]))
  refine own_cV X19 hx hml hZ hown (hw _ (List.mem_of_getElem? (i := 17) rfl)) (hw _ (List.mem_of_getElem? (i := 18) rfl)) (hw _ (List.mem_of_getElem? (i := 20) rfl)) (hw _ (List.mem_of_getElem? (i := 19) rfl)) (hw _ (List.mem_of_getElem? (i := 4) rfl)) (hw _ (List.mem_of_getElem? (i := 21) rfl)) (by decide) (own_rm7 l Z a0 hw ui (f 6) ka na kf19 nf19 (own_Su f 6) (6 : Int32) 6 T19.heap n0 sz19 Vk19 Vn19 Fk19 Fn19 Fs19 Fz19 EXui_19 HT19 hz19 (by omega) fr_ui fr_ka fr_na nak nan kn (own_Su_no hinj (by decide)) (hpos _) (by decide)) (rfl : T19.heap = T19.heap) EXui_19 (by decide) (W := 1) (by decide) (g := (mkF m 298 #[.val (.int ba), .val (.int bb), .val (.int bc), .val (.int bd), .val (.int (2147483647 : Int32)), .val (.int (bb ||| (1 : Int32))), .val (.ref ua), .val (.ref ui), .val (.int (1 : Int32)), .unset, .unset] [(.int (f 6)), (.ref ui), (.int (1 : Int32))])) rfl rfl own_pd0 (argsL := [(.int (f 6))]) (rest := [(.int (1 : Int32))]) rfl rfl rfl (by show 2 * 0 + _ ≤ _; exact Nat.le_of_eq rfl) (hb hby at_298) (by decide) (by decide) ?_
  intro T20 L20 v20 X20 hQ20
  obtain ⟨kf20, nf20, rfl, Nc20, K20, Fk20, Fn20, Fs20, Fz20, Vk20, Vn20, HT20, hz20⟩ := hQ20
  have N20 := Fr.app N19 Nc20
  have Vua_20 := Vua_19.keep K20 (ninS ne_ua_ui (ninS uak (ninS uan nin0)))
  have EXui_20 := EXui_19.keep K20
  have sz20 := Nat.le_trans sz19 K20.1
  show own_Go p e below s _ _ _ (T20.setTop (mkF m 301 #[.val (.int ba), .val (.int bb), .val (.int bc), .val (.int bd), .val (.int (2147483647 : Int32)), .val (.int (bb ||| (1 : Int32))), .val (.ref ua), .val (.ref ui), .val (.int (1 : Int32)), .unset, .unset] [(.int (6 : Int32)), (.int (1 : Int32))]))
  replace Fz20 : Fld Z T20.heap ui "com/example/hop_gate/hopgate/UserIndex" "size" "I" (.int (7 : Int32)) := Fz20
  replace HT20 := own_T_congr HT20 (own_Su_more (f := f) (i := 6) (by decide))
  show own_Go p e below s _ _ _ (T20.setTop (mkF m 301 #[.val (.int ba), .val (.int bb), .val (.int bc), .val (.int bd), .val (.int (2147483647 : Int32)), .val (.int (bb ||| (1 : Int32))), .val (.ref ua), .val (.ref ui), .val (.int (1 : Int32)), .unset, .unset] [(.int (6 : Int32)), (.int (1 : Int32))]))
  refine own_st (fun _ kont => XS.bipush X20.here hx rfl (hb hby at_301) kont) ?_
  show own_Go p e below s _ _ _ (T20.setTop (mkF m 303 #[.val (.int ba), .val (.int bb), .val (.int bc), .val (.int bd), .val (.int (2147483647 : Int32)), .val (.int (bb ||| (1 : Int32))), .val (.ref ua), .val (.ref ui), .val (.int (1 : Int32)), .unset, .unset] [(.int (6 : Int32)), (.int (6 : Int32)), (.int (1 : Int32))]))
  refine own_st (fun _ kont => XS.icmpNo X20.here hx rfl (hb hby at_303) rfl (by decide) kont) ?_
  show own_Go p e below s _ _ _ (T20.setTop (mkF m 306 #[.val (.int ba), .val (.int bb), .val (.int bc), .val (.int bd), .val (.int (2147483647 : Int32)), .val (.int (bb ||| (1 : Int32))), .val (.ref ua), .val (.ref ui), .val (.int (1 : Int32)), .unset, .unset] [(.int (1 : Int32))]))
  refine own_st (fun _ kont => XS.iconst X20.here hx rfl (hb hby at_306) kont) ?_
  show own_Go p e below s _ _ _ (T20.setTop (mkF m 307 #[.val (.int ba), .val (.int bb), .val (.int bc), .val (.int bd), .val (.int (2147483647 : Int32)), .val (.int (bb ||| (1 : Int32))), .val (.ref ua), .val (.ref ui), .val (.int (1 : Int32)), .unset, .unset] [(.int (1 : Int32)), (.int (1 : Int32))]))
  refine own_st (fun _ kont => XS.goto X20.here hx rfl (pc0 := 307) (pc' := 311) rfl (hb hby at_307) (by decide) (by decide) kont) ?_
  show own_Go p e below s _ _ _ (T20.setTop (mkF m 311 #[.val (.int ba), .val (.int bb), .val (.int bc), .val (.int bd), .val (.int (2147483647 : Int32)), .val (.int (bb ||| (1 : Int32))), .val (.ref ua), .val (.ref ui), .val (.int (1 : Int32)), .unset, .unset] [(.int (1 : Int32)), (.int (1 : Int32))]))
  refine own_st (fun _ kont => XS.iand X20.here hx rfl (hb hby at_311) rfl kont) ?_
  show own_Go p e below s _ _ _ (T20.setTop (mkF m 312 #[.val (.int ba), .val (.int bb), .val (.int bc), .val (.int bd), .val (.int (2147483647 : Int32)), .val (.int (bb ||| (1 : Int32))), .val (.ref ua), .val (.ref ui), .val (.int (1 : Int32)), .unset, .unset] [(.int (1 : Int32))]))
  refine own_st (fun _ kont => XS.istore X20.here hx rfl (hb hby at_312) rfl (l' := #[.val (.int ba), .val (.int bb), .val (.int bc), .val (.int bd), .val (.int (2147483647 : Int32)), .val (.int (bb ||| (1 : Int32))), .val (.ref ua), .val (.ref ui), .val (.int (1 : Int32)), .unset, .unset]) rfl kont) ?_
  show own_Go p e below s _ _ _ (T20.setTop (mkF m 314 #[.val (.int ba), .val (.int bb), .val (.int bc), .val (.int bd), .val (.int (2147483647 : Int32)), .val (.int (bb ||| (1 : Int32))), .val (.ref ua), .val (.ref ui), .val (.int (1 : Int32)), .unset, .unset] []))
  refine own_st (fun _ kont => XS.iload X20.here hx rfl (hb hby at_314) rfl kont) ?_
  show own_Go p e below s _ _ _ (T20.setTop (mkF m 316 #[.val (.int ba), .val (.int bb), .val (.int bc), .val (.int bd), .val (.int (2147483647 : Int32)), .val (.int (bb ||| (1 : Int32))), .val (.ref ua), .val (.ref ui), .val (.int (1 : Int32)), .unset, .unset] [(.int (1 : Int32))]))
  refine own_st (fun _ kont => XS.aload X20.here hx rfl (hb hby at_316) rfl rfl kont) ?_
  show own_Go p e below s _ _ _ (T20.setTop (mkF m 318 #[.val (.int ba), .val (.int bb), .val (.int bc), .val (.int bd), .val (.int (2147483647 : Int32)), .val (.int (bb ||| (1 : Int32))), .val (.ref ua), .val (.ref ui), .val (.int (1 : Int32)), .unset, .unset] [(.ref ui), (.int (1 : Int32))]))
  refine own_st (fun _ kont => XS.aload X20.here hx rfl (hb hby at_318) rfl rfl kont) ?_
  show own_Go p e below s _ _ _ (T20.setTop (mkF m 320 #[.val (.int ba), .val (.int bb), .val (.int bc), .val (.int bd), .val (.int (2147483647 : Int32)), .val (.int (bb ||| (1 : Int32))), .val (.ref ua), .val (.ref ui), .val (.int (1 : Int32)), .unset, .unset] [(.ref ua), (.ref ui), (.int (1 : Int32))]))
  refine own_st (fun _ kont => XS.bipush X20.here hx rfl (hb hby at_320) kont) ?_
  show own_Go p e below s _ _ _ (T20.setTop (mkF m 322 #[.val (.int ba), .val (.int bb), .val (.int bc), .val (.int bd), .val (.int (2147483647 : Int32)), .val (.int (bb ||| (1 : Int32))), .val (.ref ua), .val (.ref ui), .val (.int (1 : Int32)), .unset, .unset] [(.int (7 : Int32)), (.ref ua), (.ref ui), (.int (1 : Int32))]))
  refine own_st (own_ldI X20 hx hZ (rfl : T20.heap = T20.heap) Vua_20 (i := 7) (by decide) (by decide) (v := (.int (f 7))) rfl (g := (mkF m 322 #[.val (.int ba), .val (.int bb), .val (.int bc), .val (.int bd), .val (.int (2147483647 : Int32)), .val (.int (bb ||| (1 : Int32))), .val (.ref ua), .val (.ref ui), .val (.int (1 : Int32)), .unset, .unset] [(.int (7 : Int32)), (.ref ua), (.ref ui), (.int (1 : Int32))])) rfl rfl (hb hby at_322)) ?_
  show own_Go p e below s _ _ _ (T20.setTop (mkF m 323 #[.val (.int ba), .val (.int bb), .val (.int bc), .val (.int bd), .val (.int (2147483647 : Int32)), .val (.int (bb ||| (1 : Int32))), .val (.ref ua), .val (.ref ui), .val (.int (1 : Int32)), .unset, .unset] [(.int (f 7)), (.ref ui), (.int (1 : Int32))]))
  refine own_cV X20 hx hml hZ hown (hw _ (List.mem_of_getElem? (i := 17) rfl)) (hw _ (List.mem_of_getElem? (i := 18) rfl)) (hw _ (List.mem_of_getElem? (i := 20) rfl)) (hw _ (List.mem_of_getElem? (i := 19) rfl)) (hw _ (List.mem_of_getElem? (i := 4) rfl)) (hw _ (List.mem_of_getElem? (i := 21) rfl)) (by decide) (own_rm7 l Z a0 hw ui (f 7) ka na kf20 nf20 (own_Su f 7) (7 : Int32) 7 T20.heap n0 sz20 Vk20 Vn20 Fk20 Fn20 Fs20 Fz20 EXui_20 HT20 hz20 (by omega) fr_ui fr_ka fr_na nak nan kn (own_Su_no hinj (by decide)) (hpos _) (by decide)) (rfl : T20.heap = T20.heap) EXui_20 (by decide) (W := 1) (by decide) (g := (mkF m 323 #[.val (.int ba), .val (.int bb), .val (.int bc), .val (.int bd), .val (.int (2147483647 : Int32)), .val (.int (bb ||| (1 : Int32))), .val (.ref ua), .val (.ref ui), .val (.int (1 : Int32)), .unset, .unset] [(.int (f 7)), (.ref ui), (.int (1 : Int32))])) rfl rfl own_pd0 (argsL := [(.int (f 7))]) (rest := [(.int (1 : Int32))]) rfl rfl rfl (by show 2 * 0 + _ ≤ _; exact Nat.le_of_eq rfl) (hb hby at_323) (by decide) (by decide) ?_
  intro T21 L21 v21 X21 hQ21
  obtain ⟨kf21, nf21, rfl, Nc21, K21, Fk21, Fn21, Fs21, Fz21, Vk21, Vn21, HT21, hz21⟩ := hQ21
  have N21 := Fr.app N20 Nc21
  have Vua_21 := Vua_20.keep K21 (ninS ne_ua_ui (ninS uak (ninS uan nin0)))
  have EXui_21 := EXui_20.keep K21
  have sz21 := Nat.le_trans sz20 K21.1
  show own_Go p e below s _ _ _ (T21.setTop (mkF m 326 #[.val (.int ba), .val (.int bb), .val (.int bc), .val (.int bd), .val (.int (2147483647 : Int32)), .val (.int (bb ||| (1 : Int32))), .val (.ref ua), .val (.ref ui), .val (.int (1 : Int32)), .unset, .unset] [(.int (7 : Int32)), (.int (1 : Int32))]))
  replace Fz21 : Fld Z T21.heap ui "com/example/hop_gate/hopgate/UserIndex" "size" "I" (.int (8 : Int32)) := Fz21
  replace HT21 := own_T_congr HT21 (own_Su_more (f := f) (i := 7) (by decide))
  show own_Go p e below s _ _ _ (T21.setTop (mkF m 326 #[.val (.int ba), .val (.int bb), .val (.int bc), .val (.int bd), .val (.int (2147483647 : Int32)), .val (.int (bb ||| (1 : Int32))), .val (.ref ua), .val (.ref ui), .val (.int (1 : Int32)), .unset, .unset] [(.int (7 : Int32)), (.int (1 : Int32))]))
  refine own_st (fun _ kont => XS.bipush X21.here hx rfl (hb hby at_326) kont) ?_
  show own_Go p e below s _ _ _ (T21.setTop (mkF m 328 #[.val (.int ba), .val (.int bb), .val (.int bc), .val (.int bd), .val (.int (2147483647 : Int32)), .val (.int (bb ||| (1 : Int32))), .val (.ref ua), .val (.ref ui), .val (.int (1 : Int32)), .unset, .unset] [(.int (7 : Int32)), (.int (7 : Int32)), (.int (1 : Int32))]))
  refine own_st (fun _ kont => XS.icmpNo X21.here hx rfl (hb hby at_328) rfl (by decide) kont) ?_
  show own_Go p e below s _ _ _ (T21.setTop (mkF m 331 #[.val (.int ba), .val (.int bb), .val (.int bc), .val (.int bd), .val (.int (2147483647 : Int32)), .val (.int (bb ||| (1 : Int32))), .val (.ref ua), .val (.ref ui), .val (.int (1 : Int32)), .unset, .unset] [(.int (1 : Int32))]))
  refine own_st (fun _ kont => XS.iconst X21.here hx rfl (hb hby at_331) kont) ?_
  show own_Go p e below s _ _ _ (T21.setTop (mkF m 332 #[.val (.int ba), .val (.int bb), .val (.int bc), .val (.int bd), .val (.int (2147483647 : Int32)), .val (.int (bb ||| (1 : Int32))), .val (.ref ua), .val (.ref ui), .val (.int (1 : Int32)), .unset, .unset] [(.int (1 : Int32)), (.int (1 : Int32))]))
  refine own_st (fun _ kont => XS.goto X21.here hx rfl (pc0 := 332) (pc' := 336) rfl (hb hby at_332) (by decide) (by decide) kont) ?_
  show own_Go p e below s _ _ _ (T21.setTop (mkF m 336 #[.val (.int ba), .val (.int bb), .val (.int bc), .val (.int bd), .val (.int (2147483647 : Int32)), .val (.int (bb ||| (1 : Int32))), .val (.ref ua), .val (.ref ui), .val (.int (1 : Int32)), .unset, .unset] [(.int (1 : Int32)), (.int (1 : Int32))]))
  refine own_st (fun _ kont => XS.iand X21.here hx rfl (hb hby at_336) rfl kont) ?_
  show own_Go p e below s _ _ _ (T21.setTop (mkF m 337 #[.val (.int ba), .val (.int bb), .val (.int bc), .val (.int bd), .val (.int (2147483647 : Int32)), .val (.int (bb ||| (1 : Int32))), .val (.ref ua), .val (.ref ui), .val (.int (1 : Int32)), .unset, .unset] [(.int (1 : Int32))]))
  refine own_st (fun _ kont => XS.istore X21.here hx rfl (hb hby at_337) rfl (l' := #[.val (.int ba), .val (.int bb), .val (.int bc), .val (.int bd), .val (.int (2147483647 : Int32)), .val (.int (bb ||| (1 : Int32))), .val (.ref ua), .val (.ref ui), .val (.int (1 : Int32)), .unset, .unset]) rfl kont) ?_
  show own_Go p e below s _ _ _ (T21.setTop (mkF m 339 #[.val (.int ba), .val (.int bb), .val (.int bc), .val (.int bd), .val (.int (2147483647 : Int32)), .val (.int (bb ||| (1 : Int32))), .val (.ref ua), .val (.ref ui), .val (.int (1 : Int32)), .unset, .unset] []))
  refine own_st (fun _ kont => XS.iload X21.here hx rfl (hb hby at_339) rfl kont) ?_
  show own_Go p e below s _ _ _ (T21.setTop (mkF m 341 #[.val (.int ba), .val (.int bb), .val (.int bc), .val (.int bd), .val (.int (2147483647 : Int32)), .val (.int (bb ||| (1 : Int32))), .val (.ref ua), .val (.ref ui), .val (.int (1 : Int32)), .unset, .unset] [(.int (1 : Int32))]))
  refine own_st (fun _ kont => XS.aload X21.here hx rfl (hb hby at_341) rfl rfl kont) ?_
  show own_Go p e below s _ _ _ (T21.setTop (mkF m 343 #[.val (.int ba), .val (.int bb), .val (.int bc), .val (.int bd), .val (.int (2147483647 : Int32)), .val (.int (bb ||| (1 : Int32))), .val (.ref ua), .val (.ref ui), .val (.int (1 : Int32)), .unset, .unset] [(.ref ui), (.int (1 : Int32))]))
  refine own_st (fun _ kont => XS.aload X21.here hx rfl (hb hby at_343) rfl rfl kont) ?_
  show own_Go p e below s _ _ _ (T21.setTop (mkF m 345 #[.val (.int ba), .val (.int bb), .val (.int bc), .val (.int bd), .val (.int (2147483647 : Int32)), .val (.int (bb ||| (1 : Int32))), .val (.ref ua), .val (.ref ui), .val (.int (1 : Int32)), .unset, .unset] [(.ref ua), (.ref ui), (.int (1 : Int32))]))
  refine own_st (fun _ kont => XS.bipush X21.here hx rfl (hb hby at_345) kont) ?_
  show own_Go p e below s _ _ _ (T21.setTop (mkF m 347 #[.val (.int ba), .val (.int bb), .val (.int bc), .val (.int bd), .val (.int (2147483647 : Int32)), .val (.int (bb ||| (1 : Int32))), .val (.ref ua), .val (.ref ui), .val (.int (1 : Int32)), .unset, .unset] [(.int (8 : Int32)), (.ref ua), (.ref ui), (.int (1 : Int32))]))
  refine own_st (own_ldI X21 hx hZ (rfl : T21.heap = T21.heap) Vua_21 (i := 8) (by decide) (by decide) (v := (.int (f 8))) rfl (g := (mkF m 347 #[.val (.int ba), .val (.int bb), .val (.int bc), .val (.int bd), .val (.int (2147483647 : Int32)), .val (.int (bb ||| (1 : Int32))), .val (.ref ua), .val (.ref ui), .val (.int (1 : Int32)), .unset, .unset] [(.int (8 : Int32)), (.ref ua), (.ref ui), (.int (1 : Int32))])) rfl rfl (hb hby at_347)) ?_
  show own_Go p e below s _ _ _ (T21.setTop (mkF m 348 #[.val (.int ba), .val (.int bb), .val (.int bc), .val (.int bd), .val (.int (2147483647 : Int32)), .val (.int (bb ||| (1 : Int32))), .val (.ref ua), .val (.ref ui), .val (.int (1 : Int32)), .unset, .unset] [(.int (f 8)), (.ref ui), (.int (1 : Int32))]))
  refine own_cV X21 hx hml hZ hown (hw _ (List.mem_of_getElem? (i := 17) rfl)) (hw _ (List.mem_of_getElem? (i := 18) rfl)) (hw _ (List.mem_of_getElem? (i := 20) rfl)) (hw _ (List.mem_of_getElem? (i := 19) rfl)) (hw _ (List.mem_of_getElem? (i := 4) rfl)) (hw _ (List.mem_of_getElem? (i := 21) rfl)) (by decide) (own_rm8 l Z a0 hw ui (f 8) ka na kf21 nf21 (own_Su f 8) (8 : Int32) 8 T21.heap n0 sz21 Vk21 Vn21 Fk21 Fn21 Fs21 Fz21 EXui_21 HT21 hz21 (by omega) fr_ui fr_ka fr_na nak nan kn (own_Su_no hinj (by decide)) (hpos _) (by decide)) (rfl : T21.heap = T21.heap) EXui_21 (by decide) (W := 1) (by decide) (g := (mkF m 348 #[.val (.int ba), .val (.int bb), .val (.int bc), .val (.int bd), .val (.int (2147483647 : Int32)), .val (.int (bb ||| (1 : Int32))), .val (.ref ua), .val (.ref ui), .val (.int (1 : Int32)), .unset, .unset] [(.int (f 8)), (.ref ui), (.int (1 : Int32))])) rfl rfl own_pd0 (argsL := [(.int (f 8))]) (rest := [(.int (1 : Int32))]) rfl rfl rfl (by show 2 * 0 + _ ≤ _; exact Nat.le_of_eq rfl) (hb hby at_348) (by decide) (by decide) ?_
  intro T22 L22 v22 X22 hQ22
  obtain ⟨kb22, nb22, kf22, nf22, rfl, Nc22, K22, Fk22, Fn22, Fs22, Fz22, Vk22, Vn22, HT22, hz22, hkb22, hnb22, hkn22⟩ := hQ22
  have fkb : n0 ≤ kb22 := Nat.le_trans sz21 hkb22
  have fnb : n0 ≤ nb22 := Nat.le_trans sz21 hnb22
  have nakb : ui ≠ kb22 := Nat.ne_of_lt (Nat.lt_of_lt_of_le EXui_21.lt hkb22)
  have nanb : ui ≠ nb22 := Nat.ne_of_lt (Nat.lt_of_lt_of_le EXui_21.lt hnb22)
  have uakb : ua ≠ kb22 := Nat.ne_of_lt (Nat.lt_of_lt_of_le Vua_21.lt hkb22)
  have uanb : ua ≠ nb22 := Nat.ne_of_lt (Nat.lt_of_lt_of_le Vua_21.lt hnb22)
  have N22 := Fr.app N21 Nc22
  have Vua_22 := Vua_21.keep K22 (ninS ne_ua_ui (ninS uak (ninS uan nin0)))
  have EXui_22 := EXui_21.keep K22
  have sz22 := Nat.le_trans sz21 K22.1
  show own_Go p e below s _ _ _ (T22.setTop (mkF m 351 #[.val (.int ba), .val (.int bb), .val (.int bc), .val (.int bd), .val (.int (2147483647 : Int32)), .val (.int (bb ||| (1 : Int32))), .val (.ref ua), .val (.ref ui), .val (.int (1 : Int32)), .unset, .unset] [(.int (8 : Int32)), (.int (1 : Int32))]))
  replace Fz22 : Fld Z T22.heap ui "com/example/hop_gate/hopgate/UserIndex" "size" "I" (.int (9 : Int32)) := Fz22
  replace HT22 := own_T_congr HT22 (own_Su_more (f := f) (i := 8) (by decide))
  show own_Go p e below s _ _ _ (T22.setTop (mkF m 351 #[.val (.int ba), .val (.int bb), .val (.int bc), .val (.int bd), .val (.int (2147483647 : Int32)), .val (.int (bb ||| (1 : Int32))), .val (.ref ua), .val (.ref ui), .val (.int (1 : Int32)), .unset, .unset] [(.int (8 : Int32)), (.int (1 : Int32))]))
  refine own_st (fun _ kont => XS.bipush X22.here hx rfl (hb hby at_351) kont) ?_
  show own_Go p e below s _ _ _ (T22.setTop (mkF m 353 #[.val (.int ba), .val (.int bb), .val (.int bc), .val (.int bd), .val (.int (2147483647 : Int32)), .val (.int (bb ||| (1 : Int32))), .val (.ref ua), .val (.ref ui), .val (.int (1 : Int32)), .unset, .unset] [(.int (8 : Int32)), (.int (8 : Int32)), (.int (1 : Int32))]))
  refine own_st (fun _ kont => XS.icmpNo X22.here hx rfl (hb hby at_353) rfl (by decide) kont) ?_
  show own_Go p e below s _ _ _ (T22.setTop (mkF m 356 #[.val (.int ba), .val (.int bb), .val (.int bc), .val (.int bd), .val (.int (2147483647 : Int32)), .val (.int (bb ||| (1 : Int32))), .val (.ref ua), .val (.ref ui), .val (.int (1 : Int32)), .unset, .unset] [(.int (1 : Int32))]))
  refine own_st (fun _ kont => XS.iconst X22.here hx rfl (hb hby at_356) kont) ?_
  show own_Go p e below s _ _ _ (T22.setTop (mkF m 357 #[.val (.int ba), .val (.int bb), .val (.int bc), .val (.int bd), .val (.int (2147483647 : Int32)), .val (.int (bb ||| (1 : Int32))), .val (.ref ua), .val (.ref ui), .val (.int (1 : Int32)), .unset, .unset] [(.int (1 : Int32)), (.int (1 : Int32))]))
  refine own_st (fun _ kont => XS.goto X22.here hx rfl (pc0 := 357) (pc' := 361) rfl (hb hby at_357) (by decide) (by decide) kont) ?_
  show own_Go p e below s _ _ _ (T22.setTop (mkF m 361 #[.val (.int ba), .val (.int bb), .val (.int bc), .val (.int bd), .val (.int (2147483647 : Int32)), .val (.int (bb ||| (1 : Int32))), .val (.ref ua), .val (.ref ui), .val (.int (1 : Int32)), .unset, .unset] [(.int (1 : Int32)), (.int (1 : Int32))]))
  refine own_st (fun _ kont => XS.iand X22.here hx rfl (hb hby at_361) rfl kont) ?_
  show own_Go p e below s _ _ _ (T22.setTop (mkF m 362 #[.val (.int ba), .val (.int bb), .val (.int bc), .val (.int bd), .val (.int (2147483647 : Int32)), .val (.int (bb ||| (1 : Int32))), .val (.ref ua), .val (.ref ui), .val (.int (1 : Int32)), .unset, .unset] [(.int (1 : Int32))]))
  refine own_st (fun _ kont => XS.istore X22.here hx rfl (hb hby at_362) rfl (l' := #[.val (.int ba), .val (.int bb), .val (.int bc), .val (.int bd), .val (.int (2147483647 : Int32)), .val (.int (bb ||| (1 : Int32))), .val (.ref ua), .val (.ref ui), .val (.int (1 : Int32)), .unset, .unset]) rfl kont) ?_
  show own_Go p e below s _ _ _ (T22.setTop (mkF m 364 #[.val (.int ba), .val (.int bb), .val (.int bc), .val (.int bd), .val (.int (2147483647 : Int32)), .val (.int (bb ||| (1 : Int32))), .val (.ref ua), .val (.ref ui), .val (.int (1 : Int32)), .unset, .unset] []))
  refine own_st (fun _ kont => XS.iloadN X22.here hx rfl (hb hby at_364) rfl kont) ?_
  show own_Go p e below s _ _ _ (T22.setTop (mkF m 365 #[.val (.int ba), .val (.int bb), .val (.int bc), .val (.int bd), .val (.int (2147483647 : Int32)), .val (.int (bb ||| (1 : Int32))), .val (.ref ua), .val (.ref ui), .val (.int (1 : Int32)), .unset, .unset] [(.int bc)]))
  refine own_st (fun _ kont => XS.iload X22.here hx rfl (hb hby at_365) rfl kont) ?_
  show own_Go p e below s _ _ _ (T22.setTop (mkF m 367 #[.val (.int ba), .val (.int bb), .val (.int bc), .val (.int bd), .val (.int (2147483647 : Int32)), .val (.int (bb ||| (1 : Int32))), .val (.ref ua), .val (.ref ui), .val (.int (1 : Int32)), .unset, .unset] [(.int (2147483647 : Int32)), (.int bc)]))
  refine own_st (fun _ kont => XS.iand X22.here hx rfl (hb hby at_367) rfl kont) ?_
  show own_Go p e below s _ _ _ (T22.setTop (mkF m 368 #[.val (.int ba), .val (.int bb), .val (.int bc), .val (.int bd), .val (.int (2147483647 : Int32)), .val (.int (bb ||| (1 : Int32))), .val (.ref ua), .val (.ref ui), .val (.int (1 : Int32)), .unset, .unset] [(.int (bc &&& (2147483647 : Int32)))]))
  refine own_st (fun _ kont => XS.bipush X22.here hx rfl (hb hby at_368) kont) ?_
  show own_Go p e below s _ _ _ (T22.setTop (mkF m 370 #[.val (.int ba), .val (.int bb), .val (.int bc), .val (.int bd), .val (.int (2147483647 : Int32)), .val (.int (bb ||| (1 : Int32))), .val (.ref ua), .val (.ref ui), .val (.int (1 : Int32)), .unset, .unset] [(.int (9 : Int32)), (.int (bc &&& (2147483647 : Int32)))]))
  refine own_st (fun _ kont => iremM X22 hx rfl (hb hby at_370) rfl (by decide) kont) ?_
  show own_Go p e below s _ _ _ (T22.setTop (mkF m 371 #[.val (.int ba), .val (.int bb), .val (.int bc), .val (.int bd), .val (.int (2147483647 : Int32)), .val (.int (bb ||| (1 : Int32))), .val (.ref ua), .val (.ref ui), .val (.int (1 : Int32)), .unset, .unset] [(.int ((bc &&& (2147483647 : Int32)) % (9 : Int32)))]))
  refine own_st (fun _ kont => XS.istore X22.here hx rfl (hb hby at_371) rfl (l' := #[.val (.int ba), .val (.int bb), .val (.int bc), .val (.int bd), .val (.int (2147483647 : Int32)), .val (.int (bb ||| (1 : Int32))), .val (.ref ua), .val (.ref ui), .val (.int (1 : Int32)), .val (.int ((bc &&& (2147483647 : Int32)) % (9 : Int32))), .unset]) rfl kont) ?_
  show own_Go p e below s _ _ _ (T22.setTop (mkF m 373 #[.val (.int ba), .val (.int bb), .val (.int bc), .val (.int bd), .val (.int (2147483647 : Int32)), .val (.int (bb ||| (1 : Int32))), .val (.ref ua), .val (.ref ui), .val (.int (1 : Int32)), .val (.int ((bc &&& (2147483647 : Int32)) % (9 : Int32))), .unset] []))
  obtain ⟨m9, hm9, hl9⟩ := own_mask bc (2147483647 : Int32) (k := 2147483647) (by decide)
  suffices JJ23 : ∀ (c9 : Int32) (j9 : Nat) (hj9 : c9.toInt = (j9 : Int)) (lj9 : j9 < 9), own_Go p e below s (fun v h' L => v = some (.int 1) ∧ Fr n0 L) room_1.cells room_1.slots (T22.setTop (mkF m 373 #[.val (.int ba), .val (.int bb), .val (.int bc), .val (.int bd), .val (.int (2147483647 : Int32)), .val (.int (bb ||| (1 : Int32))), .val (.ref ua), .val (.ref ui), .val (.int (1 : Int32)), .val (.int c9), .unset] [])) from JJ23 _ (m9 % 9) (by rw [own_rem (by rw [hm9]; omega) (by decide), hm9]; rfl) (by omega)
  intro c9 j9 hj9 lj9
  show own_Go p e below s _ _ _ (T22.setTop (mkF m 373 #[.val (.int ba), .val (.int bb), .val (.int bc), .val (.int bd), .val (.int (2147483647 : Int32)), .val (.int (bb ||| (1 : Int32))), .val (.ref ua), .val (.ref ui), .val (.int (1 : Int32)), .val (.int c9), .unset] []))
  refine own_st (fun _ kont => XS.iload X22.here hx rfl (hb hby at_373) rfl kont) ?_
  show own_Go p e below s _ _ _ (T22.setTop (mkF m 375 #[.val (.int ba), .val (.int bb), .val (.int bc), .val (.int bd), .val (.int (2147483647 : Int32)), .val (.int (bb ||| (1 : Int32))), .val (.ref ua), .val (.ref ui), .val (.int (1 : Int32)), .val (.int c9), .unset] [(.int (1 : Int32))]))
  refine own_st (fun _ kont => XS.aload X22.here hx rfl (hb hby at_375) rfl rfl kont) ?_
  show own_Go p e below s _ _ _ (T22.setTop (mkF m 377 #[.val (.int ba), .val (.int bb), .val (.int bc), .val (.int bd), .val (.int (2147483647 : Int32)), .val (.int (bb ||| (1 : Int32))), .val (.ref ua), .val (.ref ui), .val (.int (1 : Int32)), .val (.int c9), .unset] [(.ref ui), (.int (1 : Int32))]))
  refine own_st (fun _ kont => XS.aload X22.here hx rfl (hb hby at_377) rfl rfl kont) ?_
  show own_Go p e below s _ _ _ (T22.setTop (mkF m 379 #[.val (.int ba), .val (.int bb), .val (.int bc), .val (.int bd), .val (.int (2147483647 : Int32)), .val (.int (bb ||| (1 : Int32))), .val (.ref ua), .val (.ref ui), .val (.int (1 : Int32)), .val (.int c9), .unset] [(.ref ua), (.ref ui), (.int (1 : Int32))]))
  refine own_st (fun _ kont => XS.iload X22.here hx rfl (hb hby at_379) rfl kont) ?_
  show own_Go p e below s _ _ _ (T22.setTop (mkF m 381 #[.val (.int ba), .val (.int bb), .val (.int bc), .val (.int bd), .val (.int (2147483647 : Int32)), .val (.int (bb ||| (1 : Int32))), .val (.ref ua), .val (.ref ui), .val (.int (1 : Int32)), .val (.int c9), .unset] [(.int c9), (.ref ua), (.ref ui), (.int (1 : Int32))]))
  refine own_st (own_ldI X22 hx hZ (rfl : T22.heap = T22.heap) Vua_22 (i := j9) hj9 (by omega) (v := (.int (f j9))) rfl (g := (mkF m 381 #[.val (.int ba), .val (.int bb), .val (.int bc), .val (.int bd), .val (.int (2147483647 : Int32)), .val (.int (bb ||| (1 : Int32))), .val (.ref ua), .val (.ref ui), .val (.int (1 : Int32)), .val (.int c9), .unset] [(.int c9), (.ref ua), (.ref ui), (.int (1 : Int32))])) rfl rfl (hb hby at_381)) ?_
  show own_Go p e below s _ _ _ (T22.setTop (mkF m 382 #[.val (.int ba), .val (.int bb), .val (.int bc), .val (.int bd), .val (.int (2147483647 : Int32)), .val (.int (bb ||| (1 : Int32))), .val (.ref ua), .val (.ref ui), .val (.int (1 : Int32)), .val (.int c9), .unset] [(.int (f j9)), (.ref ui), (.int (1 : Int32))]))
  refine own_cV X22 hx hml hZ hown (hw _ (List.mem_of_getElem? (i := 17) rfl)) (hw _ (List.mem_of_getElem? (i := 18) rfl)) (hw _ (List.mem_of_getElem? (i := 20) rfl)) (hw _ (List.mem_of_getElem? (i := 19) rfl)) (hw _ (List.mem_of_getElem? (i := 4) rfl)) (hw _ (List.mem_of_getElem? (i := 21) rfl)) (by decide) (own_rm10 l Z a0 hw ui (f j9) kb22 nb22 kf22 nf22 (own_Su f 9) (9 : Int32) 16 (Int32.ofNat j9) T22.heap n0 sz22 Vk22 Vn22 Fk22 Fn22 Fs22 Fz22 EXui_22 HT22 hz22 (by omega) fr_ui fkb fnb nakb nanb hkn22 ⟨_, lj9, rfl, rfl⟩) (rfl : T22.heap = T22.heap) EXui_22 (by decide) (W := 1) (by decide) (g := (mkF m 382 #[.val (.int ba), .val (.int bb), .val (.int bc), .val (.int bd), .val (.int (2147483647 : Int32)), .val (.int (bb ||| (1 : Int32))), .val (.ref ua), .val (.ref ui), .val (.int (1 : Int32)), .val (.int c9), .unset] [(.int (f j9)), (.ref ui), (.int (1 : Int32))])) rfl rfl own_pd0 (argsL := [(.int (f j9))]) (rest := [(.int (1 : Int32))]) rfl rfl rfl (by show 2 * 0 + _ ≤ _; exact Nat.le_of_eq rfl) (hb hby at_382) (by decide) (by decide) ?_
  intro T24 L24 v24 X24 hQ24
  obtain ⟨rfl, eh24, le24⟩ := hQ24
  have N24 := own_nil N22 le24
  show own_Go p e below s _ _ _ (T24.setTop (mkF m 385 #[.val (.int ba), .val (.int bb), .val (.int bc), .val (.int bd), .val (.int (2147483647 : Int32)), .val (.int (bb ||| (1 : Int32))), .val (.ref ua), .val (.ref ui), .val (.int (1 : Int32)), .val (.int c9), .unset] [(.int (Int32.ofNat j9)), (.int (1 : Int32))]))
  refine own_st (fun _ kont => XS.iload X24.here hx rfl (hb hby at_385) rfl kont) ?_
  show own_Go p e below s _ _ _ (T24.setTop (mkF m 387 #[.val (.int ba), .val (.int bb), .val (.int bc), .val (.int bd), .val (.int (2147483647 : Int32)), .val (.int (bb ||| (1 : Int32))), .val (.ref ua), .val (.ref ui), .val (.int (1 : Int32)), .val (.int c9), .unset] [(.int c9), (.int (Int32.ofNat j9)), (.int (1 : Int32))]))
  refine own_st (fun _ kont => XS.icmpNo X24.here hx rfl (hb hby at_387) rfl (teq (Int32.toInt_inj.mp (by rw [hj9, Int32.toInt_ofNat_of_lt (by omega)]))).2 kont) ?_
  show own_Go p e below s _ _ _ (T24.setTop (mkF m 390 #[.val (.int ba), .val (.int bb), .val (.int bc), .val (.int bd), .val (.int (2147483647 : Int32)), .val (.int (bb ||| (1 : Int32))), .val (.ref ua), .val (.ref ui), .val (.int (1 : Int32)), .val (.int c9), .unset] [(.int (1 : Int32))]))
  refine own_st (fun _ kont => XS.iconst X24.here hx rfl (hb hby at_390) kont) ?_
  show own_Go p e below s _ _ _ (T24.setTop (mkF m 391 #[.val (.int ba), .val (.int bb), .val (.int bc), .val (.int bd), .val (.int (2147483647 : Int32)), .val (.int (bb ||| (1 : Int32))), .val (.ref ua), .val (.ref ui), .val (.int (1 : Int32)), .val (.int c9), .unset] [(.int (1 : Int32)), (.int (1 : Int32))]))
  refine own_st (fun _ kont => XS.goto X24.here hx rfl (pc0 := 391) (pc' := 395) rfl (hb hby at_391) (by decide) (by decide) kont) ?_
  show own_Go p e below s _ _ _ (T24.setTop (mkF m 395 #[.val (.int ba), .val (.int bb), .val (.int bc), .val (.int bd), .val (.int (2147483647 : Int32)), .val (.int (bb ||| (1 : Int32))), .val (.ref ua), .val (.ref ui), .val (.int (1 : Int32)), .val (.int c9), .unset] [(.int (1 : Int32)), (.int (1 : Int32))]))
  refine own_st (fun _ kont => XS.iand X24.here hx rfl (hb hby at_395) rfl kont) ?_
  show own_Go p e below s _ _ _ (T24.setTop (mkF m 396 #[.val (.int ba), .val (.int bb), .val (.int bc), .val (.int bd), .val (.int (2147483647 : Int32)), .val (.int (bb ||| (1 : Int32))), .val (.ref ua), .val (.ref ui), .val (.int (1 : Int32)), .val (.int c9), .unset] [(.int (1 : Int32))]))
  refine own_st (fun _ kont => XS.istore X24.here hx rfl (hb hby at_396) rfl (l' := #[.val (.int ba), .val (.int bb), .val (.int bc), .val (.int bd), .val (.int (2147483647 : Int32)), .val (.int (bb ||| (1 : Int32))), .val (.ref ua), .val (.ref ui), .val (.int (1 : Int32)), .val (.int c9), .unset]) rfl kont) ?_
  show own_Go p e below s _ _ _ (T24.setTop (mkF m 398 #[.val (.int ba), .val (.int bb), .val (.int bc), .val (.int bd), .val (.int (2147483647 : Int32)), .val (.int (bb ||| (1 : Int32))), .val (.ref ua), .val (.ref ui), .val (.int (1 : Int32)), .val (.int c9), .unset] []))
  refine own_st (fun _ kont => XS.iload X24.here hx rfl (hb hby at_398) rfl kont) ?_
  show own_Go p e below s _ _ _ (T24.setTop (mkF m 400 #[.val (.int ba), .val (.int bb), .val (.int bc), .val (.int bd), .val (.int (2147483647 : Int32)), .val (.int (bb ||| (1 : Int32))), .val (.ref ua), .val (.ref ui), .val (.int (1 : Int32)), .val (.int c9), .unset] [(.int (1 : Int32))]))
  refine own_st (fun _ kont => XS.aload X24.here hx rfl (hb hby at_400) rfl rfl kont) ?_
  show own_Go p e below s _ _ _ (T24.setTop (mkF m 402 #[.val (.int ba), .val (.int bb), .val (.int bc), .val (.int bd), .val (.int (2147483647 : Int32)), .val (.int (bb ||| (1 : Int32))), .val (.ref ua), .val (.ref ui), .val (.int (1 : Int32)), .val (.int c9), .unset] [(.ref ui), (.int (1 : Int32))]))
  refine own_st (fun _ kont => XS.aload X24.here hx rfl (hb hby at_402) rfl rfl kont) ?_
  show own_Go p e below s _ _ _ (T24.setTop (mkF m 404 #[.val (.int ba), .val (.int bb), .val (.int bc), .val (.int bd), .val (.int (2147483647 : Int32)), .val (.int (bb ||| (1 : Int32))), .val (.ref ua), .val (.ref ui), .val (.int (1 : Int32)), .val (.int c9), .unset] [(.ref ua), (.ref ui), (.int (1 : Int32))]))
  refine own_st (fun _ kont => XS.bipush X24.here hx rfl (hb hby at_404) kont) ?_
  show own_Go p e below s _ _ _ (T24.setTop (mkF m 406 #[.val (.int ba), .val (.int bb), .val (.int bc), .val (.int bd), .val (.int (2147483647 : Int32)), .val (.int (bb ||| (1 : Int32))), .val (.ref ua), .val (.ref ui), .val (.int (1 : Int32)), .val (.int c9), .unset] [(.int (9 : Int32)), (.ref ua), (.ref ui), (.int (1 : Int32))]))
  refine own_st (own_ldI X24 hx hZ eh24 Vua_22 (i := 9) (by decide) (by decide) (v := (.int (f 9))) rfl (g := (mkF m 406 #[.val (.int ba), .val (.int bb), .val (.int bc), .val (.int bd), .val (.int (2147483647 : Int32)), .val (.int (bb ||| (1 : Int32))), .val (.ref ua), .val (.ref ui), .val (.int (1 : Int32)), .val (.int c9), .unset] [(.int (9 : Int32)), (.ref ua), (.ref ui), (.int (1 : Int32))])) rfl rfl (hb hby at_406)) ?_
  show own_Go p e below s _ _ _ (T24.setTop (mkF m 407 #[.val (.int ba), .val (.int bb), .val (.int bc), .val (.int bd), .val (.int (2147483647 : Int32)), .val (.int (bb ||| (1 : Int32))), .val (.ref ua), .val (.ref ui), .val (.int (1 : Int32)), .val (.int c9), .unset] [(.int (f 9)), (.ref ui), (.int (1 : Int32))]))
  refine own_cV X24 hx hml hZ hown (hw _ (List.mem_of_getElem? (i := 17) rfl)) (hw _ (List.mem_of_getElem? (i := 18) rfl)) (hw _ (List.mem_of_getElem? (i := 20) rfl)) (hw _ (List.mem_of_getElem? (i := 19) rfl)) (hw _ (List.mem_of_getElem? (i := 4) rfl)) (hw _ (List.mem_of_getElem? (i := 21) rfl)) (by decide) (own_rm9 l Z a0 hw ui (f 9) kb22 nb22 kf22 nf22 (own_Su f 9) (9 : Int32) 16 T22.heap n0 sz22 Vk22 Vn22 Fk22 Fn22 Fs22 Fz22 EXui_22 HT22 hz22 (by omega) fr_ui fkb fnb nakb nanb hkn22 (own_Su_no hinj (by decide)) (hpos _) (by decide)) eh24 EXui_22 (by decide) (W := 1) (by decide) (g := (mkF m 407 #[.val (.int ba), .val (.int bb), .val (.int bc), .val (.int bd), .val (.int (2147483647 : Int32)), .val (.int (bb ||| (1 : Int32))), .val (.ref ua), .val (.ref ui), .val (.int (1 : Int32)), .val (.int c9), .unset] [(.int (f 9)), (.ref ui), (.int (1 : Int32))])) rfl rfl own_pd0 (argsL := [(.int (f 9))]) (rest := [(.int (1 : Int32))]) rfl rfl rfl (by show 2 * 0 + _ ≤ _; exact Nat.le_of_eq rfl) (hb hby at_407) (by decide) (by decide) ?_
  intro T25 L25 v25 X25 hQ25
  obtain ⟨kf25, nf25, rfl, Nc25, K25, Fk25, Fn25, Fs25, Fz25, Vk25, Vn25, HT25, hz25⟩ := hQ25
  have N25 := Fr.app N24 Nc25
  have Vua_25 := Vua_22.keep K25 (ninS ne_ua_ui (ninS uakb (ninS uanb nin0)))
  have EXui_25 := EXui_22.keep K25
  have sz25 := Nat.le_trans sz22 K25.1
  show own_Go p e below s _ _ _ (T25.setTop (mkF m 410 #[.val (.int ba), .val (.int bb), .val (.int bc), .val (.int bd), .val (.int (2147483647 : Int32)), .val (.int (bb ||| (1 : Int32))), .val (.ref ua), .val (.ref ui), .val (.int (1 : Int32)), .val (.int c9), .unset] [(.int (9 : Int32)), (.int (1 : Int32))]))
  replace Fz25 : Fld Z T25.heap ui "com/example/hop_gate/hopgate/UserIndex" "size" "I" (.int (10 : Int32)) := Fz25
  replace HT25 := own_T_congr HT25 (own_Su_more (f := f) (i := 9) (by decide))
  show own_Go p e below s _ _ _ (T25.setTop (mkF m 410 #[.val (.int ba), .val (.int bb), .val (.int bc), .val (.int bd), .val (.int (2147483647 : Int32)), .val (.int (bb ||| (1 : Int32))), .val (.ref ua), .val (.ref ui), .val (.int (1 : Int32)), .val (.int c9), .unset] [(.int (9 : Int32)), (.int (1 : Int32))]))
  refine own_st (fun _ kont => XS.bipush X25.here hx rfl (hb hby at_410) kont) ?_
  show own_Go p e below s _ _ _ (T25.setTop (mkF m 412 #[.val (.int ba), .val (.int bb), .val (.int bc), .val (.int bd), .val (.int (2147483647 : Int32)), .val (.int (bb ||| (1 : Int32))), .val (.ref ua), .val (.ref ui), .val (.int (1 : Int32)), .val (.int c9), .unset] [(.int (9 : Int32)), (.int (9 : Int32)), (.int (1 : Int32))]))
  refine own_st (fun _ kont => XS.icmpNo X25.here hx rfl (hb hby at_412) rfl (by decide) kont) ?_
  show own_Go p e below s _ _ _ (T25.setTop (mkF m 415 #[.val (.int ba), .val (.int bb), .val (.int bc), .val (.int bd), .val (.int (2147483647 : Int32)), .val (.int (bb ||| (1 : Int32))), .val (.ref ua), .val (.ref ui), .val (.int (1 : Int32)), .val (.int c9), .unset] [(.int (1 : Int32))]))
  refine own_st (fun _ kont => XS.iconst X25.here hx rfl (hb hby at_415) kont) ?_
  show own_Go p e below s _ _ _ (T25.setTop (mkF m 416 #[.val (.int ba), .val (.int bb), .val (.int bc), .val (.int bd), .val (.int (2147483647 : Int32)), .val (.int (bb ||| (1 : Int32))), .val (.ref ua), .val (.ref ui), .val (.int (1 : Int32)), .val (.int c9), .unset] [(.int (1 : Int32)), (.int (1 : Int32))]))
  refine own_st (fun _ kont => XS.goto X25.here hx rfl (pc0 := 416) (pc' := 420) rfl (hb hby at_416) (by decide) (by decide) kont) ?_
  show own_Go p e below s _ _ _ (T25.setTop (mkF m 420 #[.val (.int ba), .val (.int bb), .val (.int bc), .val (.int bd), .val (.int (2147483647 : Int32)), .val (.int (bb ||| (1 : Int32))), .val (.ref ua), .val (.ref ui), .val (.int (1 : Int32)), .val (.int c9), .unset] [(.int (1 : Int32)), (.int (1 : Int32))]))
  refine own_st (fun _ kont => XS.iand X25.here hx rfl (hb hby at_420) rfl kont) ?_
  show own_Go p e below s _ _ _ (T25.setTop (mkF m 421 #[.val (.int ba), .val (.int bb), .val (.int bc), .val (.int bd), .val (.int (2147483647 : Int32)), .val (.int (bb ||| (1 : Int32))), .val (.ref ua), .val (.ref ui), .val (.int (1 : Int32)), .val (.int c9), .unset] [(.int (1 : Int32))]))
  refine own_st (fun _ kont => XS.istore X25.here hx rfl (hb hby at_421) rfl (l' := #[.val (.int ba), .val (.int bb), .val (.int bc), .val (.int bd), .val (.int (2147483647 : Int32)), .val (.int (bb ||| (1 : Int32))), .val (.ref ua), .val (.ref ui), .val (.int (1 : Int32)), .val (.int c9), .unset]) rfl kont) ?_
  show own_Go p e below s _ _ _ (T25.setTop (mkF m 423 #[.val (.int ba), .val (.int bb), .val (.int bc), .val (.int bd), .val (.int (2147483647 : Int32)), .val (.int (bb ||| (1 : Int32))), .val (.ref ua), .val (.ref ui), .val (.int (1 : Int32)), .val (.int c9), .unset] []))
  refine own_st (fun _ kont => XS.iloadN X25.here hx rfl (hb hby at_423) rfl kont) ?_
  show own_Go p e below s _ _ _ (T25.setTop (mkF m 424 #[.val (.int ba), .val (.int bb), .val (.int bc), .val (.int bd), .val (.int (2147483647 : Int32)), .val (.int (bb ||| (1 : Int32))), .val (.ref ua), .val (.ref ui), .val (.int (1 : Int32)), .val (.int c9), .unset] [(.int bd)]))
  refine own_st (fun _ kont => XS.iload X25.here hx rfl (hb hby at_424) rfl kont) ?_
  show own_Go p e below s _ _ _ (T25.setTop (mkF m 426 #[.val (.int ba), .val (.int bb), .val (.int bc), .val (.int bd), .val (.int (2147483647 : Int32)), .val (.int (bb ||| (1 : Int32))), .val (.ref ua), .val (.ref ui), .val (.int (1 : Int32)), .val (.int c9), .unset] [(.int (2147483647 : Int32)), (.int bd)]))
  refine own_st (fun _ kont => XS.iand X25.here hx rfl (hb hby at_426) rfl kont) ?_
  show own_Go p e below s _ _ _ (T25.setTop (mkF m 427 #[.val (.int ba), .val (.int bb), .val (.int bc), .val (.int bd), .val (.int (2147483647 : Int32)), .val (.int (bb ||| (1 : Int32))), .val (.ref ua), .val (.ref ui), .val (.int (1 : Int32)), .val (.int c9), .unset] [(.int (bd &&& (2147483647 : Int32)))]))
  refine own_st (fun _ kont => XS.bipush X25.here hx rfl (hb hby at_427) kont) ?_
  show own_Go p e below s _ _ _ (T25.setTop (mkF m 429 #[.val (.int ba), .val (.int bb), .val (.int bc), .val (.int bd), .val (.int (2147483647 : Int32)), .val (.int (bb ||| (1 : Int32))), .val (.ref ua), .val (.ref ui), .val (.int (1 : Int32)), .val (.int c9), .unset] [(.int (10 : Int32)), (.int (bd &&& (2147483647 : Int32)))]))
  refine own_st (fun _ kont => iremM X25 hx rfl (hb hby at_429) rfl (by decide) kont) ?_
  show own_Go p e below s _ _ _ (T25.setTop (mkF m 430 #[.val (.int ba), .val (.int bb), .val (.int bc), .val (.int bd), .val (.int (2147483647 : Int32)), .val (.int (bb ||| (1 : Int32))), .val (.ref ua), .val (.ref ui), .val (.int (1 : Int32)), .val (.int c9), .unset] [(.int ((bd &&& (2147483647 : Int32)) % (10 : Int32)))]))
  refine own_st (fun _ kont => XS.istore X25.here hx rfl (hb hby at_430) rfl (l' := #[.val (.int ba), .val (.int bb), .val (.int bc), .val (.int bd), .val (.int (2147483647 : Int32)), .val (.int (bb ||| (1 : Int32))), .val (.ref ua), .val (.ref ui), .val (.int (1 : Int32)), .val (.int c9), .val (.int ((bd &&& (2147483647 : Int32)) % (10 : Int32)))]) rfl kont) ?_
  show own_Go p e below s _ _ _ (T25.setTop (mkF m 432 #[.val (.int ba), .val (.int bb), .val (.int bc), .val (.int bd), .val (.int (2147483647 : Int32)), .val (.int (bb ||| (1 : Int32))), .val (.ref ua), .val (.ref ui), .val (.int (1 : Int32)), .val (.int c9), .val (.int ((bd &&& (2147483647 : Int32)) % (10 : Int32)))] []))
  obtain ⟨m10, hm10, hl10⟩ := own_mask bd (2147483647 : Int32) (k := 2147483647) (by decide)
  suffices JJ26 : ∀ (c10 : Int32) (j10 : Nat) (hj10 : c10.toInt = (j10 : Int)) (lj10 : j10 < 10), own_Go p e below s (fun v h' L => v = some (.int 1) ∧ Fr n0 L) room_1.cells room_1.slots (T25.setTop (mkF m 432 #[.val (.int ba), .val (.int bb), .val (.int bc), .val (.int bd), .val (.int (2147483647 : Int32)), .val (.int (bb ||| (1 : Int32))), .val (.ref ua), .val (.ref ui), .val (.int (1 : Int32)), .val (.int c9), .val (.int c10)] [])) from JJ26 _ (m10 % 10) (by rw [own_rem (by rw [hm10]; omega) (by decide), hm10]; rfl) (by omega)
  intro c10 j10 hj10 lj10
  show own_Go p e below s _ _ _ (T25.setTop (mkF m 432 #[.val (.int ba), .val (.int bb), .val (.int bc), .val (.int bd), .val (.int (2147483647 : Int32)), .val (.int (bb ||| (1 : Int32))), .val (.ref ua), .val (.ref ui), .val (.int (1 : Int32)), .val (.int c9), .val (.int c10)] []))
  refine own_st (fun _ kont => XS.iload X25.here hx rfl (hb hby at_432) rfl kont) ?_
  show own_Go p e below s _ _ _ (T25.setTop (mkF m 434 #[.val (.int ba), .val (.int bb), .val (.int bc), .val (.int bd), .val (.int (2147483647 : Int32)), .val (.int (bb ||| (1 : Int32))), .val (.ref ua), .val (.ref ui), .val (.int (1 : Int32)), .val (.int c9), .val (.int c10)] [(.int (1 : Int32))]))
  refine own_st (fun _ kont => XS.aload X25.here hx rfl (hb hby at_434) rfl rfl kont) ?_
  show own_Go p e below s _ _ _ (T25.setTop (mkF m 436 #[.val (.int ba), .val (.int bb), .val (.int bc), .val (.int bd), .val (.int (2147483647 : Int32)), .val (.int (bb ||| (1 : Int32))), .val (.ref ua), .val (.ref ui), .val (.int (1 : Int32)), .val (.int c9), .val (.int c10)] [(.ref ui), (.int (1 : Int32))]))
  refine own_st (fun _ kont => XS.aload X25.here hx rfl (hb hby at_436) rfl rfl kont) ?_
  show own_Go p e below s _ _ _ (T25.setTop (mkF m 438 #[.val (.int ba), .val (.int bb), .val (.int bc), .val (.int bd), .val (.int (2147483647 : Int32)), .val (.int (bb ||| (1 : Int32))), .val (.ref ua), .val (.ref ui), .val (.int (1 : Int32)), .val (.int c9), .val (.int c10)] [(.ref ua), (.ref ui), (.int (1 : Int32))]))
  refine own_st (fun _ kont => XS.iload X25.here hx rfl (hb hby at_438) rfl kont) ?_
  show own_Go p e below s _ _ _ (T25.setTop (mkF m 440 #[.val (.int ba), .val (.int bb), .val (.int bc), .val (.int bd), .val (.int (2147483647 : Int32)), .val (.int (bb ||| (1 : Int32))), .val (.ref ua), .val (.ref ui), .val (.int (1 : Int32)), .val (.int c9), .val (.int c10)] [(.int c10), (.ref ua), (.ref ui), (.int (1 : Int32))]))
  refine own_st (own_ldI X25 hx hZ (rfl : T25.heap = T25.heap) Vua_25 (i := j10) hj10 (by omega) (v := (.int (f j10))) rfl (g := (mkF m 440 #[.val (.int ba), .val (.int bb), .val (.int bc), .val (.int bd), .val (.int (2147483647 : Int32)), .val (.int (bb ||| (1 : Int32))), .val (.ref ua), .val (.ref ui), .val (.int (1 : Int32)), .val (.int c9), .val (.int c10)] [(.int c10), (.ref ua), (.ref ui), (.int (1 : Int32))])) rfl rfl (hb hby at_440)) ?_
  show own_Go p e below s _ _ _ (T25.setTop (mkF m 441 #[.val (.int ba), .val (.int bb), .val (.int bc), .val (.int bd), .val (.int (2147483647 : Int32)), .val (.int (bb ||| (1 : Int32))), .val (.ref ua), .val (.ref ui), .val (.int (1 : Int32)), .val (.int c9), .val (.int c10)] [(.int (f j10)), (.ref ui), (.int (1 : Int32))]))
  refine own_cV X25 hx hml hZ hown (hw _ (List.mem_of_getElem? (i := 17) rfl)) (hw _ (List.mem_of_getElem? (i := 18) rfl)) (hw _ (List.mem_of_getElem? (i := 20) rfl)) (hw _ (List.mem_of_getElem? (i := 19) rfl)) (hw _ (List.mem_of_getElem? (i := 4) rfl)) (hw _ (List.mem_of_getElem? (i := 21) rfl)) (by decide) (own_rm10 l Z a0 hw ui (f j10) kb22 nb22 kf25 nf25 (own_Su f 10) (10 : Int32) 17 (Int32.ofNat j10) T25.heap n0 sz25 Vk25 Vn25 Fk25 Fn25 Fs25 Fz25 EXui_25 HT25 hz25 (by omega) fr_ui fkb fnb nakb nanb hkn22 ⟨_, lj10, rfl, rfl⟩) (rfl : T25.heap = T25.heap) EXui_25 (by decide) (W := 1) (by decide) (g := (mkF m 441 #[.val (.int ba), .val (.int bb), .val (.int bc), .val (.int bd), .val (.int (2147483647 : Int32)), .val (.int (bb ||| (1 : Int32))), .val (.ref ua), .val (.ref ui), .val (.int (1 : Int32)), .val (.int c9), .val (.int c10)] [(.int (f j10)), (.ref ui), (.int (1 : Int32))])) rfl rfl own_pd0 (argsL := [(.int (f j10))]) (rest := [(.int (1 : Int32))]) rfl rfl rfl (by show 2 * 0 + _ ≤ _; exact Nat.le_of_eq rfl) (hb hby at_441) (by decide) (by decide) ?_
  intro T27 L27 v27 X27 hQ27
  obtain ⟨rfl, eh27, le27⟩ := hQ27
  have N27 := own_nil N25 le27
  show own_Go p e below s _ _ _ (T27.setTop (mkF m 444 #[.val (.int ba), .val (.int bb), .val (.int bc), .val (.int bd), .val (.int (2147483647 : Int32)), .val (.int (bb ||| (1 : Int32))), .val (.ref ua), .val (.ref ui), .val (.int (1 : Int32)), .val (.int c9), .val (.int c10)] [(.int (Int32.ofNat j10)), (.int (1 : Int32))]))
  refine own_st (fun _ kont => XS.iload X27.here hx rfl (hb hby at_444) rfl kont) ?_
  show own_Go p e below s _ _ _ (T27.setTop (mkF m 446 #[.val (.int ba), .val (.int bb), .val (.int bc), .val (.int bd), .val (.int (2147483647 : Int32)), .val (.int (bb ||| (1 : Int32))), .val (.ref ua), .val (.ref ui), .val (.int (1 : Int32)), .val (.int c9), .val (.int c10)] [(.int c10), (.int (Int32.ofNat j10)), (.int (1 : Int32))]))
  refine own_st (fun _ kont => XS.icmpNo X27.here hx rfl (hb hby at_446) rfl (teq (Int32.toInt_inj.mp (by rw [hj10, Int32.toInt_ofNat_of_lt (by omega)]))).2 kont) ?_
  show own_Go p e below s _ _ _ (T27.setTop (mkF m 449 #[.val (.int ba), .val (.int bb), .val (.int bc), .val (.int bd), .val (.int (2147483647 : Int32)), .val (.int (bb ||| (1 : Int32))), .val (.ref ua), .val (.ref ui), .val (.int (1 : Int32)), .val (.int c9), .val (.int c10)] [(.int (1 : Int32))]))
  refine own_st (fun _ kont => XS.iconst X27.here hx rfl (hb hby at_449) kont) ?_
  show own_Go p e below s _ _ _ (T27.setTop (mkF m 450 #[.val (.int ba), .val (.int bb), .val (.int bc), .val (.int bd), .val (.int (2147483647 : Int32)), .val (.int (bb ||| (1 : Int32))), .val (.ref ua), .val (.ref ui), .val (.int (1 : Int32)), .val (.int c9), .val (.int c10)] [(.int (1 : Int32)), (.int (1 : Int32))]))
  refine own_st (fun _ kont => XS.goto X27.here hx rfl (pc0 := 450) (pc' := 454) rfl (hb hby at_450) (by decide) (by decide) kont) ?_
  show own_Go p e below s _ _ _ (T27.setTop (mkF m 454 #[.val (.int ba), .val (.int bb), .val (.int bc), .val (.int bd), .val (.int (2147483647 : Int32)), .val (.int (bb ||| (1 : Int32))), .val (.ref ua), .val (.ref ui), .val (.int (1 : Int32)), .val (.int c9), .val (.int c10)] [(.int (1 : Int32)), (.int (1 : Int32))]))
  refine own_st (fun _ kont => XS.iand X27.here hx rfl (hb hby at_454) rfl kont) ?_
  show own_Go p e below s _ _ _ (T27.setTop (mkF m 455 #[.val (.int ba), .val (.int bb), .val (.int bc), .val (.int bd), .val (.int (2147483647 : Int32)), .val (.int (bb ||| (1 : Int32))), .val (.ref ua), .val (.ref ui), .val (.int (1 : Int32)), .val (.int c9), .val (.int c10)] [(.int (1 : Int32))]))
  refine own_st (fun _ kont => XS.istore X27.here hx rfl (hb hby at_455) rfl (l' := #[.val (.int ba), .val (.int bb), .val (.int bc), .val (.int bd), .val (.int (2147483647 : Int32)), .val (.int (bb ||| (1 : Int32))), .val (.ref ua), .val (.ref ui), .val (.int (1 : Int32)), .val (.int c9), .val (.int c10)]) rfl kont) ?_
  show own_Go p e below s _ _ _ (T27.setTop (mkF m 457 #[.val (.int ba), .val (.int bb), .val (.int bc), .val (.int bd), .val (.int (2147483647 : Int32)), .val (.int (bb ||| (1 : Int32))), .val (.ref ua), .val (.ref ui), .val (.int (1 : Int32)), .val (.int c9), .val (.int c10)] []))
  refine own_st (fun _ kont => XS.iload X27.here hx rfl (hb hby at_457) rfl kont) ?_
  show own_Go p e below s _ _ _ (T27.setTop (mkF m 459 #[.val (.int ba), .val (.int bb), .val (.int bc), .val (.int bd), .val (.int (2147483647 : Int32)), .val (.int (bb ||| (1 : Int32))), .val (.ref ua), .val (.ref ui), .val (.int (1 : Int32)), .val (.int c9), .val (.int c10)] [(.int (1 : Int32))]))
  exact own_endN X27 hx hlk (t := .boolean) hret (by simp) (hb hby at_459) (w := (1 : Int32)) (by decide) ⟨rfl, N27⟩ (by decide) (by decide)
set_option maxRecDepth 65536 in
set_option maxHeartbeats 40000000 in
theorem own_comes {Post : Tables → Env → Array Value → State → Outcome → State → Prop} (hpost : ∀ tb e args s v u, (limb_1_1.after args s (.returned v) u = true ∧ limb_1_2.after args s (.returned v) u = true ∧ True) → FrameEnd s (.returned v) u (Jvm.fieldLocs frame_1_writes args s ++ Jvm.arrayLocs frame_1_arrays args s ++ Jvm.staticLocs frame_1_statics s) 24 320 → Post tb e args s (.returned v) u) :
    ArmFor flags0 classFile x code maxLocals ret World_1 tables_1 room_1 Calls_1 rest_1 Pre_1 Post := by
  intro l hfl _ _ p e ha hc hk s m args below hf hA hF happ hP
  obtain ⟨hcalls, hrest, hpre⟩ := hP
  obtain ⟨-, -, -, hnamed, -, -, -, hat⟩ := (Spec.applies_iff hf).mp happ
  obtain ⟨hg, hn⟩ := and_e (Cond.before_iff.mp (show (Jvm.Cond.and given_1 narrow_1).before args s = true from hpre))
  obtain ⟨gc, r0⟩ := and_e hg
  obtain ⟨k0, r1⟩ := and_e r0
  obtain ⟨k1, r2⟩ := and_e r1
  obtain ⟨k2, r3⟩ := and_e r2
  obtain ⟨w0, w1, w2, w3, rfl⟩ : ∃ w0 w1 w2 w3 : Value, args = #[w0, w1, w2, w3] := by
    have hs : args.size = 4 := by simpa [Cond.value, given_1] using gc
    obtain ⟨L⟩ := args
    match L, hs with
    | [w0, w1, w2, w3], _ => exact ⟨w0, w1, w2, w3, rfl⟩
  have hw := fun d (hd : d ∈ tables_1) => atoms_spec (ws := Jvm.Cond.code x code maxLocals ret :: tables_1) hat d (List.mem_cons_of_mem _ hd)
  obtain ⟨i0, ei0⟩ := is_v k0
  obtain rfl : w0 = (.int i0) := Option.some.inj ei0
  obtain ⟨i1, ei1⟩ := is_v k1
  obtain rfl : w1 = (.int i1) := Option.some.inj ei1
  obtain ⟨i2, ei2⟩ := is_v k2
  obtain rfl : w2 = (.int i2) := Option.some.inj ei2
  obtain ⟨i3, ei3⟩ := is_v r3
  obtain rfl : w3 = (.int i3) := Option.some.inj ei3
  obtain ⟨n, o, h1, h2, h3, _, L, rfl, ⟨rfl, N⟩, hq⟩ := own_rm0 l s _ hw i0 i1 i2 i3 s.heap s.heap.size (Nat.le_refl _)  tables_1 p e ha hc hk s m _ below hf ((Spec.applies_iff_loose hf).mp happ).1 ⟨rfl, State.Warmed39.refl s, rfl⟩ trivial
  refine ⟨n, _, h1, h2, h3, hpost _ _ _ _ _ _ ⟨Cond.after_iff.mpr rfl, Cond.after_iff.mpr (eq_i res_at (Term.int_eval (1)) rfl), trivial⟩ ⟨hq.1, hq.2.1, (hq.2.2.sift fun y hy => Or.inr (N y hy)).mono (by decide) (by decide)⟩⟩
theorem main_1_1 : Claimed_1_1 := own_comes fun _ _ _ _ _ _ h hF => ⟨h.1, hF⟩
theorem main_1_2 : Claimed_1_2 := own_comes fun _ _ _ _ _ _ h hF => ⟨h.2.1, hF⟩
end Jvm.Pilot.@@N@@
namespace Jvm.Pilot.@@N@@
open Jvm Jvm.ClassFile Sem Op Lib Jvm.Free Jvm.Stand Jvm.Pilot.@@N@@.Jvm.D
/-! MADE BY PROGRAM (witnessworld.py) out of the Statement's table words and the real class files: 9 classes; the members and pool entries that the words name. The judged class is class 1, her method 1. -/
namespace start1
open Jvm.ClassFile
def u (s : String) : CpInfo := .utf8 (stringToUtf16 s)
/-- a pool by its gaps: so many unusable entries, then the entry; so many at the end -/
def gap : Nat → List CpInfo → List CpInfo
  | 0, r => r
  | n + 1, r => .unusable :: gap n r
def poolList (es : List (Nat × CpInfo)) (last : Nat) : List CpInfo := es.foldr (fun e r => gap e.1 (e.2 :: r)) (gap last [])
def pool (es : List (Nat × CpInfo)) (last : Nat) : Array CpInfo := ⟨poolList es last⟩
def fileOf (pool : Array CpInfo) (this : Nat) (attrs : Array Attribute := #[]) (ms : Array MethodInfo := #[]) (fl : Nat := 33) (sup : Nat := 0) (ifs : Array Nat := #[]) (fds : Array FieldInfo := #[]) : ClassFile where
  minorVersion := 0
  majorVersion := 65
  constantPool := pool
  accessFlags := fl
  thisClass := this
  superClass := sup
  interfaces := ifs
  fields := fds
  methods := ms
  attributes := attrs
def plain (name : String) (sup : Option ClassId) : Class where
  name := name
  kind := .ordinary
  loader := none
  accessFlags := 33
  super := sup
  interfaces := #[]
  cf := none
  fields := #[]
  methods := #[]
  instanceTypes := #[]
  staticTypes := #[]
  resolved := #[]
  callSites := []
  init := .initialized
  statics := none
  mirror := none

def pool0 : Array CpInfo := pool [(5, u "<init>"), (0, u "()V"), (1, .class_ 10), (1, u "java/lang/Object")] 113

def k0c0 : Code := { maxStack := 0, maxLocals := 1, code := object_method_1_code, exceptionTable := #[], attributes := #[] }
def k0m0 : Method := { name := "<init>", desc := "()V", sig := { parameters := [], returnType := none }, accessFlags := 1, code := some k0c0 }
/-- java/lang/Object -/
def k0 : Class := { plain "java/lang/Object" none with
  accessFlags := 33
  interfaces := #[]
  cf := some (fileOf pool0 8 #[] #[{ accessFlags := 1, nameIndex := 5, descriptorIndex := 6, attributes := #[] }] 33 0 #[] #[])
  fields := #[]
  methods := #[k0m0]
  instanceTypes := #[]
  staticTypes := #[]
  resolved := Array.replicate 124 none
  statics := none }

def pool1 : Array CpInfo := pool [(2, .class_ 4), (0, .nameAndType 5 6), (0, u "java/lang/Object"), (0, u "<init>"), (0, u "()V"), (0, .integer 2147483647), (0, .class_ 9), (0, u "com/example/hop_gate/hopgate/UserIndex"), (0, .methodref 8 3), (0, .methodref 8 12), (0, .nameAndType 13 14), (0, u "add"), (0, u "(I)I"), (0, .class_ 16), (0, u "com/example/hop_gate/hopgate/UserIndexAddPinLaw"), (2, u "law"), (0, u "(IIII)Z")] 5

def k1m0 : Method := { name := "<init>", desc := "()V", sig := { parameters := [], returnType := none }, accessFlags := 1, code := none }
def k1c1 : Code := { maxStack := 5, maxLocals := 11, code := code, exceptionTable := #[], attributes := #[] }
def k1m1 : Method := { name := "law", desc := "(IIII)Z", sig := { parameters := [.int, .int, .int, .int], returnType := some .boolean }, accessFlags := 9, code := some k1c1 }
/-- com/example/hop_gate/hopgate/UserIndexAddPinLaw -/
def k1 : Class := { plain "com/example/hop_gate/hopgate/UserIndexAddPinLaw" (some 0) with
  accessFlags := 49
  interfaces := #[]
  cf := some (fileOf pool1 15 #[] #[{ accessFlags := 1, nameIndex := 5, descriptorIndex := 6, attributes := #[] }, { accessFlags := 9, nameIndex := 19, descriptorIndex := 20, attributes := #[] }] 49 2 #[] #[])
  fields := #[]
  methods := #[k1m0, k1m1]
  instanceTypes := #[]
  staticTypes := #[]
  resolved := Array.replicate 26 none
  statics := none }

def pool2 : Array CpInfo := pool [(1, .methodref 2 3), (0, .class_ 4), (0, .nameAndType 5 6), (0, u "java/lang/Object"), (0, u "<init>"), (0, u "()V"), (0, .fieldref 8 9), (0, .class_ 10), (0, .nameAndType 11 12), (0, u "com/example/hop_gate/hopgate/UserIndex"), (0, u "keys"), (0, u "[I"), (0, .fieldref 8 14), (0, .nameAndType 15 12), (0, u "numbers"), (0, .fieldref 8 17), (0, .nameAndType 18 19), (0, u "shift"), (0, u "I"), (0, .fieldref 8 21), (0, .nameAndType 22 19), (0, u "size"), (0, .methodref 8 24), (0, .nameAndType 25 26), (0, u "place"), (0, u "(I)I"), (0, .methodref 8 28), (0, .nameAndType 29 6), (0, u "grow"), (0, .integer 2654435769), (5, u "add")] 3

def k2c0 : Code := { maxStack := 2, maxLocals := 1, code := prog_59_method_1_code, exceptionTable := #[], attributes := #[] }
def k2m0 : Method := { name := "<init>", desc := "()V", sig := { parameters := [], returnType := none }, accessFlags := 0, code := some k2c0 }
def k2c1 : Code := { maxStack := 4, maxLocals := 4, code := prog_59_method_4_code, exceptionTable := #[], attributes := #[] }
def k2m1 : Method := { name := "add", desc := "(I)I", sig := { parameters := [.int], returnType := some .int }, accessFlags := 0, code := some k2c1 }
def k2c2 : Code := { maxStack := 3, maxLocals := 3, code := prog_59_method_5_code, exceptionTable := #[], attributes := #[] }
def k2m2 : Method := { name := "place", desc := "(I)I", sig := { parameters := [.int], returnType := some .int }, accessFlags := 2, code := some k2c2 }
def k2c3 : Code := { maxStack := 4, maxLocals := 5, code := prog_59_method_6_code, exceptionTable := #[], attributes := #[] }
def k2m3 : Method := { name := "grow", desc := "()V", sig := { parameters := [], returnType := none }, accessFlags := 2, code := some k2c3 }
/-- com/example/hop_gate/hopgate/UserIndex -/
def k2 : Class := { plain "com/example/hop_gate/hopgate/UserIndex" (some 0) with
  accessFlags := 32
  interfaces := #[]
  cf := some (fileOf pool2 8 #[] #[{ accessFlags := 0, nameIndex := 5, descriptorIndex := 6, attributes := #[] }, { accessFlags := 0, nameIndex := 36, descriptorIndex := 26, attributes := #[] }, { accessFlags := 2, nameIndex := 25, descriptorIndex := 26, attributes := #[] }, { accessFlags := 2, nameIndex := 29, descriptorIndex := 6, attributes := #[] }] 32 2 #[] #[{ accessFlags := 2, nameIndex := 11, descriptorIndex := 12, attributes := #[] }, { accessFlags := 2, nameIndex := 15, descriptorIndex := 12, attributes := #[] }, { accessFlags := 2, nameIndex := 18, descriptorIndex := 19, attributes := #[] }, { accessFlags := 2, nameIndex := 22, descriptorIndex := 19, attributes := #[] }])
  fields := #[{ name := "keys", type := (.array .int), accessFlags := 2, slot := 0, constantValue := 0 }, { name := "numbers", type := (.array .int), accessFlags := 2, slot := 1, constantValue := 0 }, { name := "shift", type := .int, accessFlags := 2, slot := 2, constantValue := 0 }, { name := "size", type := .int, accessFlags := 2, slot := 3, constantValue := 0 }]
  methods := #[k2m0, k2m1, k2m2, k2m3]
  instanceTypes := #[(.array .int), (.array .int), .int, .int]
  staticTypes := #[]
  resolved := Array.replicate 40 none
  statics := none }

def pool3 : Array CpInfo := pool [(1, u "java/lang/Cloneable"), (0, .class_ 1), (0, u "java/lang/Object"), (0, .class_ 3)] 3

/-- java/lang/Cloneable -/
def k3 : Class := { plain "java/lang/Cloneable" (some 0) with
  accessFlags := 1537
  interfaces := #[]
  cf := some (fileOf pool3 2 #[] #[] 1537 4 #[] #[])
  fields := #[]
  methods := #[]
  instanceTypes := #[]
  staticTypes := #[]
  resolved := Array.replicate 8 none
  statics := none }

def pool4 : Array CpInfo := pool [(1, u "java/io/Serializable"), (0, .class_ 1), (0, u "java/lang/Object"), (0, .class_ 3)] 3

/-- java/io/Serializable -/
def k4 : Class := { plain "java/io/Serializable" (some 0) with
  accessFlags := 1537
  interfaces := #[]
  cf := some (fileOf pool4 2 #[] #[] 1537 4 #[] #[])
  fields := #[]
  methods := #[]
  instanceTypes := #[]
  staticTypes := #[]
  resolved := Array.replicate 8 none
  statics := none }

/-- the primitive byte -/
def k5 : Class := { plain "byte" none with kind := .primitive 'B', accessFlags := 0x411 }
/-- [B -/
def k6 : Class := { plain "[B" (some 0) with kind := .array 5 .byte, interfaces := #[3, 4], accessFlags := 1041 }

/-- the primitive int -/
def k7 : Class := { plain "int" none with kind := .primitive 'I', accessFlags := 0x411 }
/-- [I -/
def k8 : Class := { plain "[I" (some 0) with kind := .array 7 .int, interfaces := #[3, 4], accessFlags := 1041 }

def heap : Heap := #[]
def classes : Array Class := #[k0, k1, k2, k3, k4, k5, k6, k7, k8]
def interned : List (Array UInt16 × Addr) := []
def slotsUsed : Nat := 0
def theMethod : MethodId := ⟨1, 1⟩
def args0 : Array Value := #[.int 49, .int 50, .int 4, .int 60]
def aboutOver (below : List Frame) : State where
  vm := { classes := classes, interned := interned.toArray }
  heap := heap
  slotsUsed := slotsUsed
  threads := #[{ frames := .invoking theMethod args0 :: below }]
def below0 : List Frame := [.native { method := ⟨0, 0⟩, args := #[] }]
def about1 : State := aboutOver below0
def p0 : Program := .bare "" "" ""
def e0 : Env := launch0.env 0 0 0
theorem w_frames : about1.frames = Frame.invoking theMethod args0 :: below0 := rfl
set_option maxRecDepth 65536 in
theorem w_args : argsFit about1.vm theMethod args0 = true := by decide +kernel
set_option maxRecDepth 65536 in
theorem w_heap : heapFits about1 = true := by decide +kernel
set_option maxRecDepth 65536 in
theorem w_runnable : about1.curStatus? = some .runnable := by decide +kernel
set_option maxRecDepth 65536 in
theorem w_alone : about1.alone = true := by decide +kernel
set_option maxRecDepth 65536 in
theorem w_named : about1.methodNamed? x = some theMethod := by decide +kernel
set_option maxRecDepth 65536 in
theorem w_hears : about1.hears theMethod below0 = true := by decide +kernel
set_option maxRecDepth 65536 in
theorem w_ripe : about1.ripe theMethod args0 below0 = true := by decide +kernel
theorem w_running : about1.status = .running := rfl
set_option maxRecDepth 65536 in
theorem w_room : about1.hasRoom e0.platform room_1 = true :=
  launch0.hasRoom_least _ room_1 (by decide +kernel) (by decide +kernel) (by decide +kernel) (by decide +kernel) (by decide +kernel) (by decide +kernel)
theorem allAtoms_all (ts : List Jvm.Cond) (a : Array Jvm.Value) (st : Jvm.State) : (allAtoms ts).before a st = ts.all (fun c => c.before a st) := by
  induction ts with
  | nil => rfl
  | cons c t ih =>
    show (Jvm.Cond.and c (allAtoms t)).before a st = _
    rw [Jvm.Cond.before_and, ih, List.all_cons]
def words1 : List Jvm.Cond := Jvm.Cond.code x code maxLocals ret :: tables_1
/-- a 'code' word, met by the world's own term for the bytes: nothing is compared byte by byte -/
theorem code_word {y : MethodName} {bytes : ByteArray} {mx : Nat} {rt : Option FieldType} {a : Array Value} {s : State} {m : MethodId} {meth : Method} {c : Code} (h1 : s.methodNamed? y = some m) (h2 : s.vm.method? m = some meth) (h3 : meth.code = some c) (h4 : c.code = bytes)
    (h5 : (c.maxLocals == mx && c.exceptionTable.isEmpty && decide (c.maxStack ≤ mostOperands) && decide (meth.sig.returnType = rt) && !meth.locks && decide (parseMethodDescriptor y.desc = some meth.sig)) = true) : (Jvm.Cond.code y bytes mx rt).before a s = true := by
  simp only [Bool.and_eq_true, beq_iff_eq, Bool.not_eq_true', decide_eq_true_eq] at h5
  obtain ⟨⟨⟨⟨⟨g1, g2⟩, g3⟩, g4⟩, g5⟩, g6⟩ := h5
  simp [Cond.before, Cond.holds, Cond.value, h1, h2, h3, h4, g1, g2, g3, g4, g5, g6]
def isCode : Jvm.Cond → Bool
  | .code _ _ _ _ => true
  | _ => false
theorem all_split {L : List Jvm.Cond} {P : Jvm.Cond → Bool} (h1 : L.all (fun c => isCode c || P c) = true) (h2 : ∀ c ∈ L.filter isCode, P c = true) : L.all P = true := by
  refine List.all_eq_true.mpr fun c hc => ?_
  have h := List.all_eq_true.mp h1 c hc
  rcases Bool.eq_false_or_eq_true (isCode c) with hi | hi
  · exact h2 c (List.mem_filter.mpr ⟨hc, hi⟩)
  · simpa [hi] using h
set_option maxRecDepth 65536 in
theorem w_c0 : (Jvm.Cond.code x code maxLocals ret).before args0 about1 = true := code_word (m := ⟨1, 1⟩) (meth := k1m1) (c := k1c1) (by decide +kernel) rfl rfl rfl (by decide +kernel)
set_option maxRecDepth 65536 in
theorem w_c1 : (Jvm.Cond.code ({ cls := "com/example/hop_gate/hopgate/UserIndex", name := "<init>", desc := "()V" } : Jvm.MethodName) prog_59_method_1_code (1 : Nat) (Option.none : Option Jvm.ClassFile.FieldType)).before args0 about1 = true := code_word (m := ⟨2, 0⟩) (meth := k2m0) (c := k2c0) (by decide +kernel) rfl rfl rfl (by decide +kernel)
set_option maxRecDepth 65536 in
theorem w_c2 : (Jvm.Cond.code ({ cls := "java/lang/Object", name := "<init>", desc := "()V" } : Jvm.MethodName) object_method_1_code (1 : Nat) (Option.none : Option Jvm.ClassFile.FieldType)).before args0 about1 = true := code_word (m := ⟨0, 0⟩) (meth := k0m0) (c := k0c0) (by decide +kernel) rfl rfl rfl (by decide +kernel)
set_option maxRecDepth 65536 in
theorem w_c3 : (Jvm.Cond.code ({ cls := "com/example/hop_gate/hopgate/UserIndex", name := "add", desc := "(I)I" } : Jvm.MethodName) prog_59_method_4_code (4 : Nat) (Option.some Jvm.ClassFile.FieldType.int)).before args0 about1 = true := code_word (m := ⟨2, 1⟩) (meth := k2m1) (c := k2c1) (by decide +kernel) rfl rfl rfl (by decide +kernel)
set_option maxRecDepth 65536 in
theorem w_c4 : (Jvm.Cond.code ({ cls := "com/example/hop_gate/hopgate/UserIndex", name := "place", desc := "(I)I" } : Jvm.MethodName) prog_59_method_5_code (3 : Nat) (Option.some Jvm.ClassFile.FieldType.int)).before args0 about1 = true := code_word (m := ⟨2, 2⟩) (meth := k2m2) (c := k2c2) (by decide +kernel) rfl rfl rfl (by decide +kernel)
set_option maxRecDepth 65536 in
theorem w_c5 : (Jvm.Cond.code ({ cls := "com/example/hop_gate/hopgate/UserIndex", name := "grow", desc := "()V" } : Jvm.MethodName) prog_59_method_6_code (5 : Nat) (Option.none : Option Jvm.ClassFile.FieldType)).before args0 about1 = true := code_word (m := ⟨2, 3⟩) (meth := k2m3) (c := k2c3) (by decide +kernel) rfl rfl rfl (by decide +kernel)
def codes1 : List Jvm.Cond := [Jvm.Cond.code x code maxLocals ret, Jvm.Cond.code ({ cls := "com/example/hop_gate/hopgate/UserIndex", name := "<init>", desc := "()V" } : Jvm.MethodName) prog_59_method_1_code (1 : Nat) (Option.none : Option Jvm.ClassFile.FieldType), Jvm.Cond.code ({ cls := "java/lang/Object", name := "<init>", desc := "()V" } : Jvm.MethodName) object_method_1_code (1 : Nat) (Option.none : Option Jvm.ClassFile.FieldType), Jvm.Cond.code ({ cls := "com/example/hop_gate/hopgate/UserIndex", name := "add", desc := "(I)I" } : Jvm.MethodName) prog_59_method_4_code (4 : Nat) (Option.some Jvm.ClassFile.FieldType.int), Jvm.Cond.code ({ cls := "com/example/hop_gate/hopgate/UserIndex", name := "place", desc := "(I)I" } : Jvm.MethodName) prog_59_method_5_code (3 : Nat) (Option.some Jvm.ClassFile.FieldType.int), Jvm.Cond.code ({ cls := "com/example/hop_gate/hopgate/UserIndex", name := "grow", desc := "()V" } : Jvm.MethodName) prog_59_method_6_code (5 : Nat) (Option.none : Option Jvm.ClassFile.FieldType)]
set_option maxRecDepth 65536 in
theorem codes_eq : words1.filter isCode = codes1 := rfl
theorem w_codes : ∀ c ∈ words1.filter isCode, c.before args0 about1 = true := by
  rw [codes_eq]
  intro c hc
  simp only [codes1, List.mem_cons, List.not_mem_nil, or_false] at hc
  rcases hc with rfl | rfl | rfl | rfl | rfl | rfl
  · exact w_c0
  · exact w_c1
  · exact w_c2
  · exact w_c3
  · exact w_c4
  · exact w_c5
set_option maxRecDepth 65536 in
theorem w_t1 : (words1.take 24).all (fun c => isCode c || c.before args0 about1) = true := by decide +kernel
set_option maxRecDepth 65536 in
theorem w_t2 : (words1.drop 24).all (fun c => isCode c || c.before args0 about1) = true := by decide +kernel
theorem w_tables : (allAtoms (Jvm.Cond.code x code maxLocals ret :: tables_1)).before args0 about1 = true := by
  rw [allAtoms_all]
  show words1.all (fun c => c.before args0 about1) = true
  refine all_split ?_ w_codes
  rw [← List.take_append_drop 24 words1, List.all_append, w_t1, w_t2]
  rfl
set_option maxRecDepth 65536 in
theorem w_case : (Jvm.Cond.and given_1 narrow_1).before args0 about1 = true := by decide +kernel
theorem w_applies : (headSpec (Jvm.Cond.code x code maxLocals ret :: tables_1) room_1).applies x e0.platform about1 = true :=
  (Spec.applies_iff w_frames).mpr ⟨w_running, w_runnable, w_alone, w_named, w_hears, w_ripe, w_room, w_tables⟩
theorem atStart : AtStart classFile x code maxLocals ret World_1 tables_1 room_1 Calls_1 rest_1 Pre_1 launch0 p0 e0 about1 theMethod args0 below0 :=
  ⟨lists_1, trivial, launch0.admits_env _ _ _, launch0.least_env, fairChoices_fair.cas, fairChoices_fair.clock, w_frames, w_args, w_heap, w_applies, trivial, trivial, w_case⟩
end start1
theorem witness_1 : WitnessClaimed_1 := ⟨start1.p0, start1.e0, start1.about1, start1.theMethod, start1.args0, start1.below0, start1.atStart⟩
end Jvm.Pilot.@@N@@
