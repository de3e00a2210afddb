import JvmDerived
import JvmDerived.Pilot.@@N@@Statement
import JvmDerived.Pilot.@@N@@Code
set_option linter.unusedVariables false
set_option linter.unusedSimpArgs false
namespace Jvm.Pilot.@@N@@
open Jvm Jvm.ClassFile Sem Op Lib Jvm.Free Jvm.Stand Jvm.LawKit Jvm.RoadKit Bundle Jvm.Pilot.@@N@@.Jvm.D
section OwnKit
variable {p : Program} {l : Launch} {e : Env} {R : Room} {s : State} {m : MethodId} {args : Array Value} {below : List Frame} {meth : Method} {c : Code} {T : State} {locs : List Loc} {cells slots : Nat} {Z : State} {a0 : Array Value} {h h' : Heap}
/-- what a body leaves: its value, the heap, the places written -/
abbrev own_P := Option Value → Heap → List Loc → Prop
/-- from here the run comes back, and leaves P -/
def own_Go (p : Program) (e : Env) (below : List Frame) (s : State) (P : own_P) (kc ks : Nat) (A : State) : Prop :=
  ∃ s₂ o, Steps p.tables e below A s₂ ∧ s₂.status = .running ∧ Ended s₂ below o ∧ ∃ v L, o = Outcome.returned v ∧ P v s₂.heap L ∧ FrameEnd s o s₂ L kc ks
theorem own_st {P : own_P} {kc ks : Nat} {A B : State} (hs : ∀ t, Steps p.tables e below B t → Steps p.tables e below A t) (k : own_Go p e below s P kc ks B) : own_Go p e below s P kc ks A := by
  obtain ⟨s₂, o, h1, h2⟩ := k
  exact ⟨s₂, o, hs _ h1, h2⟩
theorem own_stT {P : own_P} {kc ks : Nat} {A B : State} (hs : Steps p.tables e below A B) (k : own_Go p e below s P kc ks B) : own_Go p e below s P kc ks A := by
  obtain ⟨s₂, o, h1, h2⟩ := k
  exact ⟨s₂, o, hs.trans h1, h2⟩
theorem own_end (X : Stand p l e R s m args below meth c T locs cells slots) (hx : p.tables.exec = Jvm.exec) (hlk : meth.locks = false) {P : own_P} {kc ks : Nat} {pc : Nat} {Ls : Array Slot} {w : Value} {t : FieldType} {i : Instr} {rest : List Value} (hret : meth.sig.returnType = some t) (hn : narrow t w = w)
    (hi : (i = .ireturn ∧ (t = .int ∨ t = .boolean ∨ t = .byte ∨ t = .char ∨ t = .short) ∧ ∃ z, w = .int z) ∨ (i = .lreturn ∧ t = .long ∧ ∃ z, w = .long z) ∨ (i = .dreturn ∧ t = .double ∧ ∃ z, w = .double z) ∨ (i = .freturn ∧ t = .float ∧ ∃ z, w = .float z) ∨ (i = .areturn ∧ t.isReference = true ∧ w.isRef = true))
    (hd : decode c.code pc = .ok (i, 1)) (hP : P (some w) T.heap locs) (hc : cells ≤ kc) (hs : slots ≤ ks) : own_Go p e below s P kc ks (T.setTop (mkF m pc Ls (w :: rest))) := by
  obtain ⟨fs, hr, hrun, hended, hW, hsame⟩ := X.leave (v := some w) (fun h => by rw [hret] at h; cases h) hlk
  exact ⟨_, _, retOut X hx hret hn hi hd hr, hrun, hended, _, _, rfl, hP, ⟨_, rfl⟩, hW, hsame.mono hc hs⟩
theorem own_endI (X : Stand p l e R s m args below meth c T locs cells slots) (hx : p.tables.exec = Jvm.exec) (hlk : meth.locks = false) {P : own_P} {kc ks : Nat} {pc : Nat} {Ls : Array Slot} {z : Int32} {rest : List Value} (hret : meth.sig.returnType = some .int)
    (hd : decode c.code pc = .ok (.ireturn, 1)) (hP : P (some (.int z)) T.heap locs) (hc : cells ≤ kc) (hs : slots ≤ ks) : own_Go p e below s P kc ks (T.setTop (mkF m pc Ls (.int z :: rest))) :=
  own_end X hx hlk hret rfl (Or.inl ⟨rfl, Or.inl rfl, z, rfl⟩) hd hP hc hs
theorem own_endJ (X : Stand p l e R s m args below meth c T locs cells slots) (hx : p.tables.exec = Jvm.exec) (hlk : meth.locks = false) {P : own_P} {kc ks : Nat} {pc : Nat} {Ls : Array Slot} {z : Int64} {rest : List Value} (hret : meth.sig.returnType = some .long)
    (hd : decode c.code pc = .ok (.lreturn, 1)) (hP : P (some (.long z)) T.heap locs) (hc : cells ≤ kc) (hs : slots ≤ ks) : own_Go p e below s P kc ks (T.setTop (mkF m pc Ls (.long z :: rest))) :=
  own_end X hx hlk hret rfl (Or.inr (Or.inl ⟨rfl, rfl, z, rfl⟩)) hd hP hc hs
theorem own_endA (X : Stand p l e R s m args below meth c T locs cells slots) (hx : p.tables.exec = Jvm.exec) (hlk : meth.locks = false) {P : own_P} {kc ks : Nat} {pc : Nat} {Ls : Array Slot} {a : Addr} {t : FieldType} {rest : List Value} (hret : meth.sig.returnType = some t) (ht : t.isReference = true) (hn : narrow t (.ref a) = .ref a)
    (hd : decode c.code pc = .ok (.areturn, 1)) (hP : P (some (.ref a)) T.heap locs) (hc : cells ≤ kc) (hs : slots ≤ ks) : own_Go p e below s P kc ks (T.setTop (mkF m pc Ls (.ref a :: rest))) :=
  own_end X hx hlk hret hn (Or.inr (Or.inr (Or.inr (Or.inr ⟨rfl, ht, rfl⟩)))) hd hP hc hs
/-- a boolean, byte, char, short comes back narrowed -/
theorem own_endN (X : Stand p l e R s m args below meth c T locs cells slots) (hx : p.tables.exec = Jvm.exec) (hlk : meth.locks = false) {P : own_P} {kc ks : Nat} {pc : Nat} {Ls : Array Slot} {z : Int32} {t : FieldType} {rest : List Value} (hret : meth.sig.returnType = some t) (ht : t = .boolean ∨ t = .byte ∨ t = .char ∨ t = .short)
    (hd : decode c.code pc = .ok (.ireturn, 1)) {w : Int32} (hz : nar t z = w) (hP : P (some (.int w)) T.heap locs) (hc : cells ≤ kc) (hs : slots ≤ ks) : own_Go p e below s P kc ks (T.setTop (mkF m pc Ls (.int z :: rest))) := by
  subst hz
  obtain ⟨fs, hr, hrun, hended, hW, hsame⟩ := X.leave (v := some (.int (nar t z))) (fun h => by rw [hret] at h; cases h) hlk
  exact ⟨_, _, retN X hx hret ht hd hr, hrun, hended, _, _, rfl, hP, ⟨_, rfl⟩, hW, hsame.mono hc hs⟩
theorem own_endV (X : Stand p l e R s m args below meth c T locs cells slots) (hx : p.tables.exec = Jvm.exec) (hlk : meth.locks = false) {P : own_P} {kc ks : Nat} {pc : Nat} {Ls : Array Slot} (hret : meth.sig.returnType = none)
    (hd : decode c.code pc = .ok (.return_, 1)) (hP : P none T.heap locs) (hc : cells ≤ kc) (hs : slots ≤ ks) : own_Go p e below s P kc ks (T.setTop (mkF m pc Ls [])) := by
  obtain ⟨fs, hr, hrun, hended, hW, hsame⟩ := X.leave (v := none) (fun _ => rfl) hlk
  exact ⟨_, _, X.returnOut hx hret hd hr, hrun, hended, _, _, rfl, hP, ⟨_, rfl⟩, hW, hsame.mono hc hs⟩
/-- a body's contract -/
def own_Met (l : Launch) (Z : State) (y : MethodName) (bytes : ByteArray) (maxL : Nat) (ret : Option FieldType) (rm : Room) (as : Array Value) (h : Heap) (Q : own_P) : Prop :=
  ∀ ws : List Jvm.Cond, MetFree l y (head1 (Jvm.Cond.code y bytes maxL ret :: ws) rm) (fun a U => a = as ∧ Z.Warmed39 U.vm ∧ U.heap = h) (fun _ _ _ _ _ => True) (fun _ U o U' => ∃ v L, o = .returned v ∧ Q v U'.heap L ∧ FrameEnd U o U' L rm.cells rm.slots)
theorem own_in {y : MethodName} {bytes : ByteArray} {maxL : Nat} {ret : Option FieldType} {rm : Room} {as : Array Value} {Q : own_P} (pn : plainFor y = true)
    (body : ∀ (p : Program) (e : Env) (s : State) (m : MethodId) (below : List Frame) (meth : Method) (c : Code) (s₁ : State), p.tables.exec = Jvm.exec → c.code = bytes → c.maxLocals = maxL → s.vm.findClass y.cls = some m.cls → meth.name = y.name → meth.locks = false → meth.sig.returnType = ret → Z.Warmed39 s.vm →
      Stand p l e rm s m as below meth c s₁ [] 0 0 → s₁.heap = h → own_Go p e below s Q rm.cells rm.slots (s₁.setTop (entryFrame m as maxL))) : own_Met l Z y bytes maxL ret rm as h Q := by
  intro ws
  refine MetFree.of_bodySF pn hisR ?_
  intro p e s m args below meth c s₁ Bd hml hP hK
  obtain ⟨rfl, hZ, hh⟩ := hP
  exact body p e s m below meth c s₁ Bd.exec Bd.bytes hml (findClass_of_methodNamed Bd.named) (name_of_methodNamed Bd.named Bd.method).1 (BodyLoose.notSynchronized Bd) Bd.returns hZ (Stand.of_body Bd) (by rw [← hh, Bd.state]; rfl)
theorem own_ef {tbp : Program} {P : own_P} {kc ks : Nat} {g g' : JFrame} (q : g = g') (k : own_Go tbp e below s P kc ks (T.setTop g')) : own_Go tbp e below s P kc ks (T.setTop g) := q ▸ k
/-- a static call by its contract -/
theorem own_cS (X : Stand p l e R s m args below meth c T locs cells slots) (hx : p.tables.exec = Jvm.exec) {ml : Nat} (hml : c.maxLocals = ml) (hZ : Z.Warmed39 s.vm) {own : String} {index : Nat} {y : MethodName} {bytes : ByteArray} {maxL : Nat} {ret : Option FieldType} {rm : Room} {as : Array Value} {Q : own_P}
    (hown : s.vm.findClass own = some m.cls) (w1 : (Jvm.Cond.methodLink own index y).before a0 Z = true) (w2 : (Jvm.Cond.static y).before a0 Z = true) (w3 : (Jvm.Cond.initialized y.cls).before a0 Z = true) (w4 : (Jvm.Cond.code y bytes maxL ret).before a0 Z = true)
    (hy : y.cls ≠ "java/lang/invoke/MethodHandle" ∧ y.cls ≠ "java/lang/invoke/VarHandle") (hM : own_Met l Z y bytes maxL ret rm as h Q) (eT : T.heap = h) (hf : rm.frames + 1 ≤ R.frames) {W : Nat} (hl : W + (maxL + 11) + rm.locals ≤ R.locals)
    {g : JFrame} (hg : g.method = m) (hsize : g.locals.size = ml) {ps : List FieldType} {r : Option FieldType} (hpd : parseMethodDescriptor y.desc = some ⟨ps, r⟩) {argsL rest : List Value} (hlen : argsL.length = ps.length) (has : argsL.toArray = as) (hst : g.stack = argsL.reverse ++ rest)
    (hW : 2 * g.monitorRoom + (rest.map fun v => v.category).sum ≤ W) (hd : decode c.code g.pc = .ok (.invokestatic index, 3)) (hc : cells + rm.cells ≤ R.cells) (hs : slots + rm.slots ≤ R.slots) {P : own_P} {kc ks : Nat}
    (k : ∀ T' L v, Stand p l e R s m args below meth c T' (locs ++ L) (cells + rm.cells) (slots + rm.slots) → Q v T'.heap L → own_Go p e below s P kc ks (T'.setTop { g with pc := g.pc + 3, stack := v.toList ++ rest })) : own_Go p e below s P kc ks (T.setTop g) := by
  obtain ⟨v, vm, ⟨T', L', k', n'⟩, -, X', ⟨L, hQ, hl', hk', hn'⟩, st⟩ := Jvm.LawKit.callS X hx (y := y) hown (mvT hZ w1) (mvT hZ w2) (mvT hZ w3) (mvT hZ w4) hy (backOf (W := W) (hM []) hZ w4 w3 hf hl) hg (hsize.trans hml.symm) (argsL := argsL) (rest := rest) (lenOf hpd hlen) hst hW hd (fun _ _ => ⟨has, eT, hc, hs⟩)
  dsimp only [Pt.U, Pt.locs, Pt.cells, Pt.slots] at X' hl' hk' hn' st hQ
  subst hl' hk' hn'
  exact own_st st (k T' L v X' hQ)
/-- an instance method by its contract -/
theorem own_cV (X : Stand p l e R s m args below meth c T locs cells slots) (hx : p.tables.exec = Jvm.exec) {ml : Nat} (hml : c.maxLocals = ml) (hZ : Z.Warmed39 s.vm) {own C : String} {index : Nat} {y : MethodName} {bytes : ByteArray} {maxL : Nat} {ret : Option FieldType} {rm : Room} {as : Array Value} {Q : own_P}
    (hown : s.vm.findClass own = some m.cls) (w1 : (Jvm.Cond.methodLink own index y).before a0 Z = true) (w2 : (Jvm.Cond.declares y).before a0 Z = true) (w5 : (Jvm.Cond.selects C y y).before a0 Z = true) (w6 : (Jvm.Cond.instanceMethod y).before a0 Z = true) (w3 : (Jvm.Cond.initialized y.cls).before a0 Z = true) (w4 : (Jvm.Cond.code y bytes maxL ret).before a0 Z = true)
    (hy : y.cls ≠ "java/lang/invoke/MethodHandle" ∧ y.cls ≠ "java/lang/invoke/VarHandle") (hM : own_Met l Z y bytes maxL ret rm as h Q) (eT : T.heap = h) {b : Addr} (EX : Exa Z h b C) (hf : rm.frames + 1 ≤ R.frames) {W : Nat} (hl : W + (maxL + 11) + rm.locals ≤ R.locals)
    {g : JFrame} (hg : g.method = m) (hsize : g.locals.size = ml) {ps : List FieldType} {r : Option FieldType} (hpd : parseMethodDescriptor y.desc = some ⟨ps, r⟩) {argsL rest : List Value} (hlen : argsL.length = ps.length) (has : (.ref b :: argsL).toArray = as) (hst : g.stack = argsL.reverse ++ .ref b :: rest)
    (hW : 2 * g.monitorRoom + (rest.map fun v => v.category).sum ≤ W) (hd : decode c.code g.pc = .ok (.invokevirtual index, 3)) (hc : cells + rm.cells ≤ R.cells) (hs : slots + rm.slots ≤ R.slots) {P : own_P} {kc ks : Nat}
    (k : ∀ T' L v, Stand p l e R s m args below meth c T' (locs ++ L) (cells + rm.cells) (slots + rm.slots) → Q v T'.heap L → own_Go p e below s P kc ks (T'.setTop { g with pc := g.pc + 3, stack := v.toList ++ rest })) : own_Go p e below s P kc ks (T.setTop g) := by
  obtain ⟨cq, kq, qa, qb, qc⟩ := isOf hZ eT EX
  obtain ⟨v, vm, ⟨T', L', k', n'⟩, -, X', ⟨L, hQ, hl', hk', hn'⟩, st⟩ := X.virtualBack hx (y := y) (z := y) hown (mvT hZ w1) (mvT hZ w2) (notFace_of_selects (args := #[]) (mvT hZ w5)) (mvT hZ w5) (mvT hZ w6) hy (backOf (W := W) (hM []) hZ w4 w3 hf hl) qa qc hg (hsize.trans hml.symm) (Steps.refl _) (argsL := argsL) (rest := rest) (lenOf hpd hlen) hst hW hd (fun _ _ => ⟨has, eT, hc, hs⟩)
  dsimp only [Pt.U, Pt.locs, Pt.cells, Pt.slots] at X' hl' hk' hn' st hQ
  subst hl' hk' hn'
  exact own_stT st (k T' L v X' hQ)
/-- a private method by its contract -/
theorem own_cP (X : Stand p l e R s m args below meth c T locs cells slots) (hx : p.tables.exec = Jvm.exec) {ml : Nat} (hml : c.maxLocals = ml) (hZ : Z.Warmed39 s.vm) {own C : String} {index nn : Nat} {y : MethodName} {bytes : ByteArray} {maxL : Nat} {ret : Option FieldType} {rm : Room} {as : Array Value} {Q : own_P}
    (hown : s.vm.findClass own = some m.cls) (w1 : (Jvm.Cond.methodLink own index y).before a0 Z = true) (w2 : (Jvm.Cond.instanceMethod y).before a0 Z = true) (w5 : (Jvm.Cond.privateMethod y).before a0 Z = true) (wi : (Jvm.Cond.instantiable y.cls nn).before a0 Z = true) (w3 : (Jvm.Cond.initialized y.cls).before a0 Z = true) (w4 : (Jvm.Cond.code y bytes maxL ret).before a0 Z = true)
    (hy : y.cls ≠ "java/lang/invoke/MethodHandle" ∧ y.cls ≠ "java/lang/invoke/VarHandle") (hM : own_Met l Z y bytes maxL ret rm as h Q) (eT : T.heap = h) {b : Addr} (EX : Exa Z h b C) (hf : rm.frames + 1 ≤ R.frames) {W : Nat} (hl : W + (maxL + 11) + rm.locals ≤ R.locals)
    {g : JFrame} (hg : g.method = m) (hsize : g.locals.size = ml) {ps : List FieldType} {r : Option FieldType} (hpd : parseMethodDescriptor y.desc = some ⟨ps, r⟩) {argsL rest : List Value} (hlen : argsL.length = ps.length) (has : (.ref b :: argsL).toArray = as) (hst : g.stack = argsL.reverse ++ .ref b :: rest)
    (hW : 2 * g.monitorRoom + (rest.map fun v => v.category).sum ≤ W) (hd : decode c.code g.pc = .ok (.invokevirtual index, 3)) (hc : cells + rm.cells ≤ R.cells) (hs : slots + rm.slots ≤ R.slots) {P : own_P} {kc ks : Nat}
    (k : ∀ T' L v, Stand p l e R s m args below meth c T' (locs ++ L) (cells + rm.cells) (slots + rm.slots) → Q v T'.heap L → own_Go p e below s P kc ks (T'.setTop { g with pc := g.pc + 3, stack := v.toList ++ rest })) : own_Go p e below s P kc ks (T.setTop g) := by
  obtain ⟨cq, q1, q2⟩ := EX.cell
  have hpriv : s.PrivateAt y := Cond.privateMethod_at (mvP hZ w5 (args := #[]))
  have hsel : (Jvm.Cond.selects y.cls y y).before args s = true := by
    have wi' : (Jvm.Cond.instantiable y.cls nn).before args s = true := mvT hZ wi
    obtain ⟨c2, k2, f1, f2, f3, f4, -⟩ := Cond.instantiable_spec wi'
    exact selects_self_of_private f1 f2 (Bool.or_eq_false_iff.mp f4).1 hpriv (mvT hZ w2) hy
  obtain ⟨v, vm, ⟨T', L', k', n'⟩, -, X', ⟨L, hQ, hl', hk', hn'⟩, st⟩ := X.privateBack hx (y := y) hown (mvT hZ w1) (mvT hZ w2) hsel hpriv (mvT hZ w4) hy (backOf (W := W) (hM []) hZ w4 w3 hf hl) hg (hsize.trans hml.symm) (Steps.refl _) (a := b) (by rw [eT]; exact q1) q2 (argsL := argsL) (rest := rest) (lenOf hpd hlen) hst hW hd (fun _ _ => ⟨has, eT, hc, hs⟩)
  dsimp only [Pt.U, Pt.locs, Pt.cells, Pt.slots] at X' hl' hk' hn' st hQ
  subst hl' hk' hn'
  exact own_stT st (k T' L v X' hQ)
/-- a constructor by its contract -/
theorem own_cN (X : Stand p l e R s m args below meth c T locs cells slots) (hx : p.tables.exec = Jvm.exec) {ml : Nat} (hml : c.maxLocals = ml) (hZ : Z.Warmed39 s.vm) {own : String} {index : Nat} {y : MethodName} {bytes : ByteArray} {maxL : Nat} {rm : Room} {as : Array Value} {Q : own_P} (hy1 : y.name = "<init>")
    (hown : s.vm.findClass own = some m.cls) (w1 : (Jvm.Cond.methodLink own index y).before a0 Z = true) (w2 : (Jvm.Cond.instanceMethod y).before a0 Z = true) (w3 : (Jvm.Cond.initialized y.cls).before a0 Z = true) (w4 : (Jvm.Cond.code y bytes maxL none).before a0 Z = true)
    (hy : y.cls ≠ "java/lang/invoke/MethodHandle" ∧ y.cls ≠ "java/lang/invoke/VarHandle") (hM : own_Met l Z y bytes maxL none rm as h Q) (eT : T.heap = h) (hf : rm.frames + 1 ≤ R.frames) {W : Nat} (hl : W + (maxL + 11) + rm.locals ≤ R.locals)
    {g : JFrame} (hg : g.method = m) (hsize : g.locals.size = ml) {ps : List FieldType} {r : Option FieldType} (hpd : parseMethodDescriptor y.desc = some ⟨ps, r⟩) {b : Addr} {argsL rest : List Value} (hlen : argsL.length = ps.length) (has : (.ref b :: argsL).toArray = as) (hst : g.stack = argsL.reverse ++ .ref b :: rest)
    (hW : 2 * g.monitorRoom + (rest.map fun v => v.category).sum ≤ W) (hd : decode c.code g.pc = .ok (.invokespecial index, 3)) (hc : cells + rm.cells ≤ R.cells) (hs : slots + rm.slots ≤ R.slots) {P : own_P} {kc ks : Nat}
    (k : ∀ T' L v, Stand p l e R s m args below meth c T' (locs ++ L) (cells + rm.cells) (slots + rm.slots) → Q v T'.heap L → own_Go p e below s P kc ks (T'.setTop { g with pc := g.pc + 3, stack := v.toList ++ rest })) : own_Go p e below s P kc ks (T.setTop g) := by
  obtain ⟨v, vm, ⟨T', L', k', n'⟩, -, X', ⟨L, hQ, hl', hk', hn'⟩, st⟩ := X.specialBack hx (y := y) hy1 hown (mvT hZ w1) (mvT hZ w2) (mvT hZ w4) hy (backOf (W := W) (hM []) hZ w4 w3 hf hl) hg (hsize.trans hml.symm) (Steps.refl _) (a := b) (argsL := argsL) (rest := rest) (lenOf hpd hlen) hst hW hd (fun _ _ => ⟨has, eT, hc, hs⟩)
  dsimp only [Pt.U, Pt.locs, Pt.cells, Pt.slots] at X' hl' hk' hn' st hQ
  subst hl' hk' hn'
  exact own_stT st (k T' L v X' hQ)
/-- an array of n places: place j holds f j -/
def own_Av (Z : State) (h : Heap) (a : Addr) (ty : FieldType) (n : Nat) (f : Nat → Value) : Prop :=
  n < 2147483648 ∧ ∃ cl : Cell, Arr Z h a cl ty ∧ cl.slots.size = n ∧ ∀ j, j < n → cl.slots[j]? = some (f j)
theorem own_Av.lt {a : Addr} {ty : FieldType} {n : Nat} {f : Nat → Value} (V : own_Av Z h a ty n f) : a < h.size := by
  obtain ⟨-, cl, A, -⟩ := V
  exact A.lt
theorem own_Av.ext {a : Addr} {ty : FieldType} {n : Nat} {f : Nat → Value} (V : own_Av Z h a ty n f) (E : Ext h h') : own_Av Z h' a ty n f := by
  obtain ⟨hn, cl, A, r⟩ := V
  exact ⟨hn, cl, A.ext E, r⟩
theorem own_Av.other {a b : Addr} {ty : FieldType} {n sl : Nat} {f : Nat → Value} {v : Value} (V : own_Av Z h b ty n f) (W : Wr h h' a sl v) (q : b ≠ a) : own_Av Z h' b ty n f := by
  obtain ⟨hn, cl, A, r⟩ := V
  exact ⟨hn, cl, A.other W q, r⟩
theorem own_Av.keep {a : Addr} {ty : FieldType} {n : Nat} {f : Nat → Value} {ws : List Addr} (V : own_Av Z h a ty n f) (K : Keep h h' ws) (q : a ∉ ws) : own_Av Z h' a ty n f := by
  obtain ⟨hn, cl, A, r⟩ := V
  exact ⟨hn, cl, ⟨K.2.1 a cl A.1 q, A.2⟩, r⟩
theorem own_Av.congr {a : Addr} {ty : FieldType} {n : Nat} {f g : Nat → Value} (V : own_Av Z h a ty n f) (q : ∀ j, j < n → f j = g j) : own_Av Z h a ty n g := by
  obtain ⟨hn, cl, A, r1, r2⟩ := V
  exact ⟨hn, cl, A, r1, fun j hj => by rw [r2 j hj, q j hj]⟩
theorem own_Av.same {a : Addr} {ty : FieldType} {n i : Nat} {f : Nat → Value} {v : Value} (V : own_Av Z h a ty n f) (W : Wr h h' a i v) : own_Av Z h' a ty n (fun j => if j = i then v else f j) := by
  obtain ⟨hn, cl, A, r1, r2⟩ := V
  refine ⟨hn, cl.setSlot i v, A.same W, by rw [sz_set, r1], fun j hj => ?_⟩
  have hj' : j < cl.slots.size := by rw [r1]; exact hj
  by_cases q : j = i
  · subst q
    simp [Cell.setSlot, hj']
  · have q' : ¬ i = j := fun u => q u.symm
    simp only [Cell.setSlot, if_neg q]
    rw [Array.getElem?_setIfInBounds_ne q']
    exact r2 j hj
theorem own_Av.new {a : Addr} {ty : FieldType} {k : ClassId} {z : Int32} {n : Nat} (A : Arr Z h a (newA k ty z) ty) (hz : z.toInt = n) : own_Av Z h a ty n (fun _ => defaultValue ty) := by
  have h1 : z.toNatClampNeg = n := by
    show z.toInt.toNat = n
    rw [hz]; rfl
  have h2 : z.toInt < 2147483648 := Int32.toInt_lt z
  refine ⟨by omega, _, A, by rw [sz_new, h1], fun j hj => ?_⟩
  simp [newA, h1, hj]
theorem own_ix {j : Int32} {i n : Nat} (hj : j.toInt = i) (hi : i < n) : ¬ (j < 0 ∨ n ≤ j.toNatClampNeg) ∧ j.toNatClampNeg = i := by
  have h1 : j.toNatClampNeg = i := by
    show j.toInt.toNat = i
    rw [hj]; rfl
  refine ⟨?_, h1⟩
  rintro (q | q)
  · rw [Int32.lt_iff_toInt_lt, hj] at q
    have : (0 : Int32).toInt = 0 := by decide
    omega
  · omega
theorem own_ldI (X : Stand p l e R s m args below meth c T locs cells slots) (hx : p.tables.exec = Jvm.exec) (hZ : Z.Warmed39 s.vm) (eT : T.heap = h) {a : Addr} {n : Nat} {f : Nat → Value} (V : own_Av Z h a .int n f) {j : Int32} {i : Nat} (hj : j.toInt = i) (hi : i < n) {v : Value} (hv : f i = v)
    {g : JFrame} (hg : g.method = m) {rest : List Value} (hs : g.stack = .int j :: .ref a :: rest) (hd : decode c.code g.pc = .ok (.iaload, 1)) :
    ∀ t, Steps p.tables e below (T.setTop { g with pc := g.pc + 1, stack := v :: rest }) t → Steps p.tables e below (T.setTop g) t := by
  obtain ⟨-, cl, A, r1, r2⟩ := V
  obtain ⟨q1, q2⟩ := own_ix hj (n := cl.slots.size) (by rw [r1]; exact hi)
  exact X.iaload hx (by rw [eT]; exact A.1) (State.isArrayOf_alike hZ.alike A.2.1) A.2.2 q1 (by rw [q2, r2 i hi, hv]) hg hs hd
theorem own_ldB (X : Stand p l e R s m args below meth c T locs cells slots) (hx : p.tables.exec = Jvm.exec) (hZ : Z.Warmed39 s.vm) (eT : T.heap = h) {a : Addr} {n : Nat} {f : Nat → Value} (V : own_Av Z h a .byte n f) {j : Int32} {i : Nat} (hj : j.toInt = i) (hi : i < n) {v : Value} (hv : f i = v)
    {g : JFrame} (hg : g.method = m) {rest : List Value} (hs : g.stack = .int j :: .ref a :: rest) (hd : decode c.code g.pc = .ok (.baload, 1)) :
    ∀ t, Steps p.tables e below (T.setTop { g with pc := g.pc + 1, stack := v :: rest }) t → Steps p.tables e below (T.setTop g) t := by
  obtain ⟨-, cl, A, r1, r2⟩ := V
  obtain ⟨q1, q2⟩ := own_ix hj (n := cl.slots.size) (by rw [r1]; exact hi)
  exact X.baloadBytes hx (by rw [eT]; exact A.1) (State.isArrayOf_alike hZ.alike A.2.1) A.2.2 q1 (by rw [q2, r2 i hi, hv]) hg hs hd
theorem own_ldJ (X : Stand p l e R s m args below meth c T locs cells slots) (hx : p.tables.exec = Jvm.exec) (hZ : Z.Warmed39 s.vm) (eT : T.heap = h) {a : Addr} {n : Nat} {f : Nat → Value} (V : own_Av Z h a .long n f) {j : Int32} {i : Nat} (hj : j.toInt = i) (hi : i < n) {v : Value} (hv : f i = v)
    {g : JFrame} (hg : g.method = m) {rest : List Value} (hs : g.stack = .int j :: .ref a :: rest) (hd : decode c.code g.pc = .ok (.laload, 1)) :
    ∀ t, Steps p.tables e below (T.setTop { g with pc := g.pc + 1, stack := v :: rest }) t → Steps p.tables e below (T.setTop g) t := by
  obtain ⟨-, cl, A, r1, r2⟩ := V
  obtain ⟨q1, q2⟩ := own_ix hj (n := cl.slots.size) (by rw [r1]; exact hi)
  exact X.laload hx (by rw [eT]; exact A.1) (State.isArrayOf_alike hZ.alike A.2.1) A.2.2 q1 (by rw [q2, r2 i hi, hv]) hg hs hd
theorem own_len (X : Stand p l e R s m args below meth c T locs cells slots) (hx : p.tables.exec = Jvm.exec) (hZ : Z.Warmed39 s.vm) (eT : T.heap = h) {a : Addr} {ty : FieldType} {n : Nat} {f : Nat → Value} (V : own_Av Z h a ty n f) {z : Int32} (hz : z.toInt = n)
    {g : JFrame} (hg : g.method = m) {rest : List Value} (hs : g.stack = .ref a :: rest) (hd : decode c.code g.pc = .ok (.arraylength, 1)) :
    ∀ t, Steps p.tables e below (T.setTop { g with pc := g.pc + 1, stack := .int z :: rest }) t → Steps p.tables e below (T.setTop g) t := by
  obtain ⟨hn, cl, A, r1, r2⟩ := V
  have q : cl.slots.size.toInt32 = z := by
    rw [r1]
    apply Int32.toInt_inj.mp
    rw [hz]
    show (Int32.ofNat n).toInt = n
    rw [Int32.toInt_ofNat_of_lt (by omega)]
  intro t ht
  refine X.arraylength hx (by rw [eT]; exact A.1) (State.isArrayOf_alike hZ.alike A.2.1) hg hs hd t ?_
  rw [q]
  exact ht
theorem own_stI (X : Stand p l e R s m args below meth c T locs cells slots) (hx : p.tables.exec = Jvm.exec) (hZ : Z.Warmed39 s.vm) (eT : T.heap = h) {a : Addr} {n : Nat} {f : Nat → Int32} (V : own_Av Z h a .int n (fun t => .int (f t))) {j x : Int32} {i : Nat} (hj : j.toInt = i) (hi : i < n)
    {g : JFrame} (hg : g.method = m) {rest : List Value} (hs : g.stack = .int x :: .int j :: .ref a :: rest) (hd : decode c.code g.pc = .ok (.iastore, 1)) :
    ∃ T' h', Stand p l e R s m args below meth c T' (locs ++ [⟨a, i⟩]) cells slots ∧ T'.heap = h' ∧ Wr h h' a i (.int x) ∧ own_Av Z h' a .int n (fun t => .int (if t = i then x else f t)) ∧
      ∀ t, Steps p.tables e below (T'.setTop { g with pc := g.pc + 1, stack := rest }) t → Steps p.tables e below (T.setTop g) t := by
  have V' := V
  obtain ⟨-, cl, A, r1, r2⟩ := V
  obtain ⟨q1, q2⟩ := own_ix hj (n := cl.slots.size) (by rw [r1]; exact hi)
  obtain ⟨T', h', X', e', W', st⟩ := stI X hx hZ eT A q1 hg hs hd
  rw [q2] at X' W'
  exact ⟨T', h', X', e', W', (V'.same W').congr (fun j _ => by by_cases q : j = i <;> simp [q]), st⟩
theorem own_stB (X : Stand p l e R s m args below meth c T locs cells slots) (hx : p.tables.exec = Jvm.exec) (hZ : Z.Warmed39 s.vm) (eT : T.heap = h) {a : Addr} {n : Nat} {f : Nat → Int32} (V : own_Av Z h a .byte n (fun t => .int (f t))) {j x : Int32} {i : Nat} (hj : j.toInt = i) (hi : i < n)
    {g : JFrame} (hg : g.method = m) {rest : List Value} (hs : g.stack = .int x :: .int j :: .ref a :: rest) (hd : decode c.code g.pc = .ok (.bastore, 1)) :
    ∃ T' h', Stand p l e R s m args below meth c T' (locs ++ [⟨a, i⟩]) cells slots ∧ T'.heap = h' ∧ Wr h h' a i (.int (nar .byte x)) ∧ own_Av Z h' a .byte n (fun t => .int (if t = i then (nar .byte x) else f t)) ∧
      ∀ t, Steps p.tables e below (T'.setTop { g with pc := g.pc + 1, stack := rest }) t → Steps p.tables e below (T.setTop g) t := by
  have V' := V
  obtain ⟨-, cl, A, r1, r2⟩ := V
  obtain ⟨q1, q2⟩ := own_ix hj (n := cl.slots.size) (by rw [r1]; exact hi)
  obtain ⟨T', h', X', e', W', st⟩ := stB X hx hZ eT A q1 hg hs hd
  rw [q2] at X' W'
  exact ⟨T', h', X', e', W', (V'.same W').congr (fun j _ => by by_cases q : j = i <;> simp [q]), st⟩
theorem own_stJ (X : Stand p l e R s m args below meth c T locs cells slots) (hx : p.tables.exec = Jvm.exec) (hZ : Z.Warmed39 s.vm) (eT : T.heap = h) {a : Addr} {n : Nat} {f : Nat → Int64} (V : own_Av Z h a .long n (fun t => .long (f t))) {j : Int32} {x : Int64} {i : Nat} (hj : j.toInt = i) (hi : i < n)
    {g : JFrame} (hg : g.method = m) {rest : List Value} (hs : g.stack = .long x :: .int j :: .ref a :: rest) (hd : decode c.code g.pc = .ok (.lastore, 1)) :
    ∃ T' h', Stand p l e R s m args below meth c T' (locs ++ [⟨a, i⟩]) cells slots ∧ T'.heap = h' ∧ Wr h h' a i (.long x) ∧ own_Av Z h' a .long n (fun t => .long (if t = i then x else f t)) ∧
      ∀ t, Steps p.tables e below (T'.setTop { g with pc := g.pc + 1, stack := rest }) t → Steps p.tables e below (T.setTop g) t := by
  have V' := V
  obtain ⟨-, cl, A, r1, r2⟩ := V
  obtain ⟨q1, q2⟩ := own_ix hj (n := cl.slots.size) (by rw [r1]; exact hi)
  obtain ⟨T', h', X', e', W', st⟩ := stJ X hx hZ eT A q1 hg hs hd
  rw [q2] at X' W'
  exact ⟨T', h', X', e', W', (V'.same W').congr (fun j _ => by by_cases q : j = i <;> simp [q]), st⟩
/-- newarray: b is the fresh array's address -/
theorem own_newA (X : Stand p l e R s m args below meth c T locs cells slots) (hx : p.tables.exec = Jvm.exec) (hZ : Z.Warmed39 s.vm) {aty : ArrayType} (w : (Jvm.Cond.arrayClass (newarray.typeOf aty)).before a0 Z = true) (eT : T.heap = h) {g : JFrame} (hg : g.method = m) (hd : decode c.code g.pc = .ok (.newarray aty, 2)) {z : Int32} {rest : List Value} (hs : g.stack = .int z :: rest)
    {n cap : Nat} (hz : z.toInt = n) (hcap : n ≤ cap) (hb : cap * 8 ≤ 536870912) (hc : cells + 1 ≤ R.cells) (hl : slots + cap ≤ R.slots) :
    ∃ T' h' b, b = h.size ∧ Stand p l e R s m args below meth c T' locs (cells + 1) (slots + cap) ∧ T'.heap = h' ∧ Ext h h' ∧ own_Av Z h' b (newarray.typeOf aty) n (fun _ => defaultValue (newarray.typeOf aty)) ∧
      ∀ t, Steps p.tables e below (T'.setTop { g with pc := g.pc + 2, stack := .ref b :: rest }) t → Steps p.tables e below (T.setTop g) t := by
  have h1 : z.toNatClampNeg = n := by
    show z.toInt.toNat = n
    rw [hz]; rfl
  have h2 : ¬ z < 0 := by
    rw [Int32.lt_iff_toInt_lt, hz]
    have : (0 : Int32).toInt = 0 := by decide
    omega
  obtain ⟨T', h', cA, X', e', E', A', st⟩ := newP X hx hZ w eT hg hd hs h2 (cap := cap) (by omega) hb hc hl
  exact ⟨T', h', h.size, rfl, X', e', E', own_Av.new A' hz, st⟩
theorem own_nil {k : Nat} {L : List Loc} (N : Fr k L) {L' : List Loc} (q : L' = []) : Fr k (L ++ L') := by
  subst q
  rw [List.append_nil]
  exact N
/-- the walk's end, carried to the sheet -/
theorem own_cast {P : own_P} {kc ks : Nat} {A B : State} (q : A = B) (k : own_Go p e below s P kc ks B) : own_Go p e below s P kc ks A := q ▸ k
theorem own_bm {x : Int} (h1 : -2147483648 ≤ x) (h2 : x < 2147483648) : x.bmod (2 ^ 32) = x := by
  rw [Int.bmod_def]
  split <;> omega
theorem own_addN {a b : Int32} {i k : Nat} (ha : a.toInt = i) (hb : b.toInt = k) (hlt : i + k < 2147483648) : (a + b).toInt = ((i + k : Nat) : Int) := by
  rw [Int32.toInt_add, ha, hb, own_bm (by omega) (by omega)]
  omega
theorem own_add {a b : Int32} (h1 : -2147483648 ≤ a.toInt + b.toInt) (h2 : a.toInt + b.toInt < 2147483648) : (a + b).toInt = a.toInt + b.toInt := by
  rw [Int32.toInt_add, own_bm h1 h2]
theorem own_sub {a b : Int32} (h1 : -2147483648 ≤ a.toInt - b.toInt) (h2 : a.toInt - b.toInt < 2147483648) : (a - b).toInt = a.toInt - b.toInt := by
  rw [Int32.toInt_sub, own_bm h1 h2]
theorem own_mask (z K : Int32) {k : Nat} (hK : K.toInt = k) : ∃ i : Nat, (z &&& K).toInt = i ∧ i ≤ k := by
  have hk : K.toBitVec.toInt = k := hK
  have h1 : K.toBitVec.toNat = k := by
    rw [BitVec.toInt_eq_toNat_cond] at hk
    have := K.toBitVec.isLt
    split at hk <;> omega
  have h2 : 2 * K.toBitVec.toNat < 2 ^ 32 := by
    rw [BitVec.toInt_eq_toNat_cond] at hk
    have := K.toBitVec.isLt
    split at hk <;> omega
  have h3 : (z &&& K).toBitVec.toNat ≤ k := by
    show (z.toBitVec &&& K.toBitVec).toNat ≤ k
    rw [BitVec.toNat_and, ← h1]
    exact Nat.and_le_right
  refine ⟨(z &&& K).toBitVec.toNat, ?_, h3⟩
  show (z &&& K).toBitVec.toInt = _
  rw [BitVec.toInt_eq_toNat_cond, if_pos (by omega)]
theorem own_lt32 {a b : Int32} : a < b ↔ a.toInt < b.toInt := Int32.lt_iff_toInt_lt
theorem own_rem {a b : Int32} (ha : 0 ≤ a.toInt) (hb : 0 < b.toInt) : (a % b).toInt = a.toInt % b.toInt := by
  rw [Int32.toInt_mod]
  exact Int.tmod_eq_emod_of_nonneg ha
end OwnKit
def own_min (a b : Int32) : Int32 := if b < a then b else a
def own_bom (d b0 b1 b2 : Int32) : Int32 := if ¬ d < 3 ∧ b0 = -17 ∧ b1 = -69 ∧ b2 = -65 then 1 else 0
theorem own_bom1 {d b0 b1 b2 : Int32} (h : ¬ d < 3 ∧ b0 = -17 ∧ b1 = -69 ∧ b2 = -65) : own_bom d b0 b1 b2 = 1 := if_pos h
theorem own_bom0 {d b0 b1 b2 : Int32} (h : ¬ (¬ d < 3 ∧ b0 = -17 ∧ b1 = -69 ∧ b2 = -65)) : own_bom d b0 b1 b2 = 0 := if_neg h
theorem own_by {z : Int32} (h0 : 0 ≤ z.toInt) (h1 : z.toInt ≤ 255) : (nar .byte (z.toInt8.toInt32)).toInt = if z.toInt < 128 then z.toInt else z.toInt - 256 := by
  show ((z.toInt8.toInt32).toInt8.toInt32).toInt = _
  rw [Int8.toInt_toInt32, Int32.toInt_toInt8, Int8.toInt_toInt32, Int32.toInt_toInt8]
  generalize z.toInt = n at *
  rw [Int.bmod_def, Int.bmod_def]
  repeat' split
  all_goals omega
theorem own_byc {z : Int32} (h0 : 0 ≤ z.toInt) (h1 : z.toInt ≤ 255) (k b : Int32) (hk : k.toInt = b.toInt + 256) (hb : b.toInt < 0) (hb2 : -128 ≤ b.toInt) : (nar .byte (z.toInt8.toInt32)) = b ↔ z = k := by
  rw [← Int32.toInt_inj, own_by h0 h1, ← Int32.toInt_inj, hk]
  split <;> omega
theorem own_d0_0 : decode jdk_29_method_69_code 0 = .ok (.iload_n 0, 1) := by decide +kernel
theorem own_d0_1 : decode jdk_29_method_69_code 1 = .ok (.iload_n 1, 1) := by decide +kernel
theorem own_d0_2 : decode jdk_29_method_69_code 2 = .ok (.if_icmp .gt 7, 3) := by decide +kernel
theorem own_d0_5 : decode jdk_29_method_69_code 5 = .ok (.iload_n 0, 1) := by decide +kernel
theorem own_d0_6 : decode jdk_29_method_69_code 6 = .ok (.goto 4, 3) := by decide +kernel
theorem own_d0_9 : decode jdk_29_method_69_code 9 = .ok (.iload_n 1, 1) := by decide +kernel
theorem own_d0_10 : decode jdk_29_method_69_code 10 = .ok (.ireturn, 1) := by decide +kernel
theorem own_pn0 : plainFor (⟨"java/lang/Math", "min", "(II)I"⟩ : MethodName) = true := by first | exact plainFor_of_name (show plainName "java/lang/Math" = true by first | (simp [plainName, overriddenIn]; done) | decide +kernel) | decide +kernel
theorem own_ef0 (m : MethodId) (x0 : Int32) (x1 : Int32) : entryFrame m #[(.int x0), (.int x1)] 2 = mkF m 0 #[.val (.int x0), .val (.int x1)] [] := by first | (simp [entryFrame, mkF, argsToLocals, Value.category]; done) | rfl
set_option maxRecDepth 65536 in
set_option maxHeartbeats 40000000 in
theorem own_rm1 (l : Launch) (Z : State) (a0 : Array Value) (hw : ∀ d ∈ tables_1, d.before a0 Z = true) (p1 p2 : Int32) (h0 : Heap) (n0 : Nat) (Z0 : n0 ≤ h0.size)  :
    own_Met l Z (⟨"java/lang/Math", "min", "(II)I"⟩ : MethodName) jdk_29_method_69_code 2 (some .int) ({ frames := 0, cells := 0, slots := 0, locals := 0 } : Room) #[(.int p1), (.int p2)] h0 (fun v h' L => v = some (.int (own_min p1 p2)) ∧ h' = h0 ∧ L = []) := by
  refine own_in own_pn0 ?_
  intro p e s m below meth c s₁ hx hby hml hown hnm hlk hret hZ X0 e0
  have N0 := Fr.nil n0
  refine own_ef (own_ef0 m p1 p2) ?_
  show own_Go p e below s _ _ _ (s₁.setTop (mkF m 0 #[.val (.int p1), .val (.int p2)] []))
  refine own_st (fun _ k => XS.iloadN X0.here hx rfl (hb hby own_d0_0) rfl k) ?_
  show own_Go p e below s _ _ _ (s₁.setTop (mkF m 1 #[.val (.int p1), .val (.int p2)] [(.int p1)]))
  refine own_st (fun _ k => XS.iloadN X0.here hx rfl (hb hby own_d0_1) rfl k) ?_
  show own_Go p e below s _ _ _ (s₁.setTop (mkF m 2 #[.val (.int p1), .val (.int p2)] [(.int p2), (.int p1)]))
  rcases Classical.em (p2 < p1) with c1 | c1
  · show own_Go p e below s _ _ _ (s₁.setTop (mkF m 2 #[.val (.int p1), .val (.int p2)] [(.int p2), (.int p1)]))
    refine own_st (fun _ k => XS.icmpYes X0.here hx rfl (pc0 := 2) (pc' := 9) rfl (hb hby own_d0_2) rfl (tlt c1).2.2.1 (by decide) (by decide) k) ?_
    show own_Go p e below s _ _ _ (s₁.setTop (mkF m 9 #[.val (.int p1), .val (.int p2)] []))
    refine own_st (fun _ k => XS.iloadN X0.here hx rfl (hb hby own_d0_9) rfl k) ?_
    show own_Go p e below s _ _ _ (s₁.setTop (mkF m 10 #[.val (.int p1), .val (.int p2)] [(.int p2)]))
    exact own_endI X0 hx hlk hret (hb hby own_d0_10) ⟨by rw [own_min, if_pos c1], e0, rfl⟩ (by decide) (by decide)
  · show own_Go p e below s _ _ _ (s₁.setTop (mkF m 2 #[.val (.int p1), .val (.int p2)] [(.int p2), (.int p1)]))
    refine own_st (fun _ k => XS.icmpNo X0.here hx rfl (hb hby own_d0_2) rfl (flt c1).2.2.1 k) ?_
    show own_Go p e below s _ _ _ (s₁.setTop (mkF m 5 #[.val (.int p1), .val (.int p2)] []))
    refine own_st (fun _ k => XS.iloadN X0.here hx rfl (hb hby own_d0_5) rfl k) ?_
    show own_Go p e below s _ _ _ (s₁.setTop (mkF m 6 #[.val (.int p1), .val (.int p2)] [(.int p1)]))
    refine own_st (fun _ k => XS.goto X0.here hx rfl (pc0 := 6) (pc' := 10) rfl (hb hby own_d0_6) (by decide) (by decide) k) ?_
    show own_Go p e below s _ _ _ (s₁.setTop (mkF m 10 #[.val (.int p1), .val (.int p2)] [(.int p1)]))
    exact own_endI X0 hx hlk hret (hb hby own_d0_10) ⟨by rw [own_min, if_neg c1], e0, rfl⟩ (by decide) (by decide)
theorem own_d1_0 : decode prog_12_method_2_code 0 = .ok (.iload_n 2, 1) := by decide +kernel
theorem own_d1_1 : decode prog_12_method_2_code 1 = .ok (.iload_n 1, 1) := by decide +kernel
theorem own_d1_2 : decode prog_12_method_2_code 2 = .ok (.isub, 1) := by decide +kernel
theorem own_d1_3 : decode prog_12_method_2_code 3 = .ok (.iconst 3, 1) := by decide +kernel
theorem own_d1_4 : decode prog_12_method_2_code 4 = .ok (.if_icmp .lt 35, 3) := by decide +kernel
theorem own_d1_7 : decode prog_12_method_2_code 7 = .ok (.aload_n 0, 1) := by decide +kernel
theorem own_d1_8 : decode prog_12_method_2_code 8 = .ok (.iload_n 1, 1) := by decide +kernel
theorem own_d1_9 : decode prog_12_method_2_code 9 = .ok (.baload, 1) := by decide +kernel
theorem own_d1_10 : decode prog_12_method_2_code 10 = .ok (.bipush (-17), 2) := by decide +kernel
theorem own_d1_12 : decode prog_12_method_2_code 12 = .ok (.if_icmp .ne 27, 3) := by decide +kernel
theorem own_d1_15 : decode prog_12_method_2_code 15 = .ok (.aload_n 0, 1) := by decide +kernel
theorem own_d1_16 : decode prog_12_method_2_code 16 = .ok (.iload_n 1, 1) := by decide +kernel
theorem own_d1_17 : decode prog_12_method_2_code 17 = .ok (.iconst 1, 1) := by decide +kernel
theorem own_d1_18 : decode prog_12_method_2_code 18 = .ok (.iadd, 1) := by decide +kernel
theorem own_d1_19 : decode prog_12_method_2_code 19 = .ok (.baload, 1) := by decide +kernel
theorem own_d1_20 : decode prog_12_method_2_code 20 = .ok (.bipush (-69), 2) := by decide +kernel
theorem own_d1_22 : decode prog_12_method_2_code 22 = .ok (.if_icmp .ne 17, 3) := by decide +kernel
theorem own_d1_25 : decode prog_12_method_2_code 25 = .ok (.aload_n 0, 1) := by decide +kernel
theorem own_d1_26 : decode prog_12_method_2_code 26 = .ok (.iload_n 1, 1) := by decide +kernel
theorem own_d1_27 : decode prog_12_method_2_code 27 = .ok (.iconst 2, 1) := by decide +kernel
theorem own_d1_28 : decode prog_12_method_2_code 28 = .ok (.iadd, 1) := by decide +kernel
theorem own_d1_29 : decode prog_12_method_2_code 29 = .ok (.baload, 1) := by decide +kernel
theorem own_d1_30 : decode prog_12_method_2_code 30 = .ok (.bipush (-65), 2) := by decide +kernel
theorem own_d1_32 : decode prog_12_method_2_code 32 = .ok (.if_icmp .ne 7, 3) := by decide +kernel
theorem own_d1_35 : decode prog_12_method_2_code 35 = .ok (.iconst 1, 1) := by decide +kernel
theorem own_d1_36 : decode prog_12_method_2_code 36 = .ok (.goto 4, 3) := by decide +kernel
theorem own_d1_39 : decode prog_12_method_2_code 39 = .ok (.iconst 0, 1) := by decide +kernel
theorem own_d1_40 : decode prog_12_method_2_code 40 = .ok (.ireturn, 1) := by decide +kernel
theorem own_pn1 : plainFor (⟨"com/example/auditloom/auditloom/Utf8", "startsWithByteOrderMark", "([BII)Z"⟩ : MethodName) = true := by first | exact plainFor_of_name (show plainName "com/example/auditloom/auditloom/Utf8" = true by first | (simp [plainName, overriddenIn]; done) | decide +kernel) | decide +kernel
theorem own_ef1 (m : MethodId) (x0 : Addr) (x1 : Int32) (x2 : Int32) : entryFrame m #[(.ref x0), (.int x1), (.int x2)] 3 = mkF m 0 #[.val (.ref x0), .val (.int x1), .val (.int x2)] [] := by first | (simp [entryFrame, mkF, argsToLocals, Value.category]; done) | rfl
set_option maxRecDepth 65536 in
set_option maxHeartbeats 40000000 in
theorem own_rm2 (l : Launch) (Z : State) (a0 : Array Value) (hw : ∀ d ∈ tables_1, d.before a0 Z = true) (a1 : Addr) (p2 p3 : Int32) (f : Nat → Int32) (i : Nat) (b0 b1 b2 : Int32) (h0 : Heap) (n0 : Nat) (Z0 : n0 ≤ h0.size) (V : own_Av Z h0 a1 .byte 8 (fun t => .int (f t))) (hi : p2.toInt = i) (hlt : i + 2 < 8) (g0 : f i = b0) (g1 : f (i + 1) = b1) (g2 : f (i + 2) = b2) :
    own_Met l Z (⟨"com/example/auditloom/auditloom/Utf8", "startsWithByteOrderMark", "([BII)Z"⟩ : MethodName) prog_12_method_2_code 3 (some .boolean) ({ frames := 0, cells := 0, slots := 0, locals := 0 } : Room) #[(.ref a1), (.int p2), (.int p3)] h0 (fun v h' L => v = some (.int (own_bom (p3 - p2) b0 b1 b2)) ∧ h' = h0 ∧ L = []) := by
  refine own_in own_pn1 ?_
  intro p e s m below meth c s₁ hx hby hml hown hnm hlk hret hZ X0 e0
  have N0 := Fr.nil n0
  refine own_ef (own_ef1 m a1 p2 p3) ?_
  show own_Go p e below s _ _ _ (s₁.setTop (mkF m 0 #[.val (.ref a1), .val (.int p2), .val (.int p3)] []))
  refine own_st (fun _ k => XS.iloadN X0.here hx rfl (hb hby own_d1_0) rfl k) ?_
  show own_Go p e below s _ _ _ (s₁.setTop (mkF m 1 #[.val (.ref a1), .val (.int p2), .val (.int p3)] [(.int p3)]))
  refine own_st (fun _ k => XS.iloadN X0.here hx rfl (hb hby own_d1_1) rfl k) ?_
  show own_Go p e below s _ _ _ (s₁.setTop (mkF m 2 #[.val (.ref a1), .val (.int p2), .val (.int p3)] [(.int p2), (.int p3)]))
  refine own_st (fun _ k => XS.isub X0.here hx rfl (hb hby own_d1_2) rfl k) ?_
  show own_Go p e below s _ _ _ (s₁.setTop (mkF m 3 #[.val (.ref a1), .val (.int p2), .val (.int p3)] [(.int (p3 - p2))]))
  refine own_st (fun _ k => XS.iconst X0.here hx rfl (hb hby own_d1_3) k) ?_
  show own_Go p e below s _ _ _ (s₁.setTop (mkF m 4 #[.val (.ref a1), .val (.int p2), .val (.int p3)] [(.int (3 : Int32)), (.int (p3 - p2))]))
  rcases Classical.em ((p3 - p2) < (3 : Int32)) with c1 | c1
  · show own_Go p e below s _ _ _ (s₁.setTop (mkF m 4 #[.val (.ref a1), .val (.int p2), .val (.int p3)] [(.int (3 : Int32)), (.int (p3 - p2))]))
    refine own_st (fun _ k => XS.icmpYes X0.here hx rfl (pc0 := 4) (pc' := 39) rfl (hb hby own_d1_4) rfl (tlt c1).1 (by decide) (by decide) k) ?_
    show own_Go p e below s _ _ _ (s₁.setTop (mkF m 39 #[.val (.ref a1), .val (.int p2), .val (.int p3)] []))
    refine own_st (fun _ k => XS.iconst X0.here hx rfl (hb hby own_d1_39) k) ?_
    show own_Go p e below s _ _ _ (s₁.setTop (mkF m 40 #[.val (.ref a1), .val (.int p2), .val (.int p3)] [(.int (0 : Int32))]))
    exact own_endN X0 hx hlk (t := .boolean) hret (by simp) (hb hby own_d1_40) (w := (0 : Int32)) (by decide) ⟨by rw [own_bom0 (by rintro ⟨r1, r2, r3, r4⟩; exact r1 c1)], e0, rfl⟩ (by decide) (by decide)
  · show own_Go p e below s _ _ _ (s₁.setTop (mkF m 4 #[.val (.ref a1), .val (.int p2), .val (.int p3)] [(.int (3 : Int32)), (.int (p3 - p2))]))
    refine own_st (fun _ k => XS.icmpNo X0.here hx rfl (hb hby own_d1_4) rfl (flt c1).1 k) ?_
    show own_Go p e below s _ _ _ (s₁.setTop (mkF m 7 #[.val (.ref a1), .val (.int p2), .val (.int p3)] []))
    refine own_st (fun _ k => XS.aloadN X0.here hx rfl (hb hby own_d1_7) rfl rfl k) ?_
    show own_Go p e below s _ _ _ (s₁.setTop (mkF m 8 #[.val (.ref a1), .val (.int p2), .val (.int p3)] [(.ref a1)]))
    refine own_st (fun _ k => XS.iloadN X0.here hx rfl (hb hby own_d1_8) rfl k) ?_
    show own_Go p e below s _ _ _ (s₁.setTop (mkF m 9 #[.val (.ref a1), .val (.int p2), .val (.int p3)] [(.int p2), (.ref a1)]))
    refine own_st (own_ldB X0 hx hZ e0 V (i := i) hi (by omega) (v := (.int b0)) (by rw [g0]) (g := (mkF m 9 #[.val (.ref a1), .val (.int p2), .val (.int p3)] [(.int p2), (.ref a1)])) rfl rfl (hb hby own_d1_9)) ?_
    show own_Go p e below s _ _ _ (s₁.setTop (mkF m 10 #[.val (.ref a1), .val (.int p2), .val (.int p3)] [(.int b0)]))
    refine own_st (fun _ k => XS.bipush X0.here hx rfl (hb hby own_d1_10) k) ?_
    show own_Go p e below s _ _ _ (s₁.setTop (mkF m 12 #[.val (.ref a1), .val (.int p2), .val (.int p3)] [(.int (-17 : Int32)), (.int b0)]))
    rcases Classical.em (b0 = (-17 : Int32)) with c2 | c2
    · show own_Go p e below s _ _ _ (s₁.setTop (mkF m 12 #[.val (.ref a1), .val (.int p2), .val (.int p3)] [(.int (-17 : Int32)), (.int b0)]))
      refine own_st (fun _ k => XS.icmpNo X0.here hx rfl (hb hby own_d1_12) rfl (teq c2).2 k) ?_
      show own_Go p e below s _ _ _ (s₁.setTop (mkF m 15 #[.val (.ref a1), .val (.int p2), .val (.int p3)] []))
      refine own_st (fun _ k => XS.aloadN X0.here hx rfl (hb hby own_d1_15) rfl rfl k) ?_
      show own_Go p e below s _ _ _ (s₁.setTop (mkF m 16 #[.val (.ref a1), .val (.int p2), .val (.int p3)] [(.ref a1)]))
      refine own_st (fun _ k => XS.iloadN X0.here hx rfl (hb hby own_d1_16) rfl k) ?_
      show own_Go p e below s _ _ _ (s₁.setTop (mkF m 17 #[.val (.ref a1), .val (.int p2), .val (.int p3)] [(.int p2), (.ref a1)]))
      refine own_st (fun _ k => XS.iconst X0.here hx rfl (hb hby own_d1_17) k) ?_
      show own_Go p e below s _ _ _ (s₁.setTop (mkF m 18 #[.val (.ref a1), .val (.int p2), .val (.int p3)] [(.int (1 : Int32)), (.int p2), (.ref a1)]))
      refine own_st (fun _ k => XS.iadd X0.here hx rfl (hb hby own_d1_18) rfl k) ?_
      show own_Go p e below s _ _ _ (s₁.setTop (mkF m 19 #[.val (.ref a1), .val (.int p2), .val (.int p3)] [(.int (p2 + (1 : Int32))), (.ref a1)]))
      refine own_st (own_ldB X0 hx hZ e0 V (i := (i + 1)) (own_addN hi (by decide) (by omega)) (by omega) (v := (.int b1)) (by rw [g1]) (g := (mkF m 19 #[.val (.ref a1), .val (.int p2), .val (.int p3)] [(.int (p2 + (1 : Int32))), (.ref a1)])) rfl rfl (hb hby own_d1_19)) ?_
      show own_Go p e below s _ _ _ (s₁.setTop (mkF m 20 #[.val (.ref a1), .val (.int p2), .val (.int p3)] [(.int b1)]))
      refine own_st (fun _ k => XS.bipush X0.here hx rfl (hb hby own_d1_20) k) ?_
      show own_Go p e below s _ _ _ (s₁.setTop (mkF m 22 #[.val (.ref a1), .val (.int p2), .val (.int p3)] [(.int (-69 : Int32)), (.int b1)]))
      rcases Classical.em (b1 = (-69 : Int32)) with c3 | c3
      · show own_Go p e below s _ _ _ (s₁.setTop (mkF m 22 #[.val (.ref a1), .val (.int p2), .val (.int p3)] [(.int (-69 : Int32)), (.int b1)]))
        refine own_st (fun _ k => XS.icmpNo X0.here hx rfl (hb hby own_d1_22) rfl (teq c3).2 k) ?_
        show own_Go p e below s _ _ _ (s₁.setTop (mkF m 25 #[.val (.ref a1), .val (.int p2), .val (.int p3)] []))
        refine own_st (fun _ k => XS.aloadN X0.here hx rfl (hb hby own_d1_25) rfl rfl k) ?_
        show own_Go p e below s _ _ _ (s₁.setTop (mkF m 26 #[.val (.ref a1), .val (.int p2), .val (.int p3)] [(.ref a1)]))
        refine own_st (fun _ k => XS.iloadN X0.here hx rfl (hb hby own_d1_26) rfl k) ?_
        show own_Go p e below s _ _ _ (s₁.setTop (mkF m 27 #[.val (.ref a1), .val (.int p2), .val (.int p3)] [(.int p2), (.ref a1)]))
        refine own_st (fun _ k => XS.iconst X0.here hx rfl (hb hby own_d1_27) k) ?_
        show own_Go p e below s _ _ _ (s₁.setTop (mkF m 28 #[.val (.ref a1), .val (.int p2), .val (.int p3)] [(.int (2 : Int32)), (.int p2), (.ref a1)]))
        refine own_st (fun _ k => XS.iadd X0.here hx rfl (hb hby own_d1_28) rfl k) ?_
        show own_Go p e below s _ _ _ (s₁.setTop (mkF m 29 #[.val (.ref a1), .val (.int p2), .val (.int p3)] [(.int (p2 + (2 : Int32))), (.ref a1)]))
        refine own_st (own_ldB X0 hx hZ e0 V (i := (i + 2)) (own_addN hi (by decide) (by omega)) (by omega) (v := (.int b2)) (by rw [g2]) (g := (mkF m 29 #[.val (.ref a1), .val (.int p2), .val (.int p3)] [(.int (p2 + (2 : Int32))), (.ref a1)])) rfl rfl (hb hby own_d1_29)) ?_
        show own_Go p e below s _ _ _ (s₁.setTop (mkF m 30 #[.val (.ref a1), .val (.int p2), .val (.int p3)] [(.int b2)]))
        refine own_st (fun _ k => XS.bipush X0.here hx rfl (hb hby own_d1_30) k) ?_
        show own_Go p e below s _ _ _ (s₁.setTop (mkF m 32 #[.val (.ref a1), .val (.int p2), .val (.int p3)] [(.int (-65 : Int32)), (.int b2)]))
        rcases Classical.em (b2 = (-65 : Int32)) with c4 | c4
        · show own_Go p e below s _ _ _ (s₁.setTop (mkF m 32 #[.val (.ref a1), .val (.int p2), .val (.int p3)] [(.int (-65 : Int32)), (.int b2)]))
          refine own_st (fun _ k => XS.icmpNo X0.here hx rfl (hb hby own_d1_32) rfl (teq c4).2 k) ?_
          show own_Go p e below s _ _ _ (s₁.setTop (mkF m 35 #[.val (.ref a1), .val (.int p2), .val (.int p3)] []))
          refine own_st (fun _ k => XS.iconst X0.here hx rfl (hb hby own_d1_35) k) ?_
          show own_Go p e below s _ _ _ (s₁.setTop (mkF m 36 #[.val (.ref a1), .val (.int p2), .val (.int p3)] [(.int (1 : Int32))]))
          refine own_st (fun _ k => XS.goto X0.here hx rfl (pc0 := 36) (pc' := 40) rfl (hb hby own_d1_36) (by decide) (by decide) k) ?_
          show own_Go p e below s _ _ _ (s₁.setTop (mkF m 40 #[.val (.ref a1), .val (.int p2), .val (.int p3)] [(.int (1 : Int32))]))
          exact own_endN X0 hx hlk (t := .boolean) hret (by simp) (hb hby own_d1_40) (w := (1 : Int32)) (by decide) ⟨by rw [own_bom1 ⟨c1, c2, c3, c4⟩], e0, rfl⟩ (by decide) (by decide)
        · show own_Go p e below s _ _ _ (s₁.setTop (mkF m 32 #[.val (.ref a1), .val (.int p2), .val (.int p3)] [(.int (-65 : Int32)), (.int b2)]))
          refine own_st (fun _ k => XS.icmpYes X0.here hx rfl (pc0 := 32) (pc' := 39) rfl (hb hby own_d1_32) rfl (feq c4).2 (by decide) (by decide) k) ?_
          show own_Go p e below s _ _ _ (s₁.setTop (mkF m 39 #[.val (.ref a1), .val (.int p2), .val (.int p3)] []))
          refine own_st (fun _ k => XS.iconst X0.here hx rfl (hb hby own_d1_39) k) ?_
          show own_Go p e below s _ _ _ (s₁.setTop (mkF m 40 #[.val (.ref a1), .val (.int p2), .val (.int p3)] [(.int (0 : Int32))]))
          exact own_endN X0 hx hlk (t := .boolean) hret (by simp) (hb hby own_d1_40) (w := (0 : Int32)) (by decide) ⟨by rw [own_bom0 (by rintro ⟨r1, r2, r3, r4⟩; exact c4 r4)], e0, rfl⟩ (by decide) (by decide)
      · show own_Go p e below s _ _ _ (s₁.setTop (mkF m 22 #[.val (.ref a1), .val (.int p2), .val (.int p3)] [(.int (-69 : Int32)), (.int b1)]))
        refine own_st (fun _ k => XS.icmpYes X0.here hx rfl (pc0 := 22) (pc' := 39) rfl (hb hby own_d1_22) rfl (feq c3).2 (by decide) (by decide) k) ?_
        show own_Go p e below s _ _ _ (s₁.setTop (mkF m 39 #[.val (.ref a1), .val (.int p2), .val (.int p3)] []))
        refine own_st (fun _ k => XS.iconst X0.here hx rfl (hb hby own_d1_39) k) ?_
        show own_Go p e below s _ _ _ (s₁.setTop (mkF m 40 #[.val (.ref a1), .val (.int p2), .val (.int p3)] [(.int (0 : Int32))]))
        exact own_endN X0 hx hlk (t := .boolean) hret (by simp) (hb hby own_d1_40) (w := (0 : Int32)) (by decide) ⟨by rw [own_bom0 (by rintro ⟨r1, r2, r3, r4⟩; exact c3 r3)], e0, rfl⟩ (by decide) (by decide)
    · show own_Go p e below s _ _ _ (s₁.setTop (mkF m 12 #[.val (.ref a1), .val (.int p2), .val (.int p3)] [(.int (-17 : Int32)), (.int b0)]))
      refine own_st (fun _ k => XS.icmpYes X0.here hx rfl (pc0 := 12) (pc' := 39) rfl (hb hby own_d1_12) rfl (feq c2).2 (by decide) (by decide) k) ?_
      show own_Go p e below s _ _ _ (s₁.setTop (mkF m 39 #[.val (.ref a1), .val (.int p2), .val (.int p3)] []))
      refine own_st (fun _ k => XS.iconst X0.here hx rfl (hb hby own_d1_39) k) ?_
      show own_Go p e below s _ _ _ (s₁.setTop (mkF m 40 #[.val (.ref a1), .val (.int p2), .val (.int p3)] [(.int (0 : Int32))]))
      exact own_endN X0 hx hlk (t := .boolean) hret (by simp) (hb hby own_d1_40) (w := (0 : Int32)) (by decide) ⟨by rw [own_bom0 (by rintro ⟨r1, r2, r3, r4⟩; exact c2 r2)], e0, rfl⟩ (by decide) (by decide)
theorem own_pd0 : parseMethodDescriptor "(II)I" = some ⟨[.int, .int], some .int⟩ := by decide +kernel
theorem own_pd1 : parseMethodDescriptor "([BII)Z" = some ⟨[(.array .byte), .int, .int], some .boolean⟩ := by decide +kernel
theorem own_pn2 : plainFor x = true := by first | exact plainFor_of_name (show plainName "com/example/auditloom/auditloom/Utf8StartsWithByteOrderMarkPinLaw" = true by first | (simp [plainName, overriddenIn]; done) | decide +kernel) | decide +kernel
theorem own_ef2 (m : MethodId) (x0 : Int32) (x1 : Int32) (x2 : Int64) (x3 : Int32) (x4 : Int32) : entryFrame m #[(.int x0), (.int x1), (.long x2), (.int x3), (.int x4)] maxLocals = mkF m 0 #[.val (.int x0), .val (.int x1), .val (.long x2), .second, .val (.int x3), .val (.int x4), .unset, .unset, .unset, .unset, .unset, .unset, .unset] [] := by first | (simp [entryFrame, mkF, argsToLocals, Value.category, maxLocals]; done) | rfl
set_option maxRecDepth 65536 in
set_option maxHeartbeats 40000000 in
theorem own_rm0 (l : Launch) (Z : State) (a0 : Array Value) (hw : ∀ d ∈ tables_1, d.before a0 Z = true) (ap asel : Int32) (aq : Int64) (af at_ : Int32) (h0 : Heap) (n0 : Nat) (Z0 : n0 ≤ h0.size)  :
    own_Met l Z x code maxLocals ret room_1 #[(.int ap), (.int asel), (.long aq), (.int af), (.int at_)] h0 (fun v h' L => v = some (.int 1) ∧ Fr n0 L) := by
  refine own_in own_pn2 ?_
  intro p e s m below meth c s₁ hx hby hml hown hnm hlk hret hZ X0 e0
  have N0 := Fr.nil n0
  refine own_ef (own_ef2 m ap asel aq af at_) ?_
  show own_Go p e below s _ _ _ (s₁.setTop (mkF m 0 #[.val (.int ap), .val (.int asel), .val (.long aq), .second, .val (.int af), .val (.int at_), .unset, .unset, .unset, .unset, .unset, .unset, .unset] []))
  refine own_st (fun _ k => XS.iload X0.here hx rfl (hb hby at_0) rfl k) ?_
  show own_Go p e below s _ _ _ (s₁.setTop (mkF m 2 #[.val (.int ap), .val (.int asel), .val (.long aq), .second, .val (.int af), .val (.int at_), .unset, .unset, .unset, .unset, .unset, .unset, .unset] [(.int af)]))
  refine own_st (fun _ k => XS.iconst X0.here hx rfl (hb hby at_2) k) ?_
  show own_Go p e below s _ _ _ (s₁.setTop (mkF m 3 #[.val (.int ap), .val (.int asel), .val (.long aq), .second, .val (.int af), .val (.int at_), .unset, .unset, .unset, .unset, .unset, .unset, .unset] [(.int (3 : Int32)), (.int af)]))
  refine own_st (fun _ k => XS.iand X0.here hx rfl (hb hby at_3) rfl k) ?_
  show own_Go p e below s _ _ _ (s₁.setTop (mkF m 4 #[.val (.int ap), .val (.int asel), .val (.long aq), .second, .val (.int af), .val (.int at_), .unset, .unset, .unset, .unset, .unset, .unset, .unset] [(.int (af &&& (3 : Int32)))]))
  refine own_st (fun _ k => XS.istore X0.here hx rfl (hb hby at_4) rfl (l' := #[.val (.int ap), .val (.int asel), .val (.long aq), .second, .val (.int af), .val (.int at_), .val (.int (af &&& (3 : Int32))), .unset, .unset, .unset, .unset, .unset, .unset]) rfl k) ?_
  show own_Go p e below s _ _ _ (s₁.setTop (mkF m 6 #[.val (.int ap), .val (.int asel), .val (.long aq), .second, .val (.int af), .val (.int at_), .val (.int (af &&& (3 : Int32))), .unset, .unset, .unset, .unset, .unset, .unset] []))
  refine own_st (fun _ k => XS.bipush X0.here hx rfl (hb hby at_6) k) ?_
  show own_Go p e below s _ _ _ (s₁.setTop (mkF m 8 #[.val (.int ap), .val (.int asel), .val (.long aq), .second, .val (.int af), .val (.int at_), .val (.int (af &&& (3 : Int32))), .unset, .unset, .unset, .unset, .unset, .unset] [(.int (8 : Int32))]))
  refine own_st (fun _ k => XS.iload X0.here hx rfl (hb hby at_8) rfl k) ?_
  show own_Go p e below s _ _ _ (s₁.setTop (mkF m 10 #[.val (.int ap), .val (.int asel), .val (.long aq), .second, .val (.int af), .val (.int at_), .val (.int (af &&& (3 : Int32))), .unset, .unset, .unset, .unset, .unset, .unset] [(.int (af &&& (3 : Int32))), (.int (8 : Int32))]))
  refine own_st (fun _ k => XS.iload X0.here hx rfl (hb hby at_10) rfl k) ?_
  show own_Go p e below s _ _ _ (s₁.setTop (mkF m 12 #[.val (.int ap), .val (.int asel), .val (.long aq), .second, .val (.int af), .val (.int at_), .val (.int (af &&& (3 : Int32))), .unset, .unset, .unset, .unset, .unset, .unset] [(.int at_), (.int (af &&& (3 : Int32))), (.int (8 : Int32))]))
  refine own_st (fun _ k => XS.bipush X0.here hx rfl (hb hby at_12) k) ?_
  show own_Go p e below s _ _ _ (s₁.setTop (mkF m 14 #[.val (.int ap), .val (.int asel), .val (.long aq), .second, .val (.int af), .val (.int at_), .val (.int (af &&& (3 : Int32))), .unset, .unset, .unset, .unset, .unset, .unset] [(.int (7 : Int32)), (.int at_), (.int (af &&& (3 : Int32))), (.int (8 : Int32))]))
  refine own_st (fun _ k => XS.iand X0.here hx rfl (hb hby at_14) rfl k) ?_
  show own_Go p e below s _ _ _ (s₁.setTop (mkF m 15 #[.val (.int ap), .val (.int asel), .val (.long aq), .second, .val (.int af), .val (.int at_), .val (.int (af &&& (3 : Int32))), .unset, .unset, .unset, .unset, .unset, .unset] [(.int (at_ &&& (7 : Int32))), (.int (af &&& (3 : Int32))), (.int (8 : Int32))]))
  refine own_st (fun _ k => XS.iadd X0.here hx rfl (hb hby at_15) rfl k) ?_
  show own_Go p e below s _ _ _ (s₁.setTop (mkF m 16 #[.val (.int ap), .val (.int asel), .val (.long aq), .second, .val (.int af), .val (.int at_), .val (.int (af &&& (3 : Int32))), .unset, .unset, .unset, .unset, .unset, .unset] [(.int ((af &&& (3 : Int32)) + (at_ &&& (7 : Int32)))), (.int (8 : Int32))]))
  refine own_cS X0 hx hml hZ hown (hw _ (List.mem_of_getElem? (i := 0) rfl)) (hw _ (List.mem_of_getElem? (i := 1) rfl)) (hw _ (List.mem_of_getElem? (i := 2) rfl)) (hw _ (List.mem_of_getElem? (i := 3) rfl)) (by decide) (own_rm1 l Z a0 hw (8 : Int32) ((af &&& (3 : Int32)) + (at_ &&& (7 : Int32))) h0 n0 Z0) e0 (by decide) (W := 0) (by decide) (g := (mkF m 16 #[.val (.int ap), .val (.int asel), .val (.long aq), .second, .val (.int af), .val (.int at_), .val (.int (af &&& (3 : Int32))), .unset, .unset, .unset, .unset, .unset, .unset] [(.int ((af &&& (3 : Int32)) + (at_ &&& (7 : Int32)))), (.int (8 : Int32))])) rfl rfl own_pd0 (argsL := [(.int (8 : Int32)), (.int ((af &&& (3 : Int32)) + (at_ &&& (7 : Int32))))]) (rest := []) rfl rfl rfl (by show 2 * 0 + _ ≤ _; exact Nat.le_of_eq rfl) (hb hby at_16) (by decide) (by decide) ?_
  intro T1 L1 v1 X1 hQ1
  obtain ⟨rfl, eh1, le1⟩ := hQ1
  have N1 := own_nil N0 le1
  show own_Go p e below s _ _ _ (T1.setTop (mkF m 19 #[.val (.int ap), .val (.int asel), .val (.long aq), .second, .val (.int af), .val (.int at_), .val (.int (af &&& (3 : Int32))), .unset, .unset, .unset, .unset, .unset, .unset] [(.int (own_min (8 : Int32) ((af &&& (3 : Int32)) + (at_ &&& (7 : Int32)))))]))
  refine own_st (fun _ k => XS.istore X1.here hx rfl (hb hby at_19) rfl (l' := #[.val (.int ap), .val (.int asel), .val (.long aq), .second, .val (.int af), .val (.int at_), .val (.int (af &&& (3 : Int32))), .val (.int (own_min (8 : Int32) ((af &&& (3 : Int32)) + (at_ &&& (7 : Int32))))), .unset, .unset, .unset, .unset, .unset]) rfl k) ?_
  show own_Go p e below s _ _ _ (T1.setTop (mkF m 21 #[.val (.int ap), .val (.int asel), .val (.long aq), .second, .val (.int af), .val (.int at_), .val (.int (af &&& (3 : Int32))), .val (.int (own_min (8 : Int32) ((af &&& (3 : Int32)) + (at_ &&& (7 : Int32))))), .unset, .unset, .unset, .unset, .unset] []))
  obtain ⟨i0, hi0, hle0⟩ := own_mask af (3 : Int32) (k := 3) (by decide)
  suffices JJ2 : ∀ (fr to : Int32) (hi : fr.toInt = (i0 : Int)), own_Go p e below s (fun v h' L => v = some (.int 1) ∧ Fr n0 L) room_1.cells room_1.slots (T1.setTop (mkF m 21 #[.val (.int ap), .val (.int asel), .val (.long aq), .second, .val (.int af), .val (.int at_), .val (.int fr), .val (.int to), .unset, .unset, .unset, .unset, .unset] [])) from JJ2 _ _ hi0
  intro fr to hi
  show own_Go p e below s _ _ _ (T1.setTop (mkF m 21 #[.val (.int ap), .val (.int asel), .val (.long aq), .second, .val (.int af), .val (.int at_), .val (.int fr), .val (.int to), .unset, .unset, .unset, .unset, .unset] []))
  refine own_st (fun _ k => XS.iloadN X1.here hx rfl (hb hby at_21) rfl k) ?_
  show own_Go p e below s _ _ _ (T1.setTop (mkF m 22 #[.val (.int ap), .val (.int asel), .val (.long aq), .second, .val (.int af), .val (.int at_), .val (.int fr), .val (.int to), .unset, .unset, .unset, .unset, .unset] [(.int asel)]))
  refine own_st (fun _ k => XS.iconst X1.here hx rfl (hb hby at_22) k) ?_
  show own_Go p e below s _ _ _ (T1.setTop (mkF m 23 #[.val (.int ap), .val (.int asel), .val (.long aq), .second, .val (.int af), .val (.int at_), .val (.int fr), .val (.int to), .unset, .unset, .unset, .unset, .unset] [(.int (1 : Int32)), (.int asel)]))
  refine own_st (fun _ k => XS.iand X1.here hx rfl (hb hby at_23) rfl k) ?_
  show own_Go p e below s _ _ _ (T1.setTop (mkF m 24 #[.val (.int ap), .val (.int asel), .val (.long aq), .second, .val (.int af), .val (.int at_), .val (.int fr), .val (.int to), .unset, .unset, .unset, .unset, .unset] [(.int (asel &&& (1 : Int32)))]))
  have Jx0 : ∀ x0 : Int32, 0 ≤ (x0).toInt → (x0).toInt ≤ 255 → own_Go p e below s (fun v h' L => v = some (.int 1) ∧ Fr n0 L) room_1.cells room_1.slots (T1.setTop (mkF m 38 #[.val (.int ap), .val (.int asel), .val (.long aq), .second, .val (.int af), .val (.int at_), .val (.int fr), .val (.int to), .unset, .unset, .unset, .unset, .unset] [(.int x0)])) := by
    intro x0 lx0 ux0
    show own_Go p e below s _ _ _ (T1.setTop (mkF m 38 #[.val (.int ap), .val (.int asel), .val (.long aq), .second, .val (.int af), .val (.int at_), .val (.int fr), .val (.int to), .unset, .unset, .unset, .unset, .unset] [(.int x0)]))
    refine own_st (fun _ k => XS.istore X1.here hx rfl (hb hby at_38) rfl (l' := #[.val (.int ap), .val (.int asel), .val (.long aq), .second, .val (.int af), .val (.int at_), .val (.int fr), .val (.int to), .val (.int x0), .unset, .unset, .unset, .unset]) rfl k) ?_
    show own_Go p e below s _ _ _ (T1.setTop (mkF m 40 #[.val (.int ap), .val (.int asel), .val (.long aq), .second, .val (.int af), .val (.int at_), .val (.int fr), .val (.int to), .val (.int x0), .unset, .unset, .unset, .unset] []))
    refine own_st (fun _ k => XS.iloadN X1.here hx rfl (hb hby at_40) rfl k) ?_
    show own_Go p e below s _ _ _ (T1.setTop (mkF m 41 #[.val (.int ap), .val (.int asel), .val (.long aq), .second, .val (.int af), .val (.int at_), .val (.int fr), .val (.int to), .val (.int x0), .unset, .unset, .unset, .unset] [(.int asel)]))
    refine own_st (fun _ k => XS.iconst X1.here hx rfl (hb hby at_41) k) ?_
    show own_Go p e below s _ _ _ (T1.setTop (mkF m 42 #[.val (.int ap), .val (.int asel), .val (.long aq), .second, .val (.int af), .val (.int at_), .val (.int fr), .val (.int to), .val (.int x0), .unset, .unset, .unset, .unset] [(.int (2 : Int32)), (.int asel)]))
    refine own_st (fun _ k => XS.iand X1.here hx rfl (hb hby at_42) rfl k) ?_
    show own_Go p e below s _ _ _ (T1.setTop (mkF m 43 #[.val (.int ap), .val (.int asel), .val (.long aq), .second, .val (.int af), .val (.int at_), .val (.int fr), .val (.int to), .val (.int x0), .unset, .unset, .unset, .unset] [(.int (asel &&& (2 : Int32)))]))
    have Jx1 : ∀ x1 : Int32, 0 ≤ (x1).toInt → (x1).toInt ≤ 255 → own_Go p e below s (fun v h' L => v = some (.int 1) ∧ Fr n0 L) room_1.cells room_1.slots (T1.setTop (mkF m 60 #[.val (.int ap), .val (.int asel), .val (.long aq), .second, .val (.int af), .val (.int at_), .val (.int fr), .val (.int to), .val (.int x0), .unset, .unset, .unset, .unset] [(.int x1)])) := by
      intro x1 lx1 ux1
      show own_Go p e below s _ _ _ (T1.setTop (mkF m 60 #[.val (.int ap), .val (.int asel), .val (.long aq), .second, .val (.int af), .val (.int at_), .val (.int fr), .val (.int to), .val (.int x0), .unset, .unset, .unset, .unset] [(.int x1)]))
      refine own_st (fun _ k => XS.istore X1.here hx rfl (hb hby at_60) rfl (l' := #[.val (.int ap), .val (.int asel), .val (.long aq), .second, .val (.int af), .val (.int at_), .val (.int fr), .val (.int to), .val (.int x0), .val (.int x1), .unset, .unset, .unset]) rfl k) ?_
      show own_Go p e below s _ _ _ (T1.setTop (mkF m 62 #[.val (.int ap), .val (.int asel), .val (.long aq), .second, .val (.int af), .val (.int at_), .val (.int fr), .val (.int to), .val (.int x0), .val (.int x1), .unset, .unset, .unset] []))
      refine own_st (fun _ k => XS.iloadN X1.here hx rfl (hb hby at_62) rfl k) ?_
      show own_Go p e below s _ _ _ (T1.setTop (mkF m 63 #[.val (.int ap), .val (.int asel), .val (.long aq), .second, .val (.int af), .val (.int at_), .val (.int fr), .val (.int to), .val (.int x0), .val (.int x1), .unset, .unset, .unset] [(.int asel)]))
      refine own_st (fun _ k => XS.iconst X1.here hx rfl (hb hby at_63) k) ?_
      show own_Go p e below s _ _ _ (T1.setTop (mkF m 64 #[.val (.int ap), .val (.int asel), .val (.long aq), .second, .val (.int af), .val (.int at_), .val (.int fr), .val (.int to), .val (.int x0), .val (.int x1), .unset, .unset, .unset] [(.int (4 : Int32)), (.int asel)]))
      refine own_st (fun _ k => XS.iand X1.here hx rfl (hb hby at_64) rfl k) ?_
      show own_Go p e below s _ _ _ (T1.setTop (mkF m 65 #[.val (.int ap), .val (.int asel), .val (.long aq), .second, .val (.int af), .val (.int at_), .val (.int fr), .val (.int to), .val (.int x0), .val (.int x1), .unset, .unset, .unset] [(.int (asel &&& (4 : Int32)))]))
      have Jx2 : ∀ x2 : Int32, 0 ≤ (x2).toInt → (x2).toInt ≤ 255 → own_Go p e below s (fun v h' L => v = some (.int 1) ∧ Fr n0 L) room_1.cells room_1.slots (T1.setTop (mkF m 82 #[.val (.int ap), .val (.int asel), .val (.long aq), .second, .val (.int af), .val (.int at_), .val (.int fr), .val (.int to), .val (.int x0), .val (.int x1), .unset, .unset, .unset] [(.int x2)])) := by
        intro x2 lx2 ux2
        show own_Go p e below s _ _ _ (T1.setTop (mkF m 82 #[.val (.int ap), .val (.int asel), .val (.long aq), .second, .val (.int af), .val (.int at_), .val (.int fr), .val (.int to), .val (.int x0), .val (.int x1), .unset, .unset, .unset] [(.int x2)]))
        refine own_st (fun _ k => XS.istore X1.here hx rfl (hb hby at_82) rfl (l' := #[.val (.int ap), .val (.int asel), .val (.long aq), .second, .val (.int af), .val (.int at_), .val (.int fr), .val (.int to), .val (.int x0), .val (.int x1), .val (.int x2), .unset, .unset]) rfl k) ?_
        show own_Go p e below s _ _ _ (T1.setTop (mkF m 84 #[.val (.int ap), .val (.int asel), .val (.long aq), .second, .val (.int af), .val (.int at_), .val (.int fr), .val (.int to), .val (.int x0), .val (.int x1), .val (.int x2), .unset, .unset] []))
        refine own_st (fun _ k => XS.bipush X1.here hx rfl (hb hby at_84) k) ?_
        show own_Go p e below s _ _ _ (T1.setTop (mkF m 86 #[.val (.int ap), .val (.int asel), .val (.long aq), .second, .val (.int af), .val (.int at_), .val (.int fr), .val (.int to), .val (.int x0), .val (.int x1), .val (.int x2), .unset, .unset] [(.int (8 : Int32))]))
        obtain ⟨T3, h3, bb, g3, X3, e3, E3, Vbb, st3⟩ := own_newA X1 hx hZ (hw _ (List.mem_of_getElem? (i := 4) rfl)) eh1 (g := (mkF m 86 #[.val (.int ap), .val (.int asel), .val (.long aq), .second, .val (.int af), .val (.int at_), .val (.int fr), .val (.int to), .val (.int x0), .val (.int x1), .val (.int x2), .unset, .unset] [(.int (8 : Int32))])) rfl (hb hby at_86) rfl (n := 8) (cap := 8) (by decide) (by decide) (by decide) (by decide) (by decide)
        replace Vbb : own_Av Z h3 bb .byte 8 (fun _ => .int 0) := Vbb
        have fr_bb : n0 ≤ bb := Nat.le_trans Z0 (Nat.le_of_eq g3.symm)
        have sz3 := Nat.le_trans Z0 E3.1
        refine own_st st3 ?_
        show own_Go p e below s _ _ _ (T3.setTop (mkF m 88 #[.val (.int ap), .val (.int asel), .val (.long aq), .second, .val (.int af), .val (.int at_), .val (.int fr), .val (.int to), .val (.int x0), .val (.int x1), .val (.int x2), .unset, .unset] [(.ref bb)]))
        refine own_st (fun _ k => XS.astore X3.here hx rfl (hb hby at_88) rfl rfl (l' := #[.val (.int ap), .val (.int asel), .val (.long aq), .second, .val (.int af), .val (.int at_), .val (.int fr), .val (.int to), .val (.int x0), .val (.int x1), .val (.int x2), .val (.ref bb), .unset]) rfl k) ?_
        show own_Go p e below s _ _ _ (T3.setTop (mkF m 90 #[.val (.int ap), .val (.int asel), .val (.long aq), .second, .val (.int af), .val (.int at_), .val (.int fr), .val (.int to), .val (.int x0), .val (.int x1), .val (.int x2), .val (.ref bb), .unset] []))
        refine own_st (fun _ k => XS.aload X3.here hx rfl (hb hby at_90) rfl rfl k) ?_
        show own_Go p e below s _ _ _ (T3.setTop (mkF m 92 #[.val (.int ap), .val (.int asel), .val (.long aq), .second, .val (.int af), .val (.int at_), .val (.int fr), .val (.int to), .val (.int x0), .val (.int x1), .val (.int x2), .val (.ref bb), .unset] [(.ref bb)]))
        refine own_st (fun _ k => XS.iconst X3.here hx rfl (hb hby at_92) k) ?_
        show own_Go p e below s _ _ _ (T3.setTop (mkF m 93 #[.val (.int ap), .val (.int asel), .val (.long aq), .second, .val (.int af), .val (.int at_), .val (.int fr), .val (.int to), .val (.int x0), .val (.int x1), .val (.int x2), .val (.ref bb), .unset] [(.int (0 : Int32)), (.ref bb)]))
        refine own_st (fun _ k => XS.lloadN X3.here hx rfl (hb hby at_93) rfl k) ?_
        show own_Go p e below s _ _ _ (T3.setTop (mkF m 94 #[.val (.int ap), .val (.int asel), .val (.long aq), .second, .val (.int af), .val (.int at_), .val (.int fr), .val (.int to), .val (.int x0), .val (.int x1), .val (.int x2), .val (.ref bb), .unset] [(.long aq), (.int (0 : Int32)), (.ref bb)]))
        refine own_st (fun _ k => XS.l2i X3.here hx rfl (hb hby at_94) rfl k) ?_
        show own_Go p e below s _ _ _ (T3.setTop (mkF m 95 #[.val (.int ap), .val (.int asel), .val (.long aq), .second, .val (.int af), .val (.int at_), .val (.int fr), .val (.int to), .val (.int x0), .val (.int x1), .val (.int x2), .val (.ref bb), .unset] [(.int (aq).toInt32), (.int (0 : Int32)), (.ref bb)]))
        refine own_st (fun _ k => XS.i2b X3.here hx rfl (hb hby at_95) rfl k) ?_
        show own_Go p e below s _ _ _ (T3.setTop (mkF m 96 #[.val (.int ap), .val (.int asel), .val (.long aq), .second, .val (.int af), .val (.int at_), .val (.int fr), .val (.int to), .val (.int x0), .val (.int x1), .val (.int x2), .val (.ref bb), .unset] [(.int ((aq).toInt32).toInt8.toInt32), (.int (0 : Int32)), (.ref bb)]))
        obtain ⟨T4, h4, X4, e4, W4, Vbb_4, st4⟩ := own_stB X3 hx hZ e3 Vbb (i := 0) (by decide) (by decide) (g := (mkF m 96 #[.val (.int ap), .val (.int asel), .val (.long aq), .second, .val (.int af), .val (.int at_), .val (.int fr), .val (.int to), .val (.int x0), .val (.int x1), .val (.int x2), .val (.ref bb), .unset] [(.int ((aq).toInt32).toInt8.toInt32), (.int (0 : Int32)), (.ref bb)])) rfl rfl (hb hby at_96)
        have sz4 := Nat.le_trans sz3 (Keep.of_wr W4).1
        have N4 := Fr.snoc X4 N1 fr_bb
        refine own_st st4 ?_
        show own_Go p e below s _ _ _ (T4.setTop (mkF m 97 #[.val (.int ap), .val (.int asel), .val (.long aq), .second, .val (.int af), .val (.int at_), .val (.int fr), .val (.int to), .val (.int x0), .val (.int x1), .val (.int x2), .val (.ref bb), .unset] []))
        refine own_st (fun _ k => XS.aload X4.here hx rfl (hb hby at_97) rfl rfl k) ?_
        show own_Go p e below s _ _ _ (T4.setTop (mkF m 99 #[.val (.int ap), .val (.int asel), .val (.long aq), .second, .val (.int af), .val (.int at_), .val (.int fr), .val (.int to), .val (.int x0), .val (.int x1), .val (.int x2), .val (.ref bb), .unset] [(.ref bb)]))
        refine own_st (fun _ k => XS.iconst X4.here hx rfl (hb hby at_99) k) ?_
        show own_Go p e below s _ _ _ (T4.setTop (mkF m 100 #[.val (.int ap), .val (.int asel), .val (.long aq), .second, .val (.int af), .val (.int at_), .val (.int fr), .val (.int to), .val (.int x0), .val (.int x1), .val (.int x2), .val (.ref bb), .unset] [(.int (1 : Int32)), (.ref bb)]))
        refine own_st (fun _ k => XS.lloadN X4.here hx rfl (hb hby at_100) rfl k) ?_
        show own_Go p e below s _ _ _ (T4.setTop (mkF m 101 #[.val (.int ap), .val (.int asel), .val (.long aq), .second, .val (.int af), .val (.int at_), .val (.int fr), .val (.int to), .val (.int x0), .val (.int x1), .val (.int x2), .val (.ref bb), .unset] [(.long aq), (.int (1 : Int32)), (.ref bb)]))
        refine own_st (fun _ k => XS.bipush X4.here hx rfl (hb hby at_101) k) ?_
        show own_Go p e below s _ _ _ (T4.setTop (mkF m 103 #[.val (.int ap), .val (.int asel), .val (.long aq), .second, .val (.int af), .val (.int at_), .val (.int fr), .val (.int to), .val (.int x0), .val (.int x1), .val (.int x2), .val (.ref bb), .unset] [(.int (8 : Int32)), (.long aq), (.int (1 : Int32)), (.ref bb)]))
        refine own_st (fun _ k => XT.lushr X4.here hx rfl (hb hby at_103) rfl k) ?_
        show own_Go p e below s _ _ _ (T4.setTop (mkF m 104 #[.val (.int ap), .val (.int asel), .val (.long aq), .second, .val (.int af), .val (.int at_), .val (.int fr), .val (.int to), .val (.int x0), .val (.int x1), .val (.int x2), .val (.ref bb), .unset] [(.long (XT.ushrL aq (8 : Int32))), (.int (1 : Int32)), (.ref bb)]))
        refine own_st (fun _ k => XS.l2i X4.here hx rfl (hb hby at_104) rfl k) ?_
        show own_Go p e below s _ _ _ (T4.setTop (mkF m 105 #[.val (.int ap), .val (.int asel), .val (.long aq), .second, .val (.int af), .val (.int at_), .val (.int fr), .val (.int to), .val (.int x0), .val (.int x1), .val (.int x2), .val (.ref bb), .unset] [(.int ((XT.ushrL aq (8 : Int32))).toInt32), (.int (1 : Int32)), (.ref bb)]))
        refine own_st (fun _ k => XS.i2b X4.here hx rfl (hb hby at_105) rfl k) ?_
        show own_Go p e below s _ _ _ (T4.setTop (mkF m 106 #[.val (.int ap), .val (.int asel), .val (.long aq), .second, .val (.int af), .val (.int at_), .val (.int fr), .val (.int to), .val (.int x0), .val (.int x1), .val (.int x2), .val (.ref bb), .unset] [(.int (((XT.ushrL aq (8 : Int32))).toInt32).toInt8.toInt32), (.int (1 : Int32)), (.ref bb)]))
        obtain ⟨T5, h5, X5, e5, W5, Vbb_5, st5⟩ := own_stB X4 hx hZ e4 Vbb_4 (i := 1) (by decide) (by decide) (g := (mkF m 106 #[.val (.int ap), .val (.int asel), .val (.long aq), .second, .val (.int af), .val (.int at_), .val (.int fr), .val (.int to), .val (.int x0), .val (.int x1), .val (.int x2), .val (.ref bb), .unset] [(.int (((XT.ushrL aq (8 : Int32))).toInt32).toInt8.toInt32), (.int (1 : Int32)), (.ref bb)])) rfl rfl (hb hby at_106)
        have sz5 := Nat.le_trans sz4 (Keep.of_wr W5).1
        have N5 := Fr.snoc X5 N4 fr_bb
        refine own_st st5 ?_
        show own_Go p e below s _ _ _ (T5.setTop (mkF m 107 #[.val (.int ap), .val (.int asel), .val (.long aq), .second, .val (.int af), .val (.int at_), .val (.int fr), .val (.int to), .val (.int x0), .val (.int x1), .val (.int x2), .val (.ref bb), .unset] []))
        refine own_st (fun _ k => XS.aload X5.here hx rfl (hb hby at_107) rfl rfl k) ?_
        show own_Go p e below s _ _ _ (T5.setTop (mkF m 109 #[.val (.int ap), .val (.int asel), .val (.long aq), .second, .val (.int af), .val (.int at_), .val (.int fr), .val (.int to), .val (.int x0), .val (.int x1), .val (.int x2), .val (.ref bb), .unset] [(.ref bb)]))
        refine own_st (fun _ k => XS.iconst X5.here hx rfl (hb hby at_109) k) ?_
        show own_Go p e below s _ _ _ (T5.setTop (mkF m 110 #[.val (.int ap), .val (.int asel), .val (.long aq), .second, .val (.int af), .val (.int at_), .val (.int fr), .val (.int to), .val (.int x0), .val (.int x1), .val (.int x2), .val (.ref bb), .unset] [(.int (2 : Int32)), (.ref bb)]))
        refine own_st (fun _ k => XS.lloadN X5.here hx rfl (hb hby at_110) rfl k) ?_
        show own_Go p e below s _ _ _ (T5.setTop (mkF m 111 #[.val (.int ap), .val (.int asel), .val (.long aq), .second, .val (.int af), .val (.int at_), .val (.int fr), .val (.int to), .val (.int x0), .val (.int x1), .val (.int x2), .val (.ref bb), .unset] [(.long aq), (.int (2 : Int32)), (.ref bb)]))
        refine own_st (fun _ k => XS.bipush X5.here hx rfl (hb hby at_111) k) ?_
        show own_Go p e below s _ _ _ (T5.setTop (mkF m 113 #[.val (.int ap), .val (.int asel), .val (.long aq), .second, .val (.int af), .val (.int at_), .val (.int fr), .val (.int to), .val (.int x0), .val (.int x1), .val (.int x2), .val (.ref bb), .unset] [(.int (16 : Int32)), (.long aq), (.int (2 : Int32)), (.ref bb)]))
        refine own_st (fun _ k => XT.lushr X5.here hx rfl (hb hby at_113) rfl k) ?_
        show own_Go p e below s _ _ _ (T5.setTop (mkF m 114 #[.val (.int ap), .val (.int asel), .val (.long aq), .second, .val (.int af), .val (.int at_), .val (.int fr), .val (.int to), .val (.int x0), .val (.int x1), .val (.int x2), .val (.ref bb), .unset] [(.long (XT.ushrL aq (16 : Int32))), (.int (2 : Int32)), (.ref bb)]))
        refine own_st (fun _ k => XS.l2i X5.here hx rfl (hb hby at_114) rfl k) ?_
        show own_Go p e below s _ _ _ (T5.setTop (mkF m 115 #[.val (.int ap), .val (.int asel), .val (.long aq), .second, .val (.int af), .val (.int at_), .val (.int fr), .val (.int to), .val (.int x0), .val (.int x1), .val (.int x2), .val (.ref bb), .unset] [(.int ((XT.ushrL aq (16 : Int32))).toInt32), (.int (2 : Int32)), (.ref bb)]))
        refine own_st (fun _ k => XS.i2b X5.here hx rfl (hb hby at_115) rfl k) ?_
        show own_Go p e below s _ _ _ (T5.setTop (mkF m 116 #[.val (.int ap), .val (.int asel), .val (.long aq), .second, .val (.int af), .val (.int at_), .val (.int fr), .val (.int to), .val (.int x0), .val (.int x1), .val (.int x2), .val (.ref bb), .unset] [(.int (((XT.ushrL aq (16 : Int32))).toInt32).toInt8.toInt32), (.int (2 : Int32)), (.ref bb)]))
        obtain ⟨T6, h6, X6, e6, W6, Vbb_6, st6⟩ := own_stB X5 hx hZ e5 Vbb_5 (i := 2) (by decide) (by decide) (g := (mkF m 116 #[.val (.int ap), .val (.int asel), .val (.long aq), .second, .val (.int af), .val (.int at_), .val (.int fr), .val (.int to), .val (.int x0), .val (.int x1), .val (.int x2), .val (.ref bb), .unset] [(.int (((XT.ushrL aq (16 : Int32))).toInt32).toInt8.toInt32), (.int (2 : Int32)), (.ref bb)])) rfl rfl (hb hby at_116)
        have sz6 := Nat.le_trans sz5 (Keep.of_wr W6).1
        have N6 := Fr.snoc X6 N5 fr_bb
        refine own_st st6 ?_
        show own_Go p e below s _ _ _ (T6.setTop (mkF m 117 #[.val (.int ap), .val (.int asel), .val (.long aq), .second, .val (.int af), .val (.int at_), .val (.int fr), .val (.int to), .val (.int x0), .val (.int x1), .val (.int x2), .val (.ref bb), .unset] []))
        refine own_st (fun _ k => XS.aload X6.here hx rfl (hb hby at_117) rfl rfl k) ?_
        show own_Go p e below s _ _ _ (T6.setTop (mkF m 119 #[.val (.int ap), .val (.int asel), .val (.long aq), .second, .val (.int af), .val (.int at_), .val (.int fr), .val (.int to), .val (.int x0), .val (.int x1), .val (.int x2), .val (.ref bb), .unset] [(.ref bb)]))
        refine own_st (fun _ k => XS.iconst X6.here hx rfl (hb hby at_119) k) ?_
        show own_Go p e below s _ _ _ (T6.setTop (mkF m 120 #[.val (.int ap), .val (.int asel), .val (.long aq), .second, .val (.int af), .val (.int at_), .val (.int fr), .val (.int to), .val (.int x0), .val (.int x1), .val (.int x2), .val (.ref bb), .unset] [(.int (3 : Int32)), (.ref bb)]))
        refine own_st (fun _ k => XS.lloadN X6.here hx rfl (hb hby at_120) rfl k) ?_
        show own_Go p e below s _ _ _ (T6.setTop (mkF m 121 #[.val (.int ap), .val (.int asel), .val (.long aq), .second, .val (.int af), .val (.int at_), .val (.int fr), .val (.int to), .val (.int x0), .val (.int x1), .val (.int x2), .val (.ref bb), .unset] [(.long aq), (.int (3 : Int32)), (.ref bb)]))
        refine own_st (fun _ k => XS.bipush X6.here hx rfl (hb hby at_121) k) ?_
        show own_Go p e below s _ _ _ (T6.setTop (mkF m 123 #[.val (.int ap), .val (.int asel), .val (.long aq), .second, .val (.int af), .val (.int at_), .val (.int fr), .val (.int to), .val (.int x0), .val (.int x1), .val (.int x2), .val (.ref bb), .unset] [(.int (24 : Int32)), (.long aq), (.int (3 : Int32)), (.ref bb)]))
        refine own_st (fun _ k => XT.lushr X6.here hx rfl (hb hby at_123) rfl k) ?_
        show own_Go p e below s _ _ _ (T6.setTop (mkF m 124 #[.val (.int ap), .val (.int asel), .val (.long aq), .second, .val (.int af), .val (.int at_), .val (.int fr), .val (.int to), .val (.int x0), .val (.int x1), .val (.int x2), .val (.ref bb), .unset] [(.long (XT.ushrL aq (24 : Int32))), (.int (3 : Int32)), (.ref bb)]))
        refine own_st (fun _ k => XS.l2i X6.here hx rfl (hb hby at_124) rfl k) ?_
        show own_Go p e below s _ _ _ (T6.setTop (mkF m 125 #[.val (.int ap), .val (.int asel), .val (.long aq), .second, .val (.int af), .val (.int at_), .val (.int fr), .val (.int to), .val (.int x0), .val (.int x1), .val (.int x2), .val (.ref bb), .unset] [(.int ((XT.ushrL aq (24 : Int32))).toInt32), (.int (3 : Int32)), (.ref bb)]))
        refine own_st (fun _ k => XS.i2b X6.here hx rfl (hb hby at_125) rfl k) ?_
        show own_Go p e below s _ _ _ (T6.setTop (mkF m 126 #[.val (.int ap), .val (.int asel), .val (.long aq), .second, .val (.int af), .val (.int at_), .val (.int fr), .val (.int to), .val (.int x0), .val (.int x1), .val (.int x2), .val (.ref bb), .unset] [(.int (((XT.ushrL aq (24 : Int32))).toInt32).toInt8.toInt32), (.int (3 : Int32)), (.ref bb)]))
        obtain ⟨T7, h7, X7, e7, W7, Vbb_7, st7⟩ := own_stB X6 hx hZ e6 Vbb_6 (i := 3) (by decide) (by decide) (g := (mkF m 126 #[.val (.int ap), .val (.int asel), .val (.long aq), .second, .val (.int af), .val (.int at_), .val (.int fr), .val (.int to), .val (.int x0), .val (.int x1), .val (.int x2), .val (.ref bb), .unset] [(.int (((XT.ushrL aq (24 : Int32))).toInt32).toInt8.toInt32), (.int (3 : Int32)), (.ref bb)])) rfl rfl (hb hby at_126)
        have sz7 := Nat.le_trans sz6 (Keep.of_wr W7).1
        have N7 := Fr.snoc X7 N6 fr_bb
        refine own_st st7 ?_
        show own_Go p e below s _ _ _ (T7.setTop (mkF m 127 #[.val (.int ap), .val (.int asel), .val (.long aq), .second, .val (.int af), .val (.int at_), .val (.int fr), .val (.int to), .val (.int x0), .val (.int x1), .val (.int x2), .val (.ref bb), .unset] []))
        refine own_st (fun _ k => XS.aload X7.here hx rfl (hb hby at_127) rfl rfl k) ?_
        show own_Go p e below s _ _ _ (T7.setTop (mkF m 129 #[.val (.int ap), .val (.int asel), .val (.long aq), .second, .val (.int af), .val (.int at_), .val (.int fr), .val (.int to), .val (.int x0), .val (.int x1), .val (.int x2), .val (.ref bb), .unset] [(.ref bb)]))
        refine own_st (fun _ k => XS.iconst X7.here hx rfl (hb hby at_129) k) ?_
        show own_Go p e below s _ _ _ (T7.setTop (mkF m 130 #[.val (.int ap), .val (.int asel), .val (.long aq), .second, .val (.int af), .val (.int at_), .val (.int fr), .val (.int to), .val (.int x0), .val (.int x1), .val (.int x2), .val (.ref bb), .unset] [(.int (4 : Int32)), (.ref bb)]))
        refine own_st (fun _ k => XS.lloadN X7.here hx rfl (hb hby at_130) rfl k) ?_
        show own_Go p e below s _ _ _ (T7.setTop (mkF m 131 #[.val (.int ap), .val (.int asel), .val (.long aq), .second, .val (.int af), .val (.int at_), .val (.int fr), .val (.int to), .val (.int x0), .val (.int x1), .val (.int x2), .val (.ref bb), .unset] [(.long aq), (.int (4 : Int32)), (.ref bb)]))
        refine own_st (fun _ k => XS.bipush X7.here hx rfl (hb hby at_131) k) ?_
        show own_Go p e below s _ _ _ (T7.setTop (mkF m 133 #[.val (.int ap), .val (.int asel), .val (.long aq), .second, .val (.int af), .val (.int at_), .val (.int fr), .val (.int to), .val (.int x0), .val (.int x1), .val (.int x2), .val (.ref bb), .unset] [(.int (32 : Int32)), (.long aq), (.int (4 : Int32)), (.ref bb)]))
        refine own_st (fun _ k => XT.lushr X7.here hx rfl (hb hby at_133) rfl k) ?_
        show own_Go p e below s _ _ _ (T7.setTop (mkF m 134 #[.val (.int ap), .val (.int asel), .val (.long aq), .second, .val (.int af), .val (.int at_), .val (.int fr), .val (.int to), .val (.int x0), .val (.int x1), .val (.int x2), .val (.ref bb), .unset] [(.long (XT.ushrL aq (32 : Int32))), (.int (4 : Int32)), (.ref bb)]))
        refine own_st (fun _ k => XS.l2i X7.here hx rfl (hb hby at_134) rfl k) ?_
        show own_Go p e below s _ _ _ (T7.setTop (mkF m 135 #[.val (.int ap), .val (.int asel), .val (.long aq), .second, .val (.int af), .val (.int at_), .val (.int fr), .val (.int to), .val (.int x0), .val (.int x1), .val (.int x2), .val (.ref bb), .unset] [(.int ((XT.ushrL aq (32 : Int32))).toInt32), (.int (4 : Int32)), (.ref bb)]))
        refine own_st (fun _ k => XS.i2b X7.here hx rfl (hb hby at_135) rfl k) ?_
        show own_Go p e below s _ _ _ (T7.setTop (mkF m 136 #[.val (.int ap), .val (.int asel), .val (.long aq), .second, .val (.int af), .val (.int at_), .val (.int fr), .val (.int to), .val (.int x0), .val (.int x1), .val (.int x2), .val (.ref bb), .unset] [(.int (((XT.ushrL aq (32 : Int32))).toInt32).toInt8.toInt32), (.int (4 : Int32)), (.ref bb)]))
        obtain ⟨T8, h8, X8, e8, W8, Vbb_8, st8⟩ := own_stB X7 hx hZ e7 Vbb_7 (i := 4) (by decide) (by decide) (g := (mkF m 136 #[.val (.int ap), .val (.int asel), .val (.long aq), .second, .val (.int af), .val (.int at_), .val (.int fr), .val (.int to), .val (.int x0), .val (.int x1), .val (.int x2), .val (.ref bb), .unset] [(.int (((XT.ushrL aq (32 : Int32))).toInt32).toInt8.toInt32), (.int (4 : Int32)), (.ref bb)])) rfl rfl (hb hby at_136)
        have sz8 := Nat.le_trans sz7 (Keep.of_wr W8).1
        have N8 := Fr.snoc X8 N7 fr_bb
        refine own_st st8 ?_
        show own_Go p e below s _ _ _ (T8.setTop (mkF m 137 #[.val (.int ap), .val (.int asel), .val (.long aq), .second, .val (.int af), .val (.int at_), .val (.int fr), .val (.int to), .val (.int x0), .val (.int x1), .val (.int x2), .val (.ref bb), .unset] []))
        refine own_st (fun _ k => XS.aload X8.here hx rfl (hb hby at_137) rfl rfl k) ?_
        show own_Go p e below s _ _ _ (T8.setTop (mkF m 139 #[.val (.int ap), .val (.int asel), .val (.long aq), .second, .val (.int af), .val (.int at_), .val (.int fr), .val (.int to), .val (.int x0), .val (.int x1), .val (.int x2), .val (.ref bb), .unset] [(.ref bb)]))
        refine own_st (fun _ k => XS.iconst X8.here hx rfl (hb hby at_139) k) ?_
        show own_Go p e below s _ _ _ (T8.setTop (mkF m 140 #[.val (.int ap), .val (.int asel), .val (.long aq), .second, .val (.int af), .val (.int at_), .val (.int fr), .val (.int to), .val (.int x0), .val (.int x1), .val (.int x2), .val (.ref bb), .unset] [(.int (5 : Int32)), (.ref bb)]))
        refine own_st (fun _ k => XS.lloadN X8.here hx rfl (hb hby at_140) rfl k) ?_
        show own_Go p e below s _ _ _ (T8.setTop (mkF m 141 #[.val (.int ap), .val (.int asel), .val (.long aq), .second, .val (.int af), .val (.int at_), .val (.int fr), .val (.int to), .val (.int x0), .val (.int x1), .val (.int x2), .val (.ref bb), .unset] [(.long aq), (.int (5 : Int32)), (.ref bb)]))
        refine own_st (fun _ k => XS.bipush X8.here hx rfl (hb hby at_141) k) ?_
        show own_Go p e below s _ _ _ (T8.setTop (mkF m 143 #[.val (.int ap), .val (.int asel), .val (.long aq), .second, .val (.int af), .val (.int at_), .val (.int fr), .val (.int to), .val (.int x0), .val (.int x1), .val (.int x2), .val (.ref bb), .unset] [(.int (40 : Int32)), (.long aq), (.int (5 : Int32)), (.ref bb)]))
        refine own_st (fun _ k => XT.lushr X8.here hx rfl (hb hby at_143) rfl k) ?_
        show own_Go p e below s _ _ _ (T8.setTop (mkF m 144 #[.val (.int ap), .val (.int asel), .val (.long aq), .second, .val (.int af), .val (.int at_), .val (.int fr), .val (.int to), .val (.int x0), .val (.int x1), .val (.int x2), .val (.ref bb), .unset] [(.long (XT.ushrL aq (40 : Int32))), (.int (5 : Int32)), (.ref bb)]))
        refine own_st (fun _ k => XS.l2i X8.here hx rfl (hb hby at_144) rfl k) ?_
        show own_Go p e below s _ _ _ (T8.setTop (mkF m 145 #[.val (.int ap), .val (.int asel), .val (.long aq), .second, .val (.int af), .val (.int at_), .val (.int fr), .val (.int to), .val (.int x0), .val (.int x1), .val (.int x2), .val (.ref bb), .unset] [(.int ((XT.ushrL aq (40 : Int32))).toInt32), (.int (5 : Int32)), (.ref bb)]))
        refine own_st (fun _ k => XS.i2b X8.here hx rfl (hb hby at_145) rfl k) ?_
        show own_Go p e below s _ _ _ (T8.setTop (mkF m 146 #[.val (.int ap), .val (.int asel), .val (.long aq), .second, .val (.int af), .val (.int at_), .val (.int fr), .val (.int to), .val (.int x0), .val (.int x1), .val (.int x2), .val (.ref bb), .unset] [(.int (((XT.ushrL aq (40 : Int32))).toInt32).toInt8.toInt32), (.int (5 : Int32)), (.ref bb)]))
        obtain ⟨T9, h9, X9, e9, W9, Vbb_9, st9⟩ := own_stB X8 hx hZ e8 Vbb_8 (i := 5) (by decide) (by decide) (g := (mkF m 146 #[.val (.int ap), .val (.int asel), .val (.long aq), .second, .val (.int af), .val (.int at_), .val (.int fr), .val (.int to), .val (.int x0), .val (.int x1), .val (.int x2), .val (.ref bb), .unset] [(.int (((XT.ushrL aq (40 : Int32))).toInt32).toInt8.toInt32), (.int (5 : Int32)), (.ref bb)])) rfl rfl (hb hby at_146)
        have sz9 := Nat.le_trans sz8 (Keep.of_wr W9).1
        have N9 := Fr.snoc X9 N8 fr_bb
        refine own_st st9 ?_
        show own_Go p e below s _ _ _ (T9.setTop (mkF m 147 #[.val (.int ap), .val (.int asel), .val (.long aq), .second, .val (.int af), .val (.int at_), .val (.int fr), .val (.int to), .val (.int x0), .val (.int x1), .val (.int x2), .val (.ref bb), .unset] []))
        refine own_st (fun _ k => XS.aload X9.here hx rfl (hb hby at_147) rfl rfl k) ?_
        show own_Go p e below s _ _ _ (T9.setTop (mkF m 149 #[.val (.int ap), .val (.int asel), .val (.long aq), .second, .val (.int af), .val (.int at_), .val (.int fr), .val (.int to), .val (.int x0), .val (.int x1), .val (.int x2), .val (.ref bb), .unset] [(.ref bb)]))
        refine own_st (fun _ k => XS.bipush X9.here hx rfl (hb hby at_149) k) ?_
        show own_Go p e below s _ _ _ (T9.setTop (mkF m 151 #[.val (.int ap), .val (.int asel), .val (.long aq), .second, .val (.int af), .val (.int at_), .val (.int fr), .val (.int to), .val (.int x0), .val (.int x1), .val (.int x2), .val (.ref bb), .unset] [(.int (6 : Int32)), (.ref bb)]))
        refine own_st (fun _ k => XS.lloadN X9.here hx rfl (hb hby at_151) rfl k) ?_
        show own_Go p e below s _ _ _ (T9.setTop (mkF m 152 #[.val (.int ap), .val (.int asel), .val (.long aq), .second, .val (.int af), .val (.int at_), .val (.int fr), .val (.int to), .val (.int x0), .val (.int x1), .val (.int x2), .val (.ref bb), .unset] [(.long aq), (.int (6 : Int32)), (.ref bb)]))
        refine own_st (fun _ k => XS.bipush X9.here hx rfl (hb hby at_152) k) ?_
        show own_Go p e below s _ _ _ (T9.setTop (mkF m 154 #[.val (.int ap), .val (.int asel), .val (.long aq), .second, .val (.int af), .val (.int at_), .val (.int fr), .val (.int to), .val (.int x0), .val (.int x1), .val (.int x2), .val (.ref bb), .unset] [(.int (48 : Int32)), (.long aq), (.int (6 : Int32)), (.ref bb)]))
        refine own_st (fun _ k => XT.lushr X9.here hx rfl (hb hby at_154) rfl k) ?_
        show own_Go p e below s _ _ _ (T9.setTop (mkF m 155 #[.val (.int ap), .val (.int asel), .val (.long aq), .second, .val (.int af), .val (.int at_), .val (.int fr), .val (.int to), .val (.int x0), .val (.int x1), .val (.int x2), .val (.ref bb), .unset] [(.long (XT.ushrL aq (48 : Int32))), (.int (6 : Int32)), (.ref bb)]))
        refine own_st (fun _ k => XS.l2i X9.here hx rfl (hb hby at_155) rfl k) ?_
        show own_Go p e below s _ _ _ (T9.setTop (mkF m 156 #[.val (.int ap), .val (.int asel), .val (.long aq), .second, .val (.int af), .val (.int at_), .val (.int fr), .val (.int to), .val (.int x0), .val (.int x1), .val (.int x2), .val (.ref bb), .unset] [(.int ((XT.ushrL aq (48 : Int32))).toInt32), (.int (6 : Int32)), (.ref bb)]))
        refine own_st (fun _ k => XS.i2b X9.here hx rfl (hb hby at_156) rfl k) ?_
        show own_Go p e below s _ _ _ (T9.setTop (mkF m 157 #[.val (.int ap), .val (.int asel), .val (.long aq), .second, .val (.int af), .val (.int at_), .val (.int fr), .val (.int to), .val (.int x0), .val (.int x1), .val (.int x2), .val (.ref bb), .unset] [(.int (((XT.ushrL aq (48 : Int32))).toInt32).toInt8.toInt32), (.int (6 : Int32)), (.ref bb)]))
        obtain ⟨T10, h10, X10, e10, W10, Vbb_10, st10⟩ := own_stB X9 hx hZ e9 Vbb_9 (i := 6) (by decide) (by decide) (g := (mkF m 157 #[.val (.int ap), .val (.int asel), .val (.long aq), .second, .val (.int af), .val (.int at_), .val (.int fr), .val (.int to), .val (.int x0), .val (.int x1), .val (.int x2), .val (.ref bb), .unset] [(.int (((XT.ushrL aq (48 : Int32))).toInt32).toInt8.toInt32), (.int (6 : Int32)), (.ref bb)])) rfl rfl (hb hby at_157)
        have sz10 := Nat.le_trans sz9 (Keep.of_wr W10).1
        have N10 := Fr.snoc X10 N9 fr_bb
        refine own_st st10 ?_
        show own_Go p e below s _ _ _ (T10.setTop (mkF m 158 #[.val (.int ap), .val (.int asel), .val (.long aq), .second, .val (.int af), .val (.int at_), .val (.int fr), .val (.int to), .val (.int x0), .val (.int x1), .val (.int x2), .val (.ref bb), .unset] []))
        refine own_st (fun _ k => XS.aload X10.here hx rfl (hb hby at_158) rfl rfl k) ?_
        show own_Go p e below s _ _ _ (T10.setTop (mkF m 160 #[.val (.int ap), .val (.int asel), .val (.long aq), .second, .val (.int af), .val (.int at_), .val (.int fr), .val (.int to), .val (.int x0), .val (.int x1), .val (.int x2), .val (.ref bb), .unset] [(.ref bb)]))
        refine own_st (fun _ k => XS.bipush X10.here hx rfl (hb hby at_160) k) ?_
        show own_Go p e below s _ _ _ (T10.setTop (mkF m 162 #[.val (.int ap), .val (.int asel), .val (.long aq), .second, .val (.int af), .val (.int at_), .val (.int fr), .val (.int to), .val (.int x0), .val (.int x1), .val (.int x2), .val (.ref bb), .unset] [(.int (7 : Int32)), (.ref bb)]))
        refine own_st (fun _ k => XS.lloadN X10.here hx rfl (hb hby at_162) rfl k) ?_
        show own_Go p e below s _ _ _ (T10.setTop (mkF m 163 #[.val (.int ap), .val (.int asel), .val (.long aq), .second, .val (.int af), .val (.int at_), .val (.int fr), .val (.int to), .val (.int x0), .val (.int x1), .val (.int x2), .val (.ref bb), .unset] [(.long aq), (.int (7 : Int32)), (.ref bb)]))
        refine own_st (fun _ k => XS.bipush X10.here hx rfl (hb hby at_163) k) ?_
        show own_Go p e below s _ _ _ (T10.setTop (mkF m 165 #[.val (.int ap), .val (.int asel), .val (.long aq), .second, .val (.int af), .val (.int at_), .val (.int fr), .val (.int to), .val (.int x0), .val (.int x1), .val (.int x2), .val (.ref bb), .unset] [(.int (56 : Int32)), (.long aq), (.int (7 : Int32)), (.ref bb)]))
        refine own_st (fun _ k => XT.lushr X10.here hx rfl (hb hby at_165) rfl k) ?_
        show own_Go p e below s _ _ _ (T10.setTop (mkF m 166 #[.val (.int ap), .val (.int asel), .val (.long aq), .second, .val (.int af), .val (.int at_), .val (.int fr), .val (.int to), .val (.int x0), .val (.int x1), .val (.int x2), .val (.ref bb), .unset] [(.long (XT.ushrL aq (56 : Int32))), (.int (7 : Int32)), (.ref bb)]))
        refine own_st (fun _ k => XS.l2i X10.here hx rfl (hb hby at_166) rfl k) ?_
        show own_Go p e below s _ _ _ (T10.setTop (mkF m 167 #[.val (.int ap), .val (.int asel), .val (.long aq), .second, .val (.int af), .val (.int at_), .val (.int fr), .val (.int to), .val (.int x0), .val (.int x1), .val (.int x2), .val (.ref bb), .unset] [(.int ((XT.ushrL aq (56 : Int32))).toInt32), (.int (7 : Int32)), (.ref bb)]))
        refine own_st (fun _ k => XS.i2b X10.here hx rfl (hb hby at_167) rfl k) ?_
        show own_Go p e below s _ _ _ (T10.setTop (mkF m 168 #[.val (.int ap), .val (.int asel), .val (.long aq), .second, .val (.int af), .val (.int at_), .val (.int fr), .val (.int to), .val (.int x0), .val (.int x1), .val (.int x2), .val (.ref bb), .unset] [(.int (((XT.ushrL aq (56 : Int32))).toInt32).toInt8.toInt32), (.int (7 : Int32)), (.ref bb)]))
        obtain ⟨T11, h11, X11, e11, W11, Vbb_11, st11⟩ := own_stB X10 hx hZ e10 Vbb_10 (i := 7) (by decide) (by decide) (g := (mkF m 168 #[.val (.int ap), .val (.int asel), .val (.long aq), .second, .val (.int af), .val (.int at_), .val (.int fr), .val (.int to), .val (.int x0), .val (.int x1), .val (.int x2), .val (.ref bb), .unset] [(.int (((XT.ushrL aq (56 : Int32))).toInt32).toInt8.toInt32), (.int (7 : Int32)), (.ref bb)])) rfl rfl (hb hby at_168)
        have sz11 := Nat.le_trans sz10 (Keep.of_wr W11).1
        have N11 := Fr.snoc X11 N10 fr_bb
        refine own_st st11 ?_
        show own_Go p e below s _ _ _ (T11.setTop (mkF m 169 #[.val (.int ap), .val (.int asel), .val (.long aq), .second, .val (.int af), .val (.int at_), .val (.int fr), .val (.int to), .val (.int x0), .val (.int x1), .val (.int x2), .val (.ref bb), .unset] []))
        obtain ⟨fq, Vbb_11⟩ : ∃ f : Nat → Int32, own_Av Z h11 bb .byte 8 (fun t => .int (f t)) := ⟨_, Vbb_11⟩
        show own_Go p e below s _ _ _ (T11.setTop (mkF m 169 #[.val (.int ap), .val (.int asel), .val (.long aq), .second, .val (.int af), .val (.int at_), .val (.int fr), .val (.int to), .val (.int x0), .val (.int x1), .val (.int x2), .val (.ref bb), .unset] []))
        refine own_st (fun _ k => XS.aload X11.here hx rfl (hb hby at_169) rfl rfl k) ?_
        show own_Go p e below s _ _ _ (T11.setTop (mkF m 171 #[.val (.int ap), .val (.int asel), .val (.long aq), .second, .val (.int af), .val (.int at_), .val (.int fr), .val (.int to), .val (.int x0), .val (.int x1), .val (.int x2), .val (.ref bb), .unset] [(.ref bb)]))
        refine own_st (fun _ k => XS.iload X11.here hx rfl (hb hby at_171) rfl k) ?_
        show own_Go p e below s _ _ _ (T11.setTop (mkF m 173 #[.val (.int ap), .val (.int asel), .val (.long aq), .second, .val (.int af), .val (.int at_), .val (.int fr), .val (.int to), .val (.int x0), .val (.int x1), .val (.int x2), .val (.ref bb), .unset] [(.int fr), (.ref bb)]))
        refine own_st (fun _ k => XS.iload X11.here hx rfl (hb hby at_173) rfl k) ?_
        show own_Go p e below s _ _ _ (T11.setTop (mkF m 175 #[.val (.int ap), .val (.int asel), .val (.long aq), .second, .val (.int af), .val (.int at_), .val (.int fr), .val (.int to), .val (.int x0), .val (.int x1), .val (.int x2), .val (.ref bb), .unset] [(.int x0), (.int fr), (.ref bb)]))
        refine own_st (fun _ k => XS.i2b X11.here hx rfl (hb hby at_175) rfl k) ?_
        show own_Go p e below s _ _ _ (T11.setTop (mkF m 176 #[.val (.int ap), .val (.int asel), .val (.long aq), .second, .val (.int af), .val (.int at_), .val (.int fr), .val (.int to), .val (.int x0), .val (.int x1), .val (.int x2), .val (.ref bb), .unset] [(.int (x0).toInt8.toInt32), (.int fr), (.ref bb)]))
        obtain ⟨T12, h12, X12, e12, W12, Vbb_12, st12⟩ := own_stB X11 hx hZ e11 Vbb_11 (i := i0) hi (by omega) (g := (mkF m 176 #[.val (.int ap), .val (.int asel), .val (.long aq), .second, .val (.int af), .val (.int at_), .val (.int fr), .val (.int to), .val (.int x0), .val (.int x1), .val (.int x2), .val (.ref bb), .unset] [(.int (x0).toInt8.toInt32), (.int fr), (.ref bb)])) rfl rfl (hb hby at_176)
        have sz12 := Nat.le_trans sz11 (Keep.of_wr W12).1
        have N12 := Fr.snoc X12 N11 fr_bb
        refine own_st st12 ?_
        show own_Go p e below s _ _ _ (T12.setTop (mkF m 177 #[.val (.int ap), .val (.int asel), .val (.long aq), .second, .val (.int af), .val (.int at_), .val (.int fr), .val (.int to), .val (.int x0), .val (.int x1), .val (.int x2), .val (.ref bb), .unset] []))
        refine own_st (fun _ k => XS.aload X12.here hx rfl (hb hby at_177) rfl rfl k) ?_
        show own_Go p e below s _ _ _ (T12.setTop (mkF m 179 #[.val (.int ap), .val (.int asel), .val (.long aq), .second, .val (.int af), .val (.int at_), .val (.int fr), .val (.int to), .val (.int x0), .val (.int x1), .val (.int x2), .val (.ref bb), .unset] [(.ref bb)]))
        refine own_st (fun _ k => XS.iload X12.here hx rfl (hb hby at_179) rfl k) ?_
        show own_Go p e below s _ _ _ (T12.setTop (mkF m 181 #[.val (.int ap), .val (.int asel), .val (.long aq), .second, .val (.int af), .val (.int at_), .val (.int fr), .val (.int to), .val (.int x0), .val (.int x1), .val (.int x2), .val (.ref bb), .unset] [(.int fr), (.ref bb)]))
        refine own_st (fun _ k => XS.iconst X12.here hx rfl (hb hby at_181) k) ?_
        show own_Go p e below s _ _ _ (T12.setTop (mkF m 182 #[.val (.int ap), .val (.int asel), .val (.long aq), .second, .val (.int af), .val (.int at_), .val (.int fr), .val (.int to), .val (.int x0), .val (.int x1), .val (.int x2), .val (.ref bb), .unset] [(.int (1 : Int32)), (.int fr), (.ref bb)]))
        refine own_st (fun _ k => XS.iadd X12.here hx rfl (hb hby at_182) rfl k) ?_
        show own_Go p e below s _ _ _ (T12.setTop (mkF m 183 #[.val (.int ap), .val (.int asel), .val (.long aq), .second, .val (.int af), .val (.int at_), .val (.int fr), .val (.int to), .val (.int x0), .val (.int x1), .val (.int x2), .val (.ref bb), .unset] [(.int (fr + (1 : Int32))), (.ref bb)]))
        refine own_st (fun _ k => XS.iload X12.here hx rfl (hb hby at_183) rfl k) ?_
        show own_Go p e below s _ _ _ (T12.setTop (mkF m 185 #[.val (.int ap), .val (.int asel), .val (.long aq), .second, .val (.int af), .val (.int at_), .val (.int fr), .val (.int to), .val (.int x0), .val (.int x1), .val (.int x2), .val (.ref bb), .unset] [(.int x1), (.int (fr + (1 : Int32))), (.ref bb)]))
        refine own_st (fun _ k => XS.i2b X12.here hx rfl (hb hby at_185) rfl k) ?_
        show own_Go p e below s _ _ _ (T12.setTop (mkF m 186 #[.val (.int ap), .val (.int asel), .val (.long aq), .second, .val (.int af), .val (.int at_), .val (.int fr), .val (.int to), .val (.int x0), .val (.int x1), .val (.int x2), .val (.ref bb), .unset] [(.int (x1).toInt8.toInt32), (.int (fr + (1 : Int32))), (.ref bb)]))
        obtain ⟨T13, h13, X13, e13, W13, Vbb_13, st13⟩ := own_stB X12 hx hZ e12 Vbb_12 (i := (i0 + 1)) (own_addN hi (by decide) (by omega)) (by omega) (g := (mkF m 186 #[.val (.int ap), .val (.int asel), .val (.long aq), .second, .val (.int af), .val (.int at_), .val (.int fr), .val (.int to), .val (.int x0), .val (.int x1), .val (.int x2), .val (.ref bb), .unset] [(.int (x1).toInt8.toInt32), (.int (fr + (1 : Int32))), (.ref bb)])) rfl rfl (hb hby at_186)
        have sz13 := Nat.le_trans sz12 (Keep.of_wr W13).1
        have N13 := Fr.snoc X13 N12 fr_bb
        refine own_st st13 ?_
        show own_Go p e below s _ _ _ (T13.setTop (mkF m 187 #[.val (.int ap), .val (.int asel), .val (.long aq), .second, .val (.int af), .val (.int at_), .val (.int fr), .val (.int to), .val (.int x0), .val (.int x1), .val (.int x2), .val (.ref bb), .unset] []))
        refine own_st (fun _ k => XS.aload X13.here hx rfl (hb hby at_187) rfl rfl k) ?_
        show own_Go p e below s _ _ _ (T13.setTop (mkF m 189 #[.val (.int ap), .val (.int asel), .val (.long aq), .second, .val (.int af), .val (.int at_), .val (.int fr), .val (.int to), .val (.int x0), .val (.int x1), .val (.int x2), .val (.ref bb), .unset] [(.ref bb)]))
        refine own_st (fun _ k => XS.iload X13.here hx rfl (hb hby at_189) rfl k) ?_
        show own_Go p e below s _ _ _ (T13.setTop (mkF m 191 #[.val (.int ap), .val (.int asel), .val (.long aq), .second, .val (.int af), .val (.int at_), .val (.int fr), .val (.int to), .val (.int x0), .val (.int x1), .val (.int x2), .val (.ref bb), .unset] [(.int fr), (.ref bb)]))
        refine own_st (fun _ k => XS.iconst X13.here hx rfl (hb hby at_191) k) ?_
        show own_Go p e below s _ _ _ (T13.setTop (mkF m 192 #[.val (.int ap), .val (.int asel), .val (.long aq), .second, .val (.int af), .val (.int at_), .val (.int fr), .val (.int to), .val (.int x0), .val (.int x1), .val (.int x2), .val (.ref bb), .unset] [(.int (2 : Int32)), (.int fr), (.ref bb)]))
        refine own_st (fun _ k => XS.iadd X13.here hx rfl (hb hby at_192) rfl k) ?_
        show own_Go p e below s _ _ _ (T13.setTop (mkF m 193 #[.val (.int ap), .val (.int asel), .val (.long aq), .second, .val (.int af), .val (.int at_), .val (.int fr), .val (.int to), .val (.int x0), .val (.int x1), .val (.int x2), .val (.ref bb), .unset] [(.int (fr + (2 : Int32))), (.ref bb)]))
        refine own_st (fun _ k => XS.iload X13.here hx rfl (hb hby at_193) rfl k) ?_
        show own_Go p e below s _ _ _ (T13.setTop (mkF m 195 #[.val (.int ap), .val (.int asel), .val (.long aq), .second, .val (.int af), .val (.int at_), .val (.int fr), .val (.int to), .val (.int x0), .val (.int x1), .val (.int x2), .val (.ref bb), .unset] [(.int x2), (.int (fr + (2 : Int32))), (.ref bb)]))
        refine own_st (fun _ k => XS.i2b X13.here hx rfl (hb hby at_195) rfl k) ?_
        show own_Go p e below s _ _ _ (T13.setTop (mkF m 196 #[.val (.int ap), .val (.int asel), .val (.long aq), .second, .val (.int af), .val (.int at_), .val (.int fr), .val (.int to), .val (.int x0), .val (.int x1), .val (.int x2), .val (.ref bb), .unset] [(.int (x2).toInt8.toInt32), (.int (fr + (2 : Int32))), (.ref bb)]))
        obtain ⟨T14, h14, X14, e14, W14, Vbb_14, st14⟩ := own_stB X13 hx hZ e13 Vbb_13 (i := (i0 + 2)) (own_addN hi (by decide) (by omega)) (by omega) (g := (mkF m 196 #[.val (.int ap), .val (.int asel), .val (.long aq), .second, .val (.int af), .val (.int at_), .val (.int fr), .val (.int to), .val (.int x0), .val (.int x1), .val (.int x2), .val (.ref bb), .unset] [(.int (x2).toInt8.toInt32), (.int (fr + (2 : Int32))), (.ref bb)])) rfl rfl (hb hby at_196)
        have sz14 := Nat.le_trans sz13 (Keep.of_wr W14).1
        have N14 := Fr.snoc X14 N13 fr_bb
        refine own_st st14 ?_
        show own_Go p e below s _ _ _ (T14.setTop (mkF m 197 #[.val (.int ap), .val (.int asel), .val (.long aq), .second, .val (.int af), .val (.int at_), .val (.int fr), .val (.int to), .val (.int x0), .val (.int x1), .val (.int x2), .val (.ref bb), .unset] []))
        refine own_st (fun _ k => XS.iload X14.here hx rfl (hb hby at_197) rfl k) ?_
        show own_Go p e below s _ _ _ (T14.setTop (mkF m 199 #[.val (.int ap), .val (.int asel), .val (.long aq), .second, .val (.int af), .val (.int at_), .val (.int fr), .val (.int to), .val (.int x0), .val (.int x1), .val (.int x2), .val (.ref bb), .unset] [(.int to)]))
        refine own_st (fun _ k => XS.iload X14.here hx rfl (hb hby at_199) rfl k) ?_
        show own_Go p e below s _ _ _ (T14.setTop (mkF m 201 #[.val (.int ap), .val (.int asel), .val (.long aq), .second, .val (.int af), .val (.int at_), .val (.int fr), .val (.int to), .val (.int x0), .val (.int x1), .val (.int x2), .val (.ref bb), .unset] [(.int fr), (.int to)]))
        refine own_st (fun _ k => XS.isub X14.here hx rfl (hb hby at_201) rfl k) ?_
        show own_Go p e below s _ _ _ (T14.setTop (mkF m 202 #[.val (.int ap), .val (.int asel), .val (.long aq), .second, .val (.int af), .val (.int at_), .val (.int fr), .val (.int to), .val (.int x0), .val (.int x1), .val (.int x2), .val (.ref bb), .unset] [(.int (to - fr))]))
        refine own_st (fun _ k => XS.iconst X14.here hx rfl (hb hby at_202) k) ?_
        show own_Go p e below s _ _ _ (T14.setTop (mkF m 203 #[.val (.int ap), .val (.int asel), .val (.long aq), .second, .val (.int af), .val (.int at_), .val (.int fr), .val (.int to), .val (.int x0), .val (.int x1), .val (.int x2), .val (.ref bb), .unset] [(.int (3 : Int32)), (.int (to - fr))]))
        rcases Classical.em ((to - fr) < (3 : Int32)) with c1 | c1
        · show own_Go p e below s _ _ _ (T14.setTop (mkF m 203 #[.val (.int ap), .val (.int asel), .val (.long aq), .second, .val (.int af), .val (.int at_), .val (.int fr), .val (.int to), .val (.int x0), .val (.int x1), .val (.int x2), .val (.ref bb), .unset] [(.int (3 : Int32)), (.int (to - fr))]))
          refine own_st (fun _ k => XS.icmpYes X14.here hx rfl (pc0 := 203) (pc' := 234) rfl (hb hby at_203) rfl (tlt c1).1 (by decide) (by decide) k) ?_
          show own_Go p e below s _ _ _ (T14.setTop (mkF m 234 #[.val (.int ap), .val (.int asel), .val (.long aq), .second, .val (.int af), .val (.int at_), .val (.int fr), .val (.int to), .val (.int x0), .val (.int x1), .val (.int x2), .val (.ref bb), .unset] []))
          refine own_st (fun _ k => XS.iconst X14.here hx rfl (hb hby at_234) k) ?_
          show own_Go p e below s _ _ _ (T14.setTop (mkF m 235 #[.val (.int ap), .val (.int asel), .val (.long aq), .second, .val (.int af), .val (.int at_), .val (.int fr), .val (.int to), .val (.int x0), .val (.int x1), .val (.int x2), .val (.ref bb), .unset] [(.int (0 : Int32))]))
          refine own_st (fun _ k => XS.istore X14.here hx rfl (hb hby at_235) rfl (l' := #[.val (.int ap), .val (.int asel), .val (.long aq), .second, .val (.int af), .val (.int at_), .val (.int fr), .val (.int to), .val (.int x0), .val (.int x1), .val (.int x2), .val (.ref bb), .val (.int (0 : Int32))]) rfl k) ?_
          show own_Go p e below s _ _ _ (T14.setTop (mkF m 237 #[.val (.int ap), .val (.int asel), .val (.long aq), .second, .val (.int af), .val (.int at_), .val (.int fr), .val (.int to), .val (.int x0), .val (.int x1), .val (.int x2), .val (.ref bb), .val (.int (0 : Int32))] []))
          refine own_st (fun _ k => XS.aload X14.here hx rfl (hb hby at_237) rfl rfl k) ?_
          show own_Go p e below s _ _ _ (T14.setTop (mkF m 239 #[.val (.int ap), .val (.int asel), .val (.long aq), .second, .val (.int af), .val (.int at_), .val (.int fr), .val (.int to), .val (.int x0), .val (.int x1), .val (.int x2), .val (.ref bb), .val (.int (0 : Int32))] [(.ref bb)]))
          refine own_st (fun _ k => XS.iload X14.here hx rfl (hb hby at_239) rfl k) ?_
          show own_Go p e below s _ _ _ (T14.setTop (mkF m 241 #[.val (.int ap), .val (.int asel), .val (.long aq), .second, .val (.int af), .val (.int at_), .val (.int fr), .val (.int to), .val (.int x0), .val (.int x1), .val (.int x2), .val (.ref bb), .val (.int (0 : Int32))] [(.int fr), (.ref bb)]))
          refine own_st (fun _ k => XS.iload X14.here hx rfl (hb hby at_241) rfl k) ?_
          show own_Go p e below s _ _ _ (T14.setTop (mkF m 243 #[.val (.int ap), .val (.int asel), .val (.long aq), .second, .val (.int af), .val (.int at_), .val (.int fr), .val (.int to), .val (.int x0), .val (.int x1), .val (.int x2), .val (.ref bb), .val (.int (0 : Int32))] [(.int to), (.int fr), (.ref bb)]))
          refine own_cS X14 hx hml hZ hown (hw _ (List.mem_of_getElem? (i := 5) rfl)) (hw _ (List.mem_of_getElem? (i := 6) rfl)) (hw _ (List.mem_of_getElem? (i := 7) rfl)) (hw _ (List.mem_of_getElem? (i := 8) rfl)) (by decide) (own_rm2 l Z a0 hw bb fr to _ i0 (nar .byte ((x0).toInt8.toInt32)) (nar .byte ((x1).toInt8.toInt32)) (nar .byte ((x2).toInt8.toInt32)) h14 n0 sz14 Vbb_14 hi (by omega) (by rw [if_neg (by omega), if_neg (by omega), if_pos rfl]) (by rw [if_neg (by omega), if_pos rfl]) (by rw [if_pos rfl])) e14 (by decide) (W := 0) (by decide) (g := (mkF m 243 #[.val (.int ap), .val (.int asel), .val (.long aq), .second, .val (.int af), .val (.int at_), .val (.int fr), .val (.int to), .val (.int x0), .val (.int x1), .val (.int x2), .val (.ref bb), .val (.int (0 : Int32))] [(.int to), (.int fr), (.ref bb)])) rfl rfl own_pd1 (argsL := [(.ref bb), (.int fr), (.int to)]) (rest := []) rfl rfl rfl (by show 2 * 0 + _ ≤ _; exact Nat.le_of_eq rfl) (hb hby at_243) (by decide) (by decide) ?_
          intro T15 L15 v15 X15 hQ15
          obtain ⟨rfl, eh15, le15⟩ := hQ15
          have N15 := own_nil N14 le15
          show own_Go p e below s _ _ _ (T15.setTop (mkF m 246 #[.val (.int ap), .val (.int asel), .val (.long aq), .second, .val (.int af), .val (.int at_), .val (.int fr), .val (.int to), .val (.int x0), .val (.int x1), .val (.int x2), .val (.ref bb), .val (.int (0 : Int32))] [(.int (own_bom (to - fr) (nar .byte ((x0).toInt8.toInt32)) (nar .byte ((x1).toInt8.toInt32)) (nar .byte ((x2).toInt8.toInt32))))]))
          refine own_st (fun _ k => XS.iload X15.here hx rfl (hb hby at_246) rfl k) ?_
          show own_Go p e below s _ _ _ (T15.setTop (mkF m 248 #[.val (.int ap), .val (.int asel), .val (.long aq), .second, .val (.int af), .val (.int at_), .val (.int fr), .val (.int to), .val (.int x0), .val (.int x1), .val (.int x2), .val (.ref bb), .val (.int (0 : Int32))] [(.int (0 : Int32)), (.int (own_bom (to - fr) (nar .byte ((x0).toInt8.toInt32)) (nar .byte ((x1).toInt8.toInt32)) (nar .byte ((x2).toInt8.toInt32))))]))
          refine own_st (fun _ k => XS.icmpNo X15.here hx rfl (hb hby at_248) rfl (teq (own_bom0 (by rintro ⟨r1, r2, r3, r4⟩; exact r1 c1))).2 k) ?_
          show own_Go p e below s _ _ _ (T15.setTop (mkF m 251 #[.val (.int ap), .val (.int asel), .val (.long aq), .second, .val (.int af), .val (.int at_), .val (.int fr), .val (.int to), .val (.int x0), .val (.int x1), .val (.int x2), .val (.ref bb), .val (.int (0 : Int32))] []))
          refine own_st (fun _ k => XS.iconst X15.here hx rfl (hb hby at_251) k) ?_
          show own_Go p e below s _ _ _ (T15.setTop (mkF m 252 #[.val (.int ap), .val (.int asel), .val (.long aq), .second, .val (.int af), .val (.int at_), .val (.int fr), .val (.int to), .val (.int x0), .val (.int x1), .val (.int x2), .val (.ref bb), .val (.int (0 : Int32))] [(.int (1 : Int32))]))
          refine own_st (fun _ k => XS.goto X15.here hx rfl (pc0 := 252) (pc' := 256) rfl (hb hby at_252) (by decide) (by decide) k) ?_
          show own_Go p e below s _ _ _ (T15.setTop (mkF m 256 #[.val (.int ap), .val (.int asel), .val (.long aq), .second, .val (.int af), .val (.int at_), .val (.int fr), .val (.int to), .val (.int x0), .val (.int x1), .val (.int x2), .val (.ref bb), .val (.int (0 : Int32))] [(.int (1 : Int32))]))
          exact own_endN X15 hx hlk (t := .boolean) hret (by simp) (hb hby at_256) (w := (1 : Int32)) (by decide) ⟨rfl, N15⟩ (by decide) (by decide)
        · show own_Go p e below s _ _ _ (T14.setTop (mkF m 203 #[.val (.int ap), .val (.int asel), .val (.long aq), .second, .val (.int af), .val (.int at_), .val (.int fr), .val (.int to), .val (.int x0), .val (.int x1), .val (.int x2), .val (.ref bb), .unset] [(.int (3 : Int32)), (.int (to - fr))]))
          refine own_st (fun _ k => XS.icmpNo X14.here hx rfl (hb hby at_203) rfl (flt c1).1 k) ?_
          show own_Go p e below s _ _ _ (T14.setTop (mkF m 206 #[.val (.int ap), .val (.int asel), .val (.long aq), .second, .val (.int af), .val (.int at_), .val (.int fr), .val (.int to), .val (.int x0), .val (.int x1), .val (.int x2), .val (.ref bb), .unset] []))
          refine own_st (fun _ k => XS.iload X14.here hx rfl (hb hby at_206) rfl k) ?_
          show own_Go p e below s _ _ _ (T14.setTop (mkF m 208 #[.val (.int ap), .val (.int asel), .val (.long aq), .second, .val (.int af), .val (.int at_), .val (.int fr), .val (.int to), .val (.int x0), .val (.int x1), .val (.int x2), .val (.ref bb), .unset] [(.int x0)]))
          refine own_st (fun _ k => XS.sipush X14.here hx rfl (hb hby at_208) k) ?_
          show own_Go p e below s _ _ _ (T14.setTop (mkF m 211 #[.val (.int ap), .val (.int asel), .val (.long aq), .second, .val (.int af), .val (.int at_), .val (.int fr), .val (.int to), .val (.int x0), .val (.int x1), .val (.int x2), .val (.ref bb), .unset] [(.int (239 : Int32)), (.int x0)]))
          rcases Classical.em (x0 = (239 : Int32)) with c2 | c2
          · show own_Go p e below s _ _ _ (T14.setTop (mkF m 211 #[.val (.int ap), .val (.int asel), .val (.long aq), .second, .val (.int af), .val (.int at_), .val (.int fr), .val (.int to), .val (.int x0), .val (.int x1), .val (.int x2), .val (.ref bb), .unset] [(.int (239 : Int32)), (.int x0)]))
            refine own_st (fun _ k => XS.icmpNo X14.here hx rfl (hb hby at_211) rfl (teq c2).2 k) ?_
            show own_Go p e below s _ _ _ (T14.setTop (mkF m 214 #[.val (.int ap), .val (.int asel), .val (.long aq), .second, .val (.int af), .val (.int at_), .val (.int fr), .val (.int to), .val (.int x0), .val (.int x1), .val (.int x2), .val (.ref bb), .unset] []))
            refine own_st (fun _ k => XS.iload X14.here hx rfl (hb hby at_214) rfl k) ?_
            show own_Go p e below s _ _ _ (T14.setTop (mkF m 216 #[.val (.int ap), .val (.int asel), .val (.long aq), .second, .val (.int af), .val (.int at_), .val (.int fr), .val (.int to), .val (.int x0), .val (.int x1), .val (.int x2), .val (.ref bb), .unset] [(.int x1)]))
            refine own_st (fun _ k => XS.sipush X14.here hx rfl (hb hby at_216) k) ?_
            show own_Go p e below s _ _ _ (T14.setTop (mkF m 219 #[.val (.int ap), .val (.int asel), .val (.long aq), .second, .val (.int af), .val (.int at_), .val (.int fr), .val (.int to), .val (.int x0), .val (.int x1), .val (.int x2), .val (.ref bb), .unset] [(.int (187 : Int32)), (.int x1)]))
            rcases Classical.em (x1 = (187 : Int32)) with c3 | c3
            · show own_Go p e below s _ _ _ (T14.setTop (mkF m 219 #[.val (.int ap), .val (.int asel), .val (.long aq), .second, .val (.int af), .val (.int at_), .val (.int fr), .val (.int to), .val (.int x0), .val (.int x1), .val (.int x2), .val (.ref bb), .unset] [(.int (187 : Int32)), (.int x1)]))
              refine own_st (fun _ k => XS.icmpNo X14.here hx rfl (hb hby at_219) rfl (teq c3).2 k) ?_
              show own_Go p e below s _ _ _ (T14.setTop (mkF m 222 #[.val (.int ap), .val (.int asel), .val (.long aq), .second, .val (.int af), .val (.int at_), .val (.int fr), .val (.int to), .val (.int x0), .val (.int x1), .val (.int x2), .val (.ref bb), .unset] []))
              refine own_st (fun _ k => XS.iload X14.here hx rfl (hb hby at_222) rfl k) ?_
              show own_Go p e below s _ _ _ (T14.setTop (mkF m 224 #[.val (.int ap), .val (.int asel), .val (.long aq), .second, .val (.int af), .val (.int at_), .val (.int fr), .val (.int to), .val (.int x0), .val (.int x1), .val (.int x2), .val (.ref bb), .unset] [(.int x2)]))
              refine own_st (fun _ k => XS.sipush X14.here hx rfl (hb hby at_224) k) ?_
              show own_Go p e below s _ _ _ (T14.setTop (mkF m 227 #[.val (.int ap), .val (.int asel), .val (.long aq), .second, .val (.int af), .val (.int at_), .val (.int fr), .val (.int to), .val (.int x0), .val (.int x1), .val (.int x2), .val (.ref bb), .unset] [(.int (191 : Int32)), (.int x2)]))
              rcases Classical.em (x2 = (191 : Int32)) with c4 | c4
              · show own_Go p e below s _ _ _ (T14.setTop (mkF m 227 #[.val (.int ap), .val (.int asel), .val (.long aq), .second, .val (.int af), .val (.int at_), .val (.int fr), .val (.int to), .val (.int x0), .val (.int x1), .val (.int x2), .val (.ref bb), .unset] [(.int (191 : Int32)), (.int x2)]))
                refine own_st (fun _ k => XS.icmpNo X14.here hx rfl (hb hby at_227) rfl (teq c4).2 k) ?_
                show own_Go p e below s _ _ _ (T14.setTop (mkF m 230 #[.val (.int ap), .val (.int asel), .val (.long aq), .second, .val (.int af), .val (.int at_), .val (.int fr), .val (.int to), .val (.int x0), .val (.int x1), .val (.int x2), .val (.ref bb), .unset] []))
                refine own_st (fun _ k => XS.iconst X14.here hx rfl (hb hby at_230) k) ?_
                show own_Go p e below s _ _ _ (T14.setTop (mkF m 231 #[.val (.int ap), .val (.int asel), .val (.long aq), .second, .val (.int af), .val (.int at_), .val (.int fr), .val (.int to), .val (.int x0), .val (.int x1), .val (.int x2), .val (.ref bb), .unset] [(.int (1 : Int32))]))
                refine own_st (fun _ k => XS.goto X14.here hx rfl (pc0 := 231) (pc' := 235) rfl (hb hby at_231) (by decide) (by decide) k) ?_
                show own_Go p e below s _ _ _ (T14.setTop (mkF m 235 #[.val (.int ap), .val (.int asel), .val (.long aq), .second, .val (.int af), .val (.int at_), .val (.int fr), .val (.int to), .val (.int x0), .val (.int x1), .val (.int x2), .val (.ref bb), .unset] [(.int (1 : Int32))]))
                refine own_st (fun _ k => XS.istore X14.here hx rfl (hb hby at_235) rfl (l' := #[.val (.int ap), .val (.int asel), .val (.long aq), .second, .val (.int af), .val (.int at_), .val (.int fr), .val (.int to), .val (.int x0), .val (.int x1), .val (.int x2), .val (.ref bb), .val (.int (1 : Int32))]) rfl k) ?_
                show own_Go p e below s _ _ _ (T14.setTop (mkF m 237 #[.val (.int ap), .val (.int asel), .val (.long aq), .second, .val (.int af), .val (.int at_), .val (.int fr), .val (.int to), .val (.int x0), .val (.int x1), .val (.int x2), .val (.ref bb), .val (.int (1 : Int32))] []))
                refine own_st (fun _ k => XS.aload X14.here hx rfl (hb hby at_237) rfl rfl k) ?_
                show own_Go p e below s _ _ _ (T14.setTop (mkF m 239 #[.val (.int ap), .val (.int asel), .val (.long aq), .second, .val (.int af), .val (.int at_), .val (.int fr), .val (.int to), .val (.int x0), .val (.int x1), .val (.int x2), .val (.ref bb), .val (.int (1 : Int32))] [(.ref bb)]))
                refine own_st (fun _ k => XS.iload X14.here hx rfl (hb hby at_239) rfl k) ?_
                show own_Go p e below s _ _ _ (T14.setTop (mkF m 241 #[.val (.int ap), .val (.int asel), .val (.long aq), .second, .val (.int af), .val (.int at_), .val (.int fr), .val (.int to), .val (.int x0), .val (.int x1), .val (.int x2), .val (.ref bb), .val (.int (1 : Int32))] [(.int fr), (.ref bb)]))
                refine own_st (fun _ k => XS.iload X14.here hx rfl (hb hby at_241) rfl k) ?_
                show own_Go p e below s _ _ _ (T14.setTop (mkF m 243 #[.val (.int ap), .val (.int asel), .val (.long aq), .second, .val (.int af), .val (.int at_), .val (.int fr), .val (.int to), .val (.int x0), .val (.int x1), .val (.int x2), .val (.ref bb), .val (.int (1 : Int32))] [(.int to), (.int fr), (.ref bb)]))
                refine own_cS X14 hx hml hZ hown (hw _ (List.mem_of_getElem? (i := 5) rfl)) (hw _ (List.mem_of_getElem? (i := 6) rfl)) (hw _ (List.mem_of_getElem? (i := 7) rfl)) (hw _ (List.mem_of_getElem? (i := 8) rfl)) (by decide) (own_rm2 l Z a0 hw bb fr to _ i0 (nar .byte ((x0).toInt8.toInt32)) (nar .byte ((x1).toInt8.toInt32)) (nar .byte ((x2).toInt8.toInt32)) h14 n0 sz14 Vbb_14 hi (by omega) (by rw [if_neg (by omega), if_neg (by omega), if_pos rfl]) (by rw [if_neg (by omega), if_pos rfl]) (by rw [if_pos rfl])) e14 (by decide) (W := 0) (by decide) (g := (mkF m 243 #[.val (.int ap), .val (.int asel), .val (.long aq), .second, .val (.int af), .val (.int at_), .val (.int fr), .val (.int to), .val (.int x0), .val (.int x1), .val (.int x2), .val (.ref bb), .val (.int (1 : Int32))] [(.int to), (.int fr), (.ref bb)])) rfl rfl own_pd1 (argsL := [(.ref bb), (.int fr), (.int to)]) (rest := []) rfl rfl rfl (by show 2 * 0 + _ ≤ _; exact Nat.le_of_eq rfl) (hb hby at_243) (by decide) (by decide) ?_
                intro T19 L19 v19 X19 hQ19
                obtain ⟨rfl, eh19, le19⟩ := hQ19
                have N19 := own_nil N14 le19
                show own_Go p e below s _ _ _ (T19.setTop (mkF m 246 #[.val (.int ap), .val (.int asel), .val (.long aq), .second, .val (.int af), .val (.int at_), .val (.int fr), .val (.int to), .val (.int x0), .val (.int x1), .val (.int x2), .val (.ref bb), .val (.int (1 : Int32))] [(.int (own_bom (to - fr) (nar .byte ((x0).toInt8.toInt32)) (nar .byte ((x1).toInt8.toInt32)) (nar .byte ((x2).toInt8.toInt32))))]))
                refine own_st (fun _ k => XS.iload X19.here hx rfl (hb hby at_246) rfl k) ?_
                show own_Go p e below s _ _ _ (T19.setTop (mkF m 248 #[.val (.int ap), .val (.int asel), .val (.long aq), .second, .val (.int af), .val (.int at_), .val (.int fr), .val (.int to), .val (.int x0), .val (.int x1), .val (.int x2), .val (.ref bb), .val (.int (1 : Int32))] [(.int (1 : Int32)), (.int (own_bom (to - fr) (nar .byte ((x0).toInt8.toInt32)) (nar .byte ((x1).toInt8.toInt32)) (nar .byte ((x2).toInt8.toInt32))))]))
                refine own_st (fun _ k => XS.icmpNo X19.here hx rfl (hb hby at_248) rfl (teq (own_bom1 ⟨c1, (own_byc lx0 ux0 239 (-17) (by decide) (by decide) (by decide)).mpr c2, (own_byc lx1 ux1 187 (-69) (by decide) (by decide) (by decide)).mpr c3, (own_byc lx2 ux2 191 (-65) (by decide) (by decide) (by decide)).mpr c4⟩)).2 k) ?_
                show own_Go p e below s _ _ _ (T19.setTop (mkF m 251 #[.val (.int ap), .val (.int asel), .val (.long aq), .second, .val (.int af), .val (.int at_), .val (.int fr), .val (.int to), .val (.int x0), .val (.int x1), .val (.int x2), .val (.ref bb), .val (.int (1 : Int32))] []))
                refine own_st (fun _ k => XS.iconst X19.here hx rfl (hb hby at_251) k) ?_
                show own_Go p e below s _ _ _ (T19.setTop (mkF m 252 #[.val (.int ap), .val (.int asel), .val (.long aq), .second, .val (.int af), .val (.int at_), .val (.int fr), .val (.int to), .val (.int x0), .val (.int x1), .val (.int x2), .val (.ref bb), .val (.int (1 : Int32))] [(.int (1 : Int32))]))
                refine own_st (fun _ k => XS.goto X19.here hx rfl (pc0 := 252) (pc' := 256) rfl (hb hby at_252) (by decide) (by decide) k) ?_
                show own_Go p e below s _ _ _ (T19.setTop (mkF m 256 #[.val (.int ap), .val (.int asel), .val (.long aq), .second, .val (.int af), .val (.int at_), .val (.int fr), .val (.int to), .val (.int x0), .val (.int x1), .val (.int x2), .val (.ref bb), .val (.int (1 : Int32))] [(.int (1 : Int32))]))
                exact own_endN X19 hx hlk (t := .boolean) hret (by simp) (hb hby at_256) (w := (1 : Int32)) (by decide) ⟨rfl, N19⟩ (by decide) (by decide)
              · show own_Go p e below s _ _ _ (T14.setTop (mkF m 227 #[.val (.int ap), .val (.int asel), .val (.long aq), .second, .val (.int af), .val (.int at_), .val (.int fr), .val (.int to), .val (.int x0), .val (.int x1), .val (.int x2), .val (.ref bb), .unset] [(.int (191 : Int32)), (.int x2)]))
                refine own_st (fun _ k => XS.icmpYes X14.here hx rfl (pc0 := 227) (pc' := 234) rfl (hb hby at_227) rfl (feq c4).2 (by decide) (by decide) k) ?_
                show own_Go p e below s _ _ _ (T14.setTop (mkF m 234 #[.val (.int ap), .val (.int asel), .val (.long aq), .second, .val (.int af), .val (.int at_), .val (.int fr), .val (.int to), .val (.int x0), .val (.int x1), .val (.int x2), .val (.ref bb), .unset] []))
                refine own_st (fun _ k => XS.iconst X14.here hx rfl (hb hby at_234) k) ?_
                show own_Go p e below s _ _ _ (T14.setTop (mkF m 235 #[.val (.int ap), .val (.int asel), .val (.long aq), .second, .val (.int af), .val (.int at_), .val (.int fr), .val (.int to), .val (.int x0), .val (.int x1), .val (.int x2), .val (.ref bb), .unset] [(.int (0 : Int32))]))
                refine own_st (fun _ k => XS.istore X14.here hx rfl (hb hby at_235) rfl (l' := #[.val (.int ap), .val (.int asel), .val (.long aq), .second, .val (.int af), .val (.int at_), .val (.int fr), .val (.int to), .val (.int x0), .val (.int x1), .val (.int x2), .val (.ref bb), .val (.int (0 : Int32))]) rfl k) ?_
                show own_Go p e below s _ _ _ (T14.setTop (mkF m 237 #[.val (.int ap), .val (.int asel), .val (.long aq), .second, .val (.int af), .val (.int at_), .val (.int fr), .val (.int to), .val (.int x0), .val (.int x1), .val (.int x2), .val (.ref bb), .val (.int (0 : Int32))] []))
                refine own_st (fun _ k => XS.aload X14.here hx rfl (hb hby at_237) rfl rfl k) ?_
                show own_Go p e below s _ _ _ (T14.setTop (mkF m 239 #[.val (.int ap), .val (.int asel), .val (.long aq), .second, .val (.int af), .val (.int at_), .val (.int fr), .val (.int to), .val (.int x0), .val (.int x1), .val (.int x2), .val (.ref bb), .val (.int (0 : Int32))] [(.ref bb)]))
                refine own_st (fun _ k => XS.iload X14.here hx rfl (hb hby at_239) rfl k) ?_
                show own_Go p e below s _ _ _ (T14.setTop (mkF m 241 #[.val (.int ap), .val (.int asel), .val (.long aq), .second, .val (.int af), .val (.int at_), .val (.int fr), .val (.int to), .val (.int x0), .val (.int x1), .val (.int x2), .val (.ref bb), .val (.int (0 : Int32))] [(.int fr), (.ref bb)]))
                refine own_st (fun _ k => XS.iload X14.here hx rfl (hb hby at_241) rfl k) ?_
                show own_Go p e below s _ _ _ (T14.setTop (mkF m 243 #[.val (.int ap), .val (.int asel), .val (.long aq), .second, .val (.int af), .val (.int at_), .val (.int fr), .val (.int to), .val (.int x0), .val (.int x1), .val (.int x2), .val (.ref bb), .val (.int (0 : Int32))] [(.int to), (.int fr), (.ref bb)]))
                refine own_cS X14 hx hml hZ hown (hw _ (List.mem_of_getElem? (i := 5) rfl)) (hw _ (List.mem_of_getElem? (i := 6) rfl)) (hw _ (List.mem_of_getElem? (i := 7) rfl)) (hw _ (List.mem_of_getElem? (i := 8) rfl)) (by decide) (own_rm2 l Z a0 hw bb fr to _ i0 (nar .byte ((x0).toInt8.toInt32)) (nar .byte ((x1).toInt8.toInt32)) (nar .byte ((x2).toInt8.toInt32)) h14 n0 sz14 Vbb_14 hi (by omega) (by rw [if_neg (by omega), if_neg (by omega), if_pos rfl]) (by rw [if_neg (by omega), if_pos rfl]) (by rw [if_pos rfl])) e14 (by decide) (W := 0) (by decide) (g := (mkF m 243 #[.val (.int ap), .val (.int asel), .val (.long aq), .second, .val (.int af), .val (.int at_), .val (.int fr), .val (.int to), .val (.int x0), .val (.int x1), .val (.int x2), .val (.ref bb), .val (.int (0 : Int32))] [(.int to), (.int fr), (.ref bb)])) rfl rfl own_pd1 (argsL := [(.ref bb), (.int fr), (.int to)]) (rest := []) rfl rfl rfl (by show 2 * 0 + _ ≤ _; exact Nat.le_of_eq rfl) (hb hby at_243) (by decide) (by decide) ?_
                intro T18 L18 v18 X18 hQ18
                obtain ⟨rfl, eh18, le18⟩ := hQ18
                have N18 := own_nil N14 le18
                show own_Go p e below s _ _ _ (T18.setTop (mkF m 246 #[.val (.int ap), .val (.int asel), .val (.long aq), .second, .val (.int af), .val (.int at_), .val (.int fr), .val (.int to), .val (.int x0), .val (.int x1), .val (.int x2), .val (.ref bb), .val (.int (0 : Int32))] [(.int (own_bom (to - fr) (nar .byte ((x0).toInt8.toInt32)) (nar .byte ((x1).toInt8.toInt32)) (nar .byte ((x2).toInt8.toInt32))))]))
                refine own_st (fun _ k => XS.iload X18.here hx rfl (hb hby at_246) rfl k) ?_
                show own_Go p e below s _ _ _ (T18.setTop (mkF m 248 #[.val (.int ap), .val (.int asel), .val (.long aq), .second, .val (.int af), .val (.int at_), .val (.int fr), .val (.int to), .val (.int x0), .val (.int x1), .val (.int x2), .val (.ref bb), .val (.int (0 : Int32))] [(.int (0 : Int32)), (.int (own_bom (to - fr) (nar .byte ((x0).toInt8.toInt32)) (nar .byte ((x1).toInt8.toInt32)) (nar .byte ((x2).toInt8.toInt32))))]))
                refine own_st (fun _ k => XS.icmpNo X18.here hx rfl (hb hby at_248) rfl (teq (own_bom0 (by rintro ⟨r1, r2, r3, r4⟩; exact c4 ((own_byc lx2 ux2 191 (-65) (by decide) (by decide) (by decide)).mp r4)))).2 k) ?_
                show own_Go p e below s _ _ _ (T18.setTop (mkF m 251 #[.val (.int ap), .val (.int asel), .val (.long aq), .second, .val (.int af), .val (.int at_), .val (.int fr), .val (.int to), .val (.int x0), .val (.int x1), .val (.int x2), .val (.ref bb), .val (.int (0 : Int32))] []))
                refine own_st (fun _ k => XS.iconst X18.here hx rfl (hb hby at_251) k) ?_
                show own_Go p e below s _ _ _ (T18.setTop (mkF m 252 #[.val (.int ap), .val (.int asel), .val (.long aq), .second, .val (.int af), .val (.int at_), .val (.int fr), .val (.int to), .val (.int x0), .val (.int x1), .val (.int x2), .val (.ref bb), .val (.int (0 : Int32))] [(.int (1 : Int32))]))
                refine own_st (fun _ k => XS.goto X18.here hx rfl (pc0 := 252) (pc' := 256) rfl (hb hby at_252) (by decide) (by decide) k) ?_
                show own_Go p e below s _ _ _ (T18.setTop (mkF m 256 #[.val (.int ap), .val (.int asel), .val (.long aq), .second, .val (.int af), .val (.int at_), .val (.int fr), .val (.int to), .val (.int x0), .val (.int x1), .val (.int x2), .val (.ref bb), .val (.int (0 : Int32))] [(.int (1 : Int32))]))
                exact own_endN X18 hx hlk (t := .boolean) hret (by simp) (hb hby at_256) (w := (1 : Int32)) (by decide) ⟨rfl, N18⟩ (by decide) (by decide)
            · show own_Go p e below s _ _ _ (T14.setTop (mkF m 219 #[.val (.int ap), .val (.int asel), .val (.long aq), .second, .val (.int af), .val (.int at_), .val (.int fr), .val (.int to), .val (.int x0), .val (.int x1), .val (.int x2), .val (.ref bb), .unset] [(.int (187 : Int32)), (.int x1)]))
              refine own_st (fun _ k => XS.icmpYes X14.here hx rfl (pc0 := 219) (pc' := 234) rfl (hb hby at_219) rfl (feq c3).2 (by decide) (by decide) k) ?_
              show own_Go p e below s _ _ _ (T14.setTop (mkF m 234 #[.val (.int ap), .val (.int asel), .val (.long aq), .second, .val (.int af), .val (.int at_), .val (.int fr), .val (.int to), .val (.int x0), .val (.int x1), .val (.int x2), .val (.ref bb), .unset] []))
              refine own_st (fun _ k => XS.iconst X14.here hx rfl (hb hby at_234) k) ?_
              show own_Go p e below s _ _ _ (T14.setTop (mkF m 235 #[.val (.int ap), .val (.int asel), .val (.long aq), .second, .val (.int af), .val (.int at_), .val (.int fr), .val (.int to), .val (.int x0), .val (.int x1), .val (.int x2), .val (.ref bb), .unset] [(.int (0 : Int32))]))
              refine own_st (fun _ k => XS.istore X14.here hx rfl (hb hby at_235) rfl (l' := #[.val (.int ap), .val (.int asel), .val (.long aq), .second, .val (.int af), .val (.int at_), .val (.int fr), .val (.int to), .val (.int x0), .val (.int x1), .val (.int x2), .val (.ref bb), .val (.int (0 : Int32))]) rfl k) ?_
              show own_Go p e below s _ _ _ (T14.setTop (mkF m 237 #[.val (.int ap), .val (.int asel), .val (.long aq), .second, .val (.int af), .val (.int at_), .val (.int fr), .val (.int to), .val (.int x0), .val (.int x1), .val (.int x2), .val (.ref bb), .val (.int (0 : Int32))] []))
              refine own_st (fun _ k => XS.aload X14.here hx rfl (hb hby at_237) rfl rfl k) ?_
              show own_Go p e below s _ _ _ (T14.setTop (mkF m 239 #[.val (.int ap), .val (.int asel), .val (.long aq), .second, .val (.int af), .val (.int at_), .val (.int fr), .val (.int to), .val (.int x0), .val (.int x1), .val (.int x2), .val (.ref bb), .val (.int (0 : Int32))] [(.ref bb)]))
              refine own_st (fun _ k => XS.iload X14.here hx rfl (hb hby at_239) rfl k) ?_
              show own_Go p e below s _ _ _ (T14.setTop (mkF m 241 #[.val (.int ap), .val (.int asel), .val (.long aq), .second, .val (.int af), .val (.int at_), .val (.int fr), .val (.int to), .val (.int x0), .val (.int x1), .val (.int x2), .val (.ref bb), .val (.int (0 : Int32))] [(.int fr), (.ref bb)]))
              refine own_st (fun _ k => XS.iload X14.here hx rfl (hb hby at_241) rfl k) ?_
              show own_Go p e below s _ _ _ (T14.setTop (mkF m 243 #[.val (.int ap), .val (.int asel), .val (.long aq), .second, .val (.int af), .val (.int at_), .val (.int fr), .val (.int to), .val (.int x0), .val (.int x1), .val (.int x2), .val (.ref bb), .val (.int (0 : Int32))] [(.int to), (.int fr), (.ref bb)]))
              refine own_cS X14 hx hml hZ hown (hw _ (List.mem_of_getElem? (i := 5) rfl)) (hw _ (List.mem_of_getElem? (i := 6) rfl)) (hw _ (List.mem_of_getElem? (i := 7) rfl)) (hw _ (List.mem_of_getElem? (i := 8) rfl)) (by decide) (own_rm2 l Z a0 hw bb fr to _ i0 (nar .byte ((x0).toInt8.toInt32)) (nar .byte ((x1).toInt8.toInt32)) (nar .byte ((x2).toInt8.toInt32)) h14 n0 sz14 Vbb_14 hi (by omega) (by rw [if_neg (by omega), if_neg (by omega), if_pos rfl]) (by rw [if_neg (by omega), if_pos rfl]) (by rw [if_pos rfl])) e14 (by decide) (W := 0) (by decide) (g := (mkF m 243 #[.val (.int ap), .val (.int asel), .val (.long aq), .second, .val (.int af), .val (.int at_), .val (.int fr), .val (.int to), .val (.int x0), .val (.int x1), .val (.int x2), .val (.ref bb), .val (.int (0 : Int32))] [(.int to), (.int fr), (.ref bb)])) rfl rfl own_pd1 (argsL := [(.ref bb), (.int fr), (.int to)]) (rest := []) rfl rfl rfl (by show 2 * 0 + _ ≤ _; exact Nat.le_of_eq rfl) (hb hby at_243) (by decide) (by decide) ?_
              intro T17 L17 v17 X17 hQ17
              obtain ⟨rfl, eh17, le17⟩ := hQ17
              have N17 := own_nil N14 le17
              show own_Go p e below s _ _ _ (T17.setTop (mkF m 246 #[.val (.int ap), .val (.int asel), .val (.long aq), .second, .val (.int af), .val (.int at_), .val (.int fr), .val (.int to), .val (.int x0), .val (.int x1), .val (.int x2), .val (.ref bb), .val (.int (0 : Int32))] [(.int (own_bom (to - fr) (nar .byte ((x0).toInt8.toInt32)) (nar .byte ((x1).toInt8.toInt32)) (nar .byte ((x2).toInt8.toInt32))))]))
              refine own_st (fun _ k => XS.iload X17.here hx rfl (hb hby at_246) rfl k) ?_
              show own_Go p e below s _ _ _ (T17.setTop (mkF m 248 #[.val (.int ap), .val (.int asel), .val (.long aq), .second, .val (.int af), .val (.int at_), .val (.int fr), .val (.int to), .val (.int x0), .val (.int x1), .val (.int x2), .val (.ref bb), .val (.int (0 : Int32))] [(.int (0 : Int32)), (.int (own_bom (to - fr) (nar .byte ((x0).toInt8.toInt32)) (nar .byte ((x1).toInt8.toInt32)) (nar .byte ((x2).toInt8.toInt32))))]))
              refine own_st (fun _ k => XS.icmpNo X17.here hx rfl (hb hby at_248) rfl (teq (own_bom0 (by rintro ⟨r1, r2, r3, r4⟩; exact c3 ((own_byc lx1 ux1 187 (-69) (by decide) (by decide) (by decide)).mp r3)))).2 k) ?_
              show own_Go p e below s _ _ _ (T17.setTop (mkF m 251 #[.val (.int ap), .val (.int asel), .val (.long aq), .second, .val (.int af), .val (.int at_), .val (.int fr), .val (.int to), .val (.int x0), .val (.int x1), .val (.int x2), .val (.ref bb), .val (.int (0 : Int32))] []))
              refine own_st (fun _ k => XS.iconst X17.here hx rfl (hb hby at_251) k) ?_
              show own_Go p e below s _ _ _ (T17.setTop (mkF m 252 #[.val (.int ap), .val (.int asel), .val (.long aq), .second, .val (.int af), .val (.int at_), .val (.int fr), .val (.int to), .val (.int x0), .val (.int x1), .val (.int x2), .val (.ref bb), .val (.int (0 : Int32))] [(.int (1 : Int32))]))
              refine own_st (fun _ k => XS.goto X17.here hx rfl (pc0 := 252) (pc' := 256) rfl (hb hby at_252) (by decide) (by decide) k) ?_
              show own_Go p e below s _ _ _ (T17.setTop (mkF m 256 #[.val (.int ap), .val (.int asel), .val (.long aq), .second, .val (.int af), .val (.int at_), .val (.int fr), .val (.int to), .val (.int x0), .val (.int x1), .val (.int x2), .val (.ref bb), .val (.int (0 : Int32))] [(.int (1 : Int32))]))
              exact own_endN X17 hx hlk (t := .boolean) hret (by simp) (hb hby at_256) (w := (1 : Int32)) (by decide) ⟨rfl, N17⟩ (by decide) (by decide)
          · show own_Go p e below s _ _ _ (T14.setTop (mkF m 211 #[.val (.int ap), .val (.int asel), .val (.long aq), .second, .val (.int af), .val (.int at_), .val (.int fr), .val (.int to), .val (.int x0), .val (.int x1), .val (.int x2), .val (.ref bb), .unset] [(.int (239 : Int32)), (.int x0)]))
            refine own_st (fun _ k => XS.icmpYes X14.here hx rfl (pc0 := 211) (pc' := 234) rfl (hb hby at_211) rfl (feq c2).2 (by decide) (by decide) k) ?_
            show own_Go p e below s _ _ _ (T14.setTop (mkF m 234 #[.val (.int ap), .val (.int asel), .val (.long aq), .second, .val (.int af), .val (.int at_), .val (.int fr), .val (.int to), .val (.int x0), .val (.int x1), .val (.int x2), .val (.ref bb), .unset] []))
            refine own_st (fun _ k => XS.iconst X14.here hx rfl (hb hby at_234) k) ?_
            show own_Go p e below s _ _ _ (T14.setTop (mkF m 235 #[.val (.int ap), .val (.int asel), .val (.long aq), .second, .val (.int af), .val (.int at_), .val (.int fr), .val (.int to), .val (.int x0), .val (.int x1), .val (.int x2), .val (.ref bb), .unset] [(.int (0 : Int32))]))
            refine own_st (fun _ k => XS.istore X14.here hx rfl (hb hby at_235) rfl (l' := #[.val (.int ap), .val (.int asel), .val (.long aq), .second, .val (.int af), .val (.int at_), .val (.int fr), .val (.int to), .val (.int x0), .val (.int x1), .val (.int x2), .val (.ref bb), .val (.int (0 : Int32))]) rfl k) ?_
            show own_Go p e below s _ _ _ (T14.setTop (mkF m 237 #[.val (.int ap), .val (.int asel), .val (.long aq), .second, .val (.int af), .val (.int at_), .val (.int fr), .val (.int to), .val (.int x0), .val (.int x1), .val (.int x2), .val (.ref bb), .val (.int (0 : Int32))] []))
            refine own_st (fun _ k => XS.aload X14.here hx rfl (hb hby at_237) rfl rfl k) ?_
            show own_Go p e below s _ _ _ (T14.setTop (mkF m 239 #[.val (.int ap), .val (.int asel), .val (.long aq), .second, .val (.int af), .val (.int at_), .val (.int fr), .val (.int to), .val (.int x0), .val (.int x1), .val (.int x2), .val (.ref bb), .val (.int (0 : Int32))] [(.ref bb)]))
            refine own_st (fun _ k => XS.iload X14.here hx rfl (hb hby at_239) rfl k) ?_
            show own_Go p e below s _ _ _ (T14.setTop (mkF m 241 #[.val (.int ap), .val (.int asel), .val (.long aq), .second, .val (.int af), .val (.int at_), .val (.int fr), .val (.int to), .val (.int x0), .val (.int x1), .val (.int x2), .val (.ref bb), .val (.int (0 : Int32))] [(.int fr), (.ref bb)]))
            refine own_st (fun _ k => XS.iload X14.here hx rfl (hb hby at_241) rfl k) ?_
            show own_Go p e below s _ _ _ (T14.setTop (mkF m 243 #[.val (.int ap), .val (.int asel), .val (.long aq), .second, .val (.int af), .val (.int at_), .val (.int fr), .val (.int to), .val (.int x0), .val (.int x1), .val (.int x2), .val (.ref bb), .val (.int (0 : Int32))] [(.int to), (.int fr), (.ref bb)]))
            refine own_cS X14 hx hml hZ hown (hw _ (List.mem_of_getElem? (i := 5) rfl)) (hw _ (List.mem_of_getElem? (i := 6) rfl)) (hw _ (List.mem_of_getElem? (i := 7) rfl)) (hw _ (List.mem_of_getElem? (i := 8) rfl)) (by decide) (own_rm2 l Z a0 hw bb fr to _ i0 (nar .byte ((x0).toInt8.toInt32)) (nar .byte ((x1).toInt8.toInt32)) (nar .byte ((x2).toInt8.toInt32)) h14 n0 sz14 Vbb_14 hi (by omega) (by rw [if_neg (by omega), if_neg (by omega), if_pos rfl]) (by rw [if_neg (by omega), if_pos rfl]) (by rw [if_pos rfl])) e14 (by decide) (W := 0) (by decide) (g := (mkF m 243 #[.val (.int ap), .val (.int asel), .val (.long aq), .second, .val (.int af), .val (.int at_), .val (.int fr), .val (.int to), .val (.int x0), .val (.int x1), .val (.int x2), .val (.ref bb), .val (.int (0 : Int32))] [(.int to), (.int fr), (.ref bb)])) rfl rfl own_pd1 (argsL := [(.ref bb), (.int fr), (.int to)]) (rest := []) rfl rfl rfl (by show 2 * 0 + _ ≤ _; exact Nat.le_of_eq rfl) (hb hby at_243) (by decide) (by decide) ?_
            intro T16 L16 v16 X16 hQ16
            obtain ⟨rfl, eh16, le16⟩ := hQ16
            have N16 := own_nil N14 le16
            show own_Go p e below s _ _ _ (T16.setTop (mkF m 246 #[.val (.int ap), .val (.int asel), .val (.long aq), .second, .val (.int af), .val (.int at_), .val (.int fr), .val (.int to), .val (.int x0), .val (.int x1), .val (.int x2), .val (.ref bb), .val (.int (0 : Int32))] [(.int (own_bom (to - fr) (nar .byte ((x0).toInt8.toInt32)) (nar .byte ((x1).toInt8.toInt32)) (nar .byte ((x2).toInt8.toInt32))))]))
            refine own_st (fun _ k => XS.iload X16.here hx rfl (hb hby at_246) rfl k) ?_
            show own_Go p e below s _ _ _ (T16.setTop (mkF m 248 #[.val (.int ap), .val (.int asel), .val (.long aq), .second, .val (.int af), .val (.int at_), .val (.int fr), .val (.int to), .val (.int x0), .val (.int x1), .val (.int x2), .val (.ref bb), .val (.int (0 : Int32))] [(.int (0 : Int32)), (.int (own_bom (to - fr) (nar .byte ((x0).toInt8.toInt32)) (nar .byte ((x1).toInt8.toInt32)) (nar .byte ((x2).toInt8.toInt32))))]))
            refine own_st (fun _ k => XS.icmpNo X16.here hx rfl (hb hby at_248) rfl (teq (own_bom0 (by rintro ⟨r1, r2, r3, r4⟩; exact c2 ((own_byc lx0 ux0 239 (-17) (by decide) (by decide) (by decide)).mp r2)))).2 k) ?_
            show own_Go p e below s _ _ _ (T16.setTop (mkF m 251 #[.val (.int ap), .val (.int asel), .val (.long aq), .second, .val (.int af), .val (.int at_), .val (.int fr), .val (.int to), .val (.int x0), .val (.int x1), .val (.int x2), .val (.ref bb), .val (.int (0 : Int32))] []))
            refine own_st (fun _ k => XS.iconst X16.here hx rfl (hb hby at_251) k) ?_
            show own_Go p e below s _ _ _ (T16.setTop (mkF m 252 #[.val (.int ap), .val (.int asel), .val (.long aq), .second, .val (.int af), .val (.int at_), .val (.int fr), .val (.int to), .val (.int x0), .val (.int x1), .val (.int x2), .val (.ref bb), .val (.int (0 : Int32))] [(.int (1 : Int32))]))
            refine own_st (fun _ k => XS.goto X16.here hx rfl (pc0 := 252) (pc' := 256) rfl (hb hby at_252) (by decide) (by decide) k) ?_
            show own_Go p e below s _ _ _ (T16.setTop (mkF m 256 #[.val (.int ap), .val (.int asel), .val (.long aq), .second, .val (.int af), .val (.int at_), .val (.int fr), .val (.int to), .val (.int x0), .val (.int x1), .val (.int x2), .val (.ref bb), .val (.int (0 : Int32))] [(.int (1 : Int32))]))
            exact own_endN X16 hx hlk (t := .boolean) hret (by simp) (hb hby at_256) (w := (1 : Int32)) (by decide) ⟨rfl, N16⟩ (by decide) (by decide)
      show own_Go p e below s _ _ _ (T1.setTop (mkF m 65 #[.val (.int ap), .val (.int asel), .val (.long aq), .second, .val (.int af), .val (.int at_), .val (.int fr), .val (.int to), .val (.int x0), .val (.int x1), .unset, .unset, .unset] [(.int (asel &&& (4 : Int32)))]))
      rcases Classical.em ((asel &&& (4 : Int32)) = (0 : Int32)) with sx2 | sx2
      · show own_Go p e below s _ _ _ (T1.setTop (mkF m 65 #[.val (.int ap), .val (.int asel), .val (.long aq), .second, .val (.int af), .val (.int at_), .val (.int fr), .val (.int to), .val (.int x0), .val (.int x1), .unset, .unset, .unset] [(.int (asel &&& (4 : Int32)))]))
        refine own_st (fun _ k => XS.ifYes X1.here hx rfl (pc0 := 65) (pc' := 74) rfl (hb hby at_65) rfl ((if0 _ _).trans (teq sx2).1) (by decide) (by decide) k) ?_
        show own_Go p e below s _ _ _ (T1.setTop (mkF m 74 #[.val (.int ap), .val (.int asel), .val (.long aq), .second, .val (.int af), .val (.int at_), .val (.int fr), .val (.int to), .val (.int x0), .val (.int x1), .unset, .unset, .unset] []))
        refine own_st (fun _ k => XS.iloadN X1.here hx rfl (hb hby at_74) rfl k) ?_
        show own_Go p e below s _ _ _ (T1.setTop (mkF m 75 #[.val (.int ap), .val (.int asel), .val (.long aq), .second, .val (.int af), .val (.int at_), .val (.int fr), .val (.int to), .val (.int x0), .val (.int x1), .unset, .unset, .unset] [(.int ap)]))
        refine own_st (fun _ k => XS.bipush X1.here hx rfl (hb hby at_75) k) ?_
        show own_Go p e below s _ _ _ (T1.setTop (mkF m 77 #[.val (.int ap), .val (.int asel), .val (.long aq), .second, .val (.int af), .val (.int at_), .val (.int fr), .val (.int to), .val (.int x0), .val (.int x1), .unset, .unset, .unset] [(.int (16 : Int32)), (.int ap)]))
        refine own_st (fun _ k => XT.iushr X1.here hx rfl (hb hby at_77) rfl k) ?_
        show own_Go p e below s _ _ _ (T1.setTop (mkF m 78 #[.val (.int ap), .val (.int asel), .val (.long aq), .second, .val (.int af), .val (.int at_), .val (.int fr), .val (.int to), .val (.int x0), .val (.int x1), .unset, .unset, .unset] [(.int (XT.ushr ap (16 : Int32)))]))
        refine own_st (fun _ k => XS.sipush X1.here hx rfl (hb hby at_78) k) ?_
        show own_Go p e below s _ _ _ (T1.setTop (mkF m 81 #[.val (.int ap), .val (.int asel), .val (.long aq), .second, .val (.int af), .val (.int at_), .val (.int fr), .val (.int to), .val (.int x0), .val (.int x1), .unset, .unset, .unset] [(.int (255 : Int32)), (.int (XT.ushr ap (16 : Int32)))]))
        refine own_st (fun _ k => XS.iand X1.here hx rfl (hb hby at_81) rfl k) ?_
        show own_Go p e below s _ _ _ (T1.setTop (mkF m 82 #[.val (.int ap), .val (.int asel), .val (.long aq), .second, .val (.int af), .val (.int at_), .val (.int fr), .val (.int to), .val (.int x0), .val (.int x1), .unset, .unset, .unset] [(.int ((XT.ushr ap (16 : Int32)) &&& (255 : Int32)))]))
        obtain ⟨im, him, hm⟩ := own_mask _ (255 : Int32) (k := 255) (by decide)
        exact Jx2 _ (by rw [him]; omega) (by rw [him]; omega)
      · show own_Go p e below s _ _ _ (T1.setTop (mkF m 65 #[.val (.int ap), .val (.int asel), .val (.long aq), .second, .val (.int af), .val (.int at_), .val (.int fr), .val (.int to), .val (.int x0), .val (.int x1), .unset, .unset, .unset] [(.int (asel &&& (4 : Int32)))]))
        refine own_st (fun _ k => XS.ifNo X1.here hx rfl (hb hby at_65) rfl ((if0 _ _).trans (feq sx2).1) k) ?_
        show own_Go p e below s _ _ _ (T1.setTop (mkF m 68 #[.val (.int ap), .val (.int asel), .val (.long aq), .second, .val (.int af), .val (.int at_), .val (.int fr), .val (.int to), .val (.int x0), .val (.int x1), .unset, .unset, .unset] []))
        refine own_st (fun _ k => XS.sipush X1.here hx rfl (hb hby at_68) k) ?_
        show own_Go p e below s _ _ _ (T1.setTop (mkF m 71 #[.val (.int ap), .val (.int asel), .val (.long aq), .second, .val (.int af), .val (.int at_), .val (.int fr), .val (.int to), .val (.int x0), .val (.int x1), .unset, .unset, .unset] [(.int (191 : Int32))]))
        refine own_st (fun _ k => XS.goto X1.here hx rfl (pc0 := 71) (pc' := 82) rfl (hb hby at_71) (by decide) (by decide) k) ?_
        show own_Go p e below s _ _ _ (T1.setTop (mkF m 82 #[.val (.int ap), .val (.int asel), .val (.long aq), .second, .val (.int af), .val (.int at_), .val (.int fr), .val (.int to), .val (.int x0), .val (.int x1), .unset, .unset, .unset] [(.int (191 : Int32))]))
        exact Jx2 _ (by decide) (by decide)
    show own_Go p e below s _ _ _ (T1.setTop (mkF m 43 #[.val (.int ap), .val (.int asel), .val (.long aq), .second, .val (.int af), .val (.int at_), .val (.int fr), .val (.int to), .val (.int x0), .unset, .unset, .unset, .unset] [(.int (asel &&& (2 : Int32)))]))
    rcases Classical.em ((asel &&& (2 : Int32)) = (0 : Int32)) with sx1 | sx1
    · show own_Go p e below s _ _ _ (T1.setTop (mkF m 43 #[.val (.int ap), .val (.int asel), .val (.long aq), .second, .val (.int af), .val (.int at_), .val (.int fr), .val (.int to), .val (.int x0), .unset, .unset, .unset, .unset] [(.int (asel &&& (2 : Int32)))]))
      refine own_st (fun _ k => XS.ifYes X1.here hx rfl (pc0 := 43) (pc' := 52) rfl (hb hby at_43) rfl ((if0 _ _).trans (teq sx1).1) (by decide) (by decide) k) ?_
      show own_Go p e below s _ _ _ (T1.setTop (mkF m 52 #[.val (.int ap), .val (.int asel), .val (.long aq), .second, .val (.int af), .val (.int at_), .val (.int fr), .val (.int to), .val (.int x0), .unset, .unset, .unset, .unset] []))
      refine own_st (fun _ k => XS.iloadN X1.here hx rfl (hb hby at_52) rfl k) ?_
      show own_Go p e below s _ _ _ (T1.setTop (mkF m 53 #[.val (.int ap), .val (.int asel), .val (.long aq), .second, .val (.int af), .val (.int at_), .val (.int fr), .val (.int to), .val (.int x0), .unset, .unset, .unset, .unset] [(.int ap)]))
      refine own_st (fun _ k => XS.bipush X1.here hx rfl (hb hby at_53) k) ?_
      show own_Go p e below s _ _ _ (T1.setTop (mkF m 55 #[.val (.int ap), .val (.int asel), .val (.long aq), .second, .val (.int af), .val (.int at_), .val (.int fr), .val (.int to), .val (.int x0), .unset, .unset, .unset, .unset] [(.int (8 : Int32)), (.int ap)]))
      refine own_st (fun _ k => XT.iushr X1.here hx rfl (hb hby at_55) rfl k) ?_
      show own_Go p e below s _ _ _ (T1.setTop (mkF m 56 #[.val (.int ap), .val (.int asel), .val (.long aq), .second, .val (.int af), .val (.int at_), .val (.int fr), .val (.int to), .val (.int x0), .unset, .unset, .unset, .unset] [(.int (XT.ushr ap (8 : Int32)))]))
      refine own_st (fun _ k => XS.sipush X1.here hx rfl (hb hby at_56) k) ?_
      show own_Go p e below s _ _ _ (T1.setTop (mkF m 59 #[.val (.int ap), .val (.int asel), .val (.long aq), .second, .val (.int af), .val (.int at_), .val (.int fr), .val (.int to), .val (.int x0), .unset, .unset, .unset, .unset] [(.int (255 : Int32)), (.int (XT.ushr ap (8 : Int32)))]))
      refine own_st (fun _ k => XS.iand X1.here hx rfl (hb hby at_59) rfl k) ?_
      show own_Go p e below s _ _ _ (T1.setTop (mkF m 60 #[.val (.int ap), .val (.int asel), .val (.long aq), .second, .val (.int af), .val (.int at_), .val (.int fr), .val (.int to), .val (.int x0), .unset, .unset, .unset, .unset] [(.int ((XT.ushr ap (8 : Int32)) &&& (255 : Int32)))]))
      obtain ⟨im, him, hm⟩ := own_mask _ (255 : Int32) (k := 255) (by decide)
      exact Jx1 _ (by rw [him]; omega) (by rw [him]; omega)
    · show own_Go p e below s _ _ _ (T1.setTop (mkF m 43 #[.val (.int ap), .val (.int asel), .val (.long aq), .second, .val (.int af), .val (.int at_), .val (.int fr), .val (.int to), .val (.int x0), .unset, .unset, .unset, .unset] [(.int (asel &&& (2 : Int32)))]))
      refine own_st (fun _ k => XS.ifNo X1.here hx rfl (hb hby at_43) rfl ((if0 _ _).trans (feq sx1).1) k) ?_
      show own_Go p e below s _ _ _ (T1.setTop (mkF m 46 #[.val (.int ap), .val (.int asel), .val (.long aq), .second, .val (.int af), .val (.int at_), .val (.int fr), .val (.int to), .val (.int x0), .unset, .unset, .unset, .unset] []))
      refine own_st (fun _ k => XS.sipush X1.here hx rfl (hb hby at_46) k) ?_
      show own_Go p e below s _ _ _ (T1.setTop (mkF m 49 #[.val (.int ap), .val (.int asel), .val (.long aq), .second, .val (.int af), .val (.int at_), .val (.int fr), .val (.int to), .val (.int x0), .unset, .unset, .unset, .unset] [(.int (187 : Int32))]))
      refine own_st (fun _ k => XS.goto X1.here hx rfl (pc0 := 49) (pc' := 60) rfl (hb hby at_49) (by decide) (by decide) k) ?_
      show own_Go p e below s _ _ _ (T1.setTop (mkF m 60 #[.val (.int ap), .val (.int asel), .val (.long aq), .second, .val (.int af), .val (.int at_), .val (.int fr), .val (.int to), .val (.int x0), .unset, .unset, .unset, .unset] [(.int (187 : Int32))]))
      exact Jx1 _ (by decide) (by decide)
  show own_Go p e below s _ _ _ (T1.setTop (mkF m 24 #[.val (.int ap), .val (.int asel), .val (.long aq), .second, .val (.int af), .val (.int at_), .val (.int fr), .val (.int to), .unset, .unset, .unset, .unset, .unset] [(.int (asel &&& (1 : Int32)))]))
  rcases Classical.em ((asel &&& (1 : Int32)) = (0 : Int32)) with sx0 | sx0
  · show own_Go p e below s _ _ _ (T1.setTop (mkF m 24 #[.val (.int ap), .val (.int asel), .val (.long aq), .second, .val (.int af), .val (.int at_), .val (.int fr), .val (.int to), .unset, .unset, .unset, .unset, .unset] [(.int (asel &&& (1 : Int32)))]))
    refine own_st (fun _ k => XS.ifYes X1.here hx rfl (pc0 := 24) (pc' := 33) rfl (hb hby at_24) rfl ((if0 _ _).trans (teq sx0).1) (by decide) (by decide) k) ?_
    show own_Go p e below s _ _ _ (T1.setTop (mkF m 33 #[.val (.int ap), .val (.int asel), .val (.long aq), .second, .val (.int af), .val (.int at_), .val (.int fr), .val (.int to), .unset, .unset, .unset, .unset, .unset] []))
    refine own_st (fun _ k => XS.iloadN X1.here hx rfl (hb hby at_33) rfl k) ?_
    show own_Go p e below s _ _ _ (T1.setTop (mkF m 34 #[.val (.int ap), .val (.int asel), .val (.long aq), .second, .val (.int af), .val (.int at_), .val (.int fr), .val (.int to), .unset, .unset, .unset, .unset, .unset] [(.int ap)]))
    refine own_st (fun _ k => XS.sipush X1.here hx rfl (hb hby at_34) k) ?_
    show own_Go p e below s _ _ _ (T1.setTop (mkF m 37 #[.val (.int ap), .val (.int asel), .val (.long aq), .second, .val (.int af), .val (.int at_), .val (.int fr), .val (.int to), .unset, .unset, .unset, .unset, .unset] [(.int (255 : Int32)), (.int ap)]))
    refine own_st (fun _ k => XS.iand X1.here hx rfl (hb hby at_37) rfl k) ?_
    show own_Go p e below s _ _ _ (T1.setTop (mkF m 38 #[.val (.int ap), .val (.int asel), .val (.long aq), .second, .val (.int af), .val (.int at_), .val (.int fr), .val (.int to), .unset, .unset, .unset, .unset, .unset] [(.int (ap &&& (255 : Int32)))]))
    obtain ⟨im, him, hm⟩ := own_mask _ (255 : Int32) (k := 255) (by decide)
    exact Jx0 _ (by rw [him]; omega) (by rw [him]; omega)
  · show own_Go p e below s _ _ _ (T1.setTop (mkF m 24 #[.val (.int ap), .val (.int asel), .val (.long aq), .second, .val (.int af), .val (.int at_), .val (.int fr), .val (.int to), .unset, .unset, .unset, .unset, .unset] [(.int (asel &&& (1 : Int32)))]))
    refine own_st (fun _ k => XS.ifNo X1.here hx rfl (hb hby at_24) rfl ((if0 _ _).trans (feq sx0).1) k) ?_
    show own_Go p e below s _ _ _ (T1.setTop (mkF m 27 #[.val (.int ap), .val (.int asel), .val (.long aq), .second, .val (.int af), .val (.int at_), .val (.int fr), .val (.int to), .unset, .unset, .unset, .unset, .unset] []))
    refine own_st (fun _ k => XS.sipush X1.here hx rfl (hb hby at_27) k) ?_
    show own_Go p e below s _ _ _ (T1.setTop (mkF m 30 #[.val (.int ap), .val (.int asel), .val (.long aq), .second, .val (.int af), .val (.int at_), .val (.int fr), .val (.int to), .unset, .unset, .unset, .unset, .unset] [(.int (239 : Int32))]))
    refine own_st (fun _ k => XS.goto X1.here hx rfl (pc0 := 30) (pc' := 38) rfl (hb hby at_30) (by decide) (by decide) k) ?_
    show own_Go p e below s _ _ _ (T1.setTop (mkF m 38 #[.val (.int ap), .val (.int asel), .val (.long aq), .second, .val (.int af), .val (.int at_), .val (.int fr), .val (.int to), .unset, .unset, .unset, .unset, .unset] [(.int (239 : Int32))]))
    exact Jx0 _ (by decide) (by decide)
set_option maxRecDepth 65536 in
set_option maxHeartbeats 40000000 in
theorem own_comes {Post : Tables → Env → Array Value → State → Outcome → State → Prop} (hpost : ∀ tb e args s v u, (limb_1_1.after args s (.returned v) u = true ∧ limb_1_2.after args s (.returned v) u = true ∧ True) → FrameEnd s (.returned v) u (Jvm.fieldLocs frame_1_writes args s ++ Jvm.arrayLocs frame_1_arrays args s ++ Jvm.staticLocs frame_1_statics s) 16 128 → Post tb e args s (.returned v) u) :
    ArmFor flags0 classFile x code maxLocals ret World_1 tables_1 room_1 Calls_1 rest_1 Pre_1 Post := by
  intro l hfl _ _ p e ha hc hk s m args below hf hA hF happ hP
  obtain ⟨hcalls, hrest, hpre⟩ := hP
  obtain ⟨-, -, -, hnamed, -, -, -, hat⟩ := (Spec.applies_iff hf).mp happ
  obtain ⟨hg, hn⟩ := and_e (Cond.before_iff.mp (show (Jvm.Cond.and given_1 narrow_1).before args s = true from hpre))
  obtain ⟨gc, r0⟩ := and_e hg
  obtain ⟨k0, r1⟩ := and_e r0
  obtain ⟨k1, r2⟩ := and_e r1
  obtain ⟨k2, r3⟩ := and_e r2
  obtain ⟨k3, r4⟩ := and_e r3
  obtain ⟨w0, w1, w2, w3, w4, rfl⟩ : ∃ w0 w1 w2 w3 w4 : Value, args = #[w0, w1, w2, w3, w4] := by
    have hs : args.size = 5 := by simpa [Cond.value, given_1] using gc
    obtain ⟨L⟩ := args
    match L, hs with
    | [w0, w1, w2, w3, w4], _ => exact ⟨w0, w1, w2, w3, w4, rfl⟩
  have hw := fun d (hd : d ∈ tables_1) => atoms_spec (ws := Jvm.Cond.code x code maxLocals ret :: tables_1) hat d (List.mem_cons_of_mem _ hd)
  obtain ⟨i0, ei0⟩ := is_v k0
  obtain rfl : w0 = (.int i0) := Option.some.inj ei0
  obtain ⟨i1, ei1⟩ := is_v k1
  obtain rfl : w1 = (.int i1) := Option.some.inj ei1
  obtain ⟨i2, ei2⟩ := isL_v k2
  obtain rfl : w2 = (.long i2) := Option.some.inj ei2
  obtain ⟨i3, ei3⟩ := is_v k3
  obtain rfl : w3 = (.int i3) := Option.some.inj ei3
  obtain ⟨i4, ei4⟩ := is_v r4
  obtain rfl : w4 = (.int i4) := Option.some.inj ei4
  obtain ⟨n, o, h1, h2, h3, _, L, rfl, ⟨rfl, N⟩, hq⟩ := own_rm0 l s _ hw i0 i1 i2 i3 i4 s.heap s.heap.size (Nat.le_refl _)  tables_1 p e ha hc hk s m _ below hf ((Spec.applies_iff_loose hf).mp happ).1 ⟨rfl, State.Warmed39.refl s, rfl⟩ trivial
  refine ⟨n, _, h1, h2, h3, hpost _ _ _ _ _ _ ⟨Cond.after_iff.mpr rfl, Cond.after_iff.mpr (eq_i res_at (Term.int_eval (1)) rfl), trivial⟩ ⟨hq.1, hq.2.1, (hq.2.2.sift fun y hy => Or.inr (N y hy)).mono (by decide) (by decide)⟩⟩
theorem main_1_1 : Claimed_1_1 := own_comes fun _ _ _ _ _ _ h hF => ⟨h.1, hF⟩
theorem main_1_2 : Claimed_1_2 := own_comes fun _ _ _ _ _ _ h hF => ⟨h.2.1, hF⟩
end Jvm.Pilot.@@N@@
namespace Jvm.Pilot.@@N@@
open Jvm Jvm.ClassFile Sem Op Lib Jvm.Free Jvm.Stand Jvm.Pilot.@@N@@.Jvm.D
/-! MADE BY PROGRAM (witnessworld.py) out of the Statement's table words and the real class files: 10 classes; the members and pool entries that the words name. The judged class is class 1, her method 1. -/
namespace start1
open Jvm.ClassFile
def u (s : String) : CpInfo := .utf8 (stringToUtf16 s)
/-- a pool by its gaps: so many unusable entries, then the entry; so many at the end -/
def gap : Nat → List CpInfo → List CpInfo
  | 0, r => r
  | n + 1, r => .unusable :: gap n r
def poolList (es : List (Nat × CpInfo)) (last : Nat) : List CpInfo := es.foldr (fun e r => gap e.1 (e.2 :: r)) (gap last [])
def pool (es : List (Nat × CpInfo)) (last : Nat) : Array CpInfo := ⟨poolList es last⟩
def fileOf (pool : Array CpInfo) (this : Nat) (attrs : Array Attribute := #[]) (ms : Array MethodInfo := #[]) (fl : Nat := 33) (sup : Nat := 0) (ifs : Array Nat := #[]) (fds : Array FieldInfo := #[]) : ClassFile where
  minorVersion := 0
  majorVersion := 65
  constantPool := pool
  accessFlags := fl
  thisClass := this
  superClass := sup
  interfaces := ifs
  fields := fds
  methods := ms
  attributes := attrs
def plain (name : String) (sup : Option ClassId) : Class where
  name := name
  kind := .ordinary
  loader := none
  accessFlags := 33
  super := sup
  interfaces := #[]
  cf := none
  fields := #[]
  methods := #[]
  instanceTypes := #[]
  staticTypes := #[]
  resolved := #[]
  callSites := []
  init := .initialized
  statics := none
  mirror := none

def pool0 : Array CpInfo := pool [(5, u "<init>"), (0, u "()V"), (1, .class_ 10), (1, u "java/lang/Object")] 113

def k0m0 : Method := { name := "<init>", desc := "()V", sig := { parameters := [], returnType := none }, accessFlags := 1, code := none }
/-- java/lang/Object -/
def k0 : Class := { plain "java/lang/Object" none with
  accessFlags := 33
  interfaces := #[]
  cf := some (fileOf pool0 8 #[] #[{ accessFlags := 1, nameIndex := 5, descriptorIndex := 6, attributes := #[] }] 33 0 #[] #[])
  fields := #[]
  methods := #[k0m0]
  instanceTypes := #[]
  staticTypes := #[]
  resolved := Array.replicate 124 none
  statics := none }

def pool1 : Array CpInfo := pool [(2, .class_ 4), (1, u "java/lang/Object"), (0, u "<init>"), (0, u "()V"), (0, .methodref 8 9), (0, .class_ 10), (0, .nameAndType 11 12), (0, u "java/lang/Math"), (0, u "min"), (0, u "(II)I"), (0, .methodref 14 15), (0, .class_ 16), (0, .nameAndType 17 18), (0, u "com/example/auditloom/auditloom/Utf8"), (0, u "startsWithByteOrderMark"), (0, u "([BII)Z"), (0, .class_ 20), (0, u "com/example/auditloom/auditloom/Utf8StartsWithByteOrderMarkPinLaw"), (2, u "law"), (0, u "(IIJII)Z")] 5

def k1m0 : Method := { name := "<init>", desc := "()V", sig := { parameters := [], returnType := none }, accessFlags := 1, code := none }
def k1c1 : Code := { maxStack := 5, maxLocals := 13, code := code, exceptionTable := #[], attributes := #[] }
def k1m1 : Method := { name := "law", desc := "(IIJII)Z", sig := { parameters := [.int, .int, .long, .int, .int], returnType := some .boolean }, accessFlags := 9, code := some k1c1 }
/-- com/example/auditloom/auditloom/Utf8StartsWithByteOrderMarkPinLaw -/
def k1 : Class := { plain "com/example/auditloom/auditloom/Utf8StartsWithByteOrderMarkPinLaw" (some 0) with
  accessFlags := 49
  interfaces := #[]
  cf := some (fileOf pool1 19 #[] #[{ accessFlags := 1, nameIndex := 5, descriptorIndex := 6, attributes := #[] }, { accessFlags := 9, nameIndex := 23, descriptorIndex := 24, attributes := #[] }] 49 2 #[] #[])
  fields := #[]
  methods := #[k1m0, k1m1]
  instanceTypes := #[]
  staticTypes := #[]
  resolved := Array.replicate 30 none
  statics := none }

def pool2 : Array CpInfo := pool [(1, .class_ 2), (0, u "java/lang/Math"), (1, .class_ 6), (1, u "java/lang/Object"), (0, u "<init>"), (0, u "()V"), (89, .class_ 100), (1, u "java/lang/Math$RandomNumberGeneratorHolder"), (71, u "negativeZeroFloatBits"), (0, u "J"), (2, u "negativeZeroDoubleBits"), (24, u "min"), (43, u "$assertionsDisabled"), (0, u "Z"), (88, u "(II)I"), (2, u "twoToTheDoubleScaleDown"), (0, u "D"), (4, u "twoToTheDoubleScaleUp"), (9, u "E"), (3, u "PI"), (2, u "TAU"), (2, u "DEGREES_TO_RADIANS"), (0, u "RADIANS_TO_DEGREES")] 94

def k2m0 : Method := { name := "<init>", desc := "()V", sig := { parameters := [], returnType := none }, accessFlags := 2, code := none }
def k2c1 : Code := { maxStack := 2, maxLocals := 2, code := jdk_29_method_69_code, exceptionTable := #[], attributes := #[] }
def k2m1 : Method := { name := "min", desc := "(II)I", sig := { parameters := [.int, .int], returnType := some .int }, accessFlags := 9, code := some k2c1 }
/-- java/lang/Math -/
def k2 : Class := { plain "java/lang/Math" (some 0) with
  accessFlags := 49
  interfaces := #[]
  cf := some (fileOf pool2 1 #[.nestMembers #[98]] #[{ accessFlags := 2, nameIndex := 7, descriptorIndex := 8, attributes := #[] }, { accessFlags := 9, nameIndex := 201, descriptorIndex := 335, attributes := #[] }] 49 4 #[] #[{ accessFlags := 25, nameIndex := 354, descriptorIndex := 339, attributes := #[] }, { accessFlags := 25, nameIndex := 358, descriptorIndex := 339, attributes := #[] }, { accessFlags := 25, nameIndex := 361, descriptorIndex := 339, attributes := #[] }, { accessFlags := 26, nameIndex := 364, descriptorIndex := 339, attributes := #[] }, { accessFlags := 26, nameIndex := 365, descriptorIndex := 339, attributes := #[] }, { accessFlags := 26, nameIndex := 172, descriptorIndex := 173, attributes := #[] }, { accessFlags := 26, nameIndex := 176, descriptorIndex := 173, attributes := #[] }, { accessFlags := 8, nameIndex := 344, descriptorIndex := 339, attributes := #[] }, { accessFlags := 8, nameIndex := 338, descriptorIndex := 339, attributes := #[] }, { accessFlags := 4120, nameIndex := 245, descriptorIndex := 246, attributes := #[] }])
  fields := #[{ name := "E", type := .double, accessFlags := 25, slot := 0, constantValue := 0 }, { name := "PI", type := .double, accessFlags := 25, slot := 1, constantValue := 0 }, { name := "TAU", type := .double, accessFlags := 25, slot := 2, constantValue := 0 }, { name := "DEGREES_TO_RADIANS", type := .double, accessFlags := 26, slot := 3, constantValue := 0 }, { name := "RADIANS_TO_DEGREES", type := .double, accessFlags := 26, slot := 4, constantValue := 0 }, { name := "negativeZeroFloatBits", type := .long, accessFlags := 26, slot := 5, constantValue := 0 }, { name := "negativeZeroDoubleBits", type := .long, accessFlags := 26, slot := 6, constantValue := 0 }, { name := "twoToTheDoubleScaleUp", type := .double, accessFlags := 8, slot := 7, constantValue := 0 }, { name := "twoToTheDoubleScaleDown", type := .double, accessFlags := 8, slot := 8, constantValue := 0 }, { name := "$assertionsDisabled", type := .boolean, accessFlags := 4120, slot := 9, constantValue := 0 }]
  methods := #[k2m0, k2m1]
  instanceTypes := #[]
  staticTypes := #[.double, .double, .double, .double, .double, .long, .long, .double, .double, .boolean]
  resolved := Array.replicate 460 none
  statics := none }

def pool3 : Array CpInfo := pool [(2, .class_ 4), (1, u "java/lang/Object"), (0, u "<init>"), (0, u "()V"), (0, .class_ 8), (0, u "com/example/auditloom/auditloom/Utf8"), (4, u "LONGS"), (0, u "Ljava/lang/invoke/VarHandle;"), (40, u "BYTE_ORDER_MARK_LENGTH"), (0, u "I"), (2, u "HIGH_BITS"), (0, u "J"), (2, u "startsWithByteOrderMark"), (0, u "([BII)Z")] 9

def k3m0 : Method := { name := "<init>", desc := "()V", sig := { parameters := [], returnType := none }, accessFlags := 2, code := none }
def k3c1 : Code := { maxStack := 3, maxLocals := 3, code := prog_12_method_2_code, exceptionTable := #[], attributes := #[] }
def k3m1 : Method := { name := "startsWithByteOrderMark", desc := "([BII)Z", sig := { parameters := [(.array .byte), .int, .int], returnType := some .boolean }, accessFlags := 8, code := some k3c1 }
/-- com/example/auditloom/auditloom/Utf8 -/
def k3 : Class := { plain "com/example/auditloom/auditloom/Utf8" (some 0) with
  accessFlags := 48
  interfaces := #[]
  cf := some (fileOf pool3 7 #[] #[{ accessFlags := 2, nameIndex := 5, descriptorIndex := 6, attributes := #[] }, { accessFlags := 8, nameIndex := 63, descriptorIndex := 64, attributes := #[] }] 48 2 #[] #[{ accessFlags := 24, nameIndex := 55, descriptorIndex := 56, attributes := #[] }, { accessFlags := 26, nameIndex := 13, descriptorIndex := 14, attributes := #[] }, { accessFlags := 26, nameIndex := 59, descriptorIndex := 60, attributes := #[] }])
  fields := #[{ name := "BYTE_ORDER_MARK_LENGTH", type := .int, accessFlags := 24, slot := 0, constantValue := 0 }, { name := "LONGS", type := (.object "java/lang/invoke/VarHandle"), accessFlags := 26, slot := 1, constantValue := 0 }, { name := "HIGH_BITS", type := .long, accessFlags := 26, slot := 2, constantValue := 0 }]
  methods := #[k3m0, k3m1]
  instanceTypes := #[]
  staticTypes := #[.int, (.object "java/lang/invoke/VarHandle"), .long]
  resolved := Array.replicate 74 none
  statics := none }

def pool4 : Array CpInfo := pool [(1, u "java/lang/Cloneable"), (0, .class_ 1), (0, u "java/lang/Object"), (0, .class_ 3)] 3

/-- java/lang/Cloneable -/
def k4 : Class := { plain "java/lang/Cloneable" (some 0) with
  accessFlags := 1537
  interfaces := #[]
  cf := some (fileOf pool4 2 #[] #[] 1537 4 #[] #[])
  fields := #[]
  methods := #[]
  instanceTypes := #[]
  staticTypes := #[]
  resolved := Array.replicate 8 none
  statics := none }

def pool5 : Array CpInfo := pool [(1, u "java/io/Serializable"), (0, .class_ 1), (0, u "java/lang/Object"), (0, .class_ 3)] 3

/-- java/io/Serializable -/
def k5 : Class := { plain "java/io/Serializable" (some 0) with
  accessFlags := 1537
  interfaces := #[]
  cf := some (fileOf pool5 2 #[] #[] 1537 4 #[] #[])
  fields := #[]
  methods := #[]
  instanceTypes := #[]
  staticTypes := #[]
  resolved := Array.replicate 8 none
  statics := none }

/-- the primitive byte -/
def k6 : Class := { plain "byte" none with kind := .primitive 'B', accessFlags := 0x411 }
/-- [B -/
def k7 : Class := { plain "[B" (some 0) with kind := .array 6 .byte, interfaces := #[4, 5], accessFlags := 1041 }

/-- the primitive int -/
def k8 : Class := { plain "int" none with kind := .primitive 'I', accessFlags := 0x411 }
/-- [I -/
def k9 : Class := { plain "[I" (some 0) with kind := .array 8 .int, interfaces := #[4, 5], accessFlags := 1041 }

def heap : Heap := #[]
def classes : Array Class := #[k0, k1, k2, k3, k4, k5, k6, k7, k8, k9]
def interned : List (Array UInt16 × Addr) := []
def slotsUsed : Nat := 0
def theMethod : MethodId := ⟨1, 1⟩
def args0 : Array Value := #[.int 65, .int 3, .long 5, .int 1, .int 4]
def aboutOver (below : List Frame) : State where
  vm := { classes := classes, interned := interned.toArray }
  heap := heap
  slotsUsed := slotsUsed
  threads := #[{ frames := .invoking theMethod args0 :: below }]
def below0 : List Frame := [.native { method := ⟨0, 0⟩, args := #[] }]
def about1 : State := aboutOver below0
def p0 : Program := .bare "" "" ""
def e0 : Env := launch0.env 0 0 0
theorem w_frames : about1.frames = Frame.invoking theMethod args0 :: below0 := rfl
set_option maxRecDepth 65536 in
theorem w_args : argsFit about1.vm theMethod args0 = true := by decide +kernel
set_option maxRecDepth 65536 in
theorem w_heap : heapFits about1 = true := by decide +kernel
set_option maxRecDepth 65536 in
theorem w_runnable : about1.curStatus? = some .runnable := by decide +kernel
set_option maxRecDepth 65536 in
theorem w_alone : about1.alone = true := by decide +kernel
set_option maxRecDepth 65536 in
theorem w_named : about1.methodNamed? x = some theMethod := by decide +kernel
set_option maxRecDepth 65536 in
theorem w_hears : about1.hears theMethod below0 = true := by decide +kernel
set_option maxRecDepth 65536 in
theorem w_ripe : about1.ripe theMethod args0 below0 = true := by decide +kernel
theorem w_running : about1.status = .running := rfl
set_option maxRecDepth 65536 in
theorem w_room : about1.hasRoom e0.platform room_1 = true :=
  launch0.hasRoom_least _ room_1 (by decide +kernel) (by decide +kernel) (by decide +kernel) (by decide +kernel) (by decide +kernel) (by decide +kernel)
theorem allAtoms_all (ts : List Jvm.Cond) (a : Array Jvm.Value) (st : Jvm.State) : (allAtoms ts).before a st = ts.all (fun c => c.before a st) := by
  induction ts with
  | nil => rfl
  | cons c t ih =>
    show (Jvm.Cond.and c (allAtoms t)).before a st = _
    rw [Jvm.Cond.before_and, ih, List.all_cons]
def words1 : List Jvm.Cond := Jvm.Cond.code x code maxLocals ret :: tables_1
/-- a 'code' word, met by the world's own term for the bytes: nothing is compared byte by byte -/
theorem code_word {y : MethodName} {bytes : ByteArray} {mx : Nat} {rt : Option FieldType} {a : Array Value} {s : State} {m : MethodId} {meth : Method} {c : Code} (h1 : s.methodNamed? y = some m) (h2 : s.vm.method? m = some meth) (h3 : meth.code = some c) (h4 : c.code = bytes)
    (h5 : (c.maxLocals == mx && c.exceptionTable.isEmpty && decide (c.maxStack ≤ mostOperands) && decide (meth.sig.returnType = rt) && !meth.locks && decide (parseMethodDescriptor y.desc = some meth.sig)) = true) : (Jvm.Cond.code y bytes mx rt).before a s = true := by
  simp only [Bool.and_eq_true, beq_iff_eq, Bool.not_eq_true', decide_eq_true_eq] at h5
  obtain ⟨⟨⟨⟨⟨g1, g2⟩, g3⟩, g4⟩, g5⟩, g6⟩ := h5
  simp [Cond.before, Cond.holds, Cond.value, h1, h2, h3, h4, g1, g2, g3, g4, g5, g6]
def isCode : Jvm.Cond → Bool
  | .code _ _ _ _ => true
  | _ => false
theorem all_split {L : List Jvm.Cond} {P : Jvm.Cond → Bool} (h1 : L.all (fun c => isCode c || P c) = true) (h2 : ∀ c ∈ L.filter isCode, P c = true) : L.all P = true := by
  refine List.all_eq_true.mpr fun c hc => ?_
  have h := List.all_eq_true.mp h1 c hc
  rcases Bool.eq_false_or_eq_true (isCode c) with hi | hi
  · exact h2 c (List.mem_filter.mpr ⟨hc, hi⟩)
  · simpa [hi] using h
set_option maxRecDepth 65536 in
theorem w_c0 : (Jvm.Cond.code x code maxLocals ret).before args0 about1 = true := code_word (m := ⟨1, 1⟩) (meth := k1m1) (c := k1c1) (by decide +kernel) rfl rfl rfl (by decide +kernel)
set_option maxRecDepth 65536 in
theorem w_c1 : (Jvm.Cond.code ({ cls := "java/lang/Math", name := "min", desc := "(II)I" } : Jvm.MethodName) jdk_29_method_69_code (2 : Nat) (Option.some Jvm.ClassFile.FieldType.int)).before args0 about1 = true := code_word (m := ⟨2, 1⟩) (meth := k2m1) (c := k2c1) (by decide +kernel) rfl rfl rfl (by decide +kernel)
set_option maxRecDepth 65536 in
theorem w_c2 : (Jvm.Cond.code ({ cls := "com/example/auditloom/auditloom/Utf8", name := "startsWithByteOrderMark", desc := "([BII)Z" } : Jvm.MethodName) prog_12_method_2_code (3 : Nat) (Option.some Jvm.ClassFile.FieldType.boolean)).before args0 about1 = true := code_word (m := ⟨3, 1⟩) (meth := k3m1) (c := k3c1) (by decide +kernel) rfl rfl rfl (by decide +kernel)
def codes1 : List Jvm.Cond := [Jvm.Cond.code x code maxLocals ret, Jvm.Cond.code ({ cls := "java/lang/Math", name := "min", desc := "(II)I" } : Jvm.MethodName) jdk_29_method_69_code (2 : Nat) (Option.some Jvm.ClassFile.FieldType.int), Jvm.Cond.code ({ cls := "com/example/auditloom/auditloom/Utf8", name := "startsWithByteOrderMark", desc := "([BII)Z" } : Jvm.MethodName) prog_12_method_2_code (3 : Nat) (Option.some Jvm.ClassFile.FieldType.boolean)]
set_option maxRecDepth 65536 in
theorem codes_eq : words1.filter isCode = codes1 := rfl
theorem w_codes : ∀ c ∈ words1.filter isCode, c.before args0 about1 = true := by
  rw [codes_eq]
  intro c hc
  simp only [codes1, List.mem_cons, List.not_mem_nil, or_false] at hc
  rcases hc with rfl | rfl | rfl
  · exact w_c0
  · exact w_c1
  · exact w_c2
set_option maxRecDepth 65536 in
theorem w_t1 : words1.all (fun c => isCode c || c.before args0 about1) = true := by decide +kernel
theorem w_tables : (allAtoms (Jvm.Cond.code x code maxLocals ret :: tables_1)).before args0 about1 = true := by
  rw [allAtoms_all]
  show words1.all (fun c => c.before args0 about1) = true
  refine all_split ?_ w_codes
  rw [w_t1]
set_option maxRecDepth 65536 in
theorem w_case : (Jvm.Cond.and given_1 narrow_1).before args0 about1 = true := by decide +kernel
theorem w_applies : (headSpec (Jvm.Cond.code x code maxLocals ret :: tables_1) room_1).applies x e0.platform about1 = true :=
  (Spec.applies_iff w_frames).mpr ⟨w_running, w_runnable, w_alone, w_named, w_hears, w_ripe, w_room, w_tables⟩
theorem atStart : AtStart classFile x code maxLocals ret World_1 tables_1 room_1 Calls_1 rest_1 Pre_1 launch0 p0 e0 about1 theMethod args0 below0 :=
  ⟨lists_1, trivial, launch0.admits_env _ _ _, launch0.least_env, fairChoices_fair.cas, fairChoices_fair.clock, w_frames, w_args, w_heap, w_applies, trivial, trivial, w_case⟩
end start1
theorem witness_1 : WitnessClaimed_1 := ⟨start1.p0, start1.e0, start1.about1, start1.theMethod, start1.args0, start1.below0, start1.atStart⟩
end Jvm.Pilot.@@N@@
