import JvmDerived
import JvmDerived.Pilot.@@N@@Statement
import JvmDerived.Pilot.@@N@@Code
set_option linter.unusedVariables false
set_option linter.unusedSimpArgs false
namespace Jvm.Pilot.@@N@@
open Jvm Jvm.ClassFile Sem Op Lib Jvm.Free Jvm.Stand Jvm.LawKit Jvm.RoadKit Bundle Jvm.Pilot.@@N@@.Jvm.D
section OwnKit
variable {p : Program} {l : Launch} {e : Env} {R : Room} {s : State} {m : MethodId} {args : Array Value} {below : List Frame} {meth : Method} {c : Code} {T : State} {locs : List Loc} {cells slots : Nat} {Z : State} {a0 : Array Value} {h h' : Heap}
/-- what a body leaves: its value, the heap, the places written -/
abbrev own_P := Option Value → Heap → List Loc → Prop
/-- from here the run comes back, and leaves P -/
def own_Go (p : Program) (e : Env) (below : List Frame) (s : State) (P : own_P) (kc ks : Nat) (A : State) : Prop :=
  ∃ s₂ o, Steps p.tables e below A s₂ ∧ s₂.status = .running ∧ Ended s₂ below o ∧ ∃ v L, o = Outcome.returned v ∧ P v s₂.heap L ∧ FrameEnd s o s₂ L kc ks
theorem own_st {P : own_P} {kc ks : Nat} {A B : State} (hs : ∀ t, Steps p.tables e below B t → Steps p.tables e below A t) (k : own_Go p e below s P kc ks B) : own_Go p e below s P kc ks A := by
  obtain ⟨s₂, o, h1, h2⟩ := k
  exact ⟨s₂, o, hs _ h1, h2⟩
theorem own_stT {P : own_P} {kc ks : Nat} {A B : State} (hs : Steps p.tables e below A B) (k : own_Go p e below s P kc ks B) : own_Go p e below s P kc ks A := by
  obtain ⟨s₂, o, h1, h2⟩ := k
  exact ⟨s₂, o, hs.trans h1, h2⟩
theorem own_end (X : Stand p l e R s m args below meth c T locs cells slots) (hx : p.tables.exec = Jvm.exec) (hlk : meth.locks = false) {P : own_P} {kc ks : Nat} {pc : Nat} {Ls : Array Slot} {w : Value} {t : FieldType} {i : Instr} {rest : List Value} (hret : meth.sig.returnType = some t) (hn : narrow t w = w)
    (hi : (i = .ireturn ∧ (t = .int ∨ t = .boolean ∨ t = .byte ∨ t = .char ∨ t = .short) ∧ ∃ z, w = .int z) ∨ (i = .lreturn ∧ t = .long ∧ ∃ z, w = .long z) ∨ (i = .dreturn ∧ t = .double ∧ ∃ z, w = .double z) ∨ (i = .freturn ∧ t = .float ∧ ∃ z, w = .float z) ∨ (i = .areturn ∧ t.isReference = true ∧ w.isRef = true))
    (hd : decode c.code pc = .ok (i, 1)) (hP : P (some w) T.heap locs) (hc : cells ≤ kc) (hs : slots ≤ ks) : own_Go p e below s P kc ks (T.setTop (mkF m pc Ls (w :: rest))) := by
  obtain ⟨fs, hr, hrun, hended, hW, hsame⟩ := X.leave (v := some w) (fun h => by rw [hret] at h; cases h) hlk
  exact ⟨_, _, retOut X hx hret hn hi hd hr, hrun, hended, _, _, rfl, hP, ⟨_, rfl⟩, hW, hsame.mono hc hs⟩
theorem own_endI (X : Stand p l e R s m args below meth c T locs cells slots) (hx : p.tables.exec = Jvm.exec) (hlk : meth.locks = false) {P : own_P} {kc ks : Nat} {pc : Nat} {Ls : Array Slot} {z : Int32} {rest : List Value} (hret : meth.sig.returnType = some .int)
    (hd : decode c.code pc = .ok (.ireturn, 1)) (hP : P (some (.int z)) T.heap locs) (hc : cells ≤ kc) (hs : slots ≤ ks) : own_Go p e below s P kc ks (T.setTop (mkF m pc Ls (.int z :: rest))) :=
  own_end X hx hlk hret rfl (Or.inl ⟨rfl, Or.inl rfl, z, rfl⟩) hd hP hc hs
theorem own_endJ (X : Stand p l e R s m args below meth c T locs cells slots) (hx : p.tables.exec = Jvm.exec) (hlk : meth.locks = false) {P : own_P} {kc ks : Nat} {pc : Nat} {Ls : Array Slot} {z : Int64} {rest : List Value} (hret : meth.sig.returnType = some .long)
    (hd : decode c.code pc = .ok (.lreturn, 1)) (hP : P (some (.long z)) T.heap locs) (hc : cells ≤ kc) (hs : slots ≤ ks) : own_Go p e below s P kc ks (T.setTop (mkF m pc Ls (.long z :: rest))) :=
  own_end X hx hlk hret rfl (Or.inr (Or.inl ⟨rfl, rfl, z, rfl⟩)) hd hP hc hs
theorem own_endA (X : Stand p l e R s m args below meth c T locs cells slots) (hx : p.tables.exec = Jvm.exec) (hlk : meth.locks = false) {P : own_P} {kc ks : Nat} {pc : Nat} {Ls : Array Slot} {a : Addr} {t : FieldType} {rest : List Value} (hret : meth.sig.returnType = some t) (ht : t.isReference = true) (hn : narrow t (.ref a) = .ref a)
    (hd : decode c.code pc = .ok (.areturn, 1)) (hP : P (some (.ref a)) T.heap locs) (hc : cells ≤ kc) (hs : slots ≤ ks) : own_Go p e below s P kc ks (T.setTop (mkF m pc Ls (.ref a :: rest))) :=
  own_end X hx hlk hret hn (Or.inr (Or.inr (Or.inr (Or.inr ⟨rfl, ht, rfl⟩)))) hd hP hc hs
/-- a boolean, byte, char, short comes back narrowed -/
theorem own_endN (X : Stand p l e R s m args below meth c T locs cells slots) (hx : p.tables.exec = Jvm.exec) (hlk : meth.locks = false) {P : own_P} {kc ks : Nat} {pc : Nat} {Ls : Array Slot} {z : Int32} {t : FieldType} {rest : List Value} (hret : meth.sig.returnType = some t) (ht : t = .boolean ∨ t = .byte ∨ t = .char ∨ t = .short)
    (hd : decode c.code pc = .ok (.ireturn, 1)) {w : Int32} (hz : nar t z = w) (hP : P (some (.int w)) T.heap locs) (hc : cells ≤ kc) (hs : slots ≤ ks) : own_Go p e below s P kc ks (T.setTop (mkF m pc Ls (.int z :: rest))) := by
  subst hz
  obtain ⟨fs, hr, hrun, hended, hW, hsame⟩ := X.leave (v := some (.int (nar t z))) (fun h => by rw [hret] at h; cases h) hlk
  exact ⟨_, _, retN X hx hret ht hd hr, hrun, hended, _, _, rfl, hP, ⟨_, rfl⟩, hW, hsame.mono hc hs⟩
theorem own_endV (X : Stand p l e R s m args below meth c T locs cells slots) (hx : p.tables.exec = Jvm.exec) (hlk : meth.locks = false) {P : own_P} {kc ks : Nat} {pc : Nat} {Ls : Array Slot} (hret : meth.sig.returnType = none)
    (hd : decode c.code pc = .ok (.return_, 1)) (hP : P none T.heap locs) (hc : cells ≤ kc) (hs : slots ≤ ks) : own_Go p e below s P kc ks (T.setTop (mkF m pc Ls [])) := by
  obtain ⟨fs, hr, hrun, hended, hW, hsame⟩ := X.leave (v := none) (fun _ => rfl) hlk
  exact ⟨_, _, X.returnOut hx hret hd hr, hrun, hended, _, _, rfl, hP, ⟨_, rfl⟩, hW, hsame.mono hc hs⟩
/-- a body's contract -/
def own_Met (l : Launch) (Z : State) (y : MethodName) (bytes : ByteArray) (maxL : Nat) (ret : Option FieldType) (rm : Room) (as : Array Value) (h : Heap) (Q : own_P) : Prop :=
  ∀ ws : List Jvm.Cond, MetFree l y (head1 (Jvm.Cond.code y bytes maxL ret :: ws) rm) (fun a U => a = as ∧ Z.Warmed39 U.vm ∧ U.heap = h) (fun _ _ _ _ _ => True) (fun _ U o U' => ∃ v L, o = .returned v ∧ Q v U'.heap L ∧ FrameEnd U o U' L rm.cells rm.slots)
theorem own_in {y : MethodName} {bytes : ByteArray} {maxL : Nat} {ret : Option FieldType} {rm : Room} {as : Array Value} {Q : own_P} (pn : plainFor y = true)
    (body : ∀ (p : Program) (e : Env) (s : State) (m : MethodId) (below : List Frame) (meth : Method) (c : Code) (s₁ : State), p.tables.exec = Jvm.exec → c.code = bytes → c.maxLocals = maxL → s.vm.findClass y.cls = some m.cls → meth.name = y.name → meth.locks = false → meth.sig.returnType = ret → Z.Warmed39 s.vm →
      Stand p l e rm s m as below meth c s₁ [] 0 0 → s₁.heap = h → own_Go p e below s Q rm.cells rm.slots (s₁.setTop (entryFrame m as maxL))) : own_Met l Z y bytes maxL ret rm as h Q := by
  intro ws
  refine MetFree.of_bodySF pn hisR ?_
  intro p e s m args below meth c s₁ Bd hml hP hK
  obtain ⟨rfl, hZ, hh⟩ := hP
  exact body p e s m below meth c s₁ Bd.exec Bd.bytes hml (findClass_of_methodNamed Bd.named) (name_of_methodNamed Bd.named Bd.method).1 (BodyLoose.notSynchronized Bd) Bd.returns hZ (Stand.of_body Bd) (by rw [← hh, Bd.state]; rfl)
theorem own_ef {tbp : Program} {P : own_P} {kc ks : Nat} {g g' : JFrame} (q : g = g') (k : own_Go tbp e below s P kc ks (T.setTop g')) : own_Go tbp e below s P kc ks (T.setTop g) := q ▸ k
/-- a static call by its contract -/
theorem own_cS (X : Stand p l e R s m args below meth c T locs cells slots) (hx : p.tables.exec = Jvm.exec) {ml : Nat} (hml : c.maxLocals = ml) (hZ : Z.Warmed39 s.vm) {own : String} {index : Nat} {y : MethodName} {bytes : ByteArray} {maxL : Nat} {ret : Option FieldType} {rm : Room} {as : Array Value} {Q : own_P}
    (hown : s.vm.findClass own = some m.cls) (w1 : (Jvm.Cond.methodLink own index y).before a0 Z = true) (w2 : (Jvm.Cond.static y).before a0 Z = true) (w3 : (Jvm.Cond.initialized y.cls).before a0 Z = true) (w4 : (Jvm.Cond.code y bytes maxL ret).before a0 Z = true)
    (hy : y.cls ≠ "java/lang/invoke/MethodHandle" ∧ y.cls ≠ "java/lang/invoke/VarHandle") (hM : own_Met l Z y bytes maxL ret rm as h Q) (eT : T.heap = h) (hf : rm.frames + 1 ≤ R.frames) {W : Nat} (hl : W + (maxL + 11) + rm.locals ≤ R.locals)
    {g : JFrame} (hg : g.method = m) (hsize : g.locals.size = ml) {ps : List FieldType} {r : Option FieldType} (hpd : parseMethodDescriptor y.desc = some ⟨ps, r⟩) {argsL rest : List Value} (hlen : argsL.length = ps.length) (has : argsL.toArray = as) (hst : g.stack = argsL.reverse ++ rest)
    (hW : 2 * g.monitorRoom + (rest.map fun v => v.category).sum ≤ W) (hd : decode c.code g.pc = .ok (.invokestatic index, 3)) (hc : cells + rm.cells ≤ R.cells) (hs : slots + rm.slots ≤ R.slots) {P : own_P} {kc ks : Nat}
    (k : ∀ T' L v, Stand p l e R s m args below meth c T' (locs ++ L) (cells + rm.cells) (slots + rm.slots) → Q v T'.heap L → own_Go p e below s P kc ks (T'.setTop { g with pc := g.pc + 3, stack := v.toList ++ rest })) : own_Go p e below s P kc ks (T.setTop g) := by
  obtain ⟨v, vm, ⟨T', L', k', n'⟩, -, X', ⟨L, hQ, hl', hk', hn'⟩, st⟩ := Jvm.LawKit.callS X hx (y := y) hown (mvT hZ w1) (mvT hZ w2) (mvT hZ w3) (mvT hZ w4) hy (backOf (W := W) (hM []) hZ w4 w3 hf hl) hg (hsize.trans hml.symm) (argsL := argsL) (rest := rest) (lenOf hpd hlen) hst hW hd (fun _ _ => ⟨has, eT, hc, hs⟩)
  dsimp only [Pt.U, Pt.locs, Pt.cells, Pt.slots] at X' hl' hk' hn' st hQ
  subst hl' hk' hn'
  exact own_st st (k T' L v X' hQ)
/-- an instance method by its contract -/
theorem own_cV (X : Stand p l e R s m args below meth c T locs cells slots) (hx : p.tables.exec = Jvm.exec) {ml : Nat} (hml : c.maxLocals = ml) (hZ : Z.Warmed39 s.vm) {own C : String} {index : Nat} {y : MethodName} {bytes : ByteArray} {maxL : Nat} {ret : Option FieldType} {rm : Room} {as : Array Value} {Q : own_P}
    (hown : s.vm.findClass own = some m.cls) (w1 : (Jvm.Cond.methodLink own index y).before a0 Z = true) (w2 : (Jvm.Cond.declares y).before a0 Z = true) (w5 : (Jvm.Cond.selects C y y).before a0 Z = true) (w6 : (Jvm.Cond.instanceMethod y).before a0 Z = true) (w3 : (Jvm.Cond.initialized y.cls).before a0 Z = true) (w4 : (Jvm.Cond.code y bytes maxL ret).before a0 Z = true)
    (hy : y.cls ≠ "java/lang/invoke/MethodHandle" ∧ y.cls ≠ "java/lang/invoke/VarHandle") (hM : own_Met l Z y bytes maxL ret rm as h Q) (eT : T.heap = h) {b : Addr} (EX : Exa Z h b C) (hf : rm.frames + 1 ≤ R.frames) {W : Nat} (hl : W + (maxL + 11) + rm.locals ≤ R.locals)
    {g : JFrame} (hg : g.method = m) (hsize : g.locals.size = ml) {ps : List FieldType} {r : Option FieldType} (hpd : parseMethodDescriptor y.desc = some ⟨ps, r⟩) {argsL rest : List Value} (hlen : argsL.length = ps.length) (has : (.ref b :: argsL).toArray = as) (hst : g.stack = argsL.reverse ++ .ref b :: rest)
    (hW : 2 * g.monitorRoom + (rest.map fun v => v.category).sum ≤ W) (hd : decode c.code g.pc = .ok (.invokevirtual index, 3)) (hc : cells + rm.cells ≤ R.cells) (hs : slots + rm.slots ≤ R.slots) {P : own_P} {kc ks : Nat}
    (k : ∀ T' L v, Stand p l e R s m args below meth c T' (locs ++ L) (cells + rm.cells) (slots + rm.slots) → Q v T'.heap L → own_Go p e below s P kc ks (T'.setTop { g with pc := g.pc + 3, stack := v.toList ++ rest })) : own_Go p e below s P kc ks (T.setTop g) := by
  obtain ⟨cq, kq, qa, qb, qc⟩ := isOf hZ eT EX
  obtain ⟨v, vm, ⟨T', L', k', n'⟩, -, X', ⟨L, hQ, hl', hk', hn'⟩, st⟩ := X.virtualBack hx (y := y) (z := y) hown (mvT hZ w1) (mvT hZ w2) (notFace_of_selects (args := #[]) (mvT hZ w5)) (mvT hZ w5) (mvT hZ w6) hy (backOf (W := W) (hM []) hZ w4 w3 hf hl) qa qc hg (hsize.trans hml.symm) (Steps.refl _) (argsL := argsL) (rest := rest) (lenOf hpd hlen) hst hW hd (fun _ _ => ⟨has, eT, hc, hs⟩)
  dsimp only [Pt.U, Pt.locs, Pt.cells, Pt.slots] at X' hl' hk' hn' st hQ
  subst hl' hk' hn'
  exact own_stT st (k T' L v X' hQ)
/-- a private method by its contract -/
theorem own_cP (X : Stand p l e R s m args below meth c T locs cells slots) (hx : p.tables.exec = Jvm.exec) {ml : Nat} (hml : c.maxLocals = ml) (hZ : Z.Warmed39 s.vm) {own C : String} {index nn : Nat} {y : MethodName} {bytes : ByteArray} {maxL : Nat} {ret : Option FieldType} {rm : Room} {as : Array Value} {Q : own_P}
    (hown : s.vm.findClass own = some m.cls) (w1 : (Jvm.Cond.methodLink own index y).before a0 Z = true) (w2 : (Jvm.Cond.instanceMethod y).before a0 Z = true) (w5 : (Jvm.Cond.privateMethod y).before a0 Z = true) (wi : (Jvm.Cond.instantiable y.cls nn).before a0 Z = true) (w3 : (Jvm.Cond.initialized y.cls).before a0 Z = true) (w4 : (Jvm.Cond.code y bytes maxL ret).before a0 Z = true)
    (hy : y.cls ≠ "java/lang/invoke/MethodHandle" ∧ y.cls ≠ "java/lang/invoke/VarHandle") (hM : own_Met l Z y bytes maxL ret rm as h Q) (eT : T.heap = h) {b : Addr} (EX : Exa Z h b C) (hf : rm.frames + 1 ≤ R.frames) {W : Nat} (hl : W + (maxL + 11) + rm.locals ≤ R.locals)
    {g : JFrame} (hg : g.method = m) (hsize : g.locals.size = ml) {ps : List FieldType} {r : Option FieldType} (hpd : parseMethodDescriptor y.desc = some ⟨ps, r⟩) {argsL rest : List Value} (hlen : argsL.length = ps.length) (has : (.ref b :: argsL).toArray = as) (hst : g.stack = argsL.reverse ++ .ref b :: rest)
    (hW : 2 * g.monitorRoom + (rest.map fun v => v.category).sum ≤ W) (hd : decode c.code g.pc = .ok (.invokevirtual index, 3)) (hc : cells + rm.cells ≤ R.cells) (hs : slots + rm.slots ≤ R.slots) {P : own_P} {kc ks : Nat}
    (k : ∀ T' L v, Stand p l e R s m args below meth c T' (locs ++ L) (cells + rm.cells) (slots + rm.slots) → Q v T'.heap L → own_Go p e below s P kc ks (T'.setTop { g with pc := g.pc + 3, stack := v.toList ++ rest })) : own_Go p e below s P kc ks (T.setTop g) := by
  obtain ⟨cq, q1, q2⟩ := EX.cell
  have hpriv : s.PrivateAt y := Cond.privateMethod_at (mvP hZ w5 (args := #[]))
  have hsel : (Jvm.Cond.selects y.cls y y).before args s = true := by
    have wi' : (Jvm.Cond.instantiable y.cls nn).before args s = true := mvT hZ wi
    obtain ⟨c2, k2, f1, f2, f3, f4, -⟩ := Cond.instantiable_spec wi'
    exact selects_self_of_private f1 f2 (Bool.or_eq_false_iff.mp f4).1 hpriv (mvT hZ w2) hy
  obtain ⟨v, vm, ⟨T', L', k', n'⟩, -, X', ⟨L, hQ, hl', hk', hn'⟩, st⟩ := X.privateBack hx (y := y) hown (mvT hZ w1) (mvT hZ w2) hsel hpriv (mvT hZ w4) hy (backOf (W := W) (hM []) hZ w4 w3 hf hl) hg (hsize.trans hml.symm) (Steps.refl _) (a := b) (by rw [eT]; exact q1) q2 (argsL := argsL) (rest := rest) (lenOf hpd hlen) hst hW hd (fun _ _ => ⟨has, eT, hc, hs⟩)
  dsimp only [Pt.U, Pt.locs, Pt.cells, Pt.slots] at X' hl' hk' hn' st hQ
  subst hl' hk' hn'
  exact own_stT st (k T' L v X' hQ)
/-- a constructor by its contract -/
theorem own_cN (X : Stand p l e R s m args below meth c T locs cells slots) (hx : p.tables.exec = Jvm.exec) {ml : Nat} (hml : c.maxLocals = ml) (hZ : Z.Warmed39 s.vm) {own : String} {index : Nat} {y : MethodName} {bytes : ByteArray} {maxL : Nat} {rm : Room} {as : Array Value} {Q : own_P} (hy1 : y.name = "<init>")
    (hown : s.vm.findClass own = some m.cls) (w1 : (Jvm.Cond.methodLink own index y).before a0 Z = true) (w2 : (Jvm.Cond.instanceMethod y).before a0 Z = true) (w3 : (Jvm.Cond.initialized y.cls).before a0 Z = true) (w4 : (Jvm.Cond.code y bytes maxL none).before a0 Z = true)
    (hy : y.cls ≠ "java/lang/invoke/MethodHandle" ∧ y.cls ≠ "java/lang/invoke/VarHandle") (hM : own_Met l Z y bytes maxL none rm as h Q) (eT : T.heap = h) (hf : rm.frames + 1 ≤ R.frames) {W : Nat} (hl : W + (maxL + 11) + rm.locals ≤ R.locals)
    {g : JFrame} (hg : g.method = m) (hsize : g.locals.size = ml) {ps : List FieldType} {r : Option FieldType} (hpd : parseMethodDescriptor y.desc = some ⟨ps, r⟩) {b : Addr} {argsL rest : List Value} (hlen : argsL.length = ps.length) (has : (.ref b :: argsL).toArray = as) (hst : g.stack = argsL.reverse ++ .ref b :: rest)
    (hW : 2 * g.monitorRoom + (rest.map fun v => v.category).sum ≤ W) (hd : decode c.code g.pc = .ok (.invokespecial index, 3)) (hc : cells + rm.cells ≤ R.cells) (hs : slots + rm.slots ≤ R.slots) {P : own_P} {kc ks : Nat}
    (k : ∀ T' L v, Stand p l e R s m args below meth c T' (locs ++ L) (cells + rm.cells) (slots + rm.slots) → Q v T'.heap L → own_Go p e below s P kc ks (T'.setTop { g with pc := g.pc + 3, stack := v.toList ++ rest })) : own_Go p e below s P kc ks (T.setTop g) := by
  obtain ⟨v, vm, ⟨T', L', k', n'⟩, -, X', ⟨L, hQ, hl', hk', hn'⟩, st⟩ := X.specialBack hx (y := y) hy1 hown (mvT hZ w1) (mvT hZ w2) (mvT hZ w4) hy (backOf (W := W) (hM []) hZ w4 w3 hf hl) hg (hsize.trans hml.symm) (Steps.refl _) (a := b) (argsL := argsL) (rest := rest) (lenOf hpd hlen) hst hW hd (fun _ _ => ⟨has, eT, hc, hs⟩)
  dsimp only [Pt.U, Pt.locs, Pt.cells, Pt.slots] at X' hl' hk' hn' st hQ
  subst hl' hk' hn'
  exact own_stT st (k T' L v X' hQ)
/-- an array of n places: place j holds f j -/
def own_Av (Z : State) (h : Heap) (a : Addr) (ty : FieldType) (n : Nat) (f : Nat → Value) : Prop :=
  n < 2147483648 ∧ ∃ cl : Cell, Arr Z h a cl ty ∧ cl.slots.size = n ∧ ∀ j, j < n → cl.slots[j]? = some (f j)
theorem own_Av.lt {a : Addr} {ty : FieldType} {n : Nat} {f : Nat → Value} (V : own_Av Z h a ty n f) : a < h.size := by
  obtain ⟨-, cl, A, -⟩ := V
  exact A.lt
theorem own_Av.ext {a : Addr} {ty : FieldType} {n : Nat} {f : Nat → Value} (V : own_Av Z h a ty n f) (E : Ext h h') : own_Av Z h' a ty n f := by
  obtain ⟨hn, cl, A, r⟩ := V
  exact ⟨hn, cl, A.ext E, r⟩
theorem own_Av.other {a b : Addr} {ty : FieldType} {n sl : Nat} {f : Nat → Value} {v : Value} (V : own_Av Z h b ty n f) (W : Wr h h' a sl v) (q : b ≠ a) : own_Av Z h' b ty n f := by
  obtain ⟨hn, cl, A, r⟩ := V
  exact ⟨hn, cl, A.other W q, r⟩
theorem own_Av.keep {a : Addr} {ty : FieldType} {n : Nat} {f : Nat → Value} {ws : List Addr} (V : own_Av Z h a ty n f) (K : Keep h h' ws) (q : a ∉ ws) : own_Av Z h' a ty n f := by
  obtain ⟨hn, cl, A, r⟩ := V
  exact ⟨hn, cl, ⟨K.2.1 a cl A.1 q, A.2⟩, r⟩
theorem own_Av.congr {a : Addr} {ty : FieldType} {n : Nat} {f g : Nat → Value} (V : own_Av Z h a ty n f) (q : ∀ j, j < n → f j = g j) : own_Av Z h a ty n g := by
  obtain ⟨hn, cl, A, r1, r2⟩ := V
  exact ⟨hn, cl, A, r1, fun j hj => by rw [r2 j hj, q j hj]⟩
theorem own_Av.same {a : Addr} {ty : FieldType} {n i : Nat} {f : Nat → Value} {v : Value} (V : own_Av Z h a ty n f) (W : Wr h h' a i v) : own_Av Z h' a ty n (fun j => if j = i then v else f j) := by
  obtain ⟨hn, cl, A, r1, r2⟩ := V
  refine ⟨hn, cl.setSlot i v, A.same W, by rw [sz_set, r1], fun j hj => ?_⟩
  have hj' : j < cl.slots.size := by rw [r1]; exact hj
  by_cases q : j = i
  · subst q
    simp [Cell.setSlot, hj']
  · have q' : ¬ i = j := fun u => q u.symm
    simp only [Cell.setSlot, if_neg q]
    rw [Array.getElem?_setIfInBounds_ne q']
    exact r2 j hj
theorem own_Av.new {a : Addr} {ty : FieldType} {k : ClassId} {z : Int32} {n : Nat} (A : Arr Z h a (newA k ty z) ty) (hz : z.toInt = n) : own_Av Z h a ty n (fun _ => defaultValue ty) := by
  have h1 : z.toNatClampNeg = n := by
    show z.toInt.toNat = n
    rw [hz]; rfl
  have h2 : z.toInt < 2147483648 := Int32.toInt_lt z
  refine ⟨by omega, _, A, by rw [sz_new, h1], fun j hj => ?_⟩
  simp [newA, h1, hj]
theorem own_ix {j : Int32} {i n : Nat} (hj : j.toInt = i) (hi : i < n) : ¬ (j < 0 ∨ n ≤ j.toNatClampNeg) ∧ j.toNatClampNeg = i := by
  have h1 : j.toNatClampNeg = i := by
    show j.toInt.toNat = i
    rw [hj]; rfl
  refine ⟨?_, h1⟩
  rintro (q | q)
  · rw [Int32.lt_iff_toInt_lt, hj] at q
    have : (0 : Int32).toInt = 0 := by decide
    omega
  · omega
theorem own_ldI (X : Stand p l e R s m args below meth c T locs cells slots) (hx : p.tables.exec = Jvm.exec) (hZ : Z.Warmed39 s.vm) (eT : T.heap = h) {a : Addr} {n : Nat} {f : Nat → Value} (V : own_Av Z h a .int n f) {j : Int32} {i : Nat} (hj : j.toInt = i) (hi : i < n) {v : Value} (hv : f i = v)
    {g : JFrame} (hg : g.method = m) {rest : List Value} (hs : g.stack = .int j :: .ref a :: rest) (hd : decode c.code g.pc = .ok (.iaload, 1)) :
    ∀ t, Steps p.tables e below (T.setTop { g with pc := g.pc + 1, stack := v :: rest }) t → Steps p.tables e below (T.setTop g) t := by
  obtain ⟨-, cl, A, r1, r2⟩ := V
  obtain ⟨q1, q2⟩ := own_ix hj (n := cl.slots.size) (by rw [r1]; exact hi)
  exact X.iaload hx (by rw [eT]; exact A.1) (State.isArrayOf_alike hZ.alike A.2.1) A.2.2 q1 (by rw [q2, r2 i hi, hv]) hg hs hd
theorem own_ldB (X : Stand p l e R s m args below meth c T locs cells slots) (hx : p.tables.exec = Jvm.exec) (hZ : Z.Warmed39 s.vm) (eT : T.heap = h) {a : Addr} {n : Nat} {f : Nat → Value} (V : own_Av Z h a .byte n f) {j : Int32} {i : Nat} (hj : j.toInt = i) (hi : i < n) {v : Value} (hv : f i = v)
    {g : JFrame} (hg : g.method = m) {rest : List Value} (hs : g.stack = .int j :: .ref a :: rest) (hd : decode c.code g.pc = .ok (.baload, 1)) :
    ∀ t, Steps p.tables e below (T.setTop { g with pc := g.pc + 1, stack := v :: rest }) t → Steps p.tables e below (T.setTop g) t := by
  obtain ⟨-, cl, A, r1, r2⟩ := V
  obtain ⟨q1, q2⟩ := own_ix hj (n := cl.slots.size) (by rw [r1]; exact hi)
  exact X.baloadBytes hx (by rw [eT]; exact A.1) (State.isArrayOf_alike hZ.alike A.2.1) A.2.2 q1 (by rw [q2, r2 i hi, hv]) hg hs hd
theorem own_ldJ (X : Stand p l e R s m args below meth c T locs cells slots) (hx : p.tables.exec = Jvm.exec) (hZ : Z.Warmed39 s.vm) (eT : T.heap = h) {a : Addr} {n : Nat} {f : Nat → Value} (V : own_Av Z h a .long n f) {j : Int32} {i : Nat} (hj : j.toInt = i) (hi : i < n) {v : Value} (hv : f i = v)
    {g : JFrame} (hg : g.method = m) {rest : List Value} (hs : g.stack = .int j :: .ref a :: rest) (hd : decode c.code g.pc = .ok (.laload, 1)) :
    ∀ t, Steps p.tables e below (T.setTop { g with pc := g.pc + 1, stack := v :: rest }) t → Steps p.tables e below (T.setTop g) t := by
  obtain ⟨-, cl, A, r1, r2⟩ := V
  obtain ⟨q1, q2⟩ := own_ix hj (n := cl.slots.size) (by rw [r1]; exact hi)
  exact X.laload hx (by rw [eT]; exact A.1) (State.isArrayOf_alike hZ.alike A.2.1) A.2.2 q1 (by rw [q2, r2 i hi, hv]) hg hs hd
theorem own_len (X : Stand p l e R s m args below meth c T locs cells slots) (hx : p.tables.exec = Jvm.exec) (hZ : Z.Warmed39 s.vm) (eT : T.heap = h) {a : Addr} {ty : FieldType} {n : Nat} {f : Nat → Value} (V : own_Av Z h a ty n f) {z : Int32} (hz : z.toInt = n)
    {g : JFrame} (hg : g.method = m) {rest : List Value} (hs : g.stack = .ref a :: rest) (hd : decode c.code g.pc = .ok (.arraylength, 1)) :
    ∀ t, Steps p.tables e below (T.setTop { g with pc := g.pc + 1, stack := .int z :: rest }) t → Steps p.tables e below (T.setTop g) t := by
  obtain ⟨hn, cl, A, r1, r2⟩ := V
  have q : cl.slots.size.toInt32 = z := by
    rw [r1]
    apply Int32.toInt_inj.mp
    rw [hz]
    show (Int32.ofNat n).toInt = n
    rw [Int32.toInt_ofNat_of_lt (by omega)]
  intro t ht
  refine X.arraylength hx (by rw [eT]; exact A.1) (State.isArrayOf_alike hZ.alike A.2.1) hg hs hd t ?_
  rw [q]
  exact ht
theorem own_stI (X : Stand p l e R s m args below meth c T locs cells slots) (hx : p.tables.exec = Jvm.exec) (hZ : Z.Warmed39 s.vm) (eT : T.heap = h) {a : Addr} {n : Nat} {f : Nat → Int32} (V : own_Av Z h a .int n (fun t => .int (f t))) {j x : Int32} {i : Nat} (hj : j.toInt = i) (hi : i < n)
    {g : JFrame} (hg : g.method = m) {rest : List Value} (hs : g.stack = .int x :: .int j :: .ref a :: rest) (hd : decode c.code g.pc = .ok (.iastore, 1)) :
    ∃ T' h', Stand p l e R s m args below meth c T' (locs ++ [⟨a, i⟩]) cells slots ∧ T'.heap = h' ∧ Wr h h' a i (.int x) ∧ own_Av Z h' a .int n (fun t => .int (if t = i then x else f t)) ∧
      ∀ t, Steps p.tables e below (T'.setTop { g with pc := g.pc + 1, stack := rest }) t → Steps p.tables e below (T.setTop g) t := by
  have V' := V
  obtain ⟨-, cl, A, r1, r2⟩ := V
  obtain ⟨q1, q2⟩ := own_ix hj (n := cl.slots.size) (by rw [r1]; exact hi)
  obtain ⟨T', h', X', e', W', st⟩ := stI X hx hZ eT A q1 hg hs hd
  rw [q2] at X' W'
  exact ⟨T', h', X', e', W', (V'.same W').congr (fun j _ => by by_cases q : j = i <;> simp [q]), st⟩
theorem own_stB (X : Stand p l e R s m args below meth c T locs cells slots) (hx : p.tables.exec = Jvm.exec) (hZ : Z.Warmed39 s.vm) (eT : T.heap = h) {a : Addr} {n : Nat} {f : Nat → Int32} (V : own_Av Z h a .byte n (fun t => .int (f t))) {j x : Int32} {i : Nat} (hj : j.toInt = i) (hi : i < n)
    {g : JFrame} (hg : g.method = m) {rest : List Value} (hs : g.stack = .int x :: .int j :: .ref a :: rest) (hd : decode c.code g.pc = .ok (.bastore, 1)) :
    ∃ T' h', Stand p l e R s m args below meth c T' (locs ++ [⟨a, i⟩]) cells slots ∧ T'.heap = h' ∧ Wr h h' a i (.int (nar .byte x)) ∧ own_Av Z h' a .byte n (fun t => .int (if t = i then (nar .byte x) else f t)) ∧
      ∀ t, Steps p.tables e below (T'.setTop { g with pc := g.pc + 1, stack := rest }) t → Steps p.tables e below (T.setTop g) t := by
  have V' := V
  obtain ⟨-, cl, A, r1, r2⟩ := V
  obtain ⟨q1, q2⟩ := own_ix hj (n := cl.slots.size) (by rw [r1]; exact hi)
  obtain ⟨T', h', X', e', W', st⟩ := stB X hx hZ eT A q1 hg hs hd
  rw [q2] at X' W'
  exact ⟨T', h', X', e', W', (V'.same W').congr (fun j _ => by by_cases q : j = i <;> simp [q]), st⟩
theorem own_stJ (X : Stand p l e R s m args below meth c T locs cells slots) (hx : p.tables.exec = Jvm.exec) (hZ : Z.Warmed39 s.vm) (eT : T.heap = h) {a : Addr} {n : Nat} {f : Nat → Int64} (V : own_Av Z h a .long n (fun t => .long (f t))) {j : Int32} {x : Int64} {i : Nat} (hj : j.toInt = i) (hi : i < n)
    {g : JFrame} (hg : g.method = m) {rest : List Value} (hs : g.stack = .long x :: .int j :: .ref a :: rest) (hd : decode c.code g.pc = .ok (.lastore, 1)) :
    ∃ T' h', Stand p l e R s m args below meth c T' (locs ++ [⟨a, i⟩]) cells slots ∧ T'.heap = h' ∧ Wr h h' a i (.long x) ∧ own_Av Z h' a .long n (fun t => .long (if t = i then x else f t)) ∧
      ∀ t, Steps p.tables e below (T'.setTop { g with pc := g.pc + 1, stack := rest }) t → Steps p.tables e below (T.setTop g) t := by
  have V' := V
  obtain ⟨-, cl, A, r1, r2⟩ := V
  obtain ⟨q1, q2⟩ := own_ix hj (n := cl.slots.size) (by rw [r1]; exact hi)
  obtain ⟨T', h', X', e', W', st⟩ := stJ X hx hZ eT A q1 hg hs hd
  rw [q2] at X' W'
  exact ⟨T', h', X', e', W', (V'.same W').congr (fun j _ => by by_cases q : j = i <;> simp [q]), st⟩
/-- newarray: b is the fresh array's address -/
theorem own_newA (X : Stand p l e R s m args below meth c T locs cells slots) (hx : p.tables.exec = Jvm.exec) (hZ : Z.Warmed39 s.vm) {aty : ArrayType} (w : (Jvm.Cond.arrayClass (newarray.typeOf aty)).before a0 Z = true) (eT : T.heap = h) {g : JFrame} (hg : g.method = m) (hd : decode c.code g.pc = .ok (.newarray aty, 2)) {z : Int32} {rest : List Value} (hs : g.stack = .int z :: rest)
    {n cap : Nat} (hz : z.toInt = n) (hcap : n ≤ cap) (hb : cap * 8 ≤ 536870912) (hc : cells + 1 ≤ R.cells) (hl : slots + cap ≤ R.slots) :
    ∃ T' h' b, b = h.size ∧ Stand p l e R s m args below meth c T' locs (cells + 1) (slots + cap) ∧ T'.heap = h' ∧ Ext h h' ∧ own_Av Z h' b (newarray.typeOf aty) n (fun _ => defaultValue (newarray.typeOf aty)) ∧
      ∀ t, Steps p.tables e below (T'.setTop { g with pc := g.pc + 2, stack := .ref b :: rest }) t → Steps p.tables e below (T.setTop g) t := by
  have h1 : z.toNatClampNeg = n := by
    show z.toInt.toNat = n
    rw [hz]; rfl
  have h2 : ¬ z < 0 := by
    rw [Int32.lt_iff_toInt_lt, hz]
    have : (0 : Int32).toInt = 0 := by decide
    omega
  obtain ⟨T', h', cA, X', e', E', A', st⟩ := newP X hx hZ w eT hg hd hs h2 (cap := cap) (by omega) hb hc hl
  exact ⟨T', h', h.size, rfl, X', e', E', own_Av.new A' hz, st⟩
theorem own_nil {k : Nat} {L : List Loc} (N : Fr k L) {L' : List Loc} (q : L' = []) : Fr k (L ++ L') := by
  subst q
  rw [List.append_nil]
  exact N
/-- the walk's end, carried to the sheet -/
theorem own_cast {P : own_P} {kc ks : Nat} {A B : State} (q : A = B) (k : own_Go p e below s P kc ks B) : own_Go p e below s P kc ks A := q ▸ k
theorem own_bm {x : Int} (h1 : -2147483648 ≤ x) (h2 : x < 2147483648) : x.bmod (2 ^ 32) = x := by
  rw [Int.bmod_def]
  split <;> omega
theorem own_addN {a b : Int32} {i k : Nat} (ha : a.toInt = i) (hb : b.toInt = k) (hlt : i + k < 2147483648) : (a + b).toInt = ((i + k : Nat) : Int) := by
  rw [Int32.toInt_add, ha, hb, own_bm (by omega) (by omega)]
  omega
theorem own_add {a b : Int32} (h1 : -2147483648 ≤ a.toInt + b.toInt) (h2 : a.toInt + b.toInt < 2147483648) : (a + b).toInt = a.toInt + b.toInt := by
  rw [Int32.toInt_add, own_bm h1 h2]
theorem own_sub {a b : Int32} (h1 : -2147483648 ≤ a.toInt - b.toInt) (h2 : a.toInt - b.toInt < 2147483648) : (a - b).toInt = a.toInt - b.toInt := by
  rw [Int32.toInt_sub, own_bm h1 h2]
theorem own_mask (z K : Int32) {k : Nat} (hK : K.toInt = k) : ∃ i : Nat, (z &&& K).toInt = i ∧ i ≤ k := by
  have hk : K.toBitVec.toInt = k := hK
  have h1 : K.toBitVec.toNat = k := by
    rw [BitVec.toInt_eq_toNat_cond] at hk
    have := K.toBitVec.isLt
    split at hk <;> omega
  have h2 : 2 * K.toBitVec.toNat < 2 ^ 32 := by
    rw [BitVec.toInt_eq_toNat_cond] at hk
    have := K.toBitVec.isLt
    split at hk <;> omega
  have h3 : (z &&& K).toBitVec.toNat ≤ k := by
    show (z.toBitVec &&& K.toBitVec).toNat ≤ k
    rw [BitVec.toNat_and, ← h1]
    exact Nat.and_le_right
  refine ⟨(z &&& K).toBitVec.toNat, ?_, h3⟩
  show (z &&& K).toBitVec.toInt = _
  rw [BitVec.toInt_eq_toNat_cond, if_pos (by omega)]
theorem own_lt32 {a b : Int32} : a < b ↔ a.toInt < b.toInt := Int32.lt_iff_toInt_lt
theorem own_rem {a b : Int32} (ha : 0 ≤ a.toInt) (hb : 0 < b.toInt) : (a % b).toInt = a.toInt % b.toInt := by
  rw [Int32.toInt_mod]
  exact Int.tmod_eq_emod_of_nonneg ha
end OwnKit
theorem own_cl {x y : Int64} : XT.cmpL x y < 0 ↔ x.toInt < y.toInt := by
  unfold XT.cmpL
  have h1 : ¬ ((1 : Int32) < 0) := by decide
  have h2 : ¬ ((0 : Int32) < 0) := by decide
  have h3 : ((-1 : Int32) < 0) := by decide
  by_cases q : y < x
  · rw [if_pos q]
    refine ⟨fun u => absurd u h1, fun u => ?_⟩
    rw [Int64.lt_iff_toInt_lt] at q
    omega
  · rw [if_neg q]
    by_cases r : x = y
    · rw [if_pos r]
      refine ⟨fun u => absurd u h2, fun u => ?_⟩
      rw [r] at u
      omega
    · rw [if_neg r]
      refine ⟨fun _ => ?_, fun _ => h3⟩
      rw [Int64.lt_iff_toInt_lt] at q
      have r' : x.toInt ≠ y.toInt := fun u => r (Int64.toInt_inj.mp u)
      omega
theorem own_cg {x y : Int64} : 0 < XT.cmpL x y ↔ y.toInt < x.toInt := by
  unfold XT.cmpL
  have h1 : ((0 : Int32) < 1) := by decide
  have h2 : ¬ ((0 : Int32) < 0) := by decide
  have h3 : ¬ ((0 : Int32) < -1) := by decide
  by_cases q : y < x
  · rw [if_pos q]
    exact ⟨fun _ => Int64.lt_iff_toInt_lt.mp q, fun _ => h1⟩
  · rw [if_neg q]
    have q' : ¬ y.toInt < x.toInt := fun u => q (Int64.lt_iff_toInt_lt.mpr u)
    by_cases r : x = y
    · rw [if_pos r]
      exact ⟨fun u => absurd u h2, fun u => absurd u q'⟩
    · rw [if_neg r]
      exact ⟨fun u => absurd u h3, fun u => absurd u q'⟩
theorem own_ce {x y : Int64} (h : x = y) : XT.cmpL x y = 0 := by
  subst h
  unfold XT.cmpL
  have q : ¬ x < x := by rw [Int64.lt_iff_toInt_lt]; omega
  rw [if_neg q, if_pos rfl]
/-- the merge: k ints from place i of f and place j of g on -/
def own_mg (f g : Nat → Int32) (na nb : Nat) : Nat → Nat → Nat → List Int32
  | 0, _, _ => []
  | k + 1, i, j => if j = nb ∨ (i < na ∧ ¬ g j < f i) then f i :: own_mg f g na nb k (i + 1) j else g j :: own_mg f g na nb k i (j + 1)
theorem own_d0_0 : decode jdk_29_method_69_code 0 = .ok (.iload_n 0, 1) := by decide +kernel
theorem own_d0_1 : decode jdk_29_method_69_code 1 = .ok (.iload_n 1, 1) := by decide +kernel
theorem own_d0_2 : decode jdk_29_method_69_code 2 = .ok (.if_icmp .gt 7, 3) := by decide +kernel
theorem own_d0_5 : decode jdk_29_method_69_code 5 = .ok (.iload_n 0, 1) := by decide +kernel
theorem own_d0_6 : decode jdk_29_method_69_code 6 = .ok (.goto 4, 3) := by decide +kernel
theorem own_d0_9 : decode jdk_29_method_69_code 9 = .ok (.iload_n 1, 1) := by decide +kernel
theorem own_d0_10 : decode jdk_29_method_69_code 10 = .ok (.ireturn, 1) := by decide +kernel
theorem own_pn0 : plainFor (⟨"java/lang/Math", "min", "(II)I"⟩ : MethodName) = true := by first | exact plainFor_of_name (show plainName "java/lang/Math" = true by first | (simp [plainName, overriddenIn]; done) | decide +kernel) | decide +kernel
theorem own_ef0 (m : MethodId) (x0 : Int32) (x1 : Int32) : entryFrame m #[(.int x0), (.int x1)] 2 = mkF m 0 #[.val (.int x0), .val (.int x1)] [] := by first | (simp [entryFrame, mkF, argsToLocals, Value.category]; done) | rfl
set_option maxRecDepth 65536 in
set_option maxHeartbeats 40000000 in
theorem own_rm1 (l : Launch) (Z : State) (a0 : Array Value) (hw : ∀ d ∈ tables_1, d.before a0 Z = true) (p1 p2 : Int32) (h0 : Heap) (n0 : Nat) (Z0 : n0 ≤ h0.size)  :
    own_Met l Z (⟨"java/lang/Math", "min", "(II)I"⟩ : MethodName) jdk_29_method_69_code 2 (some .int) ({ frames := 0, cells := 0, slots := 0, locals := 0 } : Room) #[(.int p1), (.int p2)] h0 (fun v h' L => (∃ z : Int32, v = some (.int z) ∧ z.toInt = min p1.toInt p2.toInt) ∧ h' = h0 ∧ L = []) := by
  refine own_in own_pn0 ?_
  intro p e s m below meth c s₁ hx hby hml hown hnm hlk hret hZ X0 e0
  have N0 := Fr.nil n0
  refine own_ef (own_ef0 m p1 p2) ?_
  show own_Go p e below s _ _ _ (s₁.setTop (mkF m 0 #[.val (.int p1), .val (.int p2)] []))
  refine own_st (fun _ kont => XS.iloadN X0.here hx rfl (hb hby own_d0_0) rfl kont) ?_
  show own_Go p e below s _ _ _ (s₁.setTop (mkF m 1 #[.val (.int p1), .val (.int p2)] [(.int p1)]))
  refine own_st (fun _ kont => XS.iloadN X0.here hx rfl (hb hby own_d0_1) rfl kont) ?_
  show own_Go p e below s _ _ _ (s₁.setTop (mkF m 2 #[.val (.int p1), .val (.int p2)] [(.int p2), (.int p1)]))
  rcases Classical.em (p2 < p1) with c1 | c1
  · have ic1 : ((p2).toInt : Int) < (p1).toInt := Int32.lt_iff_toInt_lt.mp c1
    show own_Go p e below s _ _ _ (s₁.setTop (mkF m 2 #[.val (.int p1), .val (.int p2)] [(.int p2), (.int p1)]))
    refine own_st (fun _ kont => XS.icmpYes X0.here hx rfl (pc0 := 2) (pc' := 9) rfl (hb hby own_d0_2) rfl (tlt c1).2.2.1 (by decide) (by decide) kont) ?_
    show own_Go p e below s _ _ _ (s₁.setTop (mkF m 9 #[.val (.int p1), .val (.int p2)] []))
    refine own_st (fun _ kont => XS.iloadN X0.here hx rfl (hb hby own_d0_9) rfl kont) ?_
    show own_Go p e below s _ _ _ (s₁.setTop (mkF m 10 #[.val (.int p1), .val (.int p2)] [(.int p2)]))
    exact own_endI X0 hx hlk hret (hb hby own_d0_10) ⟨⟨_, rfl, by omega⟩, e0, rfl⟩ (by decide) (by decide)
  · have ic1 : ¬ (((p2).toInt : Int) < (p1).toInt) := fun u => c1 (Int32.lt_iff_toInt_lt.mpr u)
    show own_Go p e below s _ _ _ (s₁.setTop (mkF m 2 #[.val (.int p1), .val (.int p2)] [(.int p2), (.int p1)]))
    refine own_st (fun _ kont => XS.icmpNo X0.here hx rfl (hb hby own_d0_2) rfl (flt c1).2.2.1 kont) ?_
    show own_Go p e below s _ _ _ (s₁.setTop (mkF m 5 #[.val (.int p1), .val (.int p2)] []))
    refine own_st (fun _ kont => XS.iloadN X0.here hx rfl (hb hby own_d0_5) rfl kont) ?_
    show own_Go p e below s _ _ _ (s₁.setTop (mkF m 6 #[.val (.int p1), .val (.int p2)] [(.int p1)]))
    refine own_st (fun _ kont => XS.goto X0.here hx rfl (pc0 := 6) (pc' := 10) rfl (hb hby own_d0_6) (by decide) (by decide) kont) ?_
    show own_Go p e below s _ _ _ (s₁.setTop (mkF m 10 #[.val (.int p1), .val (.int p2)] [(.int p1)]))
    exact own_endI X0 hx hlk hret (hb hby own_d0_10) ⟨⟨_, rfl, by omega⟩, e0, rfl⟩ (by decide) (by decide)
theorem own_d1_0 : decode jdk_29_method_65_code 0 = .ok (.iload_n 0, 1) := by decide +kernel
theorem own_d1_1 : decode jdk_29_method_65_code 1 = .ok (.iload_n 1, 1) := by decide +kernel
theorem own_d1_2 : decode jdk_29_method_65_code 2 = .ok (.if_icmp .lt 7, 3) := by decide +kernel
theorem own_d1_5 : decode jdk_29_method_65_code 5 = .ok (.iload_n 0, 1) := by decide +kernel
theorem own_d1_6 : decode jdk_29_method_65_code 6 = .ok (.goto 4, 3) := by decide +kernel
theorem own_d1_9 : decode jdk_29_method_65_code 9 = .ok (.iload_n 1, 1) := by decide +kernel
theorem own_d1_10 : decode jdk_29_method_65_code 10 = .ok (.ireturn, 1) := by decide +kernel
theorem own_pn1 : plainFor (⟨"java/lang/Math", "max", "(II)I"⟩ : MethodName) = true := by first | exact plainFor_of_name (show plainName "java/lang/Math" = true by first | (simp [plainName, overriddenIn]; done) | decide +kernel) | decide +kernel
theorem own_ef1 (m : MethodId) (x0 : Int32) (x1 : Int32) : entryFrame m #[(.int x0), (.int x1)] 2 = mkF m 0 #[.val (.int x0), .val (.int x1)] [] := by first | (simp [entryFrame, mkF, argsToLocals, Value.category]; done) | rfl
set_option maxRecDepth 65536 in
set_option maxHeartbeats 40000000 in
theorem own_rm2 (l : Launch) (Z : State) (a0 : Array Value) (hw : ∀ d ∈ tables_1, d.before a0 Z = true) (p1 p2 : Int32) (h0 : Heap) (n0 : Nat) (Z0 : n0 ≤ h0.size)  :
    own_Met l Z (⟨"java/lang/Math", "max", "(II)I"⟩ : MethodName) jdk_29_method_65_code 2 (some .int) ({ frames := 0, cells := 0, slots := 0, locals := 0 } : Room) #[(.int p1), (.int p2)] h0 (fun v h' L => (∃ z : Int32, v = some (.int z) ∧ z.toInt = max p1.toInt p2.toInt) ∧ h' = h0 ∧ L = []) := by
  refine own_in own_pn1 ?_
  intro p e s m below meth c s₁ hx hby hml hown hnm hlk hret hZ X0 e0
  have N0 := Fr.nil n0
  refine own_ef (own_ef1 m p1 p2) ?_
  show own_Go p e below s _ _ _ (s₁.setTop (mkF m 0 #[.val (.int p1), .val (.int p2)] []))
  refine own_st (fun _ kont => XS.iloadN X0.here hx rfl (hb hby own_d1_0) rfl kont) ?_
  show own_Go p e below s _ _ _ (s₁.setTop (mkF m 1 #[.val (.int p1), .val (.int p2)] [(.int p1)]))
  refine own_st (fun _ kont => XS.iloadN X0.here hx rfl (hb hby own_d1_1) rfl kont) ?_
  show own_Go p e below s _ _ _ (s₁.setTop (mkF m 2 #[.val (.int p1), .val (.int p2)] [(.int p2), (.int p1)]))
  rcases Classical.em (p1 < p2) with c1 | c1
  · have ic1 : ((p1).toInt : Int) < (p2).toInt := Int32.lt_iff_toInt_lt.mp c1
    show own_Go p e below s _ _ _ (s₁.setTop (mkF m 2 #[.val (.int p1), .val (.int p2)] [(.int p2), (.int p1)]))
    refine own_st (fun _ kont => XS.icmpYes X0.here hx rfl (pc0 := 2) (pc' := 9) rfl (hb hby own_d1_2) rfl (tlt c1).1 (by decide) (by decide) kont) ?_
    show own_Go p e below s _ _ _ (s₁.setTop (mkF m 9 #[.val (.int p1), .val (.int p2)] []))
    refine own_st (fun _ kont => XS.iloadN X0.here hx rfl (hb hby own_d1_9) rfl kont) ?_
    show own_Go p e below s _ _ _ (s₁.setTop (mkF m 10 #[.val (.int p1), .val (.int p2)] [(.int p2)]))
    exact own_endI X0 hx hlk hret (hb hby own_d1_10) ⟨⟨_, rfl, by omega⟩, e0, rfl⟩ (by decide) (by decide)
  · have ic1 : ¬ (((p1).toInt : Int) < (p2).toInt) := fun u => c1 (Int32.lt_iff_toInt_lt.mpr u)
    show own_Go p e below s _ _ _ (s₁.setTop (mkF m 2 #[.val (.int p1), .val (.int p2)] [(.int p2), (.int p1)]))
    refine own_st (fun _ kont => XS.icmpNo X0.here hx rfl (hb hby own_d1_2) rfl (flt c1).1 kont) ?_
    show own_Go p e below s _ _ _ (s₁.setTop (mkF m 5 #[.val (.int p1), .val (.int p2)] []))
    refine own_st (fun _ kont => XS.iloadN X0.here hx rfl (hb hby own_d1_5) rfl kont) ?_
    show own_Go p e below s _ _ _ (s₁.setTop (mkF m 6 #[.val (.int p1), .val (.int p2)] [(.int p1)]))
    refine own_st (fun _ kont => XS.goto X0.here hx rfl (pc0 := 6) (pc' := 10) rfl (hb hby own_d1_6) (by decide) (by decide) kont) ?_
    show own_Go p e below s _ _ _ (s₁.setTop (mkF m 10 #[.val (.int p1), .val (.int p2)] [(.int p1)]))
    exact own_endI X0 hx hlk hret (hb hby own_d1_10) ⟨⟨_, rfl, by omega⟩, e0, rfl⟩ (by decide) (by decide)
theorem own_d2_0 : decode jdk_29_method_70_code 0 = .ok (.lload_n 0, 1) := by decide +kernel
theorem own_d2_1 : decode jdk_29_method_70_code 1 = .ok (.lload_n 2, 1) := by decide +kernel
theorem own_d2_2 : decode jdk_29_method_70_code 2 = .ok (.lcmp, 1) := by decide +kernel
theorem own_d2_3 : decode jdk_29_method_70_code 3 = .ok (.ifCond .gt 7, 3) := by decide +kernel
theorem own_d2_6 : decode jdk_29_method_70_code 6 = .ok (.lload_n 0, 1) := by decide +kernel
theorem own_d2_7 : decode jdk_29_method_70_code 7 = .ok (.goto 4, 3) := by decide +kernel
theorem own_d2_10 : decode jdk_29_method_70_code 10 = .ok (.lload_n 2, 1) := by decide +kernel
theorem own_d2_11 : decode jdk_29_method_70_code 11 = .ok (.lreturn, 1) := by decide +kernel
theorem own_pn2 : plainFor (⟨"java/lang/Math", "min", "(JJ)J"⟩ : MethodName) = true := by first | exact plainFor_of_name (show plainName "java/lang/Math" = true by first | (simp [plainName, overriddenIn]; done) | decide +kernel) | decide +kernel
theorem own_ef2 (m : MethodId) (x0 : Int64) (x1 : Int64) : entryFrame m #[(.long x0), (.long x1)] 4 = mkF m 0 #[.val (.long x0), .second, .val (.long x1), .second] [] := by first | (simp [entryFrame, mkF, argsToLocals, Value.category]; done) | rfl
set_option maxRecDepth 65536 in
set_option maxHeartbeats 40000000 in
theorem own_rm3 (l : Launch) (Z : State) (a0 : Array Value) (hw : ∀ d ∈ tables_1, d.before a0 Z = true) (q1 q2 : Int64) (h0 : Heap) (n0 : Nat) (Z0 : n0 ≤ h0.size)  :
    own_Met l Z (⟨"java/lang/Math", "min", "(JJ)J"⟩ : MethodName) jdk_29_method_70_code 4 (some .long) ({ frames := 0, cells := 0, slots := 0, locals := 0 } : Room) #[(.long q1), (.long q2)] h0 (fun v h' L => (∃ z : Int64, v = some (.long z) ∧ z.toInt = min q1.toInt q2.toInt) ∧ h' = h0 ∧ L = []) := by
  refine own_in own_pn2 ?_
  intro p e s m below meth c s₁ hx hby hml hown hnm hlk hret hZ X0 e0
  have N0 := Fr.nil n0
  refine own_ef (own_ef2 m q1 q2) ?_
  show own_Go p e below s _ _ _ (s₁.setTop (mkF m 0 #[.val (.long q1), .second, .val (.long q2), .second] []))
  refine own_st (fun _ kont => XS.lloadN X0.here hx rfl (hb hby own_d2_0) rfl kont) ?_
  show own_Go p e below s _ _ _ (s₁.setTop (mkF m 1 #[.val (.long q1), .second, .val (.long q2), .second] [(.long q1)]))
  refine own_st (fun _ kont => XS.lloadN X0.here hx rfl (hb hby own_d2_1) rfl kont) ?_
  show own_Go p e below s _ _ _ (s₁.setTop (mkF m 2 #[.val (.long q1), .second, .val (.long q2), .second] [(.long q2), (.long q1)]))
  refine own_st (fun _ kont => XT.lcmp X0.here hx rfl (hb hby own_d2_2) rfl kont) ?_
  show own_Go p e below s _ _ _ (s₁.setTop (mkF m 3 #[.val (.long q1), .second, .val (.long q2), .second] [(.int (XT.cmpL q1 q2))]))
  rcases Classical.em ((0 : Int32) < (XT.cmpL q1 q2)) with c1 | c1
  · show own_Go p e below s _ _ _ (s₁.setTop (mkF m 3 #[.val (.long q1), .second, .val (.long q2), .second] [(.int (XT.cmpL q1 q2))]))
    refine own_st (fun _ kont => XS.ifYes X0.here hx rfl (pc0 := 3) (pc' := 10) rfl (hb hby own_d2_3) rfl ((if0 _ _).trans (tlt c1).2.2.1) (by decide) (by decide) kont) ?_
    show own_Go p e below s _ _ _ (s₁.setTop (mkF m 10 #[.val (.long q1), .second, .val (.long q2), .second] []))
    have c2 := own_cg.mp c1
    show own_Go p e below s _ _ _ (s₁.setTop (mkF m 10 #[.val (.long q1), .second, .val (.long q2), .second] []))
    refine own_st (fun _ kont => XS.lloadN X0.here hx rfl (hb hby own_d2_10) rfl kont) ?_
    show own_Go p e below s _ _ _ (s₁.setTop (mkF m 11 #[.val (.long q1), .second, .val (.long q2), .second] [(.long q2)]))
    exact own_endJ X0 hx hlk hret (hb hby own_d2_11) ⟨⟨_, rfl, by omega⟩, e0, rfl⟩ (by decide) (by decide)
  · show own_Go p e below s _ _ _ (s₁.setTop (mkF m 3 #[.val (.long q1), .second, .val (.long q2), .second] [(.int (XT.cmpL q1 q2))]))
    refine own_st (fun _ kont => XS.ifNo X0.here hx rfl (hb hby own_d2_3) rfl ((if0 _ _).trans (flt c1).2.2.1) kont) ?_
    show own_Go p e below s _ _ _ (s₁.setTop (mkF m 6 #[.val (.long q1), .second, .val (.long q2), .second] []))
    have c2 : ¬ (q2.toInt < q1.toInt) := fun u => c1 (own_cg.mpr u)
    show own_Go p e below s _ _ _ (s₁.setTop (mkF m 6 #[.val (.long q1), .second, .val (.long q2), .second] []))
    refine own_st (fun _ kont => XS.lloadN X0.here hx rfl (hb hby own_d2_6) rfl kont) ?_
    show own_Go p e below s _ _ _ (s₁.setTop (mkF m 7 #[.val (.long q1), .second, .val (.long q2), .second] [(.long q1)]))
    refine own_st (fun _ kont => XS.goto X0.here hx rfl (pc0 := 7) (pc' := 11) rfl (hb hby own_d2_7) (by decide) (by decide) kont) ?_
    show own_Go p e below s _ _ _ (s₁.setTop (mkF m 11 #[.val (.long q1), .second, .val (.long q2), .second] [(.long q1)]))
    exact own_endJ X0 hx hlk hret (hb hby own_d2_11) ⟨⟨_, rfl, by omega⟩, e0, rfl⟩ (by decide) (by decide)
theorem own_d3_0 : decode jdk_29_method_66_code 0 = .ok (.lload_n 0, 1) := by decide +kernel
theorem own_d3_1 : decode jdk_29_method_66_code 1 = .ok (.lload_n 2, 1) := by decide +kernel
theorem own_d3_2 : decode jdk_29_method_66_code 2 = .ok (.lcmp, 1) := by decide +kernel
theorem own_d3_3 : decode jdk_29_method_66_code 3 = .ok (.ifCond .lt 7, 3) := by decide +kernel
theorem own_d3_6 : decode jdk_29_method_66_code 6 = .ok (.lload_n 0, 1) := by decide +kernel
theorem own_d3_7 : decode jdk_29_method_66_code 7 = .ok (.goto 4, 3) := by decide +kernel
theorem own_d3_10 : decode jdk_29_method_66_code 10 = .ok (.lload_n 2, 1) := by decide +kernel
theorem own_d3_11 : decode jdk_29_method_66_code 11 = .ok (.lreturn, 1) := by decide +kernel
theorem own_pn3 : plainFor (⟨"java/lang/Math", "max", "(JJ)J"⟩ : MethodName) = true := by first | exact plainFor_of_name (show plainName "java/lang/Math" = true by first | (simp [plainName, overriddenIn]; done) | decide +kernel) | decide +kernel
theorem own_ef3 (m : MethodId) (x0 : Int64) (x1 : Int64) : entryFrame m #[(.long x0), (.long x1)] 4 = mkF m 0 #[.val (.long x0), .second, .val (.long x1), .second] [] := by first | (simp [entryFrame, mkF, argsToLocals, Value.category]; done) | rfl
set_option maxRecDepth 65536 in
set_option maxHeartbeats 40000000 in
theorem own_rm4 (l : Launch) (Z : State) (a0 : Array Value) (hw : ∀ d ∈ tables_1, d.before a0 Z = true) (q1 q2 : Int64) (h0 : Heap) (n0 : Nat) (Z0 : n0 ≤ h0.size)  :
    own_Met l Z (⟨"java/lang/Math", "max", "(JJ)J"⟩ : MethodName) jdk_29_method_66_code 4 (some .long) ({ frames := 0, cells := 0, slots := 0, locals := 0 } : Room) #[(.long q1), (.long q2)] h0 (fun v h' L => (∃ z : Int64, v = some (.long z) ∧ z.toInt = max q1.toInt q2.toInt) ∧ h' = h0 ∧ L = []) := by
  refine own_in own_pn3 ?_
  intro p e s m below meth c s₁ hx hby hml hown hnm hlk hret hZ X0 e0
  have N0 := Fr.nil n0
  refine own_ef (own_ef3 m q1 q2) ?_
  show own_Go p e below s _ _ _ (s₁.setTop (mkF m 0 #[.val (.long q1), .second, .val (.long q2), .second] []))
  refine own_st (fun _ kont => XS.lloadN X0.here hx rfl (hb hby own_d3_0) rfl kont) ?_
  show own_Go p e below s _ _ _ (s₁.setTop (mkF m 1 #[.val (.long q1), .second, .val (.long q2), .second] [(.long q1)]))
  refine own_st (fun _ kont => XS.lloadN X0.here hx rfl (hb hby own_d3_1) rfl kont) ?_
  show own_Go p e below s _ _ _ (s₁.setTop (mkF m 2 #[.val (.long q1), .second, .val (.long q2), .second] [(.long q2), (.long q1)]))
  refine own_st (fun _ kont => XT.lcmp X0.here hx rfl (hb hby own_d3_2) rfl kont) ?_
  show own_Go p e below s _ _ _ (s₁.setTop (mkF m 3 #[.val (.long q1), .second, .val (.long q2), .second] [(.int (XT.cmpL q1 q2))]))
  rcases Classical.em ((XT.cmpL q1 q2) < (0 : Int32)) with c1 | c1
  · show own_Go p e below s _ _ _ (s₁.setTop (mkF m 3 #[.val (.long q1), .second, .val (.long q2), .second] [(.int (XT.cmpL q1 q2))]))
    refine own_st (fun _ kont => XS.ifYes X0.here hx rfl (pc0 := 3) (pc' := 10) rfl (hb hby own_d3_3) rfl ((if0 _ _).trans (tlt c1).1) (by decide) (by decide) kont) ?_
    show own_Go p e below s _ _ _ (s₁.setTop (mkF m 10 #[.val (.long q1), .second, .val (.long q2), .second] []))
    have c2 := own_cl.mp c1
    show own_Go p e below s _ _ _ (s₁.setTop (mkF m 10 #[.val (.long q1), .second, .val (.long q2), .second] []))
    refine own_st (fun _ kont => XS.lloadN X0.here hx rfl (hb hby own_d3_10) rfl kont) ?_
    show own_Go p e below s _ _ _ (s₁.setTop (mkF m 11 #[.val (.long q1), .second, .val (.long q2), .second] [(.long q2)]))
    exact own_endJ X0 hx hlk hret (hb hby own_d3_11) ⟨⟨_, rfl, by omega⟩, e0, rfl⟩ (by decide) (by decide)
  · show own_Go p e below s _ _ _ (s₁.setTop (mkF m 3 #[.val (.long q1), .second, .val (.long q2), .second] [(.int (XT.cmpL q1 q2))]))
    refine own_st (fun _ kont => XS.ifNo X0.here hx rfl (hb hby own_d3_3) rfl ((if0 _ _).trans (flt c1).1) kont) ?_
    show own_Go p e below s _ _ _ (s₁.setTop (mkF m 6 #[.val (.long q1), .second, .val (.long q2), .second] []))
    have c2 : ¬ (q1.toInt < q2.toInt) := fun u => c1 (own_cl.mpr u)
    show own_Go p e below s _ _ _ (s₁.setTop (mkF m 6 #[.val (.long q1), .second, .val (.long q2), .second] []))
    refine own_st (fun _ kont => XS.lloadN X0.here hx rfl (hb hby own_d3_6) rfl kont) ?_
    show own_Go p e below s _ _ _ (s₁.setTop (mkF m 7 #[.val (.long q1), .second, .val (.long q2), .second] [(.long q1)]))
    refine own_st (fun _ kont => XS.goto X0.here hx rfl (pc0 := 7) (pc' := 11) rfl (hb hby own_d3_7) (by decide) (by decide) kont) ?_
    show own_Go p e below s _ _ _ (s₁.setTop (mkF m 11 #[.val (.long q1), .second, .val (.long q2), .second] [(.long q1)]))
    exact own_endJ X0 hx hlk hret (hb hby own_d3_11) ⟨⟨_, rfl, by omega⟩, e0, rfl⟩ (by decide) (by decide)
theorem own_d4_0 : decode method_2_code 0 = .ok (.iload_n 1, 1) := by decide +kernel
theorem own_d4_1 : decode method_2_code 1 = .ok (.aload_n 0, 1) := by decide +kernel
theorem own_d4_2 : decode method_2_code 2 = .ok (.arraylength, 1) := by decide +kernel
theorem own_d4_3 : decode method_2_code 3 = .ok (.if_icmp .ge 12, 3) := by decide +kernel
theorem own_d4_6 : decode method_2_code 6 = .ok (.aload_n 0, 1) := by decide +kernel
theorem own_d4_7 : decode method_2_code 7 = .ok (.iload_n 1, 1) := by decide +kernel
theorem own_d4_8 : decode method_2_code 8 = .ok (.iaload, 1) := by decide +kernel
theorem own_d4_9 : decode method_2_code 9 = .ok (.i2l, 1) := by decide +kernel
theorem own_d4_10 : decode method_2_code 10 = .ok (.lload_n 2, 1) := by decide +kernel
theorem own_d4_11 : decode method_2_code 11 = .ok (.lcmp, 1) := by decide +kernel
theorem own_d4_12 : decode method_2_code 12 = .ok (.ifCond .ne 7, 3) := by decide +kernel
theorem own_d4_15 : decode method_2_code 15 = .ok (.iconst 1, 1) := by decide +kernel
theorem own_d4_16 : decode method_2_code 16 = .ok (.goto 4, 3) := by decide +kernel
theorem own_d4_20 : decode method_2_code 20 = .ok (.ireturn, 1) := by decide +kernel
theorem own_pn4 : plainFor (⟨"com/example/interpres/interpres/termtonet/MoveSumPinLaw", "at", "([IIJ)Z"⟩ : MethodName) = true := by first | exact plainFor_of_name (show plainName "com/example/interpres/interpres/termtonet/MoveSumPinLaw" = true by first | (simp [plainName, overriddenIn]; done) | decide +kernel) | decide +kernel
theorem own_ef4 (m : MethodId) (x0 : Addr) (x1 : Int32) (x2 : Int64) : entryFrame m #[(.ref x0), (.int x1), (.long x2)] 4 = mkF m 0 #[.val (.ref x0), .val (.int x1), .val (.long x2), .second] [] := by first | (simp [entryFrame, mkF, argsToLocals, Value.category]; done) | rfl
set_option maxRecDepth 65536 in
set_option maxHeartbeats 40000000 in
theorem own_rm5 (l : Launch) (Z : State) (a0 : Array Value) (hw : ∀ d ∈ tables_1, d.before a0 Z = true) (a1 : Addr) (p2 : Int32) (q3 : Int64) (n i : Nat) (f : Nat → Int32) (h0 : Heap) (n0 : Nat) (Z0 : n0 ≤ h0.size) (V : own_Av Z h0 a1 .int n (fun t => .int (f t))) (hi : p2.toInt = (i : Int)) (hn : n ≤ 4) (hok : i < n → (f i).toInt = q3.toInt) :
    own_Met l Z (⟨"com/example/interpres/interpres/termtonet/MoveSumPinLaw", "at", "([IIJ)Z"⟩ : MethodName) method_2_code 4 (some .boolean) ({ frames := 0, cells := 0, slots := 0, locals := 0 } : Room) #[(.ref a1), (.int p2), (.long q3)] h0 (fun v h' L => v = some (.int 1) ∧ h' = h0 ∧ L = []) := by
  refine own_in own_pn4 ?_
  intro p e s m below meth c s₁ hx hby hml hown hnm hlk hret hZ X0 e0
  have N0 := Fr.nil n0
  refine own_ef (own_ef4 m a1 p2 q3) ?_
  show own_Go p e below s _ _ _ (s₁.setTop (mkF m 0 #[.val (.ref a1), .val (.int p2), .val (.long q3), .second] []))
  refine own_st (fun _ kont => XS.iloadN X0.here hx rfl (hb hby own_d4_0) rfl kont) ?_
  show own_Go p e below s _ _ _ (s₁.setTop (mkF m 1 #[.val (.ref a1), .val (.int p2), .val (.long q3), .second] [(.int p2)]))
  refine own_st (fun _ kont => XS.aloadN X0.here hx rfl (hb hby own_d4_1) rfl rfl kont) ?_
  show own_Go p e below s _ _ _ (s₁.setTop (mkF m 2 #[.val (.ref a1), .val (.int p2), .val (.long q3), .second] [(.ref a1), (.int p2)]))
  have hnz : (Int32.ofNat n).toInt = (n : Int) := Int32.toInt_ofNat_of_lt (by omega)
  show own_Go p e below s _ _ _ (s₁.setTop (mkF m 2 #[.val (.ref a1), .val (.int p2), .val (.long q3), .second] [(.ref a1), (.int p2)]))
  refine own_st (own_len X0 hx hZ e0 V (z := (Int32.ofNat n)) hnz (g := (mkF m 2 #[.val (.ref a1), .val (.int p2), .val (.long q3), .second] [(.ref a1), (.int p2)])) rfl rfl (hb hby own_d4_2)) ?_
  show own_Go p e below s _ _ _ (s₁.setTop (mkF m 3 #[.val (.ref a1), .val (.int p2), .val (.long q3), .second] [(.int (Int32.ofNat n)), (.int p2)]))
  rcases Classical.em (p2 < (Int32.ofNat n)) with c1 | c1
  · have ic1 : ((p2).toInt : Int) < ((Int32.ofNat n)).toInt := Int32.lt_iff_toInt_lt.mp c1
    show own_Go p e below s _ _ _ (s₁.setTop (mkF m 3 #[.val (.ref a1), .val (.int p2), .val (.long q3), .second] [(.int (Int32.ofNat n)), (.int p2)]))
    refine own_st (fun _ kont => XS.icmpNo X0.here hx rfl (hb hby own_d4_3) rfl (tlt c1).2.1 kont) ?_
    show own_Go p e below s _ _ _ (s₁.setTop (mkF m 6 #[.val (.ref a1), .val (.int p2), .val (.long q3), .second] []))
    refine own_st (fun _ kont => XS.aloadN X0.here hx rfl (hb hby own_d4_6) rfl rfl kont) ?_
    show own_Go p e below s _ _ _ (s₁.setTop (mkF m 7 #[.val (.ref a1), .val (.int p2), .val (.long q3), .second] [(.ref a1)]))
    refine own_st (fun _ kont => XS.iloadN X0.here hx rfl (hb hby own_d4_7) rfl kont) ?_
    show own_Go p e below s _ _ _ (s₁.setTop (mkF m 8 #[.val (.ref a1), .val (.int p2), .val (.long q3), .second] [(.int p2), (.ref a1)]))
    refine own_st (own_ldI X0 hx hZ e0 V (i := i) hi (by omega) (v := (.int (f i))) rfl (g := (mkF m 8 #[.val (.ref a1), .val (.int p2), .val (.long q3), .second] [(.int p2), (.ref a1)])) rfl rfl (hb hby own_d4_8)) ?_
    show own_Go p e below s _ _ _ (s₁.setTop (mkF m 9 #[.val (.ref a1), .val (.int p2), .val (.long q3), .second] [(.int (f i))]))
    refine own_st (fun _ kont => XS.i2l X0.here hx rfl (hb hby own_d4_9) rfl kont) ?_
    show own_Go p e below s _ _ _ (s₁.setTop (mkF m 10 #[.val (.ref a1), .val (.int p2), .val (.long q3), .second] [(.long ((f i)).toInt64)]))
    refine own_st (fun _ kont => XS.lloadN X0.here hx rfl (hb hby own_d4_10) rfl kont) ?_
    show own_Go p e below s _ _ _ (s₁.setTop (mkF m 11 #[.val (.ref a1), .val (.int p2), .val (.long q3), .second] [(.long q3), (.long ((f i)).toInt64)]))
    refine own_st (fun _ kont => XT.lcmp X0.here hx rfl (hb hby own_d4_11) rfl kont) ?_
    show own_Go p e below s _ _ _ (s₁.setTop (mkF m 12 #[.val (.ref a1), .val (.int p2), .val (.long q3), .second] [(.int (XT.cmpL ((f i)).toInt64 q3))]))
    refine own_st (fun _ kont => XS.ifNo X0.here hx rfl (hb hby own_d4_12) rfl ((if0 _ _).trans (teq (own_ce (Int64.toInt_inj.mp ((Int32.toInt_toInt64 _).trans (hok (by omega)))))).2) kont) ?_
    show own_Go p e below s _ _ _ (s₁.setTop (mkF m 15 #[.val (.ref a1), .val (.int p2), .val (.long q3), .second] []))
    refine own_st (fun _ kont => XS.iconst X0.here hx rfl (hb hby own_d4_15) kont) ?_
    show own_Go p e below s _ _ _ (s₁.setTop (mkF m 16 #[.val (.ref a1), .val (.int p2), .val (.long q3), .second] [(.int (1 : Int32))]))
    refine own_st (fun _ kont => XS.goto X0.here hx rfl (pc0 := 16) (pc' := 20) rfl (hb hby own_d4_16) (by decide) (by decide) kont) ?_
    show own_Go p e below s _ _ _ (s₁.setTop (mkF m 20 #[.val (.ref a1), .val (.int p2), .val (.long q3), .second] [(.int (1 : Int32))]))
    exact own_endN X0 hx hlk (t := .boolean) hret (by simp) (hb hby own_d4_20) (w := (1 : Int32)) (by decide) ⟨rfl, e0, rfl⟩ (by decide) (by decide)
  · have ic1 : ¬ (((p2).toInt : Int) < ((Int32.ofNat n)).toInt) := fun u => c1 (Int32.lt_iff_toInt_lt.mpr u)
    show own_Go p e below s _ _ _ (s₁.setTop (mkF m 3 #[.val (.ref a1), .val (.int p2), .val (.long q3), .second] [(.int (Int32.ofNat n)), (.int p2)]))
    refine own_st (fun _ kont => XS.icmpYes X0.here hx rfl (pc0 := 3) (pc' := 15) rfl (hb hby own_d4_3) rfl (flt c1).2.1 (by decide) (by decide) kont) ?_
    show own_Go p e below s _ _ _ (s₁.setTop (mkF m 15 #[.val (.ref a1), .val (.int p2), .val (.long q3), .second] []))
    refine own_st (fun _ kont => XS.iconst X0.here hx rfl (hb hby own_d4_15) kont) ?_
    show own_Go p e below s _ _ _ (s₁.setTop (mkF m 16 #[.val (.ref a1), .val (.int p2), .val (.long q3), .second] [(.int (1 : Int32))]))
    refine own_st (fun _ kont => XS.goto X0.here hx rfl (pc0 := 16) (pc' := 20) rfl (hb hby own_d4_16) (by decide) (by decide) kont) ?_
    show own_Go p e below s _ _ _ (s₁.setTop (mkF m 20 #[.val (.ref a1), .val (.int p2), .val (.long q3), .second] [(.int (1 : Int32))]))
    exact own_endN X0 hx hlk (t := .boolean) hret (by simp) (hb hby own_d4_20) (w := (1 : Int32)) (by decide) ⟨rfl, e0, rfl⟩ (by decide) (by decide)
theorem own_d5_0 : decode prog_94_method_6_code 0 = .ok (.aload_n 0, 1) := by decide +kernel
theorem own_d5_1 : decode prog_94_method_6_code 1 = .ok (.arraylength, 1) := by decide +kernel
theorem own_d5_2 : decode prog_94_method_6_code 2 = .ok (.aload_n 1, 1) := by decide +kernel
theorem own_d5_3 : decode prog_94_method_6_code 3 = .ok (.arraylength, 1) := by decide +kernel
theorem own_d5_4 : decode prog_94_method_6_code 4 = .ok (.iadd, 1) := by decide +kernel
theorem own_d5_5 : decode prog_94_method_6_code 5 = .ok (.newarray .int, 2) := by decide +kernel
theorem own_d5_7 : decode prog_94_method_6_code 7 = .ok (.astore_n 2, 1) := by decide +kernel
theorem own_d5_8 : decode prog_94_method_6_code 8 = .ok (.iconst 0, 1) := by decide +kernel
theorem own_d5_9 : decode prog_94_method_6_code 9 = .ok (.istore_n 3, 1) := by decide +kernel
theorem own_d5_10 : decode prog_94_method_6_code 10 = .ok (.iconst 0, 1) := by decide +kernel
theorem own_d5_11 : decode prog_94_method_6_code 11 = .ok (.istore 4, 2) := by decide +kernel
theorem own_d5_13 : decode prog_94_method_6_code 13 = .ok (.iconst 0, 1) := by decide +kernel
theorem own_d5_14 : decode prog_94_method_6_code 14 = .ok (.istore 5, 2) := by decide +kernel
theorem own_d5_16 : decode prog_94_method_6_code 16 = .ok (.iload 5, 2) := by decide +kernel
theorem own_d5_18 : decode prog_94_method_6_code 18 = .ok (.aload_n 2, 1) := by decide +kernel
theorem own_d5_19 : decode prog_94_method_6_code 19 = .ok (.arraylength, 1) := by decide +kernel
theorem own_d5_20 : decode prog_94_method_6_code 20 = .ok (.if_icmp .ge 64, 3) := by decide +kernel
theorem own_d5_23 : decode prog_94_method_6_code 23 = .ok (.iload 4, 2) := by decide +kernel
theorem own_d5_25 : decode prog_94_method_6_code 25 = .ok (.aload_n 1, 1) := by decide +kernel
theorem own_d5_26 : decode prog_94_method_6_code 26 = .ok (.arraylength, 1) := by decide +kernel
theorem own_d5_27 : decode prog_94_method_6_code 27 = .ok (.if_icmp .eq 19, 3) := by decide +kernel
theorem own_d5_30 : decode prog_94_method_6_code 30 = .ok (.iload_n 3, 1) := by decide +kernel
theorem own_d5_31 : decode prog_94_method_6_code 31 = .ok (.aload_n 0, 1) := by decide +kernel
theorem own_d5_32 : decode prog_94_method_6_code 32 = .ok (.arraylength, 1) := by decide +kernel
theorem own_d5_33 : decode prog_94_method_6_code 33 = .ok (.if_icmp .ge 17, 3) := by decide +kernel
theorem own_d5_36 : decode prog_94_method_6_code 36 = .ok (.aload_n 0, 1) := by decide +kernel
theorem own_d5_37 : decode prog_94_method_6_code 37 = .ok (.iload_n 3, 1) := by decide +kernel
theorem own_d5_38 : decode prog_94_method_6_code 38 = .ok (.iaload, 1) := by decide +kernel
theorem own_d5_39 : decode prog_94_method_6_code 39 = .ok (.aload_n 1, 1) := by decide +kernel
theorem own_d5_40 : decode prog_94_method_6_code 40 = .ok (.iload 4, 2) := by decide +kernel
theorem own_d5_42 : decode prog_94_method_6_code 42 = .ok (.iaload, 1) := by decide +kernel
theorem own_d5_43 : decode prog_94_method_6_code 43 = .ok (.if_icmp .gt 7, 3) := by decide +kernel
theorem own_d5_46 : decode prog_94_method_6_code 46 = .ok (.iconst 1, 1) := by decide +kernel
theorem own_d5_47 : decode prog_94_method_6_code 47 = .ok (.goto 4, 3) := by decide +kernel
theorem own_d5_50 : decode prog_94_method_6_code 50 = .ok (.iconst 0, 1) := by decide +kernel
theorem own_d5_51 : decode prog_94_method_6_code 51 = .ok (.istore 6, 2) := by decide +kernel
theorem own_d5_53 : decode prog_94_method_6_code 53 = .ok (.aload_n 2, 1) := by decide +kernel
theorem own_d5_54 : decode prog_94_method_6_code 54 = .ok (.iload 5, 2) := by decide +kernel
theorem own_d5_56 : decode prog_94_method_6_code 56 = .ok (.iload 6, 2) := by decide +kernel
theorem own_d5_58 : decode prog_94_method_6_code 58 = .ok (.ifCond .eq 12, 3) := by decide +kernel
theorem own_d5_61 : decode prog_94_method_6_code 61 = .ok (.aload_n 0, 1) := by decide +kernel
theorem own_d5_62 : decode prog_94_method_6_code 62 = .ok (.iload_n 3, 1) := by decide +kernel
theorem own_d5_63 : decode prog_94_method_6_code 63 = .ok (.iinc 3 1, 3) := by decide +kernel
theorem own_d5_66 : decode prog_94_method_6_code 66 = .ok (.iaload, 1) := by decide +kernel
theorem own_d5_67 : decode prog_94_method_6_code 67 = .ok (.goto 10, 3) := by decide +kernel
theorem own_d5_70 : decode prog_94_method_6_code 70 = .ok (.aload_n 1, 1) := by decide +kernel
theorem own_d5_71 : decode prog_94_method_6_code 71 = .ok (.iload 4, 2) := by decide +kernel
theorem own_d5_73 : decode prog_94_method_6_code 73 = .ok (.iinc 4 1, 3) := by decide +kernel
theorem own_d5_76 : decode prog_94_method_6_code 76 = .ok (.iaload, 1) := by decide +kernel
theorem own_d5_77 : decode prog_94_method_6_code 77 = .ok (.iastore, 1) := by decide +kernel
theorem own_d5_78 : decode prog_94_method_6_code 78 = .ok (.iinc 5 1, 3) := by decide +kernel
theorem own_d5_81 : decode prog_94_method_6_code 81 = .ok (.goto (-65), 3) := by decide +kernel
theorem own_d5_84 : decode prog_94_method_6_code 84 = .ok (.aload_n 2, 1) := by decide +kernel
theorem own_d5_85 : decode prog_94_method_6_code 85 = .ok (.areturn, 1) := by decide +kernel
theorem own_pn5 : plainFor (⟨"com/example/interpres/interpres/termtonet/Move", "sum", "([I[I)[I"⟩ : MethodName) = true := by first | exact plainFor_of_name (show plainName "com/example/interpres/interpres/termtonet/Move" = true by first | (simp [plainName, overriddenIn]; done) | decide +kernel) | decide +kernel
theorem own_ef5 (m : MethodId) (x0 : Addr) (x1 : Addr) : entryFrame m #[(.ref x0), (.ref x1)] 7 = mkF m 0 #[.val (.ref x0), .val (.ref x1), .unset, .unset, .unset, .unset, .unset] [] := by first | (simp [entryFrame, mkF, argsToLocals, Value.category]; done) | rfl
set_option maxRecDepth 65536 in
set_option maxHeartbeats 40000000 in
theorem own_rm6 (l : Launch) (Z : State) (a0 : Array Value) (hw : ∀ d ∈ tables_1, d.before a0 Z = true) (a1 a2 : Addr) (f g : Nat → Int32) (na nb : Nat) (h0 : Heap) (n0 : Nat) (Z0 : n0 ≤ h0.size) (V1 : own_Av Z h0 a1 .int na (fun t => .int (f t))) (V2 : own_Av Z h0 a2 .int nb (fun t => .int (g t))) (hla : na ≤ 2) (hlb : nb ≤ 2) :
    own_Met l Z (⟨"com/example/interpres/interpres/termtonet/Move", "sum", "([I[I)[I"⟩ : MethodName) prog_94_method_6_code 7 (some (.array .int)) ({ frames := 0, cells := 1, slots := 4, locals := 0 } : Room) #[(.ref a1), (.ref a2)] h0 (fun v h' L => ∃ (b : Addr) (F : Nat → Int32), v = some (.ref b) ∧ Fr n0 L ∧ Keep h0 h' [] ∧ own_Av Z h' b .int (na + nb) (fun t => .int (F t)) ∧ ∀ t, t < na + nb → F t = (own_mg f g na nb (na + nb) 0 0).getD t 0) := by
  refine own_in own_pn5 ?_
  intro p e s m below meth c s₁ hx hby hml hown hnm hlk hret hZ X0 e0
  have N0 := Fr.nil n0
  refine own_ef (own_ef5 m a1 a2) ?_
  have hna : (Int32.ofNat na).toInt = (na : Int) := Int32.toInt_ofNat_of_lt (by omega)
  have hnb : (Int32.ofNat nb).toInt = (nb : Int) := Int32.toInt_ofNat_of_lt (by omega)
  have hnn : (Int32.ofNat na + Int32.ofNat nb).toInt = ((na + nb : Nat) : Int) := own_addN hna hnb (by omega)
  show own_Go p e below s _ _ _ (s₁.setTop (mkF m 0 #[.val (.ref a1), .val (.ref a2), .unset, .unset, .unset, .unset, .unset] []))
  refine own_st (fun _ kont => XS.aloadN X0.here hx rfl (hb hby own_d5_0) rfl rfl kont) ?_
  show own_Go p e below s _ _ _ (s₁.setTop (mkF m 1 #[.val (.ref a1), .val (.ref a2), .unset, .unset, .unset, .unset, .unset] [(.ref a1)]))
  refine own_st (own_len X0 hx hZ e0 V1 (z := (Int32.ofNat na)) hna (g := (mkF m 1 #[.val (.ref a1), .val (.ref a2), .unset, .unset, .unset, .unset, .unset] [(.ref a1)])) rfl rfl (hb hby own_d5_1)) ?_
  show own_Go p e below s _ _ _ (s₁.setTop (mkF m 2 #[.val (.ref a1), .val (.ref a2), .unset, .unset, .unset, .unset, .unset] [(.int (Int32.ofNat na))]))
  refine own_st (fun _ kont => XS.aloadN X0.here hx rfl (hb hby own_d5_2) rfl rfl kont) ?_
  show own_Go p e below s _ _ _ (s₁.setTop (mkF m 3 #[.val (.ref a1), .val (.ref a2), .unset, .unset, .unset, .unset, .unset] [(.ref a2), (.int (Int32.ofNat na))]))
  refine own_st (own_len X0 hx hZ e0 V2 (z := (Int32.ofNat nb)) hnb (g := (mkF m 3 #[.val (.ref a1), .val (.ref a2), .unset, .unset, .unset, .unset, .unset] [(.ref a2), (.int (Int32.ofNat na))])) rfl rfl (hb hby own_d5_3)) ?_
  show own_Go p e below s _ _ _ (s₁.setTop (mkF m 4 #[.val (.ref a1), .val (.ref a2), .unset, .unset, .unset, .unset, .unset] [(.int (Int32.ofNat nb)), (.int (Int32.ofNat na))]))
  refine own_st (fun _ kont => XS.iadd X0.here hx rfl (hb hby own_d5_4) rfl kont) ?_
  show own_Go p e below s _ _ _ (s₁.setTop (mkF m 5 #[.val (.ref a1), .val (.ref a2), .unset, .unset, .unset, .unset, .unset] [(.int ((Int32.ofNat na) + (Int32.ofNat nb)))]))
  obtain ⟨T1, h1, bb, g1, X1, e1, E1, Vbb, st1⟩ := own_newA X0 hx hZ (hw _ (List.mem_of_getElem? (i := 1) rfl)) e0 (g := (mkF m 5 #[.val (.ref a1), .val (.ref a2), .unset, .unset, .unset, .unset, .unset] [(.int ((Int32.ofNat na) + (Int32.ofNat nb)))])) rfl (hb hby own_d5_5) rfl (n := (na + nb)) (cap := 4) hnn (by omega) (by decide) (by decide) (by decide)
  replace Vbb : own_Av Z h1 bb .int (na + nb) (fun _ => .int 0) := Vbb
  have ne_a1_bb : a1 ≠ bb := Nat.ne_of_lt (Nat.lt_of_lt_of_eq V1.lt g1.symm)
  have ne_a2_bb : a2 ≠ bb := Nat.ne_of_lt (Nat.lt_of_lt_of_eq V2.lt g1.symm)
  have fr_bb : n0 ≤ bb := Nat.le_trans Z0 (Nat.le_of_eq g1.symm)
  have sk_bb : h0.size ≤ bb := Nat.le_trans (Keep.refl h0 []).1 (Nat.le_of_eq g1.symm)
  have V1_1 := V1.ext E1
  have V2_1 := V2.ext E1
  have sz1 := Nat.le_trans Z0 E1.1
  have K1 := (Keep.refl h0 []).ext E1
  refine own_st st1 ?_
  show own_Go p e below s _ _ _ (T1.setTop (mkF m 7 #[.val (.ref a1), .val (.ref a2), .unset, .unset, .unset, .unset, .unset] [(.ref bb)]))
  refine own_st (fun _ kont => XS.astoreN X1.here hx rfl (hb hby own_d5_7) rfl rfl (l' := #[.val (.ref a1), .val (.ref a2), .val (.ref bb), .unset, .unset, .unset, .unset]) rfl kont) ?_
  show own_Go p e below s _ _ _ (T1.setTop (mkF m 8 #[.val (.ref a1), .val (.ref a2), .val (.ref bb), .unset, .unset, .unset, .unset] []))
  refine own_st (fun _ kont => XS.iconst X1.here hx rfl (hb hby own_d5_8) kont) ?_
  show own_Go p e below s _ _ _ (T1.setTop (mkF m 9 #[.val (.ref a1), .val (.ref a2), .val (.ref bb), .unset, .unset, .unset, .unset] [(.int (0 : Int32))]))
  refine own_st (fun _ kont => XS.istoreN X1.here hx rfl (hb hby own_d5_9) rfl (l' := #[.val (.ref a1), .val (.ref a2), .val (.ref bb), .val (.int (0 : Int32)), .unset, .unset, .unset]) rfl kont) ?_
  show own_Go p e below s _ _ _ (T1.setTop (mkF m 10 #[.val (.ref a1), .val (.ref a2), .val (.ref bb), .val (.int (0 : Int32)), .unset, .unset, .unset] []))
  refine own_st (fun _ kont => XS.iconst X1.here hx rfl (hb hby own_d5_10) kont) ?_
  show own_Go p e below s _ _ _ (T1.setTop (mkF m 11 #[.val (.ref a1), .val (.ref a2), .val (.ref bb), .val (.int (0 : Int32)), .unset, .unset, .unset] [(.int (0 : Int32))]))
  refine own_st (fun _ kont => XS.istore X1.here hx rfl (hb hby own_d5_11) rfl (l' := #[.val (.ref a1), .val (.ref a2), .val (.ref bb), .val (.int (0 : Int32)), .val (.int (0 : Int32)), .unset, .unset]) rfl kont) ?_
  show own_Go p e below s _ _ _ (T1.setTop (mkF m 13 #[.val (.ref a1), .val (.ref a2), .val (.ref bb), .val (.int (0 : Int32)), .val (.int (0 : Int32)), .unset, .unset] []))
  refine own_st (fun _ kont => XS.iconst X1.here hx rfl (hb hby own_d5_13) kont) ?_
  show own_Go p e below s _ _ _ (T1.setTop (mkF m 14 #[.val (.ref a1), .val (.ref a2), .val (.ref bb), .val (.int (0 : Int32)), .val (.int (0 : Int32)), .unset, .unset] [(.int (0 : Int32))]))
  refine own_st (fun _ kont => XS.istore X1.here hx rfl (hb hby own_d5_14) rfl (l' := #[.val (.ref a1), .val (.ref a2), .val (.ref bb), .val (.int (0 : Int32)), .val (.int (0 : Int32)), .val (.int (0 : Int32)), .unset]) rfl kont) ?_
  show own_Go p e below s _ _ _ (T1.setTop (mkF m 16 #[.val (.ref a1), .val (.ref a2), .val (.ref bb), .val (.int (0 : Int32)), .val (.int (0 : Int32)), .val (.int (0 : Int32)), .unset] []))
  have loop : ∀ (r i j : Nat) (ci cj ck : Int32) (s6 : Slot) (Tl : State) (Ll : List Loc) (P : Nat → Int32), i + j + r = na + nb → i ≤ na → j ≤ nb → ci.toInt = (i : Int) → cj.toInt = (j : Int) → ck.toInt = ((i + j : Nat) : Int) → One s6 → Stand p l e ({ frames := 0, cells := 1, slots := 4, locals := 0 } : Room) s m #[(.ref a1), (.ref a2)] below meth c Tl Ll 1 4 → Fr n0 Ll → Keep h0 Tl.heap [] → n0 ≤ Tl.heap.size → own_Av Z Tl.heap bb .int (na + nb) (fun t => .int (P t)) → (∀ t, t < i + j → P t = (own_mg f g na nb (na + nb) 0 0).getD t 0) → (∀ t, (own_mg f g na nb (na + nb) 0 0).getD (i + j + t) 0 = (own_mg f g na nb r i j).getD t 0) → own_Go p e below s (fun v h' L => ∃ (b : Addr) (F : Nat → Int32), v = some (.ref b) ∧ Fr n0 L ∧ Keep h0 h' [] ∧ own_Av Z h' b .int (na + nb) (fun t => .int (F t)) ∧ ∀ t, t < na + nb → F t = (own_mg f g na nb (na + nb) 0 0).getD t 0) ({ frames := 0, cells := 1, slots := 4, locals := 0 } : Room).cells ({ frames := 0, cells := 1, slots := 4, locals := 0 } : Room).slots (Tl.setTop (mkF m 16 #[.val (.ref a1), .val (.ref a2), .val (.ref bb), .val (.int ci), .val (.int cj), .val (.int ck), s6] [])) := by
    intro r
    induction r with
    | zero =>
      intro i j ci cj ck s6 Tl Ll P hr hin hjn hci hcj hck hs6 Xl Nl Kl szl Vl hpre hsuf
      have V1l := V1.keep Kl nin0
      have V2l := V2.keep Kl nin0
      show own_Go p e below s _ _ _ (Tl.setTop (mkF m 16 #[.val (.ref a1), .val (.ref a2), .val (.ref bb), .val (.int ci), .val (.int cj), .val (.int ck), s6] []))
      refine own_st (fun _ kont => XS.iload Xl.here hx rfl (hb hby own_d5_16) rfl kont) ?_
      show own_Go p e below s _ _ _ (Tl.setTop (mkF m 18 #[.val (.ref a1), .val (.ref a2), .val (.ref bb), .val (.int ci), .val (.int cj), .val (.int ck), s6] [(.int ck)]))
      refine own_st (fun _ kont => XS.aloadN Xl.here hx rfl (hb hby own_d5_18) rfl rfl kont) ?_
      show own_Go p e below s _ _ _ (Tl.setTop (mkF m 19 #[.val (.ref a1), .val (.ref a2), .val (.ref bb), .val (.int ci), .val (.int cj), .val (.int ck), s6] [(.ref bb), (.int ck)]))
      refine own_st (own_len Xl hx hZ (rfl : Tl.heap = Tl.heap) Vl (z := (Int32.ofNat na + Int32.ofNat nb)) hnn (g := (mkF m 19 #[.val (.ref a1), .val (.ref a2), .val (.ref bb), .val (.int ci), .val (.int cj), .val (.int ck), s6] [(.ref bb), (.int ck)])) rfl rfl (hb hby own_d5_19)) ?_
      show own_Go p e below s _ _ _ (Tl.setTop (mkF m 20 #[.val (.ref a1), .val (.ref a2), .val (.ref bb), .val (.int ci), .val (.int cj), .val (.int ck), s6] [(.int (Int32.ofNat na + Int32.ofNat nb)), (.int ck)]))
      refine own_st (fun _ kont => XS.icmpYes Xl.here hx rfl (pc0 := 20) (pc' := 84) rfl (hb hby own_d5_20) rfl (flt (fun u => by rw [own_lt32, hck, hnn] at u; omega)).2.1 (by decide) (by decide) kont) ?_
      show own_Go p e below s _ _ _ (Tl.setTop (mkF m 84 #[.val (.ref a1), .val (.ref a2), .val (.ref bb), .val (.int ci), .val (.int cj), .val (.int ck), s6] []))
      refine own_st (fun _ kont => XS.aloadN Xl.here hx rfl (hb hby own_d5_84) rfl rfl kont) ?_
      show own_Go p e below s _ _ _ (Tl.setTop (mkF m 85 #[.val (.ref a1), .val (.ref a2), .val (.ref bb), .val (.int ci), .val (.int cj), .val (.int ck), s6] [(.ref bb)]))
      exact own_endA Xl hx hlk hret rfl rfl (hb hby own_d5_85) ⟨bb, P, rfl, Nl, Kl, Vl, fun t ht => hpre t (by omega)⟩ (by decide) (by decide)
    | succ r ih =>
      intro i j ci cj ck s6 Tl Ll P hr hin hjn hci hcj hck hs6 Xl Nl Kl szl Vl hpre hsuf
      have V1l := V1.keep Kl nin0
      have V2l := V2.keep Kl nin0
      show own_Go p e below s _ _ _ (Tl.setTop (mkF m 16 #[.val (.ref a1), .val (.ref a2), .val (.ref bb), .val (.int ci), .val (.int cj), .val (.int ck), s6] []))
      refine own_st (fun _ kont => XS.iload Xl.here hx rfl (hb hby own_d5_16) rfl kont) ?_
      show own_Go p e below s _ _ _ (Tl.setTop (mkF m 18 #[.val (.ref a1), .val (.ref a2), .val (.ref bb), .val (.int ci), .val (.int cj), .val (.int ck), s6] [(.int ck)]))
      refine own_st (fun _ kont => XS.aloadN Xl.here hx rfl (hb hby own_d5_18) rfl rfl kont) ?_
      show own_Go p e below s _ _ _ (Tl.setTop (mkF m 19 #[.val (.ref a1), .val (.ref a2), .val (.ref bb), .val (.int ci), .val (.int cj), .val (.int ck), s6] [(.ref bb), (.int ck)]))
      refine own_st (own_len Xl hx hZ (rfl : Tl.heap = Tl.heap) Vl (z := (Int32.ofNat na + Int32.ofNat nb)) hnn (g := (mkF m 19 #[.val (.ref a1), .val (.ref a2), .val (.ref bb), .val (.int ci), .val (.int cj), .val (.int ck), s6] [(.ref bb), (.int ck)])) rfl rfl (hb hby own_d5_19)) ?_
      show own_Go p e below s _ _ _ (Tl.setTop (mkF m 20 #[.val (.ref a1), .val (.ref a2), .val (.ref bb), .val (.int ci), .val (.int cj), .val (.int ck), s6] [(.int (Int32.ofNat na + Int32.ofNat nb)), (.int ck)]))
      refine own_st (fun _ kont => XS.icmpNo Xl.here hx rfl (hb hby own_d5_20) rfl (tlt (own_lt32.mpr (by rw [hck, hnn]; omega))).2.1 kont) ?_
      show own_Go p e below s _ _ _ (Tl.setTop (mkF m 23 #[.val (.ref a1), .val (.ref a2), .val (.ref bb), .val (.int ci), .val (.int cj), .val (.int ck), s6] []))
      refine own_st (fun _ kont => XS.iload Xl.here hx rfl (hb hby own_d5_23) rfl kont) ?_
      show own_Go p e below s _ _ _ (Tl.setTop (mkF m 25 #[.val (.ref a1), .val (.ref a2), .val (.ref bb), .val (.int ci), .val (.int cj), .val (.int ck), s6] [(.int cj)]))
      refine own_st (fun _ kont => XS.aloadN Xl.here hx rfl (hb hby own_d5_25) rfl rfl kont) ?_
      show own_Go p e below s _ _ _ (Tl.setTop (mkF m 26 #[.val (.ref a1), .val (.ref a2), .val (.ref bb), .val (.int ci), .val (.int cj), .val (.int ck), s6] [(.ref a2), (.int cj)]))
      refine own_st (own_len Xl hx hZ (rfl : Tl.heap = Tl.heap) V2l (z := (Int32.ofNat nb)) hnb (g := (mkF m 26 #[.val (.ref a1), .val (.ref a2), .val (.ref bb), .val (.int ci), .val (.int cj), .val (.int ck), s6] [(.ref a2), (.int cj)])) rfl rfl (hb hby own_d5_26)) ?_
      show own_Go p e below s _ _ _ (Tl.setTop (mkF m 27 #[.val (.ref a1), .val (.ref a2), .val (.ref bb), .val (.int ci), .val (.int cj), .val (.int ck), s6] [(.int (Int32.ofNat nb)), (.int cj)]))
      have JT : (j = nb ∨ (i < na ∧ ¬ g j < f i)) → own_Go p e below s (fun v h' L => ∃ (b : Addr) (F : Nat → Int32), v = some (.ref b) ∧ Fr n0 L ∧ Keep h0 h' [] ∧ own_Av Z h' b .int (na + nb) (fun t => .int (F t)) ∧ ∀ t, t < na + nb → F t = (own_mg f g na nb (na + nb) 0 0).getD t 0) ({ frames := 0, cells := 1, slots := 4, locals := 0 } : Room).cells ({ frames := 0, cells := 1, slots := 4, locals := 0 } : Room).slots (Tl.setTop (mkF m 46 #[.val (.ref a1), .val (.ref a2), .val (.ref bb), .val (.int ci), .val (.int cj), .val (.int ck), s6] [])) := by
        intro hcd
        have hmg : own_mg f g na nb (r + 1) i j = f i :: own_mg f g na nb r (i + 1) j := by
          show (if (j = nb ∨ (i < na ∧ ¬ g j < f i)) then f i :: own_mg f g na nb r (i + 1) j else g j :: own_mg f g na nb r i (j + 1)) = _
          rw [if_pos hcd]
        show own_Go p e below s _ _ _ (Tl.setTop (mkF m 46 #[.val (.ref a1), .val (.ref a2), .val (.ref bb), .val (.int ci), .val (.int cj), .val (.int ck), s6] []))
        refine own_st (fun _ kont => XS.iconst Xl.here hx rfl (hb hby own_d5_46) kont) ?_
        show own_Go p e below s _ _ _ (Tl.setTop (mkF m 47 #[.val (.ref a1), .val (.ref a2), .val (.ref bb), .val (.int ci), .val (.int cj), .val (.int ck), s6] [(.int (1 : Int32))]))
        refine own_st (fun _ kont => XS.goto Xl.here hx rfl (pc0 := 47) (pc' := 51) rfl (hb hby own_d5_47) (by decide) (by decide) kont) ?_
        show own_Go p e below s _ _ _ (Tl.setTop (mkF m 51 #[.val (.ref a1), .val (.ref a2), .val (.ref bb), .val (.int ci), .val (.int cj), .val (.int ck), s6] [(.int (1 : Int32))]))
        refine own_st (fun _ kont => XS.istore Xl.here hx rfl (hb hby own_d5_51) rfl (l' := #[.val (.ref a1), .val (.ref a2), .val (.ref bb), .val (.int ci), .val (.int cj), .val (.int ck), .val (.int (1 : Int32))]) (XS.store1 (o := s6) rfl hs6 rfl) kont) ?_
        show own_Go p e below s _ _ _ (Tl.setTop (mkF m 53 #[.val (.ref a1), .val (.ref a2), .val (.ref bb), .val (.int ci), .val (.int cj), .val (.int ck), .val (.int (1 : Int32))] []))
        refine own_st (fun _ kont => XS.aloadN Xl.here hx rfl (hb hby own_d5_53) rfl rfl kont) ?_
        show own_Go p e below s _ _ _ (Tl.setTop (mkF m 54 #[.val (.ref a1), .val (.ref a2), .val (.ref bb), .val (.int ci), .val (.int cj), .val (.int ck), .val (.int (1 : Int32))] [(.ref bb)]))
        refine own_st (fun _ kont => XS.iload Xl.here hx rfl (hb hby own_d5_54) rfl kont) ?_
        show own_Go p e below s _ _ _ (Tl.setTop (mkF m 56 #[.val (.ref a1), .val (.ref a2), .val (.ref bb), .val (.int ci), .val (.int cj), .val (.int ck), .val (.int (1 : Int32))] [(.int ck), (.ref bb)]))
        refine own_st (fun _ kont => XS.iload Xl.here hx rfl (hb hby own_d5_56) rfl kont) ?_
        show own_Go p e below s _ _ _ (Tl.setTop (mkF m 58 #[.val (.ref a1), .val (.ref a2), .val (.ref bb), .val (.int ci), .val (.int cj), .val (.int ck), .val (.int (1 : Int32))] [(.int (1 : Int32)), (.int ck), (.ref bb)]))
        refine own_st (fun _ kont => XS.ifNo Xl.here hx rfl (hb hby own_d5_58) rfl (by decide) kont) ?_
        show own_Go p e below s _ _ _ (Tl.setTop (mkF m 61 #[.val (.ref a1), .val (.ref a2), .val (.ref bb), .val (.int ci), .val (.int cj), .val (.int ck), .val (.int (1 : Int32))] [(.int ck), (.ref bb)]))
        refine own_st (fun _ kont => XS.aloadN Xl.here hx rfl (hb hby own_d5_61) rfl rfl kont) ?_
        show own_Go p e below s _ _ _ (Tl.setTop (mkF m 62 #[.val (.ref a1), .val (.ref a2), .val (.ref bb), .val (.int ci), .val (.int cj), .val (.int ck), .val (.int (1 : Int32))] [(.ref a1), (.int ck), (.ref bb)]))
        refine own_st (fun _ kont => XS.iloadN Xl.here hx rfl (hb hby own_d5_62) rfl kont) ?_
        show own_Go p e below s _ _ _ (Tl.setTop (mkF m 63 #[.val (.ref a1), .val (.ref a2), .val (.ref bb), .val (.int ci), .val (.int cj), .val (.int ck), .val (.int (1 : Int32))] [(.int ci), (.ref a1), (.int ck), (.ref bb)]))
        refine own_st (fun _ kont => XS.iinc Xl.here hx rfl (hb hby own_d5_63) rfl (l' := #[.val (.ref a1), .val (.ref a2), .val (.ref bb), .val (.int (ci + (1 : Int32))), .val (.int cj), .val (.int ck), .val (.int (1 : Int32))]) rfl kont) ?_
        show own_Go p e below s _ _ _ (Tl.setTop (mkF m 66 #[.val (.ref a1), .val (.ref a2), .val (.ref bb), .val (.int (ci + (1 : Int32))), .val (.int cj), .val (.int ck), .val (.int (1 : Int32))] [(.int ci), (.ref a1), (.int ck), (.ref bb)]))
        refine own_st (own_ldI Xl hx hZ (rfl : Tl.heap = Tl.heap) V1l (i := i) hci (by omega) (v := (.int (f i))) rfl (g := (mkF m 66 #[.val (.ref a1), .val (.ref a2), .val (.ref bb), .val (.int (ci + (1 : Int32))), .val (.int cj), .val (.int ck), .val (.int (1 : Int32))] [(.int ci), (.ref a1), (.int ck), (.ref bb)])) rfl rfl (hb hby own_d5_66)) ?_
        show own_Go p e below s _ _ _ (Tl.setTop (mkF m 67 #[.val (.ref a1), .val (.ref a2), .val (.ref bb), .val (.int (ci + (1 : Int32))), .val (.int cj), .val (.int ck), .val (.int (1 : Int32))] [(.int (f i)), (.int ck), (.ref bb)]))
        refine own_st (fun _ kont => XS.goto Xl.here hx rfl (pc0 := 67) (pc' := 77) rfl (hb hby own_d5_67) (by decide) (by decide) kont) ?_
        show own_Go p e below s _ _ _ (Tl.setTop (mkF m 77 #[.val (.ref a1), .val (.ref a2), .val (.ref bb), .val (.int (ci + (1 : Int32))), .val (.int cj), .val (.int ck), .val (.int (1 : Int32))] [(.int (f i)), (.int ck), (.ref bb)]))
        obtain ⟨T2, h2, X2, e2, W2, Vl_2, st2⟩ := own_stI Xl hx hZ (rfl : Tl.heap = Tl.heap) Vl (i := (i + j)) hck (by omega) (g := (mkF m 77 #[.val (.ref a1), .val (.ref a2), .val (.ref bb), .val (.int (ci + (1 : Int32))), .val (.int cj), .val (.int ck), .val (.int (1 : Int32))] [(.int (f i)), (.int ck), (.ref bb)])) rfl rfl (hb hby own_d5_77)
        have V1l_2 := V1l.other W2 ne_a1_bb
        have V2l_2 := V2l.other W2 ne_a2_bb
        have sz2 := Nat.le_trans szl (Keep.of_wr W2).1
        have K2 := Kl.wr W2 (Or.inr sk_bb)
        have N2 := Fr.snoc X2 Nl fr_bb
        refine own_st st2 ?_
        show own_Go p e below s _ _ _ (T2.setTop (mkF m 78 #[.val (.ref a1), .val (.ref a2), .val (.ref bb), .val (.int (ci + (1 : Int32))), .val (.int cj), .val (.int ck), .val (.int (1 : Int32))] []))
        refine own_st (fun _ kont => XS.iinc X2.here hx rfl (hb hby own_d5_78) rfl (l' := #[.val (.ref a1), .val (.ref a2), .val (.ref bb), .val (.int (ci + (1 : Int32))), .val (.int cj), .val (.int (ck + (1 : Int32))), .val (.int (1 : Int32))]) rfl kont) ?_
        show own_Go p e below s _ _ _ (T2.setTop (mkF m 81 #[.val (.ref a1), .val (.ref a2), .val (.ref bb), .val (.int (ci + (1 : Int32))), .val (.int cj), .val (.int (ck + (1 : Int32))), .val (.int (1 : Int32))] []))
        refine own_st (fun _ kont => XS.goto X2.here hx rfl (pc0 := 81) (pc' := 16) rfl (hb hby own_d5_81) (by decide) (by decide) kont) ?_
        show own_Go p e below s _ _ _ (T2.setTop (mkF m 16 #[.val (.ref a1), .val (.ref a2), .val (.ref bb), .val (.int (ci + (1 : Int32))), .val (.int cj), .val (.int (ck + (1 : Int32))), .val (.int (1 : Int32))] []))
        have hx0 : (own_mg f g na nb (na + nb) 0 0).getD (i + j) 0 = f i := by
          have q := hsuf 0
          rw [hmg] at q
          exact q
        refine ih (i + 1) j _ _ _ _ _ _ _ (by omega) (by omega) (by omega) (own_addN hci (by decide) (by omega)) hcj ?_ (Or.inr ⟨_, rfl, rfl⟩) X2 N2 (by rw [e2]; exact K2) (by rw [e2]; exact sz2) (by rw [e2]; exact Vl_2) (fun t ht => ?_) (fun t => ?_)
        · exact (own_addN hck (k := 1) (by decide) (by omega)).trans (by omega)
        · by_cases q : t = i + j
          · rw [if_pos q, q, hx0]
          · rw [if_neg q]; exact hpre t (by omega)
        · have q := hsuf (t + 1)
          rw [hmg] at q
          rw [show i + 1 + j + t = i + j + (t + 1) by omega]
          exact q
      have JF : ¬ (j = nb ∨ (i < na ∧ ¬ g j < f i)) → own_Go p e below s (fun v h' L => ∃ (b : Addr) (F : Nat → Int32), v = some (.ref b) ∧ Fr n0 L ∧ Keep h0 h' [] ∧ own_Av Z h' b .int (na + nb) (fun t => .int (F t)) ∧ ∀ t, t < na + nb → F t = (own_mg f g na nb (na + nb) 0 0).getD t 0) ({ frames := 0, cells := 1, slots := 4, locals := 0 } : Room).cells ({ frames := 0, cells := 1, slots := 4, locals := 0 } : Room).slots (Tl.setTop (mkF m 50 #[.val (.ref a1), .val (.ref a2), .val (.ref bb), .val (.int ci), .val (.int cj), .val (.int ck), s6] [])) := by
        intro hcd
        have hmg : own_mg f g na nb (r + 1) i j = g j :: own_mg f g na nb r i (j + 1) := by
          show (if (j = nb ∨ (i < na ∧ ¬ g j < f i)) then f i :: own_mg f g na nb r (i + 1) j else g j :: own_mg f g na nb r i (j + 1)) = _
          rw [if_neg hcd]
        show own_Go p e below s _ _ _ (Tl.setTop (mkF m 50 #[.val (.ref a1), .val (.ref a2), .val (.ref bb), .val (.int ci), .val (.int cj), .val (.int ck), s6] []))
        refine own_st (fun _ kont => XS.iconst Xl.here hx rfl (hb hby own_d5_50) kont) ?_
        show own_Go p e below s _ _ _ (Tl.setTop (mkF m 51 #[.val (.ref a1), .val (.ref a2), .val (.ref bb), .val (.int ci), .val (.int cj), .val (.int ck), s6] [(.int (0 : Int32))]))
        refine own_st (fun _ kont => XS.istore Xl.here hx rfl (hb hby own_d5_51) rfl (l' := #[.val (.ref a1), .val (.ref a2), .val (.ref bb), .val (.int ci), .val (.int cj), .val (.int ck), .val (.int (0 : Int32))]) (XS.store1 (o := s6) rfl hs6 rfl) kont) ?_
        show own_Go p e below s _ _ _ (Tl.setTop (mkF m 53 #[.val (.ref a1), .val (.ref a2), .val (.ref bb), .val (.int ci), .val (.int cj), .val (.int ck), .val (.int (0 : Int32))] []))
        refine own_st (fun _ kont => XS.aloadN Xl.here hx rfl (hb hby own_d5_53) rfl rfl kont) ?_
        show own_Go p e below s _ _ _ (Tl.setTop (mkF m 54 #[.val (.ref a1), .val (.ref a2), .val (.ref bb), .val (.int ci), .val (.int cj), .val (.int ck), .val (.int (0 : Int32))] [(.ref bb)]))
        refine own_st (fun _ kont => XS.iload Xl.here hx rfl (hb hby own_d5_54) rfl kont) ?_
        show own_Go p e below s _ _ _ (Tl.setTop (mkF m 56 #[.val (.ref a1), .val (.ref a2), .val (.ref bb), .val (.int ci), .val (.int cj), .val (.int ck), .val (.int (0 : Int32))] [(.int ck), (.ref bb)]))
        refine own_st (fun _ kont => XS.iload Xl.here hx rfl (hb hby own_d5_56) rfl kont) ?_
        show own_Go p e below s _ _ _ (Tl.setTop (mkF m 58 #[.val (.ref a1), .val (.ref a2), .val (.ref bb), .val (.int ci), .val (.int cj), .val (.int ck), .val (.int (0 : Int32))] [(.int (0 : Int32)), (.int ck), (.ref bb)]))
        refine own_st (fun _ kont => XS.ifYes Xl.here hx rfl (pc0 := 58) (pc' := 70) rfl (hb hby own_d5_58) rfl (by decide) (by decide) (by decide) kont) ?_
        show own_Go p e below s _ _ _ (Tl.setTop (mkF m 70 #[.val (.ref a1), .val (.ref a2), .val (.ref bb), .val (.int ci), .val (.int cj), .val (.int ck), .val (.int (0 : Int32))] [(.int ck), (.ref bb)]))
        refine own_st (fun _ kont => XS.aloadN Xl.here hx rfl (hb hby own_d5_70) rfl rfl kont) ?_
        show own_Go p e below s _ _ _ (Tl.setTop (mkF m 71 #[.val (.ref a1), .val (.ref a2), .val (.ref bb), .val (.int ci), .val (.int cj), .val (.int ck), .val (.int (0 : Int32))] [(.ref a2), (.int ck), (.ref bb)]))
        refine own_st (fun _ kont => XS.iload Xl.here hx rfl (hb hby own_d5_71) rfl kont) ?_
        show own_Go p e below s _ _ _ (Tl.setTop (mkF m 73 #[.val (.ref a1), .val (.ref a2), .val (.ref bb), .val (.int ci), .val (.int cj), .val (.int ck), .val (.int (0 : Int32))] [(.int cj), (.ref a2), (.int ck), (.ref bb)]))
        refine own_st (fun _ kont => XS.iinc Xl.here hx rfl (hb hby own_d5_73) rfl (l' := #[.val (.ref a1), .val (.ref a2), .val (.ref bb), .val (.int ci), .val (.int (cj + (1 : Int32))), .val (.int ck), .val (.int (0 : Int32))]) rfl kont) ?_
        show own_Go p e below s _ _ _ (Tl.setTop (mkF m 76 #[.val (.ref a1), .val (.ref a2), .val (.ref bb), .val (.int ci), .val (.int (cj + (1 : Int32))), .val (.int ck), .val (.int (0 : Int32))] [(.int cj), (.ref a2), (.int ck), (.ref bb)]))
        refine own_st (own_ldI Xl hx hZ (rfl : Tl.heap = Tl.heap) V2l (i := j) hcj (by omega) (v := (.int (g j))) rfl (g := (mkF m 76 #[.val (.ref a1), .val (.ref a2), .val (.ref bb), .val (.int ci), .val (.int (cj + (1 : Int32))), .val (.int ck), .val (.int (0 : Int32))] [(.int cj), (.ref a2), (.int ck), (.ref bb)])) rfl rfl (hb hby own_d5_76)) ?_
        show own_Go p e below s _ _ _ (Tl.setTop (mkF m 77 #[.val (.ref a1), .val (.ref a2), .val (.ref bb), .val (.int ci), .val (.int (cj + (1 : Int32))), .val (.int ck), .val (.int (0 : Int32))] [(.int (g j)), (.int ck), (.ref bb)]))
        obtain ⟨T3, h3, X3, e3, W3, Vl_3, st3⟩ := own_stI Xl hx hZ (rfl : Tl.heap = Tl.heap) Vl (i := (i + j)) hck (by omega) (g := (mkF m 77 #[.val (.ref a1), .val (.ref a2), .val (.ref bb), .val (.int ci), .val (.int (cj + (1 : Int32))), .val (.int ck), .val (.int (0 : Int32))] [(.int (g j)), (.int ck), (.ref bb)])) rfl rfl (hb hby own_d5_77)
        have V1l_3 := V1l.other W3 ne_a1_bb
        have V2l_3 := V2l.other W3 ne_a2_bb
        have sz3 := Nat.le_trans szl (Keep.of_wr W3).1
        have K3 := Kl.wr W3 (Or.inr sk_bb)
        have N3 := Fr.snoc X3 Nl fr_bb
        refine own_st st3 ?_
        show own_Go p e below s _ _ _ (T3.setTop (mkF m 78 #[.val (.ref a1), .val (.ref a2), .val (.ref bb), .val (.int ci), .val (.int (cj + (1 : Int32))), .val (.int ck), .val (.int (0 : Int32))] []))
        refine own_st (fun _ kont => XS.iinc X3.here hx rfl (hb hby own_d5_78) rfl (l' := #[.val (.ref a1), .val (.ref a2), .val (.ref bb), .val (.int ci), .val (.int (cj + (1 : Int32))), .val (.int (ck + (1 : Int32))), .val (.int (0 : Int32))]) rfl kont) ?_
        show own_Go p e below s _ _ _ (T3.setTop (mkF m 81 #[.val (.ref a1), .val (.ref a2), .val (.ref bb), .val (.int ci), .val (.int (cj + (1 : Int32))), .val (.int (ck + (1 : Int32))), .val (.int (0 : Int32))] []))
        refine own_st (fun _ kont => XS.goto X3.here hx rfl (pc0 := 81) (pc' := 16) rfl (hb hby own_d5_81) (by decide) (by decide) kont) ?_
        show own_Go p e below s _ _ _ (T3.setTop (mkF m 16 #[.val (.ref a1), .val (.ref a2), .val (.ref bb), .val (.int ci), .val (.int (cj + (1 : Int32))), .val (.int (ck + (1 : Int32))), .val (.int (0 : Int32))] []))
        have hx0 : (own_mg f g na nb (na + nb) 0 0).getD (i + j) 0 = g j := by
          have q := hsuf 0
          rw [hmg] at q
          exact q
        refine ih i (j + 1) _ _ _ _ _ _ _ (by omega) (by omega) (by omega) hci (own_addN hcj (by decide) (by omega)) ?_ (Or.inr ⟨_, rfl, rfl⟩) X3 N3 (by rw [e3]; exact K3) (by rw [e3]; exact sz3) (by rw [e3]; exact Vl_3) (fun t ht => ?_) (fun t => ?_)
        · exact (own_addN hck (k := 1) (by decide) (by omega)).trans (by omega)
        · by_cases q : t = i + j
          · rw [if_pos q, q, hx0]
          · rw [if_neg q]; exact hpre t (by omega)
        · have q := hsuf (t + 1)
          rw [hmg] at q
          rw [show i + (j + 1) + t = i + j + (t + 1) by omega]
          exact q
      show own_Go p e below s _ _ _ (Tl.setTop (mkF m 27 #[.val (.ref a1), .val (.ref a2), .val (.ref bb), .val (.int ci), .val (.int cj), .val (.int ck), s6] [(.int (Int32.ofNat nb)), (.int cj)]))
      rcases Classical.em (cj = (Int32.ofNat nb)) with c1 | c1
      · have ic1 : ((cj).toInt : Int) = ((Int32.ofNat nb)).toInt := congrArg Int32.toInt c1
        show own_Go p e below s _ _ _ (Tl.setTop (mkF m 27 #[.val (.ref a1), .val (.ref a2), .val (.ref bb), .val (.int ci), .val (.int cj), .val (.int ck), s6] [(.int (Int32.ofNat nb)), (.int cj)]))
        refine own_st (fun _ kont => XS.icmpYes Xl.here hx rfl (pc0 := 27) (pc' := 46) rfl (hb hby own_d5_27) rfl (teq c1).1 (by decide) (by decide) kont) ?_
        show own_Go p e below s _ _ _ (Tl.setTop (mkF m 46 #[.val (.ref a1), .val (.ref a2), .val (.ref bb), .val (.int ci), .val (.int cj), .val (.int ck), s6] []))
        exact JT (Or.inl (by omega))
      · have ic1 : ¬ (((cj).toInt : Int) = ((Int32.ofNat nb)).toInt) := fun u => c1 (Int32.toInt_inj.mp u)
        show own_Go p e below s _ _ _ (Tl.setTop (mkF m 27 #[.val (.ref a1), .val (.ref a2), .val (.ref bb), .val (.int ci), .val (.int cj), .val (.int ck), s6] [(.int (Int32.ofNat nb)), (.int cj)]))
        refine own_st (fun _ kont => XS.icmpNo Xl.here hx rfl (hb hby own_d5_27) rfl (feq c1).1 kont) ?_
        show own_Go p e below s _ _ _ (Tl.setTop (mkF m 30 #[.val (.ref a1), .val (.ref a2), .val (.ref bb), .val (.int ci), .val (.int cj), .val (.int ck), s6] []))
        refine own_st (fun _ kont => XS.iloadN Xl.here hx rfl (hb hby own_d5_30) rfl kont) ?_
        show own_Go p e below s _ _ _ (Tl.setTop (mkF m 31 #[.val (.ref a1), .val (.ref a2), .val (.ref bb), .val (.int ci), .val (.int cj), .val (.int ck), s6] [(.int ci)]))
        refine own_st (fun _ kont => XS.aloadN Xl.here hx rfl (hb hby own_d5_31) rfl rfl kont) ?_
        show own_Go p e below s _ _ _ (Tl.setTop (mkF m 32 #[.val (.ref a1), .val (.ref a2), .val (.ref bb), .val (.int ci), .val (.int cj), .val (.int ck), s6] [(.ref a1), (.int ci)]))
        refine own_st (own_len Xl hx hZ (rfl : Tl.heap = Tl.heap) V1l (z := (Int32.ofNat na)) hna (g := (mkF m 32 #[.val (.ref a1), .val (.ref a2), .val (.ref bb), .val (.int ci), .val (.int cj), .val (.int ck), s6] [(.ref a1), (.int ci)])) rfl rfl (hb hby own_d5_32)) ?_
        show own_Go p e below s _ _ _ (Tl.setTop (mkF m 33 #[.val (.ref a1), .val (.ref a2), .val (.ref bb), .val (.int ci), .val (.int cj), .val (.int ck), s6] [(.int (Int32.ofNat na)), (.int ci)]))
        rcases Classical.em (ci < (Int32.ofNat na)) with c2 | c2
        · have ic2 : ((ci).toInt : Int) < ((Int32.ofNat na)).toInt := Int32.lt_iff_toInt_lt.mp c2
          show own_Go p e below s _ _ _ (Tl.setTop (mkF m 33 #[.val (.ref a1), .val (.ref a2), .val (.ref bb), .val (.int ci), .val (.int cj), .val (.int ck), s6] [(.int (Int32.ofNat na)), (.int ci)]))
          refine own_st (fun _ kont => XS.icmpNo Xl.here hx rfl (hb hby own_d5_33) rfl (tlt c2).2.1 kont) ?_
          show own_Go p e below s _ _ _ (Tl.setTop (mkF m 36 #[.val (.ref a1), .val (.ref a2), .val (.ref bb), .val (.int ci), .val (.int cj), .val (.int ck), s6] []))
          refine own_st (fun _ kont => XS.aloadN Xl.here hx rfl (hb hby own_d5_36) rfl rfl kont) ?_
          show own_Go p e below s _ _ _ (Tl.setTop (mkF m 37 #[.val (.ref a1), .val (.ref a2), .val (.ref bb), .val (.int ci), .val (.int cj), .val (.int ck), s6] [(.ref a1)]))
          refine own_st (fun _ kont => XS.iloadN Xl.here hx rfl (hb hby own_d5_37) rfl kont) ?_
          show own_Go p e below s _ _ _ (Tl.setTop (mkF m 38 #[.val (.ref a1), .val (.ref a2), .val (.ref bb), .val (.int ci), .val (.int cj), .val (.int ck), s6] [(.int ci), (.ref a1)]))
          refine own_st (own_ldI Xl hx hZ (rfl : Tl.heap = Tl.heap) V1l (i := i) hci (by omega) (v := (.int (f i))) rfl (g := (mkF m 38 #[.val (.ref a1), .val (.ref a2), .val (.ref bb), .val (.int ci), .val (.int cj), .val (.int ck), s6] [(.int ci), (.ref a1)])) rfl rfl (hb hby own_d5_38)) ?_
          show own_Go p e below s _ _ _ (Tl.setTop (mkF m 39 #[.val (.ref a1), .val (.ref a2), .val (.ref bb), .val (.int ci), .val (.int cj), .val (.int ck), s6] [(.int (f i))]))
          refine own_st (fun _ kont => XS.aloadN Xl.here hx rfl (hb hby own_d5_39) rfl rfl kont) ?_
          show own_Go p e below s _ _ _ (Tl.setTop (mkF m 40 #[.val (.ref a1), .val (.ref a2), .val (.ref bb), .val (.int ci), .val (.int cj), .val (.int ck), s6] [(.ref a2), (.int (f i))]))
          refine own_st (fun _ kont => XS.iload Xl.here hx rfl (hb hby own_d5_40) rfl kont) ?_
          show own_Go p e below s _ _ _ (Tl.setTop (mkF m 42 #[.val (.ref a1), .val (.ref a2), .val (.ref bb), .val (.int ci), .val (.int cj), .val (.int ck), s6] [(.int cj), (.ref a2), (.int (f i))]))
          refine own_st (own_ldI Xl hx hZ (rfl : Tl.heap = Tl.heap) V2l (i := j) hcj (by omega) (v := (.int (g j))) rfl (g := (mkF m 42 #[.val (.ref a1), .val (.ref a2), .val (.ref bb), .val (.int ci), .val (.int cj), .val (.int ck), s6] [(.int cj), (.ref a2), (.int (f i))])) rfl rfl (hb hby own_d5_42)) ?_
          show own_Go p e below s _ _ _ (Tl.setTop (mkF m 43 #[.val (.ref a1), .val (.ref a2), .val (.ref bb), .val (.int ci), .val (.int cj), .val (.int ck), s6] [(.int (g j)), (.int (f i))]))
          rcases Classical.em ((g j) < (f i)) with c3 | c3
          · show own_Go p e below s _ _ _ (Tl.setTop (mkF m 43 #[.val (.ref a1), .val (.ref a2), .val (.ref bb), .val (.int ci), .val (.int cj), .val (.int ck), s6] [(.int (g j)), (.int (f i))]))
            refine own_st (fun _ kont => XS.icmpYes Xl.here hx rfl (pc0 := 43) (pc' := 50) rfl (hb hby own_d5_43) rfl (tlt c3).2.2.1 (by decide) (by decide) kont) ?_
            show own_Go p e below s _ _ _ (Tl.setTop (mkF m 50 #[.val (.ref a1), .val (.ref a2), .val (.ref bb), .val (.int ci), .val (.int cj), .val (.int ck), s6] []))
            exact JF (fun u => u.elim (fun q => by omega) (fun q => q.2 c3))
          · show own_Go p e below s _ _ _ (Tl.setTop (mkF m 43 #[.val (.ref a1), .val (.ref a2), .val (.ref bb), .val (.int ci), .val (.int cj), .val (.int ck), s6] [(.int (g j)), (.int (f i))]))
            refine own_st (fun _ kont => XS.icmpNo Xl.here hx rfl (hb hby own_d5_43) rfl (flt c3).2.2.1 kont) ?_
            show own_Go p e below s _ _ _ (Tl.setTop (mkF m 46 #[.val (.ref a1), .val (.ref a2), .val (.ref bb), .val (.int ci), .val (.int cj), .val (.int ck), s6] []))
            exact JT (Or.inr ⟨by omega, c3⟩)
        · have ic2 : ¬ (((ci).toInt : Int) < ((Int32.ofNat na)).toInt) := fun u => c2 (Int32.lt_iff_toInt_lt.mpr u)
          show own_Go p e below s _ _ _ (Tl.setTop (mkF m 33 #[.val (.ref a1), .val (.ref a2), .val (.ref bb), .val (.int ci), .val (.int cj), .val (.int ck), s6] [(.int (Int32.ofNat na)), (.int ci)]))
          refine own_st (fun _ kont => XS.icmpYes Xl.here hx rfl (pc0 := 33) (pc' := 50) rfl (hb hby own_d5_33) rfl (flt c2).2.1 (by decide) (by decide) kont) ?_
          show own_Go p e below s _ _ _ (Tl.setTop (mkF m 50 #[.val (.ref a1), .val (.ref a2), .val (.ref bb), .val (.int ci), .val (.int cj), .val (.int ck), s6] []))
          exact JF (by rintro (q | ⟨q, -⟩) <;> omega)
  show own_Go p e below s _ _ _ (T1.setTop (mkF m 16 #[.val (.ref a1), .val (.ref a2), .val (.ref bb), .val (.int (0 : Int32)), .val (.int (0 : Int32)), .val (.int (0 : Int32)), .unset] []))
  exact loop (na + nb) 0 0 _ _ _ _ _ _ _ (by omega) (by omega) (by omega) (by decide) (by decide) (by decide) (Or.inl rfl) X1 N0 (by rw [e1]; exact K1) (by rw [e1]; exact sz1) (by rw [e1]; exact Vbb) (fun t ht => absurd ht (by omega)) (fun t => by rw [show 0 + 0 + t = t by omega])
theorem own_net {f g F : Nat → Int32} {na nb : Nat} (ha : na ≤ 2) (hb : nb ≤ 2) (sf : na = 2 → (f 0).toInt ≤ (f 1).toInt) (sg : nb = 2 → (g 0).toInt ≤ (g 1).toInt)
    (hF : ∀ t, t < na + nb → F t = (own_mg f g na nb (na + nb) 0 0).getD t 0) {e0 e1 e2 e3 a0 a1 a2 a3 b0 b2 b1 b3 c1 c2 : Int}
    (h1 : na = 0 → e0 = 9223372036854775807) (h2 : 1 ≤ na → e0 = (f 0).toInt) (h3 : na ≤ 1 → e1 = 9223372036854775807) (h4 : na = 2 → e1 = (f 1).toInt)
    (h5 : nb = 0 → e2 = 9223372036854775807) (h6 : 1 ≤ nb → e2 = (g 0).toInt) (h7 : nb ≤ 1 → e3 = 9223372036854775807) (h8 : nb = 2 → e3 = (g 1).toInt)
    (k0 : a0 = min e0 e1) (k1 : a1 = max e0 e1) (k2 : a2 = min e2 e3) (k3 : a3 = max e2 e3) (k4 : b0 = min a0 a2) (k5 : b2 = max a0 a2) (k6 : b1 = min a1 a3) (k7 : b3 = max a1 a3) (k8 : c1 = min b1 b2) (k9 : c2 = max b1 b2) :
    (0 < na + nb → (F 0).toInt = b0) ∧ (1 < na + nb → (F 1).toInt = c1) ∧ (2 < na + nb → (F 2).toInt = c2) ∧ (3 < na + nb → (F 3).toInt = b3) := by
  have x0 := Int32.toInt_lt (f 0)
  have x1 := Int32.toInt_lt (f 1)
  have y0 := Int32.toInt_lt (g 0)
  have y1 := Int32.toInt_lt (g 1)
  have E1 : e0 ≤ e1 := by omega
  have E2 : e2 ≤ e3 := by omega
  have A0 : a0 = e0 := by omega
  have A1 : a1 = e1 := by omega
  have A2 : a2 = e2 := by omega
  have A3 : a3 = e3 := by omega
  clear k0 k1 k2 k3
  subst A0 A1 A2 A3
  rcases (by omega : na = 0 ∨ na = 1 ∨ na = 2) with rfl | rfl | rfl <;> rcases (by omega : nb = 0 ∨ nb = 1 ∨ nb = 2) with rfl | rfl | rfl
  · -- 0, 0
    have L : own_mg f g 0 0 (0 + 0) 0 0 = [] := by simp [own_mg]
    rw [L] at hF
    refine ⟨fun _ => ?_, fun _ => ?_, fun _ => ?_, fun _ => ?_⟩
    · omega
    · omega
    · omega
    · omega
  · -- 0, 1
    have L : own_mg f g 0 1 (0 + 1) 0 0 = [g 0] := by simp [own_mg]
    rw [L] at hF
    have q0 : F 0 = g 0 := hF 0 (by omega)
    refine ⟨fun _ => ?_, fun _ => ?_, fun _ => ?_, fun _ => ?_⟩
    · rw [q0]; omega
    · omega
    · omega
    · omega
  · -- 0, 2
    have L : own_mg f g 0 2 (0 + 2) 0 0 = [g 0, g 1] := by simp [own_mg]
    rw [L] at hF
    have q0 : F 0 = g 0 := hF 0 (by omega)
    have q1 : F 1 = g 1 := hF 1 (by omega)
    refine ⟨fun _ => ?_, fun _ => ?_, fun _ => ?_, fun _ => ?_⟩
    · rw [q0]; omega
    · rw [q1]; omega
    · omega
    · omega
  · -- 1, 0
    have L : own_mg f g 1 0 (1 + 0) 0 0 = [f 0] := by simp [own_mg]
    rw [L] at hF
    have q0 : F 0 = f 0 := hF 0 (by omega)
    refine ⟨fun _ => ?_, fun _ => ?_, fun _ => ?_, fun _ => ?_⟩
    · rw [q0]; omega
    · omega
    · omega
    · omega
  · -- 1, 1
    by_cases c00 : g 0 < f 0
    · have L : own_mg f g 1 1 (1 + 1) 0 0 = [g 0, f 0] := by simp [own_mg, c00]
      rw [L] at hF
      rw [own_lt32] at c00
      have q0 : F 0 = g 0 := hF 0 (by omega)
      have q1 : F 1 = f 0 := hF 1 (by omega)
      refine ⟨fun _ => ?_, fun _ => ?_, fun _ => ?_, fun _ => ?_⟩
      · rw [q0]; omega
      · rw [q1]; omega
      · omega
      · omega
    · have L : own_mg f g 1 1 (1 + 1) 0 0 = [f 0, g 0] := by simp [own_mg, c00]
      rw [L] at hF
      rw [own_lt32] at c00
      have q0 : F 0 = f 0 := hF 0 (by omega)
      have q1 : F 1 = g 0 := hF 1 (by omega)
      refine ⟨fun _ => ?_, fun _ => ?_, fun _ => ?_, fun _ => ?_⟩
      · rw [q0]; omega
      · rw [q1]; omega
      · omega
      · omega
  · -- 1, 2
    by_cases c00 : g 0 < f 0
    · by_cases c10 : g 1 < f 0
      · have L : own_mg f g 1 2 (1 + 2) 0 0 = [g 0, g 1, f 0] := by simp [own_mg, c00, c10]
        rw [L] at hF
        rw [own_lt32] at c00
        rw [own_lt32] at c10
        have q0 : F 0 = g 0 := hF 0 (by omega)
        have q1 : F 1 = g 1 := hF 1 (by omega)
        have q2 : F 2 = f 0 := hF 2 (by omega)
        refine ⟨fun _ => ?_, fun _ => ?_, fun _ => ?_, fun _ => ?_⟩
        · rw [q0]; omega
        · rw [q1]; omega
        · rw [q2]; omega
        · omega
      · have L : own_mg f g 1 2 (1 + 2) 0 0 = [g 0, f 0, g 1] := by simp [own_mg, c00, c10]
        rw [L] at hF
        rw [own_lt32] at c00
        rw [own_lt32] at c10
        have q0 : F 0 = g 0 := hF 0 (by omega)
        have q1 : F 1 = f 0 := hF 1 (by omega)
        have q2 : F 2 = g 1 := hF 2 (by omega)
        refine ⟨fun _ => ?_, fun _ => ?_, fun _ => ?_, fun _ => ?_⟩
        · rw [q0]; omega
        · rw [q1]; omega
        · rw [q2]; omega
        · omega
    · have L : own_mg f g 1 2 (1 + 2) 0 0 = [f 0, g 0, g 1] := by simp [own_mg, c00]
      rw [L] at hF
      rw [own_lt32] at c00
      have q0 : F 0 = f 0 := hF 0 (by omega)
      have q1 : F 1 = g 0 := hF 1 (by omega)
      have q2 : F 2 = g 1 := hF 2 (by omega)
      refine ⟨fun _ => ?_, fun _ => ?_, fun _ => ?_, fun _ => ?_⟩
      · rw [q0]; omega
      · rw [q1]; omega
      · rw [q2]; omega
      · omega
  · -- 2, 0
    have L : own_mg f g 2 0 (2 + 0) 0 0 = [f 0, f 1] := by simp [own_mg]
    rw [L] at hF
    have q0 : F 0 = f 0 := hF 0 (by omega)
    have q1 : F 1 = f 1 := hF 1 (by omega)
    refine ⟨fun _ => ?_, fun _ => ?_, fun _ => ?_, fun _ => ?_⟩
    · rw [q0]; omega
    · rw [q1]; omega
    · omega
    · omega
  · -- 2, 1
    by_cases c00 : g 0 < f 0
    · have L : own_mg f g 2 1 (2 + 1) 0 0 = [g 0, f 0, f 1] := by simp [own_mg, c00]
      rw [L] at hF
      rw [own_lt32] at c00
      have q0 : F 0 = g 0 := hF 0 (by omega)
      have q1 : F 1 = f 0 := hF 1 (by omega)
      have q2 : F 2 = f 1 := hF 2 (by omega)
      refine ⟨fun _ => ?_, fun _ => ?_, fun _ => ?_, fun _ => ?_⟩
      · rw [q0]; omega
      · rw [q1]; omega
      · rw [q2]; omega
      · omega
    · by_cases c01 : g 0 < f 1
      · have L : own_mg f g 2 1 (2 + 1) 0 0 = [f 0, g 0, f 1] := by simp [own_mg, c00, c01]
        rw [L] at hF
        rw [own_lt32] at c00
        rw [own_lt32] at c01
        have q0 : F 0 = f 0 := hF 0 (by omega)
        have q1 : F 1 = g 0 := hF 1 (by omega)
        have q2 : F 2 = f 1 := hF 2 (by omega)
        refine ⟨fun _ => ?_, fun _ => ?_, fun _ => ?_, fun _ => ?_⟩
        · rw [q0]; omega
        · rw [q1]; omega
        · rw [q2]; omega
        · omega
      · have L : own_mg f g 2 1 (2 + 1) 0 0 = [f 0, f 1, g 0] := by simp [own_mg, c00, c01]
        rw [L] at hF
        rw [own_lt32] at c00
        rw [own_lt32] at c01
        have q0 : F 0 = f 0 := hF 0 (by omega)
        have q1 : F 1 = f 1 := hF 1 (by omega)
        have q2 : F 2 = g 0 := hF 2 (by omega)
        refine ⟨fun _ => ?_, fun _ => ?_, fun _ => ?_, fun _ => ?_⟩
        · rw [q0]; omega
        · rw [q1]; omega
        · rw [q2]; omega
        · omega
  · -- 2, 2
    by_cases c00 : g 0 < f 0
    · by_cases c10 : g 1 < f 0
      · have L : own_mg f g 2 2 (2 + 2) 0 0 = [g 0, g 1, f 0, f 1] := by simp [own_mg, c00, c10]
        rw [L] at hF
        rw [own_lt32] at c00
        rw [own_lt32] at c10
        have q0 : F 0 = g 0 := hF 0 (by omega)
        have q1 : F 1 = g 1 := hF 1 (by omega)
        have q2 : F 2 = f 0 := hF 2 (by omega)
        have q3 : F 3 = f 1 := hF 3 (by omega)
        refine ⟨fun _ => ?_, fun _ => ?_, fun _ => ?_, fun _ => ?_⟩
        · rw [q0]; omega
        · rw [q1]; omega
        · rw [q2]; omega
        · rw [q3]; omega
      · by_cases c11 : g 1 < f 1
        · have L : own_mg f g 2 2 (2 + 2) 0 0 = [g 0, f 0, g 1, f 1] := by simp [own_mg, c00, c10, c11]
          rw [L] at hF
          rw [own_lt32] at c00
          rw [own_lt32] at c10
          rw [own_lt32] at c11
          have q0 : F 0 = g 0 := hF 0 (by omega)
          have q1 : F 1 = f 0 := hF 1 (by omega)
          have q2 : F 2 = g 1 := hF 2 (by omega)
          have q3 : F 3 = f 1 := hF 3 (by omega)
          refine ⟨fun _ => ?_, fun _ => ?_, fun _ => ?_, fun _ => ?_⟩
          · rw [q0]; omega
          · rw [q1]; omega
          · rw [q2]; omega
          · rw [q3]; omega
        · have L : own_mg f g 2 2 (2 + 2) 0 0 = [g 0, f 0, f 1, g 1] := by simp [own_mg, c00, c10, c11]
          rw [L] at hF
          rw [own_lt32] at c00
          rw [own_lt32] at c10
          rw [own_lt32] at c11
          have q0 : F 0 = g 0 := hF 0 (by omega)
          have q1 : F 1 = f 0 := hF 1 (by omega)
          have q2 : F 2 = f 1 := hF 2 (by omega)
          have q3 : F 3 = g 1 := hF 3 (by omega)
          refine ⟨fun _ => ?_, fun _ => ?_, fun _ => ?_, fun _ => ?_⟩
          · rw [q0]; omega
          · rw [q1]; omega
          · rw [q2]; omega
          · rw [q3]; omega
    · by_cases c01 : g 0 < f 1
      · by_cases c11 : g 1 < f 1
        · have L : own_mg f g 2 2 (2 + 2) 0 0 = [f 0, g 0, g 1, f 1] := by simp [own_mg, c00, c01, c11]
          rw [L] at hF
          rw [own_lt32] at c00
          rw [own_lt32] at c01
          rw [own_lt32] at c11
          have q0 : F 0 = f 0 := hF 0 (by omega)
          have q1 : F 1 = g 0 := hF 1 (by omega)
          have q2 : F 2 = g 1 := hF 2 (by omega)
          have q3 : F 3 = f 1 := hF 3 (by omega)
          refine ⟨fun _ => ?_, fun _ => ?_, fun _ => ?_, fun _ => ?_⟩
          · rw [q0]; omega
          · rw [q1]; omega
          · rw [q2]; omega
          · rw [q3]; omega
        · have L : own_mg f g 2 2 (2 + 2) 0 0 = [f 0, g 0, f 1, g 1] := by simp [own_mg, c00, c01, c11]
          rw [L] at hF
          rw [own_lt32] at c00
          rw [own_lt32] at c01
          rw [own_lt32] at c11
          have q0 : F 0 = f 0 := hF 0 (by omega)
          have q1 : F 1 = g 0 := hF 1 (by omega)
          have q2 : F 2 = f 1 := hF 2 (by omega)
          have q3 : F 3 = g 1 := hF 3 (by omega)
          refine ⟨fun _ => ?_, fun _ => ?_, fun _ => ?_, fun _ => ?_⟩
          · rw [q0]; omega
          · rw [q1]; omega
          · rw [q2]; omega
          · rw [q3]; omega
      · have L : own_mg f g 2 2 (2 + 2) 0 0 = [f 0, f 1, g 0, g 1] := by simp [own_mg, c00, c01]
        rw [L] at hF
        rw [own_lt32] at c00
        rw [own_lt32] at c01
        have q0 : F 0 = f 0 := hF 0 (by omega)
        have q1 : F 1 = f 1 := hF 1 (by omega)
        have q2 : F 2 = g 0 := hF 2 (by omega)
        have q3 : F 3 = g 1 := hF 3 (by omega)
        refine ⟨fun _ => ?_, fun _ => ?_, fun _ => ?_, fun _ => ?_⟩
        · rw [q0]; omega
        · rw [q1]; omega
        · rw [q2]; omega
        · rw [q3]; omega

theorem own_ush {z : Int32} {d : Int32} {k : Nat} (hd : ∀ x : Int32, (XT.ushr x d).toBitVec = x.toBitVec >>> (32 - k)) (hk : k ≤ 30) : ∃ n : Nat, (XT.ushr z d).toInt = (n : Int) ∧ n < 2 ^ k := by
  have h1 : (XT.ushr z d).toBitVec.toNat < 2 ^ k := by
    rw [hd, BitVec.toNat_ushiftRight, Nat.shiftRight_eq_div_pow]
    have := z.toBitVec.isLt
    have e : 2 ^ 32 = 2 ^ k * 2 ^ (32 - k) := by rw [← Nat.pow_add]; congr 1; omega
    exact Nat.div_lt_of_lt_mul (by rw [Nat.mul_comm, ← e]; exact this)
  have h3 : 2 ^ k ≤ 2 ^ 30 := Nat.pow_le_pow_right (by omega) hk
  refine ⟨(XT.ushr z d).toBitVec.toNat, ?_, h1⟩
  show (XT.ushr z d).toBitVec.toInt = _
  rw [BitVec.toInt_eq_toNat_cond, if_pos (by omega)]
theorem own_pd0 : parseMethodDescriptor "(II)I" = some ⟨[.int, .int], some .int⟩ := by decide +kernel
theorem own_pd1 : parseMethodDescriptor "([I[I)[I" = some ⟨[(.array .int), (.array .int)], some (.array .int)⟩ := by decide +kernel
theorem own_pd2 : parseMethodDescriptor "(JJ)J" = some ⟨[.long, .long], some .long⟩ := by decide +kernel
theorem own_pd3 : parseMethodDescriptor "([IIJ)Z" = some ⟨[(.array .int), .int, .long], some .boolean⟩ := by decide +kernel
theorem own_pn6 : plainFor x = true := by first | exact plainFor_of_name (show plainName "com/example/interpres/interpres/termtonet/MoveSumPinLaw" = true by first | (simp [plainName, overriddenIn]; done) | decide +kernel) | decide +kernel
theorem own_ef6 (m : MethodId) (x0 : Int32) (x1 : Int32) (x2 : Int32) (x3 : Int32) (x4 : Int32) : entryFrame m #[(.int x0), (.int x1), (.int x2), (.int x3), (.int x4)] maxLocals = mkF m 0 #[.val (.int x0), .val (.int x1), .val (.int x2), .val (.int x3), .val (.int x4), .unset, .unset, .unset, .unset, .unset, .unset, .unset, .unset, .unset, .unset, .unset, .unset, .unset, .unset, .unset, .unset, .unset, .unset, .unset, .unset, .unset, .unset, .unset, .unset, .unset, .unset, .unset, .unset, .unset, .unset, .unset, .unset, .unset] [] := by first | (simp [entryFrame, mkF, argsToLocals, Value.category, maxLocals]; done) | rfl
set_option maxRecDepth 65536 in
set_option maxHeartbeats 40000000 in
theorem own_rm0 (l : Launch) (Z : State) (a0 : Array Value) (hw : ∀ d ∈ tables_1, d.before a0 Z = true) (bp bq br bs bk : Int32) (h0 : Heap) (n0 : Nat) (Z0 : n0 ≤ h0.size)  :
    own_Met l Z x code maxLocals ret room_1 #[(.int bp), (.int bq), (.int br), (.int bs), (.int bk)] h0 (fun v h' L => v = some (.int 1) ∧ Fr n0 L) := by
  refine own_in own_pn6 ?_
  intro p e s m below meth c s₁ hx hby hml hown hnm hlk hret hZ X0 e0
  have N0 := Fr.nil n0
  refine own_ef (own_ef6 m bp bq br bs bk) ?_
  show own_Go p e below s _ _ _ (s₁.setTop (mkF m 0 #[.val (.int bp), .val (.int bq), .val (.int br), .val (.int bs), .val (.int bk), .unset, .unset, .unset, .unset, .unset, .unset, .unset, .unset, .unset, .unset, .unset, .unset, .unset, .unset, .unset, .unset, .unset, .unset, .unset, .unset, .unset, .unset, .unset, .unset, .unset, .unset, .unset, .unset, .unset, .unset, .unset, .unset, .unset] []))
  refine own_st (fun _ kont => XS.iload X0.here hx rfl (hb hby at_0) rfl kont) ?_
  show own_Go p e below s _ _ _ (s₁.setTop (mkF m 2 #[.val (.int bp), .val (.int bq), .val (.int br), .val (.int bs), .val (.int bk), .unset, .unset, .unset, .unset, .unset, .unset, .unset, .unset, .unset, .unset, .unset, .unset, .unset, .unset, .unset, .unset, .unset, .unset, .unset, .unset, .unset, .unset, .unset, .unset, .unset, .unset, .unset, .unset, .unset, .unset, .unset, .unset, .unset] [(.int bk)]))
  refine own_st (fun _ kont => X0.ldcInt hx hown (mvT hZ (hw _ (List.mem_of_getElem? (i := 0) rfl))) (g := (mkF m 2 #[.val (.int bp), .val (.int bq), .val (.int br), .val (.int bs), .val (.int bk), .unset, .unset, .unset, .unset, .unset, .unset, .unset, .unset, .unset, .unset, .unset, .unset, .unset, .unset, .unset, .unset, .unset, .unset, .unset, .unset, .unset, .unset, .unset, .unset, .unset, .unset, .unset, .unset, .unset, .unset, .unset, .unset, .unset] [(.int bk)])) rfl (hb hby at_2) _ kont) ?_
  show own_Go p e below s _ _ _ (s₁.setTop (mkF m 4 #[.val (.int bp), .val (.int bq), .val (.int br), .val (.int bs), .val (.int bk), .unset, .unset, .unset, .unset, .unset, .unset, .unset, .unset, .unset, .unset, .unset, .unset, .unset, .unset, .unset, .unset, .unset, .unset, .unset, .unset, .unset, .unset, .unset, .unset, .unset, .unset, .unset, .unset, .unset, .unset, .unset, .unset, .unset] [(.int (2147483647 : Int32)), (.int bk)]))
  refine own_st (fun _ kont => XS.iand X0.here hx rfl (hb hby at_4) rfl kont) ?_
  show own_Go p e below s _ _ _ (s₁.setTop (mkF m 5 #[.val (.int bp), .val (.int bq), .val (.int br), .val (.int bs), .val (.int bk), .unset, .unset, .unset, .unset, .unset, .unset, .unset, .unset, .unset, .unset, .unset, .unset, .unset, .unset, .unset, .unset, .unset, .unset, .unset, .unset, .unset, .unset, .unset, .unset, .unset, .unset, .unset, .unset, .unset, .unset, .unset, .unset, .unset] [(.int (bk &&& (2147483647 : Int32)))]))
  refine own_st (fun _ kont => XS.iconst X0.here hx rfl (hb hby at_5) kont) ?_
  show own_Go p e below s _ _ _ (s₁.setTop (mkF m 6 #[.val (.int bp), .val (.int bq), .val (.int br), .val (.int bs), .val (.int bk), .unset, .unset, .unset, .unset, .unset, .unset, .unset, .unset, .unset, .unset, .unset, .unset, .unset, .unset, .unset, .unset, .unset, .unset, .unset, .unset, .unset, .unset, .unset, .unset, .unset, .unset, .unset, .unset, .unset, .unset, .unset, .unset, .unset] [(.int (3 : Int32)), (.int (bk &&& (2147483647 : Int32)))]))
  refine own_st (fun _ kont => iremM X0 hx rfl (hb hby at_6) rfl (by decide) kont) ?_
  show own_Go p e below s _ _ _ (s₁.setTop (mkF m 7 #[.val (.int bp), .val (.int bq), .val (.int br), .val (.int bs), .val (.int bk), .unset, .unset, .unset, .unset, .unset, .unset, .unset, .unset, .unset, .unset, .unset, .unset, .unset, .unset, .unset, .unset, .unset, .unset, .unset, .unset, .unset, .unset, .unset, .unset, .unset, .unset, .unset, .unset, .unset, .unset, .unset, .unset, .unset] [(.int ((bk &&& (2147483647 : Int32)) % (3 : Int32)))]))
  refine own_st (fun _ kont => XS.istore X0.here hx rfl (hb hby at_7) rfl (l' := #[.val (.int bp), .val (.int bq), .val (.int br), .val (.int bs), .val (.int bk), .val (.int ((bk &&& (2147483647 : Int32)) % (3 : Int32))), .unset, .unset, .unset, .unset, .unset, .unset, .unset, .unset, .unset, .unset, .unset, .unset, .unset, .unset, .unset, .unset, .unset, .unset, .unset, .unset, .unset, .unset, .unset, .unset, .unset, .unset, .unset, .unset, .unset, .unset, .unset, .unset]) rfl kont) ?_
  show own_Go p e below s _ _ _ (s₁.setTop (mkF m 9 #[.val (.int bp), .val (.int bq), .val (.int br), .val (.int bs), .val (.int bk), .val (.int ((bk &&& (2147483647 : Int32)) % (3 : Int32))), .unset, .unset, .unset, .unset, .unset, .unset, .unset, .unset, .unset, .unset, .unset, .unset, .unset, .unset, .unset, .unset, .unset, .unset, .unset, .unset, .unset, .unset, .unset, .unset, .unset, .unset, .unset, .unset, .unset, .unset, .unset, .unset] []))
  refine own_st (fun _ kont => XS.iload X0.here hx rfl (hb hby at_9) rfl kont) ?_
  show own_Go p e below s _ _ _ (s₁.setTop (mkF m 11 #[.val (.int bp), .val (.int bq), .val (.int br), .val (.int bs), .val (.int bk), .val (.int ((bk &&& (2147483647 : Int32)) % (3 : Int32))), .unset, .unset, .unset, .unset, .unset, .unset, .unset, .unset, .unset, .unset, .unset, .unset, .unset, .unset, .unset, .unset, .unset, .unset, .unset, .unset, .unset, .unset, .unset, .unset, .unset, .unset, .unset, .unset, .unset, .unset, .unset, .unset] [(.int bk)]))
  refine own_st (fun _ kont => XS.bipush X0.here hx rfl (hb hby at_11) kont) ?_
  show own_Go p e below s _ _ _ (s₁.setTop (mkF m 13 #[.val (.int bp), .val (.int bq), .val (.int br), .val (.int bs), .val (.int bk), .val (.int ((bk &&& (2147483647 : Int32)) % (3 : Int32))), .unset, .unset, .unset, .unset, .unset, .unset, .unset, .unset, .unset, .unset, .unset, .unset, .unset, .unset, .unset, .unset, .unset, .unset, .unset, .unset, .unset, .unset, .unset, .unset, .unset, .unset, .unset, .unset, .unset, .unset, .unset, .unset] [(.int (8 : Int32)), (.int bk)]))
  refine own_st (fun _ kont => XT.iushr X0.here hx rfl (hb hby at_13) rfl kont) ?_
  show own_Go p e below s _ _ _ (s₁.setTop (mkF m 14 #[.val (.int bp), .val (.int bq), .val (.int br), .val (.int bs), .val (.int bk), .val (.int ((bk &&& (2147483647 : Int32)) % (3 : Int32))), .unset, .unset, .unset, .unset, .unset, .unset, .unset, .unset, .unset, .unset, .unset, .unset, .unset, .unset, .unset, .unset, .unset, .unset, .unset, .unset, .unset, .unset, .unset, .unset, .unset, .unset, .unset, .unset, .unset, .unset, .unset, .unset] [(.int (XT.ushr bk (8 : Int32)))]))
  refine own_st (fun _ kont => XS.iconst X0.here hx rfl (hb hby at_14) kont) ?_
  show own_Go p e below s _ _ _ (s₁.setTop (mkF m 15 #[.val (.int bp), .val (.int bq), .val (.int br), .val (.int bs), .val (.int bk), .val (.int ((bk &&& (2147483647 : Int32)) % (3 : Int32))), .unset, .unset, .unset, .unset, .unset, .unset, .unset, .unset, .unset, .unset, .unset, .unset, .unset, .unset, .unset, .unset, .unset, .unset, .unset, .unset, .unset, .unset, .unset, .unset, .unset, .unset, .unset, .unset, .unset, .unset, .unset, .unset] [(.int (3 : Int32)), (.int (XT.ushr bk (8 : Int32)))]))
  refine own_st (fun _ kont => iremM X0 hx rfl (hb hby at_15) rfl (by decide) kont) ?_
  show own_Go p e below s _ _ _ (s₁.setTop (mkF m 16 #[.val (.int bp), .val (.int bq), .val (.int br), .val (.int bs), .val (.int bk), .val (.int ((bk &&& (2147483647 : Int32)) % (3 : Int32))), .unset, .unset, .unset, .unset, .unset, .unset, .unset, .unset, .unset, .unset, .unset, .unset, .unset, .unset, .unset, .unset, .unset, .unset, .unset, .unset, .unset, .unset, .unset, .unset, .unset, .unset, .unset, .unset, .unset, .unset, .unset, .unset] [(.int ((XT.ushr bk (8 : Int32)) % (3 : Int32)))]))
  refine own_st (fun _ kont => XS.istore X0.here hx rfl (hb hby at_16) rfl (l' := #[.val (.int bp), .val (.int bq), .val (.int br), .val (.int bs), .val (.int bk), .val (.int ((bk &&& (2147483647 : Int32)) % (3 : Int32))), .val (.int ((XT.ushr bk (8 : Int32)) % (3 : Int32))), .unset, .unset, .unset, .unset, .unset, .unset, .unset, .unset, .unset, .unset, .unset, .unset, .unset, .unset, .unset, .unset, .unset, .unset, .unset, .unset, .unset, .unset, .unset, .unset, .unset, .unset, .unset, .unset, .unset, .unset, .unset]) rfl kont) ?_
  show own_Go p e below s _ _ _ (s₁.setTop (mkF m 18 #[.val (.int bp), .val (.int bq), .val (.int br), .val (.int bs), .val (.int bk), .val (.int ((bk &&& (2147483647 : Int32)) % (3 : Int32))), .val (.int ((XT.ushr bk (8 : Int32)) % (3 : Int32))), .unset, .unset, .unset, .unset, .unset, .unset, .unset, .unset, .unset, .unset, .unset, .unset, .unset, .unset, .unset, .unset, .unset, .unset, .unset, .unset, .unset, .unset, .unset, .unset, .unset, .unset, .unset, .unset, .unset, .unset, .unset] []))
  obtain ⟨mk, hmk, hlk1⟩ := own_mask bk (2147483647 : Int32) (k := 2147483647) (by decide)
  obtain ⟨uk, huk, hlk2⟩ := own_ush (z := bk) (d := 8) (k := 24) (fun _ => rfl) (by omega)
  suffices JJ1 : ∀ (ca cb : Int32) (na nb : Nat) (hca : ca.toInt = (na : Int)) (hcb : cb.toInt = (nb : Int)) (hla : na ≤ 2) (hlb : nb ≤ 2), own_Go p e below s (fun v h' L => v = some (.int 1) ∧ Fr n0 L) room_1.cells room_1.slots (s₁.setTop (mkF m 18 #[.val (.int bp), .val (.int bq), .val (.int br), .val (.int bs), .val (.int bk), .val (.int ca), .val (.int cb), .unset, .unset, .unset, .unset, .unset, .unset, .unset, .unset, .unset, .unset, .unset, .unset, .unset, .unset, .unset, .unset, .unset, .unset, .unset, .unset, .unset, .unset, .unset, .unset, .unset, .unset, .unset, .unset, .unset, .unset, .unset] [])) from JJ1 _ _ (mk % 3) (uk % 3) (by rw [own_rem (by rw [hmk]; omega) (by decide), hmk]; rfl) (by rw [own_rem (by rw [huk]; omega) (by decide), huk]; rfl) (by omega) (by omega)
  intro ca cb na nb hca hcb hla hlb
  show own_Go p e below s _ _ _ (s₁.setTop (mkF m 18 #[.val (.int bp), .val (.int bq), .val (.int br), .val (.int bs), .val (.int bk), .val (.int ca), .val (.int cb), .unset, .unset, .unset, .unset, .unset, .unset, .unset, .unset, .unset, .unset, .unset, .unset, .unset, .unset, .unset, .unset, .unset, .unset, .unset, .unset, .unset, .unset, .unset, .unset, .unset, .unset, .unset, .unset, .unset, .unset, .unset] []))
  refine own_st (fun _ kont => XS.iload X0.here hx rfl (hb hby at_18) rfl kont) ?_
  show own_Go p e below s _ _ _ (s₁.setTop (mkF m 20 #[.val (.int bp), .val (.int bq), .val (.int br), .val (.int bs), .val (.int bk), .val (.int ca), .val (.int cb), .unset, .unset, .unset, .unset, .unset, .unset, .unset, .unset, .unset, .unset, .unset, .unset, .unset, .unset, .unset, .unset, .unset, .unset, .unset, .unset, .unset, .unset, .unset, .unset, .unset, .unset, .unset, .unset, .unset, .unset, .unset] [(.int ca)]))
  have J64 : ∀ (Tl : State) (Ll : List Loc) (aa : Addr) (f : Nat → Int32), Stand p l e room_1 s m #[(.int bp), (.int bq), (.int br), (.int bs), (.int bk)] below meth c Tl Ll 1 2 → Fr n0 Ll → n0 ≤ Tl.heap.size → own_Av Z Tl.heap aa .int na (fun t => .int (f t)) → (na = 1 → f 0 = bp) → (na = 2 → (f 0).toInt = min bp.toInt bq.toInt ∧ (f 1).toInt = max bp.toInt bq.toInt) → own_Go p e below s (fun v h' L => v = some (.int 1) ∧ Fr n0 L) room_1.cells room_1.slots (Tl.setTop (mkF m 64 #[.val (.int bp), .val (.int bq), .val (.int br), .val (.int bs), .val (.int bk), .val (.int ca), .val (.int cb), .unset, .unset, .unset, .unset, .unset, .unset, .unset, .unset, .unset, .unset, .unset, .unset, .unset, .unset, .unset, .unset, .unset, .unset, .unset, .unset, .unset, .unset, .unset, .unset, .unset, .unset, .unset, .unset, .unset, .unset, .unset] [(.ref aa)])) := by
    intro T2 L2 aa f X2 N2 sz2 Va sp1 sp2
    show own_Go p e below s _ _ _ (T2.setTop (mkF m 64 #[.val (.int bp), .val (.int bq), .val (.int br), .val (.int bs), .val (.int bk), .val (.int ca), .val (.int cb), .unset, .unset, .unset, .unset, .unset, .unset, .unset, .unset, .unset, .unset, .unset, .unset, .unset, .unset, .unset, .unset, .unset, .unset, .unset, .unset, .unset, .unset, .unset, .unset, .unset, .unset, .unset, .unset, .unset, .unset, .unset] [(.ref aa)]))
    refine own_st (fun _ kont => XS.astore X2.here hx rfl (hb hby at_64) rfl rfl (l' := #[.val (.int bp), .val (.int bq), .val (.int br), .val (.int bs), .val (.int bk), .val (.int ca), .val (.int cb), .val (.ref aa), .unset, .unset, .unset, .unset, .unset, .unset, .unset, .unset, .unset, .unset, .unset, .unset, .unset, .unset, .unset, .unset, .unset, .unset, .unset, .unset, .unset, .unset, .unset, .unset, .unset, .unset, .unset, .unset, .unset, .unset]) rfl kont) ?_
    show own_Go p e below s _ _ _ (T2.setTop (mkF m 66 #[.val (.int bp), .val (.int bq), .val (.int br), .val (.int bs), .val (.int bk), .val (.int ca), .val (.int cb), .val (.ref aa), .unset, .unset, .unset, .unset, .unset, .unset, .unset, .unset, .unset, .unset, .unset, .unset, .unset, .unset, .unset, .unset, .unset, .unset, .unset, .unset, .unset, .unset, .unset, .unset, .unset, .unset, .unset, .unset, .unset, .unset] []))
    refine own_st (fun _ kont => XS.iload X2.here hx rfl (hb hby at_66) rfl kont) ?_
    show own_Go p e below s _ _ _ (T2.setTop (mkF m 68 #[.val (.int bp), .val (.int bq), .val (.int br), .val (.int bs), .val (.int bk), .val (.int ca), .val (.int cb), .val (.ref aa), .unset, .unset, .unset, .unset, .unset, .unset, .unset, .unset, .unset, .unset, .unset, .unset, .unset, .unset, .unset, .unset, .unset, .unset, .unset, .unset, .unset, .unset, .unset, .unset, .unset, .unset, .unset, .unset, .unset, .unset] [(.int cb)]))
    have J112 : ∀ (Tl : State) (Ll : List Loc) (ab : Addr) (g : Nat → Int32), Stand p l e room_1 s m #[(.int bp), (.int bq), (.int br), (.int bs), (.int bk)] below meth c Tl Ll 2 4 → Fr n0 Ll → n0 ≤ Tl.heap.size → own_Av Z Tl.heap aa .int na (fun t => .int (f t)) → own_Av Z Tl.heap ab .int nb (fun t => .int (g t)) → (nb = 1 → g 0 = br) → (nb = 2 → (g 0).toInt = min br.toInt bs.toInt ∧ (g 1).toInt = max br.toInt bs.toInt) → own_Go p e below s (fun v h' L => v = some (.int 1) ∧ Fr n0 L) room_1.cells room_1.slots (Tl.setTop (mkF m 112 #[.val (.int bp), .val (.int bq), .val (.int br), .val (.int bs), .val (.int bk), .val (.int ca), .val (.int cb), .val (.ref aa), .unset, .unset, .unset, .unset, .unset, .unset, .unset, .unset, .unset, .unset, .unset, .unset, .unset, .unset, .unset, .unset, .unset, .unset, .unset, .unset, .unset, .unset, .unset, .unset, .unset, .unset, .unset, .unset, .unset, .unset] [(.ref ab)])) := by
      intro T11 L11 ab g X11 N11 sz11 Va2 Vb sp3 sp4
      show own_Go p e below s _ _ _ (T11.setTop (mkF m 112 #[.val (.int bp), .val (.int bq), .val (.int br), .val (.int bs), .val (.int bk), .val (.int ca), .val (.int cb), .val (.ref aa), .unset, .unset, .unset, .unset, .unset, .unset, .unset, .unset, .unset, .unset, .unset, .unset, .unset, .unset, .unset, .unset, .unset, .unset, .unset, .unset, .unset, .unset, .unset, .unset, .unset, .unset, .unset, .unset, .unset, .unset] [(.ref ab)]))
      refine own_st (fun _ kont => XS.astore X11.here hx rfl (hb hby at_112) rfl rfl (l' := #[.val (.int bp), .val (.int bq), .val (.int br), .val (.int bs), .val (.int bk), .val (.int ca), .val (.int cb), .val (.ref aa), .val (.ref ab), .unset, .unset, .unset, .unset, .unset, .unset, .unset, .unset, .unset, .unset, .unset, .unset, .unset, .unset, .unset, .unset, .unset, .unset, .unset, .unset, .unset, .unset, .unset, .unset, .unset, .unset, .unset, .unset, .unset]) rfl kont) ?_
      show own_Go p e below s _ _ _ (T11.setTop (mkF m 114 #[.val (.int bp), .val (.int bq), .val (.int br), .val (.int bs), .val (.int bk), .val (.int ca), .val (.int cb), .val (.ref aa), .val (.ref ab), .unset, .unset, .unset, .unset, .unset, .unset, .unset, .unset, .unset, .unset, .unset, .unset, .unset, .unset, .unset, .unset, .unset, .unset, .unset, .unset, .unset, .unset, .unset, .unset, .unset, .unset, .unset, .unset, .unset] []))
      refine own_st (fun _ kont => XS.aload X11.here hx rfl (hb hby at_114) rfl rfl kont) ?_
      show own_Go p e below s _ _ _ (T11.setTop (mkF m 116 #[.val (.int bp), .val (.int bq), .val (.int br), .val (.int bs), .val (.int bk), .val (.int ca), .val (.int cb), .val (.ref aa), .val (.ref ab), .unset, .unset, .unset, .unset, .unset, .unset, .unset, .unset, .unset, .unset, .unset, .unset, .unset, .unset, .unset, .unset, .unset, .unset, .unset, .unset, .unset, .unset, .unset, .unset, .unset, .unset, .unset, .unset, .unset] [(.ref aa)]))
      refine own_st (fun _ kont => XS.aload X11.here hx rfl (hb hby at_116) rfl rfl kont) ?_
      show own_Go p e below s _ _ _ (T11.setTop (mkF m 118 #[.val (.int bp), .val (.int bq), .val (.int br), .val (.int bs), .val (.int bk), .val (.int ca), .val (.int cb), .val (.ref aa), .val (.ref ab), .unset, .unset, .unset, .unset, .unset, .unset, .unset, .unset, .unset, .unset, .unset, .unset, .unset, .unset, .unset, .unset, .unset, .unset, .unset, .unset, .unset, .unset, .unset, .unset, .unset, .unset, .unset, .unset, .unset] [(.ref ab), (.ref aa)]))
      refine own_cS X11 hx hml hZ hown (hw _ (List.mem_of_getElem? (i := 2) rfl)) (hw _ (List.mem_of_getElem? (i := 3) rfl)) (hw _ (List.mem_of_getElem? (i := 4) rfl)) (hw _ (List.mem_of_getElem? (i := 5) rfl)) (by decide) (own_rm6 l Z a0 hw aa ab f g na nb T11.heap n0 sz11 Va2 Vb hla hlb) (rfl : T11.heap = T11.heap) (by decide) (W := 0) (by decide) (g := (mkF m 118 #[.val (.int bp), .val (.int bq), .val (.int br), .val (.int bs), .val (.int bk), .val (.int ca), .val (.int cb), .val (.ref aa), .val (.ref ab), .unset, .unset, .unset, .unset, .unset, .unset, .unset, .unset, .unset, .unset, .unset, .unset, .unset, .unset, .unset, .unset, .unset, .unset, .unset, .unset, .unset, .unset, .unset, .unset, .unset, .unset, .unset, .unset, .unset] [(.ref ab), (.ref aa)])) rfl rfl own_pd1 (argsL := [(.ref aa), (.ref ab)]) (rest := []) rfl rfl rfl (by show 2 * 0 + _ ≤ _; exact Nat.le_of_eq rfl) (hb hby at_118) (by decide) (by decide) ?_
      intro T20 L20 v20 X20 hQ20
      obtain ⟨ag, F, rfl, Nc20, K20, Vg, hF⟩ := hQ20
      have N20 := Fr.app N11 Nc20
      have Va2_20 := Va2.keep K20 nin0
      have Vb_20 := Vb.keep K20 nin0
      have sz20 := Nat.le_trans sz11 K20.1
      show own_Go p e below s _ _ _ (T20.setTop (mkF m 121 #[.val (.int bp), .val (.int bq), .val (.int br), .val (.int bs), .val (.int bk), .val (.int ca), .val (.int cb), .val (.ref aa), .val (.ref ab), .unset, .unset, .unset, .unset, .unset, .unset, .unset, .unset, .unset, .unset, .unset, .unset, .unset, .unset, .unset, .unset, .unset, .unset, .unset, .unset, .unset, .unset, .unset, .unset, .unset, .unset, .unset, .unset, .unset] [(.ref ag)]))
      refine own_st (fun _ kont => XS.astore X20.here hx rfl (hb hby at_121) rfl rfl (l' := #[.val (.int bp), .val (.int bq), .val (.int br), .val (.int bs), .val (.int bk), .val (.int ca), .val (.int cb), .val (.ref aa), .val (.ref ab), .val (.ref ag), .unset, .unset, .unset, .unset, .unset, .unset, .unset, .unset, .unset, .unset, .unset, .unset, .unset, .unset, .unset, .unset, .unset, .unset, .unset, .unset, .unset, .unset, .unset, .unset, .unset, .unset, .unset, .unset]) rfl kont) ?_
      show own_Go p e below s _ _ _ (T20.setTop (mkF m 123 #[.val (.int bp), .val (.int bq), .val (.int br), .val (.int bs), .val (.int bk), .val (.int ca), .val (.int cb), .val (.ref aa), .val (.ref ab), .val (.ref ag), .unset, .unset, .unset, .unset, .unset, .unset, .unset, .unset, .unset, .unset, .unset, .unset, .unset, .unset, .unset, .unset, .unset, .unset, .unset, .unset, .unset, .unset, .unset, .unset, .unset, .unset, .unset, .unset] []))
      refine own_st (fun _ kont => XS.aload X20.here hx rfl (hb hby at_123) rfl rfl kont) ?_
      show own_Go p e below s _ _ _ (T20.setTop (mkF m 125 #[.val (.int bp), .val (.int bq), .val (.int br), .val (.int bs), .val (.int bk), .val (.int ca), .val (.int cb), .val (.ref aa), .val (.ref ab), .val (.ref ag), .unset, .unset, .unset, .unset, .unset, .unset, .unset, .unset, .unset, .unset, .unset, .unset, .unset, .unset, .unset, .unset, .unset, .unset, .unset, .unset, .unset, .unset, .unset, .unset, .unset, .unset, .unset, .unset] [(.ref ag)]))
      have hnn : (Int32.ofNat (na + nb)).toInt = ((na + nb : Nat) : Int) := Int32.toInt_ofNat_of_lt (by omega)
      show own_Go p e below s _ _ _ (T20.setTop (mkF m 125 #[.val (.int bp), .val (.int bq), .val (.int br), .val (.int bs), .val (.int bk), .val (.int ca), .val (.int cb), .val (.ref aa), .val (.ref ab), .val (.ref ag), .unset, .unset, .unset, .unset, .unset, .unset, .unset, .unset, .unset, .unset, .unset, .unset, .unset, .unset, .unset, .unset, .unset, .unset, .unset, .unset, .unset, .unset, .unset, .unset, .unset, .unset, .unset, .unset] [(.ref ag)]))
      refine own_st (own_len X20 hx hZ (rfl : T20.heap = T20.heap) Vg (z := (Int32.ofNat (na + nb))) hnn (g := (mkF m 125 #[.val (.int bp), .val (.int bq), .val (.int br), .val (.int bs), .val (.int bk), .val (.int ca), .val (.int cb), .val (.ref aa), .val (.ref ab), .val (.ref ag), .unset, .unset, .unset, .unset, .unset, .unset, .unset, .unset, .unset, .unset, .unset, .unset, .unset, .unset, .unset, .unset, .unset, .unset, .unset, .unset, .unset, .unset, .unset, .unset, .unset, .unset, .unset, .unset] [(.ref ag)])) rfl rfl (hb hby at_125)) ?_
      show own_Go p e below s _ _ _ (T20.setTop (mkF m 126 #[.val (.int bp), .val (.int bq), .val (.int br), .val (.int bs), .val (.int bk), .val (.int ca), .val (.int cb), .val (.ref aa), .val (.ref ab), .val (.ref ag), .unset, .unset, .unset, .unset, .unset, .unset, .unset, .unset, .unset, .unset, .unset, .unset, .unset, .unset, .unset, .unset, .unset, .unset, .unset, .unset, .unset, .unset, .unset, .unset, .unset, .unset, .unset, .unset] [(.int (Int32.ofNat (na + nb)))]))
      refine own_st (fun _ kont => XS.iload X20.here hx rfl (hb hby at_126) rfl kont) ?_
      show own_Go p e below s _ _ _ (T20.setTop (mkF m 128 #[.val (.int bp), .val (.int bq), .val (.int br), .val (.int bs), .val (.int bk), .val (.int ca), .val (.int cb), .val (.ref aa), .val (.ref ab), .val (.ref ag), .unset, .unset, .unset, .unset, .unset, .unset, .unset, .unset, .unset, .unset, .unset, .unset, .unset, .unset, .unset, .unset, .unset, .unset, .unset, .unset, .unset, .unset, .unset, .unset, .unset, .unset, .unset, .unset] [(.int ca), (.int (Int32.ofNat (na + nb)))]))
      refine own_st (fun _ kont => XS.iload X20.here hx rfl (hb hby at_128) rfl kont) ?_
      show own_Go p e below s _ _ _ (T20.setTop (mkF m 130 #[.val (.int bp), .val (.int bq), .val (.int br), .val (.int bs), .val (.int bk), .val (.int ca), .val (.int cb), .val (.ref aa), .val (.ref ab), .val (.ref ag), .unset, .unset, .unset, .unset, .unset, .unset, .unset, .unset, .unset, .unset, .unset, .unset, .unset, .unset, .unset, .unset, .unset, .unset, .unset, .unset, .unset, .unset, .unset, .unset, .unset, .unset, .unset, .unset] [(.int cb), (.int ca), (.int (Int32.ofNat (na + nb)))]))
      refine own_st (fun _ kont => XS.iadd X20.here hx rfl (hb hby at_130) rfl kont) ?_
      show own_Go p e below s _ _ _ (T20.setTop (mkF m 131 #[.val (.int bp), .val (.int bq), .val (.int br), .val (.int bs), .val (.int bk), .val (.int ca), .val (.int cb), .val (.ref aa), .val (.ref ab), .val (.ref ag), .unset, .unset, .unset, .unset, .unset, .unset, .unset, .unset, .unset, .unset, .unset, .unset, .unset, .unset, .unset, .unset, .unset, .unset, .unset, .unset, .unset, .unset, .unset, .unset, .unset, .unset, .unset, .unset] [(.int (ca + cb)), (.int (Int32.ofNat (na + nb)))]))
      refine own_st (fun _ kont => XS.icmpYes X20.here hx rfl (pc0 := 131) (pc' := 136) rfl (hb hby at_131) rfl (teq (Int32.toInt_inj.mp (by rw [hnn, own_addN hca hcb (by omega)]))).1 (by decide) (by decide) kont) ?_
      show own_Go p e below s _ _ _ (T20.setTop (mkF m 136 #[.val (.int bp), .val (.int bq), .val (.int br), .val (.int bs), .val (.int bk), .val (.int ca), .val (.int cb), .val (.ref aa), .val (.ref ab), .val (.ref ag), .unset, .unset, .unset, .unset, .unset, .unset, .unset, .unset, .unset, .unset, .unset, .unset, .unset, .unset, .unset, .unset, .unset, .unset, .unset, .unset, .unset, .unset, .unset, .unset, .unset, .unset, .unset, .unset] []))
      refine own_st (fun _ kont => XS.iload X20.here hx rfl (hb hby at_136) rfl kont) ?_
      show own_Go p e below s _ _ _ (T20.setTop (mkF m 138 #[.val (.int bp), .val (.int bq), .val (.int br), .val (.int bs), .val (.int bk), .val (.int ca), .val (.int cb), .val (.ref aa), .val (.ref ab), .val (.ref ag), .unset, .unset, .unset, .unset, .unset, .unset, .unset, .unset, .unset, .unset, .unset, .unset, .unset, .unset, .unset, .unset, .unset, .unset, .unset, .unset, .unset, .unset, .unset, .unset, .unset, .unset, .unset, .unset] [(.int ca)]))
      have J164 : ∀ (Tl : State) (Ll : List Loc) (e0 : Int64), Stand p l e room_1 s m #[(.int bp), (.int bq), (.int br), (.int bs), (.int bk)] below meth c Tl Ll 3 8 → Fr n0 Ll → Tl.heap = T20.heap → (na = 0 → e0.toInt = 9223372036854775807) → (1 ≤ na → e0.toInt = (f 0).toInt) → own_Go p e below s (fun v h' L => v = some (.int 1) ∧ Fr n0 L) room_1.cells room_1.slots (Tl.setTop (mkF m 164 #[.val (.int bp), .val (.int bq), .val (.int br), .val (.int bs), .val (.int bk), .val (.int ca), .val (.int cb), .val (.ref aa), .val (.ref ab), .val (.ref ag), .unset, .unset, .unset, .unset, .unset, .unset, .unset, .unset, .unset, .unset, .unset, .unset, .unset, .unset, .unset, .unset, .unset, .unset, .unset, .unset, .unset, .unset, .unset, .unset, .unset, .unset, .unset, .unset] [(.long e0)])) := by
        intro T21 L21 e0 X21 N21 e21 h1e0 h2e0
        show own_Go p e below s _ _ _ (T21.setTop (mkF m 164 #[.val (.int bp), .val (.int bq), .val (.int br), .val (.int bs), .val (.int bk), .val (.int ca), .val (.int cb), .val (.ref aa), .val (.ref ab), .val (.ref ag), .unset, .unset, .unset, .unset, .unset, .unset, .unset, .unset, .unset, .unset, .unset, .unset, .unset, .unset, .unset, .unset, .unset, .unset, .unset, .unset, .unset, .unset, .unset, .unset, .unset, .unset, .unset, .unset] [(.long e0)]))
        refine own_st (fun _ kont => XS.lstore X21.here hx rfl (hb hby at_164) rfl (l' := #[.val (.int bp), .val (.int bq), .val (.int br), .val (.int bs), .val (.int bk), .val (.int ca), .val (.int cb), .val (.ref aa), .val (.ref ab), .val (.ref ag), .val (.long e0), .second, .unset, .unset, .unset, .unset, .unset, .unset, .unset, .unset, .unset, .unset, .unset, .unset, .unset, .unset, .unset, .unset, .unset, .unset, .unset, .unset, .unset, .unset, .unset, .unset, .unset, .unset]) rfl kont) ?_
        show own_Go p e below s _ _ _ (T21.setTop (mkF m 166 #[.val (.int bp), .val (.int bq), .val (.int br), .val (.int bs), .val (.int bk), .val (.int ca), .val (.int cb), .val (.ref aa), .val (.ref ab), .val (.ref ag), .val (.long e0), .second, .unset, .unset, .unset, .unset, .unset, .unset, .unset, .unset, .unset, .unset, .unset, .unset, .unset, .unset, .unset, .unset, .unset, .unset, .unset, .unset, .unset, .unset, .unset, .unset, .unset, .unset] []))
        refine own_st (fun _ kont => XS.iload X21.here hx rfl (hb hby at_166) rfl kont) ?_
        show own_Go p e below s _ _ _ (T21.setTop (mkF m 168 #[.val (.int bp), .val (.int bq), .val (.int br), .val (.int bs), .val (.int bk), .val (.int ca), .val (.int cb), .val (.ref aa), .val (.ref ab), .val (.ref ag), .val (.long e0), .second, .unset, .unset, .unset, .unset, .unset, .unset, .unset, .unset, .unset, .unset, .unset, .unset, .unset, .unset, .unset, .unset, .unset, .unset, .unset, .unset, .unset, .unset, .unset, .unset, .unset, .unset] [(.int ca)]))
        refine own_st (fun _ kont => XS.iconst X21.here hx rfl (hb hby at_168) kont) ?_
        show own_Go p e below s _ _ _ (T21.setTop (mkF m 169 #[.val (.int bp), .val (.int bq), .val (.int br), .val (.int bs), .val (.int bk), .val (.int ca), .val (.int cb), .val (.ref aa), .val (.ref ab), .val (.ref ag), .val (.long e0), .second, .unset, .unset, .unset, .unset, .unset, .unset, .unset, .unset, .unset, .unset, .unset, .unset, .unset, .unset, .unset, .unset, .unset, .unset, .unset, .unset, .unset, .unset, .unset, .unset, .unset, .unset] [(.int (2 : Int32)), (.int ca)]))
        have J184 : ∀ (Tl : State) (Ll : List Loc) (e1 : Int64), Stand p l e room_1 s m #[(.int bp), (.int bq), (.int br), (.int bs), (.int bk)] below meth c Tl Ll 3 8 → Fr n0 Ll → Tl.heap = T20.heap → (na ≤ 1 → e1.toInt = 9223372036854775807) → (na = 2 → e1.toInt = (f 1).toInt) → own_Go p e below s (fun v h' L => v = some (.int 1) ∧ Fr n0 L) room_1.cells room_1.slots (Tl.setTop (mkF m 184 #[.val (.int bp), .val (.int bq), .val (.int br), .val (.int bs), .val (.int bk), .val (.int ca), .val (.int cb), .val (.ref aa), .val (.ref ab), .val (.ref ag), .val (.long e0), .second, .unset, .unset, .unset, .unset, .unset, .unset, .unset, .unset, .unset, .unset, .unset, .unset, .unset, .unset, .unset, .unset, .unset, .unset, .unset, .unset, .unset, .unset, .unset, .unset, .unset, .unset] [(.long e1)])) := by
          intro T23 L23 e1 X23 N23 e23 h1e1 h2e1
          show own_Go p e below s _ _ _ (T23.setTop (mkF m 184 #[.val (.int bp), .val (.int bq), .val (.int br), .val (.int bs), .val (.int bk), .val (.int ca), .val (.int cb), .val (.ref aa), .val (.ref ab), .val (.ref ag), .val (.long e0), .second, .unset, .unset, .unset, .unset, .unset, .unset, .unset, .unset, .unset, .unset, .unset, .unset, .unset, .unset, .unset, .unset, .unset, .unset, .unset, .unset, .unset, .unset, .unset, .unset, .unset, .unset] [(.long e1)]))
          refine own_st (fun _ kont => XS.lstore X23.here hx rfl (hb hby at_184) rfl (l' := #[.val (.int bp), .val (.int bq), .val (.int br), .val (.int bs), .val (.int bk), .val (.int ca), .val (.int cb), .val (.ref aa), .val (.ref ab), .val (.ref ag), .val (.long e0), .second, .val (.long e1), .second, .unset, .unset, .unset, .unset, .unset, .unset, .unset, .unset, .unset, .unset, .unset, .unset, .unset, .unset, .unset, .unset, .unset, .unset, .unset, .unset, .unset, .unset, .unset, .unset]) rfl kont) ?_
          show own_Go p e below s _ _ _ (T23.setTop (mkF m 186 #[.val (.int bp), .val (.int bq), .val (.int br), .val (.int bs), .val (.int bk), .val (.int ca), .val (.int cb), .val (.ref aa), .val (.ref ab), .val (.ref ag), .val (.long e0), .second, .val (.long e1), .second, .unset, .unset, .unset, .unset, .unset, .unset, .unset, .unset, .unset, .unset, .unset, .unset, .unset, .unset, .unset, .unset, .unset, .unset, .unset, .unset, .unset, .unset, .unset, .unset] []))
          refine own_st (fun _ kont => XS.iload X23.here hx rfl (hb hby at_186) rfl kont) ?_
          show own_Go p e below s _ _ _ (T23.setTop (mkF m 188 #[.val (.int bp), .val (.int bq), .val (.int br), .val (.int bs), .val (.int bk), .val (.int ca), .val (.int cb), .val (.ref aa), .val (.ref ab), .val (.ref ag), .val (.long e0), .second, .val (.long e1), .second, .unset, .unset, .unset, .unset, .unset, .unset, .unset, .unset, .unset, .unset, .unset, .unset, .unset, .unset, .unset, .unset, .unset, .unset, .unset, .unset, .unset, .unset, .unset, .unset] [(.int cb)]))
          have J214 : ∀ (Tl : State) (Ll : List Loc) (e2 : Int64), Stand p l e room_1 s m #[(.int bp), (.int bq), (.int br), (.int bs), (.int bk)] below meth c Tl Ll 3 8 → Fr n0 Ll → Tl.heap = T20.heap → (nb = 0 → e2.toInt = 9223372036854775807) → (1 ≤ nb → e2.toInt = (g 0).toInt) → own_Go p e below s (fun v h' L => v = some (.int 1) ∧ Fr n0 L) room_1.cells room_1.slots (Tl.setTop (mkF m 214 #[.val (.int bp), .val (.int bq), .val (.int br), .val (.int bs), .val (.int bk), .val (.int ca), .val (.int cb), .val (.ref aa), .val (.ref ab), .val (.ref ag), .val (.long e0), .second, .val (.long e1), .second, .unset, .unset, .unset, .unset, .unset, .unset, .unset, .unset, .unset, .unset, .unset, .unset, .unset, .unset, .unset, .unset, .unset, .unset, .unset, .unset, .unset, .unset, .unset, .unset] [(.long e2)])) := by
            intro T25 L25 e2 X25 N25 e25 h1e2 h2e2
            show own_Go p e below s _ _ _ (T25.setTop (mkF m 214 #[.val (.int bp), .val (.int bq), .val (.int br), .val (.int bs), .val (.int bk), .val (.int ca), .val (.int cb), .val (.ref aa), .val (.ref ab), .val (.ref ag), .val (.long e0), .second, .val (.long e1), .second, .unset, .unset, .unset, .unset, .unset, .unset, .unset, .unset, .unset, .unset, .unset, .unset, .unset, .unset, .unset, .unset, .unset, .unset, .unset, .unset, .unset, .unset, .unset, .unset] [(.long e2)]))
            refine own_st (fun _ kont => XS.lstore X25.here hx rfl (hb hby at_214) rfl (l' := #[.val (.int bp), .val (.int bq), .val (.int br), .val (.int bs), .val (.int bk), .val (.int ca), .val (.int cb), .val (.ref aa), .val (.ref ab), .val (.ref ag), .val (.long e0), .second, .val (.long e1), .second, .val (.long e2), .second, .unset, .unset, .unset, .unset, .unset, .unset, .unset, .unset, .unset, .unset, .unset, .unset, .unset, .unset, .unset, .unset, .unset, .unset, .unset, .unset, .unset, .unset]) rfl kont) ?_
            show own_Go p e below s _ _ _ (T25.setTop (mkF m 216 #[.val (.int bp), .val (.int bq), .val (.int br), .val (.int bs), .val (.int bk), .val (.int ca), .val (.int cb), .val (.ref aa), .val (.ref ab), .val (.ref ag), .val (.long e0), .second, .val (.long e1), .second, .val (.long e2), .second, .unset, .unset, .unset, .unset, .unset, .unset, .unset, .unset, .unset, .unset, .unset, .unset, .unset, .unset, .unset, .unset, .unset, .unset, .unset, .unset, .unset, .unset] []))
            refine own_st (fun _ kont => XS.iload X25.here hx rfl (hb hby at_216) rfl kont) ?_
            show own_Go p e below s _ _ _ (T25.setTop (mkF m 218 #[.val (.int bp), .val (.int bq), .val (.int br), .val (.int bs), .val (.int bk), .val (.int ca), .val (.int cb), .val (.ref aa), .val (.ref ab), .val (.ref ag), .val (.long e0), .second, .val (.long e1), .second, .val (.long e2), .second, .unset, .unset, .unset, .unset, .unset, .unset, .unset, .unset, .unset, .unset, .unset, .unset, .unset, .unset, .unset, .unset, .unset, .unset, .unset, .unset, .unset, .unset] [(.int cb)]))
            refine own_st (fun _ kont => XS.iconst X25.here hx rfl (hb hby at_218) kont) ?_
            show own_Go p e below s _ _ _ (T25.setTop (mkF m 219 #[.val (.int bp), .val (.int bq), .val (.int br), .val (.int bs), .val (.int bk), .val (.int ca), .val (.int cb), .val (.ref aa), .val (.ref ab), .val (.ref ag), .val (.long e0), .second, .val (.long e1), .second, .val (.long e2), .second, .unset, .unset, .unset, .unset, .unset, .unset, .unset, .unset, .unset, .unset, .unset, .unset, .unset, .unset, .unset, .unset, .unset, .unset, .unset, .unset, .unset, .unset] [(.int (2 : Int32)), (.int cb)]))
            have J234 : ∀ (Tl : State) (Ll : List Loc) (e3 : Int64), Stand p l e room_1 s m #[(.int bp), (.int bq), (.int br), (.int bs), (.int bk)] below meth c Tl Ll 3 8 → Fr n0 Ll → Tl.heap = T20.heap → (nb ≤ 1 → e3.toInt = 9223372036854775807) → (nb = 2 → e3.toInt = (g 1).toInt) → own_Go p e below s (fun v h' L => v = some (.int 1) ∧ Fr n0 L) room_1.cells room_1.slots (Tl.setTop (mkF m 234 #[.val (.int bp), .val (.int bq), .val (.int br), .val (.int bs), .val (.int bk), .val (.int ca), .val (.int cb), .val (.ref aa), .val (.ref ab), .val (.ref ag), .val (.long e0), .second, .val (.long e1), .second, .val (.long e2), .second, .unset, .unset, .unset, .unset, .unset, .unset, .unset, .unset, .unset, .unset, .unset, .unset, .unset, .unset, .unset, .unset, .unset, .unset, .unset, .unset, .unset, .unset] [(.long e3)])) := by
              intro T27 L27 e3 X27 N27 e27 h1e3 h2e3
              show own_Go p e below s _ _ _ (T27.setTop (mkF m 234 #[.val (.int bp), .val (.int bq), .val (.int br), .val (.int bs), .val (.int bk), .val (.int ca), .val (.int cb), .val (.ref aa), .val (.ref ab), .val (.ref ag), .val (.long e0), .second, .val (.long e1), .second, .val (.long e2), .second, .unset, .unset, .unset, .unset, .unset, .unset, .unset, .unset, .unset, .unset, .unset, .unset, .unset, .unset, .unset, .unset, .unset, .unset, .unset, .unset, .unset, .unset] [(.long e3)]))
              refine own_st (fun _ kont => XS.lstore X27.here hx rfl (hb hby at_234) rfl (l' := #[.val (.int bp), .val (.int bq), .val (.int br), .val (.int bs), .val (.int bk), .val (.int ca), .val (.int cb), .val (.ref aa), .val (.ref ab), .val (.ref ag), .val (.long e0), .second, .val (.long e1), .second, .val (.long e2), .second, .val (.long e3), .second, .unset, .unset, .unset, .unset, .unset, .unset, .unset, .unset, .unset, .unset, .unset, .unset, .unset, .unset, .unset, .unset, .unset, .unset, .unset, .unset]) rfl kont) ?_
              show own_Go p e below s _ _ _ (T27.setTop (mkF m 236 #[.val (.int bp), .val (.int bq), .val (.int br), .val (.int bs), .val (.int bk), .val (.int ca), .val (.int cb), .val (.ref aa), .val (.ref ab), .val (.ref ag), .val (.long e0), .second, .val (.long e1), .second, .val (.long e2), .second, .val (.long e3), .second, .unset, .unset, .unset, .unset, .unset, .unset, .unset, .unset, .unset, .unset, .unset, .unset, .unset, .unset, .unset, .unset, .unset, .unset, .unset, .unset] []))
              refine own_st (fun _ kont => XS.lload X27.here hx rfl (hb hby at_236) rfl kont) ?_
              show own_Go p e below s _ _ _ (T27.setTop (mkF m 238 #[.val (.int bp), .val (.int bq), .val (.int br), .val (.int bs), .val (.int bk), .val (.int ca), .val (.int cb), .val (.ref aa), .val (.ref ab), .val (.ref ag), .val (.long e0), .second, .val (.long e1), .second, .val (.long e2), .second, .val (.long e3), .second, .unset, .unset, .unset, .unset, .unset, .unset, .unset, .unset, .unset, .unset, .unset, .unset, .unset, .unset, .unset, .unset, .unset, .unset, .unset, .unset] [(.long e0)]))
              refine own_st (fun _ kont => XS.lload X27.here hx rfl (hb hby at_238) rfl kont) ?_
              show own_Go p e below s _ _ _ (T27.setTop (mkF m 240 #[.val (.int bp), .val (.int bq), .val (.int br), .val (.int bs), .val (.int bk), .val (.int ca), .val (.int cb), .val (.ref aa), .val (.ref ab), .val (.ref ag), .val (.long e0), .second, .val (.long e1), .second, .val (.long e2), .second, .val (.long e3), .second, .unset, .unset, .unset, .unset, .unset, .unset, .unset, .unset, .unset, .unset, .unset, .unset, .unset, .unset, .unset, .unset, .unset, .unset, .unset, .unset] [(.long e1), (.long e0)]))
              refine own_cS X27 hx hml hZ hown (hw _ (List.mem_of_getElem? (i := 7) rfl)) (hw _ (List.mem_of_getElem? (i := 8) rfl)) (hw _ (List.mem_of_getElem? (i := 9) rfl)) (hw _ (List.mem_of_getElem? (i := 10) rfl)) (by decide) (own_rm3 l Z a0 hw e0 e1 T20.heap n0 sz20) e27 (by decide) (W := 0) (by decide) (g := (mkF m 240 #[.val (.int bp), .val (.int bq), .val (.int br), .val (.int bs), .val (.int bk), .val (.int ca), .val (.int cb), .val (.ref aa), .val (.ref ab), .val (.ref ag), .val (.long e0), .second, .val (.long e1), .second, .val (.long e2), .second, .val (.long e3), .second, .unset, .unset, .unset, .unset, .unset, .unset, .unset, .unset, .unset, .unset, .unset, .unset, .unset, .unset, .unset, .unset, .unset, .unset, .unset, .unset] [(.long e1), (.long e0)])) rfl rfl own_pd2 (argsL := [(.long e0), (.long e1)]) (rest := []) rfl rfl rfl (by show 2 * 0 + _ ≤ _; exact Nat.le_of_eq rfl) (hb hby at_240) (by decide) (by decide) ?_
              intro T29 L29 v29 X29 hQ29
              obtain ⟨⟨z29, rfl, hz29⟩, eh29, le29⟩ := hQ29
              have N29 := own_nil N27 le29
              show own_Go p e below s _ _ _ (T29.setTop (mkF m 243 #[.val (.int bp), .val (.int bq), .val (.int br), .val (.int bs), .val (.int bk), .val (.int ca), .val (.int cb), .val (.ref aa), .val (.ref ab), .val (.ref ag), .val (.long e0), .second, .val (.long e1), .second, .val (.long e2), .second, .val (.long e3), .second, .unset, .unset, .unset, .unset, .unset, .unset, .unset, .unset, .unset, .unset, .unset, .unset, .unset, .unset, .unset, .unset, .unset, .unset, .unset, .unset] [(.long z29)]))
              refine own_st (fun _ kont => XS.lstore X29.here hx rfl (hb hby at_243) rfl (l' := #[.val (.int bp), .val (.int bq), .val (.int br), .val (.int bs), .val (.int bk), .val (.int ca), .val (.int cb), .val (.ref aa), .val (.ref ab), .val (.ref ag), .val (.long e0), .second, .val (.long e1), .second, .val (.long e2), .second, .val (.long e3), .second, .val (.long z29), .second, .unset, .unset, .unset, .unset, .unset, .unset, .unset, .unset, .unset, .unset, .unset, .unset, .unset, .unset, .unset, .unset, .unset, .unset]) rfl kont) ?_
              show own_Go p e below s _ _ _ (T29.setTop (mkF m 245 #[.val (.int bp), .val (.int bq), .val (.int br), .val (.int bs), .val (.int bk), .val (.int ca), .val (.int cb), .val (.ref aa), .val (.ref ab), .val (.ref ag), .val (.long e0), .second, .val (.long e1), .second, .val (.long e2), .second, .val (.long e3), .second, .val (.long z29), .second, .unset, .unset, .unset, .unset, .unset, .unset, .unset, .unset, .unset, .unset, .unset, .unset, .unset, .unset, .unset, .unset, .unset, .unset] []))
              refine own_st (fun _ kont => XS.lload X29.here hx rfl (hb hby at_245) rfl kont) ?_
              show own_Go p e below s _ _ _ (T29.setTop (mkF m 247 #[.val (.int bp), .val (.int bq), .val (.int br), .val (.int bs), .val (.int bk), .val (.int ca), .val (.int cb), .val (.ref aa), .val (.ref ab), .val (.ref ag), .val (.long e0), .second, .val (.long e1), .second, .val (.long e2), .second, .val (.long e3), .second, .val (.long z29), .second, .unset, .unset, .unset, .unset, .unset, .unset, .unset, .unset, .unset, .unset, .unset, .unset, .unset, .unset, .unset, .unset, .unset, .unset] [(.long e0)]))
              refine own_st (fun _ kont => XS.lload X29.here hx rfl (hb hby at_247) rfl kont) ?_
              show own_Go p e below s _ _ _ (T29.setTop (mkF m 249 #[.val (.int bp), .val (.int bq), .val (.int br), .val (.int bs), .val (.int bk), .val (.int ca), .val (.int cb), .val (.ref aa), .val (.ref ab), .val (.ref ag), .val (.long e0), .second, .val (.long e1), .second, .val (.long e2), .second, .val (.long e3), .second, .val (.long z29), .second, .unset, .unset, .unset, .unset, .unset, .unset, .unset, .unset, .unset, .unset, .unset, .unset, .unset, .unset, .unset, .unset, .unset, .unset] [(.long e1), (.long e0)]))
              refine own_cS X29 hx hml hZ hown (hw _ (List.mem_of_getElem? (i := 11) rfl)) (hw _ (List.mem_of_getElem? (i := 12) rfl)) (hw _ (List.mem_of_getElem? (i := 9) rfl)) (hw _ (List.mem_of_getElem? (i := 13) rfl)) (by decide) (own_rm4 l Z a0 hw e0 e1 T20.heap n0 sz20) eh29 (by decide) (W := 0) (by decide) (g := (mkF m 249 #[.val (.int bp), .val (.int bq), .val (.int br), .val (.int bs), .val (.int bk), .val (.int ca), .val (.int cb), .val (.ref aa), .val (.ref ab), .val (.ref ag), .val (.long e0), .second, .val (.long e1), .second, .val (.long e2), .second, .val (.long e3), .second, .val (.long z29), .second, .unset, .unset, .unset, .unset, .unset, .unset, .unset, .unset, .unset, .unset, .unset, .unset, .unset, .unset, .unset, .unset, .unset, .unset] [(.long e1), (.long e0)])) rfl rfl own_pd2 (argsL := [(.long e0), (.long e1)]) (rest := []) rfl rfl rfl (by show 2 * 0 + _ ≤ _; exact Nat.le_of_eq rfl) (hb hby at_249) (by decide) (by decide) ?_
              intro T30 L30 v30 X30 hQ30
              obtain ⟨⟨z30, rfl, hz30⟩, eh30, le30⟩ := hQ30
              have N30 := own_nil N29 le30
              show own_Go p e below s _ _ _ (T30.setTop (mkF m 252 #[.val (.int bp), .val (.int bq), .val (.int br), .val (.int bs), .val (.int bk), .val (.int ca), .val (.int cb), .val (.ref aa), .val (.ref ab), .val (.ref ag), .val (.long e0), .second, .val (.long e1), .second, .val (.long e2), .second, .val (.long e3), .second, .val (.long z29), .second, .unset, .unset, .unset, .unset, .unset, .unset, .unset, .unset, .unset, .unset, .unset, .unset, .unset, .unset, .unset, .unset, .unset, .unset] [(.long z30)]))
              refine own_st (fun _ kont => XS.lstore X30.here hx rfl (hb hby at_252) rfl (l' := #[.val (.int bp), .val (.int bq), .val (.int br), .val (.int bs), .val (.int bk), .val (.int ca), .val (.int cb), .val (.ref aa), .val (.ref ab), .val (.ref ag), .val (.long e0), .second, .val (.long e1), .second, .val (.long e2), .second, .val (.long e3), .second, .val (.long z29), .second, .val (.long z30), .second, .unset, .unset, .unset, .unset, .unset, .unset, .unset, .unset, .unset, .unset, .unset, .unset, .unset, .unset, .unset, .unset]) rfl kont) ?_
              show own_Go p e below s _ _ _ (T30.setTop (mkF m 254 #[.val (.int bp), .val (.int bq), .val (.int br), .val (.int bs), .val (.int bk), .val (.int ca), .val (.int cb), .val (.ref aa), .val (.ref ab), .val (.ref ag), .val (.long e0), .second, .val (.long e1), .second, .val (.long e2), .second, .val (.long e3), .second, .val (.long z29), .second, .val (.long z30), .second, .unset, .unset, .unset, .unset, .unset, .unset, .unset, .unset, .unset, .unset, .unset, .unset, .unset, .unset, .unset, .unset] []))
              refine own_st (fun _ kont => XS.lload X30.here hx rfl (hb hby at_254) rfl kont) ?_
              show own_Go p e below s _ _ _ (T30.setTop (mkF m 256 #[.val (.int bp), .val (.int bq), .val (.int br), .val (.int bs), .val (.int bk), .val (.int ca), .val (.int cb), .val (.ref aa), .val (.ref ab), .val (.ref ag), .val (.long e0), .second, .val (.long e1), .second, .val (.long e2), .second, .val (.long e3), .second, .val (.long z29), .second, .val (.long z30), .second, .unset, .unset, .unset, .unset, .unset, .unset, .unset, .unset, .unset, .unset, .unset, .unset, .unset, .unset, .unset, .unset] [(.long e2)]))
              refine own_st (fun _ kont => XS.lload X30.here hx rfl (hb hby at_256) rfl kont) ?_
              show own_Go p e below s _ _ _ (T30.setTop (mkF m 258 #[.val (.int bp), .val (.int bq), .val (.int br), .val (.int bs), .val (.int bk), .val (.int ca), .val (.int cb), .val (.ref aa), .val (.ref ab), .val (.ref ag), .val (.long e0), .second, .val (.long e1), .second, .val (.long e2), .second, .val (.long e3), .second, .val (.long z29), .second, .val (.long z30), .second, .unset, .unset, .unset, .unset, .unset, .unset, .unset, .unset, .unset, .unset, .unset, .unset, .unset, .unset, .unset, .unset] [(.long e3), (.long e2)]))
              refine own_cS X30 hx hml hZ hown (hw _ (List.mem_of_getElem? (i := 7) rfl)) (hw _ (List.mem_of_getElem? (i := 8) rfl)) (hw _ (List.mem_of_getElem? (i := 9) rfl)) (hw _ (List.mem_of_getElem? (i := 10) rfl)) (by decide) (own_rm3 l Z a0 hw e2 e3 T20.heap n0 sz20) eh30 (by decide) (W := 0) (by decide) (g := (mkF m 258 #[.val (.int bp), .val (.int bq), .val (.int br), .val (.int bs), .val (.int bk), .val (.int ca), .val (.int cb), .val (.ref aa), .val (.ref ab), .val (.ref ag), .val (.long e0), .second, .val (.long e1), .second, .val (.long e2), .second, .val (.long e3), .second, .val (.long z29), .second, .val (.long z30), .second, .unset, .unset, .unset, .unset, .unset, .unset, .unset, .unset, .unset, .unset, .unset, .unset, .unset, .unset, .unset, .unset] [(.long e3), (.long e2)])) rfl rfl own_pd2 (argsL := [(.long e2), (.long e3)]) (rest := []) rfl rfl rfl (by show 2 * 0 + _ ≤ _; exact Nat.le_of_eq rfl) (hb hby at_258) (by decide) (by decide) ?_
              intro T31 L31 v31 X31 hQ31
              obtain ⟨⟨z31, rfl, hz31⟩, eh31, le31⟩ := hQ31
              have N31 := own_nil N30 le31
              show own_Go p e below s _ _ _ (T31.setTop (mkF m 261 #[.val (.int bp), .val (.int bq), .val (.int br), .val (.int bs), .val (.int bk), .val (.int ca), .val (.int cb), .val (.ref aa), .val (.ref ab), .val (.ref ag), .val (.long e0), .second, .val (.long e1), .second, .val (.long e2), .second, .val (.long e3), .second, .val (.long z29), .second, .val (.long z30), .second, .unset, .unset, .unset, .unset, .unset, .unset, .unset, .unset, .unset, .unset, .unset, .unset, .unset, .unset, .unset, .unset] [(.long z31)]))
              refine own_st (fun _ kont => XS.lstore X31.here hx rfl (hb hby at_261) rfl (l' := #[.val (.int bp), .val (.int bq), .val (.int br), .val (.int bs), .val (.int bk), .val (.int ca), .val (.int cb), .val (.ref aa), .val (.ref ab), .val (.ref ag), .val (.long e0), .second, .val (.long e1), .second, .val (.long e2), .second, .val (.long e3), .second, .val (.long z29), .second, .val (.long z30), .second, .val (.long z31), .second, .unset, .unset, .unset, .unset, .unset, .unset, .unset, .unset, .unset, .unset, .unset, .unset, .unset, .unset]) rfl kont) ?_
              show own_Go p e below s _ _ _ (T31.setTop (mkF m 263 #[.val (.int bp), .val (.int bq), .val (.int br), .val (.int bs), .val (.int bk), .val (.int ca), .val (.int cb), .val (.ref aa), .val (.ref ab), .val (.ref ag), .val (.long e0), .second, .val (.long e1), .second, .val (.long e2), .second, .val (.long e3), .second, .val (.long z29), .second, .val (.long z30), .second, .val (.long z31), .second, .unset, .unset, .unset, .unset, .unset, .unset, .unset, .unset, .unset, .unset, .unset, .unset, .unset, .unset] []))
              refine own_st (fun _ kont => XS.lload X31.here hx rfl (hb hby at_263) rfl kont) ?_
              show own_Go p e below s _ _ _ (T31.setTop (mkF m 265 #[.val (.int bp), .val (.int bq), .val (.int br), .val (.int bs), .val (.int bk), .val (.int ca), .val (.int cb), .val (.ref aa), .val (.ref ab), .val (.ref ag), .val (.long e0), .second, .val (.long e1), .second, .val (.long e2), .second, .val (.long e3), .second, .val (.long z29), .second, .val (.long z30), .second, .val (.long z31), .second, .unset, .unset, .unset, .unset, .unset, .unset, .unset, .unset, .unset, .unset, .unset, .unset, .unset, .unset] [(.long e2)]))
              refine own_st (fun _ kont => XS.lload X31.here hx rfl (hb hby at_265) rfl kont) ?_
              show own_Go p e below s _ _ _ (T31.setTop (mkF m 267 #[.val (.int bp), .val (.int bq), .val (.int br), .val (.int bs), .val (.int bk), .val (.int ca), .val (.int cb), .val (.ref aa), .val (.ref ab), .val (.ref ag), .val (.long e0), .second, .val (.long e1), .second, .val (.long e2), .second, .val (.long e3), .second, .val (.long z29), .second, .val (.long z30), .second, .val (.long z31), .second, .unset, .unset, .unset, .unset, .unset, .unset, .unset, .unset, .unset, .unset, .unset, .unset, .unset, .unset] [(.long e3), (.long e2)]))
              refine own_cS X31 hx hml hZ hown (hw _ (List.mem_of_getElem? (i := 11) rfl)) (hw _ (List.mem_of_getElem? (i := 12) rfl)) (hw _ (List.mem_of_getElem? (i := 9) rfl)) (hw _ (List.mem_of_getElem? (i := 13) rfl)) (by decide) (own_rm4 l Z a0 hw e2 e3 T20.heap n0 sz20) eh31 (by decide) (W := 0) (by decide) (g := (mkF m 267 #[.val (.int bp), .val (.int bq), .val (.int br), .val (.int bs), .val (.int bk), .val (.int ca), .val (.int cb), .val (.ref aa), .val (.ref ab), .val (.ref ag), .val (.long e0), .second, .val (.long e1), .second, .val (.long e2), .second, .val (.long e3), .second, .val (.long z29), .second, .val (.long z30), .second, .val (.long z31), .second, .unset, .unset, .unset, .unset, .unset, .unset, .unset, .unset, .unset, .unset, .unset, .unset, .unset, .unset] [(.long e3), (.long e2)])) rfl rfl own_pd2 (argsL := [(.long e2), (.long e3)]) (rest := []) rfl rfl rfl (by show 2 * 0 + _ ≤ _; exact Nat.le_of_eq rfl) (hb hby at_267) (by decide) (by decide) ?_
              intro T32 L32 v32 X32 hQ32
              obtain ⟨⟨z32, rfl, hz32⟩, eh32, le32⟩ := hQ32
              have N32 := own_nil N31 le32
              show own_Go p e below s _ _ _ (T32.setTop (mkF m 270 #[.val (.int bp), .val (.int bq), .val (.int br), .val (.int bs), .val (.int bk), .val (.int ca), .val (.int cb), .val (.ref aa), .val (.ref ab), .val (.ref ag), .val (.long e0), .second, .val (.long e1), .second, .val (.long e2), .second, .val (.long e3), .second, .val (.long z29), .second, .val (.long z30), .second, .val (.long z31), .second, .unset, .unset, .unset, .unset, .unset, .unset, .unset, .unset, .unset, .unset, .unset, .unset, .unset, .unset] [(.long z32)]))
              refine own_st (fun _ kont => XS.lstore X32.here hx rfl (hb hby at_270) rfl (l' := #[.val (.int bp), .val (.int bq), .val (.int br), .val (.int bs), .val (.int bk), .val (.int ca), .val (.int cb), .val (.ref aa), .val (.ref ab), .val (.ref ag), .val (.long e0), .second, .val (.long e1), .second, .val (.long e2), .second, .val (.long e3), .second, .val (.long z29), .second, .val (.long z30), .second, .val (.long z31), .second, .val (.long z32), .second, .unset, .unset, .unset, .unset, .unset, .unset, .unset, .unset, .unset, .unset, .unset, .unset]) rfl kont) ?_
              show own_Go p e below s _ _ _ (T32.setTop (mkF m 272 #[.val (.int bp), .val (.int bq), .val (.int br), .val (.int bs), .val (.int bk), .val (.int ca), .val (.int cb), .val (.ref aa), .val (.ref ab), .val (.ref ag), .val (.long e0), .second, .val (.long e1), .second, .val (.long e2), .second, .val (.long e3), .second, .val (.long z29), .second, .val (.long z30), .second, .val (.long z31), .second, .val (.long z32), .second, .unset, .unset, .unset, .unset, .unset, .unset, .unset, .unset, .unset, .unset, .unset, .unset] []))
              refine own_st (fun _ kont => XS.lload X32.here hx rfl (hb hby at_272) rfl kont) ?_
              show own_Go p e below s _ _ _ (T32.setTop (mkF m 274 #[.val (.int bp), .val (.int bq), .val (.int br), .val (.int bs), .val (.int bk), .val (.int ca), .val (.int cb), .val (.ref aa), .val (.ref ab), .val (.ref ag), .val (.long e0), .second, .val (.long e1), .second, .val (.long e2), .second, .val (.long e3), .second, .val (.long z29), .second, .val (.long z30), .second, .val (.long z31), .second, .val (.long z32), .second, .unset, .unset, .unset, .unset, .unset, .unset, .unset, .unset, .unset, .unset, .unset, .unset] [(.long z29)]))
              refine own_st (fun _ kont => XS.lload X32.here hx rfl (hb hby at_274) rfl kont) ?_
              show own_Go p e below s _ _ _ (T32.setTop (mkF m 276 #[.val (.int bp), .val (.int bq), .val (.int br), .val (.int bs), .val (.int bk), .val (.int ca), .val (.int cb), .val (.ref aa), .val (.ref ab), .val (.ref ag), .val (.long e0), .second, .val (.long e1), .second, .val (.long e2), .second, .val (.long e3), .second, .val (.long z29), .second, .val (.long z30), .second, .val (.long z31), .second, .val (.long z32), .second, .unset, .unset, .unset, .unset, .unset, .unset, .unset, .unset, .unset, .unset, .unset, .unset] [(.long z31), (.long z29)]))
              refine own_cS X32 hx hml hZ hown (hw _ (List.mem_of_getElem? (i := 7) rfl)) (hw _ (List.mem_of_getElem? (i := 8) rfl)) (hw _ (List.mem_of_getElem? (i := 9) rfl)) (hw _ (List.mem_of_getElem? (i := 10) rfl)) (by decide) (own_rm3 l Z a0 hw z29 z31 T20.heap n0 sz20) eh32 (by decide) (W := 0) (by decide) (g := (mkF m 276 #[.val (.int bp), .val (.int bq), .val (.int br), .val (.int bs), .val (.int bk), .val (.int ca), .val (.int cb), .val (.ref aa), .val (.ref ab), .val (.ref ag), .val (.long e0), .second, .val (.long e1), .second, .val (.long e2), .second, .val (.long e3), .second, .val (.long z29), .second, .val (.long z30), .second, .val (.long z31), .second, .val (.long z32), .second, .unset, .unset, .unset, .unset, .unset, .unset, .unset, .unset, .unset, .unset, .unset, .unset] [(.long z31), (.long z29)])) rfl rfl own_pd2 (argsL := [(.long z29), (.long z31)]) (rest := []) rfl rfl rfl (by show 2 * 0 + _ ≤ _; exact Nat.le_of_eq rfl) (hb hby at_276) (by decide) (by decide) ?_
              intro T33 L33 v33 X33 hQ33
              obtain ⟨⟨z33, rfl, hz33⟩, eh33, le33⟩ := hQ33
              have N33 := own_nil N32 le33
              show own_Go p e below s _ _ _ (T33.setTop (mkF m 279 #[.val (.int bp), .val (.int bq), .val (.int br), .val (.int bs), .val (.int bk), .val (.int ca), .val (.int cb), .val (.ref aa), .val (.ref ab), .val (.ref ag), .val (.long e0), .second, .val (.long e1), .second, .val (.long e2), .second, .val (.long e3), .second, .val (.long z29), .second, .val (.long z30), .second, .val (.long z31), .second, .val (.long z32), .second, .unset, .unset, .unset, .unset, .unset, .unset, .unset, .unset, .unset, .unset, .unset, .unset] [(.long z33)]))
              refine own_st (fun _ kont => XS.lstore X33.here hx rfl (hb hby at_279) rfl (l' := #[.val (.int bp), .val (.int bq), .val (.int br), .val (.int bs), .val (.int bk), .val (.int ca), .val (.int cb), .val (.ref aa), .val (.ref ab), .val (.ref ag), .val (.long e0), .second, .val (.long e1), .second, .val (.long e2), .second, .val (.long e3), .second, .val (.long z29), .second, .val (.long z30), .second, .val (.long z31), .second, .val (.long z32), .second, .val (.long z33), .second, .unset, .unset, .unset, .unset, .unset, .unset, .unset, .unset, .unset, .unset]) rfl kont) ?_
              show own_Go p e below s _ _ _ (T33.setTop (mkF m 281 #[.val (.int bp), .val (.int bq), .val (.int br), .val (.int bs), .val (.int bk), .val (.int ca), .val (.int cb), .val (.ref aa), .val (.ref ab), .val (.ref ag), .val (.long e0), .second, .val (.long e1), .second, .val (.long e2), .second, .val (.long e3), .second, .val (.long z29), .second, .val (.long z30), .second, .val (.long z31), .second, .val (.long z32), .second, .val (.long z33), .second, .unset, .unset, .unset, .unset, .unset, .unset, .unset, .unset, .unset, .unset] []))
              refine own_st (fun _ kont => XS.lload X33.here hx rfl (hb hby at_281) rfl kont) ?_
              show own_Go p e below s _ _ _ (T33.setTop (mkF m 283 #[.val (.int bp), .val (.int bq), .val (.int br), .val (.int bs), .val (.int bk), .val (.int ca), .val (.int cb), .val (.ref aa), .val (.ref ab), .val (.ref ag), .val (.long e0), .second, .val (.long e1), .second, .val (.long e2), .second, .val (.long e3), .second, .val (.long z29), .second, .val (.long z30), .second, .val (.long z31), .second, .val (.long z32), .second, .val (.long z33), .second, .unset, .unset, .unset, .unset, .unset, .unset, .unset, .unset, .unset, .unset] [(.long z29)]))
              refine own_st (fun _ kont => XS.lload X33.here hx rfl (hb hby at_283) rfl kont) ?_
              show own_Go p e below s _ _ _ (T33.setTop (mkF m 285 #[.val (.int bp), .val (.int bq), .val (.int br), .val (.int bs), .val (.int bk), .val (.int ca), .val (.int cb), .val (.ref aa), .val (.ref ab), .val (.ref ag), .val (.long e0), .second, .val (.long e1), .second, .val (.long e2), .second, .val (.long e3), .second, .val (.long z29), .second, .val (.long z30), .second, .val (.long z31), .second, .val (.long z32), .second, .val (.long z33), .second, .unset, .unset, .unset, .unset, .unset, .unset, .unset, .unset, .unset, .unset] [(.long z31), (.long z29)]))
              refine own_cS X33 hx hml hZ hown (hw _ (List.mem_of_getElem? (i := 11) rfl)) (hw _ (List.mem_of_getElem? (i := 12) rfl)) (hw _ (List.mem_of_getElem? (i := 9) rfl)) (hw _ (List.mem_of_getElem? (i := 13) rfl)) (by decide) (own_rm4 l Z a0 hw z29 z31 T20.heap n0 sz20) eh33 (by decide) (W := 0) (by decide) (g := (mkF m 285 #[.val (.int bp), .val (.int bq), .val (.int br), .val (.int bs), .val (.int bk), .val (.int ca), .val (.int cb), .val (.ref aa), .val (.ref ab), .val (.ref ag), .val (.long e0), .second, .val (.long e1), .second, .val (.long e2), .second, .val (.long e3), .second, .val (.long z29), .second, .val (.long z30), .second, .val (.long z31), .second, .val (.long z32), .second, .val (.long z33), .second, .unset, .unset, .unset, .unset, .unset, .unset, .unset, .unset, .unset, .unset] [(.long z31), (.long z29)])) rfl rfl own_pd2 (argsL := [(.long z29), (.long z31)]) (rest := []) rfl rfl rfl (by show 2 * 0 + _ ≤ _; exact Nat.le_of_eq rfl) (hb hby at_285) (by decide) (by decide) ?_
              intro T34 L34 v34 X34 hQ34
              obtain ⟨⟨z34, rfl, hz34⟩, eh34, le34⟩ := hQ34
              have N34 := own_nil N33 le34
              show own_Go p e below s _ _ _ (T34.setTop (mkF m 288 #[.val (.int bp), .val (.int bq), .val (.int br), .val (.int bs), .val (.int bk), .val (.int ca), .val (.int cb), .val (.ref aa), .val (.ref ab), .val (.ref ag), .val (.long e0), .second, .val (.long e1), .second, .val (.long e2), .second, .val (.long e3), .second, .val (.long z29), .second, .val (.long z30), .second, .val (.long z31), .second, .val (.long z32), .second, .val (.long z33), .second, .unset, .unset, .unset, .unset, .unset, .unset, .unset, .unset, .unset, .unset] [(.long z34)]))
              refine own_st (fun _ kont => XS.lstore X34.here hx rfl (hb hby at_288) rfl (l' := #[.val (.int bp), .val (.int bq), .val (.int br), .val (.int bs), .val (.int bk), .val (.int ca), .val (.int cb), .val (.ref aa), .val (.ref ab), .val (.ref ag), .val (.long e0), .second, .val (.long e1), .second, .val (.long e2), .second, .val (.long e3), .second, .val (.long z29), .second, .val (.long z30), .second, .val (.long z31), .second, .val (.long z32), .second, .val (.long z33), .second, .val (.long z34), .second, .unset, .unset, .unset, .unset, .unset, .unset, .unset, .unset]) rfl kont) ?_
              show own_Go p e below s _ _ _ (T34.setTop (mkF m 290 #[.val (.int bp), .val (.int bq), .val (.int br), .val (.int bs), .val (.int bk), .val (.int ca), .val (.int cb), .val (.ref aa), .val (.ref ab), .val (.ref ag), .val (.long e0), .second, .val (.long e1), .second, .val (.long e2), .second, .val (.long e3), .second, .val (.long z29), .second, .val (.long z30), .second, .val (.long z31), .second, .val (.long z32), .second, .val (.long z33), .second, .val (.long z34), .second, .unset, .unset, .unset, .unset, .unset, .unset, .unset, .unset] []))
              refine own_st (fun _ kont => XS.lload X34.here hx rfl (hb hby at_290) rfl kont) ?_
              show own_Go p e below s _ _ _ (T34.setTop (mkF m 292 #[.val (.int bp), .val (.int bq), .val (.int br), .val (.int bs), .val (.int bk), .val (.int ca), .val (.int cb), .val (.ref aa), .val (.ref ab), .val (.ref ag), .val (.long e0), .second, .val (.long e1), .second, .val (.long e2), .second, .val (.long e3), .second, .val (.long z29), .second, .val (.long z30), .second, .val (.long z31), .second, .val (.long z32), .second, .val (.long z33), .second, .val (.long z34), .second, .unset, .unset, .unset, .unset, .unset, .unset, .unset, .unset] [(.long z30)]))
              refine own_st (fun _ kont => XS.lload X34.here hx rfl (hb hby at_292) rfl kont) ?_
              show own_Go p e below s _ _ _ (T34.setTop (mkF m 294 #[.val (.int bp), .val (.int bq), .val (.int br), .val (.int bs), .val (.int bk), .val (.int ca), .val (.int cb), .val (.ref aa), .val (.ref ab), .val (.ref ag), .val (.long e0), .second, .val (.long e1), .second, .val (.long e2), .second, .val (.long e3), .second, .val (.long z29), .second, .val (.long z30), .second, .val (.long z31), .second, .val (.long z32), .second, .val (.long z33), .second, .val (.long z34), .second, .unset, .unset, .unset, .unset, .unset, .unset, .unset, .unset] [(.long z32), (.long z30)]))
              refine own_cS X34 hx hml hZ hown (hw _ (List.mem_of_getElem? (i := 7) rfl)) (hw _ (List.mem_of_getElem? (i := 8) rfl)) (hw _ (List.mem_of_getElem? (i := 9) rfl)) (hw _ (List.mem_of_getElem? (i := 10) rfl)) (by decide) (own_rm3 l Z a0 hw z30 z32 T20.heap n0 sz20) eh34 (by decide) (W := 0) (by decide) (g := (mkF m 294 #[.val (.int bp), .val (.int bq), .val (.int br), .val (.int bs), .val (.int bk), .val (.int ca), .val (.int cb), .val (.ref aa), .val (.ref ab), .val (.ref ag), .val (.long e0), .second, .val (.long e1), .second, .val (.long e2), .second, .val (.long e3), .second, .val (.long z29), .second, .val (.long z30), .second, .val (.long z31), .second, .val (.long z32), .second, .val (.long z33), .second, .val (.long z34), .second, .unset, .unset, .unset, .unset, .unset, .unset, .unset, .unset] [(.long z32), (.long z30)])) rfl rfl own_pd2 (argsL := [(.long z30), (.long z32)]) (rest := []) rfl rfl rfl (by show 2 * 0 + _ ≤ _; exact Nat.le_of_eq rfl) (hb hby at_294) (by decide) (by decide) ?_
              intro T35 L35 v35 X35 hQ35
              obtain ⟨⟨z35, rfl, hz35⟩, eh35, le35⟩ := hQ35
              have N35 := own_nil N34 le35
              show own_Go p e below s _ _ _ (T35.setTop (mkF m 297 #[.val (.int bp), .val (.int bq), .val (.int br), .val (.int bs), .val (.int bk), .val (.int ca), .val (.int cb), .val (.ref aa), .val (.ref ab), .val (.ref ag), .val (.long e0), .second, .val (.long e1), .second, .val (.long e2), .second, .val (.long e3), .second, .val (.long z29), .second, .val (.long z30), .second, .val (.long z31), .second, .val (.long z32), .second, .val (.long z33), .second, .val (.long z34), .second, .unset, .unset, .unset, .unset, .unset, .unset, .unset, .unset] [(.long z35)]))
              refine own_st (fun _ kont => XS.lstore X35.here hx rfl (hb hby at_297) rfl (l' := #[.val (.int bp), .val (.int bq), .val (.int br), .val (.int bs), .val (.int bk), .val (.int ca), .val (.int cb), .val (.ref aa), .val (.ref ab), .val (.ref ag), .val (.long e0), .second, .val (.long e1), .second, .val (.long e2), .second, .val (.long e3), .second, .val (.long z29), .second, .val (.long z30), .second, .val (.long z31), .second, .val (.long z32), .second, .val (.long z33), .second, .val (.long z34), .second, .val (.long z35), .second, .unset, .unset, .unset, .unset, .unset, .unset]) rfl kont) ?_
              show own_Go p e below s _ _ _ (T35.setTop (mkF m 299 #[.val (.int bp), .val (.int bq), .val (.int br), .val (.int bs), .val (.int bk), .val (.int ca), .val (.int cb), .val (.ref aa), .val (.ref ab), .val (.ref ag), .val (.long e0), .second, .val (.long e1), .second, .val (.long e2), .second, .val (.long e3), .second, .val (.long z29), .second, .val (.long z30), .second, .val (.long z31), .second, .val (.long z32), .second, .val (.long z33), .second, .val (.long z34), .second, .val (.long z35), .second, .unset, .unset, .unset, .unset, .unset, .unset] []))
              refine own_st (fun _ kont => XS.lload X35.here hx rfl (hb hby at_299) rfl kont) ?_
              show own_Go p e below s _ _ _ (T35.setTop (mkF m 301 #[.val (.int bp), .val (.int bq), .val (.int br), .val (.int bs), .val (.int bk), .val (.int ca), .val (.int cb), .val (.ref aa), .val (.ref ab), .val (.ref ag), .val (.long e0), .second, .val (.long e1), .second, .val (.long e2), .second, .val (.long e3), .second, .val (.long z29), .second, .val (.long z30), .second, .val (.long z31), .second, .val (.long z32), .second, .val (.long z33), .second, .val (.long z34), .second, .val (.long z35), .second, .unset, .unset, .unset, .unset, .unset, .unset] [(.long z30)]))
              refine own_st (fun _ kont => XS.lload X35.here hx rfl (hb hby at_301) rfl kont) ?_
              show own_Go p e below s _ _ _ (T35.setTop (mkF m 303 #[.val (.int bp), .val (.int bq), .val (.int br), .val (.int bs), .val (.int bk), .val (.int ca), .val (.int cb), .val (.ref aa), .val (.ref ab), .val (.ref ag), .val (.long e0), .second, .val (.long e1), .second, .val (.long e2), .second, .val (.long e3), .second, .val (.long z29), .second, .val (.long z30), .second, .val (.long z31), .second, .val (.long z32), .second, .val (.long z33), .second, .val (.long z34), .second, .val (.long z35), .second, .unset, .unset, .unset, .unset, .unset, .unset] [(.long z32), (.long z30)]))
              refine own_cS X35 hx hml hZ hown (hw _ (List.mem_of_getElem? (i := 11) rfl)) (hw _ (List.mem_of_getElem? (i := 12) rfl)) (hw _ (List.mem_of_getElem? (i := 9) rfl)) (hw _ (List.mem_of_getElem? (i := 13) rfl)) (by decide) (own_rm4 l Z a0 hw z30 z32 T20.heap n0 sz20) eh35 (by decide) (W := 0) (by decide) (g := (mkF m 303 #[.val (.int bp), .val (.int bq), .val (.int br), .val (.int bs), .val (.int bk), .val (.int ca), .val (.int cb), .val (.ref aa), .val (.ref ab), .val (.ref ag), .val (.long e0), .second, .val (.long e1), .second, .val (.long e2), .second, .val (.long e3), .second, .val (.long z29), .second, .val (.long z30), .second, .val (.long z31), .second, .val (.long z32), .second, .val (.long z33), .second, .val (.long z34), .second, .val (.long z35), .second, .unset, .unset, .unset, .unset, .unset, .unset] [(.long z32), (.long z30)])) rfl rfl own_pd2 (argsL := [(.long z30), (.long z32)]) (rest := []) rfl rfl rfl (by show 2 * 0 + _ ≤ _; exact Nat.le_of_eq rfl) (hb hby at_303) (by decide) (by decide) ?_
              intro T36 L36 v36 X36 hQ36
              obtain ⟨⟨z36, rfl, hz36⟩, eh36, le36⟩ := hQ36
              have N36 := own_nil N35 le36
              show own_Go p e below s _ _ _ (T36.setTop (mkF m 306 #[.val (.int bp), .val (.int bq), .val (.int br), .val (.int bs), .val (.int bk), .val (.int ca), .val (.int cb), .val (.ref aa), .val (.ref ab), .val (.ref ag), .val (.long e0), .second, .val (.long e1), .second, .val (.long e2), .second, .val (.long e3), .second, .val (.long z29), .second, .val (.long z30), .second, .val (.long z31), .second, .val (.long z32), .second, .val (.long z33), .second, .val (.long z34), .second, .val (.long z35), .second, .unset, .unset, .unset, .unset, .unset, .unset] [(.long z36)]))
              refine own_st (fun _ kont => XS.lstore X36.here hx rfl (hb hby at_306) rfl (l' := #[.val (.int bp), .val (.int bq), .val (.int br), .val (.int bs), .val (.int bk), .val (.int ca), .val (.int cb), .val (.ref aa), .val (.ref ab), .val (.ref ag), .val (.long e0), .second, .val (.long e1), .second, .val (.long e2), .second, .val (.long e3), .second, .val (.long z29), .second, .val (.long z30), .second, .val (.long z31), .second, .val (.long z32), .second, .val (.long z33), .second, .val (.long z34), .second, .val (.long z35), .second, .val (.long z36), .second, .unset, .unset, .unset, .unset]) rfl kont) ?_
              show own_Go p e below s _ _ _ (T36.setTop (mkF m 308 #[.val (.int bp), .val (.int bq), .val (.int br), .val (.int bs), .val (.int bk), .val (.int ca), .val (.int cb), .val (.ref aa), .val (.ref ab), .val (.ref ag), .val (.long e0), .second, .val (.long e1), .second, .val (.long e2), .second, .val (.long e3), .second, .val (.long z29), .second, .val (.long z30), .second, .val (.long z31), .second, .val (.long z32), .second, .val (.long z33), .second, .val (.long z34), .second, .val (.long z35), .second, .val (.long z36), .second, .unset, .unset, .unset, .unset] []))
              refine own_st (fun _ kont => XS.lload X36.here hx rfl (hb hby at_308) rfl kont) ?_
              show own_Go p e below s _ _ _ (T36.setTop (mkF m 310 #[.val (.int bp), .val (.int bq), .val (.int br), .val (.int bs), .val (.int bk), .val (.int ca), .val (.int cb), .val (.ref aa), .val (.ref ab), .val (.ref ag), .val (.long e0), .second, .val (.long e1), .second, .val (.long e2), .second, .val (.long e3), .second, .val (.long z29), .second, .val (.long z30), .second, .val (.long z31), .second, .val (.long z32), .second, .val (.long z33), .second, .val (.long z34), .second, .val (.long z35), .second, .val (.long z36), .second, .unset, .unset, .unset, .unset] [(.long z35)]))
              refine own_st (fun _ kont => XS.lload X36.here hx rfl (hb hby at_310) rfl kont) ?_
              show own_Go p e below s _ _ _ (T36.setTop (mkF m 312 #[.val (.int bp), .val (.int bq), .val (.int br), .val (.int bs), .val (.int bk), .val (.int ca), .val (.int cb), .val (.ref aa), .val (.ref ab), .val (.ref ag), .val (.long e0), .second, .val (.long e1), .second, .val (.long e2), .second, .val (.long e3), .second, .val (.long z29), .second, .val (.long z30), .second, .val (.long z31), .second, .val (.long z32), .second, .val (.long z33), .second, .val (.long z34), .second, .val (.long z35), .second, .val (.long z36), .second, .unset, .unset, .unset, .unset] [(.long z34), (.long z35)]))
              refine own_cS X36 hx hml hZ hown (hw _ (List.mem_of_getElem? (i := 7) rfl)) (hw _ (List.mem_of_getElem? (i := 8) rfl)) (hw _ (List.mem_of_getElem? (i := 9) rfl)) (hw _ (List.mem_of_getElem? (i := 10) rfl)) (by decide) (own_rm3 l Z a0 hw z35 z34 T20.heap n0 sz20) eh36 (by decide) (W := 0) (by decide) (g := (mkF m 312 #[.val (.int bp), .val (.int bq), .val (.int br), .val (.int bs), .val (.int bk), .val (.int ca), .val (.int cb), .val (.ref aa), .val (.ref ab), .val (.ref ag), .val (.long e0), .second, .val (.long e1), .second, .val (.long e2), .second, .val (.long e3), .second, .val (.long z29), .second, .val (.long z30), .second, .val (.long z31), .second, .val (.long z32), .second, .val (.long z33), .second, .val (.long z34), .second, .val (.long z35), .second, .val (.long z36), .second, .unset, .unset, .unset, .unset] [(.long z34), (.long z35)])) rfl rfl own_pd2 (argsL := [(.long z35), (.long z34)]) (rest := []) rfl rfl rfl (by show 2 * 0 + _ ≤ _; exact Nat.le_of_eq rfl) (hb hby at_312) (by decide) (by decide) ?_
              intro T37 L37 v37 X37 hQ37
              obtain ⟨⟨z37, rfl, hz37⟩, eh37, le37⟩ := hQ37
              have N37 := own_nil N36 le37
              show own_Go p e below s _ _ _ (T37.setTop (mkF m 315 #[.val (.int bp), .val (.int bq), .val (.int br), .val (.int bs), .val (.int bk), .val (.int ca), .val (.int cb), .val (.ref aa), .val (.ref ab), .val (.ref ag), .val (.long e0), .second, .val (.long e1), .second, .val (.long e2), .second, .val (.long e3), .second, .val (.long z29), .second, .val (.long z30), .second, .val (.long z31), .second, .val (.long z32), .second, .val (.long z33), .second, .val (.long z34), .second, .val (.long z35), .second, .val (.long z36), .second, .unset, .unset, .unset, .unset] [(.long z37)]))
              refine own_st (fun _ kont => XS.lstore X37.here hx rfl (hb hby at_315) rfl (l' := #[.val (.int bp), .val (.int bq), .val (.int br), .val (.int bs), .val (.int bk), .val (.int ca), .val (.int cb), .val (.ref aa), .val (.ref ab), .val (.ref ag), .val (.long e0), .second, .val (.long e1), .second, .val (.long e2), .second, .val (.long e3), .second, .val (.long z29), .second, .val (.long z30), .second, .val (.long z31), .second, .val (.long z32), .second, .val (.long z33), .second, .val (.long z34), .second, .val (.long z35), .second, .val (.long z36), .second, .val (.long z37), .second, .unset, .unset]) rfl kont) ?_
              show own_Go p e below s _ _ _ (T37.setTop (mkF m 317 #[.val (.int bp), .val (.int bq), .val (.int br), .val (.int bs), .val (.int bk), .val (.int ca), .val (.int cb), .val (.ref aa), .val (.ref ab), .val (.ref ag), .val (.long e0), .second, .val (.long e1), .second, .val (.long e2), .second, .val (.long e3), .second, .val (.long z29), .second, .val (.long z30), .second, .val (.long z31), .second, .val (.long z32), .second, .val (.long z33), .second, .val (.long z34), .second, .val (.long z35), .second, .val (.long z36), .second, .val (.long z37), .second, .unset, .unset] []))
              refine own_st (fun _ kont => XS.lload X37.here hx rfl (hb hby at_317) rfl kont) ?_
              show own_Go p e below s _ _ _ (T37.setTop (mkF m 319 #[.val (.int bp), .val (.int bq), .val (.int br), .val (.int bs), .val (.int bk), .val (.int ca), .val (.int cb), .val (.ref aa), .val (.ref ab), .val (.ref ag), .val (.long e0), .second, .val (.long e1), .second, .val (.long e2), .second, .val (.long e3), .second, .val (.long z29), .second, .val (.long z30), .second, .val (.long z31), .second, .val (.long z32), .second, .val (.long z33), .second, .val (.long z34), .second, .val (.long z35), .second, .val (.long z36), .second, .val (.long z37), .second, .unset, .unset] [(.long z35)]))
              refine own_st (fun _ kont => XS.lload X37.here hx rfl (hb hby at_319) rfl kont) ?_
              show own_Go p e below s _ _ _ (T37.setTop (mkF m 321 #[.val (.int bp), .val (.int bq), .val (.int br), .val (.int bs), .val (.int bk), .val (.int ca), .val (.int cb), .val (.ref aa), .val (.ref ab), .val (.ref ag), .val (.long e0), .second, .val (.long e1), .second, .val (.long e2), .second, .val (.long e3), .second, .val (.long z29), .second, .val (.long z30), .second, .val (.long z31), .second, .val (.long z32), .second, .val (.long z33), .second, .val (.long z34), .second, .val (.long z35), .second, .val (.long z36), .second, .val (.long z37), .second, .unset, .unset] [(.long z34), (.long z35)]))
              refine own_cS X37 hx hml hZ hown (hw _ (List.mem_of_getElem? (i := 11) rfl)) (hw _ (List.mem_of_getElem? (i := 12) rfl)) (hw _ (List.mem_of_getElem? (i := 9) rfl)) (hw _ (List.mem_of_getElem? (i := 13) rfl)) (by decide) (own_rm4 l Z a0 hw z35 z34 T20.heap n0 sz20) eh37 (by decide) (W := 0) (by decide) (g := (mkF m 321 #[.val (.int bp), .val (.int bq), .val (.int br), .val (.int bs), .val (.int bk), .val (.int ca), .val (.int cb), .val (.ref aa), .val (.ref ab), .val (.ref ag), .val (.long e0), .second, .val (.long e1), .second, .val (.long e2), .second, .val (.long e3), .second, .val (.long z29), .second, .val (.long z30), .second, .val (.long z31), .second, .val (.long z32), .second, .val (.long z33), .second, .val (.long z34), .second, .val (.long z35), .second, .val (.long z36), .second, .val (.long z37), .second, .unset, .unset] [(.long z34), (.long z35)])) rfl rfl own_pd2 (argsL := [(.long z35), (.long z34)]) (rest := []) rfl rfl rfl (by show 2 * 0 + _ ≤ _; exact Nat.le_of_eq rfl) (hb hby at_321) (by decide) (by decide) ?_
              intro T38 L38 v38 X38 hQ38
              obtain ⟨⟨z38, rfl, hz38⟩, eh38, le38⟩ := hQ38
              have N38 := own_nil N37 le38
              show own_Go p e below s _ _ _ (T38.setTop (mkF m 324 #[.val (.int bp), .val (.int bq), .val (.int br), .val (.int bs), .val (.int bk), .val (.int ca), .val (.int cb), .val (.ref aa), .val (.ref ab), .val (.ref ag), .val (.long e0), .second, .val (.long e1), .second, .val (.long e2), .second, .val (.long e3), .second, .val (.long z29), .second, .val (.long z30), .second, .val (.long z31), .second, .val (.long z32), .second, .val (.long z33), .second, .val (.long z34), .second, .val (.long z35), .second, .val (.long z36), .second, .val (.long z37), .second, .unset, .unset] [(.long z38)]))
              refine own_st (fun _ kont => XS.lstore X38.here hx rfl (hb hby at_324) rfl (l' := #[.val (.int bp), .val (.int bq), .val (.int br), .val (.int bs), .val (.int bk), .val (.int ca), .val (.int cb), .val (.ref aa), .val (.ref ab), .val (.ref ag), .val (.long e0), .second, .val (.long e1), .second, .val (.long e2), .second, .val (.long e3), .second, .val (.long z29), .second, .val (.long z30), .second, .val (.long z31), .second, .val (.long z32), .second, .val (.long z33), .second, .val (.long z34), .second, .val (.long z35), .second, .val (.long z36), .second, .val (.long z37), .second, .val (.long z38), .second]) rfl kont) ?_
              show own_Go p e below s _ _ _ (T38.setTop (mkF m 326 #[.val (.int bp), .val (.int bq), .val (.int br), .val (.int bs), .val (.int bk), .val (.int ca), .val (.int cb), .val (.ref aa), .val (.ref ab), .val (.ref ag), .val (.long e0), .second, .val (.long e1), .second, .val (.long e2), .second, .val (.long e3), .second, .val (.long z29), .second, .val (.long z30), .second, .val (.long z31), .second, .val (.long z32), .second, .val (.long z33), .second, .val (.long z34), .second, .val (.long z35), .second, .val (.long z36), .second, .val (.long z37), .second, .val (.long z38), .second] []))
              refine own_st (fun _ kont => XS.aload X38.here hx rfl (hb hby at_326) rfl rfl kont) ?_
              show own_Go p e below s _ _ _ (T38.setTop (mkF m 328 #[.val (.int bp), .val (.int bq), .val (.int br), .val (.int bs), .val (.int bk), .val (.int ca), .val (.int cb), .val (.ref aa), .val (.ref ab), .val (.ref ag), .val (.long e0), .second, .val (.long e1), .second, .val (.long e2), .second, .val (.long e3), .second, .val (.long z29), .second, .val (.long z30), .second, .val (.long z31), .second, .val (.long z32), .second, .val (.long z33), .second, .val (.long z34), .second, .val (.long z35), .second, .val (.long z36), .second, .val (.long z37), .second, .val (.long z38), .second] [(.ref ag)]))
              refine own_st (fun _ kont => XS.iconst X38.here hx rfl (hb hby at_328) kont) ?_
              show own_Go p e below s _ _ _ (T38.setTop (mkF m 329 #[.val (.int bp), .val (.int bq), .val (.int br), .val (.int bs), .val (.int bk), .val (.int ca), .val (.int cb), .val (.ref aa), .val (.ref ab), .val (.ref ag), .val (.long e0), .second, .val (.long e1), .second, .val (.long e2), .second, .val (.long e3), .second, .val (.long z29), .second, .val (.long z30), .second, .val (.long z31), .second, .val (.long z32), .second, .val (.long z33), .second, .val (.long z34), .second, .val (.long z35), .second, .val (.long z36), .second, .val (.long z37), .second, .val (.long z38), .second] [(.int (0 : Int32)), (.ref ag)]))
              refine own_st (fun _ kont => XS.lload X38.here hx rfl (hb hby at_329) rfl kont) ?_
              show own_Go p e below s _ _ _ (T38.setTop (mkF m 331 #[.val (.int bp), .val (.int bq), .val (.int br), .val (.int bs), .val (.int bk), .val (.int ca), .val (.int cb), .val (.ref aa), .val (.ref ab), .val (.ref ag), .val (.long e0), .second, .val (.long e1), .second, .val (.long e2), .second, .val (.long e3), .second, .val (.long z29), .second, .val (.long z30), .second, .val (.long z31), .second, .val (.long z32), .second, .val (.long z33), .second, .val (.long z34), .second, .val (.long z35), .second, .val (.long z36), .second, .val (.long z37), .second, .val (.long z38), .second] [(.long z33), (.int (0 : Int32)), (.ref ag)]))
              obtain ⟨net0, net1, net2, net3⟩ := own_net hla hlb (fun u => by have := sp2 u; omega) (fun u => by have := sp4 u; omega) hF h1e0 h2e0 h1e1 h2e1 h1e2 h2e2 h1e3 h2e3 hz29 hz30 hz31 hz32 hz33 hz34 hz35 hz36 hz37 hz38
              show own_Go p e below s _ _ _ (T38.setTop (mkF m 331 #[.val (.int bp), .val (.int bq), .val (.int br), .val (.int bs), .val (.int bk), .val (.int ca), .val (.int cb), .val (.ref aa), .val (.ref ab), .val (.ref ag), .val (.long e0), .second, .val (.long e1), .second, .val (.long e2), .second, .val (.long e3), .second, .val (.long z29), .second, .val (.long z30), .second, .val (.long z31), .second, .val (.long z32), .second, .val (.long z33), .second, .val (.long z34), .second, .val (.long z35), .second, .val (.long z36), .second, .val (.long z37), .second, .val (.long z38), .second] [(.long z33), (.int (0 : Int32)), (.ref ag)]))
              refine own_cS X38 hx hml hZ hown (hw _ (List.mem_of_getElem? (i := 14) rfl)) (hw _ (List.mem_of_getElem? (i := 15) rfl)) (hw _ (List.mem_of_getElem? (i := 16) rfl)) (hw _ (List.mem_of_getElem? (i := 17) rfl)) (by decide) (own_rm5 l Z a0 hw ag (0 : Int32) z33 (na + nb) 0 F T20.heap n0 sz20 Vg (by decide) (by omega) net0) eh38 (by decide) (W := 0) (by decide) (g := (mkF m 331 #[.val (.int bp), .val (.int bq), .val (.int br), .val (.int bs), .val (.int bk), .val (.int ca), .val (.int cb), .val (.ref aa), .val (.ref ab), .val (.ref ag), .val (.long e0), .second, .val (.long e1), .second, .val (.long e2), .second, .val (.long e3), .second, .val (.long z29), .second, .val (.long z30), .second, .val (.long z31), .second, .val (.long z32), .second, .val (.long z33), .second, .val (.long z34), .second, .val (.long z35), .second, .val (.long z36), .second, .val (.long z37), .second, .val (.long z38), .second] [(.long z33), (.int (0 : Int32)), (.ref ag)])) rfl rfl own_pd3 (argsL := [(.ref ag), (.int (0 : Int32)), (.long z33)]) (rest := []) rfl rfl rfl (by show 2 * 0 + _ ≤ _; exact Nat.le_of_eq rfl) (hb hby at_331) (by decide) (by decide) ?_
              intro T39 L39 v39 X39 hQ39
              obtain ⟨rfl, eh39, le39⟩ := hQ39
              have N39 := own_nil N38 le39
              show own_Go p e below s _ _ _ (T39.setTop (mkF m 334 #[.val (.int bp), .val (.int bq), .val (.int br), .val (.int bs), .val (.int bk), .val (.int ca), .val (.int cb), .val (.ref aa), .val (.ref ab), .val (.ref ag), .val (.long e0), .second, .val (.long e1), .second, .val (.long e2), .second, .val (.long e3), .second, .val (.long z29), .second, .val (.long z30), .second, .val (.long z31), .second, .val (.long z32), .second, .val (.long z33), .second, .val (.long z34), .second, .val (.long z35), .second, .val (.long z36), .second, .val (.long z37), .second, .val (.long z38), .second] [(.int (1 : Int32))]))
              refine own_st (fun _ kont => XS.ifNo X39.here hx rfl (hb hby at_334) rfl (by decide) kont) ?_
              show own_Go p e below s _ _ _ (T39.setTop (mkF m 337 #[.val (.int bp), .val (.int bq), .val (.int br), .val (.int bs), .val (.int bk), .val (.int ca), .val (.int cb), .val (.ref aa), .val (.ref ab), .val (.ref ag), .val (.long e0), .second, .val (.long e1), .second, .val (.long e2), .second, .val (.long e3), .second, .val (.long z29), .second, .val (.long z30), .second, .val (.long z31), .second, .val (.long z32), .second, .val (.long z33), .second, .val (.long z34), .second, .val (.long z35), .second, .val (.long z36), .second, .val (.long z37), .second, .val (.long z38), .second] []))
              refine own_st (fun _ kont => XS.aload X39.here hx rfl (hb hby at_337) rfl rfl kont) ?_
              show own_Go p e below s _ _ _ (T39.setTop (mkF m 339 #[.val (.int bp), .val (.int bq), .val (.int br), .val (.int bs), .val (.int bk), .val (.int ca), .val (.int cb), .val (.ref aa), .val (.ref ab), .val (.ref ag), .val (.long e0), .second, .val (.long e1), .second, .val (.long e2), .second, .val (.long e3), .second, .val (.long z29), .second, .val (.long z30), .second, .val (.long z31), .second, .val (.long z32), .second, .val (.long z33), .second, .val (.long z34), .second, .val (.long z35), .second, .val (.long z36), .second, .val (.long z37), .second, .val (.long z38), .second] [(.ref ag)]))
              refine own_st (fun _ kont => XS.iconst X39.here hx rfl (hb hby at_339) kont) ?_
              show own_Go p e below s _ _ _ (T39.setTop (mkF m 340 #[.val (.int bp), .val (.int bq), .val (.int br), .val (.int bs), .val (.int bk), .val (.int ca), .val (.int cb), .val (.ref aa), .val (.ref ab), .val (.ref ag), .val (.long e0), .second, .val (.long e1), .second, .val (.long e2), .second, .val (.long e3), .second, .val (.long z29), .second, .val (.long z30), .second, .val (.long z31), .second, .val (.long z32), .second, .val (.long z33), .second, .val (.long z34), .second, .val (.long z35), .second, .val (.long z36), .second, .val (.long z37), .second, .val (.long z38), .second] [(.int (1 : Int32)), (.ref ag)]))
              refine own_st (fun _ kont => XS.lload X39.here hx rfl (hb hby at_340) rfl kont) ?_
              show own_Go p e below s _ _ _ (T39.setTop (mkF m 342 #[.val (.int bp), .val (.int bq), .val (.int br), .val (.int bs), .val (.int bk), .val (.int ca), .val (.int cb), .val (.ref aa), .val (.ref ab), .val (.ref ag), .val (.long e0), .second, .val (.long e1), .second, .val (.long e2), .second, .val (.long e3), .second, .val (.long z29), .second, .val (.long z30), .second, .val (.long z31), .second, .val (.long z32), .second, .val (.long z33), .second, .val (.long z34), .second, .val (.long z35), .second, .val (.long z36), .second, .val (.long z37), .second, .val (.long z38), .second] [(.long z37), (.int (1 : Int32)), (.ref ag)]))
              refine own_cS X39 hx hml hZ hown (hw _ (List.mem_of_getElem? (i := 14) rfl)) (hw _ (List.mem_of_getElem? (i := 15) rfl)) (hw _ (List.mem_of_getElem? (i := 16) rfl)) (hw _ (List.mem_of_getElem? (i := 17) rfl)) (by decide) (own_rm5 l Z a0 hw ag (1 : Int32) z37 (na + nb) 1 F T20.heap n0 sz20 Vg (by decide) (by omega) net1) eh39 (by decide) (W := 0) (by decide) (g := (mkF m 342 #[.val (.int bp), .val (.int bq), .val (.int br), .val (.int bs), .val (.int bk), .val (.int ca), .val (.int cb), .val (.ref aa), .val (.ref ab), .val (.ref ag), .val (.long e0), .second, .val (.long e1), .second, .val (.long e2), .second, .val (.long e3), .second, .val (.long z29), .second, .val (.long z30), .second, .val (.long z31), .second, .val (.long z32), .second, .val (.long z33), .second, .val (.long z34), .second, .val (.long z35), .second, .val (.long z36), .second, .val (.long z37), .second, .val (.long z38), .second] [(.long z37), (.int (1 : Int32)), (.ref ag)])) rfl rfl own_pd3 (argsL := [(.ref ag), (.int (1 : Int32)), (.long z37)]) (rest := []) rfl rfl rfl (by show 2 * 0 + _ ≤ _; exact Nat.le_of_eq rfl) (hb hby at_342) (by decide) (by decide) ?_
              intro T40 L40 v40 X40 hQ40
              obtain ⟨rfl, eh40, le40⟩ := hQ40
              have N40 := own_nil N39 le40
              show own_Go p e below s _ _ _ (T40.setTop (mkF m 345 #[.val (.int bp), .val (.int bq), .val (.int br), .val (.int bs), .val (.int bk), .val (.int ca), .val (.int cb), .val (.ref aa), .val (.ref ab), .val (.ref ag), .val (.long e0), .second, .val (.long e1), .second, .val (.long e2), .second, .val (.long e3), .second, .val (.long z29), .second, .val (.long z30), .second, .val (.long z31), .second, .val (.long z32), .second, .val (.long z33), .second, .val (.long z34), .second, .val (.long z35), .second, .val (.long z36), .second, .val (.long z37), .second, .val (.long z38), .second] [(.int (1 : Int32))]))
              refine own_st (fun _ kont => XS.ifNo X40.here hx rfl (hb hby at_345) rfl (by decide) kont) ?_
              show own_Go p e below s _ _ _ (T40.setTop (mkF m 348 #[.val (.int bp), .val (.int bq), .val (.int br), .val (.int bs), .val (.int bk), .val (.int ca), .val (.int cb), .val (.ref aa), .val (.ref ab), .val (.ref ag), .val (.long e0), .second, .val (.long e1), .second, .val (.long e2), .second, .val (.long e3), .second, .val (.long z29), .second, .val (.long z30), .second, .val (.long z31), .second, .val (.long z32), .second, .val (.long z33), .second, .val (.long z34), .second, .val (.long z35), .second, .val (.long z36), .second, .val (.long z37), .second, .val (.long z38), .second] []))
              refine own_st (fun _ kont => XS.aload X40.here hx rfl (hb hby at_348) rfl rfl kont) ?_
              show own_Go p e below s _ _ _ (T40.setTop (mkF m 350 #[.val (.int bp), .val (.int bq), .val (.int br), .val (.int bs), .val (.int bk), .val (.int ca), .val (.int cb), .val (.ref aa), .val (.ref ab), .val (.ref ag), .val (.long e0), .second, .val (.long e1), .second, .val (.long e2), .second, .val (.long e3), .second, .val (.long z29), .second, .val (.long z30), .second, .val (.long z31), .second, .val (.long z32), .second, .val (.long z33), .second, .val (.long z34), .second, .val (.long z35), .second, .val (.long z36), .second, .val (.long z37), .second, .val (.long z38), .second] [(.ref ag)]))
              refine own_st (fun _ kont => XS.iconst X40.here hx rfl (hb hby at_350) kont) ?_
              show own_Go p e below s _ _ _ (T40.setTop (mkF m 351 #[.val (.int bp), .val (.int bq), .val (.int br), .val (.int bs), .val (.int bk), .val (.int ca), .val (.int cb), .val (.ref aa), .val (.ref ab), .val (.ref ag), .val (.long e0), .second, .val (.long e1), .second, .val (.long e2), .second, .val (.long e3), .second, .val (.long z29), .second, .val (.long z30), .second, .val (.long z31), .second, .val (.long z32), .second, .val (.long z33), .second, .val (.long z34), .second, .val (.long z35), .second, .val (.long z36), .second, .val (.long z37), .second, .val (.long z38), .second] [(.int (2 : Int32)), (.ref ag)]))
              refine own_st (fun _ kont => XS.lload X40.here hx rfl (hb hby at_351) rfl kont) ?_
              show own_Go p e below s _ _ _ (T40.setTop (mkF m 353 #[.val (.int bp), .val (.int bq), .val (.int br), .val (.int bs), .val (.int bk), .val (.int ca), .val (.int cb), .val (.ref aa), .val (.ref ab), .val (.ref ag), .val (.long e0), .second, .val (.long e1), .second, .val (.long e2), .second, .val (.long e3), .second, .val (.long z29), .second, .val (.long z30), .second, .val (.long z31), .second, .val (.long z32), .second, .val (.long z33), .second, .val (.long z34), .second, .val (.long z35), .second, .val (.long z36), .second, .val (.long z37), .second, .val (.long z38), .second] [(.long z38), (.int (2 : Int32)), (.ref ag)]))
              refine own_cS X40 hx hml hZ hown (hw _ (List.mem_of_getElem? (i := 14) rfl)) (hw _ (List.mem_of_getElem? (i := 15) rfl)) (hw _ (List.mem_of_getElem? (i := 16) rfl)) (hw _ (List.mem_of_getElem? (i := 17) rfl)) (by decide) (own_rm5 l Z a0 hw ag (2 : Int32) z38 (na + nb) 2 F T20.heap n0 sz20 Vg (by decide) (by omega) net2) eh40 (by decide) (W := 0) (by decide) (g := (mkF m 353 #[.val (.int bp), .val (.int bq), .val (.int br), .val (.int bs), .val (.int bk), .val (.int ca), .val (.int cb), .val (.ref aa), .val (.ref ab), .val (.ref ag), .val (.long e0), .second, .val (.long e1), .second, .val (.long e2), .second, .val (.long e3), .second, .val (.long z29), .second, .val (.long z30), .second, .val (.long z31), .second, .val (.long z32), .second, .val (.long z33), .second, .val (.long z34), .second, .val (.long z35), .second, .val (.long z36), .second, .val (.long z37), .second, .val (.long z38), .second] [(.long z38), (.int (2 : Int32)), (.ref ag)])) rfl rfl own_pd3 (argsL := [(.ref ag), (.int (2 : Int32)), (.long z38)]) (rest := []) rfl rfl rfl (by show 2 * 0 + _ ≤ _; exact Nat.le_of_eq rfl) (hb hby at_353) (by decide) (by decide) ?_
              intro T41 L41 v41 X41 hQ41
              obtain ⟨rfl, eh41, le41⟩ := hQ41
              have N41 := own_nil N40 le41
              show own_Go p e below s _ _ _ (T41.setTop (mkF m 356 #[.val (.int bp), .val (.int bq), .val (.int br), .val (.int bs), .val (.int bk), .val (.int ca), .val (.int cb), .val (.ref aa), .val (.ref ab), .val (.ref ag), .val (.long e0), .second, .val (.long e1), .second, .val (.long e2), .second, .val (.long e3), .second, .val (.long z29), .second, .val (.long z30), .second, .val (.long z31), .second, .val (.long z32), .second, .val (.long z33), .second, .val (.long z34), .second, .val (.long z35), .second, .val (.long z36), .second, .val (.long z37), .second, .val (.long z38), .second] [(.int (1 : Int32))]))
              refine own_st (fun _ kont => XS.ifNo X41.here hx rfl (hb hby at_356) rfl (by decide) kont) ?_
              show own_Go p e below s _ _ _ (T41.setTop (mkF m 359 #[.val (.int bp), .val (.int bq), .val (.int br), .val (.int bs), .val (.int bk), .val (.int ca), .val (.int cb), .val (.ref aa), .val (.ref ab), .val (.ref ag), .val (.long e0), .second, .val (.long e1), .second, .val (.long e2), .second, .val (.long e3), .second, .val (.long z29), .second, .val (.long z30), .second, .val (.long z31), .second, .val (.long z32), .second, .val (.long z33), .second, .val (.long z34), .second, .val (.long z35), .second, .val (.long z36), .second, .val (.long z37), .second, .val (.long z38), .second] []))
              refine own_st (fun _ kont => XS.aload X41.here hx rfl (hb hby at_359) rfl rfl kont) ?_
              show own_Go p e below s _ _ _ (T41.setTop (mkF m 361 #[.val (.int bp), .val (.int bq), .val (.int br), .val (.int bs), .val (.int bk), .val (.int ca), .val (.int cb), .val (.ref aa), .val (.ref ab), .val (.ref ag), .val (.long e0), .second, .val (.long e1), .second, .val (.long e2), .second, .val (.long e3), .second, .val (.long z29), .second, .val (.long z30), .second, .val (.long z31), .second, .val (.long z32), .second, .val (.long z33), .second, .val (.long z34), .second, .val (.long z35), .second, .val (.long z36), .second, .val (.long z37), .second, .val (.long z38), .second] [(.ref ag)]))
              refine own_st (fun _ kont => XS.iconst X41.here hx rfl (hb hby at_361) kont) ?_
              show own_Go p e below s _ _ _ (T41.setTop (mkF m 362 #[.val (.int bp), .val (.int bq), .val (.int br), .val (.int bs), .val (.int bk), .val (.int ca), .val (.int cb), .val (.ref aa), .val (.ref ab), .val (.ref ag), .val (.long e0), .second, .val (.long e1), .second, .val (.long e2), .second, .val (.long e3), .second, .val (.long z29), .second, .val (.long z30), .second, .val (.long z31), .second, .val (.long z32), .second, .val (.long z33), .second, .val (.long z34), .second, .val (.long z35), .second, .val (.long z36), .second, .val (.long z37), .second, .val (.long z38), .second] [(.int (3 : Int32)), (.ref ag)]))
              refine own_st (fun _ kont => XS.lload X41.here hx rfl (hb hby at_362) rfl kont) ?_
              show own_Go p e below s _ _ _ (T41.setTop (mkF m 364 #[.val (.int bp), .val (.int bq), .val (.int br), .val (.int bs), .val (.int bk), .val (.int ca), .val (.int cb), .val (.ref aa), .val (.ref ab), .val (.ref ag), .val (.long e0), .second, .val (.long e1), .second, .val (.long e2), .second, .val (.long e3), .second, .val (.long z29), .second, .val (.long z30), .second, .val (.long z31), .second, .val (.long z32), .second, .val (.long z33), .second, .val (.long z34), .second, .val (.long z35), .second, .val (.long z36), .second, .val (.long z37), .second, .val (.long z38), .second] [(.long z36), (.int (3 : Int32)), (.ref ag)]))
              refine own_cS X41 hx hml hZ hown (hw _ (List.mem_of_getElem? (i := 14) rfl)) (hw _ (List.mem_of_getElem? (i := 15) rfl)) (hw _ (List.mem_of_getElem? (i := 16) rfl)) (hw _ (List.mem_of_getElem? (i := 17) rfl)) (by decide) (own_rm5 l Z a0 hw ag (3 : Int32) z36 (na + nb) 3 F T20.heap n0 sz20 Vg (by decide) (by omega) net3) eh41 (by decide) (W := 0) (by decide) (g := (mkF m 364 #[.val (.int bp), .val (.int bq), .val (.int br), .val (.int bs), .val (.int bk), .val (.int ca), .val (.int cb), .val (.ref aa), .val (.ref ab), .val (.ref ag), .val (.long e0), .second, .val (.long e1), .second, .val (.long e2), .second, .val (.long e3), .second, .val (.long z29), .second, .val (.long z30), .second, .val (.long z31), .second, .val (.long z32), .second, .val (.long z33), .second, .val (.long z34), .second, .val (.long z35), .second, .val (.long z36), .second, .val (.long z37), .second, .val (.long z38), .second] [(.long z36), (.int (3 : Int32)), (.ref ag)])) rfl rfl own_pd3 (argsL := [(.ref ag), (.int (3 : Int32)), (.long z36)]) (rest := []) rfl rfl rfl (by show 2 * 0 + _ ≤ _; exact Nat.le_of_eq rfl) (hb hby at_364) (by decide) (by decide) ?_
              intro T42 L42 v42 X42 hQ42
              obtain ⟨rfl, eh42, le42⟩ := hQ42
              have N42 := own_nil N41 le42
              show own_Go p e below s _ _ _ (T42.setTop (mkF m 367 #[.val (.int bp), .val (.int bq), .val (.int br), .val (.int bs), .val (.int bk), .val (.int ca), .val (.int cb), .val (.ref aa), .val (.ref ab), .val (.ref ag), .val (.long e0), .second, .val (.long e1), .second, .val (.long e2), .second, .val (.long e3), .second, .val (.long z29), .second, .val (.long z30), .second, .val (.long z31), .second, .val (.long z32), .second, .val (.long z33), .second, .val (.long z34), .second, .val (.long z35), .second, .val (.long z36), .second, .val (.long z37), .second, .val (.long z38), .second] [(.int (1 : Int32))]))
              refine own_st (fun _ kont => XS.ifNo X42.here hx rfl (hb hby at_367) rfl (by decide) kont) ?_
              show own_Go p e below s _ _ _ (T42.setTop (mkF m 370 #[.val (.int bp), .val (.int bq), .val (.int br), .val (.int bs), .val (.int bk), .val (.int ca), .val (.int cb), .val (.ref aa), .val (.ref ab), .val (.ref ag), .val (.long e0), .second, .val (.long e1), .second, .val (.long e2), .second, .val (.long e3), .second, .val (.long z29), .second, .val (.long z30), .second, .val (.long z31), .second, .val (.long z32), .second, .val (.long z33), .second, .val (.long z34), .second, .val (.long z35), .second, .val (.long z36), .second, .val (.long z37), .second, .val (.long z38), .second] []))
              refine own_st (fun _ kont => XS.iconst X42.here hx rfl (hb hby at_370) kont) ?_
              show own_Go p e below s _ _ _ (T42.setTop (mkF m 371 #[.val (.int bp), .val (.int bq), .val (.int br), .val (.int bs), .val (.int bk), .val (.int ca), .val (.int cb), .val (.ref aa), .val (.ref ab), .val (.ref ag), .val (.long e0), .second, .val (.long e1), .second, .val (.long e2), .second, .val (.long e3), .second, .val (.long z29), .second, .val (.long z30), .second, .val (.long z31), .second, .val (.long z32), .second, .val (.long z33), .second, .val (.long z34), .second, .val (.long z35), .second, .val (.long z36), .second, .val (.long z37), .second, .val (.long z38), .second] [(.int (1 : Int32))]))
              refine own_st (fun _ kont => XS.goto X42.here hx rfl (pc0 := 371) (pc' := 375) rfl (hb hby at_371) (by decide) (by decide) kont) ?_
              show own_Go p e below s _ _ _ (T42.setTop (mkF m 375 #[.val (.int bp), .val (.int bq), .val (.int br), .val (.int bs), .val (.int bk), .val (.int ca), .val (.int cb), .val (.ref aa), .val (.ref ab), .val (.ref ag), .val (.long e0), .second, .val (.long e1), .second, .val (.long e2), .second, .val (.long e3), .second, .val (.long z29), .second, .val (.long z30), .second, .val (.long z31), .second, .val (.long z32), .second, .val (.long z33), .second, .val (.long z34), .second, .val (.long z35), .second, .val (.long z36), .second, .val (.long z37), .second, .val (.long z38), .second] [(.int (1 : Int32))]))
              exact own_endN X42 hx hlk (t := .boolean) hret (by simp) (hb hby at_375) (w := (1 : Int32)) (by decide) ⟨rfl, N42⟩ (by decide) (by decide)
            show own_Go p e below s _ _ _ (T25.setTop (mkF m 219 #[.val (.int bp), .val (.int bq), .val (.int br), .val (.int bs), .val (.int bk), .val (.int ca), .val (.int cb), .val (.ref aa), .val (.ref ab), .val (.ref ag), .val (.long e0), .second, .val (.long e1), .second, .val (.long e2), .second, .unset, .unset, .unset, .unset, .unset, .unset, .unset, .unset, .unset, .unset, .unset, .unset, .unset, .unset, .unset, .unset, .unset, .unset, .unset, .unset, .unset, .unset] [(.int (2 : Int32)), (.int cb)]))
            rcases Classical.em (cb = (2 : Int32)) with we3 | we3
            · have iwe3 : ((cb).toInt : Int) = 2 := congrArg Int32.toInt we3
              show own_Go p e below s _ _ _ (T25.setTop (mkF m 219 #[.val (.int bp), .val (.int bq), .val (.int br), .val (.int bs), .val (.int bk), .val (.int ca), .val (.int cb), .val (.ref aa), .val (.ref ab), .val (.ref ag), .val (.long e0), .second, .val (.long e1), .second, .val (.long e2), .second, .unset, .unset, .unset, .unset, .unset, .unset, .unset, .unset, .unset, .unset, .unset, .unset, .unset, .unset, .unset, .unset, .unset, .unset, .unset, .unset, .unset, .unset] [(.int (2 : Int32)), (.int cb)]))
              refine own_st (fun _ kont => XS.icmpNo X25.here hx rfl (hb hby at_219) rfl (teq we3).2 kont) ?_
              show own_Go p e below s _ _ _ (T25.setTop (mkF m 222 #[.val (.int bp), .val (.int bq), .val (.int br), .val (.int bs), .val (.int bk), .val (.int ca), .val (.int cb), .val (.ref aa), .val (.ref ab), .val (.ref ag), .val (.long e0), .second, .val (.long e1), .second, .val (.long e2), .second, .unset, .unset, .unset, .unset, .unset, .unset, .unset, .unset, .unset, .unset, .unset, .unset, .unset, .unset, .unset, .unset, .unset, .unset, .unset, .unset, .unset, .unset] []))
              refine own_st (fun _ kont => XS.iloadN X25.here hx rfl (hb hby at_222) rfl kont) ?_
              show own_Go p e below s _ _ _ (T25.setTop (mkF m 223 #[.val (.int bp), .val (.int bq), .val (.int br), .val (.int bs), .val (.int bk), .val (.int ca), .val (.int cb), .val (.ref aa), .val (.ref ab), .val (.ref ag), .val (.long e0), .second, .val (.long e1), .second, .val (.long e2), .second, .unset, .unset, .unset, .unset, .unset, .unset, .unset, .unset, .unset, .unset, .unset, .unset, .unset, .unset, .unset, .unset, .unset, .unset, .unset, .unset, .unset, .unset] [(.int br)]))
              refine own_st (fun _ kont => XS.iloadN X25.here hx rfl (hb hby at_223) rfl kont) ?_
              show own_Go p e below s _ _ _ (T25.setTop (mkF m 224 #[.val (.int bp), .val (.int bq), .val (.int br), .val (.int bs), .val (.int bk), .val (.int ca), .val (.int cb), .val (.ref aa), .val (.ref ab), .val (.ref ag), .val (.long e0), .second, .val (.long e1), .second, .val (.long e2), .second, .unset, .unset, .unset, .unset, .unset, .unset, .unset, .unset, .unset, .unset, .unset, .unset, .unset, .unset, .unset, .unset, .unset, .unset, .unset, .unset, .unset, .unset] [(.int bs), (.int br)]))
              refine own_cS X25 hx hml hZ hown (hw _ (List.mem_of_getElem? (i := 21) rfl)) (hw _ (List.mem_of_getElem? (i := 22) rfl)) (hw _ (List.mem_of_getElem? (i := 9) rfl)) (hw _ (List.mem_of_getElem? (i := 23) rfl)) (by decide) (own_rm2 l Z a0 hw br bs T20.heap n0 sz20) e25 (by decide) (W := 0) (by decide) (g := (mkF m 224 #[.val (.int bp), .val (.int bq), .val (.int br), .val (.int bs), .val (.int bk), .val (.int ca), .val (.int cb), .val (.ref aa), .val (.ref ab), .val (.ref ag), .val (.long e0), .second, .val (.long e1), .second, .val (.long e2), .second, .unset, .unset, .unset, .unset, .unset, .unset, .unset, .unset, .unset, .unset, .unset, .unset, .unset, .unset, .unset, .unset, .unset, .unset, .unset, .unset, .unset, .unset] [(.int bs), (.int br)])) rfl rfl own_pd0 (argsL := [(.int br), (.int bs)]) (rest := []) rfl rfl rfl (by show 2 * 0 + _ ≤ _; exact Nat.le_of_eq rfl) (hb hby at_224) (by decide) (by decide) ?_
              intro T28 L28 v28 X28 hQ28
              obtain ⟨⟨m28, rfl, hm28⟩, eh28, le28⟩ := hQ28
              have N28 := own_nil N25 le28
              show own_Go p e below s _ _ _ (T28.setTop (mkF m 227 #[.val (.int bp), .val (.int bq), .val (.int br), .val (.int bs), .val (.int bk), .val (.int ca), .val (.int cb), .val (.ref aa), .val (.ref ab), .val (.ref ag), .val (.long e0), .second, .val (.long e1), .second, .val (.long e2), .second, .unset, .unset, .unset, .unset, .unset, .unset, .unset, .unset, .unset, .unset, .unset, .unset, .unset, .unset, .unset, .unset, .unset, .unset, .unset, .unset, .unset, .unset] [(.int m28)]))
              refine own_st (fun _ kont => XS.i2l X28.here hx rfl (hb hby at_227) rfl kont) ?_
              show own_Go p e below s _ _ _ (T28.setTop (mkF m 228 #[.val (.int bp), .val (.int bq), .val (.int br), .val (.int bs), .val (.int bk), .val (.int ca), .val (.int cb), .val (.ref aa), .val (.ref ab), .val (.ref ag), .val (.long e0), .second, .val (.long e1), .second, .val (.long e2), .second, .unset, .unset, .unset, .unset, .unset, .unset, .unset, .unset, .unset, .unset, .unset, .unset, .unset, .unset, .unset, .unset, .unset, .unset, .unset, .unset, .unset, .unset] [(.long (m28).toInt64)]))
              refine own_st (fun _ kont => XS.goto X28.here hx rfl (pc0 := 228) (pc' := 234) rfl (hb hby at_228) (by decide) (by decide) kont) ?_
              show own_Go p e below s _ _ _ (T28.setTop (mkF m 234 #[.val (.int bp), .val (.int bq), .val (.int br), .val (.int bs), .val (.int bk), .val (.int ca), .val (.int cb), .val (.ref aa), .val (.ref ab), .val (.ref ag), .val (.long e0), .second, .val (.long e1), .second, .val (.long e2), .second, .unset, .unset, .unset, .unset, .unset, .unset, .unset, .unset, .unset, .unset, .unset, .unset, .unset, .unset, .unset, .unset, .unset, .unset, .unset, .unset, .unset, .unset] [(.long (m28).toInt64)]))
              exact J234 _ _ _ X28 N28 eh28 (fun u => absurd u (by omega)) (fun _ => by rw [Int32.toInt_toInt64, hm28, (sp4 (by omega)).2])
            · have iwe3 : ¬ (((cb).toInt : Int) = 2) := fun u => we3 (Int32.toInt_inj.mp u)
              show own_Go p e below s _ _ _ (T25.setTop (mkF m 219 #[.val (.int bp), .val (.int bq), .val (.int br), .val (.int bs), .val (.int bk), .val (.int ca), .val (.int cb), .val (.ref aa), .val (.ref ab), .val (.ref ag), .val (.long e0), .second, .val (.long e1), .second, .val (.long e2), .second, .unset, .unset, .unset, .unset, .unset, .unset, .unset, .unset, .unset, .unset, .unset, .unset, .unset, .unset, .unset, .unset, .unset, .unset, .unset, .unset, .unset, .unset] [(.int (2 : Int32)), (.int cb)]))
              refine own_st (fun _ kont => XS.icmpYes X25.here hx rfl (pc0 := 219) (pc' := 231) rfl (hb hby at_219) rfl (feq we3).2 (by decide) (by decide) kont) ?_
              show own_Go p e below s _ _ _ (T25.setTop (mkF m 231 #[.val (.int bp), .val (.int bq), .val (.int br), .val (.int bs), .val (.int bk), .val (.int ca), .val (.int cb), .val (.ref aa), .val (.ref ab), .val (.ref ag), .val (.long e0), .second, .val (.long e1), .second, .val (.long e2), .second, .unset, .unset, .unset, .unset, .unset, .unset, .unset, .unset, .unset, .unset, .unset, .unset, .unset, .unset, .unset, .unset, .unset, .unset, .unset, .unset, .unset, .unset] []))
              refine own_st (fun _ kont => X25.ldc2Long hx hown (mvT hZ (hw _ (List.mem_of_getElem? (i := 6) rfl))) (g := (mkF m 231 #[.val (.int bp), .val (.int bq), .val (.int br), .val (.int bs), .val (.int bk), .val (.int ca), .val (.int cb), .val (.ref aa), .val (.ref ab), .val (.ref ag), .val (.long e0), .second, .val (.long e1), .second, .val (.long e2), .second, .unset, .unset, .unset, .unset, .unset, .unset, .unset, .unset, .unset, .unset, .unset, .unset, .unset, .unset, .unset, .unset, .unset, .unset, .unset, .unset, .unset, .unset] [])) rfl (hb hby at_231) _ kont) ?_
              show own_Go p e below s _ _ _ (T25.setTop (mkF m 234 #[.val (.int bp), .val (.int bq), .val (.int br), .val (.int bs), .val (.int bk), .val (.int ca), .val (.int cb), .val (.ref aa), .val (.ref ab), .val (.ref ag), .val (.long e0), .second, .val (.long e1), .second, .val (.long e2), .second, .unset, .unset, .unset, .unset, .unset, .unset, .unset, .unset, .unset, .unset, .unset, .unset, .unset, .unset, .unset, .unset, .unset, .unset, .unset, .unset, .unset, .unset] [(.long (9223372036854775807 : Int64))]))
              exact J234 _ _ _ X25 N25 e25 (fun _ => by decide) (fun u => absurd u (by omega))
          show own_Go p e below s _ _ _ (T23.setTop (mkF m 188 #[.val (.int bp), .val (.int bq), .val (.int br), .val (.int bs), .val (.int bk), .val (.int ca), .val (.int cb), .val (.ref aa), .val (.ref ab), .val (.ref ag), .val (.long e0), .second, .val (.long e1), .second, .unset, .unset, .unset, .unset, .unset, .unset, .unset, .unset, .unset, .unset, .unset, .unset, .unset, .unset, .unset, .unset, .unset, .unset, .unset, .unset, .unset, .unset, .unset, .unset] [(.int cb)]))
          rcases Classical.em (cb = (0 : Int32)) with we2 | we2
          · have iwe2 : ((cb).toInt : Int) = 0 := congrArg Int32.toInt we2
            show own_Go p e below s _ _ _ (T23.setTop (mkF m 188 #[.val (.int bp), .val (.int bq), .val (.int br), .val (.int bs), .val (.int bk), .val (.int ca), .val (.int cb), .val (.ref aa), .val (.ref ab), .val (.ref ag), .val (.long e0), .second, .val (.long e1), .second, .unset, .unset, .unset, .unset, .unset, .unset, .unset, .unset, .unset, .unset, .unset, .unset, .unset, .unset, .unset, .unset, .unset, .unset, .unset, .unset, .unset, .unset, .unset, .unset] [(.int cb)]))
            refine own_st (fun _ kont => XS.ifNo X23.here hx rfl (hb hby at_188) rfl ((if0 _ _).trans (teq we2).2) kont) ?_
            show own_Go p e below s _ _ _ (T23.setTop (mkF m 191 #[.val (.int bp), .val (.int bq), .val (.int br), .val (.int bs), .val (.int bk), .val (.int ca), .val (.int cb), .val (.ref aa), .val (.ref ab), .val (.ref ag), .val (.long e0), .second, .val (.long e1), .second, .unset, .unset, .unset, .unset, .unset, .unset, .unset, .unset, .unset, .unset, .unset, .unset, .unset, .unset, .unset, .unset, .unset, .unset, .unset, .unset, .unset, .unset, .unset, .unset] []))
            refine own_st (fun _ kont => X23.ldc2Long hx hown (mvT hZ (hw _ (List.mem_of_getElem? (i := 6) rfl))) (g := (mkF m 191 #[.val (.int bp), .val (.int bq), .val (.int br), .val (.int bs), .val (.int bk), .val (.int ca), .val (.int cb), .val (.ref aa), .val (.ref ab), .val (.ref ag), .val (.long e0), .second, .val (.long e1), .second, .unset, .unset, .unset, .unset, .unset, .unset, .unset, .unset, .unset, .unset, .unset, .unset, .unset, .unset, .unset, .unset, .unset, .unset, .unset, .unset, .unset, .unset, .unset, .unset] [])) rfl (hb hby at_191) _ kont) ?_
            show own_Go p e below s _ _ _ (T23.setTop (mkF m 194 #[.val (.int bp), .val (.int bq), .val (.int br), .val (.int bs), .val (.int bk), .val (.int ca), .val (.int cb), .val (.ref aa), .val (.ref ab), .val (.ref ag), .val (.long e0), .second, .val (.long e1), .second, .unset, .unset, .unset, .unset, .unset, .unset, .unset, .unset, .unset, .unset, .unset, .unset, .unset, .unset, .unset, .unset, .unset, .unset, .unset, .unset, .unset, .unset, .unset, .unset] [(.long (9223372036854775807 : Int64))]))
            refine own_st (fun _ kont => XS.goto X23.here hx rfl (pc0 := 194) (pc' := 214) rfl (hb hby at_194) (by decide) (by decide) kont) ?_
            show own_Go p e below s _ _ _ (T23.setTop (mkF m 214 #[.val (.int bp), .val (.int bq), .val (.int br), .val (.int bs), .val (.int bk), .val (.int ca), .val (.int cb), .val (.ref aa), .val (.ref ab), .val (.ref ag), .val (.long e0), .second, .val (.long e1), .second, .unset, .unset, .unset, .unset, .unset, .unset, .unset, .unset, .unset, .unset, .unset, .unset, .unset, .unset, .unset, .unset, .unset, .unset, .unset, .unset, .unset, .unset, .unset, .unset] [(.long (9223372036854775807 : Int64))]))
            exact J214 _ _ _ X23 N23 e23 (fun _ => by decide) (fun u => absurd u (by omega))
          · have iwe2 : ¬ (((cb).toInt : Int) = 0) := fun u => we2 (Int32.toInt_inj.mp u)
            show own_Go p e below s _ _ _ (T23.setTop (mkF m 188 #[.val (.int bp), .val (.int bq), .val (.int br), .val (.int bs), .val (.int bk), .val (.int ca), .val (.int cb), .val (.ref aa), .val (.ref ab), .val (.ref ag), .val (.long e0), .second, .val (.long e1), .second, .unset, .unset, .unset, .unset, .unset, .unset, .unset, .unset, .unset, .unset, .unset, .unset, .unset, .unset, .unset, .unset, .unset, .unset, .unset, .unset, .unset, .unset, .unset, .unset] [(.int cb)]))
            refine own_st (fun _ kont => XS.ifYes X23.here hx rfl (pc0 := 188) (pc' := 197) rfl (hb hby at_188) rfl ((if0 _ _).trans (feq we2).2) (by decide) (by decide) kont) ?_
            show own_Go p e below s _ _ _ (T23.setTop (mkF m 197 #[.val (.int bp), .val (.int bq), .val (.int br), .val (.int bs), .val (.int bk), .val (.int ca), .val (.int cb), .val (.ref aa), .val (.ref ab), .val (.ref ag), .val (.long e0), .second, .val (.long e1), .second, .unset, .unset, .unset, .unset, .unset, .unset, .unset, .unset, .unset, .unset, .unset, .unset, .unset, .unset, .unset, .unset, .unset, .unset, .unset, .unset, .unset, .unset, .unset, .unset] []))
            refine own_st (fun _ kont => XS.iload X23.here hx rfl (hb hby at_197) rfl kont) ?_
            show own_Go p e below s _ _ _ (T23.setTop (mkF m 199 #[.val (.int bp), .val (.int bq), .val (.int br), .val (.int bs), .val (.int bk), .val (.int ca), .val (.int cb), .val (.ref aa), .val (.ref ab), .val (.ref ag), .val (.long e0), .second, .val (.long e1), .second, .unset, .unset, .unset, .unset, .unset, .unset, .unset, .unset, .unset, .unset, .unset, .unset, .unset, .unset, .unset, .unset, .unset, .unset, .unset, .unset, .unset, .unset, .unset, .unset] [(.int cb)]))
            refine own_st (fun _ kont => XS.iconst X23.here hx rfl (hb hby at_199) kont) ?_
            show own_Go p e below s _ _ _ (T23.setTop (mkF m 200 #[.val (.int bp), .val (.int bq), .val (.int br), .val (.int bs), .val (.int bk), .val (.int ca), .val (.int cb), .val (.ref aa), .val (.ref ab), .val (.ref ag), .val (.long e0), .second, .val (.long e1), .second, .unset, .unset, .unset, .unset, .unset, .unset, .unset, .unset, .unset, .unset, .unset, .unset, .unset, .unset, .unset, .unset, .unset, .unset, .unset, .unset, .unset, .unset, .unset, .unset] [(.int (1 : Int32)), (.int cb)]))
            rcases Classical.em (cb = (1 : Int32)) with ve2 | ve2
            · have ive2 : ((cb).toInt : Int) = 1 := congrArg Int32.toInt ve2
              show own_Go p e below s _ _ _ (T23.setTop (mkF m 200 #[.val (.int bp), .val (.int bq), .val (.int br), .val (.int bs), .val (.int bk), .val (.int ca), .val (.int cb), .val (.ref aa), .val (.ref ab), .val (.ref ag), .val (.long e0), .second, .val (.long e1), .second, .unset, .unset, .unset, .unset, .unset, .unset, .unset, .unset, .unset, .unset, .unset, .unset, .unset, .unset, .unset, .unset, .unset, .unset, .unset, .unset, .unset, .unset, .unset, .unset] [(.int (1 : Int32)), (.int cb)]))
              refine own_st (fun _ kont => XS.icmpNo X23.here hx rfl (hb hby at_200) rfl (teq ve2).2 kont) ?_
              show own_Go p e below s _ _ _ (T23.setTop (mkF m 203 #[.val (.int bp), .val (.int bq), .val (.int br), .val (.int bs), .val (.int bk), .val (.int ca), .val (.int cb), .val (.ref aa), .val (.ref ab), .val (.ref ag), .val (.long e0), .second, .val (.long e1), .second, .unset, .unset, .unset, .unset, .unset, .unset, .unset, .unset, .unset, .unset, .unset, .unset, .unset, .unset, .unset, .unset, .unset, .unset, .unset, .unset, .unset, .unset, .unset, .unset] []))
              refine own_st (fun _ kont => XS.iloadN X23.here hx rfl (hb hby at_203) rfl kont) ?_
              show own_Go p e below s _ _ _ (T23.setTop (mkF m 204 #[.val (.int bp), .val (.int bq), .val (.int br), .val (.int bs), .val (.int bk), .val (.int ca), .val (.int cb), .val (.ref aa), .val (.ref ab), .val (.ref ag), .val (.long e0), .second, .val (.long e1), .second, .unset, .unset, .unset, .unset, .unset, .unset, .unset, .unset, .unset, .unset, .unset, .unset, .unset, .unset, .unset, .unset, .unset, .unset, .unset, .unset, .unset, .unset, .unset, .unset] [(.int br)]))
              refine own_st (fun _ kont => XS.i2l X23.here hx rfl (hb hby at_204) rfl kont) ?_
              show own_Go p e below s _ _ _ (T23.setTop (mkF m 205 #[.val (.int bp), .val (.int bq), .val (.int br), .val (.int bs), .val (.int bk), .val (.int ca), .val (.int cb), .val (.ref aa), .val (.ref ab), .val (.ref ag), .val (.long e0), .second, .val (.long e1), .second, .unset, .unset, .unset, .unset, .unset, .unset, .unset, .unset, .unset, .unset, .unset, .unset, .unset, .unset, .unset, .unset, .unset, .unset, .unset, .unset, .unset, .unset, .unset, .unset] [(.long (br).toInt64)]))
              refine own_st (fun _ kont => XS.goto X23.here hx rfl (pc0 := 205) (pc' := 214) rfl (hb hby at_205) (by decide) (by decide) kont) ?_
              show own_Go p e below s _ _ _ (T23.setTop (mkF m 214 #[.val (.int bp), .val (.int bq), .val (.int br), .val (.int bs), .val (.int bk), .val (.int ca), .val (.int cb), .val (.ref aa), .val (.ref ab), .val (.ref ag), .val (.long e0), .second, .val (.long e1), .second, .unset, .unset, .unset, .unset, .unset, .unset, .unset, .unset, .unset, .unset, .unset, .unset, .unset, .unset, .unset, .unset, .unset, .unset, .unset, .unset, .unset, .unset, .unset, .unset] [(.long (br).toInt64)]))
              exact J214 _ _ _ X23 N23 e23 (fun u => absurd u (by omega)) (fun _ => by rw [Int32.toInt_toInt64, sp3 (by omega)])
            · have ive2 : ¬ (((cb).toInt : Int) = 1) := fun u => ve2 (Int32.toInt_inj.mp u)
              show own_Go p e below s _ _ _ (T23.setTop (mkF m 200 #[.val (.int bp), .val (.int bq), .val (.int br), .val (.int bs), .val (.int bk), .val (.int ca), .val (.int cb), .val (.ref aa), .val (.ref ab), .val (.ref ag), .val (.long e0), .second, .val (.long e1), .second, .unset, .unset, .unset, .unset, .unset, .unset, .unset, .unset, .unset, .unset, .unset, .unset, .unset, .unset, .unset, .unset, .unset, .unset, .unset, .unset, .unset, .unset, .unset, .unset] [(.int (1 : Int32)), (.int cb)]))
              refine own_st (fun _ kont => XS.icmpYes X23.here hx rfl (pc0 := 200) (pc' := 208) rfl (hb hby at_200) rfl (feq ve2).2 (by decide) (by decide) kont) ?_
              show own_Go p e below s _ _ _ (T23.setTop (mkF m 208 #[.val (.int bp), .val (.int bq), .val (.int br), .val (.int bs), .val (.int bk), .val (.int ca), .val (.int cb), .val (.ref aa), .val (.ref ab), .val (.ref ag), .val (.long e0), .second, .val (.long e1), .second, .unset, .unset, .unset, .unset, .unset, .unset, .unset, .unset, .unset, .unset, .unset, .unset, .unset, .unset, .unset, .unset, .unset, .unset, .unset, .unset, .unset, .unset, .unset, .unset] []))
              refine own_st (fun _ kont => XS.iloadN X23.here hx rfl (hb hby at_208) rfl kont) ?_
              show own_Go p e below s _ _ _ (T23.setTop (mkF m 209 #[.val (.int bp), .val (.int bq), .val (.int br), .val (.int bs), .val (.int bk), .val (.int ca), .val (.int cb), .val (.ref aa), .val (.ref ab), .val (.ref ag), .val (.long e0), .second, .val (.long e1), .second, .unset, .unset, .unset, .unset, .unset, .unset, .unset, .unset, .unset, .unset, .unset, .unset, .unset, .unset, .unset, .unset, .unset, .unset, .unset, .unset, .unset, .unset, .unset, .unset] [(.int br)]))
              refine own_st (fun _ kont => XS.iloadN X23.here hx rfl (hb hby at_209) rfl kont) ?_
              show own_Go p e below s _ _ _ (T23.setTop (mkF m 210 #[.val (.int bp), .val (.int bq), .val (.int br), .val (.int bs), .val (.int bk), .val (.int ca), .val (.int cb), .val (.ref aa), .val (.ref ab), .val (.ref ag), .val (.long e0), .second, .val (.long e1), .second, .unset, .unset, .unset, .unset, .unset, .unset, .unset, .unset, .unset, .unset, .unset, .unset, .unset, .unset, .unset, .unset, .unset, .unset, .unset, .unset, .unset, .unset, .unset, .unset] [(.int bs), (.int br)]))
              refine own_cS X23 hx hml hZ hown (hw _ (List.mem_of_getElem? (i := 18) rfl)) (hw _ (List.mem_of_getElem? (i := 19) rfl)) (hw _ (List.mem_of_getElem? (i := 9) rfl)) (hw _ (List.mem_of_getElem? (i := 20) rfl)) (by decide) (own_rm1 l Z a0 hw br bs T20.heap n0 sz20) e23 (by decide) (W := 0) (by decide) (g := (mkF m 210 #[.val (.int bp), .val (.int bq), .val (.int br), .val (.int bs), .val (.int bk), .val (.int ca), .val (.int cb), .val (.ref aa), .val (.ref ab), .val (.ref ag), .val (.long e0), .second, .val (.long e1), .second, .unset, .unset, .unset, .unset, .unset, .unset, .unset, .unset, .unset, .unset, .unset, .unset, .unset, .unset, .unset, .unset, .unset, .unset, .unset, .unset, .unset, .unset, .unset, .unset] [(.int bs), (.int br)])) rfl rfl own_pd0 (argsL := [(.int br), (.int bs)]) (rest := []) rfl rfl rfl (by show 2 * 0 + _ ≤ _; exact Nat.le_of_eq rfl) (hb hby at_210) (by decide) (by decide) ?_
              intro T26 L26 v26 X26 hQ26
              obtain ⟨⟨m26, rfl, hm26⟩, eh26, le26⟩ := hQ26
              have N26 := own_nil N23 le26
              show own_Go p e below s _ _ _ (T26.setTop (mkF m 213 #[.val (.int bp), .val (.int bq), .val (.int br), .val (.int bs), .val (.int bk), .val (.int ca), .val (.int cb), .val (.ref aa), .val (.ref ab), .val (.ref ag), .val (.long e0), .second, .val (.long e1), .second, .unset, .unset, .unset, .unset, .unset, .unset, .unset, .unset, .unset, .unset, .unset, .unset, .unset, .unset, .unset, .unset, .unset, .unset, .unset, .unset, .unset, .unset, .unset, .unset] [(.int m26)]))
              refine own_st (fun _ kont => XS.i2l X26.here hx rfl (hb hby at_213) rfl kont) ?_
              show own_Go p e below s _ _ _ (T26.setTop (mkF m 214 #[.val (.int bp), .val (.int bq), .val (.int br), .val (.int bs), .val (.int bk), .val (.int ca), .val (.int cb), .val (.ref aa), .val (.ref ab), .val (.ref ag), .val (.long e0), .second, .val (.long e1), .second, .unset, .unset, .unset, .unset, .unset, .unset, .unset, .unset, .unset, .unset, .unset, .unset, .unset, .unset, .unset, .unset, .unset, .unset, .unset, .unset, .unset, .unset, .unset, .unset] [(.long (m26).toInt64)]))
              exact J214 _ _ _ X26 N26 eh26 (fun u => absurd u (by omega)) (fun _ => by rw [Int32.toInt_toInt64, hm26, (sp4 (by omega)).1])
        show own_Go p e below s _ _ _ (T21.setTop (mkF m 169 #[.val (.int bp), .val (.int bq), .val (.int br), .val (.int bs), .val (.int bk), .val (.int ca), .val (.int cb), .val (.ref aa), .val (.ref ab), .val (.ref ag), .val (.long e0), .second, .unset, .unset, .unset, .unset, .unset, .unset, .unset, .unset, .unset, .unset, .unset, .unset, .unset, .unset, .unset, .unset, .unset, .unset, .unset, .unset, .unset, .unset, .unset, .unset, .unset, .unset] [(.int (2 : Int32)), (.int ca)]))
        rcases Classical.em (ca = (2 : Int32)) with we1 | we1
        · have iwe1 : ((ca).toInt : Int) = 2 := congrArg Int32.toInt we1
          show own_Go p e below s _ _ _ (T21.setTop (mkF m 169 #[.val (.int bp), .val (.int bq), .val (.int br), .val (.int bs), .val (.int bk), .val (.int ca), .val (.int cb), .val (.ref aa), .val (.ref ab), .val (.ref ag), .val (.long e0), .second, .unset, .unset, .unset, .unset, .unset, .unset, .unset, .unset, .unset, .unset, .unset, .unset, .unset, .unset, .unset, .unset, .unset, .unset, .unset, .unset, .unset, .unset, .unset, .unset, .unset, .unset] [(.int (2 : Int32)), (.int ca)]))
          refine own_st (fun _ kont => XS.icmpNo X21.here hx rfl (hb hby at_169) rfl (teq we1).2 kont) ?_
          show own_Go p e below s _ _ _ (T21.setTop (mkF m 172 #[.val (.int bp), .val (.int bq), .val (.int br), .val (.int bs), .val (.int bk), .val (.int ca), .val (.int cb), .val (.ref aa), .val (.ref ab), .val (.ref ag), .val (.long e0), .second, .unset, .unset, .unset, .unset, .unset, .unset, .unset, .unset, .unset, .unset, .unset, .unset, .unset, .unset, .unset, .unset, .unset, .unset, .unset, .unset, .unset, .unset, .unset, .unset, .unset, .unset] []))
          refine own_st (fun _ kont => XS.iloadN X21.here hx rfl (hb hby at_172) rfl kont) ?_
          show own_Go p e below s _ _ _ (T21.setTop (mkF m 173 #[.val (.int bp), .val (.int bq), .val (.int br), .val (.int bs), .val (.int bk), .val (.int ca), .val (.int cb), .val (.ref aa), .val (.ref ab), .val (.ref ag), .val (.long e0), .second, .unset, .unset, .unset, .unset, .unset, .unset, .unset, .unset, .unset, .unset, .unset, .unset, .unset, .unset, .unset, .unset, .unset, .unset, .unset, .unset, .unset, .unset, .unset, .unset, .unset, .unset] [(.int bp)]))
          refine own_st (fun _ kont => XS.iloadN X21.here hx rfl (hb hby at_173) rfl kont) ?_
          show own_Go p e below s _ _ _ (T21.setTop (mkF m 174 #[.val (.int bp), .val (.int bq), .val (.int br), .val (.int bs), .val (.int bk), .val (.int ca), .val (.int cb), .val (.ref aa), .val (.ref ab), .val (.ref ag), .val (.long e0), .second, .unset, .unset, .unset, .unset, .unset, .unset, .unset, .unset, .unset, .unset, .unset, .unset, .unset, .unset, .unset, .unset, .unset, .unset, .unset, .unset, .unset, .unset, .unset, .unset, .unset, .unset] [(.int bq), (.int bp)]))
          refine own_cS X21 hx hml hZ hown (hw _ (List.mem_of_getElem? (i := 21) rfl)) (hw _ (List.mem_of_getElem? (i := 22) rfl)) (hw _ (List.mem_of_getElem? (i := 9) rfl)) (hw _ (List.mem_of_getElem? (i := 23) rfl)) (by decide) (own_rm2 l Z a0 hw bp bq T20.heap n0 sz20) e21 (by decide) (W := 0) (by decide) (g := (mkF m 174 #[.val (.int bp), .val (.int bq), .val (.int br), .val (.int bs), .val (.int bk), .val (.int ca), .val (.int cb), .val (.ref aa), .val (.ref ab), .val (.ref ag), .val (.long e0), .second, .unset, .unset, .unset, .unset, .unset, .unset, .unset, .unset, .unset, .unset, .unset, .unset, .unset, .unset, .unset, .unset, .unset, .unset, .unset, .unset, .unset, .unset, .unset, .unset, .unset, .unset] [(.int bq), (.int bp)])) rfl rfl own_pd0 (argsL := [(.int bp), (.int bq)]) (rest := []) rfl rfl rfl (by show 2 * 0 + _ ≤ _; exact Nat.le_of_eq rfl) (hb hby at_174) (by decide) (by decide) ?_
          intro T24 L24 v24 X24 hQ24
          obtain ⟨⟨m24, rfl, hm24⟩, eh24, le24⟩ := hQ24
          have N24 := own_nil N21 le24
          show own_Go p e below s _ _ _ (T24.setTop (mkF m 177 #[.val (.int bp), .val (.int bq), .val (.int br), .val (.int bs), .val (.int bk), .val (.int ca), .val (.int cb), .val (.ref aa), .val (.ref ab), .val (.ref ag), .val (.long e0), .second, .unset, .unset, .unset, .unset, .unset, .unset, .unset, .unset, .unset, .unset, .unset, .unset, .unset, .unset, .unset, .unset, .unset, .unset, .unset, .unset, .unset, .unset, .unset, .unset, .unset, .unset] [(.int m24)]))
          refine own_st (fun _ kont => XS.i2l X24.here hx rfl (hb hby at_177) rfl kont) ?_
          show own_Go p e below s _ _ _ (T24.setTop (mkF m 178 #[.val (.int bp), .val (.int bq), .val (.int br), .val (.int bs), .val (.int bk), .val (.int ca), .val (.int cb), .val (.ref aa), .val (.ref ab), .val (.ref ag), .val (.long e0), .second, .unset, .unset, .unset, .unset, .unset, .unset, .unset, .unset, .unset, .unset, .unset, .unset, .unset, .unset, .unset, .unset, .unset, .unset, .unset, .unset, .unset, .unset, .unset, .unset, .unset, .unset] [(.long (m24).toInt64)]))
          refine own_st (fun _ kont => XS.goto X24.here hx rfl (pc0 := 178) (pc' := 184) rfl (hb hby at_178) (by decide) (by decide) kont) ?_
          show own_Go p e below s _ _ _ (T24.setTop (mkF m 184 #[.val (.int bp), .val (.int bq), .val (.int br), .val (.int bs), .val (.int bk), .val (.int ca), .val (.int cb), .val (.ref aa), .val (.ref ab), .val (.ref ag), .val (.long e0), .second, .unset, .unset, .unset, .unset, .unset, .unset, .unset, .unset, .unset, .unset, .unset, .unset, .unset, .unset, .unset, .unset, .unset, .unset, .unset, .unset, .unset, .unset, .unset, .unset, .unset, .unset] [(.long (m24).toInt64)]))
          exact J184 _ _ _ X24 N24 eh24 (fun u => absurd u (by omega)) (fun _ => by rw [Int32.toInt_toInt64, hm24, (sp2 (by omega)).2])
        · have iwe1 : ¬ (((ca).toInt : Int) = 2) := fun u => we1 (Int32.toInt_inj.mp u)
          show own_Go p e below s _ _ _ (T21.setTop (mkF m 169 #[.val (.int bp), .val (.int bq), .val (.int br), .val (.int bs), .val (.int bk), .val (.int ca), .val (.int cb), .val (.ref aa), .val (.ref ab), .val (.ref ag), .val (.long e0), .second, .unset, .unset, .unset, .unset, .unset, .unset, .unset, .unset, .unset, .unset, .unset, .unset, .unset, .unset, .unset, .unset, .unset, .unset, .unset, .unset, .unset, .unset, .unset, .unset, .unset, .unset] [(.int (2 : Int32)), (.int ca)]))
          refine own_st (fun _ kont => XS.icmpYes X21.here hx rfl (pc0 := 169) (pc' := 181) rfl (hb hby at_169) rfl (feq we1).2 (by decide) (by decide) kont) ?_
          show own_Go p e below s _ _ _ (T21.setTop (mkF m 181 #[.val (.int bp), .val (.int bq), .val (.int br), .val (.int bs), .val (.int bk), .val (.int ca), .val (.int cb), .val (.ref aa), .val (.ref ab), .val (.ref ag), .val (.long e0), .second, .unset, .unset, .unset, .unset, .unset, .unset, .unset, .unset, .unset, .unset, .unset, .unset, .unset, .unset, .unset, .unset, .unset, .unset, .unset, .unset, .unset, .unset, .unset, .unset, .unset, .unset] []))
          refine own_st (fun _ kont => X21.ldc2Long hx hown (mvT hZ (hw _ (List.mem_of_getElem? (i := 6) rfl))) (g := (mkF m 181 #[.val (.int bp), .val (.int bq), .val (.int br), .val (.int bs), .val (.int bk), .val (.int ca), .val (.int cb), .val (.ref aa), .val (.ref ab), .val (.ref ag), .val (.long e0), .second, .unset, .unset, .unset, .unset, .unset, .unset, .unset, .unset, .unset, .unset, .unset, .unset, .unset, .unset, .unset, .unset, .unset, .unset, .unset, .unset, .unset, .unset, .unset, .unset, .unset, .unset] [])) rfl (hb hby at_181) _ kont) ?_
          show own_Go p e below s _ _ _ (T21.setTop (mkF m 184 #[.val (.int bp), .val (.int bq), .val (.int br), .val (.int bs), .val (.int bk), .val (.int ca), .val (.int cb), .val (.ref aa), .val (.ref ab), .val (.ref ag), .val (.long e0), .second, .unset, .unset, .unset, .unset, .unset, .unset, .unset, .unset, .unset, .unset, .unset, .unset, .unset, .unset, .unset, .unset, .unset, .unset, .unset, .unset, .unset, .unset, .unset, .unset, .unset, .unset] [(.long (9223372036854775807 : Int64))]))
          exact J184 _ _ _ X21 N21 e21 (fun _ => by decide) (fun u => absurd u (by omega))
      show own_Go p e below s _ _ _ (T20.setTop (mkF m 138 #[.val (.int bp), .val (.int bq), .val (.int br), .val (.int bs), .val (.int bk), .val (.int ca), .val (.int cb), .val (.ref aa), .val (.ref ab), .val (.ref ag), .unset, .unset, .unset, .unset, .unset, .unset, .unset, .unset, .unset, .unset, .unset, .unset, .unset, .unset, .unset, .unset, .unset, .unset, .unset, .unset, .unset, .unset, .unset, .unset, .unset, .unset, .unset, .unset] [(.int ca)]))
      rcases Classical.em (ca = (0 : Int32)) with we0 | we0
      · have iwe0 : ((ca).toInt : Int) = 0 := congrArg Int32.toInt we0
        show own_Go p e below s _ _ _ (T20.setTop (mkF m 138 #[.val (.int bp), .val (.int bq), .val (.int br), .val (.int bs), .val (.int bk), .val (.int ca), .val (.int cb), .val (.ref aa), .val (.ref ab), .val (.ref ag), .unset, .unset, .unset, .unset, .unset, .unset, .unset, .unset, .unset, .unset, .unset, .unset, .unset, .unset, .unset, .unset, .unset, .unset, .unset, .unset, .unset, .unset, .unset, .unset, .unset, .unset, .unset, .unset] [(.int ca)]))
        refine own_st (fun _ kont => XS.ifNo X20.here hx rfl (hb hby at_138) rfl ((if0 _ _).trans (teq we0).2) kont) ?_
        show own_Go p e below s _ _ _ (T20.setTop (mkF m 141 #[.val (.int bp), .val (.int bq), .val (.int br), .val (.int bs), .val (.int bk), .val (.int ca), .val (.int cb), .val (.ref aa), .val (.ref ab), .val (.ref ag), .unset, .unset, .unset, .unset, .unset, .unset, .unset, .unset, .unset, .unset, .unset, .unset, .unset, .unset, .unset, .unset, .unset, .unset, .unset, .unset, .unset, .unset, .unset, .unset, .unset, .unset, .unset, .unset] []))
        refine own_st (fun _ kont => X20.ldc2Long hx hown (mvT hZ (hw _ (List.mem_of_getElem? (i := 6) rfl))) (g := (mkF m 141 #[.val (.int bp), .val (.int bq), .val (.int br), .val (.int bs), .val (.int bk), .val (.int ca), .val (.int cb), .val (.ref aa), .val (.ref ab), .val (.ref ag), .unset, .unset, .unset, .unset, .unset, .unset, .unset, .unset, .unset, .unset, .unset, .unset, .unset, .unset, .unset, .unset, .unset, .unset, .unset, .unset, .unset, .unset, .unset, .unset, .unset, .unset, .unset, .unset] [])) rfl (hb hby at_141) _ kont) ?_
        show own_Go p e below s _ _ _ (T20.setTop (mkF m 144 #[.val (.int bp), .val (.int bq), .val (.int br), .val (.int bs), .val (.int bk), .val (.int ca), .val (.int cb), .val (.ref aa), .val (.ref ab), .val (.ref ag), .unset, .unset, .unset, .unset, .unset, .unset, .unset, .unset, .unset, .unset, .unset, .unset, .unset, .unset, .unset, .unset, .unset, .unset, .unset, .unset, .unset, .unset, .unset, .unset, .unset, .unset, .unset, .unset] [(.long (9223372036854775807 : Int64))]))
        refine own_st (fun _ kont => XS.goto X20.here hx rfl (pc0 := 144) (pc' := 164) rfl (hb hby at_144) (by decide) (by decide) kont) ?_
        show own_Go p e below s _ _ _ (T20.setTop (mkF m 164 #[.val (.int bp), .val (.int bq), .val (.int br), .val (.int bs), .val (.int bk), .val (.int ca), .val (.int cb), .val (.ref aa), .val (.ref ab), .val (.ref ag), .unset, .unset, .unset, .unset, .unset, .unset, .unset, .unset, .unset, .unset, .unset, .unset, .unset, .unset, .unset, .unset, .unset, .unset, .unset, .unset, .unset, .unset, .unset, .unset, .unset, .unset, .unset, .unset] [(.long (9223372036854775807 : Int64))]))
        exact J164 _ _ _ X20 N20 (rfl : T20.heap = T20.heap) (fun _ => by decide) (fun u => absurd u (by omega))
      · have iwe0 : ¬ (((ca).toInt : Int) = 0) := fun u => we0 (Int32.toInt_inj.mp u)
        show own_Go p e below s _ _ _ (T20.setTop (mkF m 138 #[.val (.int bp), .val (.int bq), .val (.int br), .val (.int bs), .val (.int bk), .val (.int ca), .val (.int cb), .val (.ref aa), .val (.ref ab), .val (.ref ag), .unset, .unset, .unset, .unset, .unset, .unset, .unset, .unset, .unset, .unset, .unset, .unset, .unset, .unset, .unset, .unset, .unset, .unset, .unset, .unset, .unset, .unset, .unset, .unset, .unset, .unset, .unset, .unset] [(.int ca)]))
        refine own_st (fun _ kont => XS.ifYes X20.here hx rfl (pc0 := 138) (pc' := 147) rfl (hb hby at_138) rfl ((if0 _ _).trans (feq we0).2) (by decide) (by decide) kont) ?_
        show own_Go p e below s _ _ _ (T20.setTop (mkF m 147 #[.val (.int bp), .val (.int bq), .val (.int br), .val (.int bs), .val (.int bk), .val (.int ca), .val (.int cb), .val (.ref aa), .val (.ref ab), .val (.ref ag), .unset, .unset, .unset, .unset, .unset, .unset, .unset, .unset, .unset, .unset, .unset, .unset, .unset, .unset, .unset, .unset, .unset, .unset, .unset, .unset, .unset, .unset, .unset, .unset, .unset, .unset, .unset, .unset] []))
        refine own_st (fun _ kont => XS.iload X20.here hx rfl (hb hby at_147) rfl kont) ?_
        show own_Go p e below s _ _ _ (T20.setTop (mkF m 149 #[.val (.int bp), .val (.int bq), .val (.int br), .val (.int bs), .val (.int bk), .val (.int ca), .val (.int cb), .val (.ref aa), .val (.ref ab), .val (.ref ag), .unset, .unset, .unset, .unset, .unset, .unset, .unset, .unset, .unset, .unset, .unset, .unset, .unset, .unset, .unset, .unset, .unset, .unset, .unset, .unset, .unset, .unset, .unset, .unset, .unset, .unset, .unset, .unset] [(.int ca)]))
        refine own_st (fun _ kont => XS.iconst X20.here hx rfl (hb hby at_149) kont) ?_
        show own_Go p e below s _ _ _ (T20.setTop (mkF m 150 #[.val (.int bp), .val (.int bq), .val (.int br), .val (.int bs), .val (.int bk), .val (.int ca), .val (.int cb), .val (.ref aa), .val (.ref ab), .val (.ref ag), .unset, .unset, .unset, .unset, .unset, .unset, .unset, .unset, .unset, .unset, .unset, .unset, .unset, .unset, .unset, .unset, .unset, .unset, .unset, .unset, .unset, .unset, .unset, .unset, .unset, .unset, .unset, .unset] [(.int (1 : Int32)), (.int ca)]))
        rcases Classical.em (ca = (1 : Int32)) with ve0 | ve0
        · have ive0 : ((ca).toInt : Int) = 1 := congrArg Int32.toInt ve0
          show own_Go p e below s _ _ _ (T20.setTop (mkF m 150 #[.val (.int bp), .val (.int bq), .val (.int br), .val (.int bs), .val (.int bk), .val (.int ca), .val (.int cb), .val (.ref aa), .val (.ref ab), .val (.ref ag), .unset, .unset, .unset, .unset, .unset, .unset, .unset, .unset, .unset, .unset, .unset, .unset, .unset, .unset, .unset, .unset, .unset, .unset, .unset, .unset, .unset, .unset, .unset, .unset, .unset, .unset, .unset, .unset] [(.int (1 : Int32)), (.int ca)]))
          refine own_st (fun _ kont => XS.icmpNo X20.here hx rfl (hb hby at_150) rfl (teq ve0).2 kont) ?_
          show own_Go p e below s _ _ _ (T20.setTop (mkF m 153 #[.val (.int bp), .val (.int bq), .val (.int br), .val (.int bs), .val (.int bk), .val (.int ca), .val (.int cb), .val (.ref aa), .val (.ref ab), .val (.ref ag), .unset, .unset, .unset, .unset, .unset, .unset, .unset, .unset, .unset, .unset, .unset, .unset, .unset, .unset, .unset, .unset, .unset, .unset, .unset, .unset, .unset, .unset, .unset, .unset, .unset, .unset, .unset, .unset] []))
          refine own_st (fun _ kont => XS.iloadN X20.here hx rfl (hb hby at_153) rfl kont) ?_
          show own_Go p e below s _ _ _ (T20.setTop (mkF m 154 #[.val (.int bp), .val (.int bq), .val (.int br), .val (.int bs), .val (.int bk), .val (.int ca), .val (.int cb), .val (.ref aa), .val (.ref ab), .val (.ref ag), .unset, .unset, .unset, .unset, .unset, .unset, .unset, .unset, .unset, .unset, .unset, .unset, .unset, .unset, .unset, .unset, .unset, .unset, .unset, .unset, .unset, .unset, .unset, .unset, .unset, .unset, .unset, .unset] [(.int bp)]))
          refine own_st (fun _ kont => XS.i2l X20.here hx rfl (hb hby at_154) rfl kont) ?_
          show own_Go p e below s _ _ _ (T20.setTop (mkF m 155 #[.val (.int bp), .val (.int bq), .val (.int br), .val (.int bs), .val (.int bk), .val (.int ca), .val (.int cb), .val (.ref aa), .val (.ref ab), .val (.ref ag), .unset, .unset, .unset, .unset, .unset, .unset, .unset, .unset, .unset, .unset, .unset, .unset, .unset, .unset, .unset, .unset, .unset, .unset, .unset, .unset, .unset, .unset, .unset, .unset, .unset, .unset, .unset, .unset] [(.long (bp).toInt64)]))
          refine own_st (fun _ kont => XS.goto X20.here hx rfl (pc0 := 155) (pc' := 164) rfl (hb hby at_155) (by decide) (by decide) kont) ?_
          show own_Go p e below s _ _ _ (T20.setTop (mkF m 164 #[.val (.int bp), .val (.int bq), .val (.int br), .val (.int bs), .val (.int bk), .val (.int ca), .val (.int cb), .val (.ref aa), .val (.ref ab), .val (.ref ag), .unset, .unset, .unset, .unset, .unset, .unset, .unset, .unset, .unset, .unset, .unset, .unset, .unset, .unset, .unset, .unset, .unset, .unset, .unset, .unset, .unset, .unset, .unset, .unset, .unset, .unset, .unset, .unset] [(.long (bp).toInt64)]))
          exact J164 _ _ _ X20 N20 (rfl : T20.heap = T20.heap) (fun u => absurd u (by omega)) (fun _ => by rw [Int32.toInt_toInt64, sp1 (by omega)])
        · have ive0 : ¬ (((ca).toInt : Int) = 1) := fun u => ve0 (Int32.toInt_inj.mp u)
          show own_Go p e below s _ _ _ (T20.setTop (mkF m 150 #[.val (.int bp), .val (.int bq), .val (.int br), .val (.int bs), .val (.int bk), .val (.int ca), .val (.int cb), .val (.ref aa), .val (.ref ab), .val (.ref ag), .unset, .unset, .unset, .unset, .unset, .unset, .unset, .unset, .unset, .unset, .unset, .unset, .unset, .unset, .unset, .unset, .unset, .unset, .unset, .unset, .unset, .unset, .unset, .unset, .unset, .unset, .unset, .unset] [(.int (1 : Int32)), (.int ca)]))
          refine own_st (fun _ kont => XS.icmpYes X20.here hx rfl (pc0 := 150) (pc' := 158) rfl (hb hby at_150) rfl (feq ve0).2 (by decide) (by decide) kont) ?_
          show own_Go p e below s _ _ _ (T20.setTop (mkF m 158 #[.val (.int bp), .val (.int bq), .val (.int br), .val (.int bs), .val (.int bk), .val (.int ca), .val (.int cb), .val (.ref aa), .val (.ref ab), .val (.ref ag), .unset, .unset, .unset, .unset, .unset, .unset, .unset, .unset, .unset, .unset, .unset, .unset, .unset, .unset, .unset, .unset, .unset, .unset, .unset, .unset, .unset, .unset, .unset, .unset, .unset, .unset, .unset, .unset] []))
          refine own_st (fun _ kont => XS.iloadN X20.here hx rfl (hb hby at_158) rfl kont) ?_
          show own_Go p e below s _ _ _ (T20.setTop (mkF m 159 #[.val (.int bp), .val (.int bq), .val (.int br), .val (.int bs), .val (.int bk), .val (.int ca), .val (.int cb), .val (.ref aa), .val (.ref ab), .val (.ref ag), .unset, .unset, .unset, .unset, .unset, .unset, .unset, .unset, .unset, .unset, .unset, .unset, .unset, .unset, .unset, .unset, .unset, .unset, .unset, .unset, .unset, .unset, .unset, .unset, .unset, .unset, .unset, .unset] [(.int bp)]))
          refine own_st (fun _ kont => XS.iloadN X20.here hx rfl (hb hby at_159) rfl kont) ?_
          show own_Go p e below s _ _ _ (T20.setTop (mkF m 160 #[.val (.int bp), .val (.int bq), .val (.int br), .val (.int bs), .val (.int bk), .val (.int ca), .val (.int cb), .val (.ref aa), .val (.ref ab), .val (.ref ag), .unset, .unset, .unset, .unset, .unset, .unset, .unset, .unset, .unset, .unset, .unset, .unset, .unset, .unset, .unset, .unset, .unset, .unset, .unset, .unset, .unset, .unset, .unset, .unset, .unset, .unset, .unset, .unset] [(.int bq), (.int bp)]))
          refine own_cS X20 hx hml hZ hown (hw _ (List.mem_of_getElem? (i := 18) rfl)) (hw _ (List.mem_of_getElem? (i := 19) rfl)) (hw _ (List.mem_of_getElem? (i := 9) rfl)) (hw _ (List.mem_of_getElem? (i := 20) rfl)) (by decide) (own_rm1 l Z a0 hw bp bq T20.heap n0 sz20) (rfl : T20.heap = T20.heap) (by decide) (W := 0) (by decide) (g := (mkF m 160 #[.val (.int bp), .val (.int bq), .val (.int br), .val (.int bs), .val (.int bk), .val (.int ca), .val (.int cb), .val (.ref aa), .val (.ref ab), .val (.ref ag), .unset, .unset, .unset, .unset, .unset, .unset, .unset, .unset, .unset, .unset, .unset, .unset, .unset, .unset, .unset, .unset, .unset, .unset, .unset, .unset, .unset, .unset, .unset, .unset, .unset, .unset, .unset, .unset] [(.int bq), (.int bp)])) rfl rfl own_pd0 (argsL := [(.int bp), (.int bq)]) (rest := []) rfl rfl rfl (by show 2 * 0 + _ ≤ _; exact Nat.le_of_eq rfl) (hb hby at_160) (by decide) (by decide) ?_
          intro T22 L22 v22 X22 hQ22
          obtain ⟨⟨m22, rfl, hm22⟩, eh22, le22⟩ := hQ22
          have N22 := own_nil N20 le22
          show own_Go p e below s _ _ _ (T22.setTop (mkF m 163 #[.val (.int bp), .val (.int bq), .val (.int br), .val (.int bs), .val (.int bk), .val (.int ca), .val (.int cb), .val (.ref aa), .val (.ref ab), .val (.ref ag), .unset, .unset, .unset, .unset, .unset, .unset, .unset, .unset, .unset, .unset, .unset, .unset, .unset, .unset, .unset, .unset, .unset, .unset, .unset, .unset, .unset, .unset, .unset, .unset, .unset, .unset, .unset, .unset] [(.int m22)]))
          refine own_st (fun _ kont => XS.i2l X22.here hx rfl (hb hby at_163) rfl kont) ?_
          show own_Go p e below s _ _ _ (T22.setTop (mkF m 164 #[.val (.int bp), .val (.int bq), .val (.int br), .val (.int bs), .val (.int bk), .val (.int ca), .val (.int cb), .val (.ref aa), .val (.ref ab), .val (.ref ag), .unset, .unset, .unset, .unset, .unset, .unset, .unset, .unset, .unset, .unset, .unset, .unset, .unset, .unset, .unset, .unset, .unset, .unset, .unset, .unset, .unset, .unset, .unset, .unset, .unset, .unset, .unset, .unset] [(.long (m22).toInt64)]))
          exact J164 _ _ _ X22 N22 eh22 (fun u => absurd u (by omega)) (fun _ => by rw [Int32.toInt_toInt64, hm22, (sp2 (by omega)).1])
    show own_Go p e below s _ _ _ (T2.setTop (mkF m 68 #[.val (.int bp), .val (.int bq), .val (.int br), .val (.int bs), .val (.int bk), .val (.int ca), .val (.int cb), .val (.ref aa), .unset, .unset, .unset, .unset, .unset, .unset, .unset, .unset, .unset, .unset, .unset, .unset, .unset, .unset, .unset, .unset, .unset, .unset, .unset, .unset, .unset, .unset, .unset, .unset, .unset, .unset, .unset, .unset, .unset, .unset] [(.int cb)]))
    rcases Classical.em (cb = (0 : Int32)) with zxb | zxb
    · have izxb : ((cb).toInt : Int) = 0 := congrArg Int32.toInt zxb
      show own_Go p e below s _ _ _ (T2.setTop (mkF m 68 #[.val (.int bp), .val (.int bq), .val (.int br), .val (.int bs), .val (.int bk), .val (.int ca), .val (.int cb), .val (.ref aa), .unset, .unset, .unset, .unset, .unset, .unset, .unset, .unset, .unset, .unset, .unset, .unset, .unset, .unset, .unset, .unset, .unset, .unset, .unset, .unset, .unset, .unset, .unset, .unset, .unset, .unset, .unset, .unset, .unset, .unset] [(.int cb)]))
      refine own_st (fun _ kont => XS.ifNo X2.here hx rfl (hb hby at_68) rfl ((if0 _ _).trans (teq zxb).2) kont) ?_
      show own_Go p e below s _ _ _ (T2.setTop (mkF m 71 #[.val (.int bp), .val (.int bq), .val (.int br), .val (.int bs), .val (.int bk), .val (.int ca), .val (.int cb), .val (.ref aa), .unset, .unset, .unset, .unset, .unset, .unset, .unset, .unset, .unset, .unset, .unset, .unset, .unset, .unset, .unset, .unset, .unset, .unset, .unset, .unset, .unset, .unset, .unset, .unset, .unset, .unset, .unset, .unset, .unset, .unset] []))
      obtain rfl : nb = 0 := by omega
      show own_Go p e below s _ _ _ (T2.setTop (mkF m 71 #[.val (.int bp), .val (.int bq), .val (.int br), .val (.int bs), .val (.int bk), .val (.int ca), .val (.int cb), .val (.ref aa), .unset, .unset, .unset, .unset, .unset, .unset, .unset, .unset, .unset, .unset, .unset, .unset, .unset, .unset, .unset, .unset, .unset, .unset, .unset, .unset, .unset, .unset, .unset, .unset, .unset, .unset, .unset, .unset, .unset, .unset] []))
      refine own_st (fun _ kont => XS.iconst X2.here hx rfl (hb hby at_71) kont) ?_
      show own_Go p e below s _ _ _ (T2.setTop (mkF m 72 #[.val (.int bp), .val (.int bq), .val (.int br), .val (.int bs), .val (.int bk), .val (.int ca), .val (.int cb), .val (.ref aa), .unset, .unset, .unset, .unset, .unset, .unset, .unset, .unset, .unset, .unset, .unset, .unset, .unset, .unset, .unset, .unset, .unset, .unset, .unset, .unset, .unset, .unset, .unset, .unset, .unset, .unset, .unset, .unset, .unset, .unset] [(.int (0 : Int32))]))
      obtain ⟨T12, h12, xb0, g12, X12, e12, E12, Vxb0, st12⟩ := own_newA X2 hx hZ (hw _ (List.mem_of_getElem? (i := 1) rfl)) (rfl : T2.heap = T2.heap) (g := (mkF m 72 #[.val (.int bp), .val (.int bq), .val (.int br), .val (.int bs), .val (.int bk), .val (.int ca), .val (.int cb), .val (.ref aa), .unset, .unset, .unset, .unset, .unset, .unset, .unset, .unset, .unset, .unset, .unset, .unset, .unset, .unset, .unset, .unset, .unset, .unset, .unset, .unset, .unset, .unset, .unset, .unset, .unset, .unset, .unset, .unset, .unset, .unset] [(.int (0 : Int32))])) rfl (hb hby at_72) rfl (n := 0) (cap := 2) (by decide) (by decide) (by decide) (by decide) (by decide)
      replace Vxb0 : own_Av Z h12 xb0 .int 0 (fun _ => .int 0) := Vxb0
      have ne_aa_xb0 : aa ≠ xb0 := Nat.ne_of_lt (Nat.lt_of_lt_of_eq Va.lt g12.symm)
      have fr_xb0 : n0 ≤ xb0 := Nat.le_trans sz2 (Nat.le_of_eq g12.symm)
      have Va_12 := Va.ext E12
      have sz12 := Nat.le_trans sz2 E12.1
      refine own_st st12 ?_
      show own_Go p e below s _ _ _ (T12.setTop (mkF m 74 #[.val (.int bp), .val (.int bq), .val (.int br), .val (.int bs), .val (.int bk), .val (.int ca), .val (.int cb), .val (.ref aa), .unset, .unset, .unset, .unset, .unset, .unset, .unset, .unset, .unset, .unset, .unset, .unset, .unset, .unset, .unset, .unset, .unset, .unset, .unset, .unset, .unset, .unset, .unset, .unset, .unset, .unset, .unset, .unset, .unset, .unset] [(.ref xb0)]))
      refine own_st (fun _ kont => XS.goto X12.here hx rfl (pc0 := 74) (pc' := 112) rfl (hb hby at_74) (by decide) (by decide) kont) ?_
      show own_Go p e below s _ _ _ (T12.setTop (mkF m 112 #[.val (.int bp), .val (.int bq), .val (.int br), .val (.int bs), .val (.int bk), .val (.int ca), .val (.int cb), .val (.ref aa), .unset, .unset, .unset, .unset, .unset, .unset, .unset, .unset, .unset, .unset, .unset, .unset, .unset, .unset, .unset, .unset, .unset, .unset, .unset, .unset, .unset, .unset, .unset, .unset, .unset, .unset, .unset, .unset, .unset, .unset] [(.ref xb0)]))
      exact J112 _ _ xb0 (fun _ => 0) X12 N2 (by rw [e12]; exact sz12) (by rw [e12]; exact Va_12) (by rw [e12]; exact Vxb0) (fun u => absurd u (by decide)) (fun u => absurd u (by decide))
    · have izxb : ¬ (((cb).toInt : Int) = 0) := fun u => zxb (Int32.toInt_inj.mp u)
      show own_Go p e below s _ _ _ (T2.setTop (mkF m 68 #[.val (.int bp), .val (.int bq), .val (.int br), .val (.int bs), .val (.int bk), .val (.int ca), .val (.int cb), .val (.ref aa), .unset, .unset, .unset, .unset, .unset, .unset, .unset, .unset, .unset, .unset, .unset, .unset, .unset, .unset, .unset, .unset, .unset, .unset, .unset, .unset, .unset, .unset, .unset, .unset, .unset, .unset, .unset, .unset, .unset, .unset] [(.int cb)]))
      refine own_st (fun _ kont => XS.ifYes X2.here hx rfl (pc0 := 68) (pc' := 77) rfl (hb hby at_68) rfl ((if0 _ _).trans (feq zxb).2) (by decide) (by decide) kont) ?_
      show own_Go p e below s _ _ _ (T2.setTop (mkF m 77 #[.val (.int bp), .val (.int bq), .val (.int br), .val (.int bs), .val (.int bk), .val (.int ca), .val (.int cb), .val (.ref aa), .unset, .unset, .unset, .unset, .unset, .unset, .unset, .unset, .unset, .unset, .unset, .unset, .unset, .unset, .unset, .unset, .unset, .unset, .unset, .unset, .unset, .unset, .unset, .unset, .unset, .unset, .unset, .unset, .unset, .unset] []))
      refine own_st (fun _ kont => XS.iload X2.here hx rfl (hb hby at_77) rfl kont) ?_
      show own_Go p e below s _ _ _ (T2.setTop (mkF m 79 #[.val (.int bp), .val (.int bq), .val (.int br), .val (.int bs), .val (.int bk), .val (.int ca), .val (.int cb), .val (.ref aa), .unset, .unset, .unset, .unset, .unset, .unset, .unset, .unset, .unset, .unset, .unset, .unset, .unset, .unset, .unset, .unset, .unset, .unset, .unset, .unset, .unset, .unset, .unset, .unset, .unset, .unset, .unset, .unset, .unset, .unset] [(.int cb)]))
      refine own_st (fun _ kont => XS.iconst X2.here hx rfl (hb hby at_79) kont) ?_
      show own_Go p e below s _ _ _ (T2.setTop (mkF m 80 #[.val (.int bp), .val (.int bq), .val (.int br), .val (.int bs), .val (.int bk), .val (.int ca), .val (.int cb), .val (.ref aa), .unset, .unset, .unset, .unset, .unset, .unset, .unset, .unset, .unset, .unset, .unset, .unset, .unset, .unset, .unset, .unset, .unset, .unset, .unset, .unset, .unset, .unset, .unset, .unset, .unset, .unset, .unset, .unset, .unset, .unset] [(.int (1 : Int32)), (.int cb)]))
      rcases Classical.em (cb = (1 : Int32)) with yxb | yxb
      · have iyxb : ((cb).toInt : Int) = 1 := congrArg Int32.toInt yxb
        show own_Go p e below s _ _ _ (T2.setTop (mkF m 80 #[.val (.int bp), .val (.int bq), .val (.int br), .val (.int bs), .val (.int bk), .val (.int ca), .val (.int cb), .val (.ref aa), .unset, .unset, .unset, .unset, .unset, .unset, .unset, .unset, .unset, .unset, .unset, .unset, .unset, .unset, .unset, .unset, .unset, .unset, .unset, .unset, .unset, .unset, .unset, .unset, .unset, .unset, .unset, .unset, .unset, .unset] [(.int (1 : Int32)), (.int cb)]))
        refine own_st (fun _ kont => XS.icmpNo X2.here hx rfl (hb hby at_80) rfl (teq yxb).2 kont) ?_
        show own_Go p e below s _ _ _ (T2.setTop (mkF m 83 #[.val (.int bp), .val (.int bq), .val (.int br), .val (.int bs), .val (.int bk), .val (.int ca), .val (.int cb), .val (.ref aa), .unset, .unset, .unset, .unset, .unset, .unset, .unset, .unset, .unset, .unset, .unset, .unset, .unset, .unset, .unset, .unset, .unset, .unset, .unset, .unset, .unset, .unset, .unset, .unset, .unset, .unset, .unset, .unset, .unset, .unset] []))
        obtain rfl : nb = 1 := by omega
        show own_Go p e below s _ _ _ (T2.setTop (mkF m 83 #[.val (.int bp), .val (.int bq), .val (.int br), .val (.int bs), .val (.int bk), .val (.int ca), .val (.int cb), .val (.ref aa), .unset, .unset, .unset, .unset, .unset, .unset, .unset, .unset, .unset, .unset, .unset, .unset, .unset, .unset, .unset, .unset, .unset, .unset, .unset, .unset, .unset, .unset, .unset, .unset, .unset, .unset, .unset, .unset, .unset, .unset] []))
        refine own_st (fun _ kont => XS.iconst X2.here hx rfl (hb hby at_83) kont) ?_
        show own_Go p e below s _ _ _ (T2.setTop (mkF m 84 #[.val (.int bp), .val (.int bq), .val (.int br), .val (.int bs), .val (.int bk), .val (.int ca), .val (.int cb), .val (.ref aa), .unset, .unset, .unset, .unset, .unset, .unset, .unset, .unset, .unset, .unset, .unset, .unset, .unset, .unset, .unset, .unset, .unset, .unset, .unset, .unset, .unset, .unset, .unset, .unset, .unset, .unset, .unset, .unset, .unset, .unset] [(.int (1 : Int32))]))
        obtain ⟨T13, h13, xb1, g13, X13, e13, E13, Vxb1, st13⟩ := own_newA X2 hx hZ (hw _ (List.mem_of_getElem? (i := 1) rfl)) (rfl : T2.heap = T2.heap) (g := (mkF m 84 #[.val (.int bp), .val (.int bq), .val (.int br), .val (.int bs), .val (.int bk), .val (.int ca), .val (.int cb), .val (.ref aa), .unset, .unset, .unset, .unset, .unset, .unset, .unset, .unset, .unset, .unset, .unset, .unset, .unset, .unset, .unset, .unset, .unset, .unset, .unset, .unset, .unset, .unset, .unset, .unset, .unset, .unset, .unset, .unset, .unset, .unset] [(.int (1 : Int32))])) rfl (hb hby at_84) rfl (n := 1) (cap := 2) (by decide) (by decide) (by decide) (by decide) (by decide)
        replace Vxb1 : own_Av Z h13 xb1 .int 1 (fun _ => .int 0) := Vxb1
        have ne_aa_xb1 : aa ≠ xb1 := Nat.ne_of_lt (Nat.lt_of_lt_of_eq Va.lt g13.symm)
        have fr_xb1 : n0 ≤ xb1 := Nat.le_trans sz2 (Nat.le_of_eq g13.symm)
        have Va_13 := Va.ext E13
        have sz13 := Nat.le_trans sz2 E13.1
        refine own_st st13 ?_
        show own_Go p e below s _ _ _ (T13.setTop (mkF m 86 #[.val (.int bp), .val (.int bq), .val (.int br), .val (.int bs), .val (.int bk), .val (.int ca), .val (.int cb), .val (.ref aa), .unset, .unset, .unset, .unset, .unset, .unset, .unset, .unset, .unset, .unset, .unset, .unset, .unset, .unset, .unset, .unset, .unset, .unset, .unset, .unset, .unset, .unset, .unset, .unset, .unset, .unset, .unset, .unset, .unset, .unset] [(.ref xb1)]))
        refine own_st (fun _ kont => XS.dup X13.here hx rfl (hb hby at_86) rfl rfl kont) ?_
        show own_Go p e below s _ _ _ (T13.setTop (mkF m 87 #[.val (.int bp), .val (.int bq), .val (.int br), .val (.int bs), .val (.int bk), .val (.int ca), .val (.int cb), .val (.ref aa), .unset, .unset, .unset, .unset, .unset, .unset, .unset, .unset, .unset, .unset, .unset, .unset, .unset, .unset, .unset, .unset, .unset, .unset, .unset, .unset, .unset, .unset, .unset, .unset, .unset, .unset, .unset, .unset, .unset, .unset] [(.ref xb1), (.ref xb1)]))
        refine own_st (fun _ kont => XS.iconst X13.here hx rfl (hb hby at_87) kont) ?_
        show own_Go p e below s _ _ _ (T13.setTop (mkF m 88 #[.val (.int bp), .val (.int bq), .val (.int br), .val (.int bs), .val (.int bk), .val (.int ca), .val (.int cb), .val (.ref aa), .unset, .unset, .unset, .unset, .unset, .unset, .unset, .unset, .unset, .unset, .unset, .unset, .unset, .unset, .unset, .unset, .unset, .unset, .unset, .unset, .unset, .unset, .unset, .unset, .unset, .unset, .unset, .unset, .unset, .unset] [(.int (0 : Int32)), (.ref xb1), (.ref xb1)]))
        refine own_st (fun _ kont => XS.iloadN X13.here hx rfl (hb hby at_88) rfl kont) ?_
        show own_Go p e below s _ _ _ (T13.setTop (mkF m 89 #[.val (.int bp), .val (.int bq), .val (.int br), .val (.int bs), .val (.int bk), .val (.int ca), .val (.int cb), .val (.ref aa), .unset, .unset, .unset, .unset, .unset, .unset, .unset, .unset, .unset, .unset, .unset, .unset, .unset, .unset, .unset, .unset, .unset, .unset, .unset, .unset, .unset, .unset, .unset, .unset, .unset, .unset, .unset, .unset, .unset, .unset] [(.int br), (.int (0 : Int32)), (.ref xb1), (.ref xb1)]))
        obtain ⟨T14, h14, X14, e14, W14, Vxb1_14, st14⟩ := own_stI X13 hx hZ e13 Vxb1 (i := 0) (by decide) (by decide) (g := (mkF m 89 #[.val (.int bp), .val (.int bq), .val (.int br), .val (.int bs), .val (.int bk), .val (.int ca), .val (.int cb), .val (.ref aa), .unset, .unset, .unset, .unset, .unset, .unset, .unset, .unset, .unset, .unset, .unset, .unset, .unset, .unset, .unset, .unset, .unset, .unset, .unset, .unset, .unset, .unset, .unset, .unset, .unset, .unset, .unset, .unset, .unset, .unset] [(.int br), (.int (0 : Int32)), (.ref xb1), (.ref xb1)])) rfl rfl (hb hby at_89)
        have Va_14 := Va_13.other W14 ne_aa_xb1
        have sz14 := Nat.le_trans sz13 (Keep.of_wr W14).1
        have N14 := Fr.snoc X14 N2 fr_xb1
        refine own_st st14 ?_
        show own_Go p e below s _ _ _ (T14.setTop (mkF m 90 #[.val (.int bp), .val (.int bq), .val (.int br), .val (.int bs), .val (.int bk), .val (.int ca), .val (.int cb), .val (.ref aa), .unset, .unset, .unset, .unset, .unset, .unset, .unset, .unset, .unset, .unset, .unset, .unset, .unset, .unset, .unset, .unset, .unset, .unset, .unset, .unset, .unset, .unset, .unset, .unset, .unset, .unset, .unset, .unset, .unset, .unset] [(.ref xb1)]))
        refine own_st (fun _ kont => XS.goto X14.here hx rfl (pc0 := 90) (pc' := 112) rfl (hb hby at_90) (by decide) (by decide) kont) ?_
        show own_Go p e below s _ _ _ (T14.setTop (mkF m 112 #[.val (.int bp), .val (.int bq), .val (.int br), .val (.int bs), .val (.int bk), .val (.int ca), .val (.int cb), .val (.ref aa), .unset, .unset, .unset, .unset, .unset, .unset, .unset, .unset, .unset, .unset, .unset, .unset, .unset, .unset, .unset, .unset, .unset, .unset, .unset, .unset, .unset, .unset, .unset, .unset, .unset, .unset, .unset, .unset, .unset, .unset] [(.ref xb1)]))
        exact J112 _ _ xb1 _ X14 N14 (by rw [e14]; exact sz14) (by rw [e14]; exact Va_14) (by rw [e14]; exact Vxb1_14) (fun _ => rfl) (fun u => absurd u (by decide))
      · have iyxb : ¬ (((cb).toInt : Int) = 1) := fun u => yxb (Int32.toInt_inj.mp u)
        show own_Go p e below s _ _ _ (T2.setTop (mkF m 80 #[.val (.int bp), .val (.int bq), .val (.int br), .val (.int bs), .val (.int bk), .val (.int ca), .val (.int cb), .val (.ref aa), .unset, .unset, .unset, .unset, .unset, .unset, .unset, .unset, .unset, .unset, .unset, .unset, .unset, .unset, .unset, .unset, .unset, .unset, .unset, .unset, .unset, .unset, .unset, .unset, .unset, .unset, .unset, .unset, .unset, .unset] [(.int (1 : Int32)), (.int cb)]))
        refine own_st (fun _ kont => XS.icmpYes X2.here hx rfl (pc0 := 80) (pc' := 93) rfl (hb hby at_80) rfl (feq yxb).2 (by decide) (by decide) kont) ?_
        show own_Go p e below s _ _ _ (T2.setTop (mkF m 93 #[.val (.int bp), .val (.int bq), .val (.int br), .val (.int bs), .val (.int bk), .val (.int ca), .val (.int cb), .val (.ref aa), .unset, .unset, .unset, .unset, .unset, .unset, .unset, .unset, .unset, .unset, .unset, .unset, .unset, .unset, .unset, .unset, .unset, .unset, .unset, .unset, .unset, .unset, .unset, .unset, .unset, .unset, .unset, .unset, .unset, .unset] []))
        obtain rfl : nb = 2 := by omega
        show own_Go p e below s _ _ _ (T2.setTop (mkF m 93 #[.val (.int bp), .val (.int bq), .val (.int br), .val (.int bs), .val (.int bk), .val (.int ca), .val (.int cb), .val (.ref aa), .unset, .unset, .unset, .unset, .unset, .unset, .unset, .unset, .unset, .unset, .unset, .unset, .unset, .unset, .unset, .unset, .unset, .unset, .unset, .unset, .unset, .unset, .unset, .unset, .unset, .unset, .unset, .unset, .unset, .unset] []))
        refine own_st (fun _ kont => XS.iconst X2.here hx rfl (hb hby at_93) kont) ?_
        show own_Go p e below s _ _ _ (T2.setTop (mkF m 94 #[.val (.int bp), .val (.int bq), .val (.int br), .val (.int bs), .val (.int bk), .val (.int ca), .val (.int cb), .val (.ref aa), .unset, .unset, .unset, .unset, .unset, .unset, .unset, .unset, .unset, .unset, .unset, .unset, .unset, .unset, .unset, .unset, .unset, .unset, .unset, .unset, .unset, .unset, .unset, .unset, .unset, .unset, .unset, .unset, .unset, .unset] [(.int (2 : Int32))]))
        obtain ⟨T15, h15, xb2, g15, X15, e15, E15, Vxb2, st15⟩ := own_newA X2 hx hZ (hw _ (List.mem_of_getElem? (i := 1) rfl)) (rfl : T2.heap = T2.heap) (g := (mkF m 94 #[.val (.int bp), .val (.int bq), .val (.int br), .val (.int bs), .val (.int bk), .val (.int ca), .val (.int cb), .val (.ref aa), .unset, .unset, .unset, .unset, .unset, .unset, .unset, .unset, .unset, .unset, .unset, .unset, .unset, .unset, .unset, .unset, .unset, .unset, .unset, .unset, .unset, .unset, .unset, .unset, .unset, .unset, .unset, .unset, .unset, .unset] [(.int (2 : Int32))])) rfl (hb hby at_94) rfl (n := 2) (cap := 2) (by decide) (by decide) (by decide) (by decide) (by decide)
        replace Vxb2 : own_Av Z h15 xb2 .int 2 (fun _ => .int 0) := Vxb2
        have ne_aa_xb2 : aa ≠ xb2 := Nat.ne_of_lt (Nat.lt_of_lt_of_eq Va.lt g15.symm)
        have fr_xb2 : n0 ≤ xb2 := Nat.le_trans sz2 (Nat.le_of_eq g15.symm)
        have Va_15 := Va.ext E15
        have sz15 := Nat.le_trans sz2 E15.1
        refine own_st st15 ?_
        show own_Go p e below s _ _ _ (T15.setTop (mkF m 96 #[.val (.int bp), .val (.int bq), .val (.int br), .val (.int bs), .val (.int bk), .val (.int ca), .val (.int cb), .val (.ref aa), .unset, .unset, .unset, .unset, .unset, .unset, .unset, .unset, .unset, .unset, .unset, .unset, .unset, .unset, .unset, .unset, .unset, .unset, .unset, .unset, .unset, .unset, .unset, .unset, .unset, .unset, .unset, .unset, .unset, .unset] [(.ref xb2)]))
        refine own_st (fun _ kont => XS.dup X15.here hx rfl (hb hby at_96) rfl rfl kont) ?_
        show own_Go p e below s _ _ _ (T15.setTop (mkF m 97 #[.val (.int bp), .val (.int bq), .val (.int br), .val (.int bs), .val (.int bk), .val (.int ca), .val (.int cb), .val (.ref aa), .unset, .unset, .unset, .unset, .unset, .unset, .unset, .unset, .unset, .unset, .unset, .unset, .unset, .unset, .unset, .unset, .unset, .unset, .unset, .unset, .unset, .unset, .unset, .unset, .unset, .unset, .unset, .unset, .unset, .unset] [(.ref xb2), (.ref xb2)]))
        refine own_st (fun _ kont => XS.iconst X15.here hx rfl (hb hby at_97) kont) ?_
        show own_Go p e below s _ _ _ (T15.setTop (mkF m 98 #[.val (.int bp), .val (.int bq), .val (.int br), .val (.int bs), .val (.int bk), .val (.int ca), .val (.int cb), .val (.ref aa), .unset, .unset, .unset, .unset, .unset, .unset, .unset, .unset, .unset, .unset, .unset, .unset, .unset, .unset, .unset, .unset, .unset, .unset, .unset, .unset, .unset, .unset, .unset, .unset, .unset, .unset, .unset, .unset, .unset, .unset] [(.int (0 : Int32)), (.ref xb2), (.ref xb2)]))
        refine own_st (fun _ kont => XS.iloadN X15.here hx rfl (hb hby at_98) rfl kont) ?_
        show own_Go p e below s _ _ _ (T15.setTop (mkF m 99 #[.val (.int bp), .val (.int bq), .val (.int br), .val (.int bs), .val (.int bk), .val (.int ca), .val (.int cb), .val (.ref aa), .unset, .unset, .unset, .unset, .unset, .unset, .unset, .unset, .unset, .unset, .unset, .unset, .unset, .unset, .unset, .unset, .unset, .unset, .unset, .unset, .unset, .unset, .unset, .unset, .unset, .unset, .unset, .unset, .unset, .unset] [(.int br), (.int (0 : Int32)), (.ref xb2), (.ref xb2)]))
        refine own_st (fun _ kont => XS.iloadN X15.here hx rfl (hb hby at_99) rfl kont) ?_
        show own_Go p e below s _ _ _ (T15.setTop (mkF m 100 #[.val (.int bp), .val (.int bq), .val (.int br), .val (.int bs), .val (.int bk), .val (.int ca), .val (.int cb), .val (.ref aa), .unset, .unset, .unset, .unset, .unset, .unset, .unset, .unset, .unset, .unset, .unset, .unset, .unset, .unset, .unset, .unset, .unset, .unset, .unset, .unset, .unset, .unset, .unset, .unset, .unset, .unset, .unset, .unset, .unset, .unset] [(.int bs), (.int br), (.int (0 : Int32)), (.ref xb2), (.ref xb2)]))
        refine own_cS X15 hx hml hZ hown (hw _ (List.mem_of_getElem? (i := 18) rfl)) (hw _ (List.mem_of_getElem? (i := 19) rfl)) (hw _ (List.mem_of_getElem? (i := 9) rfl)) (hw _ (List.mem_of_getElem? (i := 20) rfl)) (by decide) (own_rm1 l Z a0 hw br bs h15 n0 sz15) e15 (by decide) (W := 3) (by decide) (g := (mkF m 100 #[.val (.int bp), .val (.int bq), .val (.int br), .val (.int bs), .val (.int bk), .val (.int ca), .val (.int cb), .val (.ref aa), .unset, .unset, .unset, .unset, .unset, .unset, .unset, .unset, .unset, .unset, .unset, .unset, .unset, .unset, .unset, .unset, .unset, .unset, .unset, .unset, .unset, .unset, .unset, .unset, .unset, .unset, .unset, .unset, .unset, .unset] [(.int bs), (.int br), (.int (0 : Int32)), (.ref xb2), (.ref xb2)])) rfl rfl own_pd0 (argsL := [(.int br), (.int bs)]) (rest := [(.int (0 : Int32)), (.ref xb2), (.ref xb2)]) rfl rfl rfl (by show 2 * 0 + _ ≤ _; exact Nat.le_of_eq rfl) (hb hby at_100) (by decide) (by decide) ?_
        intro T16 L16 v16 X16 hQ16
        obtain ⟨⟨m16, rfl, hm16⟩, eh16, le16⟩ := hQ16
        have N16 := own_nil N2 le16
        show own_Go p e below s _ _ _ (T16.setTop (mkF m 103 #[.val (.int bp), .val (.int bq), .val (.int br), .val (.int bs), .val (.int bk), .val (.int ca), .val (.int cb), .val (.ref aa), .unset, .unset, .unset, .unset, .unset, .unset, .unset, .unset, .unset, .unset, .unset, .unset, .unset, .unset, .unset, .unset, .unset, .unset, .unset, .unset, .unset, .unset, .unset, .unset, .unset, .unset, .unset, .unset, .unset, .unset] [(.int m16), (.int (0 : Int32)), (.ref xb2), (.ref xb2)]))
        obtain ⟨T17, h17, X17, e17, W17, Vxb2_17, st17⟩ := own_stI X16 hx hZ eh16 Vxb2 (i := 0) (by decide) (by decide) (g := (mkF m 103 #[.val (.int bp), .val (.int bq), .val (.int br), .val (.int bs), .val (.int bk), .val (.int ca), .val (.int cb), .val (.ref aa), .unset, .unset, .unset, .unset, .unset, .unset, .unset, .unset, .unset, .unset, .unset, .unset, .unset, .unset, .unset, .unset, .unset, .unset, .unset, .unset, .unset, .unset, .unset, .unset, .unset, .unset, .unset, .unset, .unset, .unset] [(.int m16), (.int (0 : Int32)), (.ref xb2), (.ref xb2)])) rfl rfl (hb hby at_103)
        have Va_17 := Va_15.other W17 ne_aa_xb2
        have sz17 := Nat.le_trans sz15 (Keep.of_wr W17).1
        have N17 := Fr.snoc X17 N16 fr_xb2
        refine own_st st17 ?_
        show own_Go p e below s _ _ _ (T17.setTop (mkF m 104 #[.val (.int bp), .val (.int bq), .val (.int br), .val (.int bs), .val (.int bk), .val (.int ca), .val (.int cb), .val (.ref aa), .unset, .unset, .unset, .unset, .unset, .unset, .unset, .unset, .unset, .unset, .unset, .unset, .unset, .unset, .unset, .unset, .unset, .unset, .unset, .unset, .unset, .unset, .unset, .unset, .unset, .unset, .unset, .unset, .unset, .unset] [(.ref xb2)]))
        refine own_st (fun _ kont => XS.dup X17.here hx rfl (hb hby at_104) rfl rfl kont) ?_
        show own_Go p e below s _ _ _ (T17.setTop (mkF m 105 #[.val (.int bp), .val (.int bq), .val (.int br), .val (.int bs), .val (.int bk), .val (.int ca), .val (.int cb), .val (.ref aa), .unset, .unset, .unset, .unset, .unset, .unset, .unset, .unset, .unset, .unset, .unset, .unset, .unset, .unset, .unset, .unset, .unset, .unset, .unset, .unset, .unset, .unset, .unset, .unset, .unset, .unset, .unset, .unset, .unset, .unset] [(.ref xb2), (.ref xb2)]))
        refine own_st (fun _ kont => XS.iconst X17.here hx rfl (hb hby at_105) kont) ?_
        show own_Go p e below s _ _ _ (T17.setTop (mkF m 106 #[.val (.int bp), .val (.int bq), .val (.int br), .val (.int bs), .val (.int bk), .val (.int ca), .val (.int cb), .val (.ref aa), .unset, .unset, .unset, .unset, .unset, .unset, .unset, .unset, .unset, .unset, .unset, .unset, .unset, .unset, .unset, .unset, .unset, .unset, .unset, .unset, .unset, .unset, .unset, .unset, .unset, .unset, .unset, .unset, .unset, .unset] [(.int (1 : Int32)), (.ref xb2), (.ref xb2)]))
        refine own_st (fun _ kont => XS.iloadN X17.here hx rfl (hb hby at_106) rfl kont) ?_
        show own_Go p e below s _ _ _ (T17.setTop (mkF m 107 #[.val (.int bp), .val (.int bq), .val (.int br), .val (.int bs), .val (.int bk), .val (.int ca), .val (.int cb), .val (.ref aa), .unset, .unset, .unset, .unset, .unset, .unset, .unset, .unset, .unset, .unset, .unset, .unset, .unset, .unset, .unset, .unset, .unset, .unset, .unset, .unset, .unset, .unset, .unset, .unset, .unset, .unset, .unset, .unset, .unset, .unset] [(.int br), (.int (1 : Int32)), (.ref xb2), (.ref xb2)]))
        refine own_st (fun _ kont => XS.iloadN X17.here hx rfl (hb hby at_107) rfl kont) ?_
        show own_Go p e below s _ _ _ (T17.setTop (mkF m 108 #[.val (.int bp), .val (.int bq), .val (.int br), .val (.int bs), .val (.int bk), .val (.int ca), .val (.int cb), .val (.ref aa), .unset, .unset, .unset, .unset, .unset, .unset, .unset, .unset, .unset, .unset, .unset, .unset, .unset, .unset, .unset, .unset, .unset, .unset, .unset, .unset, .unset, .unset, .unset, .unset, .unset, .unset, .unset, .unset, .unset, .unset] [(.int bs), (.int br), (.int (1 : Int32)), (.ref xb2), (.ref xb2)]))
        refine own_cS X17 hx hml hZ hown (hw _ (List.mem_of_getElem? (i := 21) rfl)) (hw _ (List.mem_of_getElem? (i := 22) rfl)) (hw _ (List.mem_of_getElem? (i := 9) rfl)) (hw _ (List.mem_of_getElem? (i := 23) rfl)) (by decide) (own_rm2 l Z a0 hw br bs h17 n0 sz17) e17 (by decide) (W := 3) (by decide) (g := (mkF m 108 #[.val (.int bp), .val (.int bq), .val (.int br), .val (.int bs), .val (.int bk), .val (.int ca), .val (.int cb), .val (.ref aa), .unset, .unset, .unset, .unset, .unset, .unset, .unset, .unset, .unset, .unset, .unset, .unset, .unset, .unset, .unset, .unset, .unset, .unset, .unset, .unset, .unset, .unset, .unset, .unset, .unset, .unset, .unset, .unset, .unset, .unset] [(.int bs), (.int br), (.int (1 : Int32)), (.ref xb2), (.ref xb2)])) rfl rfl own_pd0 (argsL := [(.int br), (.int bs)]) (rest := [(.int (1 : Int32)), (.ref xb2), (.ref xb2)]) rfl rfl rfl (by show 2 * 0 + _ ≤ _; exact Nat.le_of_eq rfl) (hb hby at_108) (by decide) (by decide) ?_
        intro T18 L18 v18 X18 hQ18
        obtain ⟨⟨m18, rfl, hm18⟩, eh18, le18⟩ := hQ18
        have N18 := own_nil N17 le18
        show own_Go p e below s _ _ _ (T18.setTop (mkF m 111 #[.val (.int bp), .val (.int bq), .val (.int br), .val (.int bs), .val (.int bk), .val (.int ca), .val (.int cb), .val (.ref aa), .unset, .unset, .unset, .unset, .unset, .unset, .unset, .unset, .unset, .unset, .unset, .unset, .unset, .unset, .unset, .unset, .unset, .unset, .unset, .unset, .unset, .unset, .unset, .unset, .unset, .unset, .unset, .unset, .unset, .unset] [(.int m18), (.int (1 : Int32)), (.ref xb2), (.ref xb2)]))
        obtain ⟨T19, h19, X19, e19, W19, Vxb2_19, st19⟩ := own_stI X18 hx hZ eh18 Vxb2_17 (i := 1) (by decide) (by decide) (g := (mkF m 111 #[.val (.int bp), .val (.int bq), .val (.int br), .val (.int bs), .val (.int bk), .val (.int ca), .val (.int cb), .val (.ref aa), .unset, .unset, .unset, .unset, .unset, .unset, .unset, .unset, .unset, .unset, .unset, .unset, .unset, .unset, .unset, .unset, .unset, .unset, .unset, .unset, .unset, .unset, .unset, .unset, .unset, .unset, .unset, .unset, .unset, .unset] [(.int m18), (.int (1 : Int32)), (.ref xb2), (.ref xb2)])) rfl rfl (hb hby at_111)
        have Va_19 := Va_17.other W19 ne_aa_xb2
        have sz19 := Nat.le_trans sz17 (Keep.of_wr W19).1
        have N19 := Fr.snoc X19 N18 fr_xb2
        refine own_st st19 ?_
        show own_Go p e below s _ _ _ (T19.setTop (mkF m 112 #[.val (.int bp), .val (.int bq), .val (.int br), .val (.int bs), .val (.int bk), .val (.int ca), .val (.int cb), .val (.ref aa), .unset, .unset, .unset, .unset, .unset, .unset, .unset, .unset, .unset, .unset, .unset, .unset, .unset, .unset, .unset, .unset, .unset, .unset, .unset, .unset, .unset, .unset, .unset, .unset, .unset, .unset, .unset, .unset, .unset, .unset] [(.ref xb2)]))
        exact J112 _ _ xb2 _ X19 N19 (by rw [e19]; exact sz19) (by rw [e19]; exact Va_19) (by rw [e19]; exact Vxb2_19) (fun u => absurd u (by decide)) (fun _ => ⟨hm16, hm18⟩)
  show own_Go p e below s _ _ _ (s₁.setTop (mkF m 20 #[.val (.int bp), .val (.int bq), .val (.int br), .val (.int bs), .val (.int bk), .val (.int ca), .val (.int cb), .unset, .unset, .unset, .unset, .unset, .unset, .unset, .unset, .unset, .unset, .unset, .unset, .unset, .unset, .unset, .unset, .unset, .unset, .unset, .unset, .unset, .unset, .unset, .unset, .unset, .unset, .unset, .unset, .unset, .unset, .unset] [(.int ca)]))
  rcases Classical.em (ca = (0 : Int32)) with zxa | zxa
  · have izxa : ((ca).toInt : Int) = 0 := congrArg Int32.toInt zxa
    show own_Go p e below s _ _ _ (s₁.setTop (mkF m 20 #[.val (.int bp), .val (.int bq), .val (.int br), .val (.int bs), .val (.int bk), .val (.int ca), .val (.int cb), .unset, .unset, .unset, .unset, .unset, .unset, .unset, .unset, .unset, .unset, .unset, .unset, .unset, .unset, .unset, .unset, .unset, .unset, .unset, .unset, .unset, .unset, .unset, .unset, .unset, .unset, .unset, .unset, .unset, .unset, .unset] [(.int ca)]))
    refine own_st (fun _ kont => XS.ifNo X0.here hx rfl (hb hby at_20) rfl ((if0 _ _).trans (teq zxa).2) kont) ?_
    show own_Go p e below s _ _ _ (s₁.setTop (mkF m 23 #[.val (.int bp), .val (.int bq), .val (.int br), .val (.int bs), .val (.int bk), .val (.int ca), .val (.int cb), .unset, .unset, .unset, .unset, .unset, .unset, .unset, .unset, .unset, .unset, .unset, .unset, .unset, .unset, .unset, .unset, .unset, .unset, .unset, .unset, .unset, .unset, .unset, .unset, .unset, .unset, .unset, .unset, .unset, .unset, .unset] []))
    obtain rfl : na = 0 := by omega
    show own_Go p e below s _ _ _ (s₁.setTop (mkF m 23 #[.val (.int bp), .val (.int bq), .val (.int br), .val (.int bs), .val (.int bk), .val (.int ca), .val (.int cb), .unset, .unset, .unset, .unset, .unset, .unset, .unset, .unset, .unset, .unset, .unset, .unset, .unset, .unset, .unset, .unset, .unset, .unset, .unset, .unset, .unset, .unset, .unset, .unset, .unset, .unset, .unset, .unset, .unset, .unset, .unset] []))
    refine own_st (fun _ kont => XS.iconst X0.here hx rfl (hb hby at_23) kont) ?_
    show own_Go p e below s _ _ _ (s₁.setTop (mkF m 24 #[.val (.int bp), .val (.int bq), .val (.int br), .val (.int bs), .val (.int bk), .val (.int ca), .val (.int cb), .unset, .unset, .unset, .unset, .unset, .unset, .unset, .unset, .unset, .unset, .unset, .unset, .unset, .unset, .unset, .unset, .unset, .unset, .unset, .unset, .unset, .unset, .unset, .unset, .unset, .unset, .unset, .unset, .unset, .unset, .unset] [(.int (0 : Int32))]))
    obtain ⟨T3, h3, xa0, g3, X3, e3, E3, Vxa0, st3⟩ := own_newA X0 hx hZ (hw _ (List.mem_of_getElem? (i := 1) rfl)) e0 (g := (mkF m 24 #[.val (.int bp), .val (.int bq), .val (.int br), .val (.int bs), .val (.int bk), .val (.int ca), .val (.int cb), .unset, .unset, .unset, .unset, .unset, .unset, .unset, .unset, .unset, .unset, .unset, .unset, .unset, .unset, .unset, .unset, .unset, .unset, .unset, .unset, .unset, .unset, .unset, .unset, .unset, .unset, .unset, .unset, .unset, .unset, .unset] [(.int (0 : Int32))])) rfl (hb hby at_24) rfl (n := 0) (cap := 2) (by decide) (by decide) (by decide) (by decide) (by decide)
    replace Vxa0 : own_Av Z h3 xa0 .int 0 (fun _ => .int 0) := Vxa0
    have fr_xa0 : n0 ≤ xa0 := Nat.le_trans Z0 (Nat.le_of_eq g3.symm)
    have sz3 := Nat.le_trans Z0 E3.1
    refine own_st st3 ?_
    show own_Go p e below s _ _ _ (T3.setTop (mkF m 26 #[.val (.int bp), .val (.int bq), .val (.int br), .val (.int bs), .val (.int bk), .val (.int ca), .val (.int cb), .unset, .unset, .unset, .unset, .unset, .unset, .unset, .unset, .unset, .unset, .unset, .unset, .unset, .unset, .unset, .unset, .unset, .unset, .unset, .unset, .unset, .unset, .unset, .unset, .unset, .unset, .unset, .unset, .unset, .unset, .unset] [(.ref xa0)]))
    refine own_st (fun _ kont => XS.goto X3.here hx rfl (pc0 := 26) (pc' := 64) rfl (hb hby at_26) (by decide) (by decide) kont) ?_
    show own_Go p e below s _ _ _ (T3.setTop (mkF m 64 #[.val (.int bp), .val (.int bq), .val (.int br), .val (.int bs), .val (.int bk), .val (.int ca), .val (.int cb), .unset, .unset, .unset, .unset, .unset, .unset, .unset, .unset, .unset, .unset, .unset, .unset, .unset, .unset, .unset, .unset, .unset, .unset, .unset, .unset, .unset, .unset, .unset, .unset, .unset, .unset, .unset, .unset, .unset, .unset, .unset] [(.ref xa0)]))
    exact J64 _ _ xa0 (fun _ => 0) X3 N0 (by rw [e3]; exact sz3) (by rw [e3]; exact Vxa0) (fun u => absurd u (by decide)) (fun u => absurd u (by decide))
  · have izxa : ¬ (((ca).toInt : Int) = 0) := fun u => zxa (Int32.toInt_inj.mp u)
    show own_Go p e below s _ _ _ (s₁.setTop (mkF m 20 #[.val (.int bp), .val (.int bq), .val (.int br), .val (.int bs), .val (.int bk), .val (.int ca), .val (.int cb), .unset, .unset, .unset, .unset, .unset, .unset, .unset, .unset, .unset, .unset, .unset, .unset, .unset, .unset, .unset, .unset, .unset, .unset, .unset, .unset, .unset, .unset, .unset, .unset, .unset, .unset, .unset, .unset, .unset, .unset, .unset] [(.int ca)]))
    refine own_st (fun _ kont => XS.ifYes X0.here hx rfl (pc0 := 20) (pc' := 29) rfl (hb hby at_20) rfl ((if0 _ _).trans (feq zxa).2) (by decide) (by decide) kont) ?_
    show own_Go p e below s _ _ _ (s₁.setTop (mkF m 29 #[.val (.int bp), .val (.int bq), .val (.int br), .val (.int bs), .val (.int bk), .val (.int ca), .val (.int cb), .unset, .unset, .unset, .unset, .unset, .unset, .unset, .unset, .unset, .unset, .unset, .unset, .unset, .unset, .unset, .unset, .unset, .unset, .unset, .unset, .unset, .unset, .unset, .unset, .unset, .unset, .unset, .unset, .unset, .unset, .unset] []))
    refine own_st (fun _ kont => XS.iload X0.here hx rfl (hb hby at_29) rfl kont) ?_
    show own_Go p e below s _ _ _ (s₁.setTop (mkF m 31 #[.val (.int bp), .val (.int bq), .val (.int br), .val (.int bs), .val (.int bk), .val (.int ca), .val (.int cb), .unset, .unset, .unset, .unset, .unset, .unset, .unset, .unset, .unset, .unset, .unset, .unset, .unset, .unset, .unset, .unset, .unset, .unset, .unset, .unset, .unset, .unset, .unset, .unset, .unset, .unset, .unset, .unset, .unset, .unset, .unset] [(.int ca)]))
    refine own_st (fun _ kont => XS.iconst X0.here hx rfl (hb hby at_31) kont) ?_
    show own_Go p e below s _ _ _ (s₁.setTop (mkF m 32 #[.val (.int bp), .val (.int bq), .val (.int br), .val (.int bs), .val (.int bk), .val (.int ca), .val (.int cb), .unset, .unset, .unset, .unset, .unset, .unset, .unset, .unset, .unset, .unset, .unset, .unset, .unset, .unset, .unset, .unset, .unset, .unset, .unset, .unset, .unset, .unset, .unset, .unset, .unset, .unset, .unset, .unset, .unset, .unset, .unset] [(.int (1 : Int32)), (.int ca)]))
    rcases Classical.em (ca = (1 : Int32)) with yxa | yxa
    · have iyxa : ((ca).toInt : Int) = 1 := congrArg Int32.toInt yxa
      show own_Go p e below s _ _ _ (s₁.setTop (mkF m 32 #[.val (.int bp), .val (.int bq), .val (.int br), .val (.int bs), .val (.int bk), .val (.int ca), .val (.int cb), .unset, .unset, .unset, .unset, .unset, .unset, .unset, .unset, .unset, .unset, .unset, .unset, .unset, .unset, .unset, .unset, .unset, .unset, .unset, .unset, .unset, .unset, .unset, .unset, .unset, .unset, .unset, .unset, .unset, .unset, .unset] [(.int (1 : Int32)), (.int ca)]))
      refine own_st (fun _ kont => XS.icmpNo X0.here hx rfl (hb hby at_32) rfl (teq yxa).2 kont) ?_
      show own_Go p e below s _ _ _ (s₁.setTop (mkF m 35 #[.val (.int bp), .val (.int bq), .val (.int br), .val (.int bs), .val (.int bk), .val (.int ca), .val (.int cb), .unset, .unset, .unset, .unset, .unset, .unset, .unset, .unset, .unset, .unset, .unset, .unset, .unset, .unset, .unset, .unset, .unset, .unset, .unset, .unset, .unset, .unset, .unset, .unset, .unset, .unset, .unset, .unset, .unset, .unset, .unset] []))
      obtain rfl : na = 1 := by omega
      show own_Go p e below s _ _ _ (s₁.setTop (mkF m 35 #[.val (.int bp), .val (.int bq), .val (.int br), .val (.int bs), .val (.int bk), .val (.int ca), .val (.int cb), .unset, .unset, .unset, .unset, .unset, .unset, .unset, .unset, .unset, .unset, .unset, .unset, .unset, .unset, .unset, .unset, .unset, .unset, .unset, .unset, .unset, .unset, .unset, .unset, .unset, .unset, .unset, .unset, .unset, .unset, .unset] []))
      refine own_st (fun _ kont => XS.iconst X0.here hx rfl (hb hby at_35) kont) ?_
      show own_Go p e below s _ _ _ (s₁.setTop (mkF m 36 #[.val (.int bp), .val (.int bq), .val (.int br), .val (.int bs), .val (.int bk), .val (.int ca), .val (.int cb), .unset, .unset, .unset, .unset, .unset, .unset, .unset, .unset, .unset, .unset, .unset, .unset, .unset, .unset, .unset, .unset, .unset, .unset, .unset, .unset, .unset, .unset, .unset, .unset, .unset, .unset, .unset, .unset, .unset, .unset, .unset] [(.int (1 : Int32))]))
      obtain ⟨T4, h4, xa1, g4, X4, e4, E4, Vxa1, st4⟩ := own_newA X0 hx hZ (hw _ (List.mem_of_getElem? (i := 1) rfl)) e0 (g := (mkF m 36 #[.val (.int bp), .val (.int bq), .val (.int br), .val (.int bs), .val (.int bk), .val (.int ca), .val (.int cb), .unset, .unset, .unset, .unset, .unset, .unset, .unset, .unset, .unset, .unset, .unset, .unset, .unset, .unset, .unset, .unset, .unset, .unset, .unset, .unset, .unset, .unset, .unset, .unset, .unset, .unset, .unset, .unset, .unset, .unset, .unset] [(.int (1 : Int32))])) rfl (hb hby at_36) rfl (n := 1) (cap := 2) (by decide) (by decide) (by decide) (by decide) (by decide)
      replace Vxa1 : own_Av Z h4 xa1 .int 1 (fun _ => .int 0) := Vxa1
      have fr_xa1 : n0 ≤ xa1 := Nat.le_trans Z0 (Nat.le_of_eq g4.symm)
      have sz4 := Nat.le_trans Z0 E4.1
      refine own_st st4 ?_
      show own_Go p e below s _ _ _ (T4.setTop (mkF m 38 #[.val (.int bp), .val (.int bq), .val (.int br), .val (.int bs), .val (.int bk), .val (.int ca), .val (.int cb), .unset, .unset, .unset, .unset, .unset, .unset, .unset, .unset, .unset, .unset, .unset, .unset, .unset, .unset, .unset, .unset, .unset, .unset, .unset, .unset, .unset, .unset, .unset, .unset, .unset, .unset, .unset, .unset, .unset, .unset, .unset] [(.ref xa1)]))
      refine own_st (fun _ kont => XS.dup X4.here hx rfl (hb hby at_38) rfl rfl kont) ?_
      show own_Go p e below s _ _ _ (T4.setTop (mkF m 39 #[.val (.int bp), .val (.int bq), .val (.int br), .val (.int bs), .val (.int bk), .val (.int ca), .val (.int cb), .unset, .unset, .unset, .unset, .unset, .unset, .unset, .unset, .unset, .unset, .unset, .unset, .unset, .unset, .unset, .unset, .unset, .unset, .unset, .unset, .unset, .unset, .unset, .unset, .unset, .unset, .unset, .unset, .unset, .unset, .unset] [(.ref xa1), (.ref xa1)]))
      refine own_st (fun _ kont => XS.iconst X4.here hx rfl (hb hby at_39) kont) ?_
      show own_Go p e below s _ _ _ (T4.setTop (mkF m 40 #[.val (.int bp), .val (.int bq), .val (.int br), .val (.int bs), .val (.int bk), .val (.int ca), .val (.int cb), .unset, .unset, .unset, .unset, .unset, .unset, .unset, .unset, .unset, .unset, .unset, .unset, .unset, .unset, .unset, .unset, .unset, .unset, .unset, .unset, .unset, .unset, .unset, .unset, .unset, .unset, .unset, .unset, .unset, .unset, .unset] [(.int (0 : Int32)), (.ref xa1), (.ref xa1)]))
      refine own_st (fun _ kont => XS.iloadN X4.here hx rfl (hb hby at_40) rfl kont) ?_
      show own_Go p e below s _ _ _ (T4.setTop (mkF m 41 #[.val (.int bp), .val (.int bq), .val (.int br), .val (.int bs), .val (.int bk), .val (.int ca), .val (.int cb), .unset, .unset, .unset, .unset, .unset, .unset, .unset, .unset, .unset, .unset, .unset, .unset, .unset, .unset, .unset, .unset, .unset, .unset, .unset, .unset, .unset, .unset, .unset, .unset, .unset, .unset, .unset, .unset, .unset, .unset, .unset] [(.int bp), (.int (0 : Int32)), (.ref xa1), (.ref xa1)]))
      obtain ⟨T5, h5, X5, e5, W5, Vxa1_5, st5⟩ := own_stI X4 hx hZ e4 Vxa1 (i := 0) (by decide) (by decide) (g := (mkF m 41 #[.val (.int bp), .val (.int bq), .val (.int br), .val (.int bs), .val (.int bk), .val (.int ca), .val (.int cb), .unset, .unset, .unset, .unset, .unset, .unset, .unset, .unset, .unset, .unset, .unset, .unset, .unset, .unset, .unset, .unset, .unset, .unset, .unset, .unset, .unset, .unset, .unset, .unset, .unset, .unset, .unset, .unset, .unset, .unset, .unset] [(.int bp), (.int (0 : Int32)), (.ref xa1), (.ref xa1)])) rfl rfl (hb hby at_41)
      have sz5 := Nat.le_trans sz4 (Keep.of_wr W5).1
      have N5 := Fr.snoc X5 N0 fr_xa1
      refine own_st st5 ?_
      show own_Go p e below s _ _ _ (T5.setTop (mkF m 42 #[.val (.int bp), .val (.int bq), .val (.int br), .val (.int bs), .val (.int bk), .val (.int ca), .val (.int cb), .unset, .unset, .unset, .unset, .unset, .unset, .unset, .unset, .unset, .unset, .unset, .unset, .unset, .unset, .unset, .unset, .unset, .unset, .unset, .unset, .unset, .unset, .unset, .unset, .unset, .unset, .unset, .unset, .unset, .unset, .unset] [(.ref xa1)]))
      refine own_st (fun _ kont => XS.goto X5.here hx rfl (pc0 := 42) (pc' := 64) rfl (hb hby at_42) (by decide) (by decide) kont) ?_
      show own_Go p e below s _ _ _ (T5.setTop (mkF m 64 #[.val (.int bp), .val (.int bq), .val (.int br), .val (.int bs), .val (.int bk), .val (.int ca), .val (.int cb), .unset, .unset, .unset, .unset, .unset, .unset, .unset, .unset, .unset, .unset, .unset, .unset, .unset, .unset, .unset, .unset, .unset, .unset, .unset, .unset, .unset, .unset, .unset, .unset, .unset, .unset, .unset, .unset, .unset, .unset, .unset] [(.ref xa1)]))
      exact J64 _ _ xa1 _ X5 N5 (by rw [e5]; exact sz5) (by rw [e5]; exact Vxa1_5) (fun _ => rfl) (fun u => absurd u (by decide))
    · have iyxa : ¬ (((ca).toInt : Int) = 1) := fun u => yxa (Int32.toInt_inj.mp u)
      show own_Go p e below s _ _ _ (s₁.setTop (mkF m 32 #[.val (.int bp), .val (.int bq), .val (.int br), .val (.int bs), .val (.int bk), .val (.int ca), .val (.int cb), .unset, .unset, .unset, .unset, .unset, .unset, .unset, .unset, .unset, .unset, .unset, .unset, .unset, .unset, .unset, .unset, .unset, .unset, .unset, .unset, .unset, .unset, .unset, .unset, .unset, .unset, .unset, .unset, .unset, .unset, .unset] [(.int (1 : Int32)), (.int ca)]))
      refine own_st (fun _ kont => XS.icmpYes X0.here hx rfl (pc0 := 32) (pc' := 45) rfl (hb hby at_32) rfl (feq yxa).2 (by decide) (by decide) kont) ?_
      show own_Go p e below s _ _ _ (s₁.setTop (mkF m 45 #[.val (.int bp), .val (.int bq), .val (.int br), .val (.int bs), .val (.int bk), .val (.int ca), .val (.int cb), .unset, .unset, .unset, .unset, .unset, .unset, .unset, .unset, .unset, .unset, .unset, .unset, .unset, .unset, .unset, .unset, .unset, .unset, .unset, .unset, .unset, .unset, .unset, .unset, .unset, .unset, .unset, .unset, .unset, .unset, .unset] []))
      obtain rfl : na = 2 := by omega
      show own_Go p e below s _ _ _ (s₁.setTop (mkF m 45 #[.val (.int bp), .val (.int bq), .val (.int br), .val (.int bs), .val (.int bk), .val (.int ca), .val (.int cb), .unset, .unset, .unset, .unset, .unset, .unset, .unset, .unset, .unset, .unset, .unset, .unset, .unset, .unset, .unset, .unset, .unset, .unset, .unset, .unset, .unset, .unset, .unset, .unset, .unset, .unset, .unset, .unset, .unset, .unset, .unset] []))
      refine own_st (fun _ kont => XS.iconst X0.here hx rfl (hb hby at_45) kont) ?_
      show own_Go p e below s _ _ _ (s₁.setTop (mkF m 46 #[.val (.int bp), .val (.int bq), .val (.int br), .val (.int bs), .val (.int bk), .val (.int ca), .val (.int cb), .unset, .unset, .unset, .unset, .unset, .unset, .unset, .unset, .unset, .unset, .unset, .unset, .unset, .unset, .unset, .unset, .unset, .unset, .unset, .unset, .unset, .unset, .unset, .unset, .unset, .unset, .unset, .unset, .unset, .unset, .unset] [(.int (2 : Int32))]))
      obtain ⟨T6, h6, xa2, g6, X6, e6, E6, Vxa2, st6⟩ := own_newA X0 hx hZ (hw _ (List.mem_of_getElem? (i := 1) rfl)) e0 (g := (mkF m 46 #[.val (.int bp), .val (.int bq), .val (.int br), .val (.int bs), .val (.int bk), .val (.int ca), .val (.int cb), .unset, .unset, .unset, .unset, .unset, .unset, .unset, .unset, .unset, .unset, .unset, .unset, .unset, .unset, .unset, .unset, .unset, .unset, .unset, .unset, .unset, .unset, .unset, .unset, .unset, .unset, .unset, .unset, .unset, .unset, .unset] [(.int (2 : Int32))])) rfl (hb hby at_46) rfl (n := 2) (cap := 2) (by decide) (by decide) (by decide) (by decide) (by decide)
      replace Vxa2 : own_Av Z h6 xa2 .int 2 (fun _ => .int 0) := Vxa2
      have fr_xa2 : n0 ≤ xa2 := Nat.le_trans Z0 (Nat.le_of_eq g6.symm)
      have sz6 := Nat.le_trans Z0 E6.1
      refine own_st st6 ?_
      show own_Go p e below s _ _ _ (T6.setTop (mkF m 48 #[.val (.int bp), .val (.int bq), .val (.int br), .val (.int bs), .val (.int bk), .val (.int ca), .val (.int cb), .unset, .unset, .unset, .unset, .unset, .unset, .unset, .unset, .unset, .unset, .unset, .unset, .unset, .unset, .unset, .unset, .unset, .unset, .unset, .unset, .unset, .unset, .unset, .unset, .unset, .unset, .unset, .unset, .unset, .unset, .unset] [(.ref xa2)]))
      refine own_st (fun _ kont => XS.dup X6.here hx rfl (hb hby at_48) rfl rfl kont) ?_
      show own_Go p e below s _ _ _ (T6.setTop (mkF m 49 #[.val (.int bp), .val (.int bq), .val (.int br), .val (.int bs), .val (.int bk), .val (.int ca), .val (.int cb), .unset, .unset, .unset, .unset, .unset, .unset, .unset, .unset, .unset, .unset, .unset, .unset, .unset, .unset, .unset, .unset, .unset, .unset, .unset, .unset, .unset, .unset, .unset, .unset, .unset, .unset, .unset, .unset, .unset, .unset, .unset] [(.ref xa2), (.ref xa2)]))
      refine own_st (fun _ kont => XS.iconst X6.here hx rfl (hb hby at_49) kont) ?_
      show own_Go p e below s _ _ _ (T6.setTop (mkF m 50 #[.val (.int bp), .val (.int bq), .val (.int br), .val (.int bs), .val (.int bk), .val (.int ca), .val (.int cb), .unset, .unset, .unset, .unset, .unset, .unset, .unset, .unset, .unset, .unset, .unset, .unset, .unset, .unset, .unset, .unset, .unset, .unset, .unset, .unset, .unset, .unset, .unset, .unset, .unset, .unset, .unset, .unset, .unset, .unset, .unset] [(.int (0 : Int32)), (.ref xa2), (.ref xa2)]))
      refine own_st (fun _ kont => XS.iloadN X6.here hx rfl (hb hby at_50) rfl kont) ?_
      show own_Go p e below s _ _ _ (T6.setTop (mkF m 51 #[.val (.int bp), .val (.int bq), .val (.int br), .val (.int bs), .val (.int bk), .val (.int ca), .val (.int cb), .unset, .unset, .unset, .unset, .unset, .unset, .unset, .unset, .unset, .unset, .unset, .unset, .unset, .unset, .unset, .unset, .unset, .unset, .unset, .unset, .unset, .unset, .unset, .unset, .unset, .unset, .unset, .unset, .unset, .unset, .unset] [(.int bp), (.int (0 : Int32)), (.ref xa2), (.ref xa2)]))
      refine own_st (fun _ kont => XS.iloadN X6.here hx rfl (hb hby at_51) rfl kont) ?_
      show own_Go p e below s _ _ _ (T6.setTop (mkF m 52 #[.val (.int bp), .val (.int bq), .val (.int br), .val (.int bs), .val (.int bk), .val (.int ca), .val (.int cb), .unset, .unset, .unset, .unset, .unset, .unset, .unset, .unset, .unset, .unset, .unset, .unset, .unset, .unset, .unset, .unset, .unset, .unset, .unset, .unset, .unset, .unset, .unset, .unset, .unset, .unset, .unset, .unset, .unset, .unset, .unset] [(.int bq), (.int bp), (.int (0 : Int32)), (.ref xa2), (.ref xa2)]))
      refine own_cS X6 hx hml hZ hown (hw _ (List.mem_of_getElem? (i := 18) rfl)) (hw _ (List.mem_of_getElem? (i := 19) rfl)) (hw _ (List.mem_of_getElem? (i := 9) rfl)) (hw _ (List.mem_of_getElem? (i := 20) rfl)) (by decide) (own_rm1 l Z a0 hw bp bq h6 n0 sz6) e6 (by decide) (W := 3) (by decide) (g := (mkF m 52 #[.val (.int bp), .val (.int bq), .val (.int br), .val (.int bs), .val (.int bk), .val (.int ca), .val (.int cb), .unset, .unset, .unset, .unset, .unset, .unset, .unset, .unset, .unset, .unset, .unset, .unset, .unset, .unset, .unset, .unset, .unset, .unset, .unset, .unset, .unset, .unset, .unset, .unset, .unset, .unset, .unset, .unset, .unset, .unset, .unset] [(.int bq), (.int bp), (.int (0 : Int32)), (.ref xa2), (.ref xa2)])) rfl rfl own_pd0 (argsL := [(.int bp), (.int bq)]) (rest := [(.int (0 : Int32)), (.ref xa2), (.ref xa2)]) rfl rfl rfl (by show 2 * 0 + _ ≤ _; exact Nat.le_of_eq rfl) (hb hby at_52) (by decide) (by decide) ?_
      intro T7 L7 v7 X7 hQ7
      obtain ⟨⟨m7, rfl, hm7⟩, eh7, le7⟩ := hQ7
      have N7 := own_nil N0 le7
      show own_Go p e below s _ _ _ (T7.setTop (mkF m 55 #[.val (.int bp), .val (.int bq), .val (.int br), .val (.int bs), .val (.int bk), .val (.int ca), .val (.int cb), .unset, .unset, .unset, .unset, .unset, .unset, .unset, .unset, .unset, .unset, .unset, .unset, .unset, .unset, .unset, .unset, .unset, .unset, .unset, .unset, .unset, .unset, .unset, .unset, .unset, .unset, .unset, .unset, .unset, .unset, .unset] [(.int m7), (.int (0 : Int32)), (.ref xa2), (.ref xa2)]))
      obtain ⟨T8, h8, X8, e8, W8, Vxa2_8, st8⟩ := own_stI X7 hx hZ eh7 Vxa2 (i := 0) (by decide) (by decide) (g := (mkF m 55 #[.val (.int bp), .val (.int bq), .val (.int br), .val (.int bs), .val (.int bk), .val (.int ca), .val (.int cb), .unset, .unset, .unset, .unset, .unset, .unset, .unset, .unset, .unset, .unset, .unset, .unset, .unset, .unset, .unset, .unset, .unset, .unset, .unset, .unset, .unset, .unset, .unset, .unset, .unset, .unset, .unset, .unset, .unset, .unset, .unset] [(.int m7), (.int (0 : Int32)), (.ref xa2), (.ref xa2)])) rfl rfl (hb hby at_55)
      have sz8 := Nat.le_trans sz6 (Keep.of_wr W8).1
      have N8 := Fr.snoc X8 N7 fr_xa2
      refine own_st st8 ?_
      show own_Go p e below s _ _ _ (T8.setTop (mkF m 56 #[.val (.int bp), .val (.int bq), .val (.int br), .val (.int bs), .val (.int bk), .val (.int ca), .val (.int cb), .unset, .unset, .unset, .unset, .unset, .unset, .unset, .unset, .unset, .unset, .unset, .unset, .unset, .unset, .unset, .unset, .unset, .unset, .unset, .unset, .unset, .unset, .unset, .unset, .unset, .unset, .unset, .unset, .unset, .unset, .unset] [(.ref xa2)]))
      refine own_st (fun _ kont => XS.dup X8.here hx rfl (hb hby at_56) rfl rfl kont) ?_
      show own_Go p e below s _ _ _ (T8.setTop (mkF m 57 #[.val (.int bp), .val (.int bq), .val (.int br), .val (.int bs), .val (.int bk), .val (.int ca), .val (.int cb), .unset, .unset, .unset, .unset, .unset, .unset, .unset, .unset, .unset, .unset, .unset, .unset, .unset, .unset, .unset, .unset, .unset, .unset, .unset, .unset, .unset, .unset, .unset, .unset, .unset, .unset, .unset, .unset, .unset, .unset, .unset] [(.ref xa2), (.ref xa2)]))
      refine own_st (fun _ kont => XS.iconst X8.here hx rfl (hb hby at_57) kont) ?_
      show own_Go p e below s _ _ _ (T8.setTop (mkF m 58 #[.val (.int bp), .val (.int bq), .val (.int br), .val (.int bs), .val (.int bk), .val (.int ca), .val (.int cb), .unset, .unset, .unset, .unset, .unset, .unset, .unset, .unset, .unset, .unset, .unset, .unset, .unset, .unset, .unset, .unset, .unset, .unset, .unset, .unset, .unset, .unset, .unset, .unset, .unset, .unset, .unset, .unset, .unset, .unset, .unset] [(.int (1 : Int32)), (.ref xa2), (.ref xa2)]))
      refine own_st (fun _ kont => XS.iloadN X8.here hx rfl (hb hby at_58) rfl kont) ?_
      show own_Go p e below s _ _ _ (T8.setTop (mkF m 59 #[.val (.int bp), .val (.int bq), .val (.int br), .val (.int bs), .val (.int bk), .val (.int ca), .val (.int cb), .unset, .unset, .unset, .unset, .unset, .unset, .unset, .unset, .unset, .unset, .unset, .unset, .unset, .unset, .unset, .unset, .unset, .unset, .unset, .unset, .unset, .unset, .unset, .unset, .unset, .unset, .unset, .unset, .unset, .unset, .unset] [(.int bp), (.int (1 : Int32)), (.ref xa2), (.ref xa2)]))
      refine own_st (fun _ kont => XS.iloadN X8.here hx rfl (hb hby at_59) rfl kont) ?_
      show own_Go p e below s _ _ _ (T8.setTop (mkF m 60 #[.val (.int bp), .val (.int bq), .val (.int br), .val (.int bs), .val (.int bk), .val (.int ca), .val (.int cb), .unset, .unset, .unset, .unset, .unset, .unset, .unset, .unset, .unset, .unset, .unset, .unset, .unset, .unset, .unset, .unset, .unset, .unset, .unset, .unset, .unset, .unset, .unset, .unset, .unset, .unset, .unset, .unset, .unset, .unset, .unset] [(.int bq), (.int bp), (.int (1 : Int32)), (.ref xa2), (.ref xa2)]))
      refine own_cS X8 hx hml hZ hown (hw _ (List.mem_of_getElem? (i := 21) rfl)) (hw _ (List.mem_of_getElem? (i := 22) rfl)) (hw _ (List.mem_of_getElem? (i := 9) rfl)) (hw _ (List.mem_of_getElem? (i := 23) rfl)) (by decide) (own_rm2 l Z a0 hw bp bq h8 n0 sz8) e8 (by decide) (W := 3) (by decide) (g := (mkF m 60 #[.val (.int bp), .val (.int bq), .val (.int br), .val (.int bs), .val (.int bk), .val (.int ca), .val (.int cb), .unset, .unset, .unset, .unset, .unset, .unset, .unset, .unset, .unset, .unset, .unset, .unset, .unset, .unset, .unset, .unset, .unset, .unset, .unset, .unset, .unset, .unset, .unset, .unset, .unset, .unset, .unset, .unset, .unset, .unset, .unset] [(.int bq), (.int bp), (.int (1 : Int32)), (.ref xa2), (.ref xa2)])) rfl rfl own_pd0 (argsL := [(.int bp), (.int bq)]) (rest := [(.int (1 : Int32)), (.ref xa2), (.ref xa2)]) rfl rfl rfl (by show 2 * 0 + _ ≤ _; exact Nat.le_of_eq rfl) (hb hby at_60) (by decide) (by decide) ?_
      intro T9 L9 v9 X9 hQ9
      obtain ⟨⟨m9, rfl, hm9⟩, eh9, le9⟩ := hQ9
      have N9 := own_nil N8 le9
      show own_Go p e below s _ _ _ (T9.setTop (mkF m 63 #[.val (.int bp), .val (.int bq), .val (.int br), .val (.int bs), .val (.int bk), .val (.int ca), .val (.int cb), .unset, .unset, .unset, .unset, .unset, .unset, .unset, .unset, .unset, .unset, .unset, .unset, .unset, .unset, .unset, .unset, .unset, .unset, .unset, .unset, .unset, .unset, .unset, .unset, .unset, .unset, .unset, .unset, .unset, .unset, .unset] [(.int m9), (.int (1 : Int32)), (.ref xa2), (.ref xa2)]))
      obtain ⟨T10, h10, X10, e10, W10, Vxa2_10, st10⟩ := own_stI X9 hx hZ eh9 Vxa2_8 (i := 1) (by decide) (by decide) (g := (mkF m 63 #[.val (.int bp), .val (.int bq), .val (.int br), .val (.int bs), .val (.int bk), .val (.int ca), .val (.int cb), .unset, .unset, .unset, .unset, .unset, .unset, .unset, .unset, .unset, .unset, .unset, .unset, .unset, .unset, .unset, .unset, .unset, .unset, .unset, .unset, .unset, .unset, .unset, .unset, .unset, .unset, .unset, .unset, .unset, .unset, .unset] [(.int m9), (.int (1 : Int32)), (.ref xa2), (.ref xa2)])) rfl rfl (hb hby at_63)
      have sz10 := Nat.le_trans sz8 (Keep.of_wr W10).1
      have N10 := Fr.snoc X10 N9 fr_xa2
      refine own_st st10 ?_
      show own_Go p e below s _ _ _ (T10.setTop (mkF m 64 #[.val (.int bp), .val (.int bq), .val (.int br), .val (.int bs), .val (.int bk), .val (.int ca), .val (.int cb), .unset, .unset, .unset, .unset, .unset, .unset, .unset, .unset, .unset, .unset, .unset, .unset, .unset, .unset, .unset, .unset, .unset, .unset, .unset, .unset, .unset, .unset, .unset, .unset, .unset, .unset, .unset, .unset, .unset, .unset, .unset] [(.ref xa2)]))
      exact J64 _ _ xa2 _ X10 N10 (by rw [e10]; exact sz10) (by rw [e10]; exact Vxa2_10) (fun u => absurd u (by decide)) (fun _ => ⟨hm7, hm9⟩)
set_option maxRecDepth 65536 in
set_option maxHeartbeats 40000000 in
theorem own_comes {Post : Tables → Env → Array Value → State → Outcome → State → Prop} (hpost : ∀ tb e args s v u, (limb_1_1.after args s (.returned v) u = true ∧ limb_1_2.after args s (.returned v) u = true ∧ True) → FrameEnd s (.returned v) u (Jvm.fieldLocs frame_1_writes args s ++ Jvm.arrayLocs frame_1_arrays args s ++ Jvm.staticLocs frame_1_statics s) 16 128 → Post tb e args s (.returned v) u) :
    ArmFor flags0 classFile x code maxLocals ret World_1 tables_1 room_1 Calls_1 rest_1 Pre_1 Post := by
  intro l hfl _ _ p e ha hc hk s m args below hf hA hF happ hP
  obtain ⟨hcalls, hrest, hpre⟩ := hP
  obtain ⟨-, -, -, hnamed, -, -, -, hat⟩ := (Spec.applies_iff hf).mp happ
  obtain ⟨hg, hn⟩ := and_e (Cond.before_iff.mp (show (Jvm.Cond.and given_1 narrow_1).before args s = true from hpre))
  obtain ⟨gc, r0⟩ := and_e hg
  obtain ⟨k0, r1⟩ := and_e r0
  obtain ⟨k1, r2⟩ := and_e r1
  obtain ⟨k2, r3⟩ := and_e r2
  obtain ⟨k3, r4⟩ := and_e r3
  obtain ⟨w0, w1, w2, w3, w4, rfl⟩ : ∃ w0 w1 w2 w3 w4 : Value, args = #[w0, w1, w2, w3, w4] := by
    have hs : args.size = 5 := by simpa [Cond.value, given_1] using gc
    obtain ⟨L⟩ := args
    match L, hs with
    | [w0, w1, w2, w3, w4], _ => exact ⟨w0, w1, w2, w3, w4, rfl⟩
  have hw := fun d (hd : d ∈ tables_1) => atoms_spec (ws := Jvm.Cond.code x code maxLocals ret :: tables_1) hat d (List.mem_cons_of_mem _ hd)
  obtain ⟨i0, ei0⟩ := is_v k0
  obtain rfl : w0 = (.int i0) := Option.some.inj ei0
  obtain ⟨i1, ei1⟩ := is_v k1
  obtain rfl : w1 = (.int i1) := Option.some.inj ei1
  obtain ⟨i2, ei2⟩ := is_v k2
  obtain rfl : w2 = (.int i2) := Option.some.inj ei2
  obtain ⟨i3, ei3⟩ := is_v k3
  obtain rfl : w3 = (.int i3) := Option.some.inj ei3
  obtain ⟨i4, ei4⟩ := is_v r4
  obtain rfl : w4 = (.int i4) := Option.some.inj ei4
  obtain ⟨n, o, h1, h2, h3, _, L, rfl, ⟨rfl, N⟩, hq⟩ := own_rm0 l s _ hw i0 i1 i2 i3 i4 s.heap s.heap.size (Nat.le_refl _)  tables_1 p e ha hc hk s m _ below hf ((Spec.applies_iff_loose hf).mp happ).1 ⟨rfl, State.Warmed39.refl s, rfl⟩ trivial
  refine ⟨n, _, h1, h2, h3, hpost _ _ _ _ _ _ ⟨Cond.after_iff.mpr rfl, Cond.after_iff.mpr (eq_i res_at (Term.int_eval (1)) rfl), trivial⟩ ⟨hq.1, hq.2.1, (hq.2.2.sift fun y hy => Or.inr (N y hy)).mono (by decide) (by decide)⟩⟩
theorem main_1_1 : Claimed_1_1 := own_comes fun _ _ _ _ _ _ h hF => ⟨h.1, hF⟩
theorem main_1_2 : Claimed_1_2 := own_comes fun _ _ _ _ _ _ h hF => ⟨h.2.1, hF⟩
end Jvm.Pilot.@@N@@
namespace Jvm.Pilot.@@N@@
open Jvm Jvm.ClassFile Sem Op Lib Jvm.Free Jvm.Stand Jvm.Pilot.@@N@@.Jvm.D
/-! MADE BY PROGRAM (witnessworld.py) out of the Statement's table words and the real class files: 10 classes; the members and pool entries that the words name. The judged class is class 1, her method 2. -/
namespace start1
open Jvm.ClassFile
def u (s : String) : CpInfo := .utf8 (stringToUtf16 s)
/-- a pool by its gaps: so many unusable entries, then the entry; so many at the end -/
def gap : Nat → List CpInfo → List CpInfo
  | 0, r => r
  | n + 1, r => .unusable :: gap n r
def poolList (es : List (Nat × CpInfo)) (last : Nat) : List CpInfo := es.foldr (fun e r => gap e.1 (e.2 :: r)) (gap last [])
def pool (es : List (Nat × CpInfo)) (last : Nat) : Array CpInfo := ⟨poolList es last⟩
def fileOf (pool : Array CpInfo) (this : Nat) (attrs : Array Attribute := #[]) (ms : Array MethodInfo := #[]) (fl : Nat := 33) (sup : Nat := 0) (ifs : Array Nat := #[]) (fds : Array FieldInfo := #[]) : ClassFile where
  minorVersion := 0
  majorVersion := 65
  constantPool := pool
  accessFlags := fl
  thisClass := this
  superClass := sup
  interfaces := ifs
  fields := fds
  methods := ms
  attributes := attrs
def plain (name : String) (sup : Option ClassId) : Class where
  name := name
  kind := .ordinary
  loader := none
  accessFlags := 33
  super := sup
  interfaces := #[]
  cf := none
  fields := #[]
  methods := #[]
  instanceTypes := #[]
  staticTypes := #[]
  resolved := #[]
  callSites := []
  init := .initialized
  statics := none
  mirror := none

def pool0 : Array CpInfo := pool [(5, u "<init>"), (0, u "()V"), (1, .class_ 10), (1, u "java/lang/Object")] 113

def k0m0 : Method := { name := "<init>", desc := "()V", sig := { parameters := [], returnType := none }, accessFlags := 1, code := none }
/-- java/lang/Object -/
def k0 : Class := { plain "java/lang/Object" none with
  accessFlags := 33
  interfaces := #[]
  cf := some (fileOf pool0 8 #[] #[{ accessFlags := 1, nameIndex := 5, descriptorIndex := 6, attributes := #[] }] 33 0 #[] #[])
  fields := #[]
  methods := #[k0m0]
  instanceTypes := #[]
  staticTypes := #[]
  resolved := Array.replicate 124 none
  statics := none }

def pool1 : Array CpInfo := pool [(4, .class_ 6), (1, u "java/lang/Object"), (0, u "<init>"), (0, u "()V"), (0, .integer 2147483647), (0, .methodref 11 12), (0, .class_ 13), (0, .nameAndType 14 15), (0, u "java/lang/Math"), (0, u "min"), (0, u "(II)I"), (0, .methodref 11 17), (0, .nameAndType 18 15), (0, u "max"), (0, .methodref 20 21), (0, .class_ 22), (0, .nameAndType 23 24), (0, u "com/example/interpres/interpres/termtonet/Move"), (0, u "sum"), (0, u "([I[I)[I"), (0, .class_ 26), (0, u "com/example/interpres/interpres/termtonet/MoveSumPinLaw"), (0, .long 9223372036854775807), (1, .methodref 11 30), (0, .nameAndType 14 31), (0, u "(JJ)J"), (0, .methodref 11 33), (0, .nameAndType 18 31), (0, .methodref 25 35), (0, .nameAndType 36 37), (0, u "at"), (0, u "([IIJ)Z"), (0, u "ABSENT"), (0, u "J"), (4, u "law"), (0, u "(IIIII)Z")] 4

def k1m0 : Method := { name := "<init>", desc := "()V", sig := { parameters := [], returnType := none }, accessFlags := 1, code := none }
def k1c1 : Code := { maxStack := 4, maxLocals := 4, code := method_2_code, exceptionTable := #[], attributes := #[] }
def k1m1 : Method := { name := "at", desc := "([IIJ)Z", sig := { parameters := [(.array .int), .int, .long], returnType := some .boolean }, accessFlags := 10, code := some k1c1 }
def k1c2 : Code := { maxStack := 5, maxLocals := 38, code := code, exceptionTable := #[], attributes := #[] }
def k1m2 : Method := { name := "law", desc := "(IIIII)Z", sig := { parameters := [.int, .int, .int, .int, .int], returnType := some .boolean }, accessFlags := 9, code := some k1c2 }
/-- com/example/interpres/interpres/termtonet/MoveSumPinLaw -/
def k1 : Class := { plain "com/example/interpres/interpres/termtonet/MoveSumPinLaw" (some 0) with
  accessFlags := 49
  interfaces := #[]
  cf := some (fileOf pool1 25 #[] #[{ accessFlags := 1, nameIndex := 7, descriptorIndex := 8, attributes := #[] }, { accessFlags := 10, nameIndex := 36, descriptorIndex := 37, attributes := #[] }, { accessFlags := 9, nameIndex := 44, descriptorIndex := 45, attributes := #[] }] 49 4 #[] #[{ accessFlags := 26, nameIndex := 38, descriptorIndex := 39, attributes := #[] }])
  fields := #[{ name := "ABSENT", type := .long, accessFlags := 26, slot := 0, constantValue := 0 }]
  methods := #[k1m0, k1m1, k1m2]
  instanceTypes := #[]
  staticTypes := #[.long]
  resolved := Array.replicate 50 none
  statics := none }

def pool2 : Array CpInfo := pool [(2, .class_ 4), (1, u "com/example/interpres/interpres/termtonet/Move"), (3, .class_ 10), (1, u "java/lang/Object"), (3, u "label"), (0, u "Lcom/example/interpres/interpres/term/MultiAction;"), (2, u "taken"), (0, u "[I"), (2, u "given"), (2, u "spawner"), (0, u "Lcom/example/interpres/interpres/term/Term;"), (8, u "parts"), (0, u "Ljava/util/List;"), (16, u "sum"), (0, u "([I[I)[I")] 71

def k2c0 : Code := { maxStack := 4, maxLocals := 7, code := prog_94_method_6_code, exceptionTable := #[], attributes := #[] }
def k2m0 : Method := { name := "sum", desc := "([I[I)[I", sig := { parameters := [(.array .int), (.array .int)], returnType := some (.array .int) }, accessFlags := 8, code := some k2c0 }
/-- com/example/interpres/interpres/termtonet/Move -/
def k2 : Class := { plain "com/example/interpres/interpres/termtonet/Move" (some 0) with
  accessFlags := 32
  interfaces := #[]
  cf := some (fileOf pool2 2 #[] #[{ accessFlags := 8, nameIndex := 53, descriptorIndex := 54, attributes := #[] }] 32 8 #[] #[{ accessFlags := 18, nameIndex := 14, descriptorIndex := 15, attributes := #[] }, { accessFlags := 18, nameIndex := 18, descriptorIndex := 19, attributes := #[] }, { accessFlags := 18, nameIndex := 22, descriptorIndex := 19, attributes := #[] }, { accessFlags := 18, nameIndex := 25, descriptorIndex := 26, attributes := #[] }, { accessFlags := 18, nameIndex := 35, descriptorIndex := 36, attributes := #[] }])
  fields := #[{ name := "label", type := (.object "com/example/interpres/interpres/term/MultiAction"), accessFlags := 18, slot := 0, constantValue := 0 }, { name := "taken", type := (.array .int), accessFlags := 18, slot := 1, constantValue := 0 }, { name := "given", type := (.array .int), accessFlags := 18, slot := 2, constantValue := 0 }, { name := "spawner", type := (.object "com/example/interpres/interpres/term/Term"), accessFlags := 18, slot := 3, constantValue := 0 }, { name := "parts", type := (.object "java/util/List"), accessFlags := 18, slot := 4, constantValue := 0 }]
  methods := #[k2m0]
  instanceTypes := #[(.object "com/example/interpres/interpres/term/MultiAction"), (.array .int), (.array .int), (.object "com/example/interpres/interpres/term/Term"), (.object "java/util/List")]
  staticTypes := #[]
  resolved := Array.replicate 126 none
  statics := none }

def pool3 : Array CpInfo := pool [(1, .class_ 2), (0, u "java/lang/Math"), (1, .class_ 6), (1, u "java/lang/Object"), (0, u "<init>"), (0, u "()V"), (89, .class_ 100), (1, u "java/lang/Math$RandomNumberGeneratorHolder"), (20, u "(JJ)J"), (50, u "negativeZeroFloatBits"), (0, u "J"), (2, u "negativeZeroDoubleBits"), (21, u "max"), (2, u "min"), (43, u "$assertionsDisabled"), (0, u "Z"), (88, u "(II)I"), (2, u "twoToTheDoubleScaleDown"), (0, u "D"), (4, u "twoToTheDoubleScaleUp"), (9, u "E"), (3, u "PI"), (2, u "TAU"), (2, u "DEGREES_TO_RADIANS"), (0, u "RADIANS_TO_DEGREES")] 94

def k3m0 : Method := { name := "<init>", desc := "()V", sig := { parameters := [], returnType := none }, accessFlags := 2, code := none }
def k3c1 : Code := { maxStack := 2, maxLocals := 2, code := jdk_29_method_65_code, exceptionTable := #[], attributes := #[] }
def k3m1 : Method := { name := "max", desc := "(II)I", sig := { parameters := [.int, .int], returnType := some .int }, accessFlags := 9, code := some k3c1 }
def k3c2 : Code := { maxStack := 4, maxLocals := 4, code := jdk_29_method_66_code, exceptionTable := #[], attributes := #[] }
def k3m2 : Method := { name := "max", desc := "(JJ)J", sig := { parameters := [.long, .long], returnType := some .long }, accessFlags := 9, code := some k3c2 }
def k3c3 : Code := { maxStack := 2, maxLocals := 2, code := jdk_29_method_69_code, exceptionTable := #[], attributes := #[] }
def k3m3 : Method := { name := "min", desc := "(II)I", sig := { parameters := [.int, .int], returnType := some .int }, accessFlags := 9, code := some k3c3 }
def k3c4 : Code := { maxStack := 4, maxLocals := 4, code := jdk_29_method_70_code, exceptionTable := #[], attributes := #[] }
def k3m4 : Method := { name := "min", desc := "(JJ)J", sig := { parameters := [.long, .long], returnType := some .long }, accessFlags := 9, code := some k3c4 }
/-- java/lang/Math -/
def k3 : Class := { plain "java/lang/Math" (some 0) with
  accessFlags := 49
  interfaces := #[]
  cf := some (fileOf pool3 1 #[.nestMembers #[98]] #[{ accessFlags := 2, nameIndex := 7, descriptorIndex := 8, attributes := #[] }, { accessFlags := 9, nameIndex := 198, descriptorIndex := 335, attributes := #[] }, { accessFlags := 9, nameIndex := 198, descriptorIndex := 121, attributes := #[] }, { accessFlags := 9, nameIndex := 201, descriptorIndex := 335, attributes := #[] }, { accessFlags := 9, nameIndex := 201, descriptorIndex := 121, attributes := #[] }] 49 4 #[] #[{ accessFlags := 25, nameIndex := 354, descriptorIndex := 339, attributes := #[] }, { accessFlags := 25, nameIndex := 358, descriptorIndex := 339, attributes := #[] }, { accessFlags := 25, nameIndex := 361, descriptorIndex := 339, attributes := #[] }, { accessFlags := 26, nameIndex := 364, descriptorIndex := 339, attributes := #[] }, { accessFlags := 26, nameIndex := 365, descriptorIndex := 339, attributes := #[] }, { accessFlags := 26, nameIndex := 172, descriptorIndex := 173, attributes := #[] }, { accessFlags := 26, nameIndex := 176, descriptorIndex := 173, attributes := #[] }, { accessFlags := 8, nameIndex := 344, descriptorIndex := 339, attributes := #[] }, { accessFlags := 8, nameIndex := 338, descriptorIndex := 339, attributes := #[] }, { accessFlags := 4120, nameIndex := 245, descriptorIndex := 246, attributes := #[] }])
  fields := #[{ name := "E", type := .double, accessFlags := 25, slot := 0, constantValue := 0 }, { name := "PI", type := .double, accessFlags := 25, slot := 1, constantValue := 0 }, { name := "TAU", type := .double, accessFlags := 25, slot := 2, constantValue := 0 }, { name := "DEGREES_TO_RADIANS", type := .double, accessFlags := 26, slot := 3, constantValue := 0 }, { name := "RADIANS_TO_DEGREES", type := .double, accessFlags := 26, slot := 4, constantValue := 0 }, { name := "negativeZeroFloatBits", type := .long, accessFlags := 26, slot := 5, constantValue := 0 }, { name := "negativeZeroDoubleBits", type := .long, accessFlags := 26, slot := 6, constantValue := 0 }, { name := "twoToTheDoubleScaleUp", type := .double, accessFlags := 8, slot := 7, constantValue := 0 }, { name := "twoToTheDoubleScaleDown", type := .double, accessFlags := 8, slot := 8, constantValue := 0 }, { name := "$assertionsDisabled", type := .boolean, accessFlags := 4120, slot := 9, constantValue := 0 }]
  methods := #[k3m0, k3m1, k3m2, k3m3, k3m4]
  instanceTypes := #[]
  staticTypes := #[.double, .double, .double, .double, .double, .long, .long, .double, .double, .boolean]
  resolved := Array.replicate 460 none
  statics := none }

def pool4 : Array CpInfo := pool [(1, u "java/lang/Cloneable"), (0, .class_ 1), (0, u "java/lang/Object"), (0, .class_ 3)] 3

/-- java/lang/Cloneable -/
def k4 : Class := { plain "java/lang/Cloneable" (some 0) with
  accessFlags := 1537
  interfaces := #[]
  cf := some (fileOf pool4 2 #[] #[] 1537 4 #[] #[])
  fields := #[]
  methods := #[]
  instanceTypes := #[]
  staticTypes := #[]
  resolved := Array.replicate 8 none
  statics := none }

def pool5 : Array CpInfo := pool [(1, u "java/io/Serializable"), (0, .class_ 1), (0, u "java/lang/Object"), (0, .class_ 3)] 3

/-- java/io/Serializable -/
def k5 : Class := { plain "java/io/Serializable" (some 0) with
  accessFlags := 1537
  interfaces := #[]
  cf := some (fileOf pool5 2 #[] #[] 1537 4 #[] #[])
  fields := #[]
  methods := #[]
  instanceTypes := #[]
  staticTypes := #[]
  resolved := Array.replicate 8 none
  statics := none }

/-- the primitive byte -/
def k6 : Class := { plain "byte" none with kind := .primitive 'B', accessFlags := 0x411 }
/-- [B -/
def k7 : Class := { plain "[B" (some 0) with kind := .array 6 .byte, interfaces := #[4, 5], accessFlags := 1041 }

/-- the primitive int -/
def k8 : Class := { plain "int" none with kind := .primitive 'I', accessFlags := 0x411 }
/-- [I -/
def k9 : Class := { plain "[I" (some 0) with kind := .array 8 .int, interfaces := #[4, 5], accessFlags := 1041 }

def heap : Heap := #[]
def classes : Array Class := #[k0, k1, k2, k3, k4, k5, k6, k7, k8, k9]
def interned : List (Array UInt16 × Addr) := []
def slotsUsed : Nat := 0
def theMethod : MethodId := ⟨1, 2⟩
def args0 : Array Value := #[.int 49, .int 50, .int 4, .int 60, .int 7]
def aboutOver (below : List Frame) : State where
  vm := { classes := classes, interned := interned.toArray }
  heap := heap
  slotsUsed := slotsUsed
  threads := #[{ frames := .invoking theMethod args0 :: below }]
def below0 : List Frame := [.native { method := ⟨0, 0⟩, args := #[] }]
def about1 : State := aboutOver below0
def p0 : Program := .bare "" "" ""
def e0 : Env := launch0.env 0 0 0
theorem w_frames : about1.frames = Frame.invoking theMethod args0 :: below0 := rfl
set_option maxRecDepth 65536 in
theorem w_args : argsFit about1.vm theMethod args0 = true := by decide +kernel
set_option maxRecDepth 65536 in
theorem w_heap : heapFits about1 = true := by decide +kernel
set_option maxRecDepth 65536 in
theorem w_runnable : about1.curStatus? = some .runnable := by decide +kernel
set_option maxRecDepth 65536 in
theorem w_alone : about1.alone = true := by decide +kernel
set_option maxRecDepth 65536 in
theorem w_named : about1.methodNamed? x = some theMethod := by decide +kernel
set_option maxRecDepth 65536 in
theorem w_hears : about1.hears theMethod below0 = true := by decide +kernel
set_option maxRecDepth 65536 in
theorem w_ripe : about1.ripe theMethod args0 below0 = true := by decide +kernel
theorem w_running : about1.status = .running := rfl
set_option maxRecDepth 65536 in
theorem w_room : about1.hasRoom e0.platform room_1 = true :=
  launch0.hasRoom_least _ room_1 (by decide +kernel) (by decide +kernel) (by decide +kernel) (by decide +kernel) (by decide +kernel) (by decide +kernel)
theorem allAtoms_all (ts : List Jvm.Cond) (a : Array Jvm.Value) (st : Jvm.State) : (allAtoms ts).before a st = ts.all (fun c => c.before a st) := by
  induction ts with
  | nil => rfl
  | cons c t ih =>
    show (Jvm.Cond.and c (allAtoms t)).before a st = _
    rw [Jvm.Cond.before_and, ih, List.all_cons]
def words1 : List Jvm.Cond := Jvm.Cond.code x code maxLocals ret :: tables_1
/-- a 'code' word, met by the world's own term for the bytes: nothing is compared byte by byte -/
theorem code_word {y : MethodName} {bytes : ByteArray} {mx : Nat} {rt : Option FieldType} {a : Array Value} {s : State} {m : MethodId} {meth : Method} {c : Code} (h1 : s.methodNamed? y = some m) (h2 : s.vm.method? m = some meth) (h3 : meth.code = some c) (h4 : c.code = bytes)
    (h5 : (c.maxLocals == mx && c.exceptionTable.isEmpty && decide (c.maxStack ≤ mostOperands) && decide (meth.sig.returnType = rt) && !meth.locks && decide (parseMethodDescriptor y.desc = some meth.sig)) = true) : (Jvm.Cond.code y bytes mx rt).before a s = true := by
  simp only [Bool.and_eq_true, beq_iff_eq, Bool.not_eq_true', decide_eq_true_eq] at h5
  obtain ⟨⟨⟨⟨⟨g1, g2⟩, g3⟩, g4⟩, g5⟩, g6⟩ := h5
  simp [Cond.before, Cond.holds, Cond.value, h1, h2, h3, h4, g1, g2, g3, g4, g5, g6]
def isCode : Jvm.Cond → Bool
  | .code _ _ _ _ => true
  | _ => false
theorem all_split {L : List Jvm.Cond} {P : Jvm.Cond → Bool} (h1 : L.all (fun c => isCode c || P c) = true) (h2 : ∀ c ∈ L.filter isCode, P c = true) : L.all P = true := by
  refine List.all_eq_true.mpr fun c hc => ?_
  have h := List.all_eq_true.mp h1 c hc
  rcases Bool.eq_false_or_eq_true (isCode c) with hi | hi
  · exact h2 c (List.mem_filter.mpr ⟨hc, hi⟩)
  · simpa [hi] using h
set_option maxRecDepth 65536 in
theorem w_c0 : (Jvm.Cond.code x code maxLocals ret).before args0 about1 = true := code_word (m := ⟨1, 2⟩) (meth := k1m2) (c := k1c2) (by decide +kernel) rfl rfl rfl (by decide +kernel)
set_option maxRecDepth 65536 in
theorem w_c1 : (Jvm.Cond.code ({ cls := "com/example/interpres/interpres/termtonet/Move", name := "sum", desc := "([I[I)[I" } : Jvm.MethodName) prog_94_method_6_code (7 : Nat) (Option.some (Jvm.ClassFile.FieldType.array Jvm.ClassFile.FieldType.int))).before args0 about1 = true := code_word (m := ⟨2, 0⟩) (meth := k2m0) (c := k2c0) (by decide +kernel) rfl rfl rfl (by decide +kernel)
set_option maxRecDepth 65536 in
theorem w_c2 : (Jvm.Cond.code ({ cls := "java/lang/Math", name := "min", desc := "(JJ)J" } : Jvm.MethodName) jdk_29_method_70_code (4 : Nat) (Option.some Jvm.ClassFile.FieldType.long)).before args0 about1 = true := code_word (m := ⟨3, 4⟩) (meth := k3m4) (c := k3c4) (by decide +kernel) rfl rfl rfl (by decide +kernel)
set_option maxRecDepth 65536 in
theorem w_c3 : (Jvm.Cond.code ({ cls := "java/lang/Math", name := "max", desc := "(JJ)J" } : Jvm.MethodName) jdk_29_method_66_code (4 : Nat) (Option.some Jvm.ClassFile.FieldType.long)).before args0 about1 = true := code_word (m := ⟨3, 2⟩) (meth := k3m2) (c := k3c2) (by decide +kernel) rfl rfl rfl (by decide +kernel)
set_option maxRecDepth 65536 in
theorem w_c4 : (Jvm.Cond.code ({ cls := "com/example/interpres/interpres/termtonet/MoveSumPinLaw", name := "at", desc := "([IIJ)Z" } : Jvm.MethodName) method_2_code (4 : Nat) (Option.some Jvm.ClassFile.FieldType.boolean)).before args0 about1 = true := code_word (m := ⟨1, 1⟩) (meth := k1m1) (c := k1c1) (by decide +kernel) rfl rfl rfl (by decide +kernel)
set_option maxRecDepth 65536 in
theorem w_c5 : (Jvm.Cond.code ({ cls := "java/lang/Math", name := "min", desc := "(II)I" } : Jvm.MethodName) jdk_29_method_69_code (2 : Nat) (Option.some Jvm.ClassFile.FieldType.int)).before args0 about1 = true := code_word (m := ⟨3, 3⟩) (meth := k3m3) (c := k3c3) (by decide +kernel) rfl rfl rfl (by decide +kernel)
set_option maxRecDepth 65536 in
theorem w_c6 : (Jvm.Cond.code ({ cls := "java/lang/Math", name := "max", desc := "(II)I" } : Jvm.MethodName) jdk_29_method_65_code (2 : Nat) (Option.some Jvm.ClassFile.FieldType.int)).before args0 about1 = true := code_word (m := ⟨3, 1⟩) (meth := k3m1) (c := k3c1) (by decide +kernel) rfl rfl rfl (by decide +kernel)
def codes1 : List Jvm.Cond := [Jvm.Cond.code x code maxLocals ret, Jvm.Cond.code ({ cls := "com/example/interpres/interpres/termtonet/Move", name := "sum", desc := "([I[I)[I" } : Jvm.MethodName) prog_94_method_6_code (7 : Nat) (Option.some (Jvm.ClassFile.FieldType.array Jvm.ClassFile.FieldType.int)), Jvm.Cond.code ({ cls := "java/lang/Math", name := "min", desc := "(JJ)J" } : Jvm.MethodName) jdk_29_method_70_code (4 : Nat) (Option.some Jvm.ClassFile.FieldType.long), Jvm.Cond.code ({ cls := "java/lang/Math", name := "max", desc := "(JJ)J" } : Jvm.MethodName) jdk_29_method_66_code (4 : Nat) (Option.some Jvm.ClassFile.FieldType.long), Jvm.Cond.code ({ cls := "com/example/interpres/interpres/termtonet/MoveSumPinLaw", name := "at", desc := "([IIJ)Z" } : Jvm.MethodName) method_2_code (4 : Nat) (Option.some Jvm.ClassFile.FieldType.boolean), Jvm.Cond.code ({ cls := "java/lang/Math", name := "min", desc := "(II)I" } : Jvm.MethodName) jdk_29_method_69_code (2 : Nat) (Option.some Jvm.ClassFile.FieldType.int), Jvm.Cond.code ({ cls := "java/lang/Math", name := "max", desc := "(II)I" } : Jvm.MethodName) jdk_29_method_65_code (2 : Nat) (Option.some Jvm.ClassFile.FieldType.int)]
set_option maxRecDepth 65536 in
theorem codes_eq : words1.filter isCode = codes1 := rfl
theorem w_codes : ∀ c ∈ words1.filter isCode, c.before args0 about1 = true := by
  rw [codes_eq]
  intro c hc
  simp only [codes1, List.mem_cons, List.not_mem_nil, or_false] at hc
  rcases hc with rfl | rfl | rfl | rfl | rfl | rfl | rfl
  · exact w_c0
  · exact w_c1
  · exact w_c2
  · exact w_c3
  · exact w_c4
  · exact w_c5
  · exact w_c6
set_option maxRecDepth 65536 in
theorem w_t1 : (words1.take 24).all (fun c => isCode c || c.before args0 about1) = true := by decide +kernel
set_option maxRecDepth 65536 in
theorem w_t2 : (words1.drop 24).all (fun c => isCode c || c.before args0 about1) = true := by decide +kernel
theorem w_tables : (allAtoms (Jvm.Cond.code x code maxLocals ret :: tables_1)).before args0 about1 = true := by
  rw [allAtoms_all]
  show words1.all (fun c => c.before args0 about1) = true
  refine all_split ?_ w_codes
  rw [← List.take_append_drop 24 words1, List.all_append, w_t1, w_t2]
  rfl
set_option maxRecDepth 65536 in
theorem w_case : (Jvm.Cond.and given_1 narrow_1).before args0 about1 = true := by decide +kernel
theorem w_applies : (headSpec (Jvm.Cond.code x code maxLocals ret :: tables_1) room_1).applies x e0.platform about1 = true :=
  (Spec.applies_iff w_frames).mpr ⟨w_running, w_runnable, w_alone, w_named, w_hears, w_ripe, w_room, w_tables⟩
theorem atStart : AtStart classFile x code maxLocals ret World_1 tables_1 room_1 Calls_1 rest_1 Pre_1 launch0 p0 e0 about1 theMethod args0 below0 :=
  ⟨lists_1, trivial, launch0.admits_env _ _ _, launch0.least_env, fairChoices_fair.cas, fairChoices_fair.clock, w_frames, w_args, w_heap, w_applies, trivial, trivial, w_case⟩
end start1
theorem witness_1 : WitnessClaimed_1 := ⟨start1.p0, start1.e0, start1.about1, start1.theMethod, start1.args0, start1.below0, start1.atStart⟩
end Jvm.Pilot.@@N@@
