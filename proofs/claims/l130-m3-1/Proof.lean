import JvmDerived
import JvmDerived.Pilot.@@N@@Statement
import JvmDerived.Pilot.@@N@@Code
set_option linter.unusedVariables false
set_option linter.unusedSimpArgs false
namespace Jvm.Pilot.@@N@@
open Jvm Jvm.ClassFile Sem Op Lib Jvm.Free Jvm.Stand Jvm.LawKit Jvm.RoadKit Bundle Jvm.Pilot.@@N@@.Jvm.D
section OwnKit
variable {p : Program} {l : Launch} {e : Env} {R : Room} {s : State} {m : MethodId} {args : Array Value} {below : List Frame} {meth : Method} {c : Code} {T : State} {locs : List Loc} {cells slots : Nat} {Z : State} {a0 : Array Value} {h h' : Heap}
/-- what a body leaves: its value, the heap, the places written -/
abbrev own_P := Option Value → Heap → List Loc → Prop
/-- from here the run comes back, and leaves P -/
def own_Go (p : Program) (e : Env) (below : List Frame) (s : State) (P : own_P) (kc ks : Nat) (A : State) : Prop :=
  ∃ s₂ o, Steps p.tables e below A s₂ ∧ s₂.status = .running ∧ Ended s₂ below o ∧ ∃ v L, o = Outcome.returned v ∧ P v s₂.heap L ∧ FrameEnd s o s₂ L kc ks
theorem own_st {P : own_P} {kc ks : Nat} {A B : State} (hs : ∀ t, Steps p.tables e below B t → Steps p.tables e below A t) (k : own_Go p e below s P kc ks B) : own_Go p e below s P kc ks A := by
  obtain ⟨s₂, o, h1, h2⟩ := k
  exact ⟨s₂, o, hs _ h1, h2⟩
theorem own_stT {P : own_P} {kc ks : Nat} {A B : State} (hs : Steps p.tables e below A B) (k : own_Go p e below s P kc ks B) : own_Go p e below s P kc ks A := by
  obtain ⟨s₂, o, h1, h2⟩ := k
  exact ⟨s₂, o, hs.trans h1, h2⟩
theorem own_end (X : Stand p l e R s m args below meth c T locs cells slots) (hx : p.tables.exec = Jvm.exec) (hlk : meth.locks = false) {P : own_P} {kc ks : Nat} {pc : Nat} {Ls : Array Slot} {w : Value} {t : FieldType} {i : Instr} {rest : List Value} (hret : meth.sig.returnType = some t) (hn : narrow t w = w)
    (hi : (i = .ireturn ∧ (t = .int ∨ t = .boolean ∨ t = .byte ∨ t = .char ∨ t = .short) ∧ ∃ z, w = .int z) ∨ (i = .lreturn ∧ t = .long ∧ ∃ z, w = .long z) ∨ (i = .dreturn ∧ t = .double ∧ ∃ z, w = .double z) ∨ (i = .freturn ∧ t = .float ∧ ∃ z, w = .float z) ∨ (i = .areturn ∧ t.isReference = true ∧ w.isRef = true))
    (hd : decode c.code pc = .ok (i, 1)) (hP : P (some w) T.heap locs) (hc : cells ≤ kc) (hs : slots ≤ ks) : own_Go p e below s P kc ks (T.setTop (mkF m pc Ls (w :: rest))) := by
  obtain ⟨fs, hr, hrun, hended, hW, hsame⟩ := X.leave (v := some w) (fun h => by rw [hret] at h; cases h) hlk
  exact ⟨_, _, retOut X hx hret hn hi hd hr, hrun, hended, _, _, rfl, hP, ⟨_, rfl⟩, hW, hsame.mono hc hs⟩
theorem own_endI (X : Stand p l e R s m args below meth c T locs cells slots) (hx : p.tables.exec = Jvm.exec) (hlk : meth.locks = false) {P : own_P} {kc ks : Nat} {pc : Nat} {Ls : Array Slot} {z : Int32} {rest : List Value} (hret : meth.sig.returnType = some .int)
    (hd : decode c.code pc = .ok (.ireturn, 1)) (hP : P (some (.int z)) T.heap locs) (hc : cells ≤ kc) (hs : slots ≤ ks) : own_Go p e below s P kc ks (T.setTop (mkF m pc Ls (.int z :: rest))) :=
  own_end X hx hlk hret rfl (Or.inl ⟨rfl, Or.inl rfl, z, rfl⟩) hd hP hc hs
theorem own_endJ (X : Stand p l e R s m args below meth c T locs cells slots) (hx : p.tables.exec = Jvm.exec) (hlk : meth.locks = false) {P : own_P} {kc ks : Nat} {pc : Nat} {Ls : Array Slot} {z : Int64} {rest : List Value} (hret : meth.sig.returnType = some .long)
    (hd : decode c.code pc = .ok (.lreturn, 1)) (hP : P (some (.long z)) T.heap locs) (hc : cells ≤ kc) (hs : slots ≤ ks) : own_Go p e below s P kc ks (T.setTop (mkF m pc Ls (.long z :: rest))) :=
  own_end X hx hlk hret rfl (Or.inr (Or.inl ⟨rfl, rfl, z, rfl⟩)) hd hP hc hs
theorem own_endA (X : Stand p l e R s m args below meth c T locs cells slots) (hx : p.tables.exec = Jvm.exec) (hlk : meth.locks = false) {P : own_P} {kc ks : Nat} {pc : Nat} {Ls : Array Slot} {a : Addr} {t : FieldType} {rest : List Value} (hret : meth.sig.returnType = some t) (ht : t.isReference = true) (hn : narrow t (.ref a) = .ref a)
    (hd : decode c.code pc = .ok (.areturn, 1)) (hP : P (some (.ref a)) T.heap locs) (hc : cells ≤ kc) (hs : slots ≤ ks) : own_Go p e below s P kc ks (T.setTop (mkF m pc Ls (.ref a :: rest))) :=
  own_end X hx hlk hret hn (Or.inr (Or.inr (Or.inr (Or.inr ⟨rfl, ht, rfl⟩)))) hd hP hc hs
/-- a boolean, byte, char, short comes back narrowed -/
theorem own_endN (X : Stand p l e R s m args below meth c T locs cells slots) (hx : p.tables.exec = Jvm.exec) (hlk : meth.locks = false) {P : own_P} {kc ks : Nat} {pc : Nat} {Ls : Array Slot} {z : Int32} {t : FieldType} {rest : List Value} (hret : meth.sig.returnType = some t) (ht : t = .boolean ∨ t = .byte ∨ t = .char ∨ t = .short)
    (hd : decode c.code pc = .ok (.ireturn, 1)) {w : Int32} (hz : nar t z = w) (hP : P (some (.int w)) T.heap locs) (hc : cells ≤ kc) (hs : slots ≤ ks) : own_Go p e below s P kc ks (T.setTop (mkF m pc Ls (.int z :: rest))) := by
  subst hz
  obtain ⟨fs, hr, hrun, hended, hW, hsame⟩ := X.leave (v := some (.int (nar t z))) (fun h => by rw [hret] at h; cases h) hlk
  exact ⟨_, _, retN X hx hret ht hd hr, hrun, hended, _, _, rfl, hP, ⟨_, rfl⟩, hW, hsame.mono hc hs⟩
theorem own_endV (X : Stand p l e R s m args below meth c T locs cells slots) (hx : p.tables.exec = Jvm.exec) (hlk : meth.locks = false) {P : own_P} {kc ks : Nat} {pc : Nat} {Ls : Array Slot} (hret : meth.sig.returnType = none)
    (hd : decode c.code pc = .ok (.return_, 1)) (hP : P none T.heap locs) (hc : cells ≤ kc) (hs : slots ≤ ks) : own_Go p e below s P kc ks (T.setTop (mkF m pc Ls [])) := by
  obtain ⟨fs, hr, hrun, hended, hW, hsame⟩ := X.leave (v := none) (fun _ => rfl) hlk
  exact ⟨_, _, X.returnOut hx hret hd hr, hrun, hended, _, _, rfl, hP, ⟨_, rfl⟩, hW, hsame.mono hc hs⟩
/-- a body's contract -/
def own_Met (l : Launch) (Z : State) (y : MethodName) (bytes : ByteArray) (maxL : Nat) (ret : Option FieldType) (rm : Room) (as : Array Value) (h : Heap) (Q : own_P) : Prop :=
  ∀ ws : List Jvm.Cond, MetFree l y (head1 (Jvm.Cond.code y bytes maxL ret :: ws) rm) (fun a U => a = as ∧ Z.Warmed39 U.vm ∧ U.heap = h) (fun _ _ _ _ _ => True) (fun _ U o U' => ∃ v L, o = .returned v ∧ Q v U'.heap L ∧ FrameEnd U o U' L rm.cells rm.slots)
theorem own_in {y : MethodName} {bytes : ByteArray} {maxL : Nat} {ret : Option FieldType} {rm : Room} {as : Array Value} {Q : own_P} (pn : plainFor y = true)
    (body : ∀ (p : Program) (e : Env) (s : State) (m : MethodId) (below : List Frame) (meth : Method) (c : Code) (s₁ : State), p.tables.exec = Jvm.exec → c.code = bytes → c.maxLocals = maxL → s.vm.findClass y.cls = some m.cls → meth.name = y.name → meth.locks = false → meth.sig.returnType = ret → Z.Warmed39 s.vm →
      Stand p l e rm s m as below meth c s₁ [] 0 0 → s₁.heap = h → own_Go p e below s Q rm.cells rm.slots (s₁.setTop (entryFrame m as maxL))) : own_Met l Z y bytes maxL ret rm as h Q := by
  intro ws
  refine MetFree.of_bodySF pn hisR ?_
  intro p e s m args below meth c s₁ Bd hml hP hK
  obtain ⟨rfl, hZ, hh⟩ := hP
  exact body p e s m below meth c s₁ Bd.exec Bd.bytes hml (findClass_of_methodNamed Bd.named) (name_of_methodNamed Bd.named Bd.method).1 (BodyLoose.notSynchronized Bd) Bd.returns hZ (Stand.of_body Bd) (by rw [← hh, Bd.state]; rfl)
theorem own_ef {tbp : Program} {P : own_P} {kc ks : Nat} {g g' : JFrame} (q : g = g') (k : own_Go tbp e below s P kc ks (T.setTop g')) : own_Go tbp e below s P kc ks (T.setTop g) := q ▸ k
/-- a static call by its contract -/
theorem own_cS (X : Stand p l e R s m args below meth c T locs cells slots) (hx : p.tables.exec = Jvm.exec) {ml : Nat} (hml : c.maxLocals = ml) (hZ : Z.Warmed39 s.vm) {own : String} {index : Nat} {y : MethodName} {bytes : ByteArray} {maxL : Nat} {ret : Option FieldType} {rm : Room} {as : Array Value} {Q : own_P}
    (hown : s.vm.findClass own = some m.cls) (w1 : (Jvm.Cond.methodLink own index y).before a0 Z = true) (w2 : (Jvm.Cond.static y).before a0 Z = true) (w3 : (Jvm.Cond.initialized y.cls).before a0 Z = true) (w4 : (Jvm.Cond.code y bytes maxL ret).before a0 Z = true)
    (hy : y.cls ≠ "java/lang/invoke/MethodHandle" ∧ y.cls ≠ "java/lang/invoke/VarHandle") (hM : own_Met l Z y bytes maxL ret rm as h Q) (eT : T.heap = h) (hf : rm.frames + 1 ≤ R.frames) {W : Nat} (hl : W + (maxL + 11) + rm.locals ≤ R.locals)
    {g : JFrame} (hg : g.method = m) (hsize : g.locals.size = ml) {ps : List FieldType} {r : Option FieldType} (hpd : parseMethodDescriptor y.desc = some ⟨ps, r⟩) {argsL rest : List Value} (hlen : argsL.length = ps.length) (has : argsL.toArray = as) (hst : g.stack = argsL.reverse ++ rest)
    (hW : 2 * g.monitorRoom + (rest.map fun v => v.category).sum ≤ W) (hd : decode c.code g.pc = .ok (.invokestatic index, 3)) (hc : cells + rm.cells ≤ R.cells) (hs : slots + rm.slots ≤ R.slots) {P : own_P} {kc ks : Nat}
    (k : ∀ T' L v, Stand p l e R s m args below meth c T' (locs ++ L) (cells + rm.cells) (slots + rm.slots) → Q v T'.heap L → own_Go p e below s P kc ks (T'.setTop { g with pc := g.pc + 3, stack := v.toList ++ rest })) : own_Go p e below s P kc ks (T.setTop g) := by
  obtain ⟨v, vm, ⟨T', L', k', n'⟩, -, X', ⟨L, hQ, hl', hk', hn'⟩, st⟩ := Jvm.LawKit.callS X hx (y := y) hown (mvT hZ w1) (mvT hZ w2) (mvT hZ w3) (mvT hZ w4) hy (backOf (W := W) (hM []) hZ w4 w3 hf hl) hg (hsize.trans hml.symm) (argsL := argsL) (rest := rest) (lenOf hpd hlen) hst hW hd (fun _ _ => ⟨has, eT, hc, hs⟩)
  dsimp only [Pt.U, Pt.locs, Pt.cells, Pt.slots] at X' hl' hk' hn' st hQ
  subst hl' hk' hn'
  exact own_st st (k T' L v X' hQ)
/-- an instance method by its contract -/
theorem own_cV (X : Stand p l e R s m args below meth c T locs cells slots) (hx : p.tables.exec = Jvm.exec) {ml : Nat} (hml : c.maxLocals = ml) (hZ : Z.Warmed39 s.vm) {own C : String} {index : Nat} {y : MethodName} {bytes : ByteArray} {maxL : Nat} {ret : Option FieldType} {rm : Room} {as : Array Value} {Q : own_P}
    (hown : s.vm.findClass own = some m.cls) (w1 : (Jvm.Cond.methodLink own index y).before a0 Z = true) (w2 : (Jvm.Cond.declares y).before a0 Z = true) (w5 : (Jvm.Cond.selects C y y).before a0 Z = true) (w6 : (Jvm.Cond.instanceMethod y).before a0 Z = true) (w3 : (Jvm.Cond.initialized y.cls).before a0 Z = true) (w4 : (Jvm.Cond.code y bytes maxL ret).before a0 Z = true)
    (hy : y.cls ≠ "java/lang/invoke/MethodHandle" ∧ y.cls ≠ "java/lang/invoke/VarHandle") (hM : own_Met l Z y bytes maxL ret rm as h Q) (eT : T.heap = h) {b : Addr} (EX : Exa Z h b C) (hf : rm.frames + 1 ≤ R.frames) {W : Nat} (hl : W + (maxL + 11) + rm.locals ≤ R.locals)
    {g : JFrame} (hg : g.method = m) (hsize : g.locals.size = ml) {ps : List FieldType} {r : Option FieldType} (hpd : parseMethodDescriptor y.desc = some ⟨ps, r⟩) {argsL rest : List Value} (hlen : argsL.length = ps.length) (has : (.ref b :: argsL).toArray = as) (hst : g.stack = argsL.reverse ++ .ref b :: rest)
    (hW : 2 * g.monitorRoom + (rest.map fun v => v.category).sum ≤ W) (hd : decode c.code g.pc = .ok (.invokevirtual index, 3)) (hc : cells + rm.cells ≤ R.cells) (hs : slots + rm.slots ≤ R.slots) {P : own_P} {kc ks : Nat}
    (k : ∀ T' L v, Stand p l e R s m args below meth c T' (locs ++ L) (cells + rm.cells) (slots + rm.slots) → Q v T'.heap L → own_Go p e below s P kc ks (T'.setTop { g with pc := g.pc + 3, stack := v.toList ++ rest })) : own_Go p e below s P kc ks (T.setTop g) := by
  obtain ⟨cq, kq, qa, qb, qc⟩ := isOf hZ eT EX
  obtain ⟨v, vm, ⟨T', L', k', n'⟩, -, X', ⟨L, hQ, hl', hk', hn'⟩, st⟩ := X.virtualBack hx (y := y) (z := y) hown (mvT hZ w1) (mvT hZ w2) (notFace_of_selects (args := #[]) (mvT hZ w5)) (mvT hZ w5) (mvT hZ w6) hy (backOf (W := W) (hM []) hZ w4 w3 hf hl) qa qc hg (hsize.trans hml.symm) (Steps.refl _) (argsL := argsL) (rest := rest) (lenOf hpd hlen) hst hW hd (fun _ _ => ⟨has, eT, hc, hs⟩)
  dsimp only [Pt.U, Pt.locs, Pt.cells, Pt.slots] at X' hl' hk' hn' st hQ
  subst hl' hk' hn'
  exact own_stT st (k T' L v X' hQ)
/-- a private method by its contract -/
theorem own_cP (X : Stand p l e R s m args below meth c T locs cells slots) (hx : p.tables.exec = Jvm.exec) {ml : Nat} (hml : c.maxLocals = ml) (hZ : Z.Warmed39 s.vm) {own C : String} {index nn : Nat} {y : MethodName} {bytes : ByteArray} {maxL : Nat} {ret : Option FieldType} {rm : Room} {as : Array Value} {Q : own_P}
    (hown : s.vm.findClass own = some m.cls) (w1 : (Jvm.Cond.methodLink own index y).before a0 Z = true) (w2 : (Jvm.Cond.instanceMethod y).before a0 Z = true) (w5 : (Jvm.Cond.privateMethod y).before a0 Z = true) (wi : (Jvm.Cond.instantiable y.cls nn).before a0 Z = true) (w3 : (Jvm.Cond.initialized y.cls).before a0 Z = true) (w4 : (Jvm.Cond.code y bytes maxL ret).before a0 Z = true)
    (hy : y.cls ≠ "java/lang/invoke/MethodHandle" ∧ y.cls ≠ "java/lang/invoke/VarHandle") (hM : own_Met l Z y bytes maxL ret rm as h Q) (eT : T.heap = h) {b : Addr} (EX : Exa Z h b C) (hf : rm.frames + 1 ≤ R.frames) {W : Nat} (hl : W + (maxL + 11) + rm.locals ≤ R.locals)
    {g : JFrame} (hg : g.method = m) (hsize : g.locals.size = ml) {ps : List FieldType} {r : Option FieldType} (hpd : parseMethodDescriptor y.desc = some ⟨ps, r⟩) {argsL rest : List Value} (hlen : argsL.length = ps.length) (has : (.ref b :: argsL).toArray = as) (hst : g.stack = argsL.reverse ++ .ref b :: rest)
    (hW : 2 * g.monitorRoom + (rest.map fun v => v.category).sum ≤ W) (hd : decode c.code g.pc = .ok (.invokevirtual index, 3)) (hc : cells + rm.cells ≤ R.cells) (hs : slots + rm.slots ≤ R.slots) {P : own_P} {kc ks : Nat}
    (k : ∀ T' L v, Stand p l e R s m args below meth c T' (locs ++ L) (cells + rm.cells) (slots + rm.slots) → Q v T'.heap L → own_Go p e below s P kc ks (T'.setTop { g with pc := g.pc + 3, stack := v.toList ++ rest })) : own_Go p e below s P kc ks (T.setTop g) := by
  obtain ⟨cq, q1, q2⟩ := EX.cell
  have hpriv : s.PrivateAt y := Cond.privateMethod_at (mvP hZ w5 (args := #[]))
  have hsel : (Jvm.Cond.selects y.cls y y).before args s = true := by
    have wi' : (Jvm.Cond.instantiable y.cls nn).before args s = true := mvT hZ wi
    obtain ⟨c2, k2, f1, f2, f3, f4, -⟩ := Cond.instantiable_spec wi'
    exact selects_self_of_private f1 f2 (Bool.or_eq_false_iff.mp f4).1 hpriv (mvT hZ w2) hy
  obtain ⟨v, vm, ⟨T', L', k', n'⟩, -, X', ⟨L, hQ, hl', hk', hn'⟩, st⟩ := X.privateBack hx (y := y) hown (mvT hZ w1) (mvT hZ w2) hsel hpriv (mvT hZ w4) hy (backOf (W := W) (hM []) hZ w4 w3 hf hl) hg (hsize.trans hml.symm) (Steps.refl _) (a := b) (by rw [eT]; exact q1) q2 (argsL := argsL) (rest := rest) (lenOf hpd hlen) hst hW hd (fun _ _ => ⟨has, eT, hc, hs⟩)
  dsimp only [Pt.U, Pt.locs, Pt.cells, Pt.slots] at X' hl' hk' hn' st hQ
  subst hl' hk' hn'
  exact own_stT st (k T' L v X' hQ)
/-- a constructor by its contract -/
theorem own_cN (X : Stand p l e R s m args below meth c T locs cells slots) (hx : p.tables.exec = Jvm.exec) {ml : Nat} (hml : c.maxLocals = ml) (hZ : Z.Warmed39 s.vm) {own : String} {index : Nat} {y : MethodName} {bytes : ByteArray} {maxL : Nat} {rm : Room} {as : Array Value} {Q : own_P} (hy1 : y.name = "<init>")
    (hown : s.vm.findClass own = some m.cls) (w1 : (Jvm.Cond.methodLink own index y).before a0 Z = true) (w2 : (Jvm.Cond.instanceMethod y).before a0 Z = true) (w3 : (Jvm.Cond.initialized y.cls).before a0 Z = true) (w4 : (Jvm.Cond.code y bytes maxL none).before a0 Z = true)
    (hy : y.cls ≠ "java/lang/invoke/MethodHandle" ∧ y.cls ≠ "java/lang/invoke/VarHandle") (hM : own_Met l Z y bytes maxL none rm as h Q) (eT : T.heap = h) (hf : rm.frames + 1 ≤ R.frames) {W : Nat} (hl : W + (maxL + 11) + rm.locals ≤ R.locals)
    {g : JFrame} (hg : g.method = m) (hsize : g.locals.size = ml) {ps : List FieldType} {r : Option FieldType} (hpd : parseMethodDescriptor y.desc = some ⟨ps, r⟩) {b : Addr} {argsL rest : List Value} (hlen : argsL.length = ps.length) (has : (.ref b :: argsL).toArray = as) (hst : g.stack = argsL.reverse ++ .ref b :: rest)
    (hW : 2 * g.monitorRoom + (rest.map fun v => v.category).sum ≤ W) (hd : decode c.code g.pc = .ok (.invokespecial index, 3)) (hc : cells + rm.cells ≤ R.cells) (hs : slots + rm.slots ≤ R.slots) {P : own_P} {kc ks : Nat}
    (k : ∀ T' L v, Stand p l e R s m args below meth c T' (locs ++ L) (cells + rm.cells) (slots + rm.slots) → Q v T'.heap L → own_Go p e below s P kc ks (T'.setTop { g with pc := g.pc + 3, stack := v.toList ++ rest })) : own_Go p e below s P kc ks (T.setTop g) := by
  obtain ⟨v, vm, ⟨T', L', k', n'⟩, -, X', ⟨L, hQ, hl', hk', hn'⟩, st⟩ := X.specialBack hx (y := y) hy1 hown (mvT hZ w1) (mvT hZ w2) (mvT hZ w4) hy (backOf (W := W) (hM []) hZ w4 w3 hf hl) hg (hsize.trans hml.symm) (Steps.refl _) (a := b) (argsL := argsL) (rest := rest) (lenOf hpd hlen) hst hW hd (fun _ _ => ⟨has, eT, hc, hs⟩)
  dsimp only [Pt.U, Pt.locs, Pt.cells, Pt.slots] at X' hl' hk' hn' st hQ
  subst hl' hk' hn'
  exact own_stT st (k T' L v X' hQ)
/-- an array of n places: place j holds f j -/
def own_Av (Z : State) (h : Heap) (a : Addr) (ty : FieldType) (n : Nat) (f : Nat → Value) : Prop :=
  n < 2147483648 ∧ ∃ cl : Cell, Arr Z h a cl ty ∧ cl.slots.size = n ∧ ∀ j, j < n → cl.slots[j]? = some (f j)
theorem own_Av.lt {a : Addr} {ty : FieldType} {n : Nat} {f : Nat → Value} (V : own_Av Z h a ty n f) : a < h.size := by
  obtain ⟨-, cl, A, -⟩ := V
  exact A.lt
theorem own_Av.ext {a : Addr} {ty : FieldType} {n : Nat} {f : Nat → Value} (V : own_Av Z h a ty n f) (E : Ext h h') : own_Av Z h' a ty n f := by
  obtain ⟨hn, cl, A, r⟩ := V
  exact ⟨hn, cl, A.ext E, r⟩
theorem own_Av.other {a b : Addr} {ty : FieldType} {n sl : Nat} {f : Nat → Value} {v : Value} (V : own_Av Z h b ty n f) (W : Wr h h' a sl v) (q : b ≠ a) : own_Av Z h' b ty n f := by
  obtain ⟨hn, cl, A, r⟩ := V
  exact ⟨hn, cl, A.other W q, r⟩
theorem own_Av.keep {a : Addr} {ty : FieldType} {n : Nat} {f : Nat → Value} {ws : List Addr} (V : own_Av Z h a ty n f) (K : Keep h h' ws) (q : a ∉ ws) : own_Av Z h' a ty n f := by
  obtain ⟨hn, cl, A, r⟩ := V
  exact ⟨hn, cl, ⟨K.2.1 a cl A.1 q, A.2⟩, r⟩
theorem own_Av.congr {a : Addr} {ty : FieldType} {n : Nat} {f g : Nat → Value} (V : own_Av Z h a ty n f) (q : ∀ j, j < n → f j = g j) : own_Av Z h a ty n g := by
  obtain ⟨hn, cl, A, r1, r2⟩ := V
  exact ⟨hn, cl, A, r1, fun j hj => by rw [r2 j hj, q j hj]⟩
theorem own_Av.same {a : Addr} {ty : FieldType} {n i : Nat} {f : Nat → Value} {v : Value} (V : own_Av Z h a ty n f) (W : Wr h h' a i v) : own_Av Z h' a ty n (fun j => if j = i then v else f j) := by
  obtain ⟨hn, cl, A, r1, r2⟩ := V
  refine ⟨hn, cl.setSlot i v, A.same W, by rw [sz_set, r1], fun j hj => ?_⟩
  have hj' : j < cl.slots.size := by rw [r1]; exact hj
  by_cases q : j = i
  · subst q
    simp [Cell.setSlot, hj']
  · have q' : ¬ i = j := fun u => q u.symm
    simp only [Cell.setSlot, if_neg q]
    rw [Array.getElem?_setIfInBounds_ne q']
    exact r2 j hj
theorem own_Av.new {a : Addr} {ty : FieldType} {k : ClassId} {z : Int32} {n : Nat} (A : Arr Z h a (newA k ty z) ty) (hz : z.toInt = n) : own_Av Z h a ty n (fun _ => defaultValue ty) := by
  have h1 : z.toNatClampNeg = n := by
    show z.toInt.toNat = n
    rw [hz]; rfl
  have h2 : z.toInt < 2147483648 := Int32.toInt_lt z
  refine ⟨by omega, _, A, by rw [sz_new, h1], fun j hj => ?_⟩
  simp [newA, h1, hj]
theorem own_ix {j : Int32} {i n : Nat} (hj : j.toInt = i) (hi : i < n) : ¬ (j < 0 ∨ n ≤ j.toNatClampNeg) ∧ j.toNatClampNeg = i := by
  have h1 : j.toNatClampNeg = i := by
    show j.toInt.toNat = i
    rw [hj]; rfl
  refine ⟨?_, h1⟩
  rintro (q | q)
  · rw [Int32.lt_iff_toInt_lt, hj] at q
    have : (0 : Int32).toInt = 0 := by decide
    omega
  · omega
theorem own_ldI (X : Stand p l e R s m args below meth c T locs cells slots) (hx : p.tables.exec = Jvm.exec) (hZ : Z.Warmed39 s.vm) (eT : T.heap = h) {a : Addr} {n : Nat} {f : Nat → Value} (V : own_Av Z h a .int n f) {j : Int32} {i : Nat} (hj : j.toInt = i) (hi : i < n) {v : Value} (hv : f i = v)
    {g : JFrame} (hg : g.method = m) {rest : List Value} (hs : g.stack = .int j :: .ref a :: rest) (hd : decode c.code g.pc = .ok (.iaload, 1)) :
    ∀ t, Steps p.tables e below (T.setTop { g with pc := g.pc + 1, stack := v :: rest }) t → Steps p.tables e below (T.setTop g) t := by
  obtain ⟨-, cl, A, r1, r2⟩ := V
  obtain ⟨q1, q2⟩ := own_ix hj (n := cl.slots.size) (by rw [r1]; exact hi)
  exact X.iaload hx (by rw [eT]; exact A.1) (State.isArrayOf_alike hZ.alike A.2.1) A.2.2 q1 (by rw [q2, r2 i hi, hv]) hg hs hd
theorem own_ldB (X : Stand p l e R s m args below meth c T locs cells slots) (hx : p.tables.exec = Jvm.exec) (hZ : Z.Warmed39 s.vm) (eT : T.heap = h) {a : Addr} {n : Nat} {f : Nat → Value} (V : own_Av Z h a .byte n f) {j : Int32} {i : Nat} (hj : j.toInt = i) (hi : i < n) {v : Value} (hv : f i = v)
    {g : JFrame} (hg : g.method = m) {rest : List Value} (hs : g.stack = .int j :: .ref a :: rest) (hd : decode c.code g.pc = .ok (.baload, 1)) :
    ∀ t, Steps p.tables e below (T.setTop { g with pc := g.pc + 1, stack := v :: rest }) t → Steps p.tables e below (T.setTop g) t := by
  obtain ⟨-, cl, A, r1, r2⟩ := V
  obtain ⟨q1, q2⟩ := own_ix hj (n := cl.slots.size) (by rw [r1]; exact hi)
  exact X.baloadBytes hx (by rw [eT]; exact A.1) (State.isArrayOf_alike hZ.alike A.2.1) A.2.2 q1 (by rw [q2, r2 i hi, hv]) hg hs hd
theorem own_ldJ (X : Stand p l e R s m args below meth c T locs cells slots) (hx : p.tables.exec = Jvm.exec) (hZ : Z.Warmed39 s.vm) (eT : T.heap = h) {a : Addr} {n : Nat} {f : Nat → Value} (V : own_Av Z h a .long n f) {j : Int32} {i : Nat} (hj : j.toInt = i) (hi : i < n) {v : Value} (hv : f i = v)
    {g : JFrame} (hg : g.method = m) {rest : List Value} (hs : g.stack = .int j :: .ref a :: rest) (hd : decode c.code g.pc = .ok (.laload, 1)) :
    ∀ t, Steps p.tables e below (T.setTop { g with pc := g.pc + 1, stack := v :: rest }) t → Steps p.tables e below (T.setTop g) t := by
  obtain ⟨-, cl, A, r1, r2⟩ := V
  obtain ⟨q1, q2⟩ := own_ix hj (n := cl.slots.size) (by rw [r1]; exact hi)
  exact X.laload hx (by rw [eT]; exact A.1) (State.isArrayOf_alike hZ.alike A.2.1) A.2.2 q1 (by rw [q2, r2 i hi, hv]) hg hs hd
theorem own_len (X : Stand p l e R s m args below meth c T locs cells slots) (hx : p.tables.exec = Jvm.exec) (hZ : Z.Warmed39 s.vm) (eT : T.heap = h) {a : Addr} {ty : FieldType} {n : Nat} {f : Nat → Value} (V : own_Av Z h a ty n f) {z : Int32} (hz : z.toInt = n)
    {g : JFrame} (hg : g.method = m) {rest : List Value} (hs : g.stack = .ref a :: rest) (hd : decode c.code g.pc = .ok (.arraylength, 1)) :
    ∀ t, Steps p.tables e below (T.setTop { g with pc := g.pc + 1, stack := .int z :: rest }) t → Steps p.tables e below (T.setTop g) t := by
  obtain ⟨hn, cl, A, r1, r2⟩ := V
  have q : cl.slots.size.toInt32 = z := by
    rw [r1]
    apply Int32.toInt_inj.mp
    rw [hz]
    show (Int32.ofNat n).toInt = n
    rw [Int32.toInt_ofNat_of_lt (by omega)]
  intro t ht
  refine X.arraylength hx (by rw [eT]; exact A.1) (State.isArrayOf_alike hZ.alike A.2.1) hg hs hd t ?_
  rw [q]
  exact ht
theorem own_stI (X : Stand p l e R s m args below meth c T locs cells slots) (hx : p.tables.exec = Jvm.exec) (hZ : Z.Warmed39 s.vm) (eT : T.heap = h) {a : Addr} {n : Nat} {f : Nat → Int32} (V : own_Av Z h a .int n (fun t => .int (f t))) {j x : Int32} {i : Nat} (hj : j.toInt = i) (hi : i < n)
    {g : JFrame} (hg : g.method = m) {rest : List Value} (hs : g.stack = .int x :: .int j :: .ref a :: rest) (hd : decode c.code g.pc = .ok (.iastore, 1)) :
    ∃ T' h', Stand p l e R s m args below meth c T' (locs ++ [⟨a, i⟩]) cells slots ∧ T'.heap = h' ∧ Wr h h' a i (.int x) ∧ own_Av Z h' a .int n (fun t => .int (if t = i then x else f t)) ∧
      ∀ t, Steps p.tables e below (T'.setTop { g with pc := g.pc + 1, stack := rest }) t → Steps p.tables e below (T.setTop g) t := by
  have V' := V
  obtain ⟨-, cl, A, r1, r2⟩ := V
  obtain ⟨q1, q2⟩ := own_ix hj (n := cl.slots.size) (by rw [r1]; exact hi)
  obtain ⟨T', h', X', e', W', st⟩ := stI X hx hZ eT A q1 hg hs hd
  rw [q2] at X' W'
  exact ⟨T', h', X', e', W', (V'.same W').congr (fun j _ => by by_cases q : j = i <;> simp [q]), st⟩
theorem own_stB (X : Stand p l e R s m args below meth c T locs cells slots) (hx : p.tables.exec = Jvm.exec) (hZ : Z.Warmed39 s.vm) (eT : T.heap = h) {a : Addr} {n : Nat} {f : Nat → Int32} (V : own_Av Z h a .byte n (fun t => .int (f t))) {j x : Int32} {i : Nat} (hj : j.toInt = i) (hi : i < n)
    {g : JFrame} (hg : g.method = m) {rest : List Value} (hs : g.stack = .int x :: .int j :: .ref a :: rest) (hd : decode c.code g.pc = .ok (.bastore, 1)) :
    ∃ T' h', Stand p l e R s m args below meth c T' (locs ++ [⟨a, i⟩]) cells slots ∧ T'.heap = h' ∧ Wr h h' a i (.int (nar .byte x)) ∧ own_Av Z h' a .byte n (fun t => .int (if t = i then (nar .byte x) else f t)) ∧
      ∀ t, Steps p.tables e below (T'.setTop { g with pc := g.pc + 1, stack := rest }) t → Steps p.tables e below (T.setTop g) t := by
  have V' := V
  obtain ⟨-, cl, A, r1, r2⟩ := V
  obtain ⟨q1, q2⟩ := own_ix hj (n := cl.slots.size) (by rw [r1]; exact hi)
  obtain ⟨T', h', X', e', W', st⟩ := stB X hx hZ eT A q1 hg hs hd
  rw [q2] at X' W'
  exact ⟨T', h', X', e', W', (V'.same W').congr (fun j _ => by by_cases q : j = i <;> simp [q]), st⟩
theorem own_stJ (X : Stand p l e R s m args below meth c T locs cells slots) (hx : p.tables.exec = Jvm.exec) (hZ : Z.Warmed39 s.vm) (eT : T.heap = h) {a : Addr} {n : Nat} {f : Nat → Int64} (V : own_Av Z h a .long n (fun t => .long (f t))) {j : Int32} {x : Int64} {i : Nat} (hj : j.toInt = i) (hi : i < n)
    {g : JFrame} (hg : g.method = m) {rest : List Value} (hs : g.stack = .long x :: .int j :: .ref a :: rest) (hd : decode c.code g.pc = .ok (.lastore, 1)) :
    ∃ T' h', Stand p l e R s m args below meth c T' (locs ++ [⟨a, i⟩]) cells slots ∧ T'.heap = h' ∧ Wr h h' a i (.long x) ∧ own_Av Z h' a .long n (fun t => .long (if t = i then x else f t)) ∧
      ∀ t, Steps p.tables e below (T'.setTop { g with pc := g.pc + 1, stack := rest }) t → Steps p.tables e below (T.setTop g) t := by
  have V' := V
  obtain ⟨-, cl, A, r1, r2⟩ := V
  obtain ⟨q1, q2⟩ := own_ix hj (n := cl.slots.size) (by rw [r1]; exact hi)
  obtain ⟨T', h', X', e', W', st⟩ := stJ X hx hZ eT A q1 hg hs hd
  rw [q2] at X' W'
  exact ⟨T', h', X', e', W', (V'.same W').congr (fun j _ => by by_cases q : j = i <;> simp [q]), st⟩
/-- newarray: b is the fresh array's address -/
theorem own_newA (X : Stand p l e R s m args below meth c T locs cells slots) (hx : p.tables.exec = Jvm.exec) (hZ : Z.Warmed39 s.vm) {aty : ArrayType} (w : (Jvm.Cond.arrayClass (newarray.typeOf aty)).before a0 Z = true) (eT : T.heap = h) {g : JFrame} (hg : g.method = m) (hd : decode c.code g.pc = .ok (.newarray aty, 2)) {z : Int32} {rest : List Value} (hs : g.stack = .int z :: rest)
    {n cap : Nat} (hz : z.toInt = n) (hcap : n ≤ cap) (hb : cap * 8 ≤ 536870912) (hc : cells + 1 ≤ R.cells) (hl : slots + cap ≤ R.slots) :
    ∃ T' h' b, b = h.size ∧ Stand p l e R s m args below meth c T' locs (cells + 1) (slots + cap) ∧ T'.heap = h' ∧ Ext h h' ∧ own_Av Z h' b (newarray.typeOf aty) n (fun _ => defaultValue (newarray.typeOf aty)) ∧
      ∀ t, Steps p.tables e below (T'.setTop { g with pc := g.pc + 2, stack := .ref b :: rest }) t → Steps p.tables e below (T.setTop g) t := by
  have h1 : z.toNatClampNeg = n := by
    show z.toInt.toNat = n
    rw [hz]; rfl
  have h2 : ¬ z < 0 := by
    rw [Int32.lt_iff_toInt_lt, hz]
    have : (0 : Int32).toInt = 0 := by decide
    omega
  obtain ⟨T', h', cA, X', e', E', A', st⟩ := newP X hx hZ w eT hg hd hs h2 (cap := cap) (by omega) hb hc hl
  exact ⟨T', h', h.size, rfl, X', e', E', own_Av.new A' hz, st⟩
theorem own_nil {k : Nat} {L : List Loc} (N : Fr k L) {L' : List Loc} (q : L' = []) : Fr k (L ++ L') := by
  subst q
  rw [List.append_nil]
  exact N
/-- the walk's end, carried to the sheet -/
theorem own_cast {P : own_P} {kc ks : Nat} {A B : State} (q : A = B) (k : own_Go p e below s P kc ks B) : own_Go p e below s P kc ks A := q ▸ k
theorem own_bm {x : Int} (h1 : -2147483648 ≤ x) (h2 : x < 2147483648) : x.bmod (2 ^ 32) = x := by
  rw [Int.bmod_def]
  split <;> omega
theorem own_addN {a b : Int32} {i k : Nat} (ha : a.toInt = i) (hb : b.toInt = k) (hlt : i + k < 2147483648) : (a + b).toInt = ((i + k : Nat) : Int) := by
  rw [Int32.toInt_add, ha, hb, own_bm (by omega) (by omega)]
  omega
theorem own_add {a b : Int32} (h1 : -2147483648 ≤ a.toInt + b.toInt) (h2 : a.toInt + b.toInt < 2147483648) : (a + b).toInt = a.toInt + b.toInt := by
  rw [Int32.toInt_add, own_bm h1 h2]
theorem own_sub {a b : Int32} (h1 : -2147483648 ≤ a.toInt - b.toInt) (h2 : a.toInt - b.toInt < 2147483648) : (a - b).toInt = a.toInt - b.toInt := by
  rw [Int32.toInt_sub, own_bm h1 h2]
theorem own_mask (z K : Int32) {k : Nat} (hK : K.toInt = k) : ∃ i : Nat, (z &&& K).toInt = i ∧ i ≤ k := by
  have hk : K.toBitVec.toInt = k := hK
  have h1 : K.toBitVec.toNat = k := by
    rw [BitVec.toInt_eq_toNat_cond] at hk
    have := K.toBitVec.isLt
    split at hk <;> omega
  have h2 : 2 * K.toBitVec.toNat < 2 ^ 32 := by
    rw [BitVec.toInt_eq_toNat_cond] at hk
    have := K.toBitVec.isLt
    split at hk <;> omega
  have h3 : (z &&& K).toBitVec.toNat ≤ k := by
    show (z.toBitVec &&& K.toBitVec).toNat ≤ k
    rw [BitVec.toNat_and, ← h1]
    exact Nat.and_le_right
  refine ⟨(z &&& K).toBitVec.toNat, ?_, h3⟩
  show (z &&& K).toBitVec.toInt = _
  rw [BitVec.toInt_eq_toNat_cond, if_pos (by omega)]
theorem own_lt32 {a b : Int32} : a < b ↔ a.toInt < b.toInt := Int32.lt_iff_toInt_lt
theorem own_rem {a b : Int32} (ha : 0 ≤ a.toInt) (hb : 0 < b.toInt) : (a % b).toInt = a.toInt % b.toInt := by
  rw [Int32.toInt_mod]
  exact Int.tmod_eq_emod_of_nonneg ha
end OwnKit
def own_minL (a b : Int64) : Int64 := if 0 < XT.cmpL a b then b else a
def own_mix (z : Int32) : Int32 :=
  let x1 := z ^^^ XT.ushr z 16
  let x2 := x1 * (-2048144789)
  let x3 := x2 ^^^ XT.ushr x2 13
  let x4 := x3 * (-1028477387)
  x4 ^^^ XT.ushr x4 16
def own_unmix (z : Int32) : Int32 :=
  let x1 := z ^^^ XT.ushr z 16
  let x2 := x1 * 2127672349
  let x3 := x2 ^^^ (XT.ushr x2 13 ^^^ XT.ushr x2 26)
  let x4 := x3 * (-1513385405)
  x4 ^^^ XT.ushr x4 16
theorem own_x16 (z : Int32) : (z ^^^ XT.ushr z 16) ^^^ XT.ushr (z ^^^ XT.ushr z 16) 16 = z := by
  apply Int32.toBitVec_inj.mp
  show (z.toBitVec ^^^ (z.toBitVec >>> 16)) ^^^ ((z.toBitVec ^^^ (z.toBitVec >>> 16)) >>> 16) = z.toBitVec
  generalize z.toBitVec = b
  apply BitVec.eq_of_getLsbD_eq
  intro i hi
  simp only [BitVec.getLsbD_xor, BitVec.getLsbD_ushiftRight]
  rw [BitVec.getLsbD_of_ge b (16 + (16 + i)) (by omega)]
  cases b.getLsbD i <;> cases b.getLsbD (16 + i) <;> rfl
theorem own_x13 (z : Int32) : (z ^^^ XT.ushr z 13) ^^^ (XT.ushr (z ^^^ XT.ushr z 13) 13 ^^^ XT.ushr (z ^^^ XT.ushr z 13) 26) = z := by
  apply Int32.toBitVec_inj.mp
  show (z.toBitVec ^^^ (z.toBitVec >>> 13)) ^^^ (((z.toBitVec ^^^ (z.toBitVec >>> 13)) >>> 13) ^^^ ((z.toBitVec ^^^ (z.toBitVec >>> 13)) >>> 26)) = z.toBitVec
  generalize z.toBitVec = b
  apply BitVec.eq_of_getLsbD_eq
  intro i hi
  simp only [BitVec.getLsbD_xor, BitVec.getLsbD_ushiftRight]
  rw [show 13 + (13 + i) = 26 + i by omega, BitVec.getLsbD_of_ge b (13 + (26 + i)) (by omega)]
  cases b.getLsbD i <;> cases b.getLsbD (13 + i) <;> cases b.getLsbD (26 + i) <;> rfl
theorem own_back (z : Int32) : own_unmix (own_mix z) = z := by
  have c1 : (-1028477387 : Int32) * 2127672349 = 1 := by decide
  have c2 : (-2048144789 : Int32) * (-1513385405) = 1 := by decide
  unfold own_unmix own_mix
  simp only []
  rw [own_x16, Int32.mul_assoc, c1, Int32.mul_one, own_x13, Int32.mul_assoc, c2, Int32.mul_one, own_x16]
def own_hs (f : Nat → Int32) (o : Nat) : Nat → Int32
  | 0 => 0
  | k + 1 => own_hs f o k * (-1640531527) + f (o + k)
theorem own_hs1 {f : Nat → Int32} {o : Nat} {a : Int32} (h : f o = a) : own_hs f o 1 = a := by
  show (0 : Int32) * (-1640531527) + f (o + 0) = a
  rw [Nat.add_zero, h, Int32.zero_mul, Int32.zero_add]
theorem own_hs2 {f : Nat → Int32} {o : Nat} {a b : Int32} (h : f o = a) (h1 : f (o + 1) = b) : own_hs f o 2 = a * (-1640531527) + b := by
  show own_hs f o 1 * (-1640531527) + f (o + 1) = _
  rw [own_hs1 h, h1]
theorem own_hs3 {f : Nat → Int32} {o : Nat} {a b c : Int32} (h : f o = a) (h1 : f (o + 1) = b) (h2 : f (o + 2) = c) : own_hs f o 3 = (a * ((-1640531527) * (-1640531527)) + b * (-1640531527)) + c := by
  show own_hs f o 2 * (-1640531527) + f (o + 2) = _
  rw [own_hs2 h h1, h2, Int32.add_mul, Int32.mul_assoc]
theorem own_cap {z : Int32} {n : Nat} (h : z.toInt = (n : Int)) (hn : n ≤ 3) : ((own_minL ((64 : Int64) * z.toInt64) (2147483639 : Int64)).toInt32).toInt = ((64 * n : Nat) : Int) := by
  have e : z = Int32.ofNat n := by
    apply Int32.toInt_inj.mp
    rw [h, Int32.toInt_ofNat_of_lt (by omega)]
  subst e
  rcases (by omega : n = 0 ∨ n = 1 ∨ n = 2 ∨ n = 3) with rfl | rfl | rfl | rfl <;> decide
theorem own_d0_0 : decode jdk_29_method_70_code 0 = .ok (.lload_n 0, 1) := by decide +kernel
theorem own_d0_1 : decode jdk_29_method_70_code 1 = .ok (.lload_n 2, 1) := by decide +kernel
theorem own_d0_2 : decode jdk_29_method_70_code 2 = .ok (.lcmp, 1) := by decide +kernel
theorem own_d0_3 : decode jdk_29_method_70_code 3 = .ok (.ifCond .gt 7, 3) := by decide +kernel
theorem own_d0_6 : decode jdk_29_method_70_code 6 = .ok (.lload_n 0, 1) := by decide +kernel
theorem own_d0_7 : decode jdk_29_method_70_code 7 = .ok (.goto 4, 3) := by decide +kernel
theorem own_d0_10 : decode jdk_29_method_70_code 10 = .ok (.lload_n 2, 1) := by decide +kernel
theorem own_d0_11 : decode jdk_29_method_70_code 11 = .ok (.lreturn, 1) := by decide +kernel
theorem own_pn0 : plainFor (⟨"java/lang/Math", "min", "(JJ)J"⟩ : MethodName) = true := by first | exact plainFor_of_name (show plainName "java/lang/Math" = true by first | (simp [plainName, overriddenIn]; done) | decide +kernel) | decide +kernel
theorem own_ef0 (m : MethodId) (x0 : Int64) (x1 : Int64) : entryFrame m #[(.long x0), (.long x1)] 4 = mkF m 0 #[.val (.long x0), .second, .val (.long x1), .second] [] := by first | (simp [entryFrame, mkF, argsToLocals, Value.category]; done) | rfl
set_option maxRecDepth 65536 in
set_option maxHeartbeats 40000000 in
theorem own_rm1 (l : Launch) (Z : State) (a0 : Array Value) (hw : ∀ d ∈ tables_1, d.before a0 Z = true) (q1 q2 : Int64) (h0 : Heap) (n0 : Nat) (Z0 : n0 ≤ h0.size)  :
    own_Met l Z (⟨"java/lang/Math", "min", "(JJ)J"⟩ : MethodName) jdk_29_method_70_code 4 (some .long) ({ frames := 0, cells := 0, slots := 0, locals := 0 } : Room) #[(.long q1), (.long q2)] h0 (fun v h' L => v = some (.long (own_minL q1 q2)) ∧ h' = h0 ∧ L = []) := by
  refine own_in own_pn0 ?_
  intro p e s m below meth c s₁ hx hby hml hown hnm hlk hret hZ X0 e0
  have N0 := Fr.nil n0
  refine own_ef (own_ef0 m q1 q2) ?_
  show own_Go p e below s _ _ _ (s₁.setTop (mkF m 0 #[.val (.long q1), .second, .val (.long q2), .second] []))
  refine own_st (fun _ kont => XS.lloadN X0.here hx rfl (hb hby own_d0_0) rfl kont) ?_
  show own_Go p e below s _ _ _ (s₁.setTop (mkF m 1 #[.val (.long q1), .second, .val (.long q2), .second] [(.long q1)]))
  refine own_st (fun _ kont => XS.lloadN X0.here hx rfl (hb hby own_d0_1) rfl kont) ?_
  show own_Go p e below s _ _ _ (s₁.setTop (mkF m 2 #[.val (.long q1), .second, .val (.long q2), .second] [(.long q2), (.long q1)]))
  refine own_st (fun _ kont => XT.lcmp X0.here hx rfl (hb hby own_d0_2) rfl kont) ?_
  show own_Go p e below s _ _ _ (s₁.setTop (mkF m 3 #[.val (.long q1), .second, .val (.long q2), .second] [(.int (XT.cmpL q1 q2))]))
  rcases Classical.em ((0 : Int32) < (XT.cmpL q1 q2)) with c1 | c1
  · show own_Go p e below s _ _ _ (s₁.setTop (mkF m 3 #[.val (.long q1), .second, .val (.long q2), .second] [(.int (XT.cmpL q1 q2))]))
    refine own_st (fun _ kont => XS.ifYes X0.here hx rfl (pc0 := 3) (pc' := 10) rfl (hb hby own_d0_3) rfl ((if0 _ _).trans (tlt c1).2.2.1) (by decide) (by decide) kont) ?_
    show own_Go p e below s _ _ _ (s₁.setTop (mkF m 10 #[.val (.long q1), .second, .val (.long q2), .second] []))
    refine own_st (fun _ kont => XS.lloadN X0.here hx rfl (hb hby own_d0_10) rfl kont) ?_
    show own_Go p e below s _ _ _ (s₁.setTop (mkF m 11 #[.val (.long q1), .second, .val (.long q2), .second] [(.long q2)]))
    exact own_endJ X0 hx hlk hret (hb hby own_d0_11) ⟨by rw [own_minL, if_pos c1], e0, rfl⟩ (by decide) (by decide)
  · show own_Go p e below s _ _ _ (s₁.setTop (mkF m 3 #[.val (.long q1), .second, .val (.long q2), .second] [(.int (XT.cmpL q1 q2))]))
    refine own_st (fun _ kont => XS.ifNo X0.here hx rfl (hb hby own_d0_3) rfl ((if0 _ _).trans (flt c1).2.2.1) kont) ?_
    show own_Go p e below s _ _ _ (s₁.setTop (mkF m 6 #[.val (.long q1), .second, .val (.long q2), .second] []))
    refine own_st (fun _ kont => XS.lloadN X0.here hx rfl (hb hby own_d0_6) rfl kont) ?_
    show own_Go p e below s _ _ _ (s₁.setTop (mkF m 7 #[.val (.long q1), .second, .val (.long q2), .second] [(.long q1)]))
    refine own_st (fun _ kont => XS.goto X0.here hx rfl (pc0 := 7) (pc' := 11) rfl (hb hby own_d0_7) (by decide) (by decide) kont) ?_
    show own_Go p e below s _ _ _ (s₁.setTop (mkF m 11 #[.val (.long q1), .second, .val (.long q2), .second] [(.long q1)]))
    exact own_endJ X0 hx hlk hret (hb hby own_d0_11) ⟨by rw [own_minL, if_neg c1], e0, rfl⟩ (by decide) (by decide)
theorem own_pd0 : parseMethodDescriptor "(JJ)J" = some ⟨[.long, .long], some .long⟩ := by decide +kernel
theorem own_d1_0 : decode prog_50_method_1_code 0 = .ok (.aload_n 0, 1) := by decide +kernel
theorem own_d1_1 : decode prog_50_method_1_code 1 = .ok (.invokespecial 3, 3) := by decide +kernel
theorem own_d1_4 : decode prog_50_method_1_code 4 = .ok (.aload_n 0, 1) := by decide +kernel
theorem own_d1_5 : decode prog_50_method_1_code 5 = .ok (.sipush 1024, 3) := by decide +kernel
theorem own_d1_8 : decode prog_50_method_1_code 8 = .ok (.newarray .int, 2) := by decide +kernel
theorem own_d1_10 : decode prog_50_method_1_code 10 = .ok (.putfield 9, 3) := by decide +kernel
theorem own_d1_13 : decode prog_50_method_1_code 13 = .ok (.aload_n 0, 1) := by decide +kernel
theorem own_d1_14 : decode prog_50_method_1_code 14 = .ok (.iload_n 1, 1) := by decide +kernel
theorem own_d1_15 : decode prog_50_method_1_code 15 = .ok (.putfield 15, 3) := by decide +kernel
theorem own_d1_18 : decode prog_50_method_1_code 18 = .ok (.aload_n 0, 1) := by decide +kernel
theorem own_d1_19 : decode prog_50_method_1_code 19 = .ok (.ldc2_w 19, 3) := by decide +kernel
theorem own_d1_22 : decode prog_50_method_1_code 22 = .ok (.iload_n 1, 1) := by decide +kernel
theorem own_d1_23 : decode prog_50_method_1_code 23 = .ok (.i2l, 1) := by decide +kernel
theorem own_d1_24 : decode prog_50_method_1_code 24 = .ok (.lmul, 1) := by decide +kernel
theorem own_d1_25 : decode prog_50_method_1_code 25 = .ok (.ldc2_w 21, 3) := by decide +kernel
theorem own_d1_28 : decode prog_50_method_1_code 28 = .ok (.invokestatic 23, 3) := by decide +kernel
theorem own_d1_31 : decode prog_50_method_1_code 31 = .ok (.l2i, 1) := by decide +kernel
theorem own_d1_32 : decode prog_50_method_1_code 32 = .ok (.newarray .int, 2) := by decide +kernel
theorem own_d1_34 : decode prog_50_method_1_code 34 = .ok (.putfield 29, 3) := by decide +kernel
theorem own_d1_37 : decode prog_50_method_1_code 37 = .ok (.return_, 1) := by decide +kernel
theorem own_pn1 : plainFor (⟨"com/example/interpres/interpres/netsemantics/MarkingIndex", "<init>", "(I)V"⟩ : MethodName) = true := by first | exact plainFor_of_name (show plainName "com/example/interpres/interpres/netsemantics/MarkingIndex" = true by first | (simp [plainName, overriddenIn]; done) | decide +kernel) | decide +kernel
theorem own_ef1 (m : MethodId) (x0 : Addr) (x1 : Int32) : entryFrame m #[(.ref x0), (.int x1)] 2 = mkF m 0 #[.val (.ref x0), .val (.int x1)] [] := by first | (simp [entryFrame, mkF, argsToLocals, Value.category]; done) | rfl
set_option maxRecDepth 65536 in
set_option maxHeartbeats 40000000 in
theorem own_rm2 (l : Launch) (Z : State) (a0 : Array Value) (hw : ∀ d ∈ tables_1, d.before a0 Z = true) (a1 : Addr) (p2 : Int32) (n : Nat) (h0 : Heap) (n0 : Nat) (Z0 : n0 ≤ h0.size) (Fs : Fld Z h0 a1 "com/example/interpres/interpres/netsemantics/MarkingIndex" "slots" "[I" .null) (Fw : Fld Z h0 a1 "com/example/interpres/interpres/netsemantics/MarkingIndex" "width" "I" (.int 0)) (Fm : Fld Z h0 a1 "com/example/interpres/interpres/netsemantics/MarkingIndex" "markings" "[I" .null) (EX : Exa Z h0 a1 "com/example/interpres/interpres/netsemantics/MarkingIndex") (fr_a1 : n0 ≤ a1) (hn : p2.toInt = (n : Int)) (hn3 : n ≤ 3) :
    own_Met l Z (⟨"com/example/interpres/interpres/netsemantics/MarkingIndex", "<init>", "(I)V"⟩ : MethodName) prog_50_method_1_code 2 none ({ frames := 1, cells := 2, slots := 1216, locals := 16 } : Room) #[(.ref a1), (.int p2)] h0 (fun v h' L => v = none ∧ Fr n0 L ∧ Keep h0 h' [a1] ∧ Fld Z h' a1 "com/example/interpres/interpres/netsemantics/MarkingIndex" "width" "I" (.int p2)) := by
  refine own_in own_pn1 ?_
  intro p e s m below meth c s₁ hx hby hml hown hnm hlk hret hZ X0 e0
  have N0 := Fr.nil n0
  refine own_ef (own_ef1 m a1 p2) ?_
  show own_Go p e below s _ _ _ (s₁.setTop (mkF m 0 #[.val (.ref a1), .val (.int p2)] []))
  refine own_st (fun _ kont => XS.aloadN X0.here hx rfl (hb hby own_d1_0) rfl rfl kont) ?_
  show own_Go p e below s _ _ _ (s₁.setTop (mkF m 1 #[.val (.ref a1), .val (.int p2)] [(.ref a1)]))
  obtain ⟨T1, X1, e1, st1⟩ := initO X0 hx hZ hown (hw _ (List.mem_of_getElem? (i := 8) rfl)) (hw _ (List.mem_of_getElem? (i := 9) rfl)) (hw _ (List.mem_of_getElem? (i := 10) rfl)) e0 (g := (mkF m 1 #[.val (.ref a1), .val (.int p2)] [(.ref a1)])) rfl (by rw [hml]; rfl) rfl (hb hby own_d1_1) (by decide) (W := 0) (by show 2 * 0 + _ ≤ _; exact Nat.le_of_eq rfl) (by decide)
  refine own_st st1 ?_
  show own_Go p e below s _ _ _ (T1.setTop (mkF m 4 #[.val (.ref a1), .val (.int p2)] []))
  refine own_st (fun _ kont => XS.aloadN X1.here hx rfl (hb hby own_d1_4) rfl rfl kont) ?_
  show own_Go p e below s _ _ _ (T1.setTop (mkF m 5 #[.val (.ref a1), .val (.int p2)] [(.ref a1)]))
  refine own_st (fun _ kont => XS.sipush X1.here hx rfl (hb hby own_d1_5) kont) ?_
  show own_Go p e below s _ _ _ (T1.setTop (mkF m 8 #[.val (.ref a1), .val (.int p2)] [(.int (1024 : Int32)), (.ref a1)]))
  obtain ⟨T2, h2, b1, g2, X2, e2, E2, Vb1, st2⟩ := own_newA X1 hx hZ (hw _ (List.mem_of_getElem? (i := 0) rfl)) e1 (g := (mkF m 8 #[.val (.ref a1), .val (.int p2)] [(.int (1024 : Int32)), (.ref a1)])) rfl (hb hby own_d1_8) rfl (n := 1024) (cap := 1024) (by decide) (by decide) (by decide) (by decide) (by decide)
  replace Vb1 : own_Av Z h2 b1 .int 1024 (fun _ => .int 0) := Vb1
  have ne_a1_b1 : a1 ≠ b1 := Nat.ne_of_lt (Nat.lt_of_lt_of_eq Fs.lt g2.symm)
  have fr_b1 : n0 ≤ b1 := Nat.le_trans Z0 (Nat.le_of_eq g2.symm)
  have sk_b1 : h0.size ≤ b1 := Nat.le_trans (Keep.refl h0 [a1]).1 (Nat.le_of_eq g2.symm)
  have Fs_2 := Fs.ext E2
  have Fw_2 := Fw.ext E2
  have Fm_2 := Fm.ext E2
  have EX_2 := EX.ext E2
  have sz2 := Nat.le_trans Z0 E2.1
  have K2 := (Keep.refl h0 [a1]).ext E2
  refine own_st st2 ?_
  show own_Go p e below s _ _ _ (T2.setTop (mkF m 10 #[.val (.ref a1), .val (.int p2)] [(.ref b1), (.ref a1)]))
  obtain ⟨T3, h3, X3, e3, W3, st3⟩ := putF X2 hx hZ hown (host := "") (Or.inl (hw _ (List.mem_of_getElem? (i := 11) rfl))) Via.refl e2 Fs_2 EX_2 (Or.inl (hw _ (List.mem_of_getElem? (i := 12) rfl))) (hw _ (List.mem_of_getElem? (i := 3) rfl)) (ty := (.array .int)) (by decide) rfl rfl (g := (mkF m 10 #[.val (.ref a1), .val (.int p2)] [(.ref b1), (.ref a1)])) rfl rfl (hb hby own_d1_10)
  have Fs_3 := Fs_2.same W3
  have Fw_3 := Fw_2.other W3 (Or.inr (slot_ne (Or.inr (hw _ (List.mem_of_getElem? (i := 14) rfl))) (Or.inl (hw _ (List.mem_of_getElem? (i := 12) rfl))) (by decide) (t := .int) (t' := (.array .int)) (by decide) (by decide)))
  have Fm_3 := Fm_2.other W3 (Or.inr (slot_ne (Or.inl (hw _ (List.mem_of_getElem? (i := 22) rfl))) (Or.inl (hw _ (List.mem_of_getElem? (i := 12) rfl))) (by decide) (t := (.array .int)) (t' := (.array .int)) (by decide) (by decide)))
  have EX_3 := EX_2.wr W3
  have sz3 := Nat.le_trans sz2 (Keep.of_wr W3).1
  have K3 := K2.wr W3 (Or.inl (List.mem_of_getElem? (i := 0) rfl))
  have N3 := Fr.snoc X3 N0 fr_a1
  refine own_st st3 ?_
  show own_Go p e below s _ _ _ (T3.setTop (mkF m 13 #[.val (.ref a1), .val (.int p2)] []))
  refine own_st (fun _ kont => XS.aloadN X3.here hx rfl (hb hby own_d1_13) rfl rfl kont) ?_
  show own_Go p e below s _ _ _ (T3.setTop (mkF m 14 #[.val (.ref a1), .val (.int p2)] [(.ref a1)]))
  refine own_st (fun _ kont => XS.iloadN X3.here hx rfl (hb hby own_d1_14) rfl kont) ?_
  show own_Go p e below s _ _ _ (T3.setTop (mkF m 15 #[.val (.ref a1), .val (.int p2)] [(.int p2), (.ref a1)]))
  obtain ⟨T4, h4, X4, e4, W4, st4⟩ := putF X3 hx hZ hown (host := "") (Or.inl (hw _ (List.mem_of_getElem? (i := 13) rfl))) Via.refl e3 Fw_3 EX_3 (Or.inr ⟨(hw _ (List.mem_of_getElem? (i := 14) rfl)), rfl, hnm⟩) (hw _ (List.mem_of_getElem? (i := 3) rfl)) (ty := .int) (by decide) rfl rfl (g := (mkF m 15 #[.val (.ref a1), .val (.int p2)] [(.int p2), (.ref a1)])) rfl rfl (hb hby own_d1_15)
  have Fw_4 := Fw_3.same W4
  have Fm_4 := Fm_3.other W4 (Or.inr (slot_ne (Or.inl (hw _ (List.mem_of_getElem? (i := 22) rfl))) (Or.inr (hw _ (List.mem_of_getElem? (i := 14) rfl))) (by decide) (t := (.array .int)) (t' := .int) (by decide) (by decide)))
  have EX_4 := EX_3.wr W4
  have Fs_4 := Fs_3.other W4 (Or.inr (slot_ne (Or.inl (hw _ (List.mem_of_getElem? (i := 12) rfl))) (Or.inr (hw _ (List.mem_of_getElem? (i := 14) rfl))) (by decide) (t := (.array .int)) (t' := .int) (by decide) (by decide)))
  have sz4 := Nat.le_trans sz3 (Keep.of_wr W4).1
  have K4 := K3.wr W4 (Or.inl (List.mem_of_getElem? (i := 0) rfl))
  have N4 := Fr.snoc X4 N3 fr_a1
  refine own_st st4 ?_
  show own_Go p e below s _ _ _ (T4.setTop (mkF m 18 #[.val (.ref a1), .val (.int p2)] []))
  refine own_st (fun _ kont => XS.aloadN X4.here hx rfl (hb hby own_d1_18) rfl rfl kont) ?_
  show own_Go p e below s _ _ _ (T4.setTop (mkF m 19 #[.val (.ref a1), .val (.int p2)] [(.ref a1)]))
  refine own_st (fun _ kont => X4.ldc2Long hx hown (mvT hZ (hw _ (List.mem_of_getElem? (i := 15) rfl))) (g := (mkF m 19 #[.val (.ref a1), .val (.int p2)] [(.ref a1)])) rfl (hb hby own_d1_19) _ kont) ?_
  show own_Go p e below s _ _ _ (T4.setTop (mkF m 22 #[.val (.ref a1), .val (.int p2)] [(.long (64 : Int64)), (.ref a1)]))
  refine own_st (fun _ kont => XS.iloadN X4.here hx rfl (hb hby own_d1_22) rfl kont) ?_
  show own_Go p e below s _ _ _ (T4.setTop (mkF m 23 #[.val (.ref a1), .val (.int p2)] [(.int p2), (.long (64 : Int64)), (.ref a1)]))
  refine own_st (fun _ kont => XS.i2l X4.here hx rfl (hb hby own_d1_23) rfl kont) ?_
  show own_Go p e below s _ _ _ (T4.setTop (mkF m 24 #[.val (.ref a1), .val (.int p2)] [(.long (p2).toInt64), (.long (64 : Int64)), (.ref a1)]))
  refine own_st (fun _ kont => XS.lmul X4.here hx rfl (hb hby own_d1_24) rfl kont) ?_
  show own_Go p e below s _ _ _ (T4.setTop (mkF m 25 #[.val (.ref a1), .val (.int p2)] [(.long ((64 : Int64) * (p2).toInt64)), (.ref a1)]))
  refine own_st (fun _ kont => X4.ldc2Long hx hown (mvT hZ (hw _ (List.mem_of_getElem? (i := 16) rfl))) (g := (mkF m 25 #[.val (.ref a1), .val (.int p2)] [(.long ((64 : Int64) * (p2).toInt64)), (.ref a1)])) rfl (hb hby own_d1_25) _ kont) ?_
  show own_Go p e below s _ _ _ (T4.setTop (mkF m 28 #[.val (.ref a1), .val (.int p2)] [(.long (2147483639 : Int64)), (.long ((64 : Int64) * (p2).toInt64)), (.ref a1)]))
  refine own_cS X4 hx hml hZ hown (hw _ (List.mem_of_getElem? (i := 17) rfl)) (hw _ (List.mem_of_getElem? (i := 18) rfl)) (hw _ (List.mem_of_getElem? (i := 19) rfl)) (hw _ (List.mem_of_getElem? (i := 20) rfl)) (by decide) (own_rm1 l Z a0 hw ((64 : Int64) * (p2).toInt64) (2147483639 : Int64) h4 n0 sz4) e4 (by decide) (W := 1) (by decide) (g := (mkF m 28 #[.val (.ref a1), .val (.int p2)] [(.long (2147483639 : Int64)), (.long ((64 : Int64) * (p2).toInt64)), (.ref a1)])) rfl rfl own_pd0 (argsL := [(.long ((64 : Int64) * (p2).toInt64)), (.long (2147483639 : Int64))]) (rest := [(.ref a1)]) rfl rfl rfl (by show 2 * 0 + _ ≤ _; exact Nat.le_of_eq rfl) (hb hby own_d1_28) (by decide) (by decide) ?_
  intro T5 L5 v5 X5 hQ5
  obtain ⟨rfl, eh5, le5⟩ := hQ5
  have N5 := own_nil N4 le5
  show own_Go p e below s _ _ _ (T5.setTop (mkF m 31 #[.val (.ref a1), .val (.int p2)] [(.long (own_minL ((64 : Int64) * (p2).toInt64) (2147483639 : Int64))), (.ref a1)]))
  refine own_st (fun _ kont => XS.l2i X5.here hx rfl (hb hby own_d1_31) rfl kont) ?_
  show own_Go p e below s _ _ _ (T5.setTop (mkF m 32 #[.val (.ref a1), .val (.int p2)] [(.int ((own_minL ((64 : Int64) * (p2).toInt64) (2147483639 : Int64))).toInt32), (.ref a1)]))
  obtain ⟨T6, h6, b2, g6, X6, e6, E6, Vb2, st6⟩ := own_newA X5 hx hZ (hw _ (List.mem_of_getElem? (i := 0) rfl)) eh5 (g := (mkF m 32 #[.val (.ref a1), .val (.int p2)] [(.int ((own_minL ((64 : Int64) * (p2).toInt64) (2147483639 : Int64))).toInt32), (.ref a1)])) rfl (hb hby own_d1_32) rfl (n := (64 * n)) (cap := 192) (own_cap hn hn3) (by omega) (by decide) (by decide) (by decide)
  replace Vb2 : own_Av Z h6 b2 .int (64 * n) (fun _ => .int 0) := Vb2
  have ne_a1_b2 : a1 ≠ b2 := Nat.ne_of_lt (Nat.lt_of_lt_of_eq Fm_4.lt g6.symm)
  have fr_b2 : n0 ≤ b2 := Nat.le_trans sz4 (Nat.le_of_eq g6.symm)
  have sk_b2 : h0.size ≤ b2 := Nat.le_trans K4.1 (Nat.le_of_eq g6.symm)
  have Fm_6 := Fm_4.ext E6
  have EX_6 := EX_4.ext E6
  have Fs_6 := Fs_4.ext E6
  have Fw_6 := Fw_4.ext E6
  have sz6 := Nat.le_trans sz4 E6.1
  have K6 := K4.ext E6
  refine own_st st6 ?_
  show own_Go p e below s _ _ _ (T6.setTop (mkF m 34 #[.val (.ref a1), .val (.int p2)] [(.ref b2), (.ref a1)]))
  obtain ⟨T7, h7, X7, e7, W7, st7⟩ := putF X6 hx hZ hown (host := "") (Or.inl (hw _ (List.mem_of_getElem? (i := 21) rfl))) Via.refl e6 Fm_6 EX_6 (Or.inl (hw _ (List.mem_of_getElem? (i := 22) rfl))) (hw _ (List.mem_of_getElem? (i := 3) rfl)) (ty := (.array .int)) (by decide) rfl rfl (g := (mkF m 34 #[.val (.ref a1), .val (.int p2)] [(.ref b2), (.ref a1)])) rfl rfl (hb hby own_d1_34)
  have Fm_7 := Fm_6.same W7
  have EX_7 := EX_6.wr W7
  have Fs_7 := Fs_6.other W7 (Or.inr (slot_ne (Or.inl (hw _ (List.mem_of_getElem? (i := 12) rfl))) (Or.inl (hw _ (List.mem_of_getElem? (i := 22) rfl))) (by decide) (t := (.array .int)) (t' := (.array .int)) (by decide) (by decide)))
  have Fw_7 := Fw_6.other W7 (Or.inr (slot_ne (Or.inr (hw _ (List.mem_of_getElem? (i := 14) rfl))) (Or.inl (hw _ (List.mem_of_getElem? (i := 22) rfl))) (by decide) (t := .int) (t' := (.array .int)) (by decide) (by decide)))
  have sz7 := Nat.le_trans sz6 (Keep.of_wr W7).1
  have K7 := K6.wr W7 (Or.inl (List.mem_of_getElem? (i := 0) rfl))
  have N7 := Fr.snoc X7 N5 fr_a1
  refine own_st st7 ?_
  show own_Go p e below s _ _ _ (T7.setTop (mkF m 37 #[.val (.ref a1), .val (.int p2)] []))
  exact own_endV X7 hx hlk hret (hb hby own_d1_37) (by rw [e7]; exact ⟨rfl, N7, K7, Fw_7⟩) (by decide) (by decide)
theorem own_d2_0 : decode prog_50_method_7_code 0 = .ok (.iconst 0, 1) := by decide +kernel
theorem own_d2_1 : decode prog_50_method_7_code 1 = .ok (.istore_n 3, 1) := by decide +kernel
theorem own_d2_2 : decode prog_50_method_7_code 2 = .ok (.iconst 0, 1) := by decide +kernel
theorem own_d2_3 : decode prog_50_method_7_code 3 = .ok (.istore 4, 2) := by decide +kernel
theorem own_d2_5 : decode prog_50_method_7_code 5 = .ok (.iload 4, 2) := by decide +kernel
theorem own_d2_7 : decode prog_50_method_7_code 7 = .ok (.aload_n 0, 1) := by decide +kernel
theorem own_d2_8 : decode prog_50_method_7_code 8 = .ok (.getfield 15, 3) := by decide +kernel
theorem own_d2_11 : decode prog_50_method_7_code 11 = .ok (.if_icmp .ge 21, 3) := by decide +kernel
theorem own_d2_14 : decode prog_50_method_7_code 14 = .ok (.iload_n 3, 1) := by decide +kernel
theorem own_d2_15 : decode prog_50_method_7_code 15 = .ok (.ldc 73, 2) := by decide +kernel
theorem own_d2_17 : decode prog_50_method_7_code 17 = .ok (.imul, 1) := by decide +kernel
theorem own_d2_18 : decode prog_50_method_7_code 18 = .ok (.aload_n 1, 1) := by decide +kernel
theorem own_d2_19 : decode prog_50_method_7_code 19 = .ok (.iload_n 2, 1) := by decide +kernel
theorem own_d2_20 : decode prog_50_method_7_code 20 = .ok (.iload 4, 2) := by decide +kernel
theorem own_d2_22 : decode prog_50_method_7_code 22 = .ok (.iadd, 1) := by decide +kernel
theorem own_d2_23 : decode prog_50_method_7_code 23 = .ok (.iaload, 1) := by decide +kernel
theorem own_d2_24 : decode prog_50_method_7_code 24 = .ok (.iadd, 1) := by decide +kernel
theorem own_d2_25 : decode prog_50_method_7_code 25 = .ok (.istore_n 3, 1) := by decide +kernel
theorem own_d2_26 : decode prog_50_method_7_code 26 = .ok (.iinc 4 1, 3) := by decide +kernel
theorem own_d2_29 : decode prog_50_method_7_code 29 = .ok (.goto (-24), 3) := by decide +kernel
theorem own_d2_32 : decode prog_50_method_7_code 32 = .ok (.iload_n 3, 1) := by decide +kernel
theorem own_d2_33 : decode prog_50_method_7_code 33 = .ok (.iload_n 3, 1) := by decide +kernel
theorem own_d2_34 : decode prog_50_method_7_code 34 = .ok (.bipush 16, 2) := by decide +kernel
theorem own_d2_36 : decode prog_50_method_7_code 36 = .ok (.iushr, 1) := by decide +kernel
theorem own_d2_37 : decode prog_50_method_7_code 37 = .ok (.ixor, 1) := by decide +kernel
theorem own_d2_38 : decode prog_50_method_7_code 38 = .ok (.istore_n 3, 1) := by decide +kernel
theorem own_d2_39 : decode prog_50_method_7_code 39 = .ok (.iload_n 3, 1) := by decide +kernel
theorem own_d2_40 : decode prog_50_method_7_code 40 = .ok (.ldc 74, 2) := by decide +kernel
theorem own_d2_42 : decode prog_50_method_7_code 42 = .ok (.imul, 1) := by decide +kernel
theorem own_d2_43 : decode prog_50_method_7_code 43 = .ok (.istore_n 3, 1) := by decide +kernel
theorem own_d2_44 : decode prog_50_method_7_code 44 = .ok (.iload_n 3, 1) := by decide +kernel
theorem own_d2_45 : decode prog_50_method_7_code 45 = .ok (.iload_n 3, 1) := by decide +kernel
theorem own_d2_46 : decode prog_50_method_7_code 46 = .ok (.bipush 13, 2) := by decide +kernel
theorem own_d2_48 : decode prog_50_method_7_code 48 = .ok (.iushr, 1) := by decide +kernel
theorem own_d2_49 : decode prog_50_method_7_code 49 = .ok (.ixor, 1) := by decide +kernel
theorem own_d2_50 : decode prog_50_method_7_code 50 = .ok (.istore_n 3, 1) := by decide +kernel
theorem own_d2_51 : decode prog_50_method_7_code 51 = .ok (.iload_n 3, 1) := by decide +kernel
theorem own_d2_52 : decode prog_50_method_7_code 52 = .ok (.ldc 75, 2) := by decide +kernel
theorem own_d2_54 : decode prog_50_method_7_code 54 = .ok (.imul, 1) := by decide +kernel
theorem own_d2_55 : decode prog_50_method_7_code 55 = .ok (.istore_n 3, 1) := by decide +kernel
theorem own_d2_56 : decode prog_50_method_7_code 56 = .ok (.iload_n 3, 1) := by decide +kernel
theorem own_d2_57 : decode prog_50_method_7_code 57 = .ok (.iload_n 3, 1) := by decide +kernel
theorem own_d2_58 : decode prog_50_method_7_code 58 = .ok (.bipush 16, 2) := by decide +kernel
theorem own_d2_60 : decode prog_50_method_7_code 60 = .ok (.iushr, 1) := by decide +kernel
theorem own_d2_61 : decode prog_50_method_7_code 61 = .ok (.ixor, 1) := by decide +kernel
theorem own_d2_62 : decode prog_50_method_7_code 62 = .ok (.istore_n 3, 1) := by decide +kernel
theorem own_d2_63 : decode prog_50_method_7_code 63 = .ok (.iload_n 3, 1) := by decide +kernel
theorem own_d2_64 : decode prog_50_method_7_code 64 = .ok (.ireturn, 1) := by decide +kernel
theorem own_pn2 : plainFor (⟨"com/example/interpres/interpres/netsemantics/MarkingIndex", "hash", "([II)I"⟩ : MethodName) = true := by first | exact plainFor_of_name (show plainName "com/example/interpres/interpres/netsemantics/MarkingIndex" = true by first | (simp [plainName, overriddenIn]; done) | decide +kernel) | decide +kernel
theorem own_ef2 (m : MethodId) (x0 : Addr) (x1 : Addr) (x2 : Int32) : entryFrame m #[(.ref x0), (.ref x1), (.int x2)] 5 = mkF m 0 #[.val (.ref x0), .val (.ref x1), .val (.int x2), .unset, .unset] [] := by first | (simp [entryFrame, mkF, argsToLocals, Value.category]; done) | rfl
set_option maxRecDepth 65536 in
set_option maxHeartbeats 40000000 in
theorem own_rm3 (l : Launch) (Z : State) (a0 : Array Value) (hw : ∀ d ∈ tables_1, d.before a0 Z = true) (a1 a2 : Addr) (p3 wd : Int32) (f : Nat → Int32) (o n : Nat) (h0 : Heap) (n0 : Nat) (Z0 : n0 ≤ h0.size) (V : own_Av Z h0 a2 .int 5 (fun t => .int (f t))) (Fw : Fld Z h0 a1 "com/example/interpres/interpres/netsemantics/MarkingIndex" "width" "I" (.int wd)) (ho : p3.toInt = (o : Int)) (hn : wd.toInt = (n : Int)) (h5 : o + n ≤ 5) :
    own_Met l Z (⟨"com/example/interpres/interpres/netsemantics/MarkingIndex", "hash", "([II)I"⟩ : MethodName) prog_50_method_7_code 5 (some .int) ({ frames := 0, cells := 0, slots := 0, locals := 0 } : Room) #[(.ref a1), (.ref a2), (.int p3)] h0 (fun v h' L => v = some (.int (own_mix (own_hs f o n))) ∧ h' = h0 ∧ L = []) := by
  refine own_in own_pn2 ?_
  intro p e s m below meth c s₁ hx hby hml hown hnm hlk hret hZ X0 e0
  have N0 := Fr.nil n0
  refine own_ef (own_ef2 m a1 a2 p3) ?_
  show own_Go p e below s _ _ _ (s₁.setTop (mkF m 0 #[.val (.ref a1), .val (.ref a2), .val (.int p3), .unset, .unset] []))
  refine own_st (fun _ kont => XS.iconst X0.here hx rfl (hb hby own_d2_0) kont) ?_
  show own_Go p e below s _ _ _ (s₁.setTop (mkF m 1 #[.val (.ref a1), .val (.ref a2), .val (.int p3), .unset, .unset] [(.int (0 : Int32))]))
  refine own_st (fun _ kont => XS.istoreN X0.here hx rfl (hb hby own_d2_1) rfl (l' := #[.val (.ref a1), .val (.ref a2), .val (.int p3), .val (.int (0 : Int32)), .unset]) rfl kont) ?_
  show own_Go p e below s _ _ _ (s₁.setTop (mkF m 2 #[.val (.ref a1), .val (.ref a2), .val (.int p3), .val (.int (0 : Int32)), .unset] []))
  refine own_st (fun _ kont => XS.iconst X0.here hx rfl (hb hby own_d2_2) kont) ?_
  show own_Go p e below s _ _ _ (s₁.setTop (mkF m 3 #[.val (.ref a1), .val (.ref a2), .val (.int p3), .val (.int (0 : Int32)), .unset] [(.int (0 : Int32))]))
  refine own_st (fun _ kont => XS.istore X0.here hx rfl (hb hby own_d2_3) rfl (l' := #[.val (.ref a1), .val (.ref a2), .val (.int p3), .val (.int (0 : Int32)), .val (.int (0 : Int32))]) rfl kont) ?_
  show own_Go p e below s _ _ _ (s₁.setTop (mkF m 5 #[.val (.ref a1), .val (.ref a2), .val (.int p3), .val (.int (0 : Int32)), .val (.int (0 : Int32))] []))
  have loop : ∀ (r k : Nat) (cur acc : Int32) (Tl : State), k + r = n → cur.toInt = (k : Int) → acc = own_hs f o k → Stand p l e ({ frames := 0, cells := 0, slots := 0, locals := 0 } : Room) s m #[(.ref a1), (.ref a2), (.int p3)] below meth c Tl [] 0 0 → Tl.heap = h0 → own_Go p e below s (fun v h' L => v = some (.int (own_mix (own_hs f o n))) ∧ h' = h0 ∧ L = []) ({ frames := 0, cells := 0, slots := 0, locals := 0 } : Room).cells ({ frames := 0, cells := 0, slots := 0, locals := 0 } : Room).slots (Tl.setTop (mkF m 5 #[.val (.ref a1), .val (.ref a2), .val (.int p3), .val (.int acc), .val (.int cur)] [])) := by
    intro r
    induction r with
    | zero =>
      intro k cur acc Tl hk hc ha Xl el
      show own_Go p e below s _ _ _ (Tl.setTop (mkF m 5 #[.val (.ref a1), .val (.ref a2), .val (.int p3), .val (.int acc), .val (.int cur)] []))
      refine own_st (fun _ kont => XS.iload Xl.here hx rfl (hb hby own_d2_5) rfl kont) ?_
      show own_Go p e below s _ _ _ (Tl.setTop (mkF m 7 #[.val (.ref a1), .val (.ref a2), .val (.int p3), .val (.int acc), .val (.int cur)] [(.int cur)]))
      refine own_st (fun _ kont => XS.aloadN Xl.here hx rfl (hb hby own_d2_7) rfl rfl kont) ?_
      show own_Go p e below s _ _ _ (Tl.setTop (mkF m 8 #[.val (.ref a1), .val (.ref a2), .val (.int p3), .val (.int acc), .val (.int cur)] [(.ref a1), (.int cur)]))
      obtain ⟨T1, X1, e1, st1⟩ := getF Xl hx hZ hown (host := "") (Or.inl (hw _ (List.mem_of_getElem? (i := 13) rfl))) Via.refl el Fw (g := (mkF m 8 #[.val (.ref a1), .val (.ref a2), .val (.int p3), .val (.int acc), .val (.int cur)] [(.ref a1), (.int cur)])) rfl rfl (hb hby own_d2_8)
      refine own_st st1 ?_
      show own_Go p e below s _ _ _ (T1.setTop (mkF m 11 #[.val (.ref a1), .val (.ref a2), .val (.int p3), .val (.int acc), .val (.int cur)] [(.int wd), (.int cur)]))
      refine own_st (fun _ kont => XS.icmpYes X1.here hx rfl (pc0 := 11) (pc' := 32) rfl (hb hby own_d2_11) rfl (flt (fun u => by rw [own_lt32, hc, hn] at u; omega)).2.1 (by decide) (by decide) kont) ?_
      show own_Go p e below s _ _ _ (T1.setTop (mkF m 32 #[.val (.ref a1), .val (.ref a2), .val (.int p3), .val (.int acc), .val (.int cur)] []))
      refine own_st (fun _ kont => XS.iloadN X1.here hx rfl (hb hby own_d2_32) rfl kont) ?_
      show own_Go p e below s _ _ _ (T1.setTop (mkF m 33 #[.val (.ref a1), .val (.ref a2), .val (.int p3), .val (.int acc), .val (.int cur)] [(.int acc)]))
      refine own_st (fun _ kont => XS.iloadN X1.here hx rfl (hb hby own_d2_33) rfl kont) ?_
      show own_Go p e below s _ _ _ (T1.setTop (mkF m 34 #[.val (.ref a1), .val (.ref a2), .val (.int p3), .val (.int acc), .val (.int cur)] [(.int acc), (.int acc)]))
      refine own_st (fun _ kont => XS.bipush X1.here hx rfl (hb hby own_d2_34) kont) ?_
      show own_Go p e below s _ _ _ (T1.setTop (mkF m 36 #[.val (.ref a1), .val (.ref a2), .val (.int p3), .val (.int acc), .val (.int cur)] [(.int (16 : Int32)), (.int acc), (.int acc)]))
      refine own_st (fun _ kont => XT.iushr X1.here hx rfl (hb hby own_d2_36) rfl kont) ?_
      show own_Go p e below s _ _ _ (T1.setTop (mkF m 37 #[.val (.ref a1), .val (.ref a2), .val (.int p3), .val (.int acc), .val (.int cur)] [(.int (XT.ushr acc (16 : Int32))), (.int acc)]))
      refine own_st (fun _ kont => XS.ixor X1.here hx rfl (hb hby own_d2_37) rfl kont) ?_
      show own_Go p e below s _ _ _ (T1.setTop (mkF m 38 #[.val (.ref a1), .val (.ref a2), .val (.int p3), .val (.int acc), .val (.int cur)] [(.int (acc ^^^ (XT.ushr acc (16 : Int32))))]))
      refine own_st (fun _ kont => XS.istoreN X1.here hx rfl (hb hby own_d2_38) rfl (l' := #[.val (.ref a1), .val (.ref a2), .val (.int p3), .val (.int (acc ^^^ (XT.ushr acc (16 : Int32)))), .val (.int cur)]) rfl kont) ?_
      show own_Go p e below s _ _ _ (T1.setTop (mkF m 39 #[.val (.ref a1), .val (.ref a2), .val (.int p3), .val (.int (acc ^^^ (XT.ushr acc (16 : Int32)))), .val (.int cur)] []))
      refine own_st (fun _ kont => XS.iloadN X1.here hx rfl (hb hby own_d2_39) rfl kont) ?_
      show own_Go p e below s _ _ _ (T1.setTop (mkF m 40 #[.val (.ref a1), .val (.ref a2), .val (.int p3), .val (.int (acc ^^^ (XT.ushr acc (16 : Int32)))), .val (.int cur)] [(.int (acc ^^^ (XT.ushr acc (16 : Int32))))]))
      refine own_st (fun _ kont => X1.ldcInt hx hown (mvT hZ (hw _ (List.mem_of_getElem? (i := 28) rfl))) (g := (mkF m 40 #[.val (.ref a1), .val (.ref a2), .val (.int p3), .val (.int (acc ^^^ (XT.ushr acc (16 : Int32)))), .val (.int cur)] [(.int (acc ^^^ (XT.ushr acc (16 : Int32))))])) rfl (hb hby own_d2_40) _ kont) ?_
      show own_Go p e below s _ _ _ (T1.setTop (mkF m 42 #[.val (.ref a1), .val (.ref a2), .val (.int p3), .val (.int (acc ^^^ (XT.ushr acc (16 : Int32)))), .val (.int cur)] [(.int (-2048144789 : Int32)), (.int (acc ^^^ (XT.ushr acc (16 : Int32))))]))
      refine own_st (fun _ kont => XS.imul X1.here hx rfl (hb hby own_d2_42) rfl kont) ?_
      show own_Go p e below s _ _ _ (T1.setTop (mkF m 43 #[.val (.ref a1), .val (.ref a2), .val (.int p3), .val (.int (acc ^^^ (XT.ushr acc (16 : Int32)))), .val (.int cur)] [(.int ((acc ^^^ (XT.ushr acc (16 : Int32))) * (-2048144789 : Int32)))]))
      refine own_st (fun _ kont => XS.istoreN X1.here hx rfl (hb hby own_d2_43) rfl (l' := #[.val (.ref a1), .val (.ref a2), .val (.int p3), .val (.int ((acc ^^^ (XT.ushr acc (16 : Int32))) * (-2048144789 : Int32))), .val (.int cur)]) rfl kont) ?_
      show own_Go p e below s _ _ _ (T1.setTop (mkF m 44 #[.val (.ref a1), .val (.ref a2), .val (.int p3), .val (.int ((acc ^^^ (XT.ushr acc (16 : Int32))) * (-2048144789 : Int32))), .val (.int cur)] []))
      refine own_st (fun _ kont => XS.iloadN X1.here hx rfl (hb hby own_d2_44) rfl kont) ?_
      show own_Go p e below s _ _ _ (T1.setTop (mkF m 45 #[.val (.ref a1), .val (.ref a2), .val (.int p3), .val (.int ((acc ^^^ (XT.ushr acc (16 : Int32))) * (-2048144789 : Int32))), .val (.int cur)] [(.int ((acc ^^^ (XT.ushr acc (16 : Int32))) * (-2048144789 : Int32)))]))
      refine own_st (fun _ kont => XS.iloadN X1.here hx rfl (hb hby own_d2_45) rfl kont) ?_
      show own_Go p e below s _ _ _ (T1.setTop (mkF m 46 #[.val (.ref a1), .val (.ref a2), .val (.int p3), .val (.int ((acc ^^^ (XT.ushr acc (16 : Int32))) * (-2048144789 : Int32))), .val (.int cur)] [(.int ((acc ^^^ (XT.ushr acc (16 : Int32))) * (-2048144789 : Int32))), (.int ((acc ^^^ (XT.ushr acc (16 : Int32))) * (-2048144789 : Int32)))]))
      refine own_st (fun _ kont => XS.bipush X1.here hx rfl (hb hby own_d2_46) kont) ?_
      show own_Go p e below s _ _ _ (T1.setTop (mkF m 48 #[.val (.ref a1), .val (.ref a2), .val (.int p3), .val (.int ((acc ^^^ (XT.ushr acc (16 : Int32))) * (-2048144789 : Int32))), .val (.int cur)] [(.int (13 : Int32)), (.int ((acc ^^^ (XT.ushr acc (16 : Int32))) * (-2048144789 : Int32))), (.int ((acc ^^^ (XT.ushr acc (16 : Int32))) * (-2048144789 : Int32)))]))
      refine own_st (fun _ kont => XT.iushr X1.here hx rfl (hb hby own_d2_48) rfl kont) ?_
      show own_Go p e below s _ _ _ (T1.setTop (mkF m 49 #[.val (.ref a1), .val (.ref a2), .val (.int p3), .val (.int ((acc ^^^ (XT.ushr acc (16 : Int32))) * (-2048144789 : Int32))), .val (.int cur)] [(.int (XT.ushr ((acc ^^^ (XT.ushr acc (16 : Int32))) * (-2048144789 : Int32)) (13 : Int32))), (.int ((acc ^^^ (XT.ushr acc (16 : Int32))) * (-2048144789 : Int32)))]))
      refine own_st (fun _ kont => XS.ixor X1.here hx rfl (hb hby own_d2_49) rfl kont) ?_
      show own_Go p e below s _ _ _ (T1.setTop (mkF m 50 #[.val (.ref a1), .val (.ref a2), .val (.int p3), .val (.int ((acc ^^^ (XT.ushr acc (16 : Int32))) * (-2048144789 : Int32))), .val (.int cur)] [(.int (((acc ^^^ (XT.ushr acc (16 : Int32))) * (-2048144789 : Int32)) ^^^ (XT.ushr ((acc ^^^ (XT.ushr acc (16 : Int32))) * (-2048144789 : Int32)) (13 : Int32))))]))
      refine own_st (fun _ kont => XS.istoreN X1.here hx rfl (hb hby own_d2_50) rfl (l' := #[.val (.ref a1), .val (.ref a2), .val (.int p3), .val (.int (((acc ^^^ (XT.ushr acc (16 : Int32))) * (-2048144789 : Int32)) ^^^ (XT.ushr ((acc ^^^ (XT.ushr acc (16 : Int32))) * (-2048144789 : Int32)) (13 : Int32)))), .val (.int cur)]) rfl kont) ?_
      show own_Go p e below s _ _ _ (T1.setTop (mkF m 51 #[.val (.ref a1), .val (.ref a2), .val (.int p3), .val (.int (((acc ^^^ (XT.ushr acc (16 : Int32))) * (-2048144789 : Int32)) ^^^ (XT.ushr ((acc ^^^ (XT.ushr acc (16 : Int32))) * (-2048144789 : Int32)) (13 : Int32)))), .val (.int cur)] []))
      refine own_st (fun _ kont => XS.iloadN X1.here hx rfl (hb hby own_d2_51) rfl kont) ?_
      show own_Go p e below s _ _ _ (T1.setTop (mkF m 52 #[.val (.ref a1), .val (.ref a2), .val (.int p3), .val (.int (((acc ^^^ (XT.ushr acc (16 : Int32))) * (-2048144789 : Int32)) ^^^ (XT.ushr ((acc ^^^ (XT.ushr acc (16 : Int32))) * (-2048144789 : Int32)) (13 : Int32)))), .val (.int cur)] [(.int (((acc ^^^ (XT.ushr acc (16 : Int32))) * (-2048144789 : Int32)) ^^^ (XT.ushr ((acc ^^^ (XT.ushr acc (16 : Int32))) * (-2048144789 : Int32)) (13 : Int32))))]))
      refine own_st (fun _ kont => X1.ldcInt hx hown (mvT hZ (hw _ (List.mem_of_getElem? (i := 29) rfl))) (g := (mkF m 52 #[.val (.ref a1), .val (.ref a2), .val (.int p3), .val (.int (((acc ^^^ (XT.ushr acc (16 : Int32))) * (-2048144789 : Int32)) ^^^ (XT.ushr ((acc ^^^ (XT.ushr acc (16 : Int32))) * (-2048144789 : Int32)) (13 : Int32)))), .val (.int cur)] [(.int (((acc ^^^ (XT.ushr acc (16 : Int32))) * (-2048144789 : Int32)) ^^^ (XT.ushr ((acc ^^^ (XT.ushr acc (16 : Int32))) * (-2048144789 : Int32)) (13 : Int32))))])) rfl (hb hby own_d2_52) _ kont) ?_
      show own_Go p e below s _ _ _ (T1.setTop (mkF m 54 #[.val (.ref a1), .val (.ref a2), .val (.int p3), .val (.int (((acc ^^^ (XT.ushr acc (16 : Int32))) * (-2048144789 : Int32)) ^^^ (XT.ushr ((acc ^^^ (XT.ushr acc (16 : Int32))) * (-2048144789 : Int32)) (13 : Int32)))), .val (.int cur)] [(.int (-1028477387 : Int32)), (.int (((acc ^^^ (XT.ushr acc (16 : Int32))) * (-2048144789 : Int32)) ^^^ (XT.ushr ((acc ^^^ (XT.ushr acc (16 : Int32))) * (-2048144789 : Int32)) (13 : Int32))))]))
      refine own_st (fun _ kont => XS.imul X1.here hx rfl (hb hby own_d2_54) rfl kont) ?_
      show own_Go p e below s _ _ _ (T1.setTop (mkF m 55 #[.val (.ref a1), .val (.ref a2), .val (.int p3), .val (.int (((acc ^^^ (XT.ushr acc (16 : Int32))) * (-2048144789 : Int32)) ^^^ (XT.ushr ((acc ^^^ (XT.ushr acc (16 : Int32))) * (-2048144789 : Int32)) (13 : Int32)))), .val (.int cur)] [(.int ((((acc ^^^ (XT.ushr acc (16 : Int32))) * (-2048144789 : Int32)) ^^^ (XT.ushr ((acc ^^^ (XT.ushr acc (16 : Int32))) * (-2048144789 : Int32)) (13 : Int32))) * (-1028477387 : Int32)))]))
      refine own_st (fun _ kont => XS.istoreN X1.here hx rfl (hb hby own_d2_55) rfl (l' := #[.val (.ref a1), .val (.ref a2), .val (.int p3), .val (.int ((((acc ^^^ (XT.ushr acc (16 : Int32))) * (-2048144789 : Int32)) ^^^ (XT.ushr ((acc ^^^ (XT.ushr acc (16 : Int32))) * (-2048144789 : Int32)) (13 : Int32))) * (-1028477387 : Int32))), .val (.int cur)]) rfl kont) ?_
      show own_Go p e below s _ _ _ (T1.setTop (mkF m 56 #[.val (.ref a1), .val (.ref a2), .val (.int p3), .val (.int ((((acc ^^^ (XT.ushr acc (16 : Int32))) * (-2048144789 : Int32)) ^^^ (XT.ushr ((acc ^^^ (XT.ushr acc (16 : Int32))) * (-2048144789 : Int32)) (13 : Int32))) * (-1028477387 : Int32))), .val (.int cur)] []))
      refine own_st (fun _ kont => XS.iloadN X1.here hx rfl (hb hby own_d2_56) rfl kont) ?_
      show own_Go p e below s _ _ _ (T1.setTop (mkF m 57 #[.val (.ref a1), .val (.ref a2), .val (.int p3), .val (.int ((((acc ^^^ (XT.ushr acc (16 : Int32))) * (-2048144789 : Int32)) ^^^ (XT.ushr ((acc ^^^ (XT.ushr acc (16 : Int32))) * (-2048144789 : Int32)) (13 : Int32))) * (-1028477387 : Int32))), .val (.int cur)] [(.int ((((acc ^^^ (XT.ushr acc (16 : Int32))) * (-2048144789 : Int32)) ^^^ (XT.ushr ((acc ^^^ (XT.ushr acc (16 : Int32))) * (-2048144789 : Int32)) (13 : Int32))) * (-1028477387 : Int32)))]))
      refine own_st (fun _ kont => XS.iloadN X1.here hx rfl (hb hby own_d2_57) rfl kont) ?_
      show own_Go p e below s _ _ _ (T1.setTop (mkF m 58 #[.val (.ref a1), .val (.ref a2), .val (.int p3), .val (.int ((((acc ^^^ (XT.ushr acc (16 : Int32))) * (-2048144789 : Int32)) ^^^ (XT.ushr ((acc ^^^ (XT.ushr acc (16 : Int32))) * (-2048144789 : Int32)) (13 : Int32))) * (-1028477387 : Int32))), .val (.int cur)] [(.int ((((acc ^^^ (XT.ushr acc (16 : Int32))) * (-2048144789 : Int32)) ^^^ (XT.ushr ((acc ^^^ (XT.ushr acc (16 : Int32))) * (-2048144789 : Int32)) (13 : Int32))) * (-1028477387 : Int32))), (.int ((((acc ^^^ (XT.ushr acc (16 : Int32))) * (-2048144789 : Int32)) ^^^ (XT.ushr ((acc ^^^ (XT.ushr acc (16 : Int32))) * (-2048144789 : Int32)) (13 : Int32))) * (-1028477387 : Int32)))]))
      refine own_st (fun _ kont => XS.bipush X1.here hx rfl (hb hby own_d2_58) kont) ?_
      show own_Go p e below s _ _ _ (T1.setTop (mkF m 60 #[.val (.ref a1), .val (.ref a2), .val (.int p3), .val (.int ((((acc ^^^ (XT.ushr acc (16 : Int32))) * (-2048144789 : Int32)) ^^^ (XT.ushr ((acc ^^^ (XT.ushr acc (16 : Int32))) * (-2048144789 : Int32)) (13 : Int32))) * (-1028477387 : Int32))), .val (.int cur)] [(.int (16 : Int32)), (.int ((((acc ^^^ (XT.ushr acc (16 : Int32))) * (-2048144789 : Int32)) ^^^ (XT.ushr ((acc ^^^ (XT.ushr acc (16 : Int32))) * (-2048144789 : Int32)) (13 : Int32))) * (-1028477387 : Int32))), (.int ((((acc ^^^ (XT.ushr acc (16 : Int32))) * (-2048144789 : Int32)) ^^^ (XT.ushr ((acc ^^^ (XT.ushr acc (16 : Int32))) * (-2048144789 : Int32)) (13 : Int32))) * (-1028477387 : Int32)))]))
      refine own_st (fun _ kont => XT.iushr X1.here hx rfl (hb hby own_d2_60) rfl kont) ?_
      show own_Go p e below s _ _ _ (T1.setTop (mkF m 61 #[.val (.ref a1), .val (.ref a2), .val (.int p3), .val (.int ((((acc ^^^ (XT.ushr acc (16 : Int32))) * (-2048144789 : Int32)) ^^^ (XT.ushr ((acc ^^^ (XT.ushr acc (16 : Int32))) * (-2048144789 : Int32)) (13 : Int32))) * (-1028477387 : Int32))), .val (.int cur)] [(.int (XT.ushr ((((acc ^^^ (XT.ushr acc (16 : Int32))) * (-2048144789 : Int32)) ^^^ (XT.ushr ((acc ^^^ (XT.ushr acc (16 : Int32))) * (-2048144789 : Int32)) (13 : Int32))) * (-1028477387 : Int32)) (16 : Int32))), (.int ((((acc ^^^ (XT.ushr acc (16 : Int32))) * (-2048144789 : Int32)) ^^^ (XT.ushr ((acc ^^^ (XT.ushr acc (16 : Int32))) * (-2048144789 : Int32)) (13 : Int32))) * (-1028477387 : Int32)))]))
      refine own_st (fun _ kont => XS.ixor X1.here hx rfl (hb hby own_d2_61) rfl kont) ?_
      show own_Go p e below s _ _ _ (T1.setTop (mkF m 62 #[.val (.ref a1), .val (.ref a2), .val (.int p3), .val (.int ((((acc ^^^ (XT.ushr acc (16 : Int32))) * (-2048144789 : Int32)) ^^^ (XT.ushr ((acc ^^^ (XT.ushr acc (16 : Int32))) * (-2048144789 : Int32)) (13 : Int32))) * (-1028477387 : Int32))), .val (.int cur)] [(.int (((((acc ^^^ (XT.ushr acc (16 : Int32))) * (-2048144789 : Int32)) ^^^ (XT.ushr ((acc ^^^ (XT.ushr acc (16 : Int32))) * (-2048144789 : Int32)) (13 : Int32))) * (-1028477387 : Int32)) ^^^ (XT.ushr ((((acc ^^^ (XT.ushr acc (16 : Int32))) * (-2048144789 : Int32)) ^^^ (XT.ushr ((acc ^^^ (XT.ushr acc (16 : Int32))) * (-2048144789 : Int32)) (13 : Int32))) * (-1028477387 : Int32)) (16 : Int32))))]))
      refine own_st (fun _ kont => XS.istoreN X1.here hx rfl (hb hby own_d2_62) rfl (l' := #[.val (.ref a1), .val (.ref a2), .val (.int p3), .val (.int (((((acc ^^^ (XT.ushr acc (16 : Int32))) * (-2048144789 : Int32)) ^^^ (XT.ushr ((acc ^^^ (XT.ushr acc (16 : Int32))) * (-2048144789 : Int32)) (13 : Int32))) * (-1028477387 : Int32)) ^^^ (XT.ushr ((((acc ^^^ (XT.ushr acc (16 : Int32))) * (-2048144789 : Int32)) ^^^ (XT.ushr ((acc ^^^ (XT.ushr acc (16 : Int32))) * (-2048144789 : Int32)) (13 : Int32))) * (-1028477387 : Int32)) (16 : Int32)))), .val (.int cur)]) rfl kont) ?_
      show own_Go p e below s _ _ _ (T1.setTop (mkF m 63 #[.val (.ref a1), .val (.ref a2), .val (.int p3), .val (.int (((((acc ^^^ (XT.ushr acc (16 : Int32))) * (-2048144789 : Int32)) ^^^ (XT.ushr ((acc ^^^ (XT.ushr acc (16 : Int32))) * (-2048144789 : Int32)) (13 : Int32))) * (-1028477387 : Int32)) ^^^ (XT.ushr ((((acc ^^^ (XT.ushr acc (16 : Int32))) * (-2048144789 : Int32)) ^^^ (XT.ushr ((acc ^^^ (XT.ushr acc (16 : Int32))) * (-2048144789 : Int32)) (13 : Int32))) * (-1028477387 : Int32)) (16 : Int32)))), .val (.int cur)] []))
      refine own_st (fun _ kont => XS.iloadN X1.here hx rfl (hb hby own_d2_63) rfl kont) ?_
      show own_Go p e below s _ _ _ (T1.setTop (mkF m 64 #[.val (.ref a1), .val (.ref a2), .val (.int p3), .val (.int (((((acc ^^^ (XT.ushr acc (16 : Int32))) * (-2048144789 : Int32)) ^^^ (XT.ushr ((acc ^^^ (XT.ushr acc (16 : Int32))) * (-2048144789 : Int32)) (13 : Int32))) * (-1028477387 : Int32)) ^^^ (XT.ushr ((((acc ^^^ (XT.ushr acc (16 : Int32))) * (-2048144789 : Int32)) ^^^ (XT.ushr ((acc ^^^ (XT.ushr acc (16 : Int32))) * (-2048144789 : Int32)) (13 : Int32))) * (-1028477387 : Int32)) (16 : Int32)))), .val (.int cur)] [(.int (((((acc ^^^ (XT.ushr acc (16 : Int32))) * (-2048144789 : Int32)) ^^^ (XT.ushr ((acc ^^^ (XT.ushr acc (16 : Int32))) * (-2048144789 : Int32)) (13 : Int32))) * (-1028477387 : Int32)) ^^^ (XT.ushr ((((acc ^^^ (XT.ushr acc (16 : Int32))) * (-2048144789 : Int32)) ^^^ (XT.ushr ((acc ^^^ (XT.ushr acc (16 : Int32))) * (-2048144789 : Int32)) (13 : Int32))) * (-1028477387 : Int32)) (16 : Int32))))]))
      exact own_endI X1 hx hlk hret (hb hby own_d2_64) ⟨by rw [ha, show k = n by omega]; rfl, e1, rfl⟩ (by decide) (by decide)
    | succ r ih =>
      intro k cur acc Tl hk hc ha Xl el
      show own_Go p e below s _ _ _ (Tl.setTop (mkF m 5 #[.val (.ref a1), .val (.ref a2), .val (.int p3), .val (.int acc), .val (.int cur)] []))
      refine own_st (fun _ kont => XS.iload Xl.here hx rfl (hb hby own_d2_5) rfl kont) ?_
      show own_Go p e below s _ _ _ (Tl.setTop (mkF m 7 #[.val (.ref a1), .val (.ref a2), .val (.int p3), .val (.int acc), .val (.int cur)] [(.int cur)]))
      refine own_st (fun _ kont => XS.aloadN Xl.here hx rfl (hb hby own_d2_7) rfl rfl kont) ?_
      show own_Go p e below s _ _ _ (Tl.setTop (mkF m 8 #[.val (.ref a1), .val (.ref a2), .val (.int p3), .val (.int acc), .val (.int cur)] [(.ref a1), (.int cur)]))
      obtain ⟨T2, X2, e2, st2⟩ := getF Xl hx hZ hown (host := "") (Or.inl (hw _ (List.mem_of_getElem? (i := 13) rfl))) Via.refl el Fw (g := (mkF m 8 #[.val (.ref a1), .val (.ref a2), .val (.int p3), .val (.int acc), .val (.int cur)] [(.ref a1), (.int cur)])) rfl rfl (hb hby own_d2_8)
      refine own_st st2 ?_
      show own_Go p e below s _ _ _ (T2.setTop (mkF m 11 #[.val (.ref a1), .val (.ref a2), .val (.int p3), .val (.int acc), .val (.int cur)] [(.int wd), (.int cur)]))
      refine own_st (fun _ kont => XS.icmpNo X2.here hx rfl (hb hby own_d2_11) rfl (tlt (own_lt32.mpr (by rw [hc, hn]; omega))).2.1 kont) ?_
      show own_Go p e below s _ _ _ (T2.setTop (mkF m 14 #[.val (.ref a1), .val (.ref a2), .val (.int p3), .val (.int acc), .val (.int cur)] []))
      refine own_st (fun _ kont => XS.iloadN X2.here hx rfl (hb hby own_d2_14) rfl kont) ?_
      show own_Go p e below s _ _ _ (T2.setTop (mkF m 15 #[.val (.ref a1), .val (.ref a2), .val (.int p3), .val (.int acc), .val (.int cur)] [(.int acc)]))
      refine own_st (fun _ kont => X2.ldcInt hx hown (mvT hZ (hw _ (List.mem_of_getElem? (i := 36) rfl))) (g := (mkF m 15 #[.val (.ref a1), .val (.ref a2), .val (.int p3), .val (.int acc), .val (.int cur)] [(.int acc)])) rfl (hb hby own_d2_15) _ kont) ?_
      show own_Go p e below s _ _ _ (T2.setTop (mkF m 17 #[.val (.ref a1), .val (.ref a2), .val (.int p3), .val (.int acc), .val (.int cur)] [(.int (-1640531527 : Int32)), (.int acc)]))
      refine own_st (fun _ kont => XS.imul X2.here hx rfl (hb hby own_d2_17) rfl kont) ?_
      show own_Go p e below s _ _ _ (T2.setTop (mkF m 18 #[.val (.ref a1), .val (.ref a2), .val (.int p3), .val (.int acc), .val (.int cur)] [(.int (acc * (-1640531527 : Int32)))]))
      refine own_st (fun _ kont => XS.aloadN X2.here hx rfl (hb hby own_d2_18) rfl rfl kont) ?_
      show own_Go p e below s _ _ _ (T2.setTop (mkF m 19 #[.val (.ref a1), .val (.ref a2), .val (.int p3), .val (.int acc), .val (.int cur)] [(.ref a2), (.int (acc * (-1640531527 : Int32)))]))
      refine own_st (fun _ kont => XS.iloadN X2.here hx rfl (hb hby own_d2_19) rfl kont) ?_
      show own_Go p e below s _ _ _ (T2.setTop (mkF m 20 #[.val (.ref a1), .val (.ref a2), .val (.int p3), .val (.int acc), .val (.int cur)] [(.int p3), (.ref a2), (.int (acc * (-1640531527 : Int32)))]))
      refine own_st (fun _ kont => XS.iload X2.here hx rfl (hb hby own_d2_20) rfl kont) ?_
      show own_Go p e below s _ _ _ (T2.setTop (mkF m 22 #[.val (.ref a1), .val (.ref a2), .val (.int p3), .val (.int acc), .val (.int cur)] [(.int cur), (.int p3), (.ref a2), (.int (acc * (-1640531527 : Int32)))]))
      refine own_st (fun _ kont => XS.iadd X2.here hx rfl (hb hby own_d2_22) rfl kont) ?_
      show own_Go p e below s _ _ _ (T2.setTop (mkF m 23 #[.val (.ref a1), .val (.ref a2), .val (.int p3), .val (.int acc), .val (.int cur)] [(.int (p3 + cur)), (.ref a2), (.int (acc * (-1640531527 : Int32)))]))
      refine own_st (own_ldI X2 hx hZ e2 V (i := (o + k)) (own_addN ho hc (by omega)) (by omega) (v := (.int (f (o + k)))) rfl (g := (mkF m 23 #[.val (.ref a1), .val (.ref a2), .val (.int p3), .val (.int acc), .val (.int cur)] [(.int (p3 + cur)), (.ref a2), (.int (acc * (-1640531527 : Int32)))])) rfl rfl (hb hby own_d2_23)) ?_
      show own_Go p e below s _ _ _ (T2.setTop (mkF m 24 #[.val (.ref a1), .val (.ref a2), .val (.int p3), .val (.int acc), .val (.int cur)] [(.int (f (o + k))), (.int (acc * (-1640531527 : Int32)))]))
      refine own_st (fun _ kont => XS.iadd X2.here hx rfl (hb hby own_d2_24) rfl kont) ?_
      show own_Go p e below s _ _ _ (T2.setTop (mkF m 25 #[.val (.ref a1), .val (.ref a2), .val (.int p3), .val (.int acc), .val (.int cur)] [(.int ((acc * (-1640531527 : Int32)) + (f (o + k))))]))
      refine own_st (fun _ kont => XS.istoreN X2.here hx rfl (hb hby own_d2_25) rfl (l' := #[.val (.ref a1), .val (.ref a2), .val (.int p3), .val (.int ((acc * (-1640531527 : Int32)) + (f (o + k)))), .val (.int cur)]) rfl kont) ?_
      show own_Go p e below s _ _ _ (T2.setTop (mkF m 26 #[.val (.ref a1), .val (.ref a2), .val (.int p3), .val (.int ((acc * (-1640531527 : Int32)) + (f (o + k)))), .val (.int cur)] []))
      refine own_st (fun _ kont => XS.iinc X2.here hx rfl (hb hby own_d2_26) rfl (l' := #[.val (.ref a1), .val (.ref a2), .val (.int p3), .val (.int ((acc * (-1640531527 : Int32)) + (f (o + k)))), .val (.int (cur + (1 : Int32)))]) rfl kont) ?_
      show own_Go p e below s _ _ _ (T2.setTop (mkF m 29 #[.val (.ref a1), .val (.ref a2), .val (.int p3), .val (.int ((acc * (-1640531527 : Int32)) + (f (o + k)))), .val (.int (cur + (1 : Int32)))] []))
      refine own_st (fun _ kont => XS.goto X2.here hx rfl (pc0 := 29) (pc' := 5) rfl (hb hby own_d2_29) (by decide) (by decide) kont) ?_
      show own_Go p e below s _ _ _ (T2.setTop (mkF m 5 #[.val (.ref a1), .val (.ref a2), .val (.int p3), .val (.int ((acc * (-1640531527 : Int32)) + (f (o + k)))), .val (.int (cur + (1 : Int32)))] []))
      exact ih (k + 1) _ _ _ (by omega) (own_addN hc (by decide) (by omega)) (by rw [ha]; rfl) X2 e2
  show own_Go p e below s _ _ _ (s₁.setTop (mkF m 5 #[.val (.ref a1), .val (.ref a2), .val (.int p3), .val (.int (0 : Int32)), .val (.int (0 : Int32))] []))
  exact loop n 0 _ _ _ (by omega) (by decide) rfl X0 e0
theorem own_d3_0 : decode method_2_code 0 = .ok (.iload_n 0, 1) := by decide +kernel
theorem own_d3_1 : decode method_2_code 1 = .ok (.iload_n 0, 1) := by decide +kernel
theorem own_d3_2 : decode method_2_code 2 = .ok (.bipush 16, 2) := by decide +kernel
theorem own_d3_4 : decode method_2_code 4 = .ok (.iushr, 1) := by decide +kernel
theorem own_d3_5 : decode method_2_code 5 = .ok (.ixor, 1) := by decide +kernel
theorem own_d3_6 : decode method_2_code 6 = .ok (.istore_n 0, 1) := by decide +kernel
theorem own_d3_7 : decode method_2_code 7 = .ok (.iload_n 0, 1) := by decide +kernel
theorem own_d3_8 : decode method_2_code 8 = .ok (.ldc 7, 2) := by decide +kernel
theorem own_d3_10 : decode method_2_code 10 = .ok (.imul, 1) := by decide +kernel
theorem own_d3_11 : decode method_2_code 11 = .ok (.istore_n 0, 1) := by decide +kernel
theorem own_d3_12 : decode method_2_code 12 = .ok (.iload_n 0, 1) := by decide +kernel
theorem own_d3_13 : decode method_2_code 13 = .ok (.iload_n 0, 1) := by decide +kernel
theorem own_d3_14 : decode method_2_code 14 = .ok (.bipush 13, 2) := by decide +kernel
theorem own_d3_16 : decode method_2_code 16 = .ok (.iushr, 1) := by decide +kernel
theorem own_d3_17 : decode method_2_code 17 = .ok (.iload_n 0, 1) := by decide +kernel
theorem own_d3_18 : decode method_2_code 18 = .ok (.bipush 26, 2) := by decide +kernel
theorem own_d3_20 : decode method_2_code 20 = .ok (.iushr, 1) := by decide +kernel
theorem own_d3_21 : decode method_2_code 21 = .ok (.ixor, 1) := by decide +kernel
theorem own_d3_22 : decode method_2_code 22 = .ok (.ixor, 1) := by decide +kernel
theorem own_d3_23 : decode method_2_code 23 = .ok (.istore_n 0, 1) := by decide +kernel
theorem own_d3_24 : decode method_2_code 24 = .ok (.iload_n 0, 1) := by decide +kernel
theorem own_d3_25 : decode method_2_code 25 = .ok (.ldc 8, 2) := by decide +kernel
theorem own_d3_27 : decode method_2_code 27 = .ok (.imul, 1) := by decide +kernel
theorem own_d3_28 : decode method_2_code 28 = .ok (.istore_n 0, 1) := by decide +kernel
theorem own_d3_29 : decode method_2_code 29 = .ok (.iload_n 0, 1) := by decide +kernel
theorem own_d3_30 : decode method_2_code 30 = .ok (.iload_n 0, 1) := by decide +kernel
theorem own_d3_31 : decode method_2_code 31 = .ok (.bipush 16, 2) := by decide +kernel
theorem own_d3_33 : decode method_2_code 33 = .ok (.iushr, 1) := by decide +kernel
theorem own_d3_34 : decode method_2_code 34 = .ok (.ixor, 1) := by decide +kernel
theorem own_d3_35 : decode method_2_code 35 = .ok (.istore_n 0, 1) := by decide +kernel
theorem own_d3_36 : decode method_2_code 36 = .ok (.iload_n 0, 1) := by decide +kernel
theorem own_d3_37 : decode method_2_code 37 = .ok (.ireturn, 1) := by decide +kernel
theorem own_pn3 : plainFor (⟨"com/example/interpres/interpres/netsemantics/MarkingIndexHashPinLaw", "unmix", "(I)I"⟩ : MethodName) = true := by first | exact plainFor_of_name (show plainName "com/example/interpres/interpres/netsemantics/MarkingIndexHashPinLaw" = true by first | (simp [plainName, overriddenIn]; done) | decide +kernel) | decide +kernel
theorem own_ef3 (m : MethodId) (x0 : Int32) : entryFrame m #[(.int x0)] 1 = mkF m 0 #[.val (.int x0)] [] := by first | (simp [entryFrame, mkF, argsToLocals, Value.category]; done) | rfl
set_option maxRecDepth 65536 in
set_option maxHeartbeats 40000000 in
theorem own_rm4 (l : Launch) (Z : State) (a0 : Array Value) (hw : ∀ d ∈ tables_1, d.before a0 Z = true) (p1 : Int32) (h0 : Heap) (n0 : Nat) (Z0 : n0 ≤ h0.size)  :
    own_Met l Z (⟨"com/example/interpres/interpres/netsemantics/MarkingIndexHashPinLaw", "unmix", "(I)I"⟩ : MethodName) method_2_code 1 (some .int) ({ frames := 0, cells := 0, slots := 0, locals := 0 } : Room) #[(.int p1)] h0 (fun v h' L => v = some (.int (own_unmix p1)) ∧ h' = h0 ∧ L = []) := by
  refine own_in own_pn3 ?_
  intro p e s m below meth c s₁ hx hby hml hown hnm hlk hret hZ X0 e0
  have N0 := Fr.nil n0
  refine own_ef (own_ef3 m p1) ?_
  show own_Go p e below s _ _ _ (s₁.setTop (mkF m 0 #[.val (.int p1)] []))
  refine own_st (fun _ kont => XS.iloadN X0.here hx rfl (hb hby own_d3_0) rfl kont) ?_
  show own_Go p e below s _ _ _ (s₁.setTop (mkF m 1 #[.val (.int p1)] [(.int p1)]))
  refine own_st (fun _ kont => XS.iloadN X0.here hx rfl (hb hby own_d3_1) rfl kont) ?_
  show own_Go p e below s _ _ _ (s₁.setTop (mkF m 2 #[.val (.int p1)] [(.int p1), (.int p1)]))
  refine own_st (fun _ kont => XS.bipush X0.here hx rfl (hb hby own_d3_2) kont) ?_
  show own_Go p e below s _ _ _ (s₁.setTop (mkF m 4 #[.val (.int p1)] [(.int (16 : Int32)), (.int p1), (.int p1)]))
  refine own_st (fun _ kont => XT.iushr X0.here hx rfl (hb hby own_d3_4) rfl kont) ?_
  show own_Go p e below s _ _ _ (s₁.setTop (mkF m 5 #[.val (.int p1)] [(.int (XT.ushr p1 (16 : Int32))), (.int p1)]))
  refine own_st (fun _ kont => XS.ixor X0.here hx rfl (hb hby own_d3_5) rfl kont) ?_
  show own_Go p e below s _ _ _ (s₁.setTop (mkF m 6 #[.val (.int p1)] [(.int (p1 ^^^ (XT.ushr p1 (16 : Int32))))]))
  refine own_st (fun _ kont => XS.istoreN X0.here hx rfl (hb hby own_d3_6) rfl (l' := #[.val (.int (p1 ^^^ (XT.ushr p1 (16 : Int32))))]) rfl kont) ?_
  show own_Go p e below s _ _ _ (s₁.setTop (mkF m 7 #[.val (.int (p1 ^^^ (XT.ushr p1 (16 : Int32))))] []))
  refine own_st (fun _ kont => XS.iloadN X0.here hx rfl (hb hby own_d3_7) rfl kont) ?_
  show own_Go p e below s _ _ _ (s₁.setTop (mkF m 8 #[.val (.int (p1 ^^^ (XT.ushr p1 (16 : Int32))))] [(.int (p1 ^^^ (XT.ushr p1 (16 : Int32))))]))
  refine own_st (fun _ kont => X0.ldcInt hx hown (mvT hZ (hw _ (List.mem_of_getElem? (i := 34) rfl))) (g := (mkF m 8 #[.val (.int (p1 ^^^ (XT.ushr p1 (16 : Int32))))] [(.int (p1 ^^^ (XT.ushr p1 (16 : Int32))))])) rfl (hb hby own_d3_8) _ kont) ?_
  show own_Go p e below s _ _ _ (s₁.setTop (mkF m 10 #[.val (.int (p1 ^^^ (XT.ushr p1 (16 : Int32))))] [(.int (2127672349 : Int32)), (.int (p1 ^^^ (XT.ushr p1 (16 : Int32))))]))
  refine own_st (fun _ kont => XS.imul X0.here hx rfl (hb hby own_d3_10) rfl kont) ?_
  show own_Go p e below s _ _ _ (s₁.setTop (mkF m 11 #[.val (.int (p1 ^^^ (XT.ushr p1 (16 : Int32))))] [(.int ((p1 ^^^ (XT.ushr p1 (16 : Int32))) * (2127672349 : Int32)))]))
  refine own_st (fun _ kont => XS.istoreN X0.here hx rfl (hb hby own_d3_11) rfl (l' := #[.val (.int ((p1 ^^^ (XT.ushr p1 (16 : Int32))) * (2127672349 : Int32)))]) rfl kont) ?_
  show own_Go p e below s _ _ _ (s₁.setTop (mkF m 12 #[.val (.int ((p1 ^^^ (XT.ushr p1 (16 : Int32))) * (2127672349 : Int32)))] []))
  refine own_st (fun _ kont => XS.iloadN X0.here hx rfl (hb hby own_d3_12) rfl kont) ?_
  show own_Go p e below s _ _ _ (s₁.setTop (mkF m 13 #[.val (.int ((p1 ^^^ (XT.ushr p1 (16 : Int32))) * (2127672349 : Int32)))] [(.int ((p1 ^^^ (XT.ushr p1 (16 : Int32))) * (2127672349 : Int32)))]))
  refine own_st (fun _ kont => XS.iloadN X0.here hx rfl (hb hby own_d3_13) rfl kont) ?_
  show own_Go p e below s _ _ _ (s₁.setTop (mkF m 14 #[.val (.int ((p1 ^^^ (XT.ushr p1 (16 : Int32))) * (2127672349 : Int32)))] [(.int ((p1 ^^^ (XT.ushr p1 (16 : Int32))) * (2127672349 : Int32))), (.int ((p1 ^^^ (XT.ushr p1 (16 : Int32))) * (2127672349 : Int32)))]))
  refine own_st (fun _ kont => XS.bipush X0.here hx rfl (hb hby own_d3_14) kont) ?_
  show own_Go p e below s _ _ _ (s₁.setTop (mkF m 16 #[.val (.int ((p1 ^^^ (XT.ushr p1 (16 : Int32))) * (2127672349 : Int32)))] [(.int (13 : Int32)), (.int ((p1 ^^^ (XT.ushr p1 (16 : Int32))) * (2127672349 : Int32))), (.int ((p1 ^^^ (XT.ushr p1 (16 : Int32))) * (2127672349 : Int32)))]))
  refine own_st (fun _ kont => XT.iushr X0.here hx rfl (hb hby own_d3_16) rfl kont) ?_
  show own_Go p e below s _ _ _ (s₁.setTop (mkF m 17 #[.val (.int ((p1 ^^^ (XT.ushr p1 (16 : Int32))) * (2127672349 : Int32)))] [(.int (XT.ushr ((p1 ^^^ (XT.ushr p1 (16 : Int32))) * (2127672349 : Int32)) (13 : Int32))), (.int ((p1 ^^^ (XT.ushr p1 (16 : Int32))) * (2127672349 : Int32)))]))
  refine own_st (fun _ kont => XS.iloadN X0.here hx rfl (hb hby own_d3_17) rfl kont) ?_
  show own_Go p e below s _ _ _ (s₁.setTop (mkF m 18 #[.val (.int ((p1 ^^^ (XT.ushr p1 (16 : Int32))) * (2127672349 : Int32)))] [(.int ((p1 ^^^ (XT.ushr p1 (16 : Int32))) * (2127672349 : Int32))), (.int (XT.ushr ((p1 ^^^ (XT.ushr p1 (16 : Int32))) * (2127672349 : Int32)) (13 : Int32))), (.int ((p1 ^^^ (XT.ushr p1 (16 : Int32))) * (2127672349 : Int32)))]))
  refine own_st (fun _ kont => XS.bipush X0.here hx rfl (hb hby own_d3_18) kont) ?_
  show own_Go p e below s _ _ _ (s₁.setTop (mkF m 20 #[.val (.int ((p1 ^^^ (XT.ushr p1 (16 : Int32))) * (2127672349 : Int32)))] [(.int (26 : Int32)), (.int ((p1 ^^^ (XT.ushr p1 (16 : Int32))) * (2127672349 : Int32))), (.int (XT.ushr ((p1 ^^^ (XT.ushr p1 (16 : Int32))) * (2127672349 : Int32)) (13 : Int32))), (.int ((p1 ^^^ (XT.ushr p1 (16 : Int32))) * (2127672349 : Int32)))]))
  refine own_st (fun _ kont => XT.iushr X0.here hx rfl (hb hby own_d3_20) rfl kont) ?_
  show own_Go p e below s _ _ _ (s₁.setTop (mkF m 21 #[.val (.int ((p1 ^^^ (XT.ushr p1 (16 : Int32))) * (2127672349 : Int32)))] [(.int (XT.ushr ((p1 ^^^ (XT.ushr p1 (16 : Int32))) * (2127672349 : Int32)) (26 : Int32))), (.int (XT.ushr ((p1 ^^^ (XT.ushr p1 (16 : Int32))) * (2127672349 : Int32)) (13 : Int32))), (.int ((p1 ^^^ (XT.ushr p1 (16 : Int32))) * (2127672349 : Int32)))]))
  refine own_st (fun _ kont => XS.ixor X0.here hx rfl (hb hby own_d3_21) rfl kont) ?_
  show own_Go p e below s _ _ _ (s₁.setTop (mkF m 22 #[.val (.int ((p1 ^^^ (XT.ushr p1 (16 : Int32))) * (2127672349 : Int32)))] [(.int ((XT.ushr ((p1 ^^^ (XT.ushr p1 (16 : Int32))) * (2127672349 : Int32)) (13 : Int32)) ^^^ (XT.ushr ((p1 ^^^ (XT.ushr p1 (16 : Int32))) * (2127672349 : Int32)) (26 : Int32)))), (.int ((p1 ^^^ (XT.ushr p1 (16 : Int32))) * (2127672349 : Int32)))]))
  refine own_st (fun _ kont => XS.ixor X0.here hx rfl (hb hby own_d3_22) rfl kont) ?_
  show own_Go p e below s _ _ _ (s₁.setTop (mkF m 23 #[.val (.int ((p1 ^^^ (XT.ushr p1 (16 : Int32))) * (2127672349 : Int32)))] [(.int (((p1 ^^^ (XT.ushr p1 (16 : Int32))) * (2127672349 : Int32)) ^^^ ((XT.ushr ((p1 ^^^ (XT.ushr p1 (16 : Int32))) * (2127672349 : Int32)) (13 : Int32)) ^^^ (XT.ushr ((p1 ^^^ (XT.ushr p1 (16 : Int32))) * (2127672349 : Int32)) (26 : Int32)))))]))
  refine own_st (fun _ kont => XS.istoreN X0.here hx rfl (hb hby own_d3_23) rfl (l' := #[.val (.int (((p1 ^^^ (XT.ushr p1 (16 : Int32))) * (2127672349 : Int32)) ^^^ ((XT.ushr ((p1 ^^^ (XT.ushr p1 (16 : Int32))) * (2127672349 : Int32)) (13 : Int32)) ^^^ (XT.ushr ((p1 ^^^ (XT.ushr p1 (16 : Int32))) * (2127672349 : Int32)) (26 : Int32)))))]) rfl kont) ?_
  show own_Go p e below s _ _ _ (s₁.setTop (mkF m 24 #[.val (.int (((p1 ^^^ (XT.ushr p1 (16 : Int32))) * (2127672349 : Int32)) ^^^ ((XT.ushr ((p1 ^^^ (XT.ushr p1 (16 : Int32))) * (2127672349 : Int32)) (13 : Int32)) ^^^ (XT.ushr ((p1 ^^^ (XT.ushr p1 (16 : Int32))) * (2127672349 : Int32)) (26 : Int32)))))] []))
  refine own_st (fun _ kont => XS.iloadN X0.here hx rfl (hb hby own_d3_24) rfl kont) ?_
  show own_Go p e below s _ _ _ (s₁.setTop (mkF m 25 #[.val (.int (((p1 ^^^ (XT.ushr p1 (16 : Int32))) * (2127672349 : Int32)) ^^^ ((XT.ushr ((p1 ^^^ (XT.ushr p1 (16 : Int32))) * (2127672349 : Int32)) (13 : Int32)) ^^^ (XT.ushr ((p1 ^^^ (XT.ushr p1 (16 : Int32))) * (2127672349 : Int32)) (26 : Int32)))))] [(.int (((p1 ^^^ (XT.ushr p1 (16 : Int32))) * (2127672349 : Int32)) ^^^ ((XT.ushr ((p1 ^^^ (XT.ushr p1 (16 : Int32))) * (2127672349 : Int32)) (13 : Int32)) ^^^ (XT.ushr ((p1 ^^^ (XT.ushr p1 (16 : Int32))) * (2127672349 : Int32)) (26 : Int32)))))]))
  refine own_st (fun _ kont => X0.ldcInt hx hown (mvT hZ (hw _ (List.mem_of_getElem? (i := 35) rfl))) (g := (mkF m 25 #[.val (.int (((p1 ^^^ (XT.ushr p1 (16 : Int32))) * (2127672349 : Int32)) ^^^ ((XT.ushr ((p1 ^^^ (XT.ushr p1 (16 : Int32))) * (2127672349 : Int32)) (13 : Int32)) ^^^ (XT.ushr ((p1 ^^^ (XT.ushr p1 (16 : Int32))) * (2127672349 : Int32)) (26 : Int32)))))] [(.int (((p1 ^^^ (XT.ushr p1 (16 : Int32))) * (2127672349 : Int32)) ^^^ ((XT.ushr ((p1 ^^^ (XT.ushr p1 (16 : Int32))) * (2127672349 : Int32)) (13 : Int32)) ^^^ (XT.ushr ((p1 ^^^ (XT.ushr p1 (16 : Int32))) * (2127672349 : Int32)) (26 : Int32)))))])) rfl (hb hby own_d3_25) _ kont) ?_
  show own_Go p e below s _ _ _ (s₁.setTop (mkF m 27 #[.val (.int (((p1 ^^^ (XT.ushr p1 (16 : Int32))) * (2127672349 : Int32)) ^^^ ((XT.ushr ((p1 ^^^ (XT.ushr p1 (16 : Int32))) * (2127672349 : Int32)) (13 : Int32)) ^^^ (XT.ushr ((p1 ^^^ (XT.ushr p1 (16 : Int32))) * (2127672349 : Int32)) (26 : Int32)))))] [(.int (-1513385405 : Int32)), (.int (((p1 ^^^ (XT.ushr p1 (16 : Int32))) * (2127672349 : Int32)) ^^^ ((XT.ushr ((p1 ^^^ (XT.ushr p1 (16 : Int32))) * (2127672349 : Int32)) (13 : Int32)) ^^^ (XT.ushr ((p1 ^^^ (XT.ushr p1 (16 : Int32))) * (2127672349 : Int32)) (26 : Int32)))))]))
  refine own_st (fun _ kont => XS.imul X0.here hx rfl (hb hby own_d3_27) rfl kont) ?_
  show own_Go p e below s _ _ _ (s₁.setTop (mkF m 28 #[.val (.int (((p1 ^^^ (XT.ushr p1 (16 : Int32))) * (2127672349 : Int32)) ^^^ ((XT.ushr ((p1 ^^^ (XT.ushr p1 (16 : Int32))) * (2127672349 : Int32)) (13 : Int32)) ^^^ (XT.ushr ((p1 ^^^ (XT.ushr p1 (16 : Int32))) * (2127672349 : Int32)) (26 : Int32)))))] [(.int ((((p1 ^^^ (XT.ushr p1 (16 : Int32))) * (2127672349 : Int32)) ^^^ ((XT.ushr ((p1 ^^^ (XT.ushr p1 (16 : Int32))) * (2127672349 : Int32)) (13 : Int32)) ^^^ (XT.ushr ((p1 ^^^ (XT.ushr p1 (16 : Int32))) * (2127672349 : Int32)) (26 : Int32)))) * (-1513385405 : Int32)))]))
  refine own_st (fun _ kont => XS.istoreN X0.here hx rfl (hb hby own_d3_28) rfl (l' := #[.val (.int ((((p1 ^^^ (XT.ushr p1 (16 : Int32))) * (2127672349 : Int32)) ^^^ ((XT.ushr ((p1 ^^^ (XT.ushr p1 (16 : Int32))) * (2127672349 : Int32)) (13 : Int32)) ^^^ (XT.ushr ((p1 ^^^ (XT.ushr p1 (16 : Int32))) * (2127672349 : Int32)) (26 : Int32)))) * (-1513385405 : Int32)))]) rfl kont) ?_
  show own_Go p e below s _ _ _ (s₁.setTop (mkF m 29 #[.val (.int ((((p1 ^^^ (XT.ushr p1 (16 : Int32))) * (2127672349 : Int32)) ^^^ ((XT.ushr ((p1 ^^^ (XT.ushr p1 (16 : Int32))) * (2127672349 : Int32)) (13 : Int32)) ^^^ (XT.ushr ((p1 ^^^ (XT.ushr p1 (16 : Int32))) * (2127672349 : Int32)) (26 : Int32)))) * (-1513385405 : Int32)))] []))
  refine own_st (fun _ kont => XS.iloadN X0.here hx rfl (hb hby own_d3_29) rfl kont) ?_
  show own_Go p e below s _ _ _ (s₁.setTop (mkF m 30 #[.val (.int ((((p1 ^^^ (XT.ushr p1 (16 : Int32))) * (2127672349 : Int32)) ^^^ ((XT.ushr ((p1 ^^^ (XT.ushr p1 (16 : Int32))) * (2127672349 : Int32)) (13 : Int32)) ^^^ (XT.ushr ((p1 ^^^ (XT.ushr p1 (16 : Int32))) * (2127672349 : Int32)) (26 : Int32)))) * (-1513385405 : Int32)))] [(.int ((((p1 ^^^ (XT.ushr p1 (16 : Int32))) * (2127672349 : Int32)) ^^^ ((XT.ushr ((p1 ^^^ (XT.ushr p1 (16 : Int32))) * (2127672349 : Int32)) (13 : Int32)) ^^^ (XT.ushr ((p1 ^^^ (XT.ushr p1 (16 : Int32))) * (2127672349 : Int32)) (26 : Int32)))) * (-1513385405 : Int32)))]))
  refine own_st (fun _ kont => XS.iloadN X0.here hx rfl (hb hby own_d3_30) rfl kont) ?_
  show own_Go p e below s _ _ _ (s₁.setTop (mkF m 31 #[.val (.int ((((p1 ^^^ (XT.ushr p1 (16 : Int32))) * (2127672349 : Int32)) ^^^ ((XT.ushr ((p1 ^^^ (XT.ushr p1 (16 : Int32))) * (2127672349 : Int32)) (13 : Int32)) ^^^ (XT.ushr ((p1 ^^^ (XT.ushr p1 (16 : Int32))) * (2127672349 : Int32)) (26 : Int32)))) * (-1513385405 : Int32)))] [(.int ((((p1 ^^^ (XT.ushr p1 (16 : Int32))) * (2127672349 : Int32)) ^^^ ((XT.ushr ((p1 ^^^ (XT.ushr p1 (16 : Int32))) * (2127672349 : Int32)) (13 : Int32)) ^^^ (XT.ushr ((p1 ^^^ (XT.ushr p1 (16 : Int32))) * (2127672349 : Int32)) (26 : Int32)))) * (-1513385405 : Int32))), (.int ((((p1 ^^^ (XT.ushr p1 (16 : Int32))) * (2127672349 : Int32)) ^^^ ((XT.ushr ((p1 ^^^ (XT.ushr p1 (16 : Int32))) * (2127672349 : Int32)) (13 : Int32)) ^^^ (XT.ushr ((p1 ^^^ (XT.ushr p1 (16 : Int32))) * (2127672349 : Int32)) (26 : Int32)))) * (-1513385405 : Int32)))]))
  refine own_st (fun _ kont => XS.bipush X0.here hx rfl (hb hby own_d3_31) kont) ?_
  show own_Go p e below s _ _ _ (s₁.setTop (mkF m 33 #[.val (.int ((((p1 ^^^ (XT.ushr p1 (16 : Int32))) * (2127672349 : Int32)) ^^^ ((XT.ushr ((p1 ^^^ (XT.ushr p1 (16 : Int32))) * (2127672349 : Int32)) (13 : Int32)) ^^^ (XT.ushr ((p1 ^^^ (XT.ushr p1 (16 : Int32))) * (2127672349 : Int32)) (26 : Int32)))) * (-1513385405 : Int32)))] [(.int (16 : Int32)), (.int ((((p1 ^^^ (XT.ushr p1 (16 : Int32))) * (2127672349 : Int32)) ^^^ ((XT.ushr ((p1 ^^^ (XT.ushr p1 (16 : Int32))) * (2127672349 : Int32)) (13 : Int32)) ^^^ (XT.ushr ((p1 ^^^ (XT.ushr p1 (16 : Int32))) * (2127672349 : Int32)) (26 : Int32)))) * (-1513385405 : Int32))), (.int ((((p1 ^^^ (XT.ushr p1 (16 : Int32))) * (2127672349 : Int32)) ^^^ ((XT.ushr ((p1 ^^^ (XT.ushr p1 (16 : Int32))) * (2127672349 : Int32)) (13 : Int32)) ^^^ (XT.ushr ((p1 ^^^ (XT.ushr p1 (16 : Int32))) * (2127672349 : Int32)) (26 : Int32)))) * (-1513385405 : Int32)))]))
  refine own_st (fun _ kont => XT.iushr X0.here hx rfl (hb hby own_d3_33) rfl kont) ?_
  show own_Go p e below s _ _ _ (s₁.setTop (mkF m 34 #[.val (.int ((((p1 ^^^ (XT.ushr p1 (16 : Int32))) * (2127672349 : Int32)) ^^^ ((XT.ushr ((p1 ^^^ (XT.ushr p1 (16 : Int32))) * (2127672349 : Int32)) (13 : Int32)) ^^^ (XT.ushr ((p1 ^^^ (XT.ushr p1 (16 : Int32))) * (2127672349 : Int32)) (26 : Int32)))) * (-1513385405 : Int32)))] [(.int (XT.ushr ((((p1 ^^^ (XT.ushr p1 (16 : Int32))) * (2127672349 : Int32)) ^^^ ((XT.ushr ((p1 ^^^ (XT.ushr p1 (16 : Int32))) * (2127672349 : Int32)) (13 : Int32)) ^^^ (XT.ushr ((p1 ^^^ (XT.ushr p1 (16 : Int32))) * (2127672349 : Int32)) (26 : Int32)))) * (-1513385405 : Int32)) (16 : Int32))), (.int ((((p1 ^^^ (XT.ushr p1 (16 : Int32))) * (2127672349 : Int32)) ^^^ ((XT.ushr ((p1 ^^^ (XT.ushr p1 (16 : Int32))) * (2127672349 : Int32)) (13 : Int32)) ^^^ (XT.ushr ((p1 ^^^ (XT.ushr p1 (16 : Int32))) * (2127672349 : Int32)) (26 : Int32)))) * (-1513385405 : Int32)))]))
  refine own_st (fun _ kont => XS.ixor X0.here hx rfl (hb hby own_d3_34) rfl kont) ?_
  show own_Go p e below s _ _ _ (s₁.setTop (mkF m 35 #[.val (.int ((((p1 ^^^ (XT.ushr p1 (16 : Int32))) * (2127672349 : Int32)) ^^^ ((XT.ushr ((p1 ^^^ (XT.ushr p1 (16 : Int32))) * (2127672349 : Int32)) (13 : Int32)) ^^^ (XT.ushr ((p1 ^^^ (XT.ushr p1 (16 : Int32))) * (2127672349 : Int32)) (26 : Int32)))) * (-1513385405 : Int32)))] [(.int (((((p1 ^^^ (XT.ushr p1 (16 : Int32))) * (2127672349 : Int32)) ^^^ ((XT.ushr ((p1 ^^^ (XT.ushr p1 (16 : Int32))) * (2127672349 : Int32)) (13 : Int32)) ^^^ (XT.ushr ((p1 ^^^ (XT.ushr p1 (16 : Int32))) * (2127672349 : Int32)) (26 : Int32)))) * (-1513385405 : Int32)) ^^^ (XT.ushr ((((p1 ^^^ (XT.ushr p1 (16 : Int32))) * (2127672349 : Int32)) ^^^ ((XT.ushr ((p1 ^^^ (XT.ushr p1 (16 : Int32))) * (2127672349 : Int32)) (13 : Int32)) ^^^ (XT.ushr ((p1 ^^^ (XT.ushr p1 (16 : Int32))) * (2127672349 : Int32)) (26 : Int32)))) * (-1513385405 : Int32)) (16 : Int32))))]))
  refine own_st (fun _ kont => XS.istoreN X0.here hx rfl (hb hby own_d3_35) rfl (l' := #[.val (.int (((((p1 ^^^ (XT.ushr p1 (16 : Int32))) * (2127672349 : Int32)) ^^^ ((XT.ushr ((p1 ^^^ (XT.ushr p1 (16 : Int32))) * (2127672349 : Int32)) (13 : Int32)) ^^^ (XT.ushr ((p1 ^^^ (XT.ushr p1 (16 : Int32))) * (2127672349 : Int32)) (26 : Int32)))) * (-1513385405 : Int32)) ^^^ (XT.ushr ((((p1 ^^^ (XT.ushr p1 (16 : Int32))) * (2127672349 : Int32)) ^^^ ((XT.ushr ((p1 ^^^ (XT.ushr p1 (16 : Int32))) * (2127672349 : Int32)) (13 : Int32)) ^^^ (XT.ushr ((p1 ^^^ (XT.ushr p1 (16 : Int32))) * (2127672349 : Int32)) (26 : Int32)))) * (-1513385405 : Int32)) (16 : Int32))))]) rfl kont) ?_
  show own_Go p e below s _ _ _ (s₁.setTop (mkF m 36 #[.val (.int (((((p1 ^^^ (XT.ushr p1 (16 : Int32))) * (2127672349 : Int32)) ^^^ ((XT.ushr ((p1 ^^^ (XT.ushr p1 (16 : Int32))) * (2127672349 : Int32)) (13 : Int32)) ^^^ (XT.ushr ((p1 ^^^ (XT.ushr p1 (16 : Int32))) * (2127672349 : Int32)) (26 : Int32)))) * (-1513385405 : Int32)) ^^^ (XT.ushr ((((p1 ^^^ (XT.ushr p1 (16 : Int32))) * (2127672349 : Int32)) ^^^ ((XT.ushr ((p1 ^^^ (XT.ushr p1 (16 : Int32))) * (2127672349 : Int32)) (13 : Int32)) ^^^ (XT.ushr ((p1 ^^^ (XT.ushr p1 (16 : Int32))) * (2127672349 : Int32)) (26 : Int32)))) * (-1513385405 : Int32)) (16 : Int32))))] []))
  refine own_st (fun _ kont => XS.iloadN X0.here hx rfl (hb hby own_d3_36) rfl kont) ?_
  show own_Go p e below s _ _ _ (s₁.setTop (mkF m 37 #[.val (.int (((((p1 ^^^ (XT.ushr p1 (16 : Int32))) * (2127672349 : Int32)) ^^^ ((XT.ushr ((p1 ^^^ (XT.ushr p1 (16 : Int32))) * (2127672349 : Int32)) (13 : Int32)) ^^^ (XT.ushr ((p1 ^^^ (XT.ushr p1 (16 : Int32))) * (2127672349 : Int32)) (26 : Int32)))) * (-1513385405 : Int32)) ^^^ (XT.ushr ((((p1 ^^^ (XT.ushr p1 (16 : Int32))) * (2127672349 : Int32)) ^^^ ((XT.ushr ((p1 ^^^ (XT.ushr p1 (16 : Int32))) * (2127672349 : Int32)) (13 : Int32)) ^^^ (XT.ushr ((p1 ^^^ (XT.ushr p1 (16 : Int32))) * (2127672349 : Int32)) (26 : Int32)))) * (-1513385405 : Int32)) (16 : Int32))))] [(.int (((((p1 ^^^ (XT.ushr p1 (16 : Int32))) * (2127672349 : Int32)) ^^^ ((XT.ushr ((p1 ^^^ (XT.ushr p1 (16 : Int32))) * (2127672349 : Int32)) (13 : Int32)) ^^^ (XT.ushr ((p1 ^^^ (XT.ushr p1 (16 : Int32))) * (2127672349 : Int32)) (26 : Int32)))) * (-1513385405 : Int32)) ^^^ (XT.ushr ((((p1 ^^^ (XT.ushr p1 (16 : Int32))) * (2127672349 : Int32)) ^^^ ((XT.ushr ((p1 ^^^ (XT.ushr p1 (16 : Int32))) * (2127672349 : Int32)) (13 : Int32)) ^^^ (XT.ushr ((p1 ^^^ (XT.ushr p1 (16 : Int32))) * (2127672349 : Int32)) (26 : Int32)))) * (-1513385405 : Int32)) (16 : Int32))))]))
  exact own_endI X0 hx hlk hret (hb hby own_d3_37) ⟨rfl, e0, rfl⟩ (by decide) (by decide)
theorem own_pd1 : parseMethodDescriptor "(I)V" = some ⟨[.int], none⟩ := by decide +kernel
theorem own_pd2 : parseMethodDescriptor "([II)I" = some ⟨[(.array .int), .int], some .int⟩ := by decide +kernel
theorem own_pd3 : parseMethodDescriptor "(I)I" = some ⟨[.int], some .int⟩ := by decide +kernel
theorem own_pn4 : plainFor x = true := by first | exact plainFor_of_name (show plainName "com/example/interpres/interpres/netsemantics/MarkingIndexHashPinLaw" = true by first | (simp [plainName, overriddenIn]; done) | decide +kernel) | decide +kernel
theorem own_ef4 (m : MethodId) (x0 : Int32) (x1 : Int32) (x2 : Int32) (x3 : Int32) (x4 : Int32) : entryFrame m #[(.int x0), (.int x1), (.int x2), (.int x3), (.int x4)] maxLocals = mkF m 0 #[.val (.int x0), .val (.int x1), .val (.int x2), .val (.int x3), .val (.int x4), .unset, .unset, .unset, .unset, .unset, .unset, .unset] [] := by first | (simp [entryFrame, mkF, argsToLocals, Value.category, maxLocals]; done) | rfl
set_option maxRecDepth 65536 in
set_option maxHeartbeats 40000000 in
theorem own_rm0 (l : Launch) (Z : State) (a0 : Array Value) (hw : ∀ d ∈ tables_1, d.before a0 Z = true) (aa ab ac ad ak : Int32) (h0 : Heap) (n0 : Nat) (Z0 : n0 ≤ h0.size)  :
    own_Met l Z x code maxLocals ret room_1 #[(.int aa), (.int ab), (.int ac), (.int ad), (.int ak)] h0 (fun v h' L => v = some (.int 1) ∧ Fr n0 L) := by
  refine own_in own_pn4 ?_
  intro p e s m below meth c s₁ hx hby hml hown hnm hlk hret hZ X0 e0
  have N0 := Fr.nil n0
  refine own_ef (own_ef4 m aa ab ac ad ak) ?_
  show own_Go p e below s _ _ _ (s₁.setTop (mkF m 0 #[.val (.int aa), .val (.int ab), .val (.int ac), .val (.int ad), .val (.int ak), .unset, .unset, .unset, .unset, .unset, .unset, .unset] []))
  refine own_st (fun _ kont => XS.iload X0.here hx rfl (hb hby at_0) rfl kont) ?_
  show own_Go p e below s _ _ _ (s₁.setTop (mkF m 2 #[.val (.int aa), .val (.int ab), .val (.int ac), .val (.int ad), .val (.int ak), .unset, .unset, .unset, .unset, .unset, .unset, .unset] [(.int ak)]))
  refine own_st (fun _ kont => XS.iconst X0.here hx rfl (hb hby at_2) kont) ?_
  show own_Go p e below s _ _ _ (s₁.setTop (mkF m 3 #[.val (.int aa), .val (.int ab), .val (.int ac), .val (.int ad), .val (.int ak), .unset, .unset, .unset, .unset, .unset, .unset, .unset] [(.int (3 : Int32)), (.int ak)]))
  refine own_st (fun _ kont => XS.iand X0.here hx rfl (hb hby at_3) rfl kont) ?_
  show own_Go p e below s _ _ _ (s₁.setTop (mkF m 4 #[.val (.int aa), .val (.int ab), .val (.int ac), .val (.int ad), .val (.int ak), .unset, .unset, .unset, .unset, .unset, .unset, .unset] [(.int (ak &&& (3 : Int32)))]))
  refine own_st (fun _ kont => XS.istore X0.here hx rfl (hb hby at_4) rfl (l' := #[.val (.int aa), .val (.int ab), .val (.int ac), .val (.int ad), .val (.int ak), .val (.int (ak &&& (3 : Int32))), .unset, .unset, .unset, .unset, .unset, .unset]) rfl kont) ?_
  show own_Go p e below s _ _ _ (s₁.setTop (mkF m 6 #[.val (.int aa), .val (.int ab), .val (.int ac), .val (.int ad), .val (.int ak), .val (.int (ak &&& (3 : Int32))), .unset, .unset, .unset, .unset, .unset, .unset] []))
  refine own_st (fun _ kont => XS.iload X0.here hx rfl (hb hby at_6) rfl kont) ?_
  show own_Go p e below s _ _ _ (s₁.setTop (mkF m 8 #[.val (.int aa), .val (.int ab), .val (.int ac), .val (.int ad), .val (.int ak), .val (.int (ak &&& (3 : Int32))), .unset, .unset, .unset, .unset, .unset, .unset] [(.int ak)]))
  refine own_st (fun _ kont => XS.iconst X0.here hx rfl (hb hby at_8) kont) ?_
  show own_Go p e below s _ _ _ (s₁.setTop (mkF m 9 #[.val (.int aa), .val (.int ab), .val (.int ac), .val (.int ad), .val (.int ak), .val (.int (ak &&& (3 : Int32))), .unset, .unset, .unset, .unset, .unset, .unset] [(.int (2 : Int32)), (.int ak)]))
  refine own_st (fun _ kont => XT.iushr X0.here hx rfl (hb hby at_9) rfl kont) ?_
  show own_Go p e below s _ _ _ (s₁.setTop (mkF m 10 #[.val (.int aa), .val (.int ab), .val (.int ac), .val (.int ad), .val (.int ak), .val (.int (ak &&& (3 : Int32))), .unset, .unset, .unset, .unset, .unset, .unset] [(.int (XT.ushr ak (2 : Int32)))]))
  refine own_st (fun _ kont => XS.iconst X0.here hx rfl (hb hby at_10) kont) ?_
  show own_Go p e below s _ _ _ (s₁.setTop (mkF m 11 #[.val (.int aa), .val (.int ab), .val (.int ac), .val (.int ad), .val (.int ak), .val (.int (ak &&& (3 : Int32))), .unset, .unset, .unset, .unset, .unset, .unset] [(.int (1 : Int32)), (.int (XT.ushr ak (2 : Int32)))]))
  refine own_st (fun _ kont => XS.iand X0.here hx rfl (hb hby at_11) rfl kont) ?_
  show own_Go p e below s _ _ _ (s₁.setTop (mkF m 12 #[.val (.int aa), .val (.int ab), .val (.int ac), .val (.int ad), .val (.int ak), .val (.int (ak &&& (3 : Int32))), .unset, .unset, .unset, .unset, .unset, .unset] [(.int ((XT.ushr ak (2 : Int32)) &&& (1 : Int32)))]))
  refine own_st (fun _ kont => XS.istore X0.here hx rfl (hb hby at_12) rfl (l' := #[.val (.int aa), .val (.int ab), .val (.int ac), .val (.int ad), .val (.int ak), .val (.int (ak &&& (3 : Int32))), .val (.int ((XT.ushr ak (2 : Int32)) &&& (1 : Int32))), .unset, .unset, .unset, .unset, .unset]) rfl kont) ?_
  show own_Go p e below s _ _ _ (s₁.setTop (mkF m 14 #[.val (.int aa), .val (.int ab), .val (.int ac), .val (.int ad), .val (.int ak), .val (.int (ak &&& (3 : Int32))), .val (.int ((XT.ushr ak (2 : Int32)) &&& (1 : Int32))), .unset, .unset, .unset, .unset, .unset] []))
  obtain ⟨iw, hiw, hw3⟩ := own_mask ak (3 : Int32) (k := 3) (by decide)
  obtain ⟨io, hio, ho1⟩ := own_mask (XT.ushr ak (2 : Int32)) (1 : Int32) (k := 1) (by decide)
  suffices JJ1 : ∀ (wd of : Int32) (hwd : wd.toInt = (iw : Int)) (ho : of.toInt = (io : Int)), own_Go p e below s (fun v h' L => v = some (.int 1) ∧ Fr n0 L) room_1.cells room_1.slots (s₁.setTop (mkF m 14 #[.val (.int aa), .val (.int ab), .val (.int ac), .val (.int ad), .val (.int ak), .val (.int wd), .val (.int of), .unset, .unset, .unset, .unset, .unset] [])) from JJ1 _ _ hiw hio
  intro wd of hwd ho
  show own_Go p e below s _ _ _ (s₁.setTop (mkF m 14 #[.val (.int aa), .val (.int ab), .val (.int ac), .val (.int ad), .val (.int ak), .val (.int wd), .val (.int of), .unset, .unset, .unset, .unset, .unset] []))
  refine own_st (fun _ kont => XS.iconst X0.here hx rfl (hb hby at_14) kont) ?_
  show own_Go p e below s _ _ _ (s₁.setTop (mkF m 15 #[.val (.int aa), .val (.int ab), .val (.int ac), .val (.int ad), .val (.int ak), .val (.int wd), .val (.int of), .unset, .unset, .unset, .unset, .unset] [(.int (5 : Int32))]))
  obtain ⟨T2, h2, ar, g2, X2, e2, E2, Var, st2⟩ := own_newA X0 hx hZ (hw _ (List.mem_of_getElem? (i := 0) rfl)) e0 (g := (mkF m 15 #[.val (.int aa), .val (.int ab), .val (.int ac), .val (.int ad), .val (.int ak), .val (.int wd), .val (.int of), .unset, .unset, .unset, .unset, .unset] [(.int (5 : Int32))])) rfl (hb hby at_15) rfl (n := 5) (cap := 5) (by decide) (by decide) (by decide) (by decide) (by decide)
  replace Var : own_Av Z h2 ar .int 5 (fun _ => .int 0) := Var
  have fr_ar : n0 ≤ ar := Nat.le_trans Z0 (Nat.le_of_eq g2.symm)
  have sz2 := Nat.le_trans Z0 E2.1
  refine own_st st2 ?_
  show own_Go p e below s _ _ _ (T2.setTop (mkF m 17 #[.val (.int aa), .val (.int ab), .val (.int ac), .val (.int ad), .val (.int ak), .val (.int wd), .val (.int of), .unset, .unset, .unset, .unset, .unset] [(.ref ar)]))
  refine own_st (fun _ kont => XS.astore X2.here hx rfl (hb hby at_17) rfl rfl (l' := #[.val (.int aa), .val (.int ab), .val (.int ac), .val (.int ad), .val (.int ak), .val (.int wd), .val (.int of), .val (.ref ar), .unset, .unset, .unset, .unset]) rfl kont) ?_
  show own_Go p e below s _ _ _ (T2.setTop (mkF m 19 #[.val (.int aa), .val (.int ab), .val (.int ac), .val (.int ad), .val (.int ak), .val (.int wd), .val (.int of), .val (.ref ar), .unset, .unset, .unset, .unset] []))
  refine own_st (fun _ kont => XS.aload X2.here hx rfl (hb hby at_19) rfl rfl kont) ?_
  show own_Go p e below s _ _ _ (T2.setTop (mkF m 21 #[.val (.int aa), .val (.int ab), .val (.int ac), .val (.int ad), .val (.int ak), .val (.int wd), .val (.int of), .val (.ref ar), .unset, .unset, .unset, .unset] [(.ref ar)]))
  refine own_st (fun _ kont => XS.iconst X2.here hx rfl (hb hby at_21) kont) ?_
  show own_Go p e below s _ _ _ (T2.setTop (mkF m 22 #[.val (.int aa), .val (.int ab), .val (.int ac), .val (.int ad), .val (.int ak), .val (.int wd), .val (.int of), .val (.ref ar), .unset, .unset, .unset, .unset] [(.int (0 : Int32)), (.ref ar)]))
  refine own_st (fun _ kont => XS.iloadN X2.here hx rfl (hb hby at_22) rfl kont) ?_
  show own_Go p e below s _ _ _ (T2.setTop (mkF m 23 #[.val (.int aa), .val (.int ab), .val (.int ac), .val (.int ad), .val (.int ak), .val (.int wd), .val (.int of), .val (.ref ar), .unset, .unset, .unset, .unset] [(.int ad), (.int (0 : Int32)), (.ref ar)]))
  obtain ⟨T3, h3, X3, e3, W3, Var_3, st3⟩ := own_stI X2 hx hZ e2 Var (i := 0) (by decide) (by decide) (g := (mkF m 23 #[.val (.int aa), .val (.int ab), .val (.int ac), .val (.int ad), .val (.int ak), .val (.int wd), .val (.int of), .val (.ref ar), .unset, .unset, .unset, .unset] [(.int ad), (.int (0 : Int32)), (.ref ar)])) rfl rfl (hb hby at_23)
  have sz3 := Nat.le_trans sz2 (Keep.of_wr W3).1
  have N3 := Fr.snoc X3 N0 fr_ar
  refine own_st st3 ?_
  show own_Go p e below s _ _ _ (T3.setTop (mkF m 24 #[.val (.int aa), .val (.int ab), .val (.int ac), .val (.int ad), .val (.int ak), .val (.int wd), .val (.int of), .val (.ref ar), .unset, .unset, .unset, .unset] []))
  refine own_st (fun _ kont => XS.aload X3.here hx rfl (hb hby at_24) rfl rfl kont) ?_
  show own_Go p e below s _ _ _ (T3.setTop (mkF m 26 #[.val (.int aa), .val (.int ab), .val (.int ac), .val (.int ad), .val (.int ak), .val (.int wd), .val (.int of), .val (.ref ar), .unset, .unset, .unset, .unset] [(.ref ar)]))
  refine own_st (fun _ kont => XS.iconst X3.here hx rfl (hb hby at_26) kont) ?_
  show own_Go p e below s _ _ _ (T3.setTop (mkF m 27 #[.val (.int aa), .val (.int ab), .val (.int ac), .val (.int ad), .val (.int ak), .val (.int wd), .val (.int of), .val (.ref ar), .unset, .unset, .unset, .unset] [(.int (1 : Int32)), (.ref ar)]))
  refine own_st (fun _ kont => XS.iloadN X3.here hx rfl (hb hby at_27) rfl kont) ?_
  show own_Go p e below s _ _ _ (T3.setTop (mkF m 28 #[.val (.int aa), .val (.int ab), .val (.int ac), .val (.int ad), .val (.int ak), .val (.int wd), .val (.int of), .val (.ref ar), .unset, .unset, .unset, .unset] [(.int ad), (.int (1 : Int32)), (.ref ar)]))
  obtain ⟨T4, h4, X4, e4, W4, Var_4, st4⟩ := own_stI X3 hx hZ e3 Var_3 (i := 1) (by decide) (by decide) (g := (mkF m 28 #[.val (.int aa), .val (.int ab), .val (.int ac), .val (.int ad), .val (.int ak), .val (.int wd), .val (.int of), .val (.ref ar), .unset, .unset, .unset, .unset] [(.int ad), (.int (1 : Int32)), (.ref ar)])) rfl rfl (hb hby at_28)
  have sz4 := Nat.le_trans sz3 (Keep.of_wr W4).1
  have N4 := Fr.snoc X4 N3 fr_ar
  refine own_st st4 ?_
  show own_Go p e below s _ _ _ (T4.setTop (mkF m 29 #[.val (.int aa), .val (.int ab), .val (.int ac), .val (.int ad), .val (.int ak), .val (.int wd), .val (.int of), .val (.ref ar), .unset, .unset, .unset, .unset] []))
  refine own_st (fun _ kont => XS.aload X4.here hx rfl (hb hby at_29) rfl rfl kont) ?_
  show own_Go p e below s _ _ _ (T4.setTop (mkF m 31 #[.val (.int aa), .val (.int ab), .val (.int ac), .val (.int ad), .val (.int ak), .val (.int wd), .val (.int of), .val (.ref ar), .unset, .unset, .unset, .unset] [(.ref ar)]))
  refine own_st (fun _ kont => XS.iconst X4.here hx rfl (hb hby at_31) kont) ?_
  show own_Go p e below s _ _ _ (T4.setTop (mkF m 32 #[.val (.int aa), .val (.int ab), .val (.int ac), .val (.int ad), .val (.int ak), .val (.int wd), .val (.int of), .val (.ref ar), .unset, .unset, .unset, .unset] [(.int (2 : Int32)), (.ref ar)]))
  refine own_st (fun _ kont => XS.iloadN X4.here hx rfl (hb hby at_32) rfl kont) ?_
  show own_Go p e below s _ _ _ (T4.setTop (mkF m 33 #[.val (.int aa), .val (.int ab), .val (.int ac), .val (.int ad), .val (.int ak), .val (.int wd), .val (.int of), .val (.ref ar), .unset, .unset, .unset, .unset] [(.int ad), (.int (2 : Int32)), (.ref ar)]))
  obtain ⟨T5, h5, X5, e5, W5, Var_5, st5⟩ := own_stI X4 hx hZ e4 Var_4 (i := 2) (by decide) (by decide) (g := (mkF m 33 #[.val (.int aa), .val (.int ab), .val (.int ac), .val (.int ad), .val (.int ak), .val (.int wd), .val (.int of), .val (.ref ar), .unset, .unset, .unset, .unset] [(.int ad), (.int (2 : Int32)), (.ref ar)])) rfl rfl (hb hby at_33)
  have sz5 := Nat.le_trans sz4 (Keep.of_wr W5).1
  have N5 := Fr.snoc X5 N4 fr_ar
  refine own_st st5 ?_
  show own_Go p e below s _ _ _ (T5.setTop (mkF m 34 #[.val (.int aa), .val (.int ab), .val (.int ac), .val (.int ad), .val (.int ak), .val (.int wd), .val (.int of), .val (.ref ar), .unset, .unset, .unset, .unset] []))
  refine own_st (fun _ kont => XS.aload X5.here hx rfl (hb hby at_34) rfl rfl kont) ?_
  show own_Go p e below s _ _ _ (T5.setTop (mkF m 36 #[.val (.int aa), .val (.int ab), .val (.int ac), .val (.int ad), .val (.int ak), .val (.int wd), .val (.int of), .val (.ref ar), .unset, .unset, .unset, .unset] [(.ref ar)]))
  refine own_st (fun _ kont => XS.iconst X5.here hx rfl (hb hby at_36) kont) ?_
  show own_Go p e below s _ _ _ (T5.setTop (mkF m 37 #[.val (.int aa), .val (.int ab), .val (.int ac), .val (.int ad), .val (.int ak), .val (.int wd), .val (.int of), .val (.ref ar), .unset, .unset, .unset, .unset] [(.int (3 : Int32)), (.ref ar)]))
  refine own_st (fun _ kont => XS.iloadN X5.here hx rfl (hb hby at_37) rfl kont) ?_
  show own_Go p e below s _ _ _ (T5.setTop (mkF m 38 #[.val (.int aa), .val (.int ab), .val (.int ac), .val (.int ad), .val (.int ak), .val (.int wd), .val (.int of), .val (.ref ar), .unset, .unset, .unset, .unset] [(.int ad), (.int (3 : Int32)), (.ref ar)]))
  obtain ⟨T6, h6, X6, e6, W6, Var_6, st6⟩ := own_stI X5 hx hZ e5 Var_5 (i := 3) (by decide) (by decide) (g := (mkF m 38 #[.val (.int aa), .val (.int ab), .val (.int ac), .val (.int ad), .val (.int ak), .val (.int wd), .val (.int of), .val (.ref ar), .unset, .unset, .unset, .unset] [(.int ad), (.int (3 : Int32)), (.ref ar)])) rfl rfl (hb hby at_38)
  have sz6 := Nat.le_trans sz5 (Keep.of_wr W6).1
  have N6 := Fr.snoc X6 N5 fr_ar
  refine own_st st6 ?_
  show own_Go p e below s _ _ _ (T6.setTop (mkF m 39 #[.val (.int aa), .val (.int ab), .val (.int ac), .val (.int ad), .val (.int ak), .val (.int wd), .val (.int of), .val (.ref ar), .unset, .unset, .unset, .unset] []))
  refine own_st (fun _ kont => XS.aload X6.here hx rfl (hb hby at_39) rfl rfl kont) ?_
  show own_Go p e below s _ _ _ (T6.setTop (mkF m 41 #[.val (.int aa), .val (.int ab), .val (.int ac), .val (.int ad), .val (.int ak), .val (.int wd), .val (.int of), .val (.ref ar), .unset, .unset, .unset, .unset] [(.ref ar)]))
  refine own_st (fun _ kont => XS.iconst X6.here hx rfl (hb hby at_41) kont) ?_
  show own_Go p e below s _ _ _ (T6.setTop (mkF m 42 #[.val (.int aa), .val (.int ab), .val (.int ac), .val (.int ad), .val (.int ak), .val (.int wd), .val (.int of), .val (.ref ar), .unset, .unset, .unset, .unset] [(.int (4 : Int32)), (.ref ar)]))
  refine own_st (fun _ kont => XS.iloadN X6.here hx rfl (hb hby at_42) rfl kont) ?_
  show own_Go p e below s _ _ _ (T6.setTop (mkF m 43 #[.val (.int aa), .val (.int ab), .val (.int ac), .val (.int ad), .val (.int ak), .val (.int wd), .val (.int of), .val (.ref ar), .unset, .unset, .unset, .unset] [(.int ad), (.int (4 : Int32)), (.ref ar)]))
  obtain ⟨T7, h7, X7, e7, W7, Var_7, st7⟩ := own_stI X6 hx hZ e6 Var_6 (i := 4) (by decide) (by decide) (g := (mkF m 43 #[.val (.int aa), .val (.int ab), .val (.int ac), .val (.int ad), .val (.int ak), .val (.int wd), .val (.int of), .val (.ref ar), .unset, .unset, .unset, .unset] [(.int ad), (.int (4 : Int32)), (.ref ar)])) rfl rfl (hb hby at_43)
  have sz7 := Nat.le_trans sz6 (Keep.of_wr W7).1
  have N7 := Fr.snoc X7 N6 fr_ar
  refine own_st st7 ?_
  show own_Go p e below s _ _ _ (T7.setTop (mkF m 44 #[.val (.int aa), .val (.int ab), .val (.int ac), .val (.int ad), .val (.int ak), .val (.int wd), .val (.int of), .val (.ref ar), .unset, .unset, .unset, .unset] []))
  obtain ⟨f0, Var_7⟩ : ∃ f : Nat → Int32, own_Av Z h7 ar .int 5 (fun t => .int (f t)) := ⟨_, Var_7⟩
  rcases (by omega : iw = 0 ∨ iw = 1 ∨ iw = 2 ∨ iw = 3) with rfl | rfl | rfl | rfl
  · obtain rfl : wd = (0 : Int32) := Int32.toInt_inj.mp hwd
    show own_Go p e below s _ _ _ (T7.setTop (mkF m 44 #[.val (.int aa), .val (.int ab), .val (.int ac), .val (.int ad), .val (.int ak), .val (.int (0 : Int32)), .val (.int of), .val (.ref ar), .unset, .unset, .unset, .unset] []))
    refine own_st (fun _ kont => XS.iload X7.here hx rfl (hb hby at_44) rfl kont) ?_
    show own_Go p e below s _ _ _ (T7.setTop (mkF m 46 #[.val (.int aa), .val (.int ab), .val (.int ac), .val (.int ad), .val (.int ak), .val (.int (0 : Int32)), .val (.int of), .val (.ref ar), .unset, .unset, .unset, .unset] [(.int (0 : Int32))]))
    refine own_st (fun _ kont => XS.ifYes X7.here hx rfl (pc0 := 46) (pc' := 55) rfl (hb hby at_46) rfl (by decide) (by decide) (by decide) kont) ?_
    show own_Go p e below s _ _ _ (T7.setTop (mkF m 55 #[.val (.int aa), .val (.int ab), .val (.int ac), .val (.int ad), .val (.int ak), .val (.int (0 : Int32)), .val (.int of), .val (.ref ar), .unset, .unset, .unset, .unset] []))
    refine own_st (fun _ kont => XS.iload X7.here hx rfl (hb hby at_55) rfl kont) ?_
    show own_Go p e below s _ _ _ (T7.setTop (mkF m 57 #[.val (.int aa), .val (.int ab), .val (.int ac), .val (.int ad), .val (.int ak), .val (.int (0 : Int32)), .val (.int of), .val (.ref ar), .unset, .unset, .unset, .unset] [(.int (0 : Int32))]))
    refine own_st (fun _ kont => XS.iconst X7.here hx rfl (hb hby at_57) kont) ?_
    show own_Go p e below s _ _ _ (T7.setTop (mkF m 58 #[.val (.int aa), .val (.int ab), .val (.int ac), .val (.int ad), .val (.int ak), .val (.int (0 : Int32)), .val (.int of), .val (.ref ar), .unset, .unset, .unset, .unset] [(.int (1 : Int32)), (.int (0 : Int32))]))
    refine own_st (fun _ kont => XS.icmpYes X7.here hx rfl (pc0 := 58) (pc' := 69) rfl (hb hby at_58) rfl (by decide) (by decide) (by decide) kont) ?_
    show own_Go p e below s _ _ _ (T7.setTop (mkF m 69 #[.val (.int aa), .val (.int ab), .val (.int ac), .val (.int ad), .val (.int ak), .val (.int (0 : Int32)), .val (.int of), .val (.ref ar), .unset, .unset, .unset, .unset] []))
    refine own_st (fun _ kont => XS.iload X7.here hx rfl (hb hby at_69) rfl kont) ?_
    show own_Go p e below s _ _ _ (T7.setTop (mkF m 71 #[.val (.int aa), .val (.int ab), .val (.int ac), .val (.int ad), .val (.int ak), .val (.int (0 : Int32)), .val (.int of), .val (.ref ar), .unset, .unset, .unset, .unset] [(.int (0 : Int32))]))
    refine own_st (fun _ kont => XS.iconst X7.here hx rfl (hb hby at_71) kont) ?_
    show own_Go p e below s _ _ _ (T7.setTop (mkF m 72 #[.val (.int aa), .val (.int ab), .val (.int ac), .val (.int ad), .val (.int ak), .val (.int (0 : Int32)), .val (.int of), .val (.ref ar), .unset, .unset, .unset, .unset] [(.int (2 : Int32)), (.int (0 : Int32))]))
    refine own_st (fun _ kont => XS.icmpYes X7.here hx rfl (pc0 := 72) (pc' := 83) rfl (hb hby at_72) rfl (by decide) (by decide) (by decide) kont) ?_
    show own_Go p e below s _ _ _ (T7.setTop (mkF m 83 #[.val (.int aa), .val (.int ab), .val (.int ac), .val (.int ad), .val (.int ak), .val (.int (0 : Int32)), .val (.int of), .val (.ref ar), .unset, .unset, .unset, .unset] []))
    refine own_st (fun _ kont => X7.ldcInt hx hown (mvT hZ (hw _ (List.mem_of_getElem? (i := 1) rfl))) (g := (mkF m 83 #[.val (.int aa), .val (.int ab), .val (.int ac), .val (.int ad), .val (.int ak), .val (.int (0 : Int32)), .val (.int of), .val (.ref ar), .unset, .unset, .unset, .unset] [])) rfl (hb hby at_83) _ kont) ?_
    show own_Go p e below s _ _ _ (T7.setTop (mkF m 85 #[.val (.int aa), .val (.int ab), .val (.int ac), .val (.int ad), .val (.int ak), .val (.int (0 : Int32)), .val (.int of), .val (.ref ar), .unset, .unset, .unset, .unset] [(.int (-1640531527 : Int32))]))
    refine own_st (fun _ kont => XS.istore X7.here hx rfl (hb hby at_85) rfl (l' := #[.val (.int aa), .val (.int ab), .val (.int ac), .val (.int ad), .val (.int ak), .val (.int (0 : Int32)), .val (.int of), .val (.ref ar), .val (.int (-1640531527 : Int32)), .unset, .unset, .unset]) rfl kont) ?_
    show own_Go p e below s _ _ _ (T7.setTop (mkF m 87 #[.val (.int aa), .val (.int ab), .val (.int ac), .val (.int ad), .val (.int ak), .val (.int (0 : Int32)), .val (.int of), .val (.ref ar), .val (.int (-1640531527 : Int32)), .unset, .unset, .unset] []))
    refine own_st (fun _ kont => XS.iload X7.here hx rfl (hb hby at_87) rfl kont) ?_
    show own_Go p e below s _ _ _ (T7.setTop (mkF m 89 #[.val (.int aa), .val (.int ab), .val (.int ac), .val (.int ad), .val (.int ak), .val (.int (0 : Int32)), .val (.int of), .val (.ref ar), .val (.int (-1640531527 : Int32)), .unset, .unset, .unset] [(.int (-1640531527 : Int32))]))
    refine own_st (fun _ kont => XS.iload X7.here hx rfl (hb hby at_89) rfl kont) ?_
    show own_Go p e below s _ _ _ (T7.setTop (mkF m 91 #[.val (.int aa), .val (.int ab), .val (.int ac), .val (.int ad), .val (.int ak), .val (.int (0 : Int32)), .val (.int of), .val (.ref ar), .val (.int (-1640531527 : Int32)), .unset, .unset, .unset] [(.int (-1640531527 : Int32)), (.int (-1640531527 : Int32))]))
    refine own_st (fun _ kont => XS.imul X7.here hx rfl (hb hby at_91) rfl kont) ?_
    show own_Go p e below s _ _ _ (T7.setTop (mkF m 92 #[.val (.int aa), .val (.int ab), .val (.int ac), .val (.int ad), .val (.int ak), .val (.int (0 : Int32)), .val (.int of), .val (.ref ar), .val (.int (-1640531527 : Int32)), .unset, .unset, .unset] [(.int (-480352335 : Int32))]))
    refine own_st (fun _ kont => XS.istore X7.here hx rfl (hb hby at_92) rfl (l' := #[.val (.int aa), .val (.int ab), .val (.int ac), .val (.int ad), .val (.int ak), .val (.int (0 : Int32)), .val (.int of), .val (.ref ar), .val (.int (-1640531527 : Int32)), .val (.int (-480352335 : Int32)), .unset, .unset]) rfl kont) ?_
    show own_Go p e below s _ _ _ (T7.setTop (mkF m 94 #[.val (.int aa), .val (.int ab), .val (.int ac), .val (.int ad), .val (.int ak), .val (.int (0 : Int32)), .val (.int of), .val (.ref ar), .val (.int (-1640531527 : Int32)), .val (.int (-480352335 : Int32)), .unset, .unset] []))
    refine own_st (fun _ kont => XS.iload X7.here hx rfl (hb hby at_94) rfl kont) ?_
    show own_Go p e below s _ _ _ (T7.setTop (mkF m 96 #[.val (.int aa), .val (.int ab), .val (.int ac), .val (.int ad), .val (.int ak), .val (.int (0 : Int32)), .val (.int of), .val (.ref ar), .val (.int (-1640531527 : Int32)), .val (.int (-480352335 : Int32)), .unset, .unset] [(.int (0 : Int32))]))
    refine own_st (fun _ kont => XS.ifNo X7.here hx rfl (hb hby at_96) rfl (by decide) kont) ?_
    show own_Go p e below s _ _ _ (T7.setTop (mkF m 99 #[.val (.int aa), .val (.int ab), .val (.int ac), .val (.int ad), .val (.int ak), .val (.int (0 : Int32)), .val (.int of), .val (.ref ar), .val (.int (-1640531527 : Int32)), .val (.int (-480352335 : Int32)), .unset, .unset] []))
    refine own_st (fun _ kont => XS.iconst X7.here hx rfl (hb hby at_99) kont) ?_
    show own_Go p e below s _ _ _ (T7.setTop (mkF m 100 #[.val (.int aa), .val (.int ab), .val (.int ac), .val (.int ad), .val (.int ak), .val (.int (0 : Int32)), .val (.int of), .val (.ref ar), .val (.int (-1640531527 : Int32)), .val (.int (-480352335 : Int32)), .unset, .unset] [(.int (0 : Int32))]))
    refine own_st (fun _ kont => XS.istore X7.here hx rfl (hb hby at_100) rfl (l' := #[.val (.int aa), .val (.int ab), .val (.int ac), .val (.int ad), .val (.int ak), .val (.int (0 : Int32)), .val (.int of), .val (.ref ar), .val (.int (-1640531527 : Int32)), .val (.int (-480352335 : Int32)), .val (.int (0 : Int32)), .unset]) rfl kont) ?_
    show own_Go p e below s _ _ _ (T7.setTop (mkF m 102 #[.val (.int aa), .val (.int ab), .val (.int ac), .val (.int ad), .val (.int ak), .val (.int (0 : Int32)), .val (.int of), .val (.ref ar), .val (.int (-1640531527 : Int32)), .val (.int (-480352335 : Int32)), .val (.int (0 : Int32)), .unset] []))
    refine own_st (fun _ kont => XS.goto X7.here hx rfl (pc0 := 102) (pc' := 147) rfl (hb hby at_102) (by decide) (by decide) kont) ?_
    show own_Go p e below s _ _ _ (T7.setTop (mkF m 147 #[.val (.int aa), .val (.int ab), .val (.int ac), .val (.int ad), .val (.int ak), .val (.int (0 : Int32)), .val (.int of), .val (.ref ar), .val (.int (-1640531527 : Int32)), .val (.int (-480352335 : Int32)), .val (.int (0 : Int32)), .unset] []))
    obtain ⟨T8, h8, X8, e8, E8, A8, D8, -, st8⟩ := newO X7 hx hZ hown (hw _ (List.mem_of_getElem? (i := 2) rfl)) (hw _ (List.mem_of_getElem? (i := 3) rfl)) (hw _ (List.mem_of_getElem? (i := 4) rfl)) e7 (g := (mkF m 147 #[.val (.int aa), .val (.int ab), .val (.int ac), .val (.int ad), .val (.int ak), .val (.int (0 : Int32)), .val (.int of), .val (.ref ar), .val (.int (-1640531527 : Int32)), .val (.int (-480352335 : Int32)), .val (.int (0 : Int32)), .unset] [])) rfl (hb hby at_147) (by decide) (by decide)
    obtain ⟨mi, g8⟩ : ∃ z, z = h7.size := ⟨_, rfl⟩
    rw [← g8] at A8 D8 st8
    have ne_ar_mi : ar ≠ mi := Nat.ne_of_lt (Nat.lt_of_lt_of_eq Var_7.lt g8.symm)
    have fr_mi : n0 ≤ mi := Nat.le_trans sz7 (Nat.le_of_eq g8.symm)
    have Var_8 := Var_7.ext E8
    have sz8 := Nat.le_trans sz7 E8.1
    have EXmi := A8
    have Fmi_slots : Fld Z h8 mi "com/example/interpres/interpres/netsemantics/MarkingIndex" "slots" "[I" .null := D8 (Or.inl (hw _ (List.mem_of_getElem? (i := 12) rfl))) (ty := (.array .int)) (by decide)
    have Fmi_width : Fld Z h8 mi "com/example/interpres/interpres/netsemantics/MarkingIndex" "width" "I" (.int 0) := D8 (Or.inr (hw _ (List.mem_of_getElem? (i := 14) rfl))) (ty := .int) (by decide)
    have Fmi_markings : Fld Z h8 mi "com/example/interpres/interpres/netsemantics/MarkingIndex" "markings" "[I" .null := D8 (Or.inl (hw _ (List.mem_of_getElem? (i := 22) rfl))) (ty := (.array .int)) (by decide)
    refine own_st st8 ?_
    show own_Go p e below s _ _ _ (T8.setTop (mkF m 150 #[.val (.int aa), .val (.int ab), .val (.int ac), .val (.int ad), .val (.int ak), .val (.int (0 : Int32)), .val (.int of), .val (.ref ar), .val (.int (-1640531527 : Int32)), .val (.int (-480352335 : Int32)), .val (.int (0 : Int32)), .unset] [(.ref mi)]))
    refine own_st (fun _ kont => XS.dup X8.here hx rfl (hb hby at_150) rfl rfl kont) ?_
    show own_Go p e below s _ _ _ (T8.setTop (mkF m 151 #[.val (.int aa), .val (.int ab), .val (.int ac), .val (.int ad), .val (.int ak), .val (.int (0 : Int32)), .val (.int of), .val (.ref ar), .val (.int (-1640531527 : Int32)), .val (.int (-480352335 : Int32)), .val (.int (0 : Int32)), .unset] [(.ref mi), (.ref mi)]))
    refine own_st (fun _ kont => XS.iload X8.here hx rfl (hb hby at_151) rfl kont) ?_
    show own_Go p e below s _ _ _ (T8.setTop (mkF m 153 #[.val (.int aa), .val (.int ab), .val (.int ac), .val (.int ad), .val (.int ak), .val (.int (0 : Int32)), .val (.int of), .val (.ref ar), .val (.int (-1640531527 : Int32)), .val (.int (-480352335 : Int32)), .val (.int (0 : Int32)), .unset] [(.int (0 : Int32)), (.ref mi), (.ref mi)]))
    refine own_cN X8 hx hml hZ rfl hown (hw _ (List.mem_of_getElem? (i := 5) rfl)) (hw _ (List.mem_of_getElem? (i := 6) rfl)) (hw _ (List.mem_of_getElem? (i := 4) rfl)) (hw _ (List.mem_of_getElem? (i := 7) rfl)) (by decide) (own_rm2 l Z a0 hw mi (0 : Int32) 0 h8 n0 sz8 Fmi_slots Fmi_width Fmi_markings EXmi fr_mi (by decide) (by decide)) e8 (by decide) (W := 1) (by decide) (g := (mkF m 153 #[.val (.int aa), .val (.int ab), .val (.int ac), .val (.int ad), .val (.int ak), .val (.int (0 : Int32)), .val (.int of), .val (.ref ar), .val (.int (-1640531527 : Int32)), .val (.int (-480352335 : Int32)), .val (.int (0 : Int32)), .unset] [(.int (0 : Int32)), (.ref mi), (.ref mi)])) rfl rfl own_pd1 (argsL := [(.int (0 : Int32))]) (rest := [(.ref mi)]) rfl rfl rfl (by show 2 * 0 + _ ≤ _; exact Nat.le_of_eq rfl) (hb hby at_153) (by decide) (by decide) ?_
    intro T9 L9 v9 X9 hQ9
    obtain ⟨rfl, Nc9, K9, Fw9⟩ := hQ9
    have N9 := Fr.app N7 Nc9
    have Var_9 := Var_8.keep K9 (ninS ne_ar_mi nin0)
    have EXmi_9 := EXmi.keep K9
    have sz9 := Nat.le_trans sz8 K9.1
    show own_Go p e below s _ _ _ (T9.setTop (mkF m 156 #[.val (.int aa), .val (.int ab), .val (.int ac), .val (.int ad), .val (.int ak), .val (.int (0 : Int32)), .val (.int of), .val (.ref ar), .val (.int (-1640531527 : Int32)), .val (.int (-480352335 : Int32)), .val (.int (0 : Int32)), .unset] [(.ref mi)]))
    refine own_st (fun _ kont => XS.astore X9.here hx rfl (hb hby at_156) rfl rfl (l' := #[.val (.int aa), .val (.int ab), .val (.int ac), .val (.int ad), .val (.int ak), .val (.int (0 : Int32)), .val (.int of), .val (.ref ar), .val (.int (-1640531527 : Int32)), .val (.int (-480352335 : Int32)), .val (.int (0 : Int32)), .val (.ref mi)]) rfl kont) ?_
    show own_Go p e below s _ _ _ (T9.setTop (mkF m 158 #[.val (.int aa), .val (.int ab), .val (.int ac), .val (.int ad), .val (.int ak), .val (.int (0 : Int32)), .val (.int of), .val (.ref ar), .val (.int (-1640531527 : Int32)), .val (.int (-480352335 : Int32)), .val (.int (0 : Int32)), .val (.ref mi)] []))
    refine own_st (fun _ kont => XS.aload X9.here hx rfl (hb hby at_158) rfl rfl kont) ?_
    show own_Go p e below s _ _ _ (T9.setTop (mkF m 160 #[.val (.int aa), .val (.int ab), .val (.int ac), .val (.int ad), .val (.int ak), .val (.int (0 : Int32)), .val (.int of), .val (.ref ar), .val (.int (-1640531527 : Int32)), .val (.int (-480352335 : Int32)), .val (.int (0 : Int32)), .val (.ref mi)] [(.ref mi)]))
    refine own_st (fun _ kont => XS.aload X9.here hx rfl (hb hby at_160) rfl rfl kont) ?_
    show own_Go p e below s _ _ _ (T9.setTop (mkF m 162 #[.val (.int aa), .val (.int ab), .val (.int ac), .val (.int ad), .val (.int ak), .val (.int (0 : Int32)), .val (.int of), .val (.ref ar), .val (.int (-1640531527 : Int32)), .val (.int (-480352335 : Int32)), .val (.int (0 : Int32)), .val (.ref mi)] [(.ref ar), (.ref mi)]))
    refine own_st (fun _ kont => XS.iload X9.here hx rfl (hb hby at_162) rfl kont) ?_
    show own_Go p e below s _ _ _ (T9.setTop (mkF m 164 #[.val (.int aa), .val (.int ab), .val (.int ac), .val (.int ad), .val (.int ak), .val (.int (0 : Int32)), .val (.int of), .val (.ref ar), .val (.int (-1640531527 : Int32)), .val (.int (-480352335 : Int32)), .val (.int (0 : Int32)), .val (.ref mi)] [(.int of), (.ref ar), (.ref mi)]))
    obtain ⟨g, hg, Var_9⟩ : ∃ g : Nat → Int32, (True) ∧ own_Av Z T9.heap ar .int 5 (fun t => .int (g t)) := ⟨_, trivial, Var_9⟩
    show own_Go p e below s _ _ _ (T9.setTop (mkF m 164 #[.val (.int aa), .val (.int ab), .val (.int ac), .val (.int ad), .val (.int ak), .val (.int (0 : Int32)), .val (.int of), .val (.ref ar), .val (.int (-1640531527 : Int32)), .val (.int (-480352335 : Int32)), .val (.int (0 : Int32)), .val (.ref mi)] [(.int of), (.ref ar), (.ref mi)]))
    refine own_cV X9 hx hml hZ hown (hw _ (List.mem_of_getElem? (i := 23) rfl)) (hw _ (List.mem_of_getElem? (i := 24) rfl)) (hw _ (List.mem_of_getElem? (i := 26) rfl)) (hw _ (List.mem_of_getElem? (i := 25) rfl)) (hw _ (List.mem_of_getElem? (i := 4) rfl)) (hw _ (List.mem_of_getElem? (i := 27) rfl)) (by decide) (own_rm3 l Z a0 hw mi ar of (0 : Int32) g io 0 T9.heap n0 sz9 Var_9 Fw9 ho (by decide) (by omega)) (rfl : T9.heap = T9.heap) EXmi_9 (by decide) (W := 0) (by decide) (g := (mkF m 164 #[.val (.int aa), .val (.int ab), .val (.int ac), .val (.int ad), .val (.int ak), .val (.int (0 : Int32)), .val (.int of), .val (.ref ar), .val (.int (-1640531527 : Int32)), .val (.int (-480352335 : Int32)), .val (.int (0 : Int32)), .val (.ref mi)] [(.int of), (.ref ar), (.ref mi)])) rfl rfl own_pd2 (argsL := [(.ref ar), (.int of)]) (rest := []) rfl rfl rfl (by show 2 * 0 + _ ≤ _; exact Nat.le_of_eq rfl) (hb hby at_164) (by decide) (by decide) ?_
    intro T10 L10 v10 X10 hQ10
    obtain ⟨rfl, eh10, le10⟩ := hQ10
    have N10 := own_nil N9 le10
    show own_Go p e below s _ _ _ (T10.setTop (mkF m 167 #[.val (.int aa), .val (.int ab), .val (.int ac), .val (.int ad), .val (.int ak), .val (.int (0 : Int32)), .val (.int of), .val (.ref ar), .val (.int (-1640531527 : Int32)), .val (.int (-480352335 : Int32)), .val (.int (0 : Int32)), .val (.ref mi)] [(.int (own_mix (own_hs g io 0)))]))
    refine own_cS X10 hx hml hZ hown (hw _ (List.mem_of_getElem? (i := 30) rfl)) (hw _ (List.mem_of_getElem? (i := 31) rfl)) (hw _ (List.mem_of_getElem? (i := 32) rfl)) (hw _ (List.mem_of_getElem? (i := 33) rfl)) (by decide) (own_rm4 l Z a0 hw (own_mix (own_hs g io 0)) T9.heap n0 sz9) eh10 (by decide) (W := 0) (by decide) (g := (mkF m 167 #[.val (.int aa), .val (.int ab), .val (.int ac), .val (.int ad), .val (.int ak), .val (.int (0 : Int32)), .val (.int of), .val (.ref ar), .val (.int (-1640531527 : Int32)), .val (.int (-480352335 : Int32)), .val (.int (0 : Int32)), .val (.ref mi)] [(.int (own_mix (own_hs g io 0)))])) rfl rfl own_pd3 (argsL := [(.int (own_mix (own_hs g io 0)))]) (rest := []) rfl rfl rfl (by show 2 * 0 + _ ≤ _; exact Nat.le_of_eq rfl) (hb hby at_167) (by decide) (by decide) ?_
    intro T11 L11 v11 X11 hQ11
    obtain ⟨rfl, eh11, le11⟩ := hQ11
    have N11 := own_nil N10 le11
    show own_Go p e below s _ _ _ (T11.setTop (mkF m 170 #[.val (.int aa), .val (.int ab), .val (.int ac), .val (.int ad), .val (.int ak), .val (.int (0 : Int32)), .val (.int of), .val (.ref ar), .val (.int (-1640531527 : Int32)), .val (.int (-480352335 : Int32)), .val (.int (0 : Int32)), .val (.ref mi)] [(.int (own_unmix (own_mix (own_hs g io 0))))]))
    refine own_st (fun _ kont => XS.iload X11.here hx rfl (hb hby at_170) rfl kont) ?_
    show own_Go p e below s _ _ _ (T11.setTop (mkF m 172 #[.val (.int aa), .val (.int ab), .val (.int ac), .val (.int ad), .val (.int ak), .val (.int (0 : Int32)), .val (.int of), .val (.ref ar), .val (.int (-1640531527 : Int32)), .val (.int (-480352335 : Int32)), .val (.int (0 : Int32)), .val (.ref mi)] [(.int (0 : Int32)), (.int (own_unmix (own_mix (own_hs g io 0))))]))
    refine own_st (fun _ kont => XS.icmpNo X11.here hx rfl (hb hby at_172) rfl (teq (by rw [own_back]; exact rfl)).2 kont) ?_
    show own_Go p e below s _ _ _ (T11.setTop (mkF m 175 #[.val (.int aa), .val (.int ab), .val (.int ac), .val (.int ad), .val (.int ak), .val (.int (0 : Int32)), .val (.int of), .val (.ref ar), .val (.int (-1640531527 : Int32)), .val (.int (-480352335 : Int32)), .val (.int (0 : Int32)), .val (.ref mi)] []))
    refine own_st (fun _ kont => XS.iconst X11.here hx rfl (hb hby at_175) kont) ?_
    show own_Go p e below s _ _ _ (T11.setTop (mkF m 176 #[.val (.int aa), .val (.int ab), .val (.int ac), .val (.int ad), .val (.int ak), .val (.int (0 : Int32)), .val (.int of), .val (.ref ar), .val (.int (-1640531527 : Int32)), .val (.int (-480352335 : Int32)), .val (.int (0 : Int32)), .val (.ref mi)] [(.int (1 : Int32))]))
    refine own_st (fun _ kont => XS.goto X11.here hx rfl (pc0 := 176) (pc' := 180) rfl (hb hby at_176) (by decide) (by decide) kont) ?_
    show own_Go p e below s _ _ _ (T11.setTop (mkF m 180 #[.val (.int aa), .val (.int ab), .val (.int ac), .val (.int ad), .val (.int ak), .val (.int (0 : Int32)), .val (.int of), .val (.ref ar), .val (.int (-1640531527 : Int32)), .val (.int (-480352335 : Int32)), .val (.int (0 : Int32)), .val (.ref mi)] [(.int (1 : Int32))]))
    exact own_endN X11 hx hlk (t := .boolean) hret (by simp) (hb hby at_180) (w := (1 : Int32)) (by decide) ⟨rfl, N11⟩ (by decide) (by decide)
  · obtain rfl : wd = (1 : Int32) := Int32.toInt_inj.mp hwd
    show own_Go p e below s _ _ _ (T7.setTop (mkF m 44 #[.val (.int aa), .val (.int ab), .val (.int ac), .val (.int ad), .val (.int ak), .val (.int (1 : Int32)), .val (.int of), .val (.ref ar), .unset, .unset, .unset, .unset] []))
    refine own_st (fun _ kont => XS.iload X7.here hx rfl (hb hby at_44) rfl kont) ?_
    show own_Go p e below s _ _ _ (T7.setTop (mkF m 46 #[.val (.int aa), .val (.int ab), .val (.int ac), .val (.int ad), .val (.int ak), .val (.int (1 : Int32)), .val (.int of), .val (.ref ar), .unset, .unset, .unset, .unset] [(.int (1 : Int32))]))
    refine own_st (fun _ kont => XS.ifNo X7.here hx rfl (hb hby at_46) rfl (by decide) kont) ?_
    show own_Go p e below s _ _ _ (T7.setTop (mkF m 49 #[.val (.int aa), .val (.int ab), .val (.int ac), .val (.int ad), .val (.int ak), .val (.int (1 : Int32)), .val (.int of), .val (.ref ar), .unset, .unset, .unset, .unset] []))
    refine own_st (fun _ kont => XS.aload X7.here hx rfl (hb hby at_49) rfl rfl kont) ?_
    show own_Go p e below s _ _ _ (T7.setTop (mkF m 51 #[.val (.int aa), .val (.int ab), .val (.int ac), .val (.int ad), .val (.int ak), .val (.int (1 : Int32)), .val (.int of), .val (.ref ar), .unset, .unset, .unset, .unset] [(.ref ar)]))
    refine own_st (fun _ kont => XS.iload X7.here hx rfl (hb hby at_51) rfl kont) ?_
    show own_Go p e below s _ _ _ (T7.setTop (mkF m 53 #[.val (.int aa), .val (.int ab), .val (.int ac), .val (.int ad), .val (.int ak), .val (.int (1 : Int32)), .val (.int of), .val (.ref ar), .unset, .unset, .unset, .unset] [(.int of), (.ref ar)]))
    refine own_st (fun _ kont => XS.iloadN X7.here hx rfl (hb hby at_53) rfl kont) ?_
    show own_Go p e below s _ _ _ (T7.setTop (mkF m 54 #[.val (.int aa), .val (.int ab), .val (.int ac), .val (.int ad), .val (.int ak), .val (.int (1 : Int32)), .val (.int of), .val (.ref ar), .unset, .unset, .unset, .unset] [(.int aa), (.int of), (.ref ar)]))
    obtain ⟨T12, h12, X12, e12, W12, Var_12, st12⟩ := own_stI X7 hx hZ e7 Var_7 (i := io) ho (by omega) (g := (mkF m 54 #[.val (.int aa), .val (.int ab), .val (.int ac), .val (.int ad), .val (.int ak), .val (.int (1 : Int32)), .val (.int of), .val (.ref ar), .unset, .unset, .unset, .unset] [(.int aa), (.int of), (.ref ar)])) rfl rfl (hb hby at_54)
    have sz12 := Nat.le_trans sz7 (Keep.of_wr W12).1
    have N12 := Fr.snoc X12 N7 fr_ar
    refine own_st st12 ?_
    show own_Go p e below s _ _ _ (T12.setTop (mkF m 55 #[.val (.int aa), .val (.int ab), .val (.int ac), .val (.int ad), .val (.int ak), .val (.int (1 : Int32)), .val (.int of), .val (.ref ar), .unset, .unset, .unset, .unset] []))
    refine own_st (fun _ kont => XS.iload X12.here hx rfl (hb hby at_55) rfl kont) ?_
    show own_Go p e below s _ _ _ (T12.setTop (mkF m 57 #[.val (.int aa), .val (.int ab), .val (.int ac), .val (.int ad), .val (.int ak), .val (.int (1 : Int32)), .val (.int of), .val (.ref ar), .unset, .unset, .unset, .unset] [(.int (1 : Int32))]))
    refine own_st (fun _ kont => XS.iconst X12.here hx rfl (hb hby at_57) kont) ?_
    show own_Go p e below s _ _ _ (T12.setTop (mkF m 58 #[.val (.int aa), .val (.int ab), .val (.int ac), .val (.int ad), .val (.int ak), .val (.int (1 : Int32)), .val (.int of), .val (.ref ar), .unset, .unset, .unset, .unset] [(.int (1 : Int32)), (.int (1 : Int32))]))
    refine own_st (fun _ kont => XS.icmpYes X12.here hx rfl (pc0 := 58) (pc' := 69) rfl (hb hby at_58) rfl (by decide) (by decide) (by decide) kont) ?_
    show own_Go p e below s _ _ _ (T12.setTop (mkF m 69 #[.val (.int aa), .val (.int ab), .val (.int ac), .val (.int ad), .val (.int ak), .val (.int (1 : Int32)), .val (.int of), .val (.ref ar), .unset, .unset, .unset, .unset] []))
    refine own_st (fun _ kont => XS.iload X12.here hx rfl (hb hby at_69) rfl kont) ?_
    show own_Go p e below s _ _ _ (T12.setTop (mkF m 71 #[.val (.int aa), .val (.int ab), .val (.int ac), .val (.int ad), .val (.int ak), .val (.int (1 : Int32)), .val (.int of), .val (.ref ar), .unset, .unset, .unset, .unset] [(.int (1 : Int32))]))
    refine own_st (fun _ kont => XS.iconst X12.here hx rfl (hb hby at_71) kont) ?_
    show own_Go p e below s _ _ _ (T12.setTop (mkF m 72 #[.val (.int aa), .val (.int ab), .val (.int ac), .val (.int ad), .val (.int ak), .val (.int (1 : Int32)), .val (.int of), .val (.ref ar), .unset, .unset, .unset, .unset] [(.int (2 : Int32)), (.int (1 : Int32))]))
    refine own_st (fun _ kont => XS.icmpYes X12.here hx rfl (pc0 := 72) (pc' := 83) rfl (hb hby at_72) rfl (by decide) (by decide) (by decide) kont) ?_
    show own_Go p e below s _ _ _ (T12.setTop (mkF m 83 #[.val (.int aa), .val (.int ab), .val (.int ac), .val (.int ad), .val (.int ak), .val (.int (1 : Int32)), .val (.int of), .val (.ref ar), .unset, .unset, .unset, .unset] []))
    refine own_st (fun _ kont => X12.ldcInt hx hown (mvT hZ (hw _ (List.mem_of_getElem? (i := 1) rfl))) (g := (mkF m 83 #[.val (.int aa), .val (.int ab), .val (.int ac), .val (.int ad), .val (.int ak), .val (.int (1 : Int32)), .val (.int of), .val (.ref ar), .unset, .unset, .unset, .unset] [])) rfl (hb hby at_83) _ kont) ?_
    show own_Go p e below s _ _ _ (T12.setTop (mkF m 85 #[.val (.int aa), .val (.int ab), .val (.int ac), .val (.int ad), .val (.int ak), .val (.int (1 : Int32)), .val (.int of), .val (.ref ar), .unset, .unset, .unset, .unset] [(.int (-1640531527 : Int32))]))
    refine own_st (fun _ kont => XS.istore X12.here hx rfl (hb hby at_85) rfl (l' := #[.val (.int aa), .val (.int ab), .val (.int ac), .val (.int ad), .val (.int ak), .val (.int (1 : Int32)), .val (.int of), .val (.ref ar), .val (.int (-1640531527 : Int32)), .unset, .unset, .unset]) rfl kont) ?_
    show own_Go p e below s _ _ _ (T12.setTop (mkF m 87 #[.val (.int aa), .val (.int ab), .val (.int ac), .val (.int ad), .val (.int ak), .val (.int (1 : Int32)), .val (.int of), .val (.ref ar), .val (.int (-1640531527 : Int32)), .unset, .unset, .unset] []))
    refine own_st (fun _ kont => XS.iload X12.here hx rfl (hb hby at_87) rfl kont) ?_
    show own_Go p e below s _ _ _ (T12.setTop (mkF m 89 #[.val (.int aa), .val (.int ab), .val (.int ac), .val (.int ad), .val (.int ak), .val (.int (1 : Int32)), .val (.int of), .val (.ref ar), .val (.int (-1640531527 : Int32)), .unset, .unset, .unset] [(.int (-1640531527 : Int32))]))
    refine own_st (fun _ kont => XS.iload X12.here hx rfl (hb hby at_89) rfl kont) ?_
    show own_Go p e below s _ _ _ (T12.setTop (mkF m 91 #[.val (.int aa), .val (.int ab), .val (.int ac), .val (.int ad), .val (.int ak), .val (.int (1 : Int32)), .val (.int of), .val (.ref ar), .val (.int (-1640531527 : Int32)), .unset, .unset, .unset] [(.int (-1640531527 : Int32)), (.int (-1640531527 : Int32))]))
    refine own_st (fun _ kont => XS.imul X12.here hx rfl (hb hby at_91) rfl kont) ?_
    show own_Go p e below s _ _ _ (T12.setTop (mkF m 92 #[.val (.int aa), .val (.int ab), .val (.int ac), .val (.int ad), .val (.int ak), .val (.int (1 : Int32)), .val (.int of), .val (.ref ar), .val (.int (-1640531527 : Int32)), .unset, .unset, .unset] [(.int (-480352335 : Int32))]))
    refine own_st (fun _ kont => XS.istore X12.here hx rfl (hb hby at_92) rfl (l' := #[.val (.int aa), .val (.int ab), .val (.int ac), .val (.int ad), .val (.int ak), .val (.int (1 : Int32)), .val (.int of), .val (.ref ar), .val (.int (-1640531527 : Int32)), .val (.int (-480352335 : Int32)), .unset, .unset]) rfl kont) ?_
    show own_Go p e below s _ _ _ (T12.setTop (mkF m 94 #[.val (.int aa), .val (.int ab), .val (.int ac), .val (.int ad), .val (.int ak), .val (.int (1 : Int32)), .val (.int of), .val (.ref ar), .val (.int (-1640531527 : Int32)), .val (.int (-480352335 : Int32)), .unset, .unset] []))
    refine own_st (fun _ kont => XS.iload X12.here hx rfl (hb hby at_94) rfl kont) ?_
    show own_Go p e below s _ _ _ (T12.setTop (mkF m 96 #[.val (.int aa), .val (.int ab), .val (.int ac), .val (.int ad), .val (.int ak), .val (.int (1 : Int32)), .val (.int of), .val (.ref ar), .val (.int (-1640531527 : Int32)), .val (.int (-480352335 : Int32)), .unset, .unset] [(.int (1 : Int32))]))
    refine own_st (fun _ kont => XS.ifYes X12.here hx rfl (pc0 := 96) (pc' := 105) rfl (hb hby at_96) rfl (by decide) (by decide) (by decide) kont) ?_
    show own_Go p e below s _ _ _ (T12.setTop (mkF m 105 #[.val (.int aa), .val (.int ab), .val (.int ac), .val (.int ad), .val (.int ak), .val (.int (1 : Int32)), .val (.int of), .val (.ref ar), .val (.int (-1640531527 : Int32)), .val (.int (-480352335 : Int32)), .unset, .unset] []))
    refine own_st (fun _ kont => XS.iload X12.here hx rfl (hb hby at_105) rfl kont) ?_
    show own_Go p e below s _ _ _ (T12.setTop (mkF m 107 #[.val (.int aa), .val (.int ab), .val (.int ac), .val (.int ad), .val (.int ak), .val (.int (1 : Int32)), .val (.int of), .val (.ref ar), .val (.int (-1640531527 : Int32)), .val (.int (-480352335 : Int32)), .unset, .unset] [(.int (1 : Int32))]))
    refine own_st (fun _ kont => XS.iconst X12.here hx rfl (hb hby at_107) kont) ?_
    show own_Go p e below s _ _ _ (T12.setTop (mkF m 108 #[.val (.int aa), .val (.int ab), .val (.int ac), .val (.int ad), .val (.int ak), .val (.int (1 : Int32)), .val (.int of), .val (.ref ar), .val (.int (-1640531527 : Int32)), .val (.int (-480352335 : Int32)), .unset, .unset] [(.int (1 : Int32)), (.int (1 : Int32))]))
    refine own_st (fun _ kont => XS.icmpNo X12.here hx rfl (hb hby at_108) rfl (by decide) kont) ?_
    show own_Go p e below s _ _ _ (T12.setTop (mkF m 111 #[.val (.int aa), .val (.int ab), .val (.int ac), .val (.int ad), .val (.int ak), .val (.int (1 : Int32)), .val (.int of), .val (.ref ar), .val (.int (-1640531527 : Int32)), .val (.int (-480352335 : Int32)), .unset, .unset] []))
    refine own_st (fun _ kont => XS.iloadN X12.here hx rfl (hb hby at_111) rfl kont) ?_
    show own_Go p e below s _ _ _ (T12.setTop (mkF m 112 #[.val (.int aa), .val (.int ab), .val (.int ac), .val (.int ad), .val (.int ak), .val (.int (1 : Int32)), .val (.int of), .val (.ref ar), .val (.int (-1640531527 : Int32)), .val (.int (-480352335 : Int32)), .unset, .unset] [(.int aa)]))
    refine own_st (fun _ kont => XS.istore X12.here hx rfl (hb hby at_112) rfl (l' := #[.val (.int aa), .val (.int ab), .val (.int ac), .val (.int ad), .val (.int ak), .val (.int (1 : Int32)), .val (.int of), .val (.ref ar), .val (.int (-1640531527 : Int32)), .val (.int (-480352335 : Int32)), .val (.int aa), .unset]) rfl kont) ?_
    show own_Go p e below s _ _ _ (T12.setTop (mkF m 114 #[.val (.int aa), .val (.int ab), .val (.int ac), .val (.int ad), .val (.int ak), .val (.int (1 : Int32)), .val (.int of), .val (.ref ar), .val (.int (-1640531527 : Int32)), .val (.int (-480352335 : Int32)), .val (.int aa), .unset] []))
    refine own_st (fun _ kont => XS.goto X12.here hx rfl (pc0 := 114) (pc' := 147) rfl (hb hby at_114) (by decide) (by decide) kont) ?_
    show own_Go p e below s _ _ _ (T12.setTop (mkF m 147 #[.val (.int aa), .val (.int ab), .val (.int ac), .val (.int ad), .val (.int ak), .val (.int (1 : Int32)), .val (.int of), .val (.ref ar), .val (.int (-1640531527 : Int32)), .val (.int (-480352335 : Int32)), .val (.int aa), .unset] []))
    obtain ⟨T13, h13, X13, e13, E13, A13, D13, -, st13⟩ := newO X12 hx hZ hown (hw _ (List.mem_of_getElem? (i := 2) rfl)) (hw _ (List.mem_of_getElem? (i := 3) rfl)) (hw _ (List.mem_of_getElem? (i := 4) rfl)) e12 (g := (mkF m 147 #[.val (.int aa), .val (.int ab), .val (.int ac), .val (.int ad), .val (.int ak), .val (.int (1 : Int32)), .val (.int of), .val (.ref ar), .val (.int (-1640531527 : Int32)), .val (.int (-480352335 : Int32)), .val (.int aa), .unset] [])) rfl (hb hby at_147) (by decide) (by decide)
    obtain ⟨mi, g13⟩ : ∃ z, z = h12.size := ⟨_, rfl⟩
    rw [← g13] at A13 D13 st13
    have ne_ar_mi : ar ≠ mi := Nat.ne_of_lt (Nat.lt_of_lt_of_eq Var_12.lt g13.symm)
    have fr_mi : n0 ≤ mi := Nat.le_trans sz12 (Nat.le_of_eq g13.symm)
    have Var_13 := Var_12.ext E13
    have sz13 := Nat.le_trans sz12 E13.1
    have EXmi := A13
    have Fmi_slots : Fld Z h13 mi "com/example/interpres/interpres/netsemantics/MarkingIndex" "slots" "[I" .null := D13 (Or.inl (hw _ (List.mem_of_getElem? (i := 12) rfl))) (ty := (.array .int)) (by decide)
    have Fmi_width : Fld Z h13 mi "com/example/interpres/interpres/netsemantics/MarkingIndex" "width" "I" (.int 0) := D13 (Or.inr (hw _ (List.mem_of_getElem? (i := 14) rfl))) (ty := .int) (by decide)
    have Fmi_markings : Fld Z h13 mi "com/example/interpres/interpres/netsemantics/MarkingIndex" "markings" "[I" .null := D13 (Or.inl (hw _ (List.mem_of_getElem? (i := 22) rfl))) (ty := (.array .int)) (by decide)
    refine own_st st13 ?_
    show own_Go p e below s _ _ _ (T13.setTop (mkF m 150 #[.val (.int aa), .val (.int ab), .val (.int ac), .val (.int ad), .val (.int ak), .val (.int (1 : Int32)), .val (.int of), .val (.ref ar), .val (.int (-1640531527 : Int32)), .val (.int (-480352335 : Int32)), .val (.int aa), .unset] [(.ref mi)]))
    refine own_st (fun _ kont => XS.dup X13.here hx rfl (hb hby at_150) rfl rfl kont) ?_
    show own_Go p e below s _ _ _ (T13.setTop (mkF m 151 #[.val (.int aa), .val (.int ab), .val (.int ac), .val (.int ad), .val (.int ak), .val (.int (1 : Int32)), .val (.int of), .val (.ref ar), .val (.int (-1640531527 : Int32)), .val (.int (-480352335 : Int32)), .val (.int aa), .unset] [(.ref mi), (.ref mi)]))
    refine own_st (fun _ kont => XS.iload X13.here hx rfl (hb hby at_151) rfl kont) ?_
    show own_Go p e below s _ _ _ (T13.setTop (mkF m 153 #[.val (.int aa), .val (.int ab), .val (.int ac), .val (.int ad), .val (.int ak), .val (.int (1 : Int32)), .val (.int of), .val (.ref ar), .val (.int (-1640531527 : Int32)), .val (.int (-480352335 : Int32)), .val (.int aa), .unset] [(.int (1 : Int32)), (.ref mi), (.ref mi)]))
    refine own_cN X13 hx hml hZ rfl hown (hw _ (List.mem_of_getElem? (i := 5) rfl)) (hw _ (List.mem_of_getElem? (i := 6) rfl)) (hw _ (List.mem_of_getElem? (i := 4) rfl)) (hw _ (List.mem_of_getElem? (i := 7) rfl)) (by decide) (own_rm2 l Z a0 hw mi (1 : Int32) 1 h13 n0 sz13 Fmi_slots Fmi_width Fmi_markings EXmi fr_mi (by decide) (by decide)) e13 (by decide) (W := 1) (by decide) (g := (mkF m 153 #[.val (.int aa), .val (.int ab), .val (.int ac), .val (.int ad), .val (.int ak), .val (.int (1 : Int32)), .val (.int of), .val (.ref ar), .val (.int (-1640531527 : Int32)), .val (.int (-480352335 : Int32)), .val (.int aa), .unset] [(.int (1 : Int32)), (.ref mi), (.ref mi)])) rfl rfl own_pd1 (argsL := [(.int (1 : Int32))]) (rest := [(.ref mi)]) rfl rfl rfl (by show 2 * 0 + _ ≤ _; exact Nat.le_of_eq rfl) (hb hby at_153) (by decide) (by decide) ?_
    intro T14 L14 v14 X14 hQ14
    obtain ⟨rfl, Nc14, K14, Fw14⟩ := hQ14
    have N14 := Fr.app N12 Nc14
    have Var_14 := Var_13.keep K14 (ninS ne_ar_mi nin0)
    have EXmi_14 := EXmi.keep K14
    have sz14 := Nat.le_trans sz13 K14.1
    show own_Go p e below s _ _ _ (T14.setTop (mkF m 156 #[.val (.int aa), .val (.int ab), .val (.int ac), .val (.int ad), .val (.int ak), .val (.int (1 : Int32)), .val (.int of), .val (.ref ar), .val (.int (-1640531527 : Int32)), .val (.int (-480352335 : Int32)), .val (.int aa), .unset] [(.ref mi)]))
    refine own_st (fun _ kont => XS.astore X14.here hx rfl (hb hby at_156) rfl rfl (l' := #[.val (.int aa), .val (.int ab), .val (.int ac), .val (.int ad), .val (.int ak), .val (.int (1 : Int32)), .val (.int of), .val (.ref ar), .val (.int (-1640531527 : Int32)), .val (.int (-480352335 : Int32)), .val (.int aa), .val (.ref mi)]) rfl kont) ?_
    show own_Go p e below s _ _ _ (T14.setTop (mkF m 158 #[.val (.int aa), .val (.int ab), .val (.int ac), .val (.int ad), .val (.int ak), .val (.int (1 : Int32)), .val (.int of), .val (.ref ar), .val (.int (-1640531527 : Int32)), .val (.int (-480352335 : Int32)), .val (.int aa), .val (.ref mi)] []))
    refine own_st (fun _ kont => XS.aload X14.here hx rfl (hb hby at_158) rfl rfl kont) ?_
    show own_Go p e below s _ _ _ (T14.setTop (mkF m 160 #[.val (.int aa), .val (.int ab), .val (.int ac), .val (.int ad), .val (.int ak), .val (.int (1 : Int32)), .val (.int of), .val (.ref ar), .val (.int (-1640531527 : Int32)), .val (.int (-480352335 : Int32)), .val (.int aa), .val (.ref mi)] [(.ref mi)]))
    refine own_st (fun _ kont => XS.aload X14.here hx rfl (hb hby at_160) rfl rfl kont) ?_
    show own_Go p e below s _ _ _ (T14.setTop (mkF m 162 #[.val (.int aa), .val (.int ab), .val (.int ac), .val (.int ad), .val (.int ak), .val (.int (1 : Int32)), .val (.int of), .val (.ref ar), .val (.int (-1640531527 : Int32)), .val (.int (-480352335 : Int32)), .val (.int aa), .val (.ref mi)] [(.ref ar), (.ref mi)]))
    refine own_st (fun _ kont => XS.iload X14.here hx rfl (hb hby at_162) rfl kont) ?_
    show own_Go p e below s _ _ _ (T14.setTop (mkF m 164 #[.val (.int aa), .val (.int ab), .val (.int ac), .val (.int ad), .val (.int ak), .val (.int (1 : Int32)), .val (.int of), .val (.ref ar), .val (.int (-1640531527 : Int32)), .val (.int (-480352335 : Int32)), .val (.int aa), .val (.ref mi)] [(.int of), (.ref ar), (.ref mi)]))
    obtain ⟨g, hg, Var_14⟩ : ∃ g : Nat → Int32, (g io = aa) ∧ own_Av Z T14.heap ar .int 5 (fun t => .int (g t)) := ⟨_, if_pos rfl, Var_14⟩
    show own_Go p e below s _ _ _ (T14.setTop (mkF m 164 #[.val (.int aa), .val (.int ab), .val (.int ac), .val (.int ad), .val (.int ak), .val (.int (1 : Int32)), .val (.int of), .val (.ref ar), .val (.int (-1640531527 : Int32)), .val (.int (-480352335 : Int32)), .val (.int aa), .val (.ref mi)] [(.int of), (.ref ar), (.ref mi)]))
    refine own_cV X14 hx hml hZ hown (hw _ (List.mem_of_getElem? (i := 23) rfl)) (hw _ (List.mem_of_getElem? (i := 24) rfl)) (hw _ (List.mem_of_getElem? (i := 26) rfl)) (hw _ (List.mem_of_getElem? (i := 25) rfl)) (hw _ (List.mem_of_getElem? (i := 4) rfl)) (hw _ (List.mem_of_getElem? (i := 27) rfl)) (by decide) (own_rm3 l Z a0 hw mi ar of (1 : Int32) g io 1 T14.heap n0 sz14 Var_14 Fw14 ho (by decide) (by omega)) (rfl : T14.heap = T14.heap) EXmi_14 (by decide) (W := 0) (by decide) (g := (mkF m 164 #[.val (.int aa), .val (.int ab), .val (.int ac), .val (.int ad), .val (.int ak), .val (.int (1 : Int32)), .val (.int of), .val (.ref ar), .val (.int (-1640531527 : Int32)), .val (.int (-480352335 : Int32)), .val (.int aa), .val (.ref mi)] [(.int of), (.ref ar), (.ref mi)])) rfl rfl own_pd2 (argsL := [(.ref ar), (.int of)]) (rest := []) rfl rfl rfl (by show 2 * 0 + _ ≤ _; exact Nat.le_of_eq rfl) (hb hby at_164) (by decide) (by decide) ?_
    intro T15 L15 v15 X15 hQ15
    obtain ⟨rfl, eh15, le15⟩ := hQ15
    have N15 := own_nil N14 le15
    show own_Go p e below s _ _ _ (T15.setTop (mkF m 167 #[.val (.int aa), .val (.int ab), .val (.int ac), .val (.int ad), .val (.int ak), .val (.int (1 : Int32)), .val (.int of), .val (.ref ar), .val (.int (-1640531527 : Int32)), .val (.int (-480352335 : Int32)), .val (.int aa), .val (.ref mi)] [(.int (own_mix (own_hs g io 1)))]))
    refine own_cS X15 hx hml hZ hown (hw _ (List.mem_of_getElem? (i := 30) rfl)) (hw _ (List.mem_of_getElem? (i := 31) rfl)) (hw _ (List.mem_of_getElem? (i := 32) rfl)) (hw _ (List.mem_of_getElem? (i := 33) rfl)) (by decide) (own_rm4 l Z a0 hw (own_mix (own_hs g io 1)) T14.heap n0 sz14) eh15 (by decide) (W := 0) (by decide) (g := (mkF m 167 #[.val (.int aa), .val (.int ab), .val (.int ac), .val (.int ad), .val (.int ak), .val (.int (1 : Int32)), .val (.int of), .val (.ref ar), .val (.int (-1640531527 : Int32)), .val (.int (-480352335 : Int32)), .val (.int aa), .val (.ref mi)] [(.int (own_mix (own_hs g io 1)))])) rfl rfl own_pd3 (argsL := [(.int (own_mix (own_hs g io 1)))]) (rest := []) rfl rfl rfl (by show 2 * 0 + _ ≤ _; exact Nat.le_of_eq rfl) (hb hby at_167) (by decide) (by decide) ?_
    intro T16 L16 v16 X16 hQ16
    obtain ⟨rfl, eh16, le16⟩ := hQ16
    have N16 := own_nil N15 le16
    show own_Go p e below s _ _ _ (T16.setTop (mkF m 170 #[.val (.int aa), .val (.int ab), .val (.int ac), .val (.int ad), .val (.int ak), .val (.int (1 : Int32)), .val (.int of), .val (.ref ar), .val (.int (-1640531527 : Int32)), .val (.int (-480352335 : Int32)), .val (.int aa), .val (.ref mi)] [(.int (own_unmix (own_mix (own_hs g io 1))))]))
    refine own_st (fun _ kont => XS.iload X16.here hx rfl (hb hby at_170) rfl kont) ?_
    show own_Go p e below s _ _ _ (T16.setTop (mkF m 172 #[.val (.int aa), .val (.int ab), .val (.int ac), .val (.int ad), .val (.int ak), .val (.int (1 : Int32)), .val (.int of), .val (.ref ar), .val (.int (-1640531527 : Int32)), .val (.int (-480352335 : Int32)), .val (.int aa), .val (.ref mi)] [(.int aa), (.int (own_unmix (own_mix (own_hs g io 1))))]))
    refine own_st (fun _ kont => XS.icmpNo X16.here hx rfl (hb hby at_172) rfl (teq (by rw [own_back]; exact own_hs1 hg)).2 kont) ?_
    show own_Go p e below s _ _ _ (T16.setTop (mkF m 175 #[.val (.int aa), .val (.int ab), .val (.int ac), .val (.int ad), .val (.int ak), .val (.int (1 : Int32)), .val (.int of), .val (.ref ar), .val (.int (-1640531527 : Int32)), .val (.int (-480352335 : Int32)), .val (.int aa), .val (.ref mi)] []))
    refine own_st (fun _ kont => XS.iconst X16.here hx rfl (hb hby at_175) kont) ?_
    show own_Go p e below s _ _ _ (T16.setTop (mkF m 176 #[.val (.int aa), .val (.int ab), .val (.int ac), .val (.int ad), .val (.int ak), .val (.int (1 : Int32)), .val (.int of), .val (.ref ar), .val (.int (-1640531527 : Int32)), .val (.int (-480352335 : Int32)), .val (.int aa), .val (.ref mi)] [(.int (1 : Int32))]))
    refine own_st (fun _ kont => XS.goto X16.here hx rfl (pc0 := 176) (pc' := 180) rfl (hb hby at_176) (by decide) (by decide) kont) ?_
    show own_Go p e below s _ _ _ (T16.setTop (mkF m 180 #[.val (.int aa), .val (.int ab), .val (.int ac), .val (.int ad), .val (.int ak), .val (.int (1 : Int32)), .val (.int of), .val (.ref ar), .val (.int (-1640531527 : Int32)), .val (.int (-480352335 : Int32)), .val (.int aa), .val (.ref mi)] [(.int (1 : Int32))]))
    exact own_endN X16 hx hlk (t := .boolean) hret (by simp) (hb hby at_180) (w := (1 : Int32)) (by decide) ⟨rfl, N16⟩ (by decide) (by decide)
  · obtain rfl : wd = (2 : Int32) := Int32.toInt_inj.mp hwd
    show own_Go p e below s _ _ _ (T7.setTop (mkF m 44 #[.val (.int aa), .val (.int ab), .val (.int ac), .val (.int ad), .val (.int ak), .val (.int (2 : Int32)), .val (.int of), .val (.ref ar), .unset, .unset, .unset, .unset] []))
    refine own_st (fun _ kont => XS.iload X7.here hx rfl (hb hby at_44) rfl kont) ?_
    show own_Go p e below s _ _ _ (T7.setTop (mkF m 46 #[.val (.int aa), .val (.int ab), .val (.int ac), .val (.int ad), .val (.int ak), .val (.int (2 : Int32)), .val (.int of), .val (.ref ar), .unset, .unset, .unset, .unset] [(.int (2 : Int32))]))
    refine own_st (fun _ kont => XS.ifNo X7.here hx rfl (hb hby at_46) rfl (by decide) kont) ?_
    show own_Go p e below s _ _ _ (T7.setTop (mkF m 49 #[.val (.int aa), .val (.int ab), .val (.int ac), .val (.int ad), .val (.int ak), .val (.int (2 : Int32)), .val (.int of), .val (.ref ar), .unset, .unset, .unset, .unset] []))
    refine own_st (fun _ kont => XS.aload X7.here hx rfl (hb hby at_49) rfl rfl kont) ?_
    show own_Go p e below s _ _ _ (T7.setTop (mkF m 51 #[.val (.int aa), .val (.int ab), .val (.int ac), .val (.int ad), .val (.int ak), .val (.int (2 : Int32)), .val (.int of), .val (.ref ar), .unset, .unset, .unset, .unset] [(.ref ar)]))
    refine own_st (fun _ kont => XS.iload X7.here hx rfl (hb hby at_51) rfl kont) ?_
    show own_Go p e below s _ _ _ (T7.setTop (mkF m 53 #[.val (.int aa), .val (.int ab), .val (.int ac), .val (.int ad), .val (.int ak), .val (.int (2 : Int32)), .val (.int of), .val (.ref ar), .unset, .unset, .unset, .unset] [(.int of), (.ref ar)]))
    refine own_st (fun _ kont => XS.iloadN X7.here hx rfl (hb hby at_53) rfl kont) ?_
    show own_Go p e below s _ _ _ (T7.setTop (mkF m 54 #[.val (.int aa), .val (.int ab), .val (.int ac), .val (.int ad), .val (.int ak), .val (.int (2 : Int32)), .val (.int of), .val (.ref ar), .unset, .unset, .unset, .unset] [(.int aa), (.int of), (.ref ar)]))
    obtain ⟨T17, h17, X17, e17, W17, Var_17, st17⟩ := own_stI X7 hx hZ e7 Var_7 (i := io) ho (by omega) (g := (mkF m 54 #[.val (.int aa), .val (.int ab), .val (.int ac), .val (.int ad), .val (.int ak), .val (.int (2 : Int32)), .val (.int of), .val (.ref ar), .unset, .unset, .unset, .unset] [(.int aa), (.int of), (.ref ar)])) rfl rfl (hb hby at_54)
    have sz17 := Nat.le_trans sz7 (Keep.of_wr W17).1
    have N17 := Fr.snoc X17 N7 fr_ar
    refine own_st st17 ?_
    show own_Go p e below s _ _ _ (T17.setTop (mkF m 55 #[.val (.int aa), .val (.int ab), .val (.int ac), .val (.int ad), .val (.int ak), .val (.int (2 : Int32)), .val (.int of), .val (.ref ar), .unset, .unset, .unset, .unset] []))
    refine own_st (fun _ kont => XS.iload X17.here hx rfl (hb hby at_55) rfl kont) ?_
    show own_Go p e below s _ _ _ (T17.setTop (mkF m 57 #[.val (.int aa), .val (.int ab), .val (.int ac), .val (.int ad), .val (.int ak), .val (.int (2 : Int32)), .val (.int of), .val (.ref ar), .unset, .unset, .unset, .unset] [(.int (2 : Int32))]))
    refine own_st (fun _ kont => XS.iconst X17.here hx rfl (hb hby at_57) kont) ?_
    show own_Go p e below s _ _ _ (T17.setTop (mkF m 58 #[.val (.int aa), .val (.int ab), .val (.int ac), .val (.int ad), .val (.int ak), .val (.int (2 : Int32)), .val (.int of), .val (.ref ar), .unset, .unset, .unset, .unset] [(.int (1 : Int32)), (.int (2 : Int32))]))
    refine own_st (fun _ kont => XS.icmpNo X17.here hx rfl (hb hby at_58) rfl (by decide) kont) ?_
    show own_Go p e below s _ _ _ (T17.setTop (mkF m 61 #[.val (.int aa), .val (.int ab), .val (.int ac), .val (.int ad), .val (.int ak), .val (.int (2 : Int32)), .val (.int of), .val (.ref ar), .unset, .unset, .unset, .unset] []))
    refine own_st (fun _ kont => XS.aload X17.here hx rfl (hb hby at_61) rfl rfl kont) ?_
    show own_Go p e below s _ _ _ (T17.setTop (mkF m 63 #[.val (.int aa), .val (.int ab), .val (.int ac), .val (.int ad), .val (.int ak), .val (.int (2 : Int32)), .val (.int of), .val (.ref ar), .unset, .unset, .unset, .unset] [(.ref ar)]))
    refine own_st (fun _ kont => XS.iload X17.here hx rfl (hb hby at_63) rfl kont) ?_
    show own_Go p e below s _ _ _ (T17.setTop (mkF m 65 #[.val (.int aa), .val (.int ab), .val (.int ac), .val (.int ad), .val (.int ak), .val (.int (2 : Int32)), .val (.int of), .val (.ref ar), .unset, .unset, .unset, .unset] [(.int of), (.ref ar)]))
    refine own_st (fun _ kont => XS.iconst X17.here hx rfl (hb hby at_65) kont) ?_
    show own_Go p e below s _ _ _ (T17.setTop (mkF m 66 #[.val (.int aa), .val (.int ab), .val (.int ac), .val (.int ad), .val (.int ak), .val (.int (2 : Int32)), .val (.int of), .val (.ref ar), .unset, .unset, .unset, .unset] [(.int (1 : Int32)), (.int of), (.ref ar)]))
    refine own_st (fun _ kont => XS.iadd X17.here hx rfl (hb hby at_66) rfl kont) ?_
    show own_Go p e below s _ _ _ (T17.setTop (mkF m 67 #[.val (.int aa), .val (.int ab), .val (.int ac), .val (.int ad), .val (.int ak), .val (.int (2 : Int32)), .val (.int of), .val (.ref ar), .unset, .unset, .unset, .unset] [(.int (of + (1 : Int32))), (.ref ar)]))
    refine own_st (fun _ kont => XS.iloadN X17.here hx rfl (hb hby at_67) rfl kont) ?_
    show own_Go p e below s _ _ _ (T17.setTop (mkF m 68 #[.val (.int aa), .val (.int ab), .val (.int ac), .val (.int ad), .val (.int ak), .val (.int (2 : Int32)), .val (.int of), .val (.ref ar), .unset, .unset, .unset, .unset] [(.int ab), (.int (of + (1 : Int32))), (.ref ar)]))
    obtain ⟨T18, h18, X18, e18, W18, Var_18, st18⟩ := own_stI X17 hx hZ e17 Var_17 (i := (io + 1)) (own_addN ho (by decide) (by omega)) (by omega) (g := (mkF m 68 #[.val (.int aa), .val (.int ab), .val (.int ac), .val (.int ad), .val (.int ak), .val (.int (2 : Int32)), .val (.int of), .val (.ref ar), .unset, .unset, .unset, .unset] [(.int ab), (.int (of + (1 : Int32))), (.ref ar)])) rfl rfl (hb hby at_68)
    have sz18 := Nat.le_trans sz17 (Keep.of_wr W18).1
    have N18 := Fr.snoc X18 N17 fr_ar
    refine own_st st18 ?_
    show own_Go p e below s _ _ _ (T18.setTop (mkF m 69 #[.val (.int aa), .val (.int ab), .val (.int ac), .val (.int ad), .val (.int ak), .val (.int (2 : Int32)), .val (.int of), .val (.ref ar), .unset, .unset, .unset, .unset] []))
    refine own_st (fun _ kont => XS.iload X18.here hx rfl (hb hby at_69) rfl kont) ?_
    show own_Go p e below s _ _ _ (T18.setTop (mkF m 71 #[.val (.int aa), .val (.int ab), .val (.int ac), .val (.int ad), .val (.int ak), .val (.int (2 : Int32)), .val (.int of), .val (.ref ar), .unset, .unset, .unset, .unset] [(.int (2 : Int32))]))
    refine own_st (fun _ kont => XS.iconst X18.here hx rfl (hb hby at_71) kont) ?_
    show own_Go p e below s _ _ _ (T18.setTop (mkF m 72 #[.val (.int aa), .val (.int ab), .val (.int ac), .val (.int ad), .val (.int ak), .val (.int (2 : Int32)), .val (.int of), .val (.ref ar), .unset, .unset, .unset, .unset] [(.int (2 : Int32)), (.int (2 : Int32))]))
    refine own_st (fun _ kont => XS.icmpYes X18.here hx rfl (pc0 := 72) (pc' := 83) rfl (hb hby at_72) rfl (by decide) (by decide) (by decide) kont) ?_
    show own_Go p e below s _ _ _ (T18.setTop (mkF m 83 #[.val (.int aa), .val (.int ab), .val (.int ac), .val (.int ad), .val (.int ak), .val (.int (2 : Int32)), .val (.int of), .val (.ref ar), .unset, .unset, .unset, .unset] []))
    refine own_st (fun _ kont => X18.ldcInt hx hown (mvT hZ (hw _ (List.mem_of_getElem? (i := 1) rfl))) (g := (mkF m 83 #[.val (.int aa), .val (.int ab), .val (.int ac), .val (.int ad), .val (.int ak), .val (.int (2 : Int32)), .val (.int of), .val (.ref ar), .unset, .unset, .unset, .unset] [])) rfl (hb hby at_83) _ kont) ?_
    show own_Go p e below s _ _ _ (T18.setTop (mkF m 85 #[.val (.int aa), .val (.int ab), .val (.int ac), .val (.int ad), .val (.int ak), .val (.int (2 : Int32)), .val (.int of), .val (.ref ar), .unset, .unset, .unset, .unset] [(.int (-1640531527 : Int32))]))
    refine own_st (fun _ kont => XS.istore X18.here hx rfl (hb hby at_85) rfl (l' := #[.val (.int aa), .val (.int ab), .val (.int ac), .val (.int ad), .val (.int ak), .val (.int (2 : Int32)), .val (.int of), .val (.ref ar), .val (.int (-1640531527 : Int32)), .unset, .unset, .unset]) rfl kont) ?_
    show own_Go p e below s _ _ _ (T18.setTop (mkF m 87 #[.val (.int aa), .val (.int ab), .val (.int ac), .val (.int ad), .val (.int ak), .val (.int (2 : Int32)), .val (.int of), .val (.ref ar), .val (.int (-1640531527 : Int32)), .unset, .unset, .unset] []))
    refine own_st (fun _ kont => XS.iload X18.here hx rfl (hb hby at_87) rfl kont) ?_
    show own_Go p e below s _ _ _ (T18.setTop (mkF m 89 #[.val (.int aa), .val (.int ab), .val (.int ac), .val (.int ad), .val (.int ak), .val (.int (2 : Int32)), .val (.int of), .val (.ref ar), .val (.int (-1640531527 : Int32)), .unset, .unset, .unset] [(.int (-1640531527 : Int32))]))
    refine own_st (fun _ kont => XS.iload X18.here hx rfl (hb hby at_89) rfl kont) ?_
    show own_Go p e below s _ _ _ (T18.setTop (mkF m 91 #[.val (.int aa), .val (.int ab), .val (.int ac), .val (.int ad), .val (.int ak), .val (.int (2 : Int32)), .val (.int of), .val (.ref ar), .val (.int (-1640531527 : Int32)), .unset, .unset, .unset] [(.int (-1640531527 : Int32)), (.int (-1640531527 : Int32))]))
    refine own_st (fun _ kont => XS.imul X18.here hx rfl (hb hby at_91) rfl kont) ?_
    show own_Go p e below s _ _ _ (T18.setTop (mkF m 92 #[.val (.int aa), .val (.int ab), .val (.int ac), .val (.int ad), .val (.int ak), .val (.int (2 : Int32)), .val (.int of), .val (.ref ar), .val (.int (-1640531527 : Int32)), .unset, .unset, .unset] [(.int (-480352335 : Int32))]))
    refine own_st (fun _ kont => XS.istore X18.here hx rfl (hb hby at_92) rfl (l' := #[.val (.int aa), .val (.int ab), .val (.int ac), .val (.int ad), .val (.int ak), .val (.int (2 : Int32)), .val (.int of), .val (.ref ar), .val (.int (-1640531527 : Int32)), .val (.int (-480352335 : Int32)), .unset, .unset]) rfl kont) ?_
    show own_Go p e below s _ _ _ (T18.setTop (mkF m 94 #[.val (.int aa), .val (.int ab), .val (.int ac), .val (.int ad), .val (.int ak), .val (.int (2 : Int32)), .val (.int of), .val (.ref ar), .val (.int (-1640531527 : Int32)), .val (.int (-480352335 : Int32)), .unset, .unset] []))
    refine own_st (fun _ kont => XS.iload X18.here hx rfl (hb hby at_94) rfl kont) ?_
    show own_Go p e below s _ _ _ (T18.setTop (mkF m 96 #[.val (.int aa), .val (.int ab), .val (.int ac), .val (.int ad), .val (.int ak), .val (.int (2 : Int32)), .val (.int of), .val (.ref ar), .val (.int (-1640531527 : Int32)), .val (.int (-480352335 : Int32)), .unset, .unset] [(.int (2 : Int32))]))
    refine own_st (fun _ kont => XS.ifYes X18.here hx rfl (pc0 := 96) (pc' := 105) rfl (hb hby at_96) rfl (by decide) (by decide) (by decide) kont) ?_
    show own_Go p e below s _ _ _ (T18.setTop (mkF m 105 #[.val (.int aa), .val (.int ab), .val (.int ac), .val (.int ad), .val (.int ak), .val (.int (2 : Int32)), .val (.int of), .val (.ref ar), .val (.int (-1640531527 : Int32)), .val (.int (-480352335 : Int32)), .unset, .unset] []))
    refine own_st (fun _ kont => XS.iload X18.here hx rfl (hb hby at_105) rfl kont) ?_
    show own_Go p e below s _ _ _ (T18.setTop (mkF m 107 #[.val (.int aa), .val (.int ab), .val (.int ac), .val (.int ad), .val (.int ak), .val (.int (2 : Int32)), .val (.int of), .val (.ref ar), .val (.int (-1640531527 : Int32)), .val (.int (-480352335 : Int32)), .unset, .unset] [(.int (2 : Int32))]))
    refine own_st (fun _ kont => XS.iconst X18.here hx rfl (hb hby at_107) kont) ?_
    show own_Go p e below s _ _ _ (T18.setTop (mkF m 108 #[.val (.int aa), .val (.int ab), .val (.int ac), .val (.int ad), .val (.int ak), .val (.int (2 : Int32)), .val (.int of), .val (.ref ar), .val (.int (-1640531527 : Int32)), .val (.int (-480352335 : Int32)), .unset, .unset] [(.int (1 : Int32)), (.int (2 : Int32))]))
    refine own_st (fun _ kont => XS.icmpYes X18.here hx rfl (pc0 := 108) (pc' := 117) rfl (hb hby at_108) rfl (by decide) (by decide) (by decide) kont) ?_
    show own_Go p e below s _ _ _ (T18.setTop (mkF m 117 #[.val (.int aa), .val (.int ab), .val (.int ac), .val (.int ad), .val (.int ak), .val (.int (2 : Int32)), .val (.int of), .val (.ref ar), .val (.int (-1640531527 : Int32)), .val (.int (-480352335 : Int32)), .unset, .unset] []))
    refine own_st (fun _ kont => XS.iload X18.here hx rfl (hb hby at_117) rfl kont) ?_
    show own_Go p e below s _ _ _ (T18.setTop (mkF m 119 #[.val (.int aa), .val (.int ab), .val (.int ac), .val (.int ad), .val (.int ak), .val (.int (2 : Int32)), .val (.int of), .val (.ref ar), .val (.int (-1640531527 : Int32)), .val (.int (-480352335 : Int32)), .unset, .unset] [(.int (2 : Int32))]))
    refine own_st (fun _ kont => XS.iconst X18.here hx rfl (hb hby at_119) kont) ?_
    show own_Go p e below s _ _ _ (T18.setTop (mkF m 120 #[.val (.int aa), .val (.int ab), .val (.int ac), .val (.int ad), .val (.int ak), .val (.int (2 : Int32)), .val (.int of), .val (.ref ar), .val (.int (-1640531527 : Int32)), .val (.int (-480352335 : Int32)), .unset, .unset] [(.int (2 : Int32)), (.int (2 : Int32))]))
    refine own_st (fun _ kont => XS.icmpNo X18.here hx rfl (hb hby at_120) rfl (by decide) kont) ?_
    show own_Go p e below s _ _ _ (T18.setTop (mkF m 123 #[.val (.int aa), .val (.int ab), .val (.int ac), .val (.int ad), .val (.int ak), .val (.int (2 : Int32)), .val (.int of), .val (.ref ar), .val (.int (-1640531527 : Int32)), .val (.int (-480352335 : Int32)), .unset, .unset] []))
    refine own_st (fun _ kont => XS.iloadN X18.here hx rfl (hb hby at_123) rfl kont) ?_
    show own_Go p e below s _ _ _ (T18.setTop (mkF m 124 #[.val (.int aa), .val (.int ab), .val (.int ac), .val (.int ad), .val (.int ak), .val (.int (2 : Int32)), .val (.int of), .val (.ref ar), .val (.int (-1640531527 : Int32)), .val (.int (-480352335 : Int32)), .unset, .unset] [(.int aa)]))
    refine own_st (fun _ kont => XS.iload X18.here hx rfl (hb hby at_124) rfl kont) ?_
    show own_Go p e below s _ _ _ (T18.setTop (mkF m 126 #[.val (.int aa), .val (.int ab), .val (.int ac), .val (.int ad), .val (.int ak), .val (.int (2 : Int32)), .val (.int of), .val (.ref ar), .val (.int (-1640531527 : Int32)), .val (.int (-480352335 : Int32)), .unset, .unset] [(.int (-1640531527 : Int32)), (.int aa)]))
    refine own_st (fun _ kont => XS.imul X18.here hx rfl (hb hby at_126) rfl kont) ?_
    show own_Go p e below s _ _ _ (T18.setTop (mkF m 127 #[.val (.int aa), .val (.int ab), .val (.int ac), .val (.int ad), .val (.int ak), .val (.int (2 : Int32)), .val (.int of), .val (.ref ar), .val (.int (-1640531527 : Int32)), .val (.int (-480352335 : Int32)), .unset, .unset] [(.int (aa * (-1640531527 : Int32)))]))
    refine own_st (fun _ kont => XS.iloadN X18.here hx rfl (hb hby at_127) rfl kont) ?_
    show own_Go p e below s _ _ _ (T18.setTop (mkF m 128 #[.val (.int aa), .val (.int ab), .val (.int ac), .val (.int ad), .val (.int ak), .val (.int (2 : Int32)), .val (.int of), .val (.ref ar), .val (.int (-1640531527 : Int32)), .val (.int (-480352335 : Int32)), .unset, .unset] [(.int ab), (.int (aa * (-1640531527 : Int32)))]))
    refine own_st (fun _ kont => XS.iadd X18.here hx rfl (hb hby at_128) rfl kont) ?_
    show own_Go p e below s _ _ _ (T18.setTop (mkF m 129 #[.val (.int aa), .val (.int ab), .val (.int ac), .val (.int ad), .val (.int ak), .val (.int (2 : Int32)), .val (.int of), .val (.ref ar), .val (.int (-1640531527 : Int32)), .val (.int (-480352335 : Int32)), .unset, .unset] [(.int ((aa * (-1640531527 : Int32)) + ab))]))
    refine own_st (fun _ kont => XS.istore X18.here hx rfl (hb hby at_129) rfl (l' := #[.val (.int aa), .val (.int ab), .val (.int ac), .val (.int ad), .val (.int ak), .val (.int (2 : Int32)), .val (.int of), .val (.ref ar), .val (.int (-1640531527 : Int32)), .val (.int (-480352335 : Int32)), .val (.int ((aa * (-1640531527 : Int32)) + ab)), .unset]) rfl kont) ?_
    show own_Go p e below s _ _ _ (T18.setTop (mkF m 131 #[.val (.int aa), .val (.int ab), .val (.int ac), .val (.int ad), .val (.int ak), .val (.int (2 : Int32)), .val (.int of), .val (.ref ar), .val (.int (-1640531527 : Int32)), .val (.int (-480352335 : Int32)), .val (.int ((aa * (-1640531527 : Int32)) + ab)), .unset] []))
    refine own_st (fun _ kont => XS.goto X18.here hx rfl (pc0 := 131) (pc' := 147) rfl (hb hby at_131) (by decide) (by decide) kont) ?_
    show own_Go p e below s _ _ _ (T18.setTop (mkF m 147 #[.val (.int aa), .val (.int ab), .val (.int ac), .val (.int ad), .val (.int ak), .val (.int (2 : Int32)), .val (.int of), .val (.ref ar), .val (.int (-1640531527 : Int32)), .val (.int (-480352335 : Int32)), .val (.int ((aa * (-1640531527 : Int32)) + ab)), .unset] []))
    obtain ⟨T19, h19, X19, e19, E19, A19, D19, -, st19⟩ := newO X18 hx hZ hown (hw _ (List.mem_of_getElem? (i := 2) rfl)) (hw _ (List.mem_of_getElem? (i := 3) rfl)) (hw _ (List.mem_of_getElem? (i := 4) rfl)) e18 (g := (mkF m 147 #[.val (.int aa), .val (.int ab), .val (.int ac), .val (.int ad), .val (.int ak), .val (.int (2 : Int32)), .val (.int of), .val (.ref ar), .val (.int (-1640531527 : Int32)), .val (.int (-480352335 : Int32)), .val (.int ((aa * (-1640531527 : Int32)) + ab)), .unset] [])) rfl (hb hby at_147) (by decide) (by decide)
    obtain ⟨mi, g19⟩ : ∃ z, z = h18.size := ⟨_, rfl⟩
    rw [← g19] at A19 D19 st19
    have ne_ar_mi : ar ≠ mi := Nat.ne_of_lt (Nat.lt_of_lt_of_eq Var_18.lt g19.symm)
    have fr_mi : n0 ≤ mi := Nat.le_trans sz18 (Nat.le_of_eq g19.symm)
    have Var_19 := Var_18.ext E19
    have sz19 := Nat.le_trans sz18 E19.1
    have EXmi := A19
    have Fmi_slots : Fld Z h19 mi "com/example/interpres/interpres/netsemantics/MarkingIndex" "slots" "[I" .null := D19 (Or.inl (hw _ (List.mem_of_getElem? (i := 12) rfl))) (ty := (.array .int)) (by decide)
    have Fmi_width : Fld Z h19 mi "com/example/interpres/interpres/netsemantics/MarkingIndex" "width" "I" (.int 0) := D19 (Or.inr (hw _ (List.mem_of_getElem? (i := 14) rfl))) (ty := .int) (by decide)
    have Fmi_markings : Fld Z h19 mi "com/example/interpres/interpres/netsemantics/MarkingIndex" "markings" "[I" .null := D19 (Or.inl (hw _ (List.mem_of_getElem? (i := 22) rfl))) (ty := (.array .int)) (by decide)
    refine own_st st19 ?_
    show own_Go p e below s _ _ _ (T19.setTop (mkF m 150 #[.val (.int aa), .val (.int ab), .val (.int ac), .val (.int ad), .val (.int ak), .val (.int (2 : Int32)), .val (.int of), .val (.ref ar), .val (.int (-1640531527 : Int32)), .val (.int (-480352335 : Int32)), .val (.int ((aa * (-1640531527 : Int32)) + ab)), .unset] [(.ref mi)]))
    refine own_st (fun _ kont => XS.dup X19.here hx rfl (hb hby at_150) rfl rfl kont) ?_
    show own_Go p e below s _ _ _ (T19.setTop (mkF m 151 #[.val (.int aa), .val (.int ab), .val (.int ac), .val (.int ad), .val (.int ak), .val (.int (2 : Int32)), .val (.int of), .val (.ref ar), .val (.int (-1640531527 : Int32)), .val (.int (-480352335 : Int32)), .val (.int ((aa * (-1640531527 : Int32)) + ab)), .unset] [(.ref mi), (.ref mi)]))
    refine own_st (fun _ kont => XS.iload X19.here hx rfl (hb hby at_151) rfl kont) ?_
    show own_Go p e below s _ _ _ (T19.setTop (mkF m 153 #[.val (.int aa), .val (.int ab), .val (.int ac), .val (.int ad), .val (.int ak), .val (.int (2 : Int32)), .val (.int of), .val (.ref ar), .val (.int (-1640531527 : Int32)), .val (.int (-480352335 : Int32)), .val (.int ((aa * (-1640531527 : Int32)) + ab)), .unset] [(.int (2 : Int32)), (.ref mi), (.ref mi)]))
    refine own_cN X19 hx hml hZ rfl hown (hw _ (List.mem_of_getElem? (i := 5) rfl)) (hw _ (List.mem_of_getElem? (i := 6) rfl)) (hw _ (List.mem_of_getElem? (i := 4) rfl)) (hw _ (List.mem_of_getElem? (i := 7) rfl)) (by decide) (own_rm2 l Z a0 hw mi (2 : Int32) 2 h19 n0 sz19 Fmi_slots Fmi_width Fmi_markings EXmi fr_mi (by decide) (by decide)) e19 (by decide) (W := 1) (by decide) (g := (mkF m 153 #[.val (.int aa), .val (.int ab), .val (.int ac), .val (.int ad), .val (.int ak), .val (.int (2 : Int32)), .val (.int of), .val (.ref ar), .val (.int (-1640531527 : Int32)), .val (.int (-480352335 : Int32)), .val (.int ((aa * (-1640531527 : Int32)) + ab)), .unset] [(.int (2 : Int32)), (.ref mi), (.ref mi)])) rfl rfl own_pd1 (argsL := [(.int (2 : Int32))]) (rest := [(.ref mi)]) rfl rfl rfl (by show 2 * 0 + _ ≤ _; exact Nat.le_of_eq rfl) (hb hby at_153) (by decide) (by decide) ?_
    intro T20 L20 v20 X20 hQ20
    obtain ⟨rfl, Nc20, K20, Fw20⟩ := hQ20
    have N20 := Fr.app N18 Nc20
    have Var_20 := Var_19.keep K20 (ninS ne_ar_mi nin0)
    have EXmi_20 := EXmi.keep K20
    have sz20 := Nat.le_trans sz19 K20.1
    show own_Go p e below s _ _ _ (T20.setTop (mkF m 156 #[.val (.int aa), .val (.int ab), .val (.int ac), .val (.int ad), .val (.int ak), .val (.int (2 : Int32)), .val (.int of), .val (.ref ar), .val (.int (-1640531527 : Int32)), .val (.int (-480352335 : Int32)), .val (.int ((aa * (-1640531527 : Int32)) + ab)), .unset] [(.ref mi)]))
    refine own_st (fun _ kont => XS.astore X20.here hx rfl (hb hby at_156) rfl rfl (l' := #[.val (.int aa), .val (.int ab), .val (.int ac), .val (.int ad), .val (.int ak), .val (.int (2 : Int32)), .val (.int of), .val (.ref ar), .val (.int (-1640531527 : Int32)), .val (.int (-480352335 : Int32)), .val (.int ((aa * (-1640531527 : Int32)) + ab)), .val (.ref mi)]) rfl kont) ?_
    show own_Go p e below s _ _ _ (T20.setTop (mkF m 158 #[.val (.int aa), .val (.int ab), .val (.int ac), .val (.int ad), .val (.int ak), .val (.int (2 : Int32)), .val (.int of), .val (.ref ar), .val (.int (-1640531527 : Int32)), .val (.int (-480352335 : Int32)), .val (.int ((aa * (-1640531527 : Int32)) + ab)), .val (.ref mi)] []))
    refine own_st (fun _ kont => XS.aload X20.here hx rfl (hb hby at_158) rfl rfl kont) ?_
    show own_Go p e below s _ _ _ (T20.setTop (mkF m 160 #[.val (.int aa), .val (.int ab), .val (.int ac), .val (.int ad), .val (.int ak), .val (.int (2 : Int32)), .val (.int of), .val (.ref ar), .val (.int (-1640531527 : Int32)), .val (.int (-480352335 : Int32)), .val (.int ((aa * (-1640531527 : Int32)) + ab)), .val (.ref mi)] [(.ref mi)]))
    refine own_st (fun _ kont => XS.aload X20.here hx rfl (hb hby at_160) rfl rfl kont) ?_
    show own_Go p e below s _ _ _ (T20.setTop (mkF m 162 #[.val (.int aa), .val (.int ab), .val (.int ac), .val (.int ad), .val (.int ak), .val (.int (2 : Int32)), .val (.int of), .val (.ref ar), .val (.int (-1640531527 : Int32)), .val (.int (-480352335 : Int32)), .val (.int ((aa * (-1640531527 : Int32)) + ab)), .val (.ref mi)] [(.ref ar), (.ref mi)]))
    refine own_st (fun _ kont => XS.iload X20.here hx rfl (hb hby at_162) rfl kont) ?_
    show own_Go p e below s _ _ _ (T20.setTop (mkF m 164 #[.val (.int aa), .val (.int ab), .val (.int ac), .val (.int ad), .val (.int ak), .val (.int (2 : Int32)), .val (.int of), .val (.ref ar), .val (.int (-1640531527 : Int32)), .val (.int (-480352335 : Int32)), .val (.int ((aa * (-1640531527 : Int32)) + ab)), .val (.ref mi)] [(.int of), (.ref ar), (.ref mi)]))
    obtain ⟨g, hg, Var_20⟩ : ∃ g : Nat → Int32, (g io = aa ∧ g (io + 1) = ab) ∧ own_Av Z T20.heap ar .int 5 (fun t => .int (g t)) := ⟨_, ⟨(if_neg (by omega)).trans (if_pos rfl), if_pos rfl⟩, Var_20⟩
    show own_Go p e below s _ _ _ (T20.setTop (mkF m 164 #[.val (.int aa), .val (.int ab), .val (.int ac), .val (.int ad), .val (.int ak), .val (.int (2 : Int32)), .val (.int of), .val (.ref ar), .val (.int (-1640531527 : Int32)), .val (.int (-480352335 : Int32)), .val (.int ((aa * (-1640531527 : Int32)) + ab)), .val (.ref mi)] [(.int of), (.ref ar), (.ref mi)]))
    refine own_cV X20 hx hml hZ hown (hw _ (List.mem_of_getElem? (i := 23) rfl)) (hw _ (List.mem_of_getElem? (i := 24) rfl)) (hw _ (List.mem_of_getElem? (i := 26) rfl)) (hw _ (List.mem_of_getElem? (i := 25) rfl)) (hw _ (List.mem_of_getElem? (i := 4) rfl)) (hw _ (List.mem_of_getElem? (i := 27) rfl)) (by decide) (own_rm3 l Z a0 hw mi ar of (2 : Int32) g io 2 T20.heap n0 sz20 Var_20 Fw20 ho (by decide) (by omega)) (rfl : T20.heap = T20.heap) EXmi_20 (by decide) (W := 0) (by decide) (g := (mkF m 164 #[.val (.int aa), .val (.int ab), .val (.int ac), .val (.int ad), .val (.int ak), .val (.int (2 : Int32)), .val (.int of), .val (.ref ar), .val (.int (-1640531527 : Int32)), .val (.int (-480352335 : Int32)), .val (.int ((aa * (-1640531527 : Int32)) + ab)), .val (.ref mi)] [(.int of), (.ref ar), (.ref mi)])) rfl rfl own_pd2 (argsL := [(.ref ar), (.int of)]) (rest := []) rfl rfl rfl (by show 2 * 0 + _ ≤ _; exact Nat.le_of_eq rfl) (hb hby at_164) (by decide) (by decide) ?_
    intro T21 L21 v21 X21 hQ21
    obtain ⟨rfl, eh21, le21⟩ := hQ21
    have N21 := own_nil N20 le21
    show own_Go p e below s _ _ _ (T21.setTop (mkF m 167 #[.val (.int aa), .val (.int ab), .val (.int ac), .val (.int ad), .val (.int ak), .val (.int (2 : Int32)), .val (.int of), .val (.ref ar), .val (.int (-1640531527 : Int32)), .val (.int (-480352335 : Int32)), .val (.int ((aa * (-1640531527 : Int32)) + ab)), .val (.ref mi)] [(.int (own_mix (own_hs g io 2)))]))
    refine own_cS X21 hx hml hZ hown (hw _ (List.mem_of_getElem? (i := 30) rfl)) (hw _ (List.mem_of_getElem? (i := 31) rfl)) (hw _ (List.mem_of_getElem? (i := 32) rfl)) (hw _ (List.mem_of_getElem? (i := 33) rfl)) (by decide) (own_rm4 l Z a0 hw (own_mix (own_hs g io 2)) T20.heap n0 sz20) eh21 (by decide) (W := 0) (by decide) (g := (mkF m 167 #[.val (.int aa), .val (.int ab), .val (.int ac), .val (.int ad), .val (.int ak), .val (.int (2 : Int32)), .val (.int of), .val (.ref ar), .val (.int (-1640531527 : Int32)), .val (.int (-480352335 : Int32)), .val (.int ((aa * (-1640531527 : Int32)) + ab)), .val (.ref mi)] [(.int (own_mix (own_hs g io 2)))])) rfl rfl own_pd3 (argsL := [(.int (own_mix (own_hs g io 2)))]) (rest := []) rfl rfl rfl (by show 2 * 0 + _ ≤ _; exact Nat.le_of_eq rfl) (hb hby at_167) (by decide) (by decide) ?_
    intro T22 L22 v22 X22 hQ22
    obtain ⟨rfl, eh22, le22⟩ := hQ22
    have N22 := own_nil N21 le22
    show own_Go p e below s _ _ _ (T22.setTop (mkF m 170 #[.val (.int aa), .val (.int ab), .val (.int ac), .val (.int ad), .val (.int ak), .val (.int (2 : Int32)), .val (.int of), .val (.ref ar), .val (.int (-1640531527 : Int32)), .val (.int (-480352335 : Int32)), .val (.int ((aa * (-1640531527 : Int32)) + ab)), .val (.ref mi)] [(.int (own_unmix (own_mix (own_hs g io 2))))]))
    refine own_st (fun _ kont => XS.iload X22.here hx rfl (hb hby at_170) rfl kont) ?_
    show own_Go p e below s _ _ _ (T22.setTop (mkF m 172 #[.val (.int aa), .val (.int ab), .val (.int ac), .val (.int ad), .val (.int ak), .val (.int (2 : Int32)), .val (.int of), .val (.ref ar), .val (.int (-1640531527 : Int32)), .val (.int (-480352335 : Int32)), .val (.int ((aa * (-1640531527 : Int32)) + ab)), .val (.ref mi)] [(.int ((aa * (-1640531527 : Int32)) + ab)), (.int (own_unmix (own_mix (own_hs g io 2))))]))
    refine own_st (fun _ kont => XS.icmpNo X22.here hx rfl (hb hby at_172) rfl (teq (by rw [own_back]; exact own_hs2 hg.1 hg.2)).2 kont) ?_
    show own_Go p e below s _ _ _ (T22.setTop (mkF m 175 #[.val (.int aa), .val (.int ab), .val (.int ac), .val (.int ad), .val (.int ak), .val (.int (2 : Int32)), .val (.int of), .val (.ref ar), .val (.int (-1640531527 : Int32)), .val (.int (-480352335 : Int32)), .val (.int ((aa * (-1640531527 : Int32)) + ab)), .val (.ref mi)] []))
    refine own_st (fun _ kont => XS.iconst X22.here hx rfl (hb hby at_175) kont) ?_
    show own_Go p e below s _ _ _ (T22.setTop (mkF m 176 #[.val (.int aa), .val (.int ab), .val (.int ac), .val (.int ad), .val (.int ak), .val (.int (2 : Int32)), .val (.int of), .val (.ref ar), .val (.int (-1640531527 : Int32)), .val (.int (-480352335 : Int32)), .val (.int ((aa * (-1640531527 : Int32)) + ab)), .val (.ref mi)] [(.int (1 : Int32))]))
    refine own_st (fun _ kont => XS.goto X22.here hx rfl (pc0 := 176) (pc' := 180) rfl (hb hby at_176) (by decide) (by decide) kont) ?_
    show own_Go p e below s _ _ _ (T22.setTop (mkF m 180 #[.val (.int aa), .val (.int ab), .val (.int ac), .val (.int ad), .val (.int ak), .val (.int (2 : Int32)), .val (.int of), .val (.ref ar), .val (.int (-1640531527 : Int32)), .val (.int (-480352335 : Int32)), .val (.int ((aa * (-1640531527 : Int32)) + ab)), .val (.ref mi)] [(.int (1 : Int32))]))
    exact own_endN X22 hx hlk (t := .boolean) hret (by simp) (hb hby at_180) (w := (1 : Int32)) (by decide) ⟨rfl, N22⟩ (by decide) (by decide)
  · obtain rfl : wd = (3 : Int32) := Int32.toInt_inj.mp hwd
    show own_Go p e below s _ _ _ (T7.setTop (mkF m 44 #[.val (.int aa), .val (.int ab), .val (.int ac), .val (.int ad), .val (.int ak), .val (.int (3 : Int32)), .val (.int of), .val (.ref ar), .unset, .unset, .unset, .unset] []))
    refine own_st (fun _ kont => XS.iload X7.here hx rfl (hb hby at_44) rfl kont) ?_
    show own_Go p e below s _ _ _ (T7.setTop (mkF m 46 #[.val (.int aa), .val (.int ab), .val (.int ac), .val (.int ad), .val (.int ak), .val (.int (3 : Int32)), .val (.int of), .val (.ref ar), .unset, .unset, .unset, .unset] [(.int (3 : Int32))]))
    refine own_st (fun _ kont => XS.ifNo X7.here hx rfl (hb hby at_46) rfl (by decide) kont) ?_
    show own_Go p e below s _ _ _ (T7.setTop (mkF m 49 #[.val (.int aa), .val (.int ab), .val (.int ac), .val (.int ad), .val (.int ak), .val (.int (3 : Int32)), .val (.int of), .val (.ref ar), .unset, .unset, .unset, .unset] []))
    refine own_st (fun _ kont => XS.aload X7.here hx rfl (hb hby at_49) rfl rfl kont) ?_
    show own_Go p e below s _ _ _ (T7.setTop (mkF m 51 #[.val (.int aa), .val (.int ab), .val (.int ac), .val (.int ad), .val (.int ak), .val (.int (3 : Int32)), .val (.int of), .val (.ref ar), .unset, .unset, .unset, .unset] [(.ref ar)]))
    refine own_st (fun _ kont => XS.iload X7.here hx rfl (hb hby at_51) rfl kont) ?_
    show own_Go p e below s _ _ _ (T7.setTop (mkF m 53 #[.val (.int aa), .val (.int ab), .val (.int ac), .val (.int ad), .val (.int ak), .val (.int (3 : Int32)), .val (.int of), .val (.ref ar), .unset, .unset, .unset, .unset] [(.int of), (.ref ar)]))
    refine own_st (fun _ kont => XS.iloadN X7.here hx rfl (hb hby at_53) rfl kont) ?_
    show own_Go p e below s _ _ _ (T7.setTop (mkF m 54 #[.val (.int aa), .val (.int ab), .val (.int ac), .val (.int ad), .val (.int ak), .val (.int (3 : Int32)), .val (.int of), .val (.ref ar), .unset, .unset, .unset, .unset] [(.int aa), (.int of), (.ref ar)]))
    obtain ⟨T23, h23, X23, e23, W23, Var_23, st23⟩ := own_stI X7 hx hZ e7 Var_7 (i := io) ho (by omega) (g := (mkF m 54 #[.val (.int aa), .val (.int ab), .val (.int ac), .val (.int ad), .val (.int ak), .val (.int (3 : Int32)), .val (.int of), .val (.ref ar), .unset, .unset, .unset, .unset] [(.int aa), (.int of), (.ref ar)])) rfl rfl (hb hby at_54)
    have sz23 := Nat.le_trans sz7 (Keep.of_wr W23).1
    have N23 := Fr.snoc X23 N7 fr_ar
    refine own_st st23 ?_
    show own_Go p e below s _ _ _ (T23.setTop (mkF m 55 #[.val (.int aa), .val (.int ab), .val (.int ac), .val (.int ad), .val (.int ak), .val (.int (3 : Int32)), .val (.int of), .val (.ref ar), .unset, .unset, .unset, .unset] []))
    refine own_st (fun _ kont => XS.iload X23.here hx rfl (hb hby at_55) rfl kont) ?_
    show own_Go p e below s _ _ _ (T23.setTop (mkF m 57 #[.val (.int aa), .val (.int ab), .val (.int ac), .val (.int ad), .val (.int ak), .val (.int (3 : Int32)), .val (.int of), .val (.ref ar), .unset, .unset, .unset, .unset] [(.int (3 : Int32))]))
    refine own_st (fun _ kont => XS.iconst X23.here hx rfl (hb hby at_57) kont) ?_
    show own_Go p e below s _ _ _ (T23.setTop (mkF m 58 #[.val (.int aa), .val (.int ab), .val (.int ac), .val (.int ad), .val (.int ak), .val (.int (3 : Int32)), .val (.int of), .val (.ref ar), .unset, .unset, .unset, .unset] [(.int (1 : Int32)), (.int (3 : Int32))]))
    refine own_st (fun _ kont => XS.icmpNo X23.here hx rfl (hb hby at_58) rfl (by decide) kont) ?_
    show own_Go p e below s _ _ _ (T23.setTop (mkF m 61 #[.val (.int aa), .val (.int ab), .val (.int ac), .val (.int ad), .val (.int ak), .val (.int (3 : Int32)), .val (.int of), .val (.ref ar), .unset, .unset, .unset, .unset] []))
    refine own_st (fun _ kont => XS.aload X23.here hx rfl (hb hby at_61) rfl rfl kont) ?_
    show own_Go p e below s _ _ _ (T23.setTop (mkF m 63 #[.val (.int aa), .val (.int ab), .val (.int ac), .val (.int ad), .val (.int ak), .val (.int (3 : Int32)), .val (.int of), .val (.ref ar), .unset, .unset, .unset, .unset] [(.ref ar)]))
    refine own_st (fun _ kont => XS.iload X23.here hx rfl (hb hby at_63) rfl kont) ?_
    show own_Go p e below s _ _ _ (T23.setTop (mkF m 65 #[.val (.int aa), .val (.int ab), .val (.int ac), .val (.int ad), .val (.int ak), .val (.int (3 : Int32)), .val (.int of), .val (.ref ar), .unset, .unset, .unset, .unset] [(.int of), (.ref ar)]))
    refine own_st (fun _ kont => XS.iconst X23.here hx rfl (hb hby at_65) kont) ?_
    show own_Go p e below s _ _ _ (T23.setTop (mkF m 66 #[.val (.int aa), .val (.int ab), .val (.int ac), .val (.int ad), .val (.int ak), .val (.int (3 : Int32)), .val (.int of), .val (.ref ar), .unset, .unset, .unset, .unset] [(.int (1 : Int32)), (.int of), (.ref ar)]))
    refine own_st (fun _ kont => XS.iadd X23.here hx rfl (hb hby at_66) rfl kont) ?_
    show own_Go p e below s _ _ _ (T23.setTop (mkF m 67 #[.val (.int aa), .val (.int ab), .val (.int ac), .val (.int ad), .val (.int ak), .val (.int (3 : Int32)), .val (.int of), .val (.ref ar), .unset, .unset, .unset, .unset] [(.int (of + (1 : Int32))), (.ref ar)]))
    refine own_st (fun _ kont => XS.iloadN X23.here hx rfl (hb hby at_67) rfl kont) ?_
    show own_Go p e below s _ _ _ (T23.setTop (mkF m 68 #[.val (.int aa), .val (.int ab), .val (.int ac), .val (.int ad), .val (.int ak), .val (.int (3 : Int32)), .val (.int of), .val (.ref ar), .unset, .unset, .unset, .unset] [(.int ab), (.int (of + (1 : Int32))), (.ref ar)]))
    obtain ⟨T24, h24, X24, e24, W24, Var_24, st24⟩ := own_stI X23 hx hZ e23 Var_23 (i := (io + 1)) (own_addN ho (by decide) (by omega)) (by omega) (g := (mkF m 68 #[.val (.int aa), .val (.int ab), .val (.int ac), .val (.int ad), .val (.int ak), .val (.int (3 : Int32)), .val (.int of), .val (.ref ar), .unset, .unset, .unset, .unset] [(.int ab), (.int (of + (1 : Int32))), (.ref ar)])) rfl rfl (hb hby at_68)
    have sz24 := Nat.le_trans sz23 (Keep.of_wr W24).1
    have N24 := Fr.snoc X24 N23 fr_ar
    refine own_st st24 ?_
    show own_Go p e below s _ _ _ (T24.setTop (mkF m 69 #[.val (.int aa), .val (.int ab), .val (.int ac), .val (.int ad), .val (.int ak), .val (.int (3 : Int32)), .val (.int of), .val (.ref ar), .unset, .unset, .unset, .unset] []))
    refine own_st (fun _ kont => XS.iload X24.here hx rfl (hb hby at_69) rfl kont) ?_
    show own_Go p e below s _ _ _ (T24.setTop (mkF m 71 #[.val (.int aa), .val (.int ab), .val (.int ac), .val (.int ad), .val (.int ak), .val (.int (3 : Int32)), .val (.int of), .val (.ref ar), .unset, .unset, .unset, .unset] [(.int (3 : Int32))]))
    refine own_st (fun _ kont => XS.iconst X24.here hx rfl (hb hby at_71) kont) ?_
    show own_Go p e below s _ _ _ (T24.setTop (mkF m 72 #[.val (.int aa), .val (.int ab), .val (.int ac), .val (.int ad), .val (.int ak), .val (.int (3 : Int32)), .val (.int of), .val (.ref ar), .unset, .unset, .unset, .unset] [(.int (2 : Int32)), (.int (3 : Int32))]))
    refine own_st (fun _ kont => XS.icmpNo X24.here hx rfl (hb hby at_72) rfl (by decide) kont) ?_
    show own_Go p e below s _ _ _ (T24.setTop (mkF m 75 #[.val (.int aa), .val (.int ab), .val (.int ac), .val (.int ad), .val (.int ak), .val (.int (3 : Int32)), .val (.int of), .val (.ref ar), .unset, .unset, .unset, .unset] []))
    refine own_st (fun _ kont => XS.aload X24.here hx rfl (hb hby at_75) rfl rfl kont) ?_
    show own_Go p e below s _ _ _ (T24.setTop (mkF m 77 #[.val (.int aa), .val (.int ab), .val (.int ac), .val (.int ad), .val (.int ak), .val (.int (3 : Int32)), .val (.int of), .val (.ref ar), .unset, .unset, .unset, .unset] [(.ref ar)]))
    refine own_st (fun _ kont => XS.iload X24.here hx rfl (hb hby at_77) rfl kont) ?_
    show own_Go p e below s _ _ _ (T24.setTop (mkF m 79 #[.val (.int aa), .val (.int ab), .val (.int ac), .val (.int ad), .val (.int ak), .val (.int (3 : Int32)), .val (.int of), .val (.ref ar), .unset, .unset, .unset, .unset] [(.int of), (.ref ar)]))
    refine own_st (fun _ kont => XS.iconst X24.here hx rfl (hb hby at_79) kont) ?_
    show own_Go p e below s _ _ _ (T24.setTop (mkF m 80 #[.val (.int aa), .val (.int ab), .val (.int ac), .val (.int ad), .val (.int ak), .val (.int (3 : Int32)), .val (.int of), .val (.ref ar), .unset, .unset, .unset, .unset] [(.int (2 : Int32)), (.int of), (.ref ar)]))
    refine own_st (fun _ kont => XS.iadd X24.here hx rfl (hb hby at_80) rfl kont) ?_
    show own_Go p e below s _ _ _ (T24.setTop (mkF m 81 #[.val (.int aa), .val (.int ab), .val (.int ac), .val (.int ad), .val (.int ak), .val (.int (3 : Int32)), .val (.int of), .val (.ref ar), .unset, .unset, .unset, .unset] [(.int (of + (2 : Int32))), (.ref ar)]))
    refine own_st (fun _ kont => XS.iloadN X24.here hx rfl (hb hby at_81) rfl kont) ?_
    show own_Go p e below s _ _ _ (T24.setTop (mkF m 82 #[.val (.int aa), .val (.int ab), .val (.int ac), .val (.int ad), .val (.int ak), .val (.int (3 : Int32)), .val (.int of), .val (.ref ar), .unset, .unset, .unset, .unset] [(.int ac), (.int (of + (2 : Int32))), (.ref ar)]))
    obtain ⟨T25, h25, X25, e25, W25, Var_25, st25⟩ := own_stI X24 hx hZ e24 Var_24 (i := (io + 2)) (own_addN ho (by decide) (by omega)) (by omega) (g := (mkF m 82 #[.val (.int aa), .val (.int ab), .val (.int ac), .val (.int ad), .val (.int ak), .val (.int (3 : Int32)), .val (.int of), .val (.ref ar), .unset, .unset, .unset, .unset] [(.int ac), (.int (of + (2 : Int32))), (.ref ar)])) rfl rfl (hb hby at_82)
    have sz25 := Nat.le_trans sz24 (Keep.of_wr W25).1
    have N25 := Fr.snoc X25 N24 fr_ar
    refine own_st st25 ?_
    show own_Go p e below s _ _ _ (T25.setTop (mkF m 83 #[.val (.int aa), .val (.int ab), .val (.int ac), .val (.int ad), .val (.int ak), .val (.int (3 : Int32)), .val (.int of), .val (.ref ar), .unset, .unset, .unset, .unset] []))
    refine own_st (fun _ kont => X25.ldcInt hx hown (mvT hZ (hw _ (List.mem_of_getElem? (i := 1) rfl))) (g := (mkF m 83 #[.val (.int aa), .val (.int ab), .val (.int ac), .val (.int ad), .val (.int ak), .val (.int (3 : Int32)), .val (.int of), .val (.ref ar), .unset, .unset, .unset, .unset] [])) rfl (hb hby at_83) _ kont) ?_
    show own_Go p e below s _ _ _ (T25.setTop (mkF m 85 #[.val (.int aa), .val (.int ab), .val (.int ac), .val (.int ad), .val (.int ak), .val (.int (3 : Int32)), .val (.int of), .val (.ref ar), .unset, .unset, .unset, .unset] [(.int (-1640531527 : Int32))]))
    refine own_st (fun _ kont => XS.istore X25.here hx rfl (hb hby at_85) rfl (l' := #[.val (.int aa), .val (.int ab), .val (.int ac), .val (.int ad), .val (.int ak), .val (.int (3 : Int32)), .val (.int of), .val (.ref ar), .val (.int (-1640531527 : Int32)), .unset, .unset, .unset]) rfl kont) ?_
    show own_Go p e below s _ _ _ (T25.setTop (mkF m 87 #[.val (.int aa), .val (.int ab), .val (.int ac), .val (.int ad), .val (.int ak), .val (.int (3 : Int32)), .val (.int of), .val (.ref ar), .val (.int (-1640531527 : Int32)), .unset, .unset, .unset] []))
    refine own_st (fun _ kont => XS.iload X25.here hx rfl (hb hby at_87) rfl kont) ?_
    show own_Go p e below s _ _ _ (T25.setTop (mkF m 89 #[.val (.int aa), .val (.int ab), .val (.int ac), .val (.int ad), .val (.int ak), .val (.int (3 : Int32)), .val (.int of), .val (.ref ar), .val (.int (-1640531527 : Int32)), .unset, .unset, .unset] [(.int (-1640531527 : Int32))]))
    refine own_st (fun _ kont => XS.iload X25.here hx rfl (hb hby at_89) rfl kont) ?_
    show own_Go p e below s _ _ _ (T25.setTop (mkF m 91 #[.val (.int aa), .val (.int ab), .val (.int ac), .val (.int ad), .val (.int ak), .val (.int (3 : Int32)), .val (.int of), .val (.ref ar), .val (.int (-1640531527 : Int32)), .unset, .unset, .unset] [(.int (-1640531527 : Int32)), (.int (-1640531527 : Int32))]))
    refine own_st (fun _ kont => XS.imul X25.here hx rfl (hb hby at_91) rfl kont) ?_
    show own_Go p e below s _ _ _ (T25.setTop (mkF m 92 #[.val (.int aa), .val (.int ab), .val (.int ac), .val (.int ad), .val (.int ak), .val (.int (3 : Int32)), .val (.int of), .val (.ref ar), .val (.int (-1640531527 : Int32)), .unset, .unset, .unset] [(.int (-480352335 : Int32))]))
    refine own_st (fun _ kont => XS.istore X25.here hx rfl (hb hby at_92) rfl (l' := #[.val (.int aa), .val (.int ab), .val (.int ac), .val (.int ad), .val (.int ak), .val (.int (3 : Int32)), .val (.int of), .val (.ref ar), .val (.int (-1640531527 : Int32)), .val (.int (-480352335 : Int32)), .unset, .unset]) rfl kont) ?_
    show own_Go p e below s _ _ _ (T25.setTop (mkF m 94 #[.val (.int aa), .val (.int ab), .val (.int ac), .val (.int ad), .val (.int ak), .val (.int (3 : Int32)), .val (.int of), .val (.ref ar), .val (.int (-1640531527 : Int32)), .val (.int (-480352335 : Int32)), .unset, .unset] []))
    refine own_st (fun _ kont => XS.iload X25.here hx rfl (hb hby at_94) rfl kont) ?_
    show own_Go p e below s _ _ _ (T25.setTop (mkF m 96 #[.val (.int aa), .val (.int ab), .val (.int ac), .val (.int ad), .val (.int ak), .val (.int (3 : Int32)), .val (.int of), .val (.ref ar), .val (.int (-1640531527 : Int32)), .val (.int (-480352335 : Int32)), .unset, .unset] [(.int (3 : Int32))]))
    refine own_st (fun _ kont => XS.ifYes X25.here hx rfl (pc0 := 96) (pc' := 105) rfl (hb hby at_96) rfl (by decide) (by decide) (by decide) kont) ?_
    show own_Go p e below s _ _ _ (T25.setTop (mkF m 105 #[.val (.int aa), .val (.int ab), .val (.int ac), .val (.int ad), .val (.int ak), .val (.int (3 : Int32)), .val (.int of), .val (.ref ar), .val (.int (-1640531527 : Int32)), .val (.int (-480352335 : Int32)), .unset, .unset] []))
    refine own_st (fun _ kont => XS.iload X25.here hx rfl (hb hby at_105) rfl kont) ?_
    show own_Go p e below s _ _ _ (T25.setTop (mkF m 107 #[.val (.int aa), .val (.int ab), .val (.int ac), .val (.int ad), .val (.int ak), .val (.int (3 : Int32)), .val (.int of), .val (.ref ar), .val (.int (-1640531527 : Int32)), .val (.int (-480352335 : Int32)), .unset, .unset] [(.int (3 : Int32))]))
    refine own_st (fun _ kont => XS.iconst X25.here hx rfl (hb hby at_107) kont) ?_
    show own_Go p e below s _ _ _ (T25.setTop (mkF m 108 #[.val (.int aa), .val (.int ab), .val (.int ac), .val (.int ad), .val (.int ak), .val (.int (3 : Int32)), .val (.int of), .val (.ref ar), .val (.int (-1640531527 : Int32)), .val (.int (-480352335 : Int32)), .unset, .unset] [(.int (1 : Int32)), (.int (3 : Int32))]))
    refine own_st (fun _ kont => XS.icmpYes X25.here hx rfl (pc0 := 108) (pc' := 117) rfl (hb hby at_108) rfl (by decide) (by decide) (by decide) kont) ?_
    show own_Go p e below s _ _ _ (T25.setTop (mkF m 117 #[.val (.int aa), .val (.int ab), .val (.int ac), .val (.int ad), .val (.int ak), .val (.int (3 : Int32)), .val (.int of), .val (.ref ar), .val (.int (-1640531527 : Int32)), .val (.int (-480352335 : Int32)), .unset, .unset] []))
    refine own_st (fun _ kont => XS.iload X25.here hx rfl (hb hby at_117) rfl kont) ?_
    show own_Go p e below s _ _ _ (T25.setTop (mkF m 119 #[.val (.int aa), .val (.int ab), .val (.int ac), .val (.int ad), .val (.int ak), .val (.int (3 : Int32)), .val (.int of), .val (.ref ar), .val (.int (-1640531527 : Int32)), .val (.int (-480352335 : Int32)), .unset, .unset] [(.int (3 : Int32))]))
    refine own_st (fun _ kont => XS.iconst X25.here hx rfl (hb hby at_119) kont) ?_
    show own_Go p e below s _ _ _ (T25.setTop (mkF m 120 #[.val (.int aa), .val (.int ab), .val (.int ac), .val (.int ad), .val (.int ak), .val (.int (3 : Int32)), .val (.int of), .val (.ref ar), .val (.int (-1640531527 : Int32)), .val (.int (-480352335 : Int32)), .unset, .unset] [(.int (2 : Int32)), (.int (3 : Int32))]))
    refine own_st (fun _ kont => XS.icmpYes X25.here hx rfl (pc0 := 120) (pc' := 134) rfl (hb hby at_120) rfl (by decide) (by decide) (by decide) kont) ?_
    show own_Go p e below s _ _ _ (T25.setTop (mkF m 134 #[.val (.int aa), .val (.int ab), .val (.int ac), .val (.int ad), .val (.int ak), .val (.int (3 : Int32)), .val (.int of), .val (.ref ar), .val (.int (-1640531527 : Int32)), .val (.int (-480352335 : Int32)), .unset, .unset] []))
    refine own_st (fun _ kont => XS.iloadN X25.here hx rfl (hb hby at_134) rfl kont) ?_
    show own_Go p e below s _ _ _ (T25.setTop (mkF m 135 #[.val (.int aa), .val (.int ab), .val (.int ac), .val (.int ad), .val (.int ak), .val (.int (3 : Int32)), .val (.int of), .val (.ref ar), .val (.int (-1640531527 : Int32)), .val (.int (-480352335 : Int32)), .unset, .unset] [(.int aa)]))
    refine own_st (fun _ kont => XS.iload X25.here hx rfl (hb hby at_135) rfl kont) ?_
    show own_Go p e below s _ _ _ (T25.setTop (mkF m 137 #[.val (.int aa), .val (.int ab), .val (.int ac), .val (.int ad), .val (.int ak), .val (.int (3 : Int32)), .val (.int of), .val (.ref ar), .val (.int (-1640531527 : Int32)), .val (.int (-480352335 : Int32)), .unset, .unset] [(.int (-480352335 : Int32)), (.int aa)]))
    refine own_st (fun _ kont => XS.imul X25.here hx rfl (hb hby at_137) rfl kont) ?_
    show own_Go p e below s _ _ _ (T25.setTop (mkF m 138 #[.val (.int aa), .val (.int ab), .val (.int ac), .val (.int ad), .val (.int ak), .val (.int (3 : Int32)), .val (.int of), .val (.ref ar), .val (.int (-1640531527 : Int32)), .val (.int (-480352335 : Int32)), .unset, .unset] [(.int (aa * (-480352335 : Int32)))]))
    refine own_st (fun _ kont => XS.iloadN X25.here hx rfl (hb hby at_138) rfl kont) ?_
    show own_Go p e below s _ _ _ (T25.setTop (mkF m 139 #[.val (.int aa), .val (.int ab), .val (.int ac), .val (.int ad), .val (.int ak), .val (.int (3 : Int32)), .val (.int of), .val (.ref ar), .val (.int (-1640531527 : Int32)), .val (.int (-480352335 : Int32)), .unset, .unset] [(.int ab), (.int (aa * (-480352335 : Int32)))]))
    refine own_st (fun _ kont => XS.iload X25.here hx rfl (hb hby at_139) rfl kont) ?_
    show own_Go p e below s _ _ _ (T25.setTop (mkF m 141 #[.val (.int aa), .val (.int ab), .val (.int ac), .val (.int ad), .val (.int ak), .val (.int (3 : Int32)), .val (.int of), .val (.ref ar), .val (.int (-1640531527 : Int32)), .val (.int (-480352335 : Int32)), .unset, .unset] [(.int (-1640531527 : Int32)), (.int ab), (.int (aa * (-480352335 : Int32)))]))
    refine own_st (fun _ kont => XS.imul X25.here hx rfl (hb hby at_141) rfl kont) ?_
    show own_Go p e below s _ _ _ (T25.setTop (mkF m 142 #[.val (.int aa), .val (.int ab), .val (.int ac), .val (.int ad), .val (.int ak), .val (.int (3 : Int32)), .val (.int of), .val (.ref ar), .val (.int (-1640531527 : Int32)), .val (.int (-480352335 : Int32)), .unset, .unset] [(.int (ab * (-1640531527 : Int32))), (.int (aa * (-480352335 : Int32)))]))
    refine own_st (fun _ kont => XS.iadd X25.here hx rfl (hb hby at_142) rfl kont) ?_
    show own_Go p e below s _ _ _ (T25.setTop (mkF m 143 #[.val (.int aa), .val (.int ab), .val (.int ac), .val (.int ad), .val (.int ak), .val (.int (3 : Int32)), .val (.int of), .val (.ref ar), .val (.int (-1640531527 : Int32)), .val (.int (-480352335 : Int32)), .unset, .unset] [(.int ((aa * (-480352335 : Int32)) + (ab * (-1640531527 : Int32))))]))
    refine own_st (fun _ kont => XS.iloadN X25.here hx rfl (hb hby at_143) rfl kont) ?_
    show own_Go p e below s _ _ _ (T25.setTop (mkF m 144 #[.val (.int aa), .val (.int ab), .val (.int ac), .val (.int ad), .val (.int ak), .val (.int (3 : Int32)), .val (.int of), .val (.ref ar), .val (.int (-1640531527 : Int32)), .val (.int (-480352335 : Int32)), .unset, .unset] [(.int ac), (.int ((aa * (-480352335 : Int32)) + (ab * (-1640531527 : Int32))))]))
    refine own_st (fun _ kont => XS.iadd X25.here hx rfl (hb hby at_144) rfl kont) ?_
    show own_Go p e below s _ _ _ (T25.setTop (mkF m 145 #[.val (.int aa), .val (.int ab), .val (.int ac), .val (.int ad), .val (.int ak), .val (.int (3 : Int32)), .val (.int of), .val (.ref ar), .val (.int (-1640531527 : Int32)), .val (.int (-480352335 : Int32)), .unset, .unset] [(.int (((aa * (-480352335 : Int32)) + (ab * (-1640531527 : Int32))) + ac))]))
    refine own_st (fun _ kont => XS.istore X25.here hx rfl (hb hby at_145) rfl (l' := #[.val (.int aa), .val (.int ab), .val (.int ac), .val (.int ad), .val (.int ak), .val (.int (3 : Int32)), .val (.int of), .val (.ref ar), .val (.int (-1640531527 : Int32)), .val (.int (-480352335 : Int32)), .val (.int (((aa * (-480352335 : Int32)) + (ab * (-1640531527 : Int32))) + ac)), .unset]) rfl kont) ?_
    show own_Go p e below s _ _ _ (T25.setTop (mkF m 147 #[.val (.int aa), .val (.int ab), .val (.int ac), .val (.int ad), .val (.int ak), .val (.int (3 : Int32)), .val (.int of), .val (.ref ar), .val (.int (-1640531527 : Int32)), .val (.int (-480352335 : Int32)), .val (.int (((aa * (-480352335 : Int32)) + (ab * (-1640531527 : Int32))) + ac)), .unset] []))
    obtain ⟨T26, h26, X26, e26, E26, A26, D26, -, st26⟩ := newO X25 hx hZ hown (hw _ (List.mem_of_getElem? (i := 2) rfl)) (hw _ (List.mem_of_getElem? (i := 3) rfl)) (hw _ (List.mem_of_getElem? (i := 4) rfl)) e25 (g := (mkF m 147 #[.val (.int aa), .val (.int ab), .val (.int ac), .val (.int ad), .val (.int ak), .val (.int (3 : Int32)), .val (.int of), .val (.ref ar), .val (.int (-1640531527 : Int32)), .val (.int (-480352335 : Int32)), .val (.int (((aa * (-480352335 : Int32)) + (ab * (-1640531527 : Int32))) + ac)), .unset] [])) rfl (hb hby at_147) (by decide) (by decide)
    obtain ⟨mi, g26⟩ : ∃ z, z = h25.size := ⟨_, rfl⟩
    rw [← g26] at A26 D26 st26
    have ne_ar_mi : ar ≠ mi := Nat.ne_of_lt (Nat.lt_of_lt_of_eq Var_25.lt g26.symm)
    have fr_mi : n0 ≤ mi := Nat.le_trans sz25 (Nat.le_of_eq g26.symm)
    have Var_26 := Var_25.ext E26
    have sz26 := Nat.le_trans sz25 E26.1
    have EXmi := A26
    have Fmi_slots : Fld Z h26 mi "com/example/interpres/interpres/netsemantics/MarkingIndex" "slots" "[I" .null := D26 (Or.inl (hw _ (List.mem_of_getElem? (i := 12) rfl))) (ty := (.array .int)) (by decide)
    have Fmi_width : Fld Z h26 mi "com/example/interpres/interpres/netsemantics/MarkingIndex" "width" "I" (.int 0) := D26 (Or.inr (hw _ (List.mem_of_getElem? (i := 14) rfl))) (ty := .int) (by decide)
    have Fmi_markings : Fld Z h26 mi "com/example/interpres/interpres/netsemantics/MarkingIndex" "markings" "[I" .null := D26 (Or.inl (hw _ (List.mem_of_getElem? (i := 22) rfl))) (ty := (.array .int)) (by decide)
    refine own_st st26 ?_
    show own_Go p e below s _ _ _ (T26.setTop (mkF m 150 #[.val (.int aa), .val (.int ab), .val (.int ac), .val (.int ad), .val (.int ak), .val (.int (3 : Int32)), .val (.int of), .val (.ref ar), .val (.int (-1640531527 : Int32)), .val (.int (-480352335 : Int32)), .val (.int (((aa * (-480352335 : Int32)) + (ab * (-1640531527 : Int32))) + ac)), .unset] [(.ref mi)]))
    refine own_st (fun _ kont => XS.dup X26.here hx rfl (hb hby at_150) rfl rfl kont) ?_
    show own_Go p e below s _ _ _ (T26.setTop (mkF m 151 #[.val (.int aa), .val (.int ab), .val (.int ac), .val (.int ad), .val (.int ak), .val (.int (3 : Int32)), .val (.int of), .val (.ref ar), .val (.int (-1640531527 : Int32)), .val (.int (-480352335 : Int32)), .val (.int (((aa * (-480352335 : Int32)) + (ab * (-1640531527 : Int32))) + ac)), .unset] [(.ref mi), (.ref mi)]))
    refine own_st (fun _ kont => XS.iload X26.here hx rfl (hb hby at_151) rfl kont) ?_
    show own_Go p e below s _ _ _ (T26.setTop (mkF m 153 #[.val (.int aa), .val (.int ab), .val (.int ac), .val (.int ad), .val (.int ak), .val (.int (3 : Int32)), .val (.int of), .val (.ref ar), .val (.int (-1640531527 : Int32)), .val (.int (-480352335 : Int32)), .val (.int (((aa * (-480352335 : Int32)) + (ab * (-1640531527 : Int32))) + ac)), .unset] [(.int (3 : Int32)), (.ref mi), (.ref mi)]))
    refine own_cN X26 hx hml hZ rfl hown (hw _ (List.mem_of_getElem? (i := 5) rfl)) (hw _ (List.mem_of_getElem? (i := 6) rfl)) (hw _ (List.mem_of_getElem? (i := 4) rfl)) (hw _ (List.mem_of_getElem? (i := 7) rfl)) (by decide) (own_rm2 l Z a0 hw mi (3 : Int32) 3 h26 n0 sz26 Fmi_slots Fmi_width Fmi_markings EXmi fr_mi (by decide) (by decide)) e26 (by decide) (W := 1) (by decide) (g := (mkF m 153 #[.val (.int aa), .val (.int ab), .val (.int ac), .val (.int ad), .val (.int ak), .val (.int (3 : Int32)), .val (.int of), .val (.ref ar), .val (.int (-1640531527 : Int32)), .val (.int (-480352335 : Int32)), .val (.int (((aa * (-480352335 : Int32)) + (ab * (-1640531527 : Int32))) + ac)), .unset] [(.int (3 : Int32)), (.ref mi), (.ref mi)])) rfl rfl own_pd1 (argsL := [(.int (3 : Int32))]) (rest := [(.ref mi)]) rfl rfl rfl (by show 2 * 0 + _ ≤ _; exact Nat.le_of_eq rfl) (hb hby at_153) (by decide) (by decide) ?_
    intro T27 L27 v27 X27 hQ27
    obtain ⟨rfl, Nc27, K27, Fw27⟩ := hQ27
    have N27 := Fr.app N25 Nc27
    have Var_27 := Var_26.keep K27 (ninS ne_ar_mi nin0)
    have EXmi_27 := EXmi.keep K27
    have sz27 := Nat.le_trans sz26 K27.1
    show own_Go p e below s _ _ _ (T27.setTop (mkF m 156 #[.val (.int aa), .val (.int ab), .val (.int ac), .val (.int ad), .val (.int ak), .val (.int (3 : Int32)), .val (.int of), .val (.ref ar), .val (.int (-1640531527 : Int32)), .val (.int (-480352335 : Int32)), .val (.int (((aa * (-480352335 : Int32)) + (ab * (-1640531527 : Int32))) + ac)), .unset] [(.ref mi)]))
    refine own_st (fun _ kont => XS.astore X27.here hx rfl (hb hby at_156) rfl rfl (l' := #[.val (.int aa), .val (.int ab), .val (.int ac), .val (.int ad), .val (.int ak), .val (.int (3 : Int32)), .val (.int of), .val (.ref ar), .val (.int (-1640531527 : Int32)), .val (.int (-480352335 : Int32)), .val (.int (((aa * (-480352335 : Int32)) + (ab * (-1640531527 : Int32))) + ac)), .val (.ref mi)]) rfl kont) ?_
    show own_Go p e below s _ _ _ (T27.setTop (mkF m 158 #[.val (.int aa), .val (.int ab), .val (.int ac), .val (.int ad), .val (.int ak), .val (.int (3 : Int32)), .val (.int of), .val (.ref ar), .val (.int (-1640531527 : Int32)), .val (.int (-480352335 : Int32)), .val (.int (((aa * (-480352335 : Int32)) + (ab * (-1640531527 : Int32))) + ac)), .val (.ref mi)] []))
    refine own_st (fun _ kont => XS.aload X27.here hx rfl (hb hby at_158) rfl rfl kont) ?_
    show own_Go p e below s _ _ _ (T27.setTop (mkF m 160 #[.val (.int aa), .val (.int ab), .val (.int ac), .val (.int ad), .val (.int ak), .val (.int (3 : Int32)), .val (.int of), .val (.ref ar), .val (.int (-1640531527 : Int32)), .val (.int (-480352335 : Int32)), .val (.int (((aa * (-480352335 : Int32)) + (ab * (-1640531527 : Int32))) + ac)), .val (.ref mi)] [(.ref mi)]))
    refine own_st (fun _ kont => XS.aload X27.here hx rfl (hb hby at_160) rfl rfl kont) ?_
    show own_Go p e below s _ _ _ (T27.setTop (mkF m 162 #[.val (.int aa), .val (.int ab), .val (.int ac), .val (.int ad), .val (.int ak), .val (.int (3 : Int32)), .val (.int of), .val (.ref ar), .val (.int (-1640531527 : Int32)), .val (.int (-480352335 : Int32)), .val (.int (((aa * (-480352335 : Int32)) + (ab * (-1640531527 : Int32))) + ac)), .val (.ref mi)] [(.ref ar), (.ref mi)]))
    refine own_st (fun _ kont => XS.iload X27.here hx rfl (hb hby at_162) rfl kont) ?_
    show own_Go p e below s _ _ _ (T27.setTop (mkF m 164 #[.val (.int aa), .val (.int ab), .val (.int ac), .val (.int ad), .val (.int ak), .val (.int (3 : Int32)), .val (.int of), .val (.ref ar), .val (.int (-1640531527 : Int32)), .val (.int (-480352335 : Int32)), .val (.int (((aa * (-480352335 : Int32)) + (ab * (-1640531527 : Int32))) + ac)), .val (.ref mi)] [(.int of), (.ref ar), (.ref mi)]))
    obtain ⟨g, hg, Var_27⟩ : ∃ g : Nat → Int32, (g io = aa ∧ g (io + 1) = ab ∧ g (io + 2) = ac) ∧ own_Av Z T27.heap ar .int 5 (fun t => .int (g t)) := ⟨_, ⟨(if_neg (by omega)).trans ((if_neg (by omega)).trans (if_pos rfl)), (if_neg (by omega)).trans (if_pos rfl), if_pos rfl⟩, Var_27⟩
    show own_Go p e below s _ _ _ (T27.setTop (mkF m 164 #[.val (.int aa), .val (.int ab), .val (.int ac), .val (.int ad), .val (.int ak), .val (.int (3 : Int32)), .val (.int of), .val (.ref ar), .val (.int (-1640531527 : Int32)), .val (.int (-480352335 : Int32)), .val (.int (((aa * (-480352335 : Int32)) + (ab * (-1640531527 : Int32))) + ac)), .val (.ref mi)] [(.int of), (.ref ar), (.ref mi)]))
    refine own_cV X27 hx hml hZ hown (hw _ (List.mem_of_getElem? (i := 23) rfl)) (hw _ (List.mem_of_getElem? (i := 24) rfl)) (hw _ (List.mem_of_getElem? (i := 26) rfl)) (hw _ (List.mem_of_getElem? (i := 25) rfl)) (hw _ (List.mem_of_getElem? (i := 4) rfl)) (hw _ (List.mem_of_getElem? (i := 27) rfl)) (by decide) (own_rm3 l Z a0 hw mi ar of (3 : Int32) g io 3 T27.heap n0 sz27 Var_27 Fw27 ho (by decide) (by omega)) (rfl : T27.heap = T27.heap) EXmi_27 (by decide) (W := 0) (by decide) (g := (mkF m 164 #[.val (.int aa), .val (.int ab), .val (.int ac), .val (.int ad), .val (.int ak), .val (.int (3 : Int32)), .val (.int of), .val (.ref ar), .val (.int (-1640531527 : Int32)), .val (.int (-480352335 : Int32)), .val (.int (((aa * (-480352335 : Int32)) + (ab * (-1640531527 : Int32))) + ac)), .val (.ref mi)] [(.int of), (.ref ar), (.ref mi)])) rfl rfl own_pd2 (argsL := [(.ref ar), (.int of)]) (rest := []) rfl rfl rfl (by show 2 * 0 + _ ≤ _; exact Nat.le_of_eq rfl) (hb hby at_164) (by decide) (by decide) ?_
    intro T28 L28 v28 X28 hQ28
    obtain ⟨rfl, eh28, le28⟩ := hQ28
    have N28 := own_nil N27 le28
    show own_Go p e below s _ _ _ (T28.setTop (mkF m 167 #[.val (.int aa), .val (.int ab), .val (.int ac), .val (.int ad), .val (.int ak), .val (.int (3 : Int32)), .val (.int of), .val (.ref ar), .val (.int (-1640531527 : Int32)), .val (.int (-480352335 : Int32)), .val (.int (((aa * (-480352335 : Int32)) + (ab * (-1640531527 : Int32))) + ac)), .val (.ref mi)] [(.int (own_mix (own_hs g io 3)))]))
    refine own_cS X28 hx hml hZ hown (hw _ (List.mem_of_getElem? (i := 30) rfl)) (hw _ (List.mem_of_getElem? (i := 31) rfl)) (hw _ (List.mem_of_getElem? (i := 32) rfl)) (hw _ (List.mem_of_getElem? (i := 33) rfl)) (by decide) (own_rm4 l Z a0 hw (own_mix (own_hs g io 3)) T27.heap n0 sz27) eh28 (by decide) (W := 0) (by decide) (g := (mkF m 167 #[.val (.int aa), .val (.int ab), .val (.int ac), .val (.int ad), .val (.int ak), .val (.int (3 : Int32)), .val (.int of), .val (.ref ar), .val (.int (-1640531527 : Int32)), .val (.int (-480352335 : Int32)), .val (.int (((aa * (-480352335 : Int32)) + (ab * (-1640531527 : Int32))) + ac)), .val (.ref mi)] [(.int (own_mix (own_hs g io 3)))])) rfl rfl own_pd3 (argsL := [(.int (own_mix (own_hs g io 3)))]) (rest := []) rfl rfl rfl (by show 2 * 0 + _ ≤ _; exact Nat.le_of_eq rfl) (hb hby at_167) (by decide) (by decide) ?_
    intro T29 L29 v29 X29 hQ29
    obtain ⟨rfl, eh29, le29⟩ := hQ29
    have N29 := own_nil N28 le29
    show own_Go p e below s _ _ _ (T29.setTop (mkF m 170 #[.val (.int aa), .val (.int ab), .val (.int ac), .val (.int ad), .val (.int ak), .val (.int (3 : Int32)), .val (.int of), .val (.ref ar), .val (.int (-1640531527 : Int32)), .val (.int (-480352335 : Int32)), .val (.int (((aa * (-480352335 : Int32)) + (ab * (-1640531527 : Int32))) + ac)), .val (.ref mi)] [(.int (own_unmix (own_mix (own_hs g io 3))))]))
    refine own_st (fun _ kont => XS.iload X29.here hx rfl (hb hby at_170) rfl kont) ?_
    show own_Go p e below s _ _ _ (T29.setTop (mkF m 172 #[.val (.int aa), .val (.int ab), .val (.int ac), .val (.int ad), .val (.int ak), .val (.int (3 : Int32)), .val (.int of), .val (.ref ar), .val (.int (-1640531527 : Int32)), .val (.int (-480352335 : Int32)), .val (.int (((aa * (-480352335 : Int32)) + (ab * (-1640531527 : Int32))) + ac)), .val (.ref mi)] [(.int (((aa * (-480352335 : Int32)) + (ab * (-1640531527 : Int32))) + ac)), (.int (own_unmix (own_mix (own_hs g io 3))))]))
    refine own_st (fun _ kont => XS.icmpNo X29.here hx rfl (hb hby at_172) rfl (teq (by rw [own_back]; exact own_hs3 hg.1 hg.2.1 hg.2.2)).2 kont) ?_
    show own_Go p e below s _ _ _ (T29.setTop (mkF m 175 #[.val (.int aa), .val (.int ab), .val (.int ac), .val (.int ad), .val (.int ak), .val (.int (3 : Int32)), .val (.int of), .val (.ref ar), .val (.int (-1640531527 : Int32)), .val (.int (-480352335 : Int32)), .val (.int (((aa * (-480352335 : Int32)) + (ab * (-1640531527 : Int32))) + ac)), .val (.ref mi)] []))
    refine own_st (fun _ kont => XS.iconst X29.here hx rfl (hb hby at_175) kont) ?_
    show own_Go p e below s _ _ _ (T29.setTop (mkF m 176 #[.val (.int aa), .val (.int ab), .val (.int ac), .val (.int ad), .val (.int ak), .val (.int (3 : Int32)), .val (.int of), .val (.ref ar), .val (.int (-1640531527 : Int32)), .val (.int (-480352335 : Int32)), .val (.int (((aa * (-480352335 : Int32)) + (ab * (-1640531527 : Int32))) + ac)), .val (.ref mi)] [(.int (1 : Int32))]))
    refine own_st (fun _ kont => XS.goto X29.here hx rfl (pc0 := 176) (pc' := 180) rfl (hb hby at_176) (by decide) (by decide) kont) ?_
    show own_Go p e below s _ _ _ (T29.setTop (mkF m 180 #[.val (.int aa), .val (.int ab), .val (.int ac), .val (.int ad), .val (.int ak), .val (.int (3 : Int32)), .val (.int of), .val (.ref ar), .val (.int (-1640531527 : Int32)), .val (.int (-480352335 : Int32)), .val (.int (((aa * (-480352335 : Int32)) + (ab * (-1640531527 : Int32))) + ac)), .val (.ref mi)] [(.int (1 : Int32))]))
    exact own_endN X29 hx hlk (t := .boolean) hret (by simp) (hb hby at_180) (w := (1 : Int32)) (by decide) ⟨rfl, N29⟩ (by decide) (by decide)
set_option maxRecDepth 65536 in
set_option maxHeartbeats 40000000 in
theorem own_comes {Post : Tables → Env → Array Value → State → Outcome → State → Prop} (hpost : ∀ tb e args s v u, (limb_1_1.after args s (.returned v) u = true ∧ limb_1_2.after args s (.returned v) u = true ∧ True) → FrameEnd s (.returned v) u (Jvm.fieldLocs frame_1_writes args s ++ Jvm.arrayLocs frame_1_arrays args s ++ Jvm.staticLocs frame_1_statics s) 16 2560 → Post tb e args s (.returned v) u) :
    ArmFor flags0 classFile x code maxLocals ret World_1 tables_1 room_1 Calls_1 rest_1 Pre_1 Post := by
  intro l hfl _ _ p e ha hc hk s m args below hf hA hF happ hP
  obtain ⟨hcalls, hrest, hpre⟩ := hP
  obtain ⟨-, -, -, hnamed, -, -, -, hat⟩ := (Spec.applies_iff hf).mp happ
  obtain ⟨hg, hn⟩ := and_e (Cond.before_iff.mp (show (Jvm.Cond.and given_1 narrow_1).before args s = true from hpre))
  obtain ⟨gc, r0⟩ := and_e hg
  obtain ⟨k0, r1⟩ := and_e r0
  obtain ⟨k1, r2⟩ := and_e r1
  obtain ⟨k2, r3⟩ := and_e r2
  obtain ⟨k3, r4⟩ := and_e r3
  obtain ⟨w0, w1, w2, w3, w4, rfl⟩ : ∃ w0 w1 w2 w3 w4 : Value, args = #[w0, w1, w2, w3, w4] := by
    have hs : args.size = 5 := by simpa [Cond.value, given_1] using gc
    obtain ⟨L⟩ := args
    match L, hs with
    | [w0, w1, w2, w3, w4], _ => exact ⟨w0, w1, w2, w3, w4, rfl⟩
  have hw := fun d (hd : d ∈ tables_1) => atoms_spec (ws := Jvm.Cond.code x code maxLocals ret :: tables_1) hat d (List.mem_cons_of_mem _ hd)
  obtain ⟨i0, ei0⟩ := is_v k0
  obtain rfl : w0 = (.int i0) := Option.some.inj ei0
  obtain ⟨i1, ei1⟩ := is_v k1
  obtain rfl : w1 = (.int i1) := Option.some.inj ei1
  obtain ⟨i2, ei2⟩ := is_v k2
  obtain rfl : w2 = (.int i2) := Option.some.inj ei2
  obtain ⟨i3, ei3⟩ := is_v k3
  obtain rfl : w3 = (.int i3) := Option.some.inj ei3
  obtain ⟨i4, ei4⟩ := is_v r4
  obtain rfl : w4 = (.int i4) := Option.some.inj ei4
  obtain ⟨n, o, h1, h2, h3, _, L, rfl, ⟨rfl, N⟩, hq⟩ := own_rm0 l s _ hw i0 i1 i2 i3 i4 s.heap s.heap.size (Nat.le_refl _)  tables_1 p e ha hc hk s m _ below hf ((Spec.applies_iff_loose hf).mp happ).1 ⟨rfl, State.Warmed39.refl s, rfl⟩ trivial
  refine ⟨n, _, h1, h2, h3, hpost _ _ _ _ _ _ ⟨Cond.after_iff.mpr rfl, Cond.after_iff.mpr (eq_i res_at (Term.int_eval (1)) rfl), trivial⟩ ⟨hq.1, hq.2.1, (hq.2.2.sift fun y hy => Or.inr (N y hy)).mono (by decide) (by decide)⟩⟩
theorem main_1_1 : Claimed_1_1 := own_comes fun _ _ _ _ _ _ h hF => ⟨h.1, hF⟩
theorem main_1_2 : Claimed_1_2 := own_comes fun _ _ _ _ _ _ h hF => ⟨h.2.1, hF⟩
end Jvm.Pilot.@@N@@
namespace Jvm.Pilot.@@N@@
open Jvm Jvm.ClassFile Sem Op Lib Jvm.Free Jvm.Stand Jvm.Pilot.@@N@@.Jvm.D
/-! MADE BY PROGRAM (witnessworld.py) out of the Statement's table words and the real class files: 10 classes; the members and pool entries that the words name. The judged class is class 1, her method 2. -/
namespace start1
open Jvm.ClassFile
def u (s : String) : CpInfo := .utf8 (stringToUtf16 s)
/-- a pool by its gaps: so many unusable entries, then the entry; so many at the end -/
def gap : Nat → List CpInfo → List CpInfo
  | 0, r => r
  | n + 1, r => .unusable :: gap n r
def poolList (es : List (Nat × CpInfo)) (last : Nat) : List CpInfo := es.foldr (fun e r => gap e.1 (e.2 :: r)) (gap last [])
def pool (es : List (Nat × CpInfo)) (last : Nat) : Array CpInfo := ⟨poolList es last⟩
def fileOf (pool : Array CpInfo) (this : Nat) (attrs : Array Attribute := #[]) (ms : Array MethodInfo := #[]) (fl : Nat := 33) (sup : Nat := 0) (ifs : Array Nat := #[]) (fds : Array FieldInfo := #[]) : ClassFile where
  minorVersion := 0
  majorVersion := 65
  constantPool := pool
  accessFlags := fl
  thisClass := this
  superClass := sup
  interfaces := ifs
  fields := fds
  methods := ms
  attributes := attrs
def plain (name : String) (sup : Option ClassId) : Class where
  name := name
  kind := .ordinary
  loader := none
  accessFlags := 33
  super := sup
  interfaces := #[]
  cf := none
  fields := #[]
  methods := #[]
  instanceTypes := #[]
  staticTypes := #[]
  resolved := #[]
  callSites := []
  init := .initialized
  statics := none
  mirror := none

def pool0 : Array CpInfo := pool [(5, u "<init>"), (0, u "()V"), (1, .class_ 10), (1, u "java/lang/Object")] 113

def k0c0 : Code := { maxStack := 0, maxLocals := 1, code := object_method_1_code, exceptionTable := #[], attributes := #[] }
def k0m0 : Method := { name := "<init>", desc := "()V", sig := { parameters := [], returnType := none }, accessFlags := 1, code := some k0c0 }
/-- java/lang/Object -/
def k0 : Class := { plain "java/lang/Object" none with
  accessFlags := 33
  interfaces := #[]
  cf := some (fileOf pool0 8 #[] #[{ accessFlags := 1, nameIndex := 5, descriptorIndex := 6, attributes := #[] }] 33 0 #[] #[])
  fields := #[]
  methods := #[k0m0]
  instanceTypes := #[]
  staticTypes := #[]
  resolved := Array.replicate 124 none
  statics := none }

def pool1 : Array CpInfo := pool [(2, .class_ 4), (1, u "java/lang/Object"), (0, u "<init>"), (0, u "()V"), (0, .integer 2127672349), (0, .integer 2781581891), (0, .integer 2654435769), (0, .class_ 11), (0, u "com/example/interpres/interpres/netsemantics/MarkingIndex"), (0, .methodref 10 13), (0, .nameAndType 5 14), (0, u "(I)V"), (0, .methodref 10 16), (0, .nameAndType 17 18), (0, u "hash"), (0, u "([II)I"), (0, .methodref 20 21), (0, .class_ 22), (0, .nameAndType 23 24), (0, u "com/example/interpres/interpres/netsemantics/MarkingIndexHashPinLaw"), (0, u "unmix"), (0, u "(I)I"), (2, u "law"), (0, u "(IIIII)Z")] 5

def k1m0 : Method := { name := "<init>", desc := "()V", sig := { parameters := [], returnType := none }, accessFlags := 1, code := none }
def k1c1 : Code := { maxStack := 4, maxLocals := 1, code := method_2_code, exceptionTable := #[], attributes := #[] }
def k1m1 : Method := { name := "unmix", desc := "(I)I", sig := { parameters := [.int], returnType := some .int }, accessFlags := 10, code := some k1c1 }
def k1c2 : Code := { maxStack := 3, maxLocals := 12, code := code, exceptionTable := #[], attributes := #[] }
def k1m2 : Method := { name := "law", desc := "(IIIII)Z", sig := { parameters := [.int, .int, .int, .int, .int], returnType := some .boolean }, accessFlags := 9, code := some k1c2 }
/-- com/example/interpres/interpres/netsemantics/MarkingIndexHashPinLaw -/
def k1 : Class := { plain "com/example/interpres/interpres/netsemantics/MarkingIndexHashPinLaw" (some 0) with
  accessFlags := 49
  interfaces := #[]
  cf := some (fileOf pool1 20 #[] #[{ accessFlags := 1, nameIndex := 5, descriptorIndex := 6, attributes := #[] }, { accessFlags := 10, nameIndex := 23, descriptorIndex := 24, attributes := #[] }, { accessFlags := 9, nameIndex := 27, descriptorIndex := 28, attributes := #[] }] 49 2 #[] #[])
  fields := #[]
  methods := #[k1m0, k1m1, k1m2]
  instanceTypes := #[]
  staticTypes := #[]
  resolved := Array.replicate 34 none
  statics := none }

def pool2 : Array CpInfo := pool [(3, .methodref 4 5), (0, .class_ 6), (0, .nameAndType 7 8), (0, u "java/lang/Object"), (0, u "<init>"), (0, u "()V"), (0, .fieldref 10 11), (0, .class_ 12), (0, .nameAndType 13 14), (0, u "com/example/interpres/interpres/netsemantics/MarkingIndex"), (0, u "slots"), (0, u "[I"), (0, .fieldref 10 16), (0, .nameAndType 17 18), (0, u "width"), (0, u "I"), (0, .long 64), (1, .long 2147483639), (1, .methodref 24 25), (0, .class_ 26), (0, .nameAndType 27 28), (0, u "java/lang/Math"), (0, u "min"), (0, u "(JJ)J"), (0, .fieldref 10 30), (0, .nameAndType 31 14), (0, u "markings"), (2, u "size"), (8, u "hash"), (0, u "([II)I"), (28, .integer 2654435769), (0, .integer 2246822507), (0, .integer 3266489909), (0, u "MAX_ARRAY_LENGTH"), (2, u "MAX_SLOTS"), (0, u "MULTIPLIER"), (0, u "(I)V")] 12

def k2c0 : Code := { maxStack := 5, maxLocals := 2, code := prog_50_method_1_code, exceptionTable := #[], attributes := #[] }
def k2m0 : Method := { name := "<init>", desc := "(I)V", sig := { parameters := [.int], returnType := none }, accessFlags := 0, code := some k2c0 }
def k2c1 : Code := { maxStack := 4, maxLocals := 5, code := prog_50_method_7_code, exceptionTable := #[], attributes := #[] }
def k2m1 : Method := { name := "hash", desc := "([II)I", sig := { parameters := [(.array .int), .int], returnType := some .int }, accessFlags := 0, code := some k2c1 }
/-- com/example/interpres/interpres/netsemantics/MarkingIndex -/
def k2 : Class := { plain "com/example/interpres/interpres/netsemantics/MarkingIndex" (some 0) with
  accessFlags := 32
  interfaces := #[]
  cf := some (fileOf pool2 10 #[] #[{ accessFlags := 0, nameIndex := 7, descriptorIndex := 81, attributes := #[] }, { accessFlags := 0, nameIndex := 43, descriptorIndex := 44, attributes := #[] }] 32 4 #[] #[{ accessFlags := 26, nameIndex := 76, descriptorIndex := 18, attributes := #[] }, { accessFlags := 26, nameIndex := 79, descriptorIndex := 18, attributes := #[] }, { accessFlags := 26, nameIndex := 80, descriptorIndex := 18, attributes := #[] }, { accessFlags := 18, nameIndex := 17, descriptorIndex := 18, attributes := #[] }, { accessFlags := 2, nameIndex := 31, descriptorIndex := 14, attributes := #[] }, { accessFlags := 2, nameIndex := 34, descriptorIndex := 18, attributes := #[] }, { accessFlags := 2, nameIndex := 13, descriptorIndex := 14, attributes := #[] }])
  fields := #[{ name := "MAX_ARRAY_LENGTH", type := .int, accessFlags := 26, slot := 0, constantValue := 0 }, { name := "MAX_SLOTS", type := .int, accessFlags := 26, slot := 1, constantValue := 0 }, { name := "MULTIPLIER", type := .int, accessFlags := 26, slot := 2, constantValue := 0 }, { name := "width", type := .int, accessFlags := 18, slot := 0, constantValue := 0 }, { name := "markings", type := (.array .int), accessFlags := 2, slot := 1, constantValue := 0 }, { name := "size", type := .int, accessFlags := 2, slot := 2, constantValue := 0 }, { name := "slots", type := (.array .int), accessFlags := 2, slot := 3, constantValue := 0 }]
  methods := #[k2m0, k2m1]
  instanceTypes := #[.int, (.array .int), .int, (.array .int)]
  staticTypes := #[.int, .int, .int]
  resolved := Array.replicate 94 none
  statics := none }

def pool3 : Array CpInfo := pool [(1, .class_ 2), (0, u "java/lang/Math"), (1, .class_ 6), (1, u "java/lang/Object"), (0, u "<init>"), (0, u "()V"), (89, .class_ 100), (1, u "java/lang/Math$RandomNumberGeneratorHolder"), (20, u "(JJ)J"), (50, u "negativeZeroFloatBits"), (0, u "J"), (2, u "negativeZeroDoubleBits"), (24, u "min"), (43, u "$assertionsDisabled"), (0, u "Z"), (91, u "twoToTheDoubleScaleDown"), (0, u "D"), (4, u "twoToTheDoubleScaleUp"), (9, u "E"), (3, u "PI"), (2, u "TAU"), (2, u "DEGREES_TO_RADIANS"), (0, u "RADIANS_TO_DEGREES")] 94

def k3m0 : Method := { name := "<init>", desc := "()V", sig := { parameters := [], returnType := none }, accessFlags := 2, code := none }
def k3c1 : Code := { maxStack := 4, maxLocals := 4, code := jdk_29_method_70_code, exceptionTable := #[], attributes := #[] }
def k3m1 : Method := { name := "min", desc := "(JJ)J", sig := { parameters := [.long, .long], returnType := some .long }, accessFlags := 9, code := some k3c1 }
/-- java/lang/Math -/
def k3 : Class := { plain "java/lang/Math" (some 0) with
  accessFlags := 49
  interfaces := #[]
  cf := some (fileOf pool3 1 #[.nestMembers #[98]] #[{ accessFlags := 2, nameIndex := 7, descriptorIndex := 8, attributes := #[] }, { accessFlags := 9, nameIndex := 201, descriptorIndex := 121, attributes := #[] }] 49 4 #[] #[{ accessFlags := 25, nameIndex := 354, descriptorIndex := 339, attributes := #[] }, { accessFlags := 25, nameIndex := 358, descriptorIndex := 339, attributes := #[] }, { accessFlags := 25, nameIndex := 361, descriptorIndex := 339, attributes := #[] }, { accessFlags := 26, nameIndex := 364, descriptorIndex := 339, attributes := #[] }, { accessFlags := 26, nameIndex := 365, descriptorIndex := 339, attributes := #[] }, { accessFlags := 26, nameIndex := 172, descriptorIndex := 173, attributes := #[] }, { accessFlags := 26, nameIndex := 176, descriptorIndex := 173, attributes := #[] }, { accessFlags := 8, nameIndex := 344, descriptorIndex := 339, attributes := #[] }, { accessFlags := 8, nameIndex := 338, descriptorIndex := 339, attributes := #[] }, { accessFlags := 4120, nameIndex := 245, descriptorIndex := 246, attributes := #[] }])
  fields := #[{ name := "E", type := .double, accessFlags := 25, slot := 0, constantValue := 0 }, { name := "PI", type := .double, accessFlags := 25, slot := 1, constantValue := 0 }, { name := "TAU", type := .double, accessFlags := 25, slot := 2, constantValue := 0 }, { name := "DEGREES_TO_RADIANS", type := .double, accessFlags := 26, slot := 3, constantValue := 0 }, { name := "RADIANS_TO_DEGREES", type := .double, accessFlags := 26, slot := 4, constantValue := 0 }, { name := "negativeZeroFloatBits", type := .long, accessFlags := 26, slot := 5, constantValue := 0 }, { name := "negativeZeroDoubleBits", type := .long, accessFlags := 26, slot := 6, constantValue := 0 }, { name := "twoToTheDoubleScaleUp", type := .double, accessFlags := 8, slot := 7, constantValue := 0 }, { name := "twoToTheDoubleScaleDown", type := .double, accessFlags := 8, slot := 8, constantValue := 0 }, { name := "$assertionsDisabled", type := .boolean, accessFlags := 4120, slot := 9, constantValue := 0 }]
  methods := #[k3m0, k3m1]
  instanceTypes := #[]
  staticTypes := #[.double, .double, .double, .double, .double, .long, .long, .double, .double, .boolean]
  resolved := Array.replicate 460 none
  statics := none }

def pool4 : Array CpInfo := pool [(1, u "java/lang/Cloneable"), (0, .class_ 1), (0, u "java/lang/Object"), (0, .class_ 3)] 3

/-- java/lang/Cloneable -/
def k4 : Class := { plain "java/lang/Cloneable" (some 0) with
  accessFlags := 1537
  interfaces := #[]
  cf := some (fileOf pool4 2 #[] #[] 1537 4 #[] #[])
  fields := #[]
  methods := #[]
  instanceTypes := #[]
  staticTypes := #[]
  resolved := Array.replicate 8 none
  statics := none }

def pool5 : Array CpInfo := pool [(1, u "java/io/Serializable"), (0, .class_ 1), (0, u "java/lang/Object"), (0, .class_ 3)] 3

/-- java/io/Serializable -/
def k5 : Class := { plain "java/io/Serializable" (some 0) with
  accessFlags := 1537
  interfaces := #[]
  cf := some (fileOf pool5 2 #[] #[] 1537 4 #[] #[])
  fields := #[]
  methods := #[]
  instanceTypes := #[]
  staticTypes := #[]
  resolved := Array.replicate 8 none
  statics := none }

/-- the primitive byte -/
def k6 : Class := { plain "byte" none with kind := .primitive 'B', accessFlags := 0x411 }
/-- [B -/
def k7 : Class := { plain "[B" (some 0) with kind := .array 6 .byte, interfaces := #[4, 5], accessFlags := 1041 }

/-- the primitive int -/
def k8 : Class := { plain "int" none with kind := .primitive 'I', accessFlags := 0x411 }
/-- [I -/
def k9 : Class := { plain "[I" (some 0) with kind := .array 8 .int, interfaces := #[4, 5], accessFlags := 1041 }

def heap : Heap := #[]
def classes : Array Class := #[k0, k1, k2, k3, k4, k5, k6, k7, k8, k9]
def interned : List (Array UInt16 × Addr) := []
def slotsUsed : Nat := 0
def theMethod : MethodId := ⟨1, 2⟩
def args0 : Array Value := #[.int 49, .int 50, .int 4, .int 60, .int 7]
def aboutOver (below : List Frame) : State where
  vm := { classes := classes, interned := interned.toArray }
  heap := heap
  slotsUsed := slotsUsed
  threads := #[{ frames := .invoking theMethod args0 :: below }]
def below0 : List Frame := [.native { method := ⟨0, 0⟩, args := #[] }]
def about1 : State := aboutOver below0
def p0 : Program := .bare "" "" ""
def e0 : Env := launch0.env 0 0 0
theorem w_frames : about1.frames = Frame.invoking theMethod args0 :: below0 := rfl
set_option maxRecDepth 65536 in
theorem w_args : argsFit about1.vm theMethod args0 = true := by decide +kernel
set_option maxRecDepth 65536 in
theorem w_heap : heapFits about1 = true := by decide +kernel
set_option maxRecDepth 65536 in
theorem w_runnable : about1.curStatus? = some .runnable := by decide +kernel
set_option maxRecDepth 65536 in
theorem w_alone : about1.alone = true := by decide +kernel
set_option maxRecDepth 65536 in
theorem w_named : about1.methodNamed? x = some theMethod := by decide +kernel
set_option maxRecDepth 65536 in
theorem w_hears : about1.hears theMethod below0 = true := by decide +kernel
set_option maxRecDepth 65536 in
theorem w_ripe : about1.ripe theMethod args0 below0 = true := by decide +kernel
theorem w_running : about1.status = .running := rfl
set_option maxRecDepth 65536 in
theorem w_room : about1.hasRoom e0.platform room_1 = true :=
  launch0.hasRoom_least _ room_1 (by decide +kernel) (by decide +kernel) (by decide +kernel) (by decide +kernel) (by decide +kernel) (by decide +kernel)
theorem allAtoms_all (ts : List Jvm.Cond) (a : Array Jvm.Value) (st : Jvm.State) : (allAtoms ts).before a st = ts.all (fun c => c.before a st) := by
  induction ts with
  | nil => rfl
  | cons c t ih =>
    show (Jvm.Cond.and c (allAtoms t)).before a st = _
    rw [Jvm.Cond.before_and, ih, List.all_cons]
def words1 : List Jvm.Cond := Jvm.Cond.code x code maxLocals ret :: tables_1
/-- a 'code' word, met by the world's own term for the bytes: nothing is compared byte by byte -/
theorem code_word {y : MethodName} {bytes : ByteArray} {mx : Nat} {rt : Option FieldType} {a : Array Value} {s : State} {m : MethodId} {meth : Method} {c : Code} (h1 : s.methodNamed? y = some m) (h2 : s.vm.method? m = some meth) (h3 : meth.code = some c) (h4 : c.code = bytes)
    (h5 : (c.maxLocals == mx && c.exceptionTable.isEmpty && decide (c.maxStack ≤ mostOperands) && decide (meth.sig.returnType = rt) && !meth.locks && decide (parseMethodDescriptor y.desc = some meth.sig)) = true) : (Jvm.Cond.code y bytes mx rt).before a s = true := by
  simp only [Bool.and_eq_true, beq_iff_eq, Bool.not_eq_true', decide_eq_true_eq] at h5
  obtain ⟨⟨⟨⟨⟨g1, g2⟩, g3⟩, g4⟩, g5⟩, g6⟩ := h5
  simp [Cond.before, Cond.holds, Cond.value, h1, h2, h3, h4, g1, g2, g3, g4, g5, g6]
def isCode : Jvm.Cond → Bool
  | .code _ _ _ _ => true
  | _ => false
theorem all_split {L : List Jvm.Cond} {P : Jvm.Cond → Bool} (h1 : L.all (fun c => isCode c || P c) = true) (h2 : ∀ c ∈ L.filter isCode, P c = true) : L.all P = true := by
  refine List.all_eq_true.mpr fun c hc => ?_
  have h := List.all_eq_true.mp h1 c hc
  rcases Bool.eq_false_or_eq_true (isCode c) with hi | hi
  · exact h2 c (List.mem_filter.mpr ⟨hc, hi⟩)
  · simpa [hi] using h
set_option maxRecDepth 65536 in
theorem w_c0 : (Jvm.Cond.code x code maxLocals ret).before args0 about1 = true := code_word (m := ⟨1, 2⟩) (meth := k1m2) (c := k1c2) (by decide +kernel) rfl rfl rfl (by decide +kernel)
set_option maxRecDepth 65536 in
theorem w_c1 : (Jvm.Cond.code ({ cls := "com/example/interpres/interpres/netsemantics/MarkingIndex", name := "<init>", desc := "(I)V" } : Jvm.MethodName) prog_50_method_1_code (2 : Nat) (Option.none : Option Jvm.ClassFile.FieldType)).before args0 about1 = true := code_word (m := ⟨2, 0⟩) (meth := k2m0) (c := k2c0) (by decide +kernel) rfl rfl rfl (by decide +kernel)
set_option maxRecDepth 65536 in
theorem w_c2 : (Jvm.Cond.code ({ cls := "java/lang/Object", name := "<init>", desc := "()V" } : Jvm.MethodName) object_method_1_code (1 : Nat) (Option.none : Option Jvm.ClassFile.FieldType)).before args0 about1 = true := code_word (m := ⟨0, 0⟩) (meth := k0m0) (c := k0c0) (by decide +kernel) rfl rfl rfl (by decide +kernel)
set_option maxRecDepth 65536 in
theorem w_c3 : (Jvm.Cond.code ({ cls := "java/lang/Math", name := "min", desc := "(JJ)J" } : Jvm.MethodName) jdk_29_method_70_code (4 : Nat) (Option.some Jvm.ClassFile.FieldType.long)).before args0 about1 = true := code_word (m := ⟨3, 1⟩) (meth := k3m1) (c := k3c1) (by decide +kernel) rfl rfl rfl (by decide +kernel)
set_option maxRecDepth 65536 in
theorem w_c4 : (Jvm.Cond.code ({ cls := "com/example/interpres/interpres/netsemantics/MarkingIndex", name := "hash", desc := "([II)I" } : Jvm.MethodName) prog_50_method_7_code (5 : Nat) (Option.some Jvm.ClassFile.FieldType.int)).before args0 about1 = true := code_word (m := ⟨2, 1⟩) (meth := k2m1) (c := k2c1) (by decide +kernel) rfl rfl rfl (by decide +kernel)
set_option maxRecDepth 65536 in
theorem w_c5 : (Jvm.Cond.code ({ cls := "com/example/interpres/interpres/netsemantics/MarkingIndexHashPinLaw", name := "unmix", desc := "(I)I" } : Jvm.MethodName) method_2_code (1 : Nat) (Option.some Jvm.ClassFile.FieldType.int)).before args0 about1 = true := code_word (m := ⟨1, 1⟩) (meth := k1m1) (c := k1c1) (by decide +kernel) rfl rfl rfl (by decide +kernel)
def codes1 : List Jvm.Cond := [Jvm.Cond.code x code maxLocals ret, Jvm.Cond.code ({ cls := "com/example/interpres/interpres/netsemantics/MarkingIndex", name := "<init>", desc := "(I)V" } : Jvm.MethodName) prog_50_method_1_code (2 : Nat) (Option.none : Option Jvm.ClassFile.FieldType), Jvm.Cond.code ({ cls := "java/lang/Object", name := "<init>", desc := "()V" } : Jvm.MethodName) object_method_1_code (1 : Nat) (Option.none : Option Jvm.ClassFile.FieldType), Jvm.Cond.code ({ cls := "java/lang/Math", name := "min", desc := "(JJ)J" } : Jvm.MethodName) jdk_29_method_70_code (4 : Nat) (Option.some Jvm.ClassFile.FieldType.long), Jvm.Cond.code ({ cls := "com/example/interpres/interpres/netsemantics/MarkingIndex", name := "hash", desc := "([II)I" } : Jvm.MethodName) prog_50_method_7_code (5 : Nat) (Option.some Jvm.ClassFile.FieldType.int), Jvm.Cond.code ({ cls := "com/example/interpres/interpres/netsemantics/MarkingIndexHashPinLaw", name := "unmix", desc := "(I)I" } : Jvm.MethodName) method_2_code (1 : Nat) (Option.some Jvm.ClassFile.FieldType.int)]
set_option maxRecDepth 65536 in
theorem codes_eq : words1.filter isCode = codes1 := rfl
theorem w_codes : ∀ c ∈ words1.filter isCode, c.before args0 about1 = true := by
  rw [codes_eq]
  intro c hc
  simp only [codes1, List.mem_cons, List.not_mem_nil, or_false] at hc
  rcases hc with rfl | rfl | rfl | rfl | rfl | rfl
  · exact w_c0
  · exact w_c1
  · exact w_c2
  · exact w_c3
  · exact w_c4
  · exact w_c5
set_option maxRecDepth 65536 in
theorem w_t1 : (words1.take 24).all (fun c => isCode c || c.before args0 about1) = true := by decide +kernel
set_option maxRecDepth 65536 in
theorem w_t2 : (words1.drop 24).all (fun c => isCode c || c.before args0 about1) = true := by decide +kernel
theorem w_tables : (allAtoms (Jvm.Cond.code x code maxLocals ret :: tables_1)).before args0 about1 = true := by
  rw [allAtoms_all]
  show words1.all (fun c => c.before args0 about1) = true
  refine all_split ?_ w_codes
  rw [← List.take_append_drop 24 words1, List.all_append, w_t1, w_t2]
  rfl
set_option maxRecDepth 65536 in
theorem w_case : (Jvm.Cond.and given_1 narrow_1).before args0 about1 = true := by decide +kernel
theorem w_applies : (headSpec (Jvm.Cond.code x code maxLocals ret :: tables_1) room_1).applies x e0.platform about1 = true :=
  (Spec.applies_iff w_frames).mpr ⟨w_running, w_runnable, w_alone, w_named, w_hears, w_ripe, w_room, w_tables⟩
theorem atStart : AtStart classFile x code maxLocals ret World_1 tables_1 room_1 Calls_1 rest_1 Pre_1 launch0 p0 e0 about1 theMethod args0 below0 :=
  ⟨lists_1, trivial, launch0.admits_env _ _ _, launch0.least_env, fairChoices_fair.cas, fairChoices_fair.clock, w_frames, w_args, w_heap, w_applies, trivial, trivial, w_case⟩
end start1
theorem witness_1 : WitnessClaimed_1 := ⟨start1.p0, start1.e0, start1.about1, start1.theMethod, start1.args0, start1.below0, start1.atStart⟩
end Jvm.Pilot.@@N@@
