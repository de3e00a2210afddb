import JvmDerived
import JvmDerived.Pilot.@@N@@Statement
import JvmDerived.Pilot.@@N@@Code
set_option linter.unusedVariables false
set_option linter.unusedSimpArgs false
namespace Jvm.Pilot.@@N@@
open Jvm Jvm.ClassFile Sem Op Lib Jvm.Free Jvm.Stand Jvm.LawKit Jvm.RoadKit Bundle Jvm.Pilot.@@N@@.Jvm.D
section OwnKit
variable {p : Program} {l : Launch} {e : Env} {R : Room} {s : State} {m : MethodId} {args : Array Value} {below : List Frame} {meth : Method} {c : Code} {T : State} {locs : List Loc} {cells slots : Nat} {Z : State} {a0 : Array Value} {h h' : Heap}
/-- what a body leaves: its value, the heap, the places written -/
abbrev own_P := Option Value → Heap → List Loc → Prop
/-- from here the run comes back, and leaves P -/
def own_Go (p : Program) (e : Env) (below : List Frame) (s : State) (P : own_P) (kc ks : Nat) (A : State) : Prop :=
  ∃ s₂ o, Steps p.tables e below A s₂ ∧ s₂.status = .running ∧ Ended s₂ below o ∧ ∃ v L, o = Outcome.returned v ∧ P v s₂.heap L ∧ FrameEnd s o s₂ L kc ks
theorem own_st {P : own_P} {kc ks : Nat} {A B : State} (hs : ∀ t, Steps p.tables e below B t → Steps p.tables e below A t) (k : own_Go p e below s P kc ks B) : own_Go p e below s P kc ks A := by
  obtain ⟨s₂, o, h1, h2⟩ := k
  exact ⟨s₂, o, hs _ h1, h2⟩
theorem own_stT {P : own_P} {kc ks : Nat} {A B : State} (hs : Steps p.tables e below A B) (k : own_Go p e below s P kc ks B) : own_Go p e below s P kc ks A := by
  obtain ⟨s₂, o, h1, h2⟩ := k
  exact ⟨s₂, o, hs.trans h1, h2⟩
theorem own_end (X : Stand p l e R s m args below meth c T locs cells slots) (hx : p.tables.exec = Jvm.exec) (hlk : meth.locks = false) {P : own_P} {kc ks : Nat} {pc : Nat} {Ls : Array Slot} {w : Value} {t : FieldType} {i : Instr} {rest : List Value} (hret : meth.sig.returnType = some t) (hn : narrow t w = w)
    (hi : (i = .ireturn ∧ (t = .int ∨ t = .boolean ∨ t = .byte ∨ t = .char ∨ t = .short) ∧ ∃ z, w = .int z) ∨ (i = .lreturn ∧ t = .long ∧ ∃ z, w = .long z) ∨ (i = .dreturn ∧ t = .double ∧ ∃ z, w = .double z) ∨ (i = .freturn ∧ t = .float ∧ ∃ z, w = .float z) ∨ (i = .areturn ∧ t.isReference = true ∧ w.isRef = true))
    (hd : decode c.code pc = .ok (i, 1)) (hP : P (some w) T.heap locs) (hc : cells ≤ kc) (hs : slots ≤ ks) : own_Go p e below s P kc ks (T.setTop (mkF m pc Ls (w :: rest))) := by
  obtain ⟨fs, hr, hrun, hended, hW, hsame⟩ := X.leave (v := some w) (fun h => by rw [hret] at h; cases h) hlk
  exact ⟨_, _, retOut X hx hret hn hi hd hr, hrun, hended, _, _, rfl, hP, ⟨_, rfl⟩, hW, hsame.mono hc hs⟩
theorem own_endI (X : Stand p l e R s m args below meth c T locs cells slots) (hx : p.tables.exec = Jvm.exec) (hlk : meth.locks = false) {P : own_P} {kc ks : Nat} {pc : Nat} {Ls : Array Slot} {z : Int32} {rest : List Value} (hret : meth.sig.returnType = some .int)
    (hd : decode c.code pc = .ok (.ireturn, 1)) (hP : P (some (.int z)) T.heap locs) (hc : cells ≤ kc) (hs : slots ≤ ks) : own_Go p e below s P kc ks (T.setTop (mkF m pc Ls (.int z :: rest))) :=
  own_end X hx hlk hret rfl (Or.inl ⟨rfl, Or.inl rfl, z, rfl⟩) hd hP hc hs
theorem own_endJ (X : Stand p l e R s m args below meth c T locs cells slots) (hx : p.tables.exec = Jvm.exec) (hlk : meth.locks = false) {P : own_P} {kc ks : Nat} {pc : Nat} {Ls : Array Slot} {z : Int64} {rest : List Value} (hret : meth.sig.returnType = some .long)
    (hd : decode c.code pc = .ok (.lreturn, 1)) (hP : P (some (.long z)) T.heap locs) (hc : cells ≤ kc) (hs : slots ≤ ks) : own_Go p e below s P kc ks (T.setTop (mkF m pc Ls (.long z :: rest))) :=
  own_end X hx hlk hret rfl (Or.inr (Or.inl ⟨rfl, rfl, z, rfl⟩)) hd hP hc hs
theorem own_endA (X : Stand p l e R s m args below meth c T locs cells slots) (hx : p.tables.exec = Jvm.exec) (hlk : meth.locks = false) {P : own_P} {kc ks : Nat} {pc : Nat} {Ls : Array Slot} {a : Addr} {t : FieldType} {rest : List Value} (hret : meth.sig.returnType = some t) (ht : t.isReference = true) (hn : narrow t (.ref a) = .ref a)
    (hd : decode c.code pc = .ok (.areturn, 1)) (hP : P (some (.ref a)) T.heap locs) (hc : cells ≤ kc) (hs : slots ≤ ks) : own_Go p e below s P kc ks (T.setTop (mkF m pc Ls (.ref a :: rest))) :=
  own_end X hx hlk hret hn (Or.inr (Or.inr (Or.inr (Or.inr ⟨rfl, ht, rfl⟩)))) hd hP hc hs
/-- a boolean, byte, char, short comes back narrowed -/
theorem own_endN (X : Stand p l e R s m args below meth c T locs cells slots) (hx : p.tables.exec = Jvm.exec) (hlk : meth.locks = false) {P : own_P} {kc ks : Nat} {pc : Nat} {Ls : Array Slot} {z : Int32} {t : FieldType} {rest : List Value} (hret : meth.sig.returnType = some t) (ht : t = .boolean ∨ t = .byte ∨ t = .char ∨ t = .short)
    (hd : decode c.code pc = .ok (.ireturn, 1)) {w : Int32} (hz : nar t z = w) (hP : P (some (.int w)) T.heap locs) (hc : cells ≤ kc) (hs : slots ≤ ks) : own_Go p e below s P kc ks (T.setTop (mkF m pc Ls (.int z :: rest))) := by
  subst hz
  obtain ⟨fs, hr, hrun, hended, hW, hsame⟩ := X.leave (v := some (.int (nar t z))) (fun h => by rw [hret] at h; cases h) hlk
  exact ⟨_, _, retN X hx hret ht hd hr, hrun, hended, _, _, rfl, hP, ⟨_, rfl⟩, hW, hsame.mono hc hs⟩
theorem own_endV (X : Stand p l e R s m args below meth c T locs cells slots) (hx : p.tables.exec = Jvm.exec) (hlk : meth.locks = false) {P : own_P} {kc ks : Nat} {pc : Nat} {Ls : Array Slot} (hret : meth.sig.returnType = none)
    (hd : decode c.code pc = .ok (.return_, 1)) (hP : P none T.heap locs) (hc : cells ≤ kc) (hs : slots ≤ ks) : own_Go p e below s P kc ks (T.setTop (mkF m pc Ls [])) := by
  obtain ⟨fs, hr, hrun, hended, hW, hsame⟩ := X.leave (v := none) (fun _ => rfl) hlk
  exact ⟨_, _, X.returnOut hx hret hd hr, hrun, hended, _, _, rfl, hP, ⟨_, rfl⟩, hW, hsame.mono hc hs⟩
/-- a body's contract -/
def own_Met (l : Launch) (Z : State) (y : MethodName) (bytes : ByteArray) (maxL : Nat) (ret : Option FieldType) (rm : Room) (as : Array Value) (h : Heap) (Q : own_P) : Prop :=
  ∀ ws : List Jvm.Cond, MetFree l y (head1 (Jvm.Cond.code y bytes maxL ret :: ws) rm) (fun a U => a = as ∧ Z.Warmed39 U.vm ∧ U.heap = h) (fun _ _ _ _ _ => True) (fun _ U o U' => ∃ v L, o = .returned v ∧ Q v U'.heap L ∧ FrameEnd U o U' L rm.cells rm.slots)
theorem own_in {y : MethodName} {bytes : ByteArray} {maxL : Nat} {ret : Option FieldType} {rm : Room} {as : Array Value} {Q : own_P} (pn : plainFor y = true)
    (body : ∀ (p : Program) (e : Env) (s : State) (m : MethodId) (below : List Frame) (meth : Method) (c : Code) (s₁ : State), p.tables.exec = Jvm.exec → c.code = bytes → c.maxLocals = maxL → s.vm.findClass y.cls = some m.cls → meth.name = y.name → meth.locks = false → meth.sig.returnType = ret → Z.Warmed39 s.vm →
      Stand p l e rm s m as below meth c s₁ [] 0 0 → s₁.heap = h → own_Go p e below s Q rm.cells rm.slots (s₁.setTop (entryFrame m as maxL))) : own_Met l Z y bytes maxL ret rm as h Q := by
  intro ws
  refine MetFree.of_bodySF pn hisR ?_
  intro p e s m args below meth c s₁ Bd hml hP hK
  obtain ⟨rfl, hZ, hh⟩ := hP
  exact body p e s m below meth c s₁ Bd.exec Bd.bytes hml (findClass_of_methodNamed Bd.named) (name_of_methodNamed Bd.named Bd.method).1 (BodyLoose.notSynchronized Bd) Bd.returns hZ (Stand.of_body Bd) (by rw [← hh, Bd.state]; rfl)
theorem own_ef {tbp : Program} {P : own_P} {kc ks : Nat} {g g' : JFrame} (q : g = g') (k : own_Go tbp e below s P kc ks (T.setTop g')) : own_Go tbp e below s P kc ks (T.setTop g) := q ▸ k
/-- a static call by its contract -/
theorem own_cS (X : Stand p l e R s m args below meth c T locs cells slots) (hx : p.tables.exec = Jvm.exec) {ml : Nat} (hml : c.maxLocals = ml) (hZ : Z.Warmed39 s.vm) {own : String} {index : Nat} {y : MethodName} {bytes : ByteArray} {maxL : Nat} {ret : Option FieldType} {rm : Room} {as : Array Value} {Q : own_P}
    (hown : s.vm.findClass own = some m.cls) (w1 : (Jvm.Cond.methodLink own index y).before a0 Z = true) (w2 : (Jvm.Cond.static y).before a0 Z = true) (w3 : (Jvm.Cond.initialized y.cls).before a0 Z = true) (w4 : (Jvm.Cond.code y bytes maxL ret).before a0 Z = true)
    (hy : y.cls ≠ "java/lang/invoke/MethodHandle" ∧ y.cls ≠ "java/lang/invoke/VarHandle") (hM : own_Met l Z y bytes maxL ret rm as h Q) (eT : T.heap = h) (hf : rm.frames + 1 ≤ R.frames) {W : Nat} (hl : W + (maxL + 11) + rm.locals ≤ R.locals)
    {g : JFrame} (hg : g.method = m) (hsize : g.locals.size = ml) {ps : List FieldType} {r : Option FieldType} (hpd : parseMethodDescriptor y.desc = some ⟨ps, r⟩) {argsL rest : List Value} (hlen : argsL.length = ps.length) (has : argsL.toArray = as) (hst : g.stack = argsL.reverse ++ rest)
    (hW : 2 * g.monitorRoom + (rest.map fun v => v.category).sum ≤ W) (hd : decode c.code g.pc = .ok (.invokestatic index, 3)) (hc : cells + rm.cells ≤ R.cells) (hs : slots + rm.slots ≤ R.slots) {P : own_P} {kc ks : Nat}
    (k : ∀ T' L v, Stand p l e R s m args below meth c T' (locs ++ L) (cells + rm.cells) (slots + rm.slots) → Q v T'.heap L → own_Go p e below s P kc ks (T'.setTop { g with pc := g.pc + 3, stack := v.toList ++ rest })) : own_Go p e below s P kc ks (T.setTop g) := by
  obtain ⟨v, vm, ⟨T', L', k', n'⟩, -, X', ⟨L, hQ, hl', hk', hn'⟩, st⟩ := Jvm.LawKit.callS X hx (y := y) hown (mvT hZ w1) (mvT hZ w2) (mvT hZ w3) (mvT hZ w4) hy (backOf (W := W) (hM []) hZ w4 w3 hf hl) hg (hsize.trans hml.symm) (argsL := argsL) (rest := rest) (lenOf hpd hlen) hst hW hd (fun _ _ => ⟨has, eT, hc, hs⟩)
  dsimp only [Pt.U, Pt.locs, Pt.cells, Pt.slots] at X' hl' hk' hn' st hQ
  subst hl' hk' hn'
  exact own_st st (k T' L v X' hQ)
/-- an instance method by its contract -/
theorem own_cV (X : Stand p l e R s m args below meth c T locs cells slots) (hx : p.tables.exec = Jvm.exec) {ml : Nat} (hml : c.maxLocals = ml) (hZ : Z.Warmed39 s.vm) {own C : String} {index : Nat} {y : MethodName} {bytes : ByteArray} {maxL : Nat} {ret : Option FieldType} {rm : Room} {as : Array Value} {Q : own_P}
    (hown : s.vm.findClass own = some m.cls) (w1 : (Jvm.Cond.methodLink own index y).before a0 Z = true) (w2 : (Jvm.Cond.declares y).before a0 Z = true) (w5 : (Jvm.Cond.selects C y y).before a0 Z = true) (w6 : (Jvm.Cond.instanceMethod y).before a0 Z = true) (w3 : (Jvm.Cond.initialized y.cls).before a0 Z = true) (w4 : (Jvm.Cond.code y bytes maxL ret).before a0 Z = true)
    (hy : y.cls ≠ "java/lang/invoke/MethodHandle" ∧ y.cls ≠ "java/lang/invoke/VarHandle") (hM : own_Met l Z y bytes maxL ret rm as h Q) (eT : T.heap = h) {b : Addr} (EX : Exa Z h b C) (hf : rm.frames + 1 ≤ R.frames) {W : Nat} (hl : W + (maxL + 11) + rm.locals ≤ R.locals)
    {g : JFrame} (hg : g.method = m) (hsize : g.locals.size = ml) {ps : List FieldType} {r : Option FieldType} (hpd : parseMethodDescriptor y.desc = some ⟨ps, r⟩) {argsL rest : List Value} (hlen : argsL.length = ps.length) (has : (.ref b :: argsL).toArray = as) (hst : g.stack = argsL.reverse ++ .ref b :: rest)
    (hW : 2 * g.monitorRoom + (rest.map fun v => v.category).sum ≤ W) (hd : decode c.code g.pc = .ok (.invokevirtual index, 3)) (hc : cells + rm.cells ≤ R.cells) (hs : slots + rm.slots ≤ R.slots) {P : own_P} {kc ks : Nat}
    (k : ∀ T' L v, Stand p l e R s m args below meth c T' (locs ++ L) (cells + rm.cells) (slots + rm.slots) → Q v T'.heap L → own_Go p e below s P kc ks (T'.setTop { g with pc := g.pc + 3, stack := v.toList ++ rest })) : own_Go p e below s P kc ks (T.setTop g) := by
  obtain ⟨cq, kq, qa, qb, qc⟩ := isOf hZ eT EX
  obtain ⟨v, vm, ⟨T', L', k', n'⟩, -, X', ⟨L, hQ, hl', hk', hn'⟩, st⟩ := X.virtualBack hx (y := y) (z := y) hown (mvT hZ w1) (mvT hZ w2) (notFace_of_selects (args := #[]) (mvT hZ w5)) (mvT hZ w5) (mvT hZ w6) hy (backOf (W := W) (hM []) hZ w4 w3 hf hl) qa qc hg (hsize.trans hml.symm) (Steps.refl _) (argsL := argsL) (rest := rest) (lenOf hpd hlen) hst hW hd (fun _ _ => ⟨has, eT, hc, hs⟩)
  dsimp only [Pt.U, Pt.locs, Pt.cells, Pt.slots] at X' hl' hk' hn' st hQ
  subst hl' hk' hn'
  exact own_stT st (k T' L v X' hQ)
/-- a private method by its contract -/
theorem own_cP (X : Stand p l e R s m args below meth c T locs cells slots) (hx : p.tables.exec = Jvm.exec) {ml : Nat} (hml : c.maxLocals = ml) (hZ : Z.Warmed39 s.vm) {own C : String} {index nn : Nat} {y : MethodName} {bytes : ByteArray} {maxL : Nat} {ret : Option FieldType} {rm : Room} {as : Array Value} {Q : own_P}
    (hown : s.vm.findClass own = some m.cls) (w1 : (Jvm.Cond.methodLink own index y).before a0 Z = true) (w2 : (Jvm.Cond.instanceMethod y).before a0 Z = true) (w5 : (Jvm.Cond.privateMethod y).before a0 Z = true) (wi : (Jvm.Cond.instantiable y.cls nn).before a0 Z = true) (w3 : (Jvm.Cond.initialized y.cls).before a0 Z = true) (w4 : (Jvm.Cond.code y bytes maxL ret).before a0 Z = true)
    (hy : y.cls ≠ "java/lang/invoke/MethodHandle" ∧ y.cls ≠ "java/lang/invoke/VarHandle") (hM : own_Met l Z y bytes maxL ret rm as h Q) (eT : T.heap = h) {b : Addr} (EX : Exa Z h b C) (hf : rm.frames + 1 ≤ R.frames) {W : Nat} (hl : W + (maxL + 11) + rm.locals ≤ R.locals)
    {g : JFrame} (hg : g.method = m) (hsize : g.locals.size = ml) {ps : List FieldType} {r : Option FieldType} (hpd : parseMethodDescriptor y.desc = some ⟨ps, r⟩) {argsL rest : List Value} (hlen : argsL.length = ps.length) (has : (.ref b :: argsL).toArray = as) (hst : g.stack = argsL.reverse ++ .ref b :: rest)
    (hW : 2 * g.monitorRoom + (rest.map fun v => v.category).sum ≤ W) (hd : decode c.code g.pc = .ok (.invokevirtual index, 3)) (hc : cells + rm.cells ≤ R.cells) (hs : slots + rm.slots ≤ R.slots) {P : own_P} {kc ks : Nat}
    (k : ∀ T' L v, Stand p l e R s m args below meth c T' (locs ++ L) (cells + rm.cells) (slots + rm.slots) → Q v T'.heap L → own_Go p e below s P kc ks (T'.setTop { g with pc := g.pc + 3, stack := v.toList ++ rest })) : own_Go p e below s P kc ks (T.setTop g) := by
  obtain ⟨cq, q1, q2⟩ := EX.cell
  have hpriv : s.PrivateAt y := Cond.privateMethod_at (mvP hZ w5 (args := #[]))
  have hsel : (Jvm.Cond.selects y.cls y y).before args s = true := by
    have wi' : (Jvm.Cond.instantiable y.cls nn).before args s = true := mvT hZ wi
    obtain ⟨c2, k2, f1, f2, f3, f4, -⟩ := Cond.instantiable_spec wi'
    exact selects_self_of_private f1 f2 (Bool.or_eq_false_iff.mp f4).1 hpriv (mvT hZ w2) hy
  obtain ⟨v, vm, ⟨T', L', k', n'⟩, -, X', ⟨L, hQ, hl', hk', hn'⟩, st⟩ := X.privateBack hx (y := y) hown (mvT hZ w1) (mvT hZ w2) hsel hpriv (mvT hZ w4) hy (backOf (W := W) (hM []) hZ w4 w3 hf hl) hg (hsize.trans hml.symm) (Steps.refl _) (a := b) (by rw [eT]; exact q1) q2 (argsL := argsL) (rest := rest) (lenOf hpd hlen) hst hW hd (fun _ _ => ⟨has, eT, hc, hs⟩)
  dsimp only [Pt.U, Pt.locs, Pt.cells, Pt.slots] at X' hl' hk' hn' st hQ
  subst hl' hk' hn'
  exact own_stT st (k T' L v X' hQ)
/-- a constructor by its contract -/
theorem own_cN (X : Stand p l e R s m args below meth c T locs cells slots) (hx : p.tables.exec = Jvm.exec) {ml : Nat} (hml : c.maxLocals = ml) (hZ : Z.Warmed39 s.vm) {own : String} {index : Nat} {y : MethodName} {bytes : ByteArray} {maxL : Nat} {rm : Room} {as : Array Value} {Q : own_P} (hy1 : y.name = "<init>")
    (hown : s.vm.findClass own = some m.cls) (w1 : (Jvm.Cond.methodLink own index y).before a0 Z = true) (w2 : (Jvm.Cond.instanceMethod y).before a0 Z = true) (w3 : (Jvm.Cond.initialized y.cls).before a0 Z = true) (w4 : (Jvm.Cond.code y bytes maxL none).before a0 Z = true)
    (hy : y.cls ≠ "java/lang/invoke/MethodHandle" ∧ y.cls ≠ "java/lang/invoke/VarHandle") (hM : own_Met l Z y bytes maxL none rm as h Q) (eT : T.heap = h) (hf : rm.frames + 1 ≤ R.frames) {W : Nat} (hl : W + (maxL + 11) + rm.locals ≤ R.locals)
    {g : JFrame} (hg : g.method = m) (hsize : g.locals.size = ml) {ps : List FieldType} {r : Option FieldType} (hpd : parseMethodDescriptor y.desc = some ⟨ps, r⟩) {b : Addr} {argsL rest : List Value} (hlen : argsL.length = ps.length) (has : (.ref b :: argsL).toArray = as) (hst : g.stack = argsL.reverse ++ .ref b :: rest)
    (hW : 2 * g.monitorRoom + (rest.map fun v => v.category).sum ≤ W) (hd : decode c.code g.pc = .ok (.invokespecial index, 3)) (hc : cells + rm.cells ≤ R.cells) (hs : slots + rm.slots ≤ R.slots) {P : own_P} {kc ks : Nat}
    (k : ∀ T' L v, Stand p l e R s m args below meth c T' (locs ++ L) (cells + rm.cells) (slots + rm.slots) → Q v T'.heap L → own_Go p e below s P kc ks (T'.setTop { g with pc := g.pc + 3, stack := v.toList ++ rest })) : own_Go p e below s P kc ks (T.setTop g) := by
  obtain ⟨v, vm, ⟨T', L', k', n'⟩, -, X', ⟨L, hQ, hl', hk', hn'⟩, st⟩ := X.specialBack hx (y := y) hy1 hown (mvT hZ w1) (mvT hZ w2) (mvT hZ w4) hy (backOf (W := W) (hM []) hZ w4 w3 hf hl) hg (hsize.trans hml.symm) (Steps.refl _) (a := b) (argsL := argsL) (rest := rest) (lenOf hpd hlen) hst hW hd (fun _ _ => ⟨has, eT, hc, hs⟩)
  dsimp only [Pt.U, Pt.locs, Pt.cells, Pt.slots] at X' hl' hk' hn' st hQ
  subst hl' hk' hn'
  exact own_stT st (k T' L v X' hQ)
/-- an array of n places: place j holds f j -/
def own_Av (Z : State) (h : Heap) (a : Addr) (ty : FieldType) (n : Nat) (f : Nat → Value) : Prop :=
  n < 2147483648 ∧ ∃ cl : Cell, Arr Z h a cl ty ∧ cl.slots.size = n ∧ ∀ j, j < n → cl.slots[j]? = some (f j)
theorem own_Av.lt {a : Addr} {ty : FieldType} {n : Nat} {f : Nat → Value} (V : own_Av Z h a ty n f) : a < h.size := by
  obtain ⟨-, cl, A, -⟩ := V
  exact A.lt
theorem own_Av.ext {a : Addr} {ty : FieldType} {n : Nat} {f : Nat → Value} (V : own_Av Z h a ty n f) (E : Ext h h') : own_Av Z h' a ty n f := by
  obtain ⟨hn, cl, A, r⟩ := V
  exact ⟨hn, cl, A.ext E, r⟩
theorem own_Av.other {a b : Addr} {ty : FieldType} {n sl : Nat} {f : Nat → Value} {v : Value} (V : own_Av Z h b ty n f) (W : Wr h h' a sl v) (q : b ≠ a) : own_Av Z h' b ty n f := by
  obtain ⟨hn, cl, A, r⟩ := V
  exact ⟨hn, cl, A.other W q, r⟩
theorem own_Av.keep {a : Addr} {ty : FieldType} {n : Nat} {f : Nat → Value} {ws : List Addr} (V : own_Av Z h a ty n f) (K : Keep h h' ws) (q : a ∉ ws) : own_Av Z h' a ty n f := by
  obtain ⟨hn, cl, A, r⟩ := V
  exact ⟨hn, cl, ⟨K.2.1 a cl A.1 q, A.2⟩, r⟩
theorem own_Av.congr {a : Addr} {ty : FieldType} {n : Nat} {f g : Nat → Value} (V : own_Av Z h a ty n f) (q : ∀ j, j < n → f j = g j) : own_Av Z h a ty n g := by
  obtain ⟨hn, cl, A, r1, r2⟩ := V
  exact ⟨hn, cl, A, r1, fun j hj => by rw [r2 j hj, q j hj]⟩
theorem own_Av.same {a : Addr} {ty : FieldType} {n i : Nat} {f : Nat → Value} {v : Value} (V : own_Av Z h a ty n f) (W : Wr h h' a i v) : own_Av Z h' a ty n (fun j => if j = i then v else f j) := by
  obtain ⟨hn, cl, A, r1, r2⟩ := V
  refine ⟨hn, cl.setSlot i v, A.same W, by rw [sz_set, r1], fun j hj => ?_⟩
  have hj' : j < cl.slots.size := by rw [r1]; exact hj
  by_cases q : j = i
  · subst q
    simp [Cell.setSlot, hj']
  · have q' : ¬ i = j := fun u => q u.symm
    simp only [Cell.setSlot, if_neg q]
    rw [Array.getElem?_setIfInBounds_ne q']
    exact r2 j hj
theorem own_Av.new {a : Addr} {ty : FieldType} {k : ClassId} {z : Int32} {n : Nat} (A : Arr Z h a (newA k ty z) ty) (hz : z.toInt = n) : own_Av Z h a ty n (fun _ => defaultValue ty) := by
  have h1 : z.toNatClampNeg = n := by
    show z.toInt.toNat = n
    rw [hz]; rfl
  have h2 : z.toInt < 2147483648 := Int32.toInt_lt z
  refine ⟨by omega, _, A, by rw [sz_new, h1], fun j hj => ?_⟩
  simp [newA, h1, hj]
theorem own_ix {j : Int32} {i n : Nat} (hj : j.toInt = i) (hi : i < n) : ¬ (j < 0 ∨ n ≤ j.toNatClampNeg) ∧ j.toNatClampNeg = i := by
  have h1 : j.toNatClampNeg = i := by
    show j.toInt.toNat = i
    rw [hj]; rfl
  refine ⟨?_, h1⟩
  rintro (q | q)
  · rw [Int32.lt_iff_toInt_lt, hj] at q
    have : (0 : Int32).toInt = 0 := by decide
    omega
  · omega
theorem own_ldI (X : Stand p l e R s m args below meth c T locs cells slots) (hx : p.tables.exec = Jvm.exec) (hZ : Z.Warmed39 s.vm) (eT : T.heap = h) {a : Addr} {n : Nat} {f : Nat → Value} (V : own_Av Z h a .int n f) {j : Int32} {i : Nat} (hj : j.toInt = i) (hi : i < n) {v : Value} (hv : f i = v)
    {g : JFrame} (hg : g.method = m) {rest : List Value} (hs : g.stack = .int j :: .ref a :: rest) (hd : decode c.code g.pc = .ok (.iaload, 1)) :
    ∀ t, Steps p.tables e below (T.setTop { g with pc := g.pc + 1, stack := v :: rest }) t → Steps p.tables e below (T.setTop g) t := by
  obtain ⟨-, cl, A, r1, r2⟩ := V
  obtain ⟨q1, q2⟩ := own_ix hj (n := cl.slots.size) (by rw [r1]; exact hi)
  exact X.iaload hx (by rw [eT]; exact A.1) (State.isArrayOf_alike hZ.alike A.2.1) A.2.2 q1 (by rw [q2, r2 i hi, hv]) hg hs hd
theorem own_ldB (X : Stand p l e R s m args below meth c T locs cells slots) (hx : p.tables.exec = Jvm.exec) (hZ : Z.Warmed39 s.vm) (eT : T.heap = h) {a : Addr} {n : Nat} {f : Nat → Value} (V : own_Av Z h a .byte n f) {j : Int32} {i : Nat} (hj : j.toInt = i) (hi : i < n) {v : Value} (hv : f i = v)
    {g : JFrame} (hg : g.method = m) {rest : List Value} (hs : g.stack = .int j :: .ref a :: rest) (hd : decode c.code g.pc = .ok (.baload, 1)) :
    ∀ t, Steps p.tables e below (T.setTop { g with pc := g.pc + 1, stack := v :: rest }) t → Steps p.tables e below (T.setTop g) t := by
  obtain ⟨-, cl, A, r1, r2⟩ := V
  obtain ⟨q1, q2⟩ := own_ix hj (n := cl.slots.size) (by rw [r1]; exact hi)
  exact X.baloadBytes hx (by rw [eT]; exact A.1) (State.isArrayOf_alike hZ.alike A.2.1) A.2.2 q1 (by rw [q2, r2 i hi, hv]) hg hs hd
theorem own_ldJ (X : Stand p l e R s m args below meth c T locs cells slots) (hx : p.tables.exec = Jvm.exec) (hZ : Z.Warmed39 s.vm) (eT : T.heap = h) {a : Addr} {n : Nat} {f : Nat → Value} (V : own_Av Z h a .long n f) {j : Int32} {i : Nat} (hj : j.toInt = i) (hi : i < n) {v : Value} (hv : f i = v)
    {g : JFrame} (hg : g.method = m) {rest : List Value} (hs : g.stack = .int j :: .ref a :: rest) (hd : decode c.code g.pc = .ok (.laload, 1)) :
    ∀ t, Steps p.tables e below (T.setTop { g with pc := g.pc + 1, stack := v :: rest }) t → Steps p.tables e below (T.setTop g) t := by
  obtain ⟨-, cl, A, r1, r2⟩ := V
  obtain ⟨q1, q2⟩ := own_ix hj (n := cl.slots.size) (by rw [r1]; exact hi)
  exact X.laload hx (by rw [eT]; exact A.1) (State.isArrayOf_alike hZ.alike A.2.1) A.2.2 q1 (by rw [q2, r2 i hi, hv]) hg hs hd
theorem own_len (X : Stand p l e R s m args below meth c T locs cells slots) (hx : p.tables.exec = Jvm.exec) (hZ : Z.Warmed39 s.vm) (eT : T.heap = h) {a : Addr} {ty : FieldType} {n : Nat} {f : Nat → Value} (V : own_Av Z h a ty n f) {z : Int32} (hz : z.toInt = n)
    {g : JFrame} (hg : g.method = m) {rest : List Value} (hs : g.stack = .ref a :: rest) (hd : decode c.code g.pc = .ok (.arraylength, 1)) :
    ∀ t, Steps p.tables e below (T.setTop { g with pc := g.pc + 1, stack := .int z :: rest }) t → Steps p.tables e below (T.setTop g) t := by
  obtain ⟨hn, cl, A, r1, r2⟩ := V
  have q : cl.slots.size.toInt32 = z := by
    rw [r1]
    apply Int32.toInt_inj.mp
    rw [hz]
    show (Int32.ofNat n).toInt = n
    rw [Int32.toInt_ofNat_of_lt (by omega)]
  intro t ht
  refine X.arraylength hx (by rw [eT]; exact A.1) (State.isArrayOf_alike hZ.alike A.2.1) hg hs hd t ?_
  rw [q]
  exact ht
theorem own_stI (X : Stand p l e R s m args below meth c T locs cells slots) (hx : p.tables.exec = Jvm.exec) (hZ : Z.Warmed39 s.vm) (eT : T.heap = h) {a : Addr} {n : Nat} {f : Nat → Int32} (V : own_Av Z h a .int n (fun t => .int (f t))) {j x : Int32} {i : Nat} (hj : j.toInt = i) (hi : i < n)
    {g : JFrame} (hg : g.method = m) {rest : List Value} (hs : g.stack = .int x :: .int j :: .ref a :: rest) (hd : decode c.code g.pc = .ok (.iastore, 1)) :
    ∃ T' h', Stand p l e R s m args below meth c T' (locs ++ [⟨a, i⟩]) cells slots ∧ T'.heap = h' ∧ Wr h h' a i (.int x) ∧ own_Av Z h' a .int n (fun t => .int (if t = i then x else f t)) ∧
      ∀ t, Steps p.tables e below (T'.setTop { g with pc := g.pc + 1, stack := rest }) t → Steps p.tables e below (T.setTop g) t := by
  have V' := V
  obtain ⟨-, cl, A, r1, r2⟩ := V
  obtain ⟨q1, q2⟩ := own_ix hj (n := cl.slots.size) (by rw [r1]; exact hi)
  obtain ⟨T', h', X', e', W', st⟩ := stI X hx hZ eT A q1 hg hs hd
  rw [q2] at X' W'
  exact ⟨T', h', X', e', W', (V'.same W').congr (fun j _ => by by_cases q : j = i <;> simp [q]), st⟩
theorem own_stB (X : Stand p l e R s m args below meth c T locs cells slots) (hx : p.tables.exec = Jvm.exec) (hZ : Z.Warmed39 s.vm) (eT : T.heap = h) {a : Addr} {n : Nat} {f : Nat → Int32} (V : own_Av Z h a .byte n (fun t => .int (f t))) {j x : Int32} {i : Nat} (hj : j.toInt = i) (hi : i < n)
    {g : JFrame} (hg : g.method = m) {rest : List Value} (hs : g.stack = .int x :: .int j :: .ref a :: rest) (hd : decode c.code g.pc = .ok (.bastore, 1)) :
    ∃ T' h', Stand p l e R s m args below meth c T' (locs ++ [⟨a, i⟩]) cells slots ∧ T'.heap = h' ∧ Wr h h' a i (.int (nar .byte x)) ∧ own_Av Z h' a .byte n (fun t => .int (if t = i then (nar .byte x) else f t)) ∧
      ∀ t, Steps p.tables e below (T'.setTop { g with pc := g.pc + 1, stack := rest }) t → Steps p.tables e below (T.setTop g) t := by
  have V' := V
  obtain ⟨-, cl, A, r1, r2⟩ := V
  obtain ⟨q1, q2⟩ := own_ix hj (n := cl.slots.size) (by rw [r1]; exact hi)
  obtain ⟨T', h', X', e', W', st⟩ := stB X hx hZ eT A q1 hg hs hd
  rw [q2] at X' W'
  exact ⟨T', h', X', e', W', (V'.same W').congr (fun j _ => by by_cases q : j = i <;> simp [q]), st⟩
theorem own_stJ (X : Stand p l e R s m args below meth c T locs cells slots) (hx : p.tables.exec = Jvm.exec) (hZ : Z.Warmed39 s.vm) (eT : T.heap = h) {a : Addr} {n : Nat} {f : Nat → Int64} (V : own_Av Z h a .long n (fun t => .long (f t))) {j : Int32} {x : Int64} {i : Nat} (hj : j.toInt = i) (hi : i < n)
    {g : JFrame} (hg : g.method = m) {rest : List Value} (hs : g.stack = .long x :: .int j :: .ref a :: rest) (hd : decode c.code g.pc = .ok (.lastore, 1)) :
    ∃ T' h', Stand p l e R s m args below meth c T' (locs ++ [⟨a, i⟩]) cells slots ∧ T'.heap = h' ∧ Wr h h' a i (.long x) ∧ own_Av Z h' a .long n (fun t => .long (if t = i then x else f t)) ∧
      ∀ t, Steps p.tables e below (T'.setTop { g with pc := g.pc + 1, stack := rest }) t → Steps p.tables e below (T.setTop g) t := by
  have V' := V
  obtain ⟨-, cl, A, r1, r2⟩ := V
  obtain ⟨q1, q2⟩ := own_ix hj (n := cl.slots.size) (by rw [r1]; exact hi)
  obtain ⟨T', h', X', e', W', st⟩ := stJ X hx hZ eT A q1 hg hs hd
  rw [q2] at X' W'
  exact ⟨T', h', X', e', W', (V'.same W').congr (fun j _ => by by_cases q : j = i <;> simp [q]), st⟩
/-- newarray: b is the fresh array's address -/
theorem own_newA (X : Stand p l e R s m args below meth c T locs cells slots) (hx : p.tables.exec = Jvm.exec) (hZ : Z.Warmed39 s.vm) {aty : ArrayType} (w : (Jvm.Cond.arrayClass (newarray.typeOf aty)).before a0 Z = true) (eT : T.heap = h) {g : JFrame} (hg : g.method = m) (hd : decode c.code g.pc = .ok (.newarray aty, 2)) {z : Int32} {rest : List Value} (hs : g.stack = .int z :: rest)
    {n cap : Nat} (hz : z.toInt = n) (hcap : n ≤ cap) (hb : cap * 8 ≤ 536870912) (hc : cells + 1 ≤ R.cells) (hl : slots + cap ≤ R.slots) :
    ∃ T' h' b, b = h.size ∧ Stand p l e R s m args below meth c T' locs (cells + 1) (slots + cap) ∧ T'.heap = h' ∧ Ext h h' ∧ own_Av Z h' b (newarray.typeOf aty) n (fun _ => defaultValue (newarray.typeOf aty)) ∧
      ∀ t, Steps p.tables e below (T'.setTop { g with pc := g.pc + 2, stack := .ref b :: rest }) t → Steps p.tables e below (T.setTop g) t := by
  have h1 : z.toNatClampNeg = n := by
    show z.toInt.toNat = n
    rw [hz]; rfl
  have h2 : ¬ z < 0 := by
    rw [Int32.lt_iff_toInt_lt, hz]
    have : (0 : Int32).toInt = 0 := by decide
    omega
  obtain ⟨T', h', cA, X', e', E', A', st⟩ := newP X hx hZ w eT hg hd hs h2 (cap := cap) (by omega) hb hc hl
  exact ⟨T', h', h.size, rfl, X', e', E', own_Av.new A' hz, st⟩
theorem own_nil {k : Nat} {L : List Loc} (N : Fr k L) {L' : List Loc} (q : L' = []) : Fr k (L ++ L') := by
  subst q
  rw [List.append_nil]
  exact N
/-- the walk's end, carried to the sheet -/
theorem own_cast {P : own_P} {kc ks : Nat} {A B : State} (q : A = B) (k : own_Go p e below s P kc ks B) : own_Go p e below s P kc ks A := q ▸ k
theorem own_bm {x : Int} (h1 : -2147483648 ≤ x) (h2 : x < 2147483648) : x.bmod (2 ^ 32) = x := by
  rw [Int.bmod_def]
  split <;> omega
theorem own_addN {a b : Int32} {i k : Nat} (ha : a.toInt = i) (hb : b.toInt = k) (hlt : i + k < 2147483648) : (a + b).toInt = ((i + k : Nat) : Int) := by
  rw [Int32.toInt_add, ha, hb, own_bm (by omega) (by omega)]
  omega
theorem own_add {a b : Int32} (h1 : -2147483648 ≤ a.toInt + b.toInt) (h2 : a.toInt + b.toInt < 2147483648) : (a + b).toInt = a.toInt + b.toInt := by
  rw [Int32.toInt_add, own_bm h1 h2]
theorem own_sub {a b : Int32} (h1 : -2147483648 ≤ a.toInt - b.toInt) (h2 : a.toInt - b.toInt < 2147483648) : (a - b).toInt = a.toInt - b.toInt := by
  rw [Int32.toInt_sub, own_bm h1 h2]
theorem own_mask (z K : Int32) {k : Nat} (hK : K.toInt = k) : ∃ i : Nat, (z &&& K).toInt = i ∧ i ≤ k := by
  have hk : K.toBitVec.toInt = k := hK
  have h1 : K.toBitVec.toNat = k := by
    rw [BitVec.toInt_eq_toNat_cond] at hk
    have := K.toBitVec.isLt
    split at hk <;> omega
  have h2 : 2 * K.toBitVec.toNat < 2 ^ 32 := by
    rw [BitVec.toInt_eq_toNat_cond] at hk
    have := K.toBitVec.isLt
    split at hk <;> omega
  have h3 : (z &&& K).toBitVec.toNat ≤ k := by
    show (z.toBitVec &&& K.toBitVec).toNat ≤ k
    rw [BitVec.toNat_and, ← h1]
    exact Nat.and_le_right
  refine ⟨(z &&& K).toBitVec.toNat, ?_, h3⟩
  show (z &&& K).toBitVec.toInt = _
  rw [BitVec.toInt_eq_toNat_cond, if_pos (by omega)]
theorem own_lt32 {a b : Int32} : a < b ↔ a.toInt < b.toInt := Int32.lt_iff_toInt_lt
theorem own_rem {a b : Int32} (ha : 0 ≤ a.toInt) (hb : 0 < b.toInt) : (a % b).toInt = a.toInt % b.toInt := by
  rw [Int32.toInt_mod]
  exact Int.tmod_eq_emod_of_nonneg ha
end OwnKit
def own_dg (z : Int32) : Prop := 48 ≤ z.toInt ∧ z.toInt ≤ 57
theorem own_d0_0 : decode method_3_code 0 = .ok (.iload_n 0, 1) := by decide +kernel
theorem own_d0_1 : decode method_3_code 1 = .ok (.iload_n 1, 1) := by decide +kernel
theorem own_d0_2 : decode method_3_code 2 = .ok (.if_icmp .lt 8, 3) := by decide +kernel
theorem own_d0_5 : decode method_3_code 5 = .ok (.iload_n 0, 1) := by decide +kernel
theorem own_d0_6 : decode method_3_code 6 = .ok (.iload_n 2, 1) := by decide +kernel
theorem own_d0_7 : decode method_3_code 7 = .ok (.if_icmp .lt 5, 3) := by decide +kernel
theorem own_d0_10 : decode method_3_code 10 = .ok (.iconst 1, 1) := by decide +kernel
theorem own_d0_11 : decode method_3_code 11 = .ok (.ireturn, 1) := by decide +kernel
theorem own_d0_12 : decode method_3_code 12 = .ok (.iload_n 3, 1) := by decide +kernel
theorem own_d0_13 : decode method_3_code 13 = .ok (.bipush 48, 2) := by decide +kernel
theorem own_d0_15 : decode method_3_code 15 = .ok (.if_icmp .lt 13, 3) := by decide +kernel
theorem own_d0_18 : decode method_3_code 18 = .ok (.iload_n 3, 1) := by decide +kernel
theorem own_d0_19 : decode method_3_code 19 = .ok (.bipush 57, 2) := by decide +kernel
theorem own_d0_21 : decode method_3_code 21 = .ok (.if_icmp .gt 7, 3) := by decide +kernel
theorem own_d0_24 : decode method_3_code 24 = .ok (.iconst 1, 1) := by decide +kernel
theorem own_d0_25 : decode method_3_code 25 = .ok (.goto 4, 3) := by decide +kernel
theorem own_d0_28 : decode method_3_code 28 = .ok (.iconst 0, 1) := by decide +kernel
theorem own_d0_29 : decode method_3_code 29 = .ok (.ireturn, 1) := by decide +kernel
theorem own_pn0 : plainFor (⟨"com/example/refset_loom/refsetloom/rf2/BytesIsDigitsPinLaw", "ok", "(IIIB)Z"⟩ : MethodName) = true := by first | exact plainFor_of_name (show plainName "com/example/refset_loom/refsetloom/rf2/BytesIsDigitsPinLaw" = true by first | (simp [plainName, overriddenIn]; done) | decide +kernel) | decide +kernel
theorem own_ef0 (m : MethodId) (x0 : Int32) (x1 : Int32) (x2 : Int32) (x3 : Int32) : entryFrame m #[(.int x0), (.int x1), (.int x2), (.int x3)] 4 = mkF m 0 #[.val (.int x0), .val (.int x1), .val (.int x2), .val (.int x3)] [] := by first | (simp [entryFrame, mkF, argsToLocals, Value.category]; done) | rfl
set_option maxRecDepth 65536 in
set_option maxHeartbeats 40000000 in
theorem own_rm1 (l : Launch) (Z : State) (a0 : Array Value) (hw : ∀ d ∈ tables_1, d.before a0 Z = true) (p1 p2 p3 p4 : Int32) (h0 : Heap) (n0 : Nat) (Z0 : n0 ≤ h0.size)  :
    own_Met l Z (⟨"com/example/refset_loom/refsetloom/rf2/BytesIsDigitsPinLaw", "ok", "(IIIB)Z"⟩ : MethodName) method_3_code 4 (some .boolean) ({ frames := 0, cells := 0, slots := 0, locals := 0 } : Room) #[(.int p1), (.int p2), (.int p3), (.int p4)] h0 (fun v h' L => ((v = some (.int 1) ∧ ((p2).toInt ≤ (p1).toInt → (p1).toInt < (p3).toInt → own_dg p4)) ∨ (v = some (.int 0) ∧ ¬ ((p2).toInt ≤ (p1).toInt → (p1).toInt < (p3).toInt → own_dg p4))) ∧ h' = h0 ∧ L = []) := by
  refine own_in own_pn0 ?_
  intro p e s m below meth c s₁ hx hby hml hown hnm hlk hret hZ X0 e0
  have N0 := Fr.nil n0
  refine own_ef (own_ef0 m p1 p2 p3 p4) ?_
  show own_Go p e below s _ _ _ (s₁.setTop (mkF m 0 #[.val (.int p1), .val (.int p2), .val (.int p3), .val (.int p4)] []))
  refine own_st (fun _ kont => XS.iloadN X0.here hx rfl (hb hby own_d0_0) rfl kont) ?_
  show own_Go p e below s _ _ _ (s₁.setTop (mkF m 1 #[.val (.int p1), .val (.int p2), .val (.int p3), .val (.int p4)] [(.int p1)]))
  refine own_st (fun _ kont => XS.iloadN X0.here hx rfl (hb hby own_d0_1) rfl kont) ?_
  show own_Go p e below s _ _ _ (s₁.setTop (mkF m 2 #[.val (.int p1), .val (.int p2), .val (.int p3), .val (.int p4)] [(.int p2), (.int p1)]))
  rcases Classical.em (p1 < p2) with cc1 | cc1
  · have icc1 : ((p1).toInt : Int) < (p2).toInt := Int32.lt_iff_toInt_lt.mp cc1
    show own_Go p e below s _ _ _ (s₁.setTop (mkF m 2 #[.val (.int p1), .val (.int p2), .val (.int p3), .val (.int p4)] [(.int p2), (.int p1)]))
    refine own_st (fun _ kont => XS.icmpYes X0.here hx rfl (pc0 := 2) (pc' := 10) rfl (hb hby own_d0_2) rfl (tlt cc1).1 (by decide) (by decide) kont) ?_
    show own_Go p e below s _ _ _ (s₁.setTop (mkF m 10 #[.val (.int p1), .val (.int p2), .val (.int p3), .val (.int p4)] []))
    refine own_st (fun _ kont => XS.iconst X0.here hx rfl (hb hby own_d0_10) kont) ?_
    show own_Go p e below s _ _ _ (s₁.setTop (mkF m 11 #[.val (.int p1), .val (.int p2), .val (.int p3), .val (.int p4)] [(.int (1 : Int32))]))
    exact own_endN X0 hx hlk (t := .boolean) hret (by simp) (hb hby own_d0_11) (w := (1 : Int32)) (by decide) ⟨Or.inl ⟨rfl, fun u1 u2 => by unfold own_dg; omega⟩, e0, rfl⟩ (by decide) (by decide)
  · have icc1 : ¬ (((p1).toInt : Int) < (p2).toInt) := fun u => cc1 (Int32.lt_iff_toInt_lt.mpr u)
    show own_Go p e below s _ _ _ (s₁.setTop (mkF m 2 #[.val (.int p1), .val (.int p2), .val (.int p3), .val (.int p4)] [(.int p2), (.int p1)]))
    refine own_st (fun _ kont => XS.icmpNo X0.here hx rfl (hb hby own_d0_2) rfl (flt cc1).1 kont) ?_
    show own_Go p e below s _ _ _ (s₁.setTop (mkF m 5 #[.val (.int p1), .val (.int p2), .val (.int p3), .val (.int p4)] []))
    refine own_st (fun _ kont => XS.iloadN X0.here hx rfl (hb hby own_d0_5) rfl kont) ?_
    show own_Go p e below s _ _ _ (s₁.setTop (mkF m 6 #[.val (.int p1), .val (.int p2), .val (.int p3), .val (.int p4)] [(.int p1)]))
    refine own_st (fun _ kont => XS.iloadN X0.here hx rfl (hb hby own_d0_6) rfl kont) ?_
    show own_Go p e below s _ _ _ (s₁.setTop (mkF m 7 #[.val (.int p1), .val (.int p2), .val (.int p3), .val (.int p4)] [(.int p3), (.int p1)]))
    rcases Classical.em (p1 < p3) with cc2 | cc2
    · have icc2 : ((p1).toInt : Int) < (p3).toInt := Int32.lt_iff_toInt_lt.mp cc2
      show own_Go p e below s _ _ _ (s₁.setTop (mkF m 7 #[.val (.int p1), .val (.int p2), .val (.int p3), .val (.int p4)] [(.int p3), (.int p1)]))
      refine own_st (fun _ kont => XS.icmpYes X0.here hx rfl (pc0 := 7) (pc' := 12) rfl (hb hby own_d0_7) rfl (tlt cc2).1 (by decide) (by decide) kont) ?_
      show own_Go p e below s _ _ _ (s₁.setTop (mkF m 12 #[.val (.int p1), .val (.int p2), .val (.int p3), .val (.int p4)] []))
      refine own_st (fun _ kont => XS.iloadN X0.here hx rfl (hb hby own_d0_12) rfl kont) ?_
      show own_Go p e below s _ _ _ (s₁.setTop (mkF m 13 #[.val (.int p1), .val (.int p2), .val (.int p3), .val (.int p4)] [(.int p4)]))
      refine own_st (fun _ kont => XS.bipush X0.here hx rfl (hb hby own_d0_13) kont) ?_
      show own_Go p e below s _ _ _ (s₁.setTop (mkF m 15 #[.val (.int p1), .val (.int p2), .val (.int p3), .val (.int p4)] [(.int (48 : Int32)), (.int p4)]))
      rcases Classical.em (p4 < (48 : Int32)) with cc3 | cc3
      · have icc3 : ((p4).toInt : Int) < 48 := Int32.lt_iff_toInt_lt.mp cc3
        show own_Go p e below s _ _ _ (s₁.setTop (mkF m 15 #[.val (.int p1), .val (.int p2), .val (.int p3), .val (.int p4)] [(.int (48 : Int32)), (.int p4)]))
        refine own_st (fun _ kont => XS.icmpYes X0.here hx rfl (pc0 := 15) (pc' := 28) rfl (hb hby own_d0_15) rfl (tlt cc3).1 (by decide) (by decide) kont) ?_
        show own_Go p e below s _ _ _ (s₁.setTop (mkF m 28 #[.val (.int p1), .val (.int p2), .val (.int p3), .val (.int p4)] []))
        refine own_st (fun _ kont => XS.iconst X0.here hx rfl (hb hby own_d0_28) kont) ?_
        show own_Go p e below s _ _ _ (s₁.setTop (mkF m 29 #[.val (.int p1), .val (.int p2), .val (.int p3), .val (.int p4)] [(.int (0 : Int32))]))
        exact own_endN X0 hx hlk (t := .boolean) hret (by simp) (hb hby own_d0_29) (w := (0 : Int32)) (by decide) ⟨Or.inr ⟨rfl, fun u => by have u3 := u (by omega) (by omega); unfold own_dg at u3; omega⟩, e0, rfl⟩ (by decide) (by decide)
      · have icc3 : ¬ (((p4).toInt : Int) < 48) := fun u => cc3 (Int32.lt_iff_toInt_lt.mpr u)
        show own_Go p e below s _ _ _ (s₁.setTop (mkF m 15 #[.val (.int p1), .val (.int p2), .val (.int p3), .val (.int p4)] [(.int (48 : Int32)), (.int p4)]))
        refine own_st (fun _ kont => XS.icmpNo X0.here hx rfl (hb hby own_d0_15) rfl (flt cc3).1 kont) ?_
        show own_Go p e below s _ _ _ (s₁.setTop (mkF m 18 #[.val (.int p1), .val (.int p2), .val (.int p3), .val (.int p4)] []))
        refine own_st (fun _ kont => XS.iloadN X0.here hx rfl (hb hby own_d0_18) rfl kont) ?_
        show own_Go p e below s _ _ _ (s₁.setTop (mkF m 19 #[.val (.int p1), .val (.int p2), .val (.int p3), .val (.int p4)] [(.int p4)]))
        refine own_st (fun _ kont => XS.bipush X0.here hx rfl (hb hby own_d0_19) kont) ?_
        show own_Go p e below s _ _ _ (s₁.setTop (mkF m 21 #[.val (.int p1), .val (.int p2), .val (.int p3), .val (.int p4)] [(.int (57 : Int32)), (.int p4)]))
        rcases Classical.em ((57 : Int32) < p4) with cc4 | cc4
        · have icc4 : (57 : Int) < (p4).toInt := Int32.lt_iff_toInt_lt.mp cc4
          show own_Go p e below s _ _ _ (s₁.setTop (mkF m 21 #[.val (.int p1), .val (.int p2), .val (.int p3), .val (.int p4)] [(.int (57 : Int32)), (.int p4)]))
          refine own_st (fun _ kont => XS.icmpYes X0.here hx rfl (pc0 := 21) (pc' := 28) rfl (hb hby own_d0_21) rfl (tlt cc4).2.2.1 (by decide) (by decide) kont) ?_
          show own_Go p e below s _ _ _ (s₁.setTop (mkF m 28 #[.val (.int p1), .val (.int p2), .val (.int p3), .val (.int p4)] []))
          refine own_st (fun _ kont => XS.iconst X0.here hx rfl (hb hby own_d0_28) kont) ?_
          show own_Go p e below s _ _ _ (s₁.setTop (mkF m 29 #[.val (.int p1), .val (.int p2), .val (.int p3), .val (.int p4)] [(.int (0 : Int32))]))
          exact own_endN X0 hx hlk (t := .boolean) hret (by simp) (hb hby own_d0_29) (w := (0 : Int32)) (by decide) ⟨Or.inr ⟨rfl, fun u => by have u3 := u (by omega) (by omega); unfold own_dg at u3; omega⟩, e0, rfl⟩ (by decide) (by decide)
        · have icc4 : ¬ ((57 : Int) < (p4).toInt) := fun u => cc4 (Int32.lt_iff_toInt_lt.mpr u)
          show own_Go p e below s _ _ _ (s₁.setTop (mkF m 21 #[.val (.int p1), .val (.int p2), .val (.int p3), .val (.int p4)] [(.int (57 : Int32)), (.int p4)]))
          refine own_st (fun _ kont => XS.icmpNo X0.here hx rfl (hb hby own_d0_21) rfl (flt cc4).2.2.1 kont) ?_
          show own_Go p e below s _ _ _ (s₁.setTop (mkF m 24 #[.val (.int p1), .val (.int p2), .val (.int p3), .val (.int p4)] []))
          refine own_st (fun _ kont => XS.iconst X0.here hx rfl (hb hby own_d0_24) kont) ?_
          show own_Go p e below s _ _ _ (s₁.setTop (mkF m 25 #[.val (.int p1), .val (.int p2), .val (.int p3), .val (.int p4)] [(.int (1 : Int32))]))
          refine own_st (fun _ kont => XS.goto X0.here hx rfl (pc0 := 25) (pc' := 29) rfl (hb hby own_d0_25) (by decide) (by decide) kont) ?_
          show own_Go p e below s _ _ _ (s₁.setTop (mkF m 29 #[.val (.int p1), .val (.int p2), .val (.int p3), .val (.int p4)] [(.int (1 : Int32))]))
          exact own_endN X0 hx hlk (t := .boolean) hret (by simp) (hb hby own_d0_29) (w := (1 : Int32)) (by decide) ⟨Or.inl ⟨rfl, fun u1 u2 => by unfold own_dg; omega⟩, e0, rfl⟩ (by decide) (by decide)
    · have icc2 : ¬ (((p1).toInt : Int) < (p3).toInt) := fun u => cc2 (Int32.lt_iff_toInt_lt.mpr u)
      show own_Go p e below s _ _ _ (s₁.setTop (mkF m 7 #[.val (.int p1), .val (.int p2), .val (.int p3), .val (.int p4)] [(.int p3), (.int p1)]))
      refine own_st (fun _ kont => XS.icmpNo X0.here hx rfl (hb hby own_d0_7) rfl (flt cc2).1 kont) ?_
      show own_Go p e below s _ _ _ (s₁.setTop (mkF m 10 #[.val (.int p1), .val (.int p2), .val (.int p3), .val (.int p4)] []))
      refine own_st (fun _ kont => XS.iconst X0.here hx rfl (hb hby own_d0_10) kont) ?_
      show own_Go p e below s _ _ _ (s₁.setTop (mkF m 11 #[.val (.int p1), .val (.int p2), .val (.int p3), .val (.int p4)] [(.int (1 : Int32))]))
      exact own_endN X0 hx hlk (t := .boolean) hret (by simp) (hb hby own_d0_11) (w := (1 : Int32)) (by decide) ⟨Or.inl ⟨rfl, fun u1 u2 => by unfold own_dg; omega⟩, e0, rfl⟩ (by decide) (by decide)
theorem own_d1_0 : decode prog_125_method_5_code 0 = .ok (.iload_n 1, 1) := by decide +kernel
theorem own_d1_1 : decode prog_125_method_5_code 1 = .ok (.istore_n 3, 1) := by decide +kernel
theorem own_d1_2 : decode prog_125_method_5_code 2 = .ok (.iload_n 3, 1) := by decide +kernel
theorem own_d1_3 : decode prog_125_method_5_code 3 = .ok (.iload_n 2, 1) := by decide +kernel
theorem own_d1_4 : decode prog_125_method_5_code 4 = .ok (.if_icmp .ge 30, 3) := by decide +kernel
theorem own_d1_7 : decode prog_125_method_5_code 7 = .ok (.aload_n 0, 1) := by decide +kernel
theorem own_d1_8 : decode prog_125_method_5_code 8 = .ok (.iload_n 3, 1) := by decide +kernel
theorem own_d1_9 : decode prog_125_method_5_code 9 = .ok (.baload, 1) := by decide +kernel
theorem own_d1_10 : decode prog_125_method_5_code 10 = .ok (.istore 4, 2) := by decide +kernel
theorem own_d1_12 : decode prog_125_method_5_code 12 = .ok (.iload 4, 2) := by decide +kernel
theorem own_d1_14 : decode prog_125_method_5_code 14 = .ok (.bipush 48, 2) := by decide +kernel
theorem own_d1_16 : decode prog_125_method_5_code 16 = .ok (.if_icmp .lt 10, 3) := by decide +kernel
theorem own_d1_19 : decode prog_125_method_5_code 19 = .ok (.iload 4, 2) := by decide +kernel
theorem own_d1_21 : decode prog_125_method_5_code 21 = .ok (.bipush 57, 2) := by decide +kernel
theorem own_d1_23 : decode prog_125_method_5_code 23 = .ok (.if_icmp .le 5, 3) := by decide +kernel
theorem own_d1_26 : decode prog_125_method_5_code 26 = .ok (.iconst 0, 1) := by decide +kernel
theorem own_d1_27 : decode prog_125_method_5_code 27 = .ok (.ireturn, 1) := by decide +kernel
theorem own_d1_28 : decode prog_125_method_5_code 28 = .ok (.iinc 3 1, 3) := by decide +kernel
theorem own_d1_31 : decode prog_125_method_5_code 31 = .ok (.goto (-29), 3) := by decide +kernel
theorem own_d1_34 : decode prog_125_method_5_code 34 = .ok (.iconst 1, 1) := by decide +kernel
theorem own_d1_35 : decode prog_125_method_5_code 35 = .ok (.ireturn, 1) := by decide +kernel
theorem own_pn1 : plainFor (⟨"com/example/refset_loom/refsetloom/rf2/Bytes", "isDigits", "([BII)Z"⟩ : MethodName) = true := by first | exact plainFor_of_name (show plainName "com/example/refset_loom/refsetloom/rf2/Bytes" = true by first | (simp [plainName, overriddenIn]; done) | decide +kernel) | decide +kernel
theorem own_ef1 (m : MethodId) (x0 : Addr) (x1 : Int32) (x2 : Int32) : entryFrame m #[(.ref x0), (.int x1), (.int x2)] 5 = mkF m 0 #[.val (.ref x0), .val (.int x1), .val (.int x2), .unset, .unset] [] := by first | (simp [entryFrame, mkF, argsToLocals, Value.category]; done) | rfl
set_option maxRecDepth 65536 in
set_option maxHeartbeats 40000000 in
theorem own_rm2 (l : Launch) (Z : State) (a0 : Array Value) (hw : ∀ d ∈ tables_1, d.before a0 Z = true) (a1 : Addr) (p2 p3 : Int32) (f : Nat → Int32) (i j : Nat) (h0 : Heap) (n0 : Nat) (Z0 : n0 ≤ h0.size) (V : own_Av Z h0 a1 .byte 4 (fun t => .int (f t))) (hi : p2.toInt = i) (hj : p3.toInt = j) (hij : i ≤ j) (hj4 : j ≤ 4) :
    own_Met l Z (⟨"com/example/refset_loom/refsetloom/rf2/Bytes", "isDigits", "([BII)Z"⟩ : MethodName) prog_125_method_5_code 5 (some .boolean) ({ frames := 0, cells := 0, slots := 0, locals := 0 } : Room) #[(.ref a1), (.int p2), (.int p3)] h0 (fun v h' L => ((v = some (.int 1) ∧ (∀ u, i ≤ u → u < j → own_dg (f u))) ∨ (v = some (.int 0) ∧ ¬ (∀ u, i ≤ u → u < j → own_dg (f u)))) ∧ h' = h0 ∧ L = []) := by
  refine own_in own_pn1 ?_
  intro p e s m below meth c s₁ hx hby hml hown hnm hlk hret hZ X0 e0
  have N0 := Fr.nil n0
  refine own_ef (own_ef1 m a1 p2 p3) ?_
  show own_Go p e below s _ _ _ (s₁.setTop (mkF m 0 #[.val (.ref a1), .val (.int p2), .val (.int p3), .unset, .unset] []))
  refine own_st (fun _ kont => XS.iloadN X0.here hx rfl (hb hby own_d1_0) rfl kont) ?_
  show own_Go p e below s _ _ _ (s₁.setTop (mkF m 1 #[.val (.ref a1), .val (.int p2), .val (.int p3), .unset, .unset] [(.int p2)]))
  refine own_st (fun _ kont => XS.istoreN X0.here hx rfl (hb hby own_d1_1) rfl (l' := #[.val (.ref a1), .val (.int p2), .val (.int p3), .val (.int p2), .unset]) rfl kont) ?_
  show own_Go p e below s _ _ _ (s₁.setTop (mkF m 2 #[.val (.ref a1), .val (.int p2), .val (.int p3), .val (.int p2), .unset] []))
  have loop : ∀ (k t : Nat) (cur : Int32) (s4 : Slot), cur.toInt = (t : Int) → t + k = j → i ≤ t → (∀ u, i ≤ u → u < t → own_dg (f u)) → One s4 → own_Go p e below s (fun v h' L => ((v = some (.int 1) ∧ (∀ u, i ≤ u → u < j → own_dg (f u))) ∨ (v = some (.int 0) ∧ ¬ (∀ u, i ≤ u → u < j → own_dg (f u)))) ∧ h' = h0 ∧ L = []) ({ frames := 0, cells := 0, slots := 0, locals := 0 } : Room).cells ({ frames := 0, cells := 0, slots := 0, locals := 0 } : Room).slots (s₁.setTop (mkF m 2 #[.val (.ref a1), .val (.int p2), .val (.int p3), .val (.int cur), s4] [])) := by
    intro k
    induction k with
    | zero =>
      intro t cur s4 hc hk hit ha hs4
      show own_Go p e below s _ _ _ (s₁.setTop (mkF m 2 #[.val (.ref a1), .val (.int p2), .val (.int p3), .val (.int cur), s4] []))
      refine own_st (fun _ kont => XS.iloadN X0.here hx rfl (hb hby own_d1_2) rfl kont) ?_
      show own_Go p e below s _ _ _ (s₁.setTop (mkF m 3 #[.val (.ref a1), .val (.int p2), .val (.int p3), .val (.int cur), s4] [(.int cur)]))
      refine own_st (fun _ kont => XS.iloadN X0.here hx rfl (hb hby own_d1_3) rfl kont) ?_
      show own_Go p e below s _ _ _ (s₁.setTop (mkF m 4 #[.val (.ref a1), .val (.int p2), .val (.int p3), .val (.int cur), s4] [(.int p3), (.int cur)]))
      refine own_st (fun _ kont => XS.icmpYes X0.here hx rfl (pc0 := 4) (pc' := 34) rfl (hb hby own_d1_4) rfl (flt (fun u => by rw [own_lt32, hc, hj] at u; omega)).2.1 (by decide) (by decide) kont) ?_
      show own_Go p e below s _ _ _ (s₁.setTop (mkF m 34 #[.val (.ref a1), .val (.int p2), .val (.int p3), .val (.int cur), s4] []))
      refine own_st (fun _ kont => XS.iconst X0.here hx rfl (hb hby own_d1_34) kont) ?_
      show own_Go p e below s _ _ _ (s₁.setTop (mkF m 35 #[.val (.ref a1), .val (.int p2), .val (.int p3), .val (.int cur), s4] [(.int (1 : Int32))]))
      exact own_endN X0 hx hlk (t := .boolean) hret (by simp) (hb hby own_d1_35) (w := (1 : Int32)) (by decide) ⟨Or.inl ⟨rfl, fun u u1 u2 => ha u u1 (by omega)⟩, e0, rfl⟩ (by decide) (by decide)
    | succ k ih =>
      intro t cur s4 hc hk hit ha hs4
      show own_Go p e below s _ _ _ (s₁.setTop (mkF m 2 #[.val (.ref a1), .val (.int p2), .val (.int p3), .val (.int cur), s4] []))
      refine own_st (fun _ kont => XS.iloadN X0.here hx rfl (hb hby own_d1_2) rfl kont) ?_
      show own_Go p e below s _ _ _ (s₁.setTop (mkF m 3 #[.val (.ref a1), .val (.int p2), .val (.int p3), .val (.int cur), s4] [(.int cur)]))
      refine own_st (fun _ kont => XS.iloadN X0.here hx rfl (hb hby own_d1_3) rfl kont) ?_
      show own_Go p e below s _ _ _ (s₁.setTop (mkF m 4 #[.val (.ref a1), .val (.int p2), .val (.int p3), .val (.int cur), s4] [(.int p3), (.int cur)]))
      refine own_st (fun _ kont => XS.icmpNo X0.here hx rfl (hb hby own_d1_4) rfl (tlt (own_lt32.mpr (by rw [hc, hj]; omega))).2.1 kont) ?_
      show own_Go p e below s _ _ _ (s₁.setTop (mkF m 7 #[.val (.ref a1), .val (.int p2), .val (.int p3), .val (.int cur), s4] []))
      refine own_st (fun _ kont => XS.aloadN X0.here hx rfl (hb hby own_d1_7) rfl rfl kont) ?_
      show own_Go p e below s _ _ _ (s₁.setTop (mkF m 8 #[.val (.ref a1), .val (.int p2), .val (.int p3), .val (.int cur), s4] [(.ref a1)]))
      refine own_st (fun _ kont => XS.iloadN X0.here hx rfl (hb hby own_d1_8) rfl kont) ?_
      show own_Go p e below s _ _ _ (s₁.setTop (mkF m 9 #[.val (.ref a1), .val (.int p2), .val (.int p3), .val (.int cur), s4] [(.int cur), (.ref a1)]))
      refine own_st (own_ldB X0 hx hZ e0 V (i := t) hc (by omega) (v := (.int (f t))) rfl (g := (mkF m 9 #[.val (.ref a1), .val (.int p2), .val (.int p3), .val (.int cur), s4] [(.int cur), (.ref a1)])) rfl rfl (hb hby own_d1_9)) ?_
      show own_Go p e below s _ _ _ (s₁.setTop (mkF m 10 #[.val (.ref a1), .val (.int p2), .val (.int p3), .val (.int cur), s4] [(.int (f t))]))
      refine own_st (fun _ kont => XS.istore X0.here hx rfl (hb hby own_d1_10) rfl (l' := #[.val (.ref a1), .val (.int p2), .val (.int p3), .val (.int cur), .val (.int (f t))]) (XS.store1 (o := s4) rfl hs4 rfl) kont) ?_
      show own_Go p e below s _ _ _ (s₁.setTop (mkF m 12 #[.val (.ref a1), .val (.int p2), .val (.int p3), .val (.int cur), .val (.int (f t))] []))
      refine own_st (fun _ kont => XS.iload X0.here hx rfl (hb hby own_d1_12) rfl kont) ?_
      show own_Go p e below s _ _ _ (s₁.setTop (mkF m 14 #[.val (.ref a1), .val (.int p2), .val (.int p3), .val (.int cur), .val (.int (f t))] [(.int (f t))]))
      refine own_st (fun _ kont => XS.bipush X0.here hx rfl (hb hby own_d1_14) kont) ?_
      show own_Go p e below s _ _ _ (s₁.setTop (mkF m 16 #[.val (.ref a1), .val (.int p2), .val (.int p3), .val (.int cur), .val (.int (f t))] [(.int (48 : Int32)), (.int (f t))]))
      rcases Classical.em ((f t) < (48 : Int32)) with c1 | c1
      · have ic1 : (((f t)).toInt : Int) < 48 := Int32.lt_iff_toInt_lt.mp c1
        show own_Go p e below s _ _ _ (s₁.setTop (mkF m 16 #[.val (.ref a1), .val (.int p2), .val (.int p3), .val (.int cur), .val (.int (f t))] [(.int (48 : Int32)), (.int (f t))]))
        refine own_st (fun _ kont => XS.icmpYes X0.here hx rfl (pc0 := 16) (pc' := 26) rfl (hb hby own_d1_16) rfl (tlt c1).1 (by decide) (by decide) kont) ?_
        show own_Go p e below s _ _ _ (s₁.setTop (mkF m 26 #[.val (.ref a1), .val (.int p2), .val (.int p3), .val (.int cur), .val (.int (f t))] []))
        refine own_st (fun _ kont => XS.iconst X0.here hx rfl (hb hby own_d1_26) kont) ?_
        show own_Go p e below s _ _ _ (s₁.setTop (mkF m 27 #[.val (.ref a1), .val (.int p2), .val (.int p3), .val (.int cur), .val (.int (f t))] [(.int (0 : Int32))]))
        exact own_endN X0 hx hlk (t := .boolean) hret (by simp) (hb hby own_d1_27) (w := (0 : Int32)) (by decide) ⟨Or.inr ⟨rfl, fun u => by have u3 := u t hit (by omega); unfold own_dg at u3; omega⟩, e0, rfl⟩ (by decide) (by decide)
      · have ic1 : ¬ ((((f t)).toInt : Int) < 48) := fun u => c1 (Int32.lt_iff_toInt_lt.mpr u)
        show own_Go p e below s _ _ _ (s₁.setTop (mkF m 16 #[.val (.ref a1), .val (.int p2), .val (.int p3), .val (.int cur), .val (.int (f t))] [(.int (48 : Int32)), (.int (f t))]))
        refine own_st (fun _ kont => XS.icmpNo X0.here hx rfl (hb hby own_d1_16) rfl (flt c1).1 kont) ?_
        show own_Go p e below s _ _ _ (s₁.setTop (mkF m 19 #[.val (.ref a1), .val (.int p2), .val (.int p3), .val (.int cur), .val (.int (f t))] []))
        refine own_st (fun _ kont => XS.iload X0.here hx rfl (hb hby own_d1_19) rfl kont) ?_
        show own_Go p e below s _ _ _ (s₁.setTop (mkF m 21 #[.val (.ref a1), .val (.int p2), .val (.int p3), .val (.int cur), .val (.int (f t))] [(.int (f t))]))
        refine own_st (fun _ kont => XS.bipush X0.here hx rfl (hb hby own_d1_21) kont) ?_
        show own_Go p e below s _ _ _ (s₁.setTop (mkF m 23 #[.val (.ref a1), .val (.int p2), .val (.int p3), .val (.int cur), .val (.int (f t))] [(.int (57 : Int32)), (.int (f t))]))
        rcases Classical.em ((57 : Int32) < (f t)) with c2 | c2
        · have ic2 : (57 : Int) < ((f t)).toInt := Int32.lt_iff_toInt_lt.mp c2
          show own_Go p e below s _ _ _ (s₁.setTop (mkF m 23 #[.val (.ref a1), .val (.int p2), .val (.int p3), .val (.int cur), .val (.int (f t))] [(.int (57 : Int32)), (.int (f t))]))
          refine own_st (fun _ kont => XS.icmpNo X0.here hx rfl (hb hby own_d1_23) rfl (tlt c2).2.2.2 kont) ?_
          show own_Go p e below s _ _ _ (s₁.setTop (mkF m 26 #[.val (.ref a1), .val (.int p2), .val (.int p3), .val (.int cur), .val (.int (f t))] []))
          refine own_st (fun _ kont => XS.iconst X0.here hx rfl (hb hby own_d1_26) kont) ?_
          show own_Go p e below s _ _ _ (s₁.setTop (mkF m 27 #[.val (.ref a1), .val (.int p2), .val (.int p3), .val (.int cur), .val (.int (f t))] [(.int (0 : Int32))]))
          exact own_endN X0 hx hlk (t := .boolean) hret (by simp) (hb hby own_d1_27) (w := (0 : Int32)) (by decide) ⟨Or.inr ⟨rfl, fun u => by have u3 := u t hit (by omega); unfold own_dg at u3; omega⟩, e0, rfl⟩ (by decide) (by decide)
        · have ic2 : ¬ ((57 : Int) < ((f t)).toInt) := fun u => c2 (Int32.lt_iff_toInt_lt.mpr u)
          show own_Go p e below s _ _ _ (s₁.setTop (mkF m 23 #[.val (.ref a1), .val (.int p2), .val (.int p3), .val (.int cur), .val (.int (f t))] [(.int (57 : Int32)), (.int (f t))]))
          refine own_st (fun _ kont => XS.icmpYes X0.here hx rfl (pc0 := 23) (pc' := 28) rfl (hb hby own_d1_23) rfl (flt c2).2.2.2 (by decide) (by decide) kont) ?_
          show own_Go p e below s _ _ _ (s₁.setTop (mkF m 28 #[.val (.ref a1), .val (.int p2), .val (.int p3), .val (.int cur), .val (.int (f t))] []))
          refine own_st (fun _ kont => XS.iinc X0.here hx rfl (hb hby own_d1_28) rfl (l' := #[.val (.ref a1), .val (.int p2), .val (.int p3), .val (.int (cur + (1 : Int32))), .val (.int (f t))]) rfl kont) ?_
          show own_Go p e below s _ _ _ (s₁.setTop (mkF m 31 #[.val (.ref a1), .val (.int p2), .val (.int p3), .val (.int (cur + (1 : Int32))), .val (.int (f t))] []))
          refine own_st (fun _ kont => XS.goto X0.here hx rfl (pc0 := 31) (pc' := 2) rfl (hb hby own_d1_31) (by decide) (by decide) kont) ?_
          show own_Go p e below s _ _ _ (s₁.setTop (mkF m 2 #[.val (.ref a1), .val (.int p2), .val (.int p3), .val (.int (cur + (1 : Int32))), .val (.int (f t))] []))
          refine ih (t + 1) _ _ (own_addN hc (by decide) (by omega)) (by omega) (by omega) (fun u u1 u2 => ?_) (Or.inr ⟨_, rfl, rfl⟩)
          by_cases q : u = t
          · subst q
            unfold own_dg
            omega
          · exact ha u u1 (by omega)
  show own_Go p e below s _ _ _ (s₁.setTop (mkF m 2 #[.val (.ref a1), .val (.int p2), .val (.int p3), .val (.int p2), .unset] []))
  exact loop (j - i) i _ _ hi (by omega) (Nat.le_refl _) (fun u u1 u2 => absurd u2 (by omega)) (Or.inl rfl)
theorem own_pd0 : parseMethodDescriptor "(IIIB)Z" = some ⟨[.int, .int, .int, .byte], some .boolean⟩ := by decide +kernel
theorem own_pd1 : parseMethodDescriptor "([BII)Z" = some ⟨[(.array .byte), .int, .int], some .boolean⟩ := by decide +kernel
theorem own_pn2 : plainFor x = true := by first | exact plainFor_of_name (show plainName "com/example/refset_loom/refsetloom/rf2/BytesIsDigitsPinLaw" = true by first | (simp [plainName, overriddenIn]; done) | decide +kernel) | decide +kernel
theorem own_ef2 (m : MethodId) (x0 : Int32) (x1 : Int32) (x2 : Int32) (x3 : Int32) (x4 : Int32) (x5 : Int32) : entryFrame m #[(.int x0), (.int x1), (.int x2), (.int x3), (.int x4), (.int x5)] maxLocals = mkF m 0 #[.val (.int x0), .val (.int x1), .val (.int x2), .val (.int x3), .val (.int x4), .val (.int x5), .unset, .unset, .unset, .unset] [] := by first | (simp [entryFrame, mkF, argsToLocals, Value.category, maxLocals]; done) | rfl
set_option maxRecDepth 65536 in
set_option maxHeartbeats 40000000 in
theorem own_rm0 (l : Launch) (Z : State) (a0 : Array Value) (hw : ∀ d ∈ tables_1, d.before a0 Z = true) (b0 b1 b2 b3 bp bq : Int32) (h0 : Heap) (n0 : Nat) (Z0 : n0 ≤ h0.size)  :
    own_Met l Z x code maxLocals ret room_1 #[(.int b0), (.int b1), (.int b2), (.int b3), (.int bp), (.int bq)] h0 (fun v h' L => v = some (.int 1) ∧ Fr n0 L) := by
  refine own_in own_pn2 ?_
  intro p e s m below meth c s₁ hx hby hml hown hnm hlk hret hZ X0 e0
  have N0 := Fr.nil n0
  refine own_ef (own_ef2 m b0 b1 b2 b3 bp bq) ?_
  show own_Go p e below s _ _ _ (s₁.setTop (mkF m 0 #[.val (.int b0), .val (.int b1), .val (.int b2), .val (.int b3), .val (.int bp), .val (.int bq), .unset, .unset, .unset, .unset] []))
  refine own_st (fun _ kont => XS.iconst X0.here hx rfl (hb hby at_0) kont) ?_
  show own_Go p e below s _ _ _ (s₁.setTop (mkF m 1 #[.val (.int b0), .val (.int b1), .val (.int b2), .val (.int b3), .val (.int bp), .val (.int bq), .unset, .unset, .unset, .unset] [(.int (4 : Int32))]))
  obtain ⟨T1, h1, bb, g1, X1, e1, E1, Vbb, st1⟩ := own_newA X0 hx hZ (hw _ (List.mem_of_getElem? (i := 0) rfl)) e0 (g := (mkF m 1 #[.val (.int b0), .val (.int b1), .val (.int b2), .val (.int b3), .val (.int bp), .val (.int bq), .unset, .unset, .unset, .unset] [(.int (4 : Int32))])) rfl (hb hby at_1) rfl (n := 4) (cap := 4) (by decide) (by decide) (by decide) (by decide) (by decide)
  replace Vbb : own_Av Z h1 bb .byte 4 (fun _ => .int 0) := Vbb
  have fr_bb : n0 ≤ bb := Nat.le_trans Z0 (Nat.le_of_eq g1.symm)
  have sz1 := Nat.le_trans Z0 E1.1
  refine own_st st1 ?_
  show own_Go p e below s _ _ _ (T1.setTop (mkF m 3 #[.val (.int b0), .val (.int b1), .val (.int b2), .val (.int b3), .val (.int bp), .val (.int bq), .unset, .unset, .unset, .unset] [(.ref bb)]))
  refine own_st (fun _ kont => XS.astore X1.here hx rfl (hb hby at_3) rfl rfl (l' := #[.val (.int b0), .val (.int b1), .val (.int b2), .val (.int b3), .val (.int bp), .val (.int bq), .val (.ref bb), .unset, .unset, .unset]) rfl kont) ?_
  show own_Go p e below s _ _ _ (T1.setTop (mkF m 5 #[.val (.int b0), .val (.int b1), .val (.int b2), .val (.int b3), .val (.int bp), .val (.int bq), .val (.ref bb), .unset, .unset, .unset] []))
  refine own_st (fun _ kont => XS.aload X1.here hx rfl (hb hby at_5) rfl rfl kont) ?_
  show own_Go p e below s _ _ _ (T1.setTop (mkF m 7 #[.val (.int b0), .val (.int b1), .val (.int b2), .val (.int b3), .val (.int bp), .val (.int bq), .val (.ref bb), .unset, .unset, .unset] [(.ref bb)]))
  refine own_st (fun _ kont => XS.iconst X1.here hx rfl (hb hby at_7) kont) ?_
  show own_Go p e below s _ _ _ (T1.setTop (mkF m 8 #[.val (.int b0), .val (.int b1), .val (.int b2), .val (.int b3), .val (.int bp), .val (.int bq), .val (.ref bb), .unset, .unset, .unset] [(.int (0 : Int32)), (.ref bb)]))
  refine own_st (fun _ kont => XS.iloadN X1.here hx rfl (hb hby at_8) rfl kont) ?_
  show own_Go p e below s _ _ _ (T1.setTop (mkF m 9 #[.val (.int b0), .val (.int b1), .val (.int b2), .val (.int b3), .val (.int bp), .val (.int bq), .val (.ref bb), .unset, .unset, .unset] [(.int b0), (.int (0 : Int32)), (.ref bb)]))
  refine own_st (fun _ kont => XS.i2b X1.here hx rfl (hb hby at_9) rfl kont) ?_
  show own_Go p e below s _ _ _ (T1.setTop (mkF m 10 #[.val (.int b0), .val (.int b1), .val (.int b2), .val (.int b3), .val (.int bp), .val (.int bq), .val (.ref bb), .unset, .unset, .unset] [(.int (b0).toInt8.toInt32), (.int (0 : Int32)), (.ref bb)]))
  obtain ⟨T2, h2, X2, e2, W2, Vbb_2, st2⟩ := own_stB X1 hx hZ e1 Vbb (i := 0) (by decide) (by decide) (g := (mkF m 10 #[.val (.int b0), .val (.int b1), .val (.int b2), .val (.int b3), .val (.int bp), .val (.int bq), .val (.ref bb), .unset, .unset, .unset] [(.int (b0).toInt8.toInt32), (.int (0 : Int32)), (.ref bb)])) rfl rfl (hb hby at_10)
  have sz2 := Nat.le_trans sz1 (Keep.of_wr W2).1
  have N2 := Fr.snoc X2 N0 fr_bb
  refine own_st st2 ?_
  show own_Go p e below s _ _ _ (T2.setTop (mkF m 11 #[.val (.int b0), .val (.int b1), .val (.int b2), .val (.int b3), .val (.int bp), .val (.int bq), .val (.ref bb), .unset, .unset, .unset] []))
  refine own_st (fun _ kont => XS.aload X2.here hx rfl (hb hby at_11) rfl rfl kont) ?_
  show own_Go p e below s _ _ _ (T2.setTop (mkF m 13 #[.val (.int b0), .val (.int b1), .val (.int b2), .val (.int b3), .val (.int bp), .val (.int bq), .val (.ref bb), .unset, .unset, .unset] [(.ref bb)]))
  refine own_st (fun _ kont => XS.iconst X2.here hx rfl (hb hby at_13) kont) ?_
  show own_Go p e below s _ _ _ (T2.setTop (mkF m 14 #[.val (.int b0), .val (.int b1), .val (.int b2), .val (.int b3), .val (.int bp), .val (.int bq), .val (.ref bb), .unset, .unset, .unset] [(.int (1 : Int32)), (.ref bb)]))
  refine own_st (fun _ kont => XS.iloadN X2.here hx rfl (hb hby at_14) rfl kont) ?_
  show own_Go p e below s _ _ _ (T2.setTop (mkF m 15 #[.val (.int b0), .val (.int b1), .val (.int b2), .val (.int b3), .val (.int bp), .val (.int bq), .val (.ref bb), .unset, .unset, .unset] [(.int b1), (.int (1 : Int32)), (.ref bb)]))
  refine own_st (fun _ kont => XS.i2b X2.here hx rfl (hb hby at_15) rfl kont) ?_
  show own_Go p e below s _ _ _ (T2.setTop (mkF m 16 #[.val (.int b0), .val (.int b1), .val (.int b2), .val (.int b3), .val (.int bp), .val (.int bq), .val (.ref bb), .unset, .unset, .unset] [(.int (b1).toInt8.toInt32), (.int (1 : Int32)), (.ref bb)]))
  obtain ⟨T3, h3, X3, e3, W3, Vbb_3, st3⟩ := own_stB X2 hx hZ e2 Vbb_2 (i := 1) (by decide) (by decide) (g := (mkF m 16 #[.val (.int b0), .val (.int b1), .val (.int b2), .val (.int b3), .val (.int bp), .val (.int bq), .val (.ref bb), .unset, .unset, .unset] [(.int (b1).toInt8.toInt32), (.int (1 : Int32)), (.ref bb)])) rfl rfl (hb hby at_16)
  have sz3 := Nat.le_trans sz2 (Keep.of_wr W3).1
  have N3 := Fr.snoc X3 N2 fr_bb
  refine own_st st3 ?_
  show own_Go p e below s _ _ _ (T3.setTop (mkF m 17 #[.val (.int b0), .val (.int b1), .val (.int b2), .val (.int b3), .val (.int bp), .val (.int bq), .val (.ref bb), .unset, .unset, .unset] []))
  refine own_st (fun _ kont => XS.aload X3.here hx rfl (hb hby at_17) rfl rfl kont) ?_
  show own_Go p e below s _ _ _ (T3.setTop (mkF m 19 #[.val (.int b0), .val (.int b1), .val (.int b2), .val (.int b3), .val (.int bp), .val (.int bq), .val (.ref bb), .unset, .unset, .unset] [(.ref bb)]))
  refine own_st (fun _ kont => XS.iconst X3.here hx rfl (hb hby at_19) kont) ?_
  show own_Go p e below s _ _ _ (T3.setTop (mkF m 20 #[.val (.int b0), .val (.int b1), .val (.int b2), .val (.int b3), .val (.int bp), .val (.int bq), .val (.ref bb), .unset, .unset, .unset] [(.int (2 : Int32)), (.ref bb)]))
  refine own_st (fun _ kont => XS.iloadN X3.here hx rfl (hb hby at_20) rfl kont) ?_
  show own_Go p e below s _ _ _ (T3.setTop (mkF m 21 #[.val (.int b0), .val (.int b1), .val (.int b2), .val (.int b3), .val (.int bp), .val (.int bq), .val (.ref bb), .unset, .unset, .unset] [(.int b2), (.int (2 : Int32)), (.ref bb)]))
  refine own_st (fun _ kont => XS.i2b X3.here hx rfl (hb hby at_21) rfl kont) ?_
  show own_Go p e below s _ _ _ (T3.setTop (mkF m 22 #[.val (.int b0), .val (.int b1), .val (.int b2), .val (.int b3), .val (.int bp), .val (.int bq), .val (.ref bb), .unset, .unset, .unset] [(.int (b2).toInt8.toInt32), (.int (2 : Int32)), (.ref bb)]))
  obtain ⟨T4, h4, X4, e4, W4, Vbb_4, st4⟩ := own_stB X3 hx hZ e3 Vbb_3 (i := 2) (by decide) (by decide) (g := (mkF m 22 #[.val (.int b0), .val (.int b1), .val (.int b2), .val (.int b3), .val (.int bp), .val (.int bq), .val (.ref bb), .unset, .unset, .unset] [(.int (b2).toInt8.toInt32), (.int (2 : Int32)), (.ref bb)])) rfl rfl (hb hby at_22)
  have sz4 := Nat.le_trans sz3 (Keep.of_wr W4).1
  have N4 := Fr.snoc X4 N3 fr_bb
  refine own_st st4 ?_
  show own_Go p e below s _ _ _ (T4.setTop (mkF m 23 #[.val (.int b0), .val (.int b1), .val (.int b2), .val (.int b3), .val (.int bp), .val (.int bq), .val (.ref bb), .unset, .unset, .unset] []))
  refine own_st (fun _ kont => XS.aload X4.here hx rfl (hb hby at_23) rfl rfl kont) ?_
  show own_Go p e below s _ _ _ (T4.setTop (mkF m 25 #[.val (.int b0), .val (.int b1), .val (.int b2), .val (.int b3), .val (.int bp), .val (.int bq), .val (.ref bb), .unset, .unset, .unset] [(.ref bb)]))
  refine own_st (fun _ kont => XS.iconst X4.here hx rfl (hb hby at_25) kont) ?_
  show own_Go p e below s _ _ _ (T4.setTop (mkF m 26 #[.val (.int b0), .val (.int b1), .val (.int b2), .val (.int b3), .val (.int bp), .val (.int bq), .val (.ref bb), .unset, .unset, .unset] [(.int (3 : Int32)), (.ref bb)]))
  refine own_st (fun _ kont => XS.iloadN X4.here hx rfl (hb hby at_26) rfl kont) ?_
  show own_Go p e below s _ _ _ (T4.setTop (mkF m 27 #[.val (.int b0), .val (.int b1), .val (.int b2), .val (.int b3), .val (.int bp), .val (.int bq), .val (.ref bb), .unset, .unset, .unset] [(.int b3), (.int (3 : Int32)), (.ref bb)]))
  refine own_st (fun _ kont => XS.i2b X4.here hx rfl (hb hby at_27) rfl kont) ?_
  show own_Go p e below s _ _ _ (T4.setTop (mkF m 28 #[.val (.int b0), .val (.int b1), .val (.int b2), .val (.int b3), .val (.int bp), .val (.int bq), .val (.ref bb), .unset, .unset, .unset] [(.int (b3).toInt8.toInt32), (.int (3 : Int32)), (.ref bb)]))
  obtain ⟨T5, h5, X5, e5, W5, Vbb_5, st5⟩ := own_stB X4 hx hZ e4 Vbb_4 (i := 3) (by decide) (by decide) (g := (mkF m 28 #[.val (.int b0), .val (.int b1), .val (.int b2), .val (.int b3), .val (.int bp), .val (.int bq), .val (.ref bb), .unset, .unset, .unset] [(.int (b3).toInt8.toInt32), (.int (3 : Int32)), (.ref bb)])) rfl rfl (hb hby at_28)
  have sz5 := Nat.le_trans sz4 (Keep.of_wr W5).1
  have N5 := Fr.snoc X5 N4 fr_bb
  refine own_st st5 ?_
  show own_Go p e below s _ _ _ (T5.setTop (mkF m 29 #[.val (.int b0), .val (.int b1), .val (.int b2), .val (.int b3), .val (.int bp), .val (.int bq), .val (.ref bb), .unset, .unset, .unset] []))
  obtain ⟨fb, Vbb_5⟩ : ∃ f : Nat → Int32, own_Av Z h5 bb .byte 4 (fun t => .int (f t)) := ⟨_, Vbb_5⟩
  show own_Go p e below s _ _ _ (T5.setTop (mkF m 29 #[.val (.int b0), .val (.int b1), .val (.int b2), .val (.int b3), .val (.int bp), .val (.int bq), .val (.ref bb), .unset, .unset, .unset] []))
  refine own_st (fun _ kont => XS.iload X5.here hx rfl (hb hby at_29) rfl kont) ?_
  show own_Go p e below s _ _ _ (T5.setTop (mkF m 31 #[.val (.int b0), .val (.int b1), .val (.int b2), .val (.int b3), .val (.int bp), .val (.int bq), .val (.ref bb), .unset, .unset, .unset] [(.int bp)]))
  refine own_st (fun _ kont => X5.ldcInt hx hown (mvT hZ (hw _ (List.mem_of_getElem? (i := 1) rfl))) (g := (mkF m 31 #[.val (.int b0), .val (.int b1), .val (.int b2), .val (.int b3), .val (.int bp), .val (.int bq), .val (.ref bb), .unset, .unset, .unset] [(.int bp)])) rfl (hb hby at_31) _ kont) ?_
  show own_Go p e below s _ _ _ (T5.setTop (mkF m 33 #[.val (.int b0), .val (.int b1), .val (.int b2), .val (.int b3), .val (.int bp), .val (.int bq), .val (.ref bb), .unset, .unset, .unset] [(.int (2147483647 : Int32)), (.int bp)]))
  refine own_st (fun _ kont => XS.iand X5.here hx rfl (hb hby at_33) rfl kont) ?_
  show own_Go p e below s _ _ _ (T5.setTop (mkF m 34 #[.val (.int b0), .val (.int b1), .val (.int b2), .val (.int b3), .val (.int bp), .val (.int bq), .val (.ref bb), .unset, .unset, .unset] [(.int (bp &&& (2147483647 : Int32)))]))
  refine own_st (fun _ kont => XS.iconst X5.here hx rfl (hb hby at_34) kont) ?_
  show own_Go p e below s _ _ _ (T5.setTop (mkF m 35 #[.val (.int b0), .val (.int b1), .val (.int b2), .val (.int b3), .val (.int bp), .val (.int bq), .val (.ref bb), .unset, .unset, .unset] [(.int (5 : Int32)), (.int (bp &&& (2147483647 : Int32)))]))
  refine own_st (fun _ kont => iremM X5 hx rfl (hb hby at_35) rfl (by decide) kont) ?_
  show own_Go p e below s _ _ _ (T5.setTop (mkF m 36 #[.val (.int b0), .val (.int b1), .val (.int b2), .val (.int b3), .val (.int bp), .val (.int bq), .val (.ref bb), .unset, .unset, .unset] [(.int ((bp &&& (2147483647 : Int32)) % (5 : Int32)))]))
  refine own_st (fun _ kont => XS.istore X5.here hx rfl (hb hby at_36) rfl (l' := #[.val (.int b0), .val (.int b1), .val (.int b2), .val (.int b3), .val (.int bp), .val (.int bq), .val (.ref bb), .val (.int ((bp &&& (2147483647 : Int32)) % (5 : Int32))), .unset, .unset]) rfl kont) ?_
  show own_Go p e below s _ _ _ (T5.setTop (mkF m 38 #[.val (.int b0), .val (.int b1), .val (.int b2), .val (.int b3), .val (.int bp), .val (.int bq), .val (.ref bb), .val (.int ((bp &&& (2147483647 : Int32)) % (5 : Int32))), .unset, .unset] []))
  obtain ⟨ip, hip, hpm⟩ := own_mask bp (2147483647 : Int32) (k := 2147483647) (by decide)
  suffices JJ6 : ∀ (fr : Int32) (i0 : Nat) (hi : fr.toInt = (i0 : Int)) (hi4 : i0 ≤ 4), own_Go p e below s (fun v h' L => v = some (.int 1) ∧ Fr n0 L) room_1.cells room_1.slots (T5.setTop (mkF m 38 #[.val (.int b0), .val (.int b1), .val (.int b2), .val (.int b3), .val (.int bp), .val (.int bq), .val (.ref bb), .val (.int fr), .unset, .unset] [])) from JJ6 _ (ip % 5) (by rw [own_rem (by rw [hip]; omega) (by decide), hip]; rfl) (by omega)
  intro fr i0 hi hi4
  show own_Go p e below s _ _ _ (T5.setTop (mkF m 38 #[.val (.int b0), .val (.int b1), .val (.int b2), .val (.int b3), .val (.int bp), .val (.int bq), .val (.ref bb), .val (.int fr), .unset, .unset] []))
  refine own_st (fun _ kont => XS.iload X5.here hx rfl (hb hby at_38) rfl kont) ?_
  show own_Go p e below s _ _ _ (T5.setTop (mkF m 40 #[.val (.int b0), .val (.int b1), .val (.int b2), .val (.int b3), .val (.int bp), .val (.int bq), .val (.ref bb), .val (.int fr), .unset, .unset] [(.int fr)]))
  refine own_st (fun _ kont => XS.iload X5.here hx rfl (hb hby at_40) rfl kont) ?_
  show own_Go p e below s _ _ _ (T5.setTop (mkF m 42 #[.val (.int b0), .val (.int b1), .val (.int b2), .val (.int b3), .val (.int bp), .val (.int bq), .val (.ref bb), .val (.int fr), .unset, .unset] [(.int bq), (.int fr)]))
  refine own_st (fun _ kont => X5.ldcInt hx hown (mvT hZ (hw _ (List.mem_of_getElem? (i := 1) rfl))) (g := (mkF m 42 #[.val (.int b0), .val (.int b1), .val (.int b2), .val (.int b3), .val (.int bp), .val (.int bq), .val (.ref bb), .val (.int fr), .unset, .unset] [(.int bq), (.int fr)])) rfl (hb hby at_42) _ kont) ?_
  show own_Go p e below s _ _ _ (T5.setTop (mkF m 44 #[.val (.int b0), .val (.int b1), .val (.int b2), .val (.int b3), .val (.int bp), .val (.int bq), .val (.ref bb), .val (.int fr), .unset, .unset] [(.int (2147483647 : Int32)), (.int bq), (.int fr)]))
  refine own_st (fun _ kont => XS.iand X5.here hx rfl (hb hby at_44) rfl kont) ?_
  show own_Go p e below s _ _ _ (T5.setTop (mkF m 45 #[.val (.int b0), .val (.int b1), .val (.int b2), .val (.int b3), .val (.int bp), .val (.int bq), .val (.ref bb), .val (.int fr), .unset, .unset] [(.int (bq &&& (2147483647 : Int32))), (.int fr)]))
  refine own_st (fun _ kont => XS.iconst X5.here hx rfl (hb hby at_45) kont) ?_
  show own_Go p e below s _ _ _ (T5.setTop (mkF m 46 #[.val (.int b0), .val (.int b1), .val (.int b2), .val (.int b3), .val (.int bp), .val (.int bq), .val (.ref bb), .val (.int fr), .unset, .unset] [(.int (5 : Int32)), (.int (bq &&& (2147483647 : Int32))), (.int fr)]))
  refine own_st (fun _ kont => XS.iload X5.here hx rfl (hb hby at_46) rfl kont) ?_
  show own_Go p e below s _ _ _ (T5.setTop (mkF m 48 #[.val (.int b0), .val (.int b1), .val (.int b2), .val (.int b3), .val (.int bp), .val (.int bq), .val (.ref bb), .val (.int fr), .unset, .unset] [(.int fr), (.int (5 : Int32)), (.int (bq &&& (2147483647 : Int32))), (.int fr)]))
  refine own_st (fun _ kont => XS.isub X5.here hx rfl (hb hby at_48) rfl kont) ?_
  show own_Go p e below s _ _ _ (T5.setTop (mkF m 49 #[.val (.int b0), .val (.int b1), .val (.int b2), .val (.int b3), .val (.int bp), .val (.int bq), .val (.ref bb), .val (.int fr), .unset, .unset] [(.int ((5 : Int32) - fr)), (.int (bq &&& (2147483647 : Int32))), (.int fr)]))
  have hfv : ((5 : Int32) - fr).toInt = 5 - (i0 : Int) := by rw [own_sub (by rw [hi]; show _ ≤ (5 : Int) - _; omega) (by rw [hi]; show (5 : Int) - _ < _; omega), hi]; rfl
  refine own_st (fun _ kont => iremM X5 hx rfl (hb hby at_49) rfl (fun u => by rw [u] at hfv; have h6 : ((0 : Int32)).toInt = 0 := (by decide); omega) kont) ?_
  show own_Go p e below s _ _ _ (T5.setTop (mkF m 50 #[.val (.int b0), .val (.int b1), .val (.int b2), .val (.int b3), .val (.int bp), .val (.int bq), .val (.ref bb), .val (.int fr), .unset, .unset] [(.int ((bq &&& (2147483647 : Int32)) % ((5 : Int32) - fr))), (.int fr)]))
  refine own_st (fun _ kont => XS.iadd X5.here hx rfl (hb hby at_50) rfl kont) ?_
  show own_Go p e below s _ _ _ (T5.setTop (mkF m 51 #[.val (.int b0), .val (.int b1), .val (.int b2), .val (.int b3), .val (.int bp), .val (.int bq), .val (.ref bb), .val (.int fr), .unset, .unset] [(.int (fr + ((bq &&& (2147483647 : Int32)) % ((5 : Int32) - fr))))]))
  refine own_st (fun _ kont => XS.istore X5.here hx rfl (hb hby at_51) rfl (l' := #[.val (.int b0), .val (.int b1), .val (.int b2), .val (.int b3), .val (.int bp), .val (.int bq), .val (.ref bb), .val (.int fr), .val (.int (fr + ((bq &&& (2147483647 : Int32)) % ((5 : Int32) - fr)))), .unset]) rfl kont) ?_
  show own_Go p e below s _ _ _ (T5.setTop (mkF m 53 #[.val (.int b0), .val (.int b1), .val (.int b2), .val (.int b3), .val (.int bp), .val (.int bq), .val (.ref bb), .val (.int fr), .val (.int (fr + ((bq &&& (2147483647 : Int32)) % ((5 : Int32) - fr)))), .unset] []))
  obtain ⟨iq, hiq, hqm⟩ := own_mask bq (2147483647 : Int32) (k := 2147483647) (by decide)
  have hrm : ((bq &&& (2147483647 : Int32)) % ((5 : Int32) - fr)).toInt = ((iq % (5 - i0) : Nat) : Int) := by
    rw [own_rem (by rw [hiq]; omega) (by rw [hfv]; omega), hiq, hfv, ← (show ((5 - i0 : Nat) : Int) = 5 - (i0 : Int) by omega)]; rfl
  have hlt : iq % (5 - i0) < 5 - i0 := Nat.mod_lt _ (by omega)
  suffices JJ7 : ∀ (to : Int32) (j0 : Nat) (hj : to.toInt = (j0 : Int)) (hij : i0 ≤ j0) (hj4 : j0 ≤ 4), own_Go p e below s (fun v h' L => v = some (.int 1) ∧ Fr n0 L) room_1.cells room_1.slots (T5.setTop (mkF m 53 #[.val (.int b0), .val (.int b1), .val (.int b2), .val (.int b3), .val (.int bp), .val (.int bq), .val (.ref bb), .val (.int fr), .val (.int to), .unset] [])) from JJ7 _ (i0 + iq % (5 - i0)) (own_addN hi hrm (by omega)) (by omega) (by omega)
  intro to j0 hj hij hj4
  show own_Go p e below s _ _ _ (T5.setTop (mkF m 53 #[.val (.int b0), .val (.int b1), .val (.int b2), .val (.int b3), .val (.int bp), .val (.int bq), .val (.ref bb), .val (.int fr), .val (.int to), .unset] []))
  refine own_st (fun _ kont => XS.iconst X5.here hx rfl (hb hby at_53) kont) ?_
  show own_Go p e below s _ _ _ (T5.setTop (mkF m 54 #[.val (.int b0), .val (.int b1), .val (.int b2), .val (.int b3), .val (.int bp), .val (.int bq), .val (.ref bb), .val (.int fr), .val (.int to), .unset] [(.int (0 : Int32))]))
  refine own_st (fun _ kont => XS.iload X5.here hx rfl (hb hby at_54) rfl kont) ?_
  show own_Go p e below s _ _ _ (T5.setTop (mkF m 56 #[.val (.int b0), .val (.int b1), .val (.int b2), .val (.int b3), .val (.int bp), .val (.int bq), .val (.ref bb), .val (.int fr), .val (.int to), .unset] [(.int fr), (.int (0 : Int32))]))
  refine own_st (fun _ kont => XS.iload X5.here hx rfl (hb hby at_56) rfl kont) ?_
  show own_Go p e below s _ _ _ (T5.setTop (mkF m 58 #[.val (.int b0), .val (.int b1), .val (.int b2), .val (.int b3), .val (.int bp), .val (.int bq), .val (.ref bb), .val (.int fr), .val (.int to), .unset] [(.int to), (.int fr), (.int (0 : Int32))]))
  refine own_st (fun _ kont => XS.aload X5.here hx rfl (hb hby at_58) rfl rfl kont) ?_
  show own_Go p e below s _ _ _ (T5.setTop (mkF m 60 #[.val (.int b0), .val (.int b1), .val (.int b2), .val (.int b3), .val (.int bp), .val (.int bq), .val (.ref bb), .val (.int fr), .val (.int to), .unset] [(.ref bb), (.int to), (.int fr), (.int (0 : Int32))]))
  refine own_st (fun _ kont => XS.iconst X5.here hx rfl (hb hby at_60) kont) ?_
  show own_Go p e below s _ _ _ (T5.setTop (mkF m 61 #[.val (.int b0), .val (.int b1), .val (.int b2), .val (.int b3), .val (.int bp), .val (.int bq), .val (.ref bb), .val (.int fr), .val (.int to), .unset] [(.int (0 : Int32)), (.ref bb), (.int to), (.int fr), (.int (0 : Int32))]))
  refine own_st (own_ldB X5 hx hZ e5 Vbb_5 (i := 0) (by decide) (by decide) (v := (.int (fb 0))) rfl (g := (mkF m 61 #[.val (.int b0), .val (.int b1), .val (.int b2), .val (.int b3), .val (.int bp), .val (.int bq), .val (.ref bb), .val (.int fr), .val (.int to), .unset] [(.int (0 : Int32)), (.ref bb), (.int to), (.int fr), (.int (0 : Int32))])) rfl rfl (hb hby at_61)) ?_
  show own_Go p e below s _ _ _ (T5.setTop (mkF m 62 #[.val (.int b0), .val (.int b1), .val (.int b2), .val (.int b3), .val (.int bp), .val (.int bq), .val (.ref bb), .val (.int fr), .val (.int to), .unset] [(.int (fb 0)), (.int to), (.int fr), (.int (0 : Int32))]))
  refine own_cS X5 hx hml hZ hown (hw _ (List.mem_of_getElem? (i := 2) rfl)) (hw _ (List.mem_of_getElem? (i := 3) rfl)) (hw _ (List.mem_of_getElem? (i := 4) rfl)) (hw _ (List.mem_of_getElem? (i := 5) rfl)) (by decide) (own_rm1 l Z a0 hw (0 : Int32) fr to (fb 0) h5 n0 sz5) e5 (by decide) (W := 0) (by decide) (g := (mkF m 62 #[.val (.int b0), .val (.int b1), .val (.int b2), .val (.int b3), .val (.int bp), .val (.int bq), .val (.ref bb), .val (.int fr), .val (.int to), .unset] [(.int (fb 0)), (.int to), (.int fr), (.int (0 : Int32))])) rfl rfl own_pd0 (argsL := [(.int (0 : Int32)), (.int fr), (.int to), (.int (fb 0))]) (rest := []) rfl rfl rfl (by show 2 * 0 + _ ≤ _; exact Nat.le_of_eq rfl) (hb hby at_62) (by decide) (by decide) ?_
  intro T8 L8 v8 X8 hQ8
  obtain ⟨hd8, eh8, le8⟩ := hQ8
  rcases hd8 with ⟨rfl, hP0⟩ | ⟨rfl, hP0⟩
  · have N8 := own_nil N5 le8
    show own_Go p e below s _ _ _ (T8.setTop (mkF m 65 #[.val (.int b0), .val (.int b1), .val (.int b2), .val (.int b3), .val (.int bp), .val (.int bq), .val (.ref bb), .val (.int fr), .val (.int to), .unset] [(.int (1 : Int32))]))
    refine own_st (fun _ kont => XS.ifNo X8.here hx rfl (hb hby at_65) rfl (by decide) kont) ?_
    show own_Go p e below s _ _ _ (T8.setTop (mkF m 68 #[.val (.int b0), .val (.int b1), .val (.int b2), .val (.int b3), .val (.int bp), .val (.int bq), .val (.ref bb), .val (.int fr), .val (.int to), .unset] []))
    refine own_st (fun _ kont => XS.iconst X8.here hx rfl (hb hby at_68) kont) ?_
    show own_Go p e below s _ _ _ (T8.setTop (mkF m 69 #[.val (.int b0), .val (.int b1), .val (.int b2), .val (.int b3), .val (.int bp), .val (.int bq), .val (.ref bb), .val (.int fr), .val (.int to), .unset] [(.int (1 : Int32))]))
    refine own_st (fun _ kont => XS.iload X8.here hx rfl (hb hby at_69) rfl kont) ?_
    show own_Go p e below s _ _ _ (T8.setTop (mkF m 71 #[.val (.int b0), .val (.int b1), .val (.int b2), .val (.int b3), .val (.int bp), .val (.int bq), .val (.ref bb), .val (.int fr), .val (.int to), .unset] [(.int fr), (.int (1 : Int32))]))
    refine own_st (fun _ kont => XS.iload X8.here hx rfl (hb hby at_71) rfl kont) ?_
    show own_Go p e below s _ _ _ (T8.setTop (mkF m 73 #[.val (.int b0), .val (.int b1), .val (.int b2), .val (.int b3), .val (.int bp), .val (.int bq), .val (.ref bb), .val (.int fr), .val (.int to), .unset] [(.int to), (.int fr), (.int (1 : Int32))]))
    refine own_st (fun _ kont => XS.aload X8.here hx rfl (hb hby at_73) rfl rfl kont) ?_
    show own_Go p e below s _ _ _ (T8.setTop (mkF m 75 #[.val (.int b0), .val (.int b1), .val (.int b2), .val (.int b3), .val (.int bp), .val (.int bq), .val (.ref bb), .val (.int fr), .val (.int to), .unset] [(.ref bb), (.int to), (.int fr), (.int (1 : Int32))]))
    refine own_st (fun _ kont => XS.iconst X8.here hx rfl (hb hby at_75) kont) ?_
    show own_Go p e below s _ _ _ (T8.setTop (mkF m 76 #[.val (.int b0), .val (.int b1), .val (.int b2), .val (.int b3), .val (.int bp), .val (.int bq), .val (.ref bb), .val (.int fr), .val (.int to), .unset] [(.int (1 : Int32)), (.ref bb), (.int to), (.int fr), (.int (1 : Int32))]))
    refine own_st (own_ldB X8 hx hZ eh8 Vbb_5 (i := 1) (by decide) (by decide) (v := (.int (fb 1))) rfl (g := (mkF m 76 #[.val (.int b0), .val (.int b1), .val (.int b2), .val (.int b3), .val (.int bp), .val (.int bq), .val (.ref bb), .val (.int fr), .val (.int to), .unset] [(.int (1 : Int32)), (.ref bb), (.int to), (.int fr), (.int (1 : Int32))])) rfl rfl (hb hby at_76)) ?_
    show own_Go p e below s _ _ _ (T8.setTop (mkF m 77 #[.val (.int b0), .val (.int b1), .val (.int b2), .val (.int b3), .val (.int bp), .val (.int bq), .val (.ref bb), .val (.int fr), .val (.int to), .unset] [(.int (fb 1)), (.int to), (.int fr), (.int (1 : Int32))]))
    refine own_cS X8 hx hml hZ hown (hw _ (List.mem_of_getElem? (i := 2) rfl)) (hw _ (List.mem_of_getElem? (i := 3) rfl)) (hw _ (List.mem_of_getElem? (i := 4) rfl)) (hw _ (List.mem_of_getElem? (i := 5) rfl)) (by decide) (own_rm1 l Z a0 hw (1 : Int32) fr to (fb 1) h5 n0 sz5) eh8 (by decide) (W := 0) (by decide) (g := (mkF m 77 #[.val (.int b0), .val (.int b1), .val (.int b2), .val (.int b3), .val (.int bp), .val (.int bq), .val (.ref bb), .val (.int fr), .val (.int to), .unset] [(.int (fb 1)), (.int to), (.int fr), (.int (1 : Int32))])) rfl rfl own_pd0 (argsL := [(.int (1 : Int32)), (.int fr), (.int to), (.int (fb 1))]) (rest := []) rfl rfl rfl (by show 2 * 0 + _ ≤ _; exact Nat.le_of_eq rfl) (hb hby at_77) (by decide) (by decide) ?_
    intro T10 L10 v10 X10 hQ10
    obtain ⟨hd10, eh10, le10⟩ := hQ10
    rcases hd10 with ⟨rfl, hP1⟩ | ⟨rfl, hP1⟩
    · have N10 := own_nil N8 le10
      show own_Go p e below s _ _ _ (T10.setTop (mkF m 80 #[.val (.int b0), .val (.int b1), .val (.int b2), .val (.int b3), .val (.int bp), .val (.int bq), .val (.ref bb), .val (.int fr), .val (.int to), .unset] [(.int (1 : Int32))]))
      refine own_st (fun _ kont => XS.ifNo X10.here hx rfl (hb hby at_80) rfl (by decide) kont) ?_
      show own_Go p e below s _ _ _ (T10.setTop (mkF m 83 #[.val (.int b0), .val (.int b1), .val (.int b2), .val (.int b3), .val (.int bp), .val (.int bq), .val (.ref bb), .val (.int fr), .val (.int to), .unset] []))
      refine own_st (fun _ kont => XS.iconst X10.here hx rfl (hb hby at_83) kont) ?_
      show own_Go p e below s _ _ _ (T10.setTop (mkF m 84 #[.val (.int b0), .val (.int b1), .val (.int b2), .val (.int b3), .val (.int bp), .val (.int bq), .val (.ref bb), .val (.int fr), .val (.int to), .unset] [(.int (2 : Int32))]))
      refine own_st (fun _ kont => XS.iload X10.here hx rfl (hb hby at_84) rfl kont) ?_
      show own_Go p e below s _ _ _ (T10.setTop (mkF m 86 #[.val (.int b0), .val (.int b1), .val (.int b2), .val (.int b3), .val (.int bp), .val (.int bq), .val (.ref bb), .val (.int fr), .val (.int to), .unset] [(.int fr), (.int (2 : Int32))]))
      refine own_st (fun _ kont => XS.iload X10.here hx rfl (hb hby at_86) rfl kont) ?_
      show own_Go p e below s _ _ _ (T10.setTop (mkF m 88 #[.val (.int b0), .val (.int b1), .val (.int b2), .val (.int b3), .val (.int bp), .val (.int bq), .val (.ref bb), .val (.int fr), .val (.int to), .unset] [(.int to), (.int fr), (.int (2 : Int32))]))
      refine own_st (fun _ kont => XS.aload X10.here hx rfl (hb hby at_88) rfl rfl kont) ?_
      show own_Go p e below s _ _ _ (T10.setTop (mkF m 90 #[.val (.int b0), .val (.int b1), .val (.int b2), .val (.int b3), .val (.int bp), .val (.int bq), .val (.ref bb), .val (.int fr), .val (.int to), .unset] [(.ref bb), (.int to), (.int fr), (.int (2 : Int32))]))
      refine own_st (fun _ kont => XS.iconst X10.here hx rfl (hb hby at_90) kont) ?_
      show own_Go p e below s _ _ _ (T10.setTop (mkF m 91 #[.val (.int b0), .val (.int b1), .val (.int b2), .val (.int b3), .val (.int bp), .val (.int bq), .val (.ref bb), .val (.int fr), .val (.int to), .unset] [(.int (2 : Int32)), (.ref bb), (.int to), (.int fr), (.int (2 : Int32))]))
      refine own_st (own_ldB X10 hx hZ eh10 Vbb_5 (i := 2) (by decide) (by decide) (v := (.int (fb 2))) rfl (g := (mkF m 91 #[.val (.int b0), .val (.int b1), .val (.int b2), .val (.int b3), .val (.int bp), .val (.int bq), .val (.ref bb), .val (.int fr), .val (.int to), .unset] [(.int (2 : Int32)), (.ref bb), (.int to), (.int fr), (.int (2 : Int32))])) rfl rfl (hb hby at_91)) ?_
      show own_Go p e below s _ _ _ (T10.setTop (mkF m 92 #[.val (.int b0), .val (.int b1), .val (.int b2), .val (.int b3), .val (.int bp), .val (.int bq), .val (.ref bb), .val (.int fr), .val (.int to), .unset] [(.int (fb 2)), (.int to), (.int fr), (.int (2 : Int32))]))
      refine own_cS X10 hx hml hZ hown (hw _ (List.mem_of_getElem? (i := 2) rfl)) (hw _ (List.mem_of_getElem? (i := 3) rfl)) (hw _ (List.mem_of_getElem? (i := 4) rfl)) (hw _ (List.mem_of_getElem? (i := 5) rfl)) (by decide) (own_rm1 l Z a0 hw (2 : Int32) fr to (fb 2) h5 n0 sz5) eh10 (by decide) (W := 0) (by decide) (g := (mkF m 92 #[.val (.int b0), .val (.int b1), .val (.int b2), .val (.int b3), .val (.int bp), .val (.int bq), .val (.ref bb), .val (.int fr), .val (.int to), .unset] [(.int (fb 2)), (.int to), (.int fr), (.int (2 : Int32))])) rfl rfl own_pd0 (argsL := [(.int (2 : Int32)), (.int fr), (.int to), (.int (fb 2))]) (rest := []) rfl rfl rfl (by show 2 * 0 + _ ≤ _; exact Nat.le_of_eq rfl) (hb hby at_92) (by decide) (by decide) ?_
      intro T12 L12 v12 X12 hQ12
      obtain ⟨hd12, eh12, le12⟩ := hQ12
      rcases hd12 with ⟨rfl, hP2⟩ | ⟨rfl, hP2⟩
      · have N12 := own_nil N10 le12
        show own_Go p e below s _ _ _ (T12.setTop (mkF m 95 #[.val (.int b0), .val (.int b1), .val (.int b2), .val (.int b3), .val (.int bp), .val (.int bq), .val (.ref bb), .val (.int fr), .val (.int to), .unset] [(.int (1 : Int32))]))
        refine own_st (fun _ kont => XS.ifNo X12.here hx rfl (hb hby at_95) rfl (by decide) kont) ?_
        show own_Go p e below s _ _ _ (T12.setTop (mkF m 98 #[.val (.int b0), .val (.int b1), .val (.int b2), .val (.int b3), .val (.int bp), .val (.int bq), .val (.ref bb), .val (.int fr), .val (.int to), .unset] []))
        refine own_st (fun _ kont => XS.iconst X12.here hx rfl (hb hby at_98) kont) ?_
        show own_Go p e below s _ _ _ (T12.setTop (mkF m 99 #[.val (.int b0), .val (.int b1), .val (.int b2), .val (.int b3), .val (.int bp), .val (.int bq), .val (.ref bb), .val (.int fr), .val (.int to), .unset] [(.int (3 : Int32))]))
        refine own_st (fun _ kont => XS.iload X12.here hx rfl (hb hby at_99) rfl kont) ?_
        show own_Go p e below s _ _ _ (T12.setTop (mkF m 101 #[.val (.int b0), .val (.int b1), .val (.int b2), .val (.int b3), .val (.int bp), .val (.int bq), .val (.ref bb), .val (.int fr), .val (.int to), .unset] [(.int fr), (.int (3 : Int32))]))
        refine own_st (fun _ kont => XS.iload X12.here hx rfl (hb hby at_101) rfl kont) ?_
        show own_Go p e below s _ _ _ (T12.setTop (mkF m 103 #[.val (.int b0), .val (.int b1), .val (.int b2), .val (.int b3), .val (.int bp), .val (.int bq), .val (.ref bb), .val (.int fr), .val (.int to), .unset] [(.int to), (.int fr), (.int (3 : Int32))]))
        refine own_st (fun _ kont => XS.aload X12.here hx rfl (hb hby at_103) rfl rfl kont) ?_
        show own_Go p e below s _ _ _ (T12.setTop (mkF m 105 #[.val (.int b0), .val (.int b1), .val (.int b2), .val (.int b3), .val (.int bp), .val (.int bq), .val (.ref bb), .val (.int fr), .val (.int to), .unset] [(.ref bb), (.int to), (.int fr), (.int (3 : Int32))]))
        refine own_st (fun _ kont => XS.iconst X12.here hx rfl (hb hby at_105) kont) ?_
        show own_Go p e below s _ _ _ (T12.setTop (mkF m 106 #[.val (.int b0), .val (.int b1), .val (.int b2), .val (.int b3), .val (.int bp), .val (.int bq), .val (.ref bb), .val (.int fr), .val (.int to), .unset] [(.int (3 : Int32)), (.ref bb), (.int to), (.int fr), (.int (3 : Int32))]))
        refine own_st (own_ldB X12 hx hZ eh12 Vbb_5 (i := 3) (by decide) (by decide) (v := (.int (fb 3))) rfl (g := (mkF m 106 #[.val (.int b0), .val (.int b1), .val (.int b2), .val (.int b3), .val (.int bp), .val (.int bq), .val (.ref bb), .val (.int fr), .val (.int to), .unset] [(.int (3 : Int32)), (.ref bb), (.int to), (.int fr), (.int (3 : Int32))])) rfl rfl (hb hby at_106)) ?_
        show own_Go p e below s _ _ _ (T12.setTop (mkF m 107 #[.val (.int b0), .val (.int b1), .val (.int b2), .val (.int b3), .val (.int bp), .val (.int bq), .val (.ref bb), .val (.int fr), .val (.int to), .unset] [(.int (fb 3)), (.int to), (.int fr), (.int (3 : Int32))]))
        refine own_cS X12 hx hml hZ hown (hw _ (List.mem_of_getElem? (i := 2) rfl)) (hw _ (List.mem_of_getElem? (i := 3) rfl)) (hw _ (List.mem_of_getElem? (i := 4) rfl)) (hw _ (List.mem_of_getElem? (i := 5) rfl)) (by decide) (own_rm1 l Z a0 hw (3 : Int32) fr to (fb 3) h5 n0 sz5) eh12 (by decide) (W := 0) (by decide) (g := (mkF m 107 #[.val (.int b0), .val (.int b1), .val (.int b2), .val (.int b3), .val (.int bp), .val (.int bq), .val (.ref bb), .val (.int fr), .val (.int to), .unset] [(.int (fb 3)), (.int to), (.int fr), (.int (3 : Int32))])) rfl rfl own_pd0 (argsL := [(.int (3 : Int32)), (.int fr), (.int to), (.int (fb 3))]) (rest := []) rfl rfl rfl (by show 2 * 0 + _ ≤ _; exact Nat.le_of_eq rfl) (hb hby at_107) (by decide) (by decide) ?_
        intro T14 L14 v14 X14 hQ14
        obtain ⟨hd14, eh14, le14⟩ := hQ14
        rcases hd14 with ⟨rfl, hP3⟩ | ⟨rfl, hP3⟩
        · have N14 := own_nil N12 le14
          show own_Go p e below s _ _ _ (T14.setTop (mkF m 110 #[.val (.int b0), .val (.int b1), .val (.int b2), .val (.int b3), .val (.int bp), .val (.int bq), .val (.ref bb), .val (.int fr), .val (.int to), .unset] [(.int (1 : Int32))]))
          refine own_st (fun _ kont => XS.ifNo X14.here hx rfl (hb hby at_110) rfl (by decide) kont) ?_
          show own_Go p e below s _ _ _ (T14.setTop (mkF m 113 #[.val (.int b0), .val (.int b1), .val (.int b2), .val (.int b3), .val (.int bp), .val (.int bq), .val (.ref bb), .val (.int fr), .val (.int to), .unset] []))
          refine own_st (fun _ kont => XS.iconst X14.here hx rfl (hb hby at_113) kont) ?_
          show own_Go p e below s _ _ _ (T14.setTop (mkF m 114 #[.val (.int b0), .val (.int b1), .val (.int b2), .val (.int b3), .val (.int bp), .val (.int bq), .val (.ref bb), .val (.int fr), .val (.int to), .unset] [(.int (1 : Int32))]))
          refine own_st (fun _ kont => XS.goto X14.here hx rfl (pc0 := 114) (pc' := 118) rfl (hb hby at_114) (by decide) (by decide) kont) ?_
          show own_Go p e below s _ _ _ (T14.setTop (mkF m 118 #[.val (.int b0), .val (.int b1), .val (.int b2), .val (.int b3), .val (.int bp), .val (.int bq), .val (.ref bb), .val (.int fr), .val (.int to), .unset] [(.int (1 : Int32))]))
          have hall : (∀ u, i0 ≤ u → u < j0 → own_dg (fb u)) := by
            intro u u1 u2
            rcases (by omega : u = 0 ∨ u = 1 ∨ u = 2 ∨ u = 3) with rfl | rfl | rfl | rfl
            · exact hP0 (by rw [hi]; exact Int.ofNat_le.mpr u1) (by rw [hj]; exact Int.ofNat_lt.mpr u2)
            · exact hP1 (by rw [hi]; exact Int.ofNat_le.mpr u1) (by rw [hj]; exact Int.ofNat_lt.mpr u2)
            · exact hP2 (by rw [hi]; exact Int.ofNat_le.mpr u1) (by rw [hj]; exact Int.ofNat_lt.mpr u2)
            · exact hP3 (by rw [hi]; exact Int.ofNat_le.mpr u1) (by rw [hj]; exact Int.ofNat_lt.mpr u2)
          show own_Go p e below s _ _ _ (T14.setTop (mkF m 118 #[.val (.int b0), .val (.int b1), .val (.int b2), .val (.int b3), .val (.int bp), .val (.int bq), .val (.ref bb), .val (.int fr), .val (.int to), .unset] [(.int (1 : Int32))]))
          refine own_st (fun _ kont => XS.istore X14.here hx rfl (hb hby at_118) rfl (l' := #[.val (.int b0), .val (.int b1), .val (.int b2), .val (.int b3), .val (.int bp), .val (.int bq), .val (.ref bb), .val (.int fr), .val (.int to), .val (.int (1 : Int32))]) rfl kont) ?_
          show own_Go p e below s _ _ _ (T14.setTop (mkF m 120 #[.val (.int b0), .val (.int b1), .val (.int b2), .val (.int b3), .val (.int bp), .val (.int bq), .val (.ref bb), .val (.int fr), .val (.int to), .val (.int (1 : Int32))] []))
          refine own_st (fun _ kont => XS.aload X14.here hx rfl (hb hby at_120) rfl rfl kont) ?_
          show own_Go p e below s _ _ _ (T14.setTop (mkF m 122 #[.val (.int b0), .val (.int b1), .val (.int b2), .val (.int b3), .val (.int bp), .val (.int bq), .val (.ref bb), .val (.int fr), .val (.int to), .val (.int (1 : Int32))] [(.ref bb)]))
          refine own_st (fun _ kont => XS.iload X14.here hx rfl (hb hby at_122) rfl kont) ?_
          show own_Go p e below s _ _ _ (T14.setTop (mkF m 124 #[.val (.int b0), .val (.int b1), .val (.int b2), .val (.int b3), .val (.int bp), .val (.int bq), .val (.ref bb), .val (.int fr), .val (.int to), .val (.int (1 : Int32))] [(.int fr), (.ref bb)]))
          refine own_st (fun _ kont => XS.iload X14.here hx rfl (hb hby at_124) rfl kont) ?_
          show own_Go p e below s _ _ _ (T14.setTop (mkF m 126 #[.val (.int b0), .val (.int b1), .val (.int b2), .val (.int b3), .val (.int bp), .val (.int bq), .val (.ref bb), .val (.int fr), .val (.int to), .val (.int (1 : Int32))] [(.int to), (.int fr), (.ref bb)]))
          refine own_cS X14 hx hml hZ hown (hw _ (List.mem_of_getElem? (i := 6) rfl)) (hw _ (List.mem_of_getElem? (i := 7) rfl)) (hw _ (List.mem_of_getElem? (i := 8) rfl)) (hw _ (List.mem_of_getElem? (i := 9) rfl)) (by decide) (own_rm2 l Z a0 hw bb fr to fb i0 j0 h5 n0 sz5 Vbb_5 hi hj hij hj4) eh14 (by decide) (W := 0) (by decide) (g := (mkF m 126 #[.val (.int b0), .val (.int b1), .val (.int b2), .val (.int b3), .val (.int bp), .val (.int bq), .val (.ref bb), .val (.int fr), .val (.int to), .val (.int (1 : Int32))] [(.int to), (.int fr), (.ref bb)])) rfl rfl own_pd1 (argsL := [(.ref bb), (.int fr), (.int to)]) (rest := []) rfl rfl rfl (by show 2 * 0 + _ ≤ _; exact Nat.le_of_eq rfl) (hb hby at_126) (by decide) (by decide) ?_
          intro T16 L16 v16 X16 hQ16
          obtain ⟨hd16, eh16, le16⟩ := hQ16
          rcases hd16 with ⟨rfl, hA⟩ | ⟨rfl, hA⟩
          · have N16 := own_nil N14 le16
            show own_Go p e below s _ _ _ (T16.setTop (mkF m 129 #[.val (.int b0), .val (.int b1), .val (.int b2), .val (.int b3), .val (.int bp), .val (.int bq), .val (.ref bb), .val (.int fr), .val (.int to), .val (.int (1 : Int32))] [(.int (1 : Int32))]))
            refine own_st (fun _ kont => XS.iload X16.here hx rfl (hb hby at_129) rfl kont) ?_
            show own_Go p e below s _ _ _ (T16.setTop (mkF m 131 #[.val (.int b0), .val (.int b1), .val (.int b2), .val (.int b3), .val (.int bp), .val (.int bq), .val (.ref bb), .val (.int fr), .val (.int to), .val (.int (1 : Int32))] [(.int (1 : Int32)), (.int (1 : Int32))]))
            refine own_st (fun _ kont => XS.icmpNo X16.here hx rfl (hb hby at_131) rfl (by decide) kont) ?_
            show own_Go p e below s _ _ _ (T16.setTop (mkF m 134 #[.val (.int b0), .val (.int b1), .val (.int b2), .val (.int b3), .val (.int bp), .val (.int bq), .val (.ref bb), .val (.int fr), .val (.int to), .val (.int (1 : Int32))] []))
            refine own_st (fun _ kont => XS.iconst X16.here hx rfl (hb hby at_134) kont) ?_
            show own_Go p e below s _ _ _ (T16.setTop (mkF m 135 #[.val (.int b0), .val (.int b1), .val (.int b2), .val (.int b3), .val (.int bp), .val (.int bq), .val (.ref bb), .val (.int fr), .val (.int to), .val (.int (1 : Int32))] [(.int (1 : Int32))]))
            refine own_st (fun _ kont => XS.goto X16.here hx rfl (pc0 := 135) (pc' := 139) rfl (hb hby at_135) (by decide) (by decide) kont) ?_
            show own_Go p e below s _ _ _ (T16.setTop (mkF m 139 #[.val (.int b0), .val (.int b1), .val (.int b2), .val (.int b3), .val (.int bp), .val (.int bq), .val (.ref bb), .val (.int fr), .val (.int to), .val (.int (1 : Int32))] [(.int (1 : Int32))]))
            exact own_endN X16 hx hlk (t := .boolean) hret (by simp) (hb hby at_139) (w := (1 : Int32)) (by decide) ⟨rfl, N16⟩ (by decide) (by decide)
          · have N16 := own_nil N14 le16
            show own_Go p e below s _ _ _ (T16.setTop (mkF m 129 #[.val (.int b0), .val (.int b1), .val (.int b2), .val (.int b3), .val (.int bp), .val (.int bq), .val (.ref bb), .val (.int fr), .val (.int to), .val (.int (1 : Int32))] [(.int (0 : Int32))]))
            exact absurd (hall) hA
        · have N14 := own_nil N12 le14
          show own_Go p e below s _ _ _ (T14.setTop (mkF m 110 #[.val (.int b0), .val (.int b1), .val (.int b2), .val (.int b3), .val (.int bp), .val (.int bq), .val (.ref bb), .val (.int fr), .val (.int to), .unset] [(.int (0 : Int32))]))
          refine own_st (fun _ kont => XS.ifYes X14.here hx rfl (pc0 := 110) (pc' := 117) rfl (hb hby at_110) rfl (by decide) (by decide) (by decide) kont) ?_
          show own_Go p e below s _ _ _ (T14.setTop (mkF m 117 #[.val (.int b0), .val (.int b1), .val (.int b2), .val (.int b3), .val (.int bp), .val (.int bq), .val (.ref bb), .val (.int fr), .val (.int to), .unset] []))
          refine own_st (fun _ kont => XS.iconst X14.here hx rfl (hb hby at_117) kont) ?_
          show own_Go p e below s _ _ _ (T14.setTop (mkF m 118 #[.val (.int b0), .val (.int b1), .val (.int b2), .val (.int b3), .val (.int bp), .val (.int bq), .val (.ref bb), .val (.int fr), .val (.int to), .unset] [(.int (0 : Int32))]))
          refine own_st (fun _ kont => XS.istore X14.here hx rfl (hb hby at_118) rfl (l' := #[.val (.int b0), .val (.int b1), .val (.int b2), .val (.int b3), .val (.int bp), .val (.int bq), .val (.ref bb), .val (.int fr), .val (.int to), .val (.int (0 : Int32))]) rfl kont) ?_
          show own_Go p e below s _ _ _ (T14.setTop (mkF m 120 #[.val (.int b0), .val (.int b1), .val (.int b2), .val (.int b3), .val (.int bp), .val (.int bq), .val (.ref bb), .val (.int fr), .val (.int to), .val (.int (0 : Int32))] []))
          refine own_st (fun _ kont => XS.aload X14.here hx rfl (hb hby at_120) rfl rfl kont) ?_
          show own_Go p e below s _ _ _ (T14.setTop (mkF m 122 #[.val (.int b0), .val (.int b1), .val (.int b2), .val (.int b3), .val (.int bp), .val (.int bq), .val (.ref bb), .val (.int fr), .val (.int to), .val (.int (0 : Int32))] [(.ref bb)]))
          refine own_st (fun _ kont => XS.iload X14.here hx rfl (hb hby at_122) rfl kont) ?_
          show own_Go p e below s _ _ _ (T14.setTop (mkF m 124 #[.val (.int b0), .val (.int b1), .val (.int b2), .val (.int b3), .val (.int bp), .val (.int bq), .val (.ref bb), .val (.int fr), .val (.int to), .val (.int (0 : Int32))] [(.int fr), (.ref bb)]))
          refine own_st (fun _ kont => XS.iload X14.here hx rfl (hb hby at_124) rfl kont) ?_
          show own_Go p e below s _ _ _ (T14.setTop (mkF m 126 #[.val (.int b0), .val (.int b1), .val (.int b2), .val (.int b3), .val (.int bp), .val (.int bq), .val (.ref bb), .val (.int fr), .val (.int to), .val (.int (0 : Int32))] [(.int to), (.int fr), (.ref bb)]))
          refine own_cS X14 hx hml hZ hown (hw _ (List.mem_of_getElem? (i := 6) rfl)) (hw _ (List.mem_of_getElem? (i := 7) rfl)) (hw _ (List.mem_of_getElem? (i := 8) rfl)) (hw _ (List.mem_of_getElem? (i := 9) rfl)) (by decide) (own_rm2 l Z a0 hw bb fr to fb i0 j0 h5 n0 sz5 Vbb_5 hi hj hij hj4) eh14 (by decide) (W := 0) (by decide) (g := (mkF m 126 #[.val (.int b0), .val (.int b1), .val (.int b2), .val (.int b3), .val (.int bp), .val (.int bq), .val (.ref bb), .val (.int fr), .val (.int to), .val (.int (0 : Int32))] [(.int to), (.int fr), (.ref bb)])) rfl rfl own_pd1 (argsL := [(.ref bb), (.int fr), (.int to)]) (rest := []) rfl rfl rfl (by show 2 * 0 + _ ≤ _; exact Nat.le_of_eq rfl) (hb hby at_126) (by decide) (by decide) ?_
          intro T15 L15 v15 X15 hQ15
          obtain ⟨hd15, eh15, le15⟩ := hQ15
          rcases hd15 with ⟨rfl, hA⟩ | ⟨rfl, hA⟩
          · have N15 := own_nil N14 le15
            show own_Go p e below s _ _ _ (T15.setTop (mkF m 129 #[.val (.int b0), .val (.int b1), .val (.int b2), .val (.int b3), .val (.int bp), .val (.int bq), .val (.ref bb), .val (.int fr), .val (.int to), .val (.int (0 : Int32))] [(.int (1 : Int32))]))
            exact absurd (hA) (fun A => hP3 (fun u1 u2 => A 3 (by rw [hi] at u1; exact Int.ofNat_le.mp u1) (by rw [hj] at u2; exact Int.ofNat_lt.mp u2)))
          · have N15 := own_nil N14 le15
            show own_Go p e below s _ _ _ (T15.setTop (mkF m 129 #[.val (.int b0), .val (.int b1), .val (.int b2), .val (.int b3), .val (.int bp), .val (.int bq), .val (.ref bb), .val (.int fr), .val (.int to), .val (.int (0 : Int32))] [(.int (0 : Int32))]))
            refine own_st (fun _ kont => XS.iload X15.here hx rfl (hb hby at_129) rfl kont) ?_
            show own_Go p e below s _ _ _ (T15.setTop (mkF m 131 #[.val (.int b0), .val (.int b1), .val (.int b2), .val (.int b3), .val (.int bp), .val (.int bq), .val (.ref bb), .val (.int fr), .val (.int to), .val (.int (0 : Int32))] [(.int (0 : Int32)), (.int (0 : Int32))]))
            refine own_st (fun _ kont => XS.icmpNo X15.here hx rfl (hb hby at_131) rfl (by decide) kont) ?_
            show own_Go p e below s _ _ _ (T15.setTop (mkF m 134 #[.val (.int b0), .val (.int b1), .val (.int b2), .val (.int b3), .val (.int bp), .val (.int bq), .val (.ref bb), .val (.int fr), .val (.int to), .val (.int (0 : Int32))] []))
            refine own_st (fun _ kont => XS.iconst X15.here hx rfl (hb hby at_134) kont) ?_
            show own_Go p e below s _ _ _ (T15.setTop (mkF m 135 #[.val (.int b0), .val (.int b1), .val (.int b2), .val (.int b3), .val (.int bp), .val (.int bq), .val (.ref bb), .val (.int fr), .val (.int to), .val (.int (0 : Int32))] [(.int (1 : Int32))]))
            refine own_st (fun _ kont => XS.goto X15.here hx rfl (pc0 := 135) (pc' := 139) rfl (hb hby at_135) (by decide) (by decide) kont) ?_
            show own_Go p e below s _ _ _ (T15.setTop (mkF m 139 #[.val (.int b0), .val (.int b1), .val (.int b2), .val (.int b3), .val (.int bp), .val (.int bq), .val (.ref bb), .val (.int fr), .val (.int to), .val (.int (0 : Int32))] [(.int (1 : Int32))]))
            exact own_endN X15 hx hlk (t := .boolean) hret (by simp) (hb hby at_139) (w := (1 : Int32)) (by decide) ⟨rfl, N15⟩ (by decide) (by decide)
      · have N12 := own_nil N10 le12
        show own_Go p e below s _ _ _ (T12.setTop (mkF m 95 #[.val (.int b0), .val (.int b1), .val (.int b2), .val (.int b3), .val (.int bp), .val (.int bq), .val (.ref bb), .val (.int fr), .val (.int to), .unset] [(.int (0 : Int32))]))
        refine own_st (fun _ kont => XS.ifYes X12.here hx rfl (pc0 := 95) (pc' := 117) rfl (hb hby at_95) rfl (by decide) (by decide) (by decide) kont) ?_
        show own_Go p e below s _ _ _ (T12.setTop (mkF m 117 #[.val (.int b0), .val (.int b1), .val (.int b2), .val (.int b3), .val (.int bp), .val (.int bq), .val (.ref bb), .val (.int fr), .val (.int to), .unset] []))
        refine own_st (fun _ kont => XS.iconst X12.here hx rfl (hb hby at_117) kont) ?_
        show own_Go p e below s _ _ _ (T12.setTop (mkF m 118 #[.val (.int b0), .val (.int b1), .val (.int b2), .val (.int b3), .val (.int bp), .val (.int bq), .val (.ref bb), .val (.int fr), .val (.int to), .unset] [(.int (0 : Int32))]))
        refine own_st (fun _ kont => XS.istore X12.here hx rfl (hb hby at_118) rfl (l' := #[.val (.int b0), .val (.int b1), .val (.int b2), .val (.int b3), .val (.int bp), .val (.int bq), .val (.ref bb), .val (.int fr), .val (.int to), .val (.int (0 : Int32))]) rfl kont) ?_
        show own_Go p e below s _ _ _ (T12.setTop (mkF m 120 #[.val (.int b0), .val (.int b1), .val (.int b2), .val (.int b3), .val (.int bp), .val (.int bq), .val (.ref bb), .val (.int fr), .val (.int to), .val (.int (0 : Int32))] []))
        refine own_st (fun _ kont => XS.aload X12.here hx rfl (hb hby at_120) rfl rfl kont) ?_
        show own_Go p e below s _ _ _ (T12.setTop (mkF m 122 #[.val (.int b0), .val (.int b1), .val (.int b2), .val (.int b3), .val (.int bp), .val (.int bq), .val (.ref bb), .val (.int fr), .val (.int to), .val (.int (0 : Int32))] [(.ref bb)]))
        refine own_st (fun _ kont => XS.iload X12.here hx rfl (hb hby at_122) rfl kont) ?_
        show own_Go p e below s _ _ _ (T12.setTop (mkF m 124 #[.val (.int b0), .val (.int b1), .val (.int b2), .val (.int b3), .val (.int bp), .val (.int bq), .val (.ref bb), .val (.int fr), .val (.int to), .val (.int (0 : Int32))] [(.int fr), (.ref bb)]))
        refine own_st (fun _ kont => XS.iload X12.here hx rfl (hb hby at_124) rfl kont) ?_
        show own_Go p e below s _ _ _ (T12.setTop (mkF m 126 #[.val (.int b0), .val (.int b1), .val (.int b2), .val (.int b3), .val (.int bp), .val (.int bq), .val (.ref bb), .val (.int fr), .val (.int to), .val (.int (0 : Int32))] [(.int to), (.int fr), (.ref bb)]))
        refine own_cS X12 hx hml hZ hown (hw _ (List.mem_of_getElem? (i := 6) rfl)) (hw _ (List.mem_of_getElem? (i := 7) rfl)) (hw _ (List.mem_of_getElem? (i := 8) rfl)) (hw _ (List.mem_of_getElem? (i := 9) rfl)) (by decide) (own_rm2 l Z a0 hw bb fr to fb i0 j0 h5 n0 sz5 Vbb_5 hi hj hij hj4) eh12 (by decide) (W := 0) (by decide) (g := (mkF m 126 #[.val (.int b0), .val (.int b1), .val (.int b2), .val (.int b3), .val (.int bp), .val (.int bq), .val (.ref bb), .val (.int fr), .val (.int to), .val (.int (0 : Int32))] [(.int to), (.int fr), (.ref bb)])) rfl rfl own_pd1 (argsL := [(.ref bb), (.int fr), (.int to)]) (rest := []) rfl rfl rfl (by show 2 * 0 + _ ≤ _; exact Nat.le_of_eq rfl) (hb hby at_126) (by decide) (by decide) ?_
        intro T13 L13 v13 X13 hQ13
        obtain ⟨hd13, eh13, le13⟩ := hQ13
        rcases hd13 with ⟨rfl, hA⟩ | ⟨rfl, hA⟩
        · have N13 := own_nil N12 le13
          show own_Go p e below s _ _ _ (T13.setTop (mkF m 129 #[.val (.int b0), .val (.int b1), .val (.int b2), .val (.int b3), .val (.int bp), .val (.int bq), .val (.ref bb), .val (.int fr), .val (.int to), .val (.int (0 : Int32))] [(.int (1 : Int32))]))
          exact absurd (hA) (fun A => hP2 (fun u1 u2 => A 2 (by rw [hi] at u1; exact Int.ofNat_le.mp u1) (by rw [hj] at u2; exact Int.ofNat_lt.mp u2)))
        · have N13 := own_nil N12 le13
          show own_Go p e below s _ _ _ (T13.setTop (mkF m 129 #[.val (.int b0), .val (.int b1), .val (.int b2), .val (.int b3), .val (.int bp), .val (.int bq), .val (.ref bb), .val (.int fr), .val (.int to), .val (.int (0 : Int32))] [(.int (0 : Int32))]))
          refine own_st (fun _ kont => XS.iload X13.here hx rfl (hb hby at_129) rfl kont) ?_
          show own_Go p e below s _ _ _ (T13.setTop (mkF m 131 #[.val (.int b0), .val (.int b1), .val (.int b2), .val (.int b3), .val (.int bp), .val (.int bq), .val (.ref bb), .val (.int fr), .val (.int to), .val (.int (0 : Int32))] [(.int (0 : Int32)), (.int (0 : Int32))]))
          refine own_st (fun _ kont => XS.icmpNo X13.here hx rfl (hb hby at_131) rfl (by decide) kont) ?_
          show own_Go p e below s _ _ _ (T13.setTop (mkF m 134 #[.val (.int b0), .val (.int b1), .val (.int b2), .val (.int b3), .val (.int bp), .val (.int bq), .val (.ref bb), .val (.int fr), .val (.int to), .val (.int (0 : Int32))] []))
          refine own_st (fun _ kont => XS.iconst X13.here hx rfl (hb hby at_134) kont) ?_
          show own_Go p e below s _ _ _ (T13.setTop (mkF m 135 #[.val (.int b0), .val (.int b1), .val (.int b2), .val (.int b3), .val (.int bp), .val (.int bq), .val (.ref bb), .val (.int fr), .val (.int to), .val (.int (0 : Int32))] [(.int (1 : Int32))]))
          refine own_st (fun _ kont => XS.goto X13.here hx rfl (pc0 := 135) (pc' := 139) rfl (hb hby at_135) (by decide) (by decide) kont) ?_
          show own_Go p e below s _ _ _ (T13.setTop (mkF m 139 #[.val (.int b0), .val (.int b1), .val (.int b2), .val (.int b3), .val (.int bp), .val (.int bq), .val (.ref bb), .val (.int fr), .val (.int to), .val (.int (0 : Int32))] [(.int (1 : Int32))]))
          exact own_endN X13 hx hlk (t := .boolean) hret (by simp) (hb hby at_139) (w := (1 : Int32)) (by decide) ⟨rfl, N13⟩ (by decide) (by decide)
    · have N10 := own_nil N8 le10
      show own_Go p e below s _ _ _ (T10.setTop (mkF m 80 #[.val (.int b0), .val (.int b1), .val (.int b2), .val (.int b3), .val (.int bp), .val (.int bq), .val (.ref bb), .val (.int fr), .val (.int to), .unset] [(.int (0 : Int32))]))
      refine own_st (fun _ kont => XS.ifYes X10.here hx rfl (pc0 := 80) (pc' := 117) rfl (hb hby at_80) rfl (by decide) (by decide) (by decide) kont) ?_
      show own_Go p e below s _ _ _ (T10.setTop (mkF m 117 #[.val (.int b0), .val (.int b1), .val (.int b2), .val (.int b3), .val (.int bp), .val (.int bq), .val (.ref bb), .val (.int fr), .val (.int to), .unset] []))
      refine own_st (fun _ kont => XS.iconst X10.here hx rfl (hb hby at_117) kont) ?_
      show own_Go p e below s _ _ _ (T10.setTop (mkF m 118 #[.val (.int b0), .val (.int b1), .val (.int b2), .val (.int b3), .val (.int bp), .val (.int bq), .val (.ref bb), .val (.int fr), .val (.int to), .unset] [(.int (0 : Int32))]))
      refine own_st (fun _ kont => XS.istore X10.here hx rfl (hb hby at_118) rfl (l' := #[.val (.int b0), .val (.int b1), .val (.int b2), .val (.int b3), .val (.int bp), .val (.int bq), .val (.ref bb), .val (.int fr), .val (.int to), .val (.int (0 : Int32))]) rfl kont) ?_
      show own_Go p e below s _ _ _ (T10.setTop (mkF m 120 #[.val (.int b0), .val (.int b1), .val (.int b2), .val (.int b3), .val (.int bp), .val (.int bq), .val (.ref bb), .val (.int fr), .val (.int to), .val (.int (0 : Int32))] []))
      refine own_st (fun _ kont => XS.aload X10.here hx rfl (hb hby at_120) rfl rfl kont) ?_
      show own_Go p e below s _ _ _ (T10.setTop (mkF m 122 #[.val (.int b0), .val (.int b1), .val (.int b2), .val (.int b3), .val (.int bp), .val (.int bq), .val (.ref bb), .val (.int fr), .val (.int to), .val (.int (0 : Int32))] [(.ref bb)]))
      refine own_st (fun _ kont => XS.iload X10.here hx rfl (hb hby at_122) rfl kont) ?_
      show own_Go p e below s _ _ _ (T10.setTop (mkF m 124 #[.val (.int b0), .val (.int b1), .val (.int b2), .val (.int b3), .val (.int bp), .val (.int bq), .val (.ref bb), .val (.int fr), .val (.int to), .val (.int (0 : Int32))] [(.int fr), (.ref bb)]))
      refine own_st (fun _ kont => XS.iload X10.here hx rfl (hb hby at_124) rfl kont) ?_
      show own_Go p e below s _ _ _ (T10.setTop (mkF m 126 #[.val (.int b0), .val (.int b1), .val (.int b2), .val (.int b3), .val (.int bp), .val (.int bq), .val (.ref bb), .val (.int fr), .val (.int to), .val (.int (0 : Int32))] [(.int to), (.int fr), (.ref bb)]))
      refine own_cS X10 hx hml hZ hown (hw _ (List.mem_of_getElem? (i := 6) rfl)) (hw _ (List.mem_of_getElem? (i := 7) rfl)) (hw _ (List.mem_of_getElem? (i := 8) rfl)) (hw _ (List.mem_of_getElem? (i := 9) rfl)) (by decide) (own_rm2 l Z a0 hw bb fr to fb i0 j0 h5 n0 sz5 Vbb_5 hi hj hij hj4) eh10 (by decide) (W := 0) (by decide) (g := (mkF m 126 #[.val (.int b0), .val (.int b1), .val (.int b2), .val (.int b3), .val (.int bp), .val (.int bq), .val (.ref bb), .val (.int fr), .val (.int to), .val (.int (0 : Int32))] [(.int to), (.int fr), (.ref bb)])) rfl rfl own_pd1 (argsL := [(.ref bb), (.int fr), (.int to)]) (rest := []) rfl rfl rfl (by show 2 * 0 + _ ≤ _; exact Nat.le_of_eq rfl) (hb hby at_126) (by decide) (by decide) ?_
      intro T11 L11 v11 X11 hQ11
      obtain ⟨hd11, eh11, le11⟩ := hQ11
      rcases hd11 with ⟨rfl, hA⟩ | ⟨rfl, hA⟩
      · have N11 := own_nil N10 le11
        show own_Go p e below s _ _ _ (T11.setTop (mkF m 129 #[.val (.int b0), .val (.int b1), .val (.int b2), .val (.int b3), .val (.int bp), .val (.int bq), .val (.ref bb), .val (.int fr), .val (.int to), .val (.int (0 : Int32))] [(.int (1 : Int32))]))
        exact absurd (hA) (fun A => hP1 (fun u1 u2 => A 1 (by rw [hi] at u1; exact Int.ofNat_le.mp u1) (by rw [hj] at u2; exact Int.ofNat_lt.mp u2)))
      · have N11 := own_nil N10 le11
        show own_Go p e below s _ _ _ (T11.setTop (mkF m 129 #[.val (.int b0), .val (.int b1), .val (.int b2), .val (.int b3), .val (.int bp), .val (.int bq), .val (.ref bb), .val (.int fr), .val (.int to), .val (.int (0 : Int32))] [(.int (0 : Int32))]))
        refine own_st (fun _ kont => XS.iload X11.here hx rfl (hb hby at_129) rfl kont) ?_
        show own_Go p e below s _ _ _ (T11.setTop (mkF m 131 #[.val (.int b0), .val (.int b1), .val (.int b2), .val (.int b3), .val (.int bp), .val (.int bq), .val (.ref bb), .val (.int fr), .val (.int to), .val (.int (0 : Int32))] [(.int (0 : Int32)), (.int (0 : Int32))]))
        refine own_st (fun _ kont => XS.icmpNo X11.here hx rfl (hb hby at_131) rfl (by decide) kont) ?_
        show own_Go p e below s _ _ _ (T11.setTop (mkF m 134 #[.val (.int b0), .val (.int b1), .val (.int b2), .val (.int b3), .val (.int bp), .val (.int bq), .val (.ref bb), .val (.int fr), .val (.int to), .val (.int (0 : Int32))] []))
        refine own_st (fun _ kont => XS.iconst X11.here hx rfl (hb hby at_134) kont) ?_
        show own_Go p e below s _ _ _ (T11.setTop (mkF m 135 #[.val (.int b0), .val (.int b1), .val (.int b2), .val (.int b3), .val (.int bp), .val (.int bq), .val (.ref bb), .val (.int fr), .val (.int to), .val (.int (0 : Int32))] [(.int (1 : Int32))]))
        refine own_st (fun _ kont => XS.goto X11.here hx rfl (pc0 := 135) (pc' := 139) rfl (hb hby at_135) (by decide) (by decide) kont) ?_
        show own_Go p e below s _ _ _ (T11.setTop (mkF m 139 #[.val (.int b0), .val (.int b1), .val (.int b2), .val (.int b3), .val (.int bp), .val (.int bq), .val (.ref bb), .val (.int fr), .val (.int to), .val (.int (0 : Int32))] [(.int (1 : Int32))]))
        exact own_endN X11 hx hlk (t := .boolean) hret (by simp) (hb hby at_139) (w := (1 : Int32)) (by decide) ⟨rfl, N11⟩ (by decide) (by decide)
  · have N8 := own_nil N5 le8
    show own_Go p e below s _ _ _ (T8.setTop (mkF m 65 #[.val (.int b0), .val (.int b1), .val (.int b2), .val (.int b3), .val (.int bp), .val (.int bq), .val (.ref bb), .val (.int fr), .val (.int to), .unset] [(.int (0 : Int32))]))
    refine own_st (fun _ kont => XS.ifYes X8.here hx rfl (pc0 := 65) (pc' := 117) rfl (hb hby at_65) rfl (by decide) (by decide) (by decide) kont) ?_
    show own_Go p e below s _ _ _ (T8.setTop (mkF m 117 #[.val (.int b0), .val (.int b1), .val (.int b2), .val (.int b3), .val (.int bp), .val (.int bq), .val (.ref bb), .val (.int fr), .val (.int to), .unset] []))
    refine own_st (fun _ kont => XS.iconst X8.here hx rfl (hb hby at_117) kont) ?_
    show own_Go p e below s _ _ _ (T8.setTop (mkF m 118 #[.val (.int b0), .val (.int b1), .val (.int b2), .val (.int b3), .val (.int bp), .val (.int bq), .val (.ref bb), .val (.int fr), .val (.int to), .unset] [(.int (0 : Int32))]))
    refine own_st (fun _ kont => XS.istore X8.here hx rfl (hb hby at_118) rfl (l' := #[.val (.int b0), .val (.int b1), .val (.int b2), .val (.int b3), .val (.int bp), .val (.int bq), .val (.ref bb), .val (.int fr), .val (.int to), .val (.int (0 : Int32))]) rfl kont) ?_
    show own_Go p e below s _ _ _ (T8.setTop (mkF m 120 #[.val (.int b0), .val (.int b1), .val (.int b2), .val (.int b3), .val (.int bp), .val (.int bq), .val (.ref bb), .val (.int fr), .val (.int to), .val (.int (0 : Int32))] []))
    refine own_st (fun _ kont => XS.aload X8.here hx rfl (hb hby at_120) rfl rfl kont) ?_
    show own_Go p e below s _ _ _ (T8.setTop (mkF m 122 #[.val (.int b0), .val (.int b1), .val (.int b2), .val (.int b3), .val (.int bp), .val (.int bq), .val (.ref bb), .val (.int fr), .val (.int to), .val (.int (0 : Int32))] [(.ref bb)]))
    refine own_st (fun _ kont => XS.iload X8.here hx rfl (hb hby at_122) rfl kont) ?_
    show own_Go p e below s _ _ _ (T8.setTop (mkF m 124 #[.val (.int b0), .val (.int b1), .val (.int b2), .val (.int b3), .val (.int bp), .val (.int bq), .val (.ref bb), .val (.int fr), .val (.int to), .val (.int (0 : Int32))] [(.int fr), (.ref bb)]))
    refine own_st (fun _ kont => XS.iload X8.here hx rfl (hb hby at_124) rfl kont) ?_
    show own_Go p e below s _ _ _ (T8.setTop (mkF m 126 #[.val (.int b0), .val (.int b1), .val (.int b2), .val (.int b3), .val (.int bp), .val (.int bq), .val (.ref bb), .val (.int fr), .val (.int to), .val (.int (0 : Int32))] [(.int to), (.int fr), (.ref bb)]))
    refine own_cS X8 hx hml hZ hown (hw _ (List.mem_of_getElem? (i := 6) rfl)) (hw _ (List.mem_of_getElem? (i := 7) rfl)) (hw _ (List.mem_of_getElem? (i := 8) rfl)) (hw _ (List.mem_of_getElem? (i := 9) rfl)) (by decide) (own_rm2 l Z a0 hw bb fr to fb i0 j0 h5 n0 sz5 Vbb_5 hi hj hij hj4) eh8 (by decide) (W := 0) (by decide) (g := (mkF m 126 #[.val (.int b0), .val (.int b1), .val (.int b2), .val (.int b3), .val (.int bp), .val (.int bq), .val (.ref bb), .val (.int fr), .val (.int to), .val (.int (0 : Int32))] [(.int to), (.int fr), (.ref bb)])) rfl rfl own_pd1 (argsL := [(.ref bb), (.int fr), (.int to)]) (rest := []) rfl rfl rfl (by show 2 * 0 + _ ≤ _; exact Nat.le_of_eq rfl) (hb hby at_126) (by decide) (by decide) ?_
    intro T9 L9 v9 X9 hQ9
    obtain ⟨hd9, eh9, le9⟩ := hQ9
    rcases hd9 with ⟨rfl, hA⟩ | ⟨rfl, hA⟩
    · have N9 := own_nil N8 le9
      show own_Go p e below s _ _ _ (T9.setTop (mkF m 129 #[.val (.int b0), .val (.int b1), .val (.int b2), .val (.int b3), .val (.int bp), .val (.int bq), .val (.ref bb), .val (.int fr), .val (.int to), .val (.int (0 : Int32))] [(.int (1 : Int32))]))
      exact absurd (hA) (fun A => hP0 (fun u1 u2 => A 0 (by rw [hi] at u1; exact Int.ofNat_le.mp u1) (by rw [hj] at u2; exact Int.ofNat_lt.mp u2)))
    · have N9 := own_nil N8 le9
      show own_Go p e below s _ _ _ (T9.setTop (mkF m 129 #[.val (.int b0), .val (.int b1), .val (.int b2), .val (.int b3), .val (.int bp), .val (.int bq), .val (.ref bb), .val (.int fr), .val (.int to), .val (.int (0 : Int32))] [(.int (0 : Int32))]))
      refine own_st (fun _ kont => XS.iload X9.here hx rfl (hb hby at_129) rfl kont) ?_
      show own_Go p e below s _ _ _ (T9.setTop (mkF m 131 #[.val (.int b0), .val (.int b1), .val (.int b2), .val (.int b3), .val (.int bp), .val (.int bq), .val (.ref bb), .val (.int fr), .val (.int to), .val (.int (0 : Int32))] [(.int (0 : Int32)), (.int (0 : Int32))]))
      refine own_st (fun _ kont => XS.icmpNo X9.here hx rfl (hb hby at_131) rfl (by decide) kont) ?_
      show own_Go p e below s _ _ _ (T9.setTop (mkF m 134 #[.val (.int b0), .val (.int b1), .val (.int b2), .val (.int b3), .val (.int bp), .val (.int bq), .val (.ref bb), .val (.int fr), .val (.int to), .val (.int (0 : Int32))] []))
      refine own_st (fun _ kont => XS.iconst X9.here hx rfl (hb hby at_134) kont) ?_
      show own_Go p e below s _ _ _ (T9.setTop (mkF m 135 #[.val (.int b0), .val (.int b1), .val (.int b2), .val (.int b3), .val (.int bp), .val (.int bq), .val (.ref bb), .val (.int fr), .val (.int to), .val (.int (0 : Int32))] [(.int (1 : Int32))]))
      refine own_st (fun _ kont => XS.goto X9.here hx rfl (pc0 := 135) (pc' := 139) rfl (hb hby at_135) (by decide) (by decide) kont) ?_
      show own_Go p e below s _ _ _ (T9.setTop (mkF m 139 #[.val (.int b0), .val (.int b1), .val (.int b2), .val (.int b3), .val (.int bp), .val (.int bq), .val (.ref bb), .val (.int fr), .val (.int to), .val (.int (0 : Int32))] [(.int (1 : Int32))]))
      exact own_endN X9 hx hlk (t := .boolean) hret (by simp) (hb hby at_139) (w := (1 : Int32)) (by decide) ⟨rfl, N9⟩ (by decide) (by decide)
set_option maxRecDepth 65536 in
set_option maxHeartbeats 40000000 in
theorem own_comes {Post : Tables → Env → Array Value → State → Outcome → State → Prop} (hpost : ∀ tb e args s v u, (limb_1_1.after args s (.returned v) u = true ∧ limb_1_2.after args s (.returned v) u = true ∧ True) → FrameEnd s (.returned v) u (Jvm.fieldLocs frame_1_writes args s ++ Jvm.arrayLocs frame_1_arrays args s ++ Jvm.staticLocs frame_1_statics s) 16 128 → Post tb e args s (.returned v) u) :
    ArmFor flags0 classFile x code maxLocals ret World_1 tables_1 room_1 Calls_1 rest_1 Pre_1 Post := by
  intro l hfl _ _ p e ha hc hk s m args below hf hA hF happ hP
  obtain ⟨hcalls, hrest, hpre⟩ := hP
  obtain ⟨-, -, -, hnamed, -, -, -, hat⟩ := (Spec.applies_iff hf).mp happ
  obtain ⟨hg, hn⟩ := and_e (Cond.before_iff.mp (show (Jvm.Cond.and given_1 narrow_1).before args s = true from hpre))
  obtain ⟨gc, r0⟩ := and_e hg
  obtain ⟨k0, r1⟩ := and_e r0
  obtain ⟨k1, r2⟩ := and_e r1
  obtain ⟨k2, r3⟩ := and_e r2
  obtain ⟨k3, r4⟩ := and_e r3
  obtain ⟨k4, r5⟩ := and_e r4
  obtain ⟨w0, w1, w2, w3, w4, w5, rfl⟩ : ∃ w0 w1 w2 w3 w4 w5 : Value, args = #[w0, w1, w2, w3, w4, w5] := by
    have hs : args.size = 6 := by simpa [Cond.value, given_1] using gc
    obtain ⟨L⟩ := args
    match L, hs with
    | [w0, w1, w2, w3, w4, w5], _ => exact ⟨w0, w1, w2, w3, w4, w5, rfl⟩
  have hw := fun d (hd : d ∈ tables_1) => atoms_spec (ws := Jvm.Cond.code x code maxLocals ret :: tables_1) hat d (List.mem_cons_of_mem _ hd)
  obtain ⟨i0, ei0⟩ := is_v k0
  obtain rfl : w0 = (.int i0) := Option.some.inj ei0
  obtain ⟨i1, ei1⟩ := is_v k1
  obtain rfl : w1 = (.int i1) := Option.some.inj ei1
  obtain ⟨i2, ei2⟩ := is_v k2
  obtain rfl : w2 = (.int i2) := Option.some.inj ei2
  obtain ⟨i3, ei3⟩ := is_v k3
  obtain rfl : w3 = (.int i3) := Option.some.inj ei3
  obtain ⟨i4, ei4⟩ := is_v k4
  obtain rfl : w4 = (.int i4) := Option.some.inj ei4
  obtain ⟨i5, ei5⟩ := is_v r5
  obtain rfl : w5 = (.int i5) := Option.some.inj ei5
  obtain ⟨n, o, h1, h2, h3, _, L, rfl, ⟨rfl, N⟩, hq⟩ := own_rm0 l s _ hw i0 i1 i2 i3 i4 i5 s.heap s.heap.size (Nat.le_refl _)  tables_1 p e ha hc hk s m _ below hf ((Spec.applies_iff_loose hf).mp happ).1 ⟨rfl, State.Warmed39.refl s, rfl⟩ trivial
  refine ⟨n, _, h1, h2, h3, hpost _ _ _ _ _ _ ⟨Cond.after_iff.mpr rfl, Cond.after_iff.mpr (eq_i res_at (Term.int_eval (1)) rfl), trivial⟩ ⟨hq.1, hq.2.1, (hq.2.2.sift fun y hy => Or.inr (N y hy)).mono (by decide) (by decide)⟩⟩
theorem main_1_1 : Claimed_1_1 := own_comes fun _ _ _ _ _ _ h hF => ⟨h.1, hF⟩
theorem main_1_2 : Claimed_1_2 := own_comes fun _ _ _ _ _ _ h hF => ⟨h.2.1, hF⟩
end Jvm.Pilot.@@N@@
namespace Jvm.Pilot.@@N@@
open Jvm Jvm.ClassFile Sem Op Lib Jvm.Free Jvm.Stand Jvm.Pilot.@@N@@.Jvm.D
/-! MADE BY PROGRAM (witnessworld.py) out of the Statement's table words and the real class files: 9 classes; the members and pool entries that the words name. The judged class is class 1, her method 1. -/
namespace start1
open Jvm.ClassFile
def u (s : String) : CpInfo := .utf8 (stringToUtf16 s)
/-- a pool by its gaps: so many unusable entries, then the entry; so many at the end -/
def gap : Nat → List CpInfo → List CpInfo
  | 0, r => r
  | n + 1, r => .unusable :: gap n r
def poolList (es : List (Nat × CpInfo)) (last : Nat) : List CpInfo := es.foldr (fun e r => gap e.1 (e.2 :: r)) (gap last [])
def pool (es : List (Nat × CpInfo)) (last : Nat) : Array CpInfo := ⟨poolList es last⟩
def fileOf (pool : Array CpInfo) (this : Nat) (attrs : Array Attribute := #[]) (ms : Array MethodInfo := #[]) (fl : Nat := 33) (sup : Nat := 0) (ifs : Array Nat := #[]) (fds : Array FieldInfo := #[]) : ClassFile where
  minorVersion := 0
  majorVersion := 65
  constantPool := pool
  accessFlags := fl
  thisClass := this
  superClass := sup
  interfaces := ifs
  fields := fds
  methods := ms
  attributes := attrs
def plain (name : String) (sup : Option ClassId) : Class where
  name := name
  kind := .ordinary
  loader := none
  accessFlags := 33
  super := sup
  interfaces := #[]
  cf := none
  fields := #[]
  methods := #[]
  instanceTypes := #[]
  staticTypes := #[]
  resolved := #[]
  callSites := []
  init := .initialized
  statics := none
  mirror := none

def pool0 : Array CpInfo := pool [(5, u "<init>"), (0, u "()V"), (1, .class_ 10), (1, u "java/lang/Object")] 113

def k0m0 : Method := { name := "<init>", desc := "()V", sig := { parameters := [], returnType := none }, accessFlags := 1, code := none }
/-- java/lang/Object -/
def k0 : Class := { plain "java/lang/Object" none with
  accessFlags := 33
  interfaces := #[]
  cf := some (fileOf pool0 8 #[] #[{ accessFlags := 1, nameIndex := 5, descriptorIndex := 6, attributes := #[] }] 33 0 #[] #[])
  fields := #[]
  methods := #[k0m0]
  instanceTypes := #[]
  staticTypes := #[]
  resolved := Array.replicate 124 none
  statics := none }

def pool1 : Array CpInfo := pool [(2, .class_ 4), (1, u "java/lang/Object"), (0, u "<init>"), (0, u "()V"), (0, .integer 2147483647), (0, .methodref 9 10), (0, .class_ 11), (0, .nameAndType 12 13), (0, u "com/example/refset_loom/refsetloom/rf2/BytesIsDigitsPinLaw"), (0, u "ok"), (0, u "(IIIB)Z"), (0, .methodref 15 16), (0, .class_ 17), (0, .nameAndType 18 19), (0, u "com/example/refset_loom/refsetloom/rf2/Bytes"), (0, u "isDigits"), (0, u "([BII)Z"), (2, u "law"), (0, u "(IIIIII)Z")] 5

def k1m0 : Method := { name := "<init>", desc := "()V", sig := { parameters := [], returnType := none }, accessFlags := 2, code := none }
def k1c1 : Code := { maxStack := 5, maxLocals := 10, code := code, exceptionTable := #[], attributes := #[] }
def k1m1 : Method := { name := "law", desc := "(IIIIII)Z", sig := { parameters := [.int, .int, .int, .int, .int, .int], returnType := some .boolean }, accessFlags := 9, code := some k1c1 }
def k1c2 : Code := { maxStack := 2, maxLocals := 4, code := method_3_code, exceptionTable := #[], attributes := #[] }
def k1m2 : Method := { name := "ok", desc := "(IIIB)Z", sig := { parameters := [.int, .int, .int, .byte], returnType := some .boolean }, accessFlags := 10, code := some k1c2 }
/-- com/example/refset_loom/refsetloom/rf2/BytesIsDigitsPinLaw -/
def k1 : Class := { plain "com/example/refset_loom/refsetloom/rf2/BytesIsDigitsPinLaw" (some 0) with
  accessFlags := 49
  interfaces := #[]
  cf := some (fileOf pool1 9 #[] #[{ accessFlags := 2, nameIndex := 5, descriptorIndex := 6, attributes := #[] }, { accessFlags := 9, nameIndex := 22, descriptorIndex := 23, attributes := #[] }, { accessFlags := 10, nameIndex := 12, descriptorIndex := 13, attributes := #[] }] 49 2 #[] #[])
  fields := #[]
  methods := #[k1m0, k1m1, k1m2]
  instanceTypes := #[]
  staticTypes := #[]
  resolved := Array.replicate 29 none
  statics := none }

def pool2 : Array CpInfo := pool [(1, .class_ 2), (0, u "com/example/refset_loom/refsetloom/rf2/Bytes"), (1, .class_ 6), (1, u "java/lang/Object"), (0, u "<init>"), (0, u "()V"), (2, u "WORDS"), (0, u "Ljava/lang/invoke/VarHandle;"), (35, u "EACH_BYTE"), (0, u "J"), (3, u "HIGH_BITS"), (0, u "LOW_BITS"), (0, u "DECIMAL"), (0, u "I"), (6, u "isDigits"), (0, u "([BII)Z")] 8

def k2m0 : Method := { name := "<init>", desc := "()V", sig := { parameters := [], returnType := none }, accessFlags := 2, code := none }
def k2c1 : Code := { maxStack := 2, maxLocals := 5, code := prog_125_method_5_code, exceptionTable := #[], attributes := #[] }
def k2m1 : Method := { name := "isDigits", desc := "([BII)Z", sig := { parameters := [(.array .byte), .int, .int], returnType := some .boolean }, accessFlags := 8, code := some k2c1 }
/-- com/example/refset_loom/refsetloom/rf2/Bytes -/
def k2 : Class := { plain "com/example/refset_loom/refsetloom/rf2/Bytes" (some 0) with
  accessFlags := 48
  interfaces := #[]
  cf := some (fileOf pool2 1 #[] #[{ accessFlags := 2, nameIndex := 7, descriptorIndex := 8, attributes := #[] }, { accessFlags := 8, nameIndex := 63, descriptorIndex := 64, attributes := #[] }] 48 4 #[] #[{ accessFlags := 24, nameIndex := 48, descriptorIndex := 49, attributes := #[] }, { accessFlags := 26, nameIndex := 53, descriptorIndex := 49, attributes := #[] }, { accessFlags := 26, nameIndex := 54, descriptorIndex := 49, attributes := #[] }, { accessFlags := 26, nameIndex := 55, descriptorIndex := 56, attributes := #[] }, { accessFlags := 26, nameIndex := 11, descriptorIndex := 12, attributes := #[] }])
  fields := #[{ name := "EACH_BYTE", type := .long, accessFlags := 24, slot := 0, constantValue := 0 }, { name := "HIGH_BITS", type := .long, accessFlags := 26, slot := 1, constantValue := 0 }, { name := "LOW_BITS", type := .long, accessFlags := 26, slot := 2, constantValue := 0 }, { name := "DECIMAL", type := .int, accessFlags := 26, slot := 3, constantValue := 0 }, { name := "WORDS", type := (.object "java/lang/invoke/VarHandle"), accessFlags := 26, slot := 4, constantValue := 0 }]
  methods := #[k2m0, k2m1]
  instanceTypes := #[]
  staticTypes := #[.long, .long, .long, .int, (.object "java/lang/invoke/VarHandle")]
  resolved := Array.replicate 73 none
  statics := none }

def pool3 : Array CpInfo := pool [(1, u "java/lang/Cloneable"), (0, .class_ 1), (0, u "java/lang/Object"), (0, .class_ 3)] 3

/-- java/lang/Cloneable -/
def k3 : Class := { plain "java/lang/Cloneable" (some 0) with
  accessFlags := 1537
  interfaces := #[]
  cf := some (fileOf pool3 2 #[] #[] 1537 4 #[] #[])
  fields := #[]
  methods := #[]
  instanceTypes := #[]
  staticTypes := #[]
  resolved := Array.replicate 8 none
  statics := none }

def pool4 : Array CpInfo := pool [(1, u "java/io/Serializable"), (0, .class_ 1), (0, u "java/lang/Object"), (0, .class_ 3)] 3

/-- java/io/Serializable -/
def k4 : Class := { plain "java/io/Serializable" (some 0) with
  accessFlags := 1537
  interfaces := #[]
  cf := some (fileOf pool4 2 #[] #[] 1537 4 #[] #[])
  fields := #[]
  methods := #[]
  instanceTypes := #[]
  staticTypes := #[]
  resolved := Array.replicate 8 none
  statics := none }

/-- the primitive byte -/
def k5 : Class := { plain "byte" none with kind := .primitive 'B', accessFlags := 0x411 }
/-- [B -/
def k6 : Class := { plain "[B" (some 0) with kind := .array 5 .byte, interfaces := #[3, 4], accessFlags := 1041 }

/-- the primitive int -/
def k7 : Class := { plain "int" none with kind := .primitive 'I', accessFlags := 0x411 }
/-- [I -/
def k8 : Class := { plain "[I" (some 0) with kind := .array 7 .int, interfaces := #[3, 4], accessFlags := 1041 }

def heap : Heap := #[]
def classes : Array Class := #[k0, k1, k2, k3, k4, k5, k6, k7, k8]
def interned : List (Array UInt16 × Addr) := []
def slotsUsed : Nat := 0
def theMethod : MethodId := ⟨1, 1⟩
def args0 : Array Value := #[.int 49, .int 50, .int 4, .int 60, .int 1, .int 2]
def aboutOver (below : List Frame) : State where
  vm := { classes := classes, interned := interned.toArray }
  heap := heap
  slotsUsed := slotsUsed
  threads := #[{ frames := .invoking theMethod args0 :: below }]
def below0 : List Frame := [.native { method := ⟨0, 0⟩, args := #[] }]
def about1 : State := aboutOver below0
def p0 : Program := .bare "" "" ""
def e0 : Env := launch0.env 0 0 0
theorem w_frames : about1.frames = Frame.invoking theMethod args0 :: below0 := rfl
set_option maxRecDepth 65536 in
theorem w_args : argsFit about1.vm theMethod args0 = true := by decide +kernel
set_option maxRecDepth 65536 in
theorem w_heap : heapFits about1 = true := by decide +kernel
set_option maxRecDepth 65536 in
theorem w_runnable : about1.curStatus? = some .runnable := by decide +kernel
set_option maxRecDepth 65536 in
theorem w_alone : about1.alone = true := by decide +kernel
set_option maxRecDepth 65536 in
theorem w_named : about1.methodNamed? x = some theMethod := by decide +kernel
set_option maxRecDepth 65536 in
theorem w_hears : about1.hears theMethod below0 = true := by decide +kernel
set_option maxRecDepth 65536 in
theorem w_ripe : about1.ripe theMethod args0 below0 = true := by decide +kernel
theorem w_running : about1.status = .running := rfl
set_option maxRecDepth 65536 in
theorem w_room : about1.hasRoom e0.platform room_1 = true :=
  launch0.hasRoom_least _ room_1 (by decide +kernel) (by decide +kernel) (by decide +kernel) (by decide +kernel) (by decide +kernel) (by decide +kernel)
theorem allAtoms_all (ts : List Jvm.Cond) (a : Array Jvm.Value) (st : Jvm.State) : (allAtoms ts).before a st = ts.all (fun c => c.before a st) := by
  induction ts with
  | nil => rfl
  | cons c t ih =>
    show (Jvm.Cond.and c (allAtoms t)).before a st = _
    rw [Jvm.Cond.before_and, ih, List.all_cons]
def words1 : List Jvm.Cond := Jvm.Cond.code x code maxLocals ret :: tables_1
/-- a 'code' word, met by the world's own term for the bytes: nothing is compared byte by byte -/
theorem code_word {y : MethodName} {bytes : ByteArray} {mx : Nat} {rt : Option FieldType} {a : Array Value} {s : State} {m : MethodId} {meth : Method} {c : Code} (h1 : s.methodNamed? y = some m) (h2 : s.vm.method? m = some meth) (h3 : meth.code = some c) (h4 : c.code = bytes)
    (h5 : (c.maxLocals == mx && c.exceptionTable.isEmpty && decide (c.maxStack ≤ mostOperands) && decide (meth.sig.returnType = rt) && !meth.locks && decide (parseMethodDescriptor y.desc = some meth.sig)) = true) : (Jvm.Cond.code y bytes mx rt).before a s = true := by
  simp only [Bool.and_eq_true, beq_iff_eq, Bool.not_eq_true', decide_eq_true_eq] at h5
  obtain ⟨⟨⟨⟨⟨g1, g2⟩, g3⟩, g4⟩, g5⟩, g6⟩ := h5
  simp [Cond.before, Cond.holds, Cond.value, h1, h2, h3, h4, g1, g2, g3, g4, g5, g6]
def isCode : Jvm.Cond → Bool
  | .code _ _ _ _ => true
  | _ => false
theorem all_split {L : List Jvm.Cond} {P : Jvm.Cond → Bool} (h1 : L.all (fun c => isCode c || P c) = true) (h2 : ∀ c ∈ L.filter isCode, P c = true) : L.all P = true := by
  refine List.all_eq_true.mpr fun c hc => ?_
  have h := List.all_eq_true.mp h1 c hc
  rcases Bool.eq_false_or_eq_true (isCode c) with hi | hi
  · exact h2 c (List.mem_filter.mpr ⟨hc, hi⟩)
  · simpa [hi] using h
set_option maxRecDepth 65536 in
theorem w_c0 : (Jvm.Cond.code x code maxLocals ret).before args0 about1 = true := code_word (m := ⟨1, 1⟩) (meth := k1m1) (c := k1c1) (by decide +kernel) rfl rfl rfl (by decide +kernel)
set_option maxRecDepth 65536 in
theorem w_c1 : (Jvm.Cond.code ({ cls := "com/example/refset_loom/refsetloom/rf2/BytesIsDigitsPinLaw", name := "ok", desc := "(IIIB)Z" } : Jvm.MethodName) method_3_code (4 : Nat) (Option.some Jvm.ClassFile.FieldType.boolean)).before args0 about1 = true := code_word (m := ⟨1, 2⟩) (meth := k1m2) (c := k1c2) (by decide +kernel) rfl rfl rfl (by decide +kernel)
set_option maxRecDepth 65536 in
theorem w_c2 : (Jvm.Cond.code ({ cls := "com/example/refset_loom/refsetloom/rf2/Bytes", name := "isDigits", desc := "([BII)Z" } : Jvm.MethodName) prog_125_method_5_code (5 : Nat) (Option.some Jvm.ClassFile.FieldType.boolean)).before args0 about1 = true := code_word (m := ⟨2, 1⟩) (meth := k2m1) (c := k2c1) (by decide +kernel) rfl rfl rfl (by decide +kernel)
def codes1 : List Jvm.Cond := [Jvm.Cond.code x code maxLocals ret, Jvm.Cond.code ({ cls := "com/example/refset_loom/refsetloom/rf2/BytesIsDigitsPinLaw", name := "ok", desc := "(IIIB)Z" } : Jvm.MethodName) method_3_code (4 : Nat) (Option.some Jvm.ClassFile.FieldType.boolean), Jvm.Cond.code ({ cls := "com/example/refset_loom/refsetloom/rf2/Bytes", name := "isDigits", desc := "([BII)Z" } : Jvm.MethodName) prog_125_method_5_code (5 : Nat) (Option.some Jvm.ClassFile.FieldType.boolean)]
set_option maxRecDepth 65536 in
theorem codes_eq : words1.filter isCode = codes1 := rfl
theorem w_codes : ∀ c ∈ words1.filter isCode, c.before args0 about1 = true := by
  rw [codes_eq]
  intro c hc
  simp only [codes1, List.mem_cons, List.not_mem_nil, or_false] at hc
  rcases hc with rfl | rfl | rfl
  · exact w_c0
  · exact w_c1
  · exact w_c2
set_option maxRecDepth 65536 in
theorem w_t1 : words1.all (fun c => isCode c || c.before args0 about1) = true := by decide +kernel
theorem w_tables : (allAtoms (Jvm.Cond.code x code maxLocals ret :: tables_1)).before args0 about1 = true := by
  rw [allAtoms_all]
  show words1.all (fun c => c.before args0 about1) = true
  refine all_split ?_ w_codes
  rw [w_t1]
set_option maxRecDepth 65536 in
theorem w_case : (Jvm.Cond.and given_1 narrow_1).before args0 about1 = true := by decide +kernel
theorem w_applies : (headSpec (Jvm.Cond.code x code maxLocals ret :: tables_1) room_1).applies x e0.platform about1 = true :=
  (Spec.applies_iff w_frames).mpr ⟨w_running, w_runnable, w_alone, w_named, w_hears, w_ripe, w_room, w_tables⟩
theorem atStart : AtStart classFile x code maxLocals ret World_1 tables_1 room_1 Calls_1 rest_1 Pre_1 launch0 p0 e0 about1 theMethod args0 below0 :=
  ⟨lists_1, trivial, launch0.admits_env _ _ _, launch0.least_env, fairChoices_fair.cas, fairChoices_fair.clock, w_frames, w_args, w_heap, w_applies, trivial, trivial, w_case⟩
end start1
theorem witness_1 : WitnessClaimed_1 := ⟨start1.p0, start1.e0, start1.about1, start1.theMethod, start1.args0, start1.below0, start1.atStart⟩
end Jvm.Pilot.@@N@@
