import JvmDerived
import JvmDerived.Pilot.@@N@@Statement
import JvmDerived.Pilot.@@N@@Code
set_option linter.unusedVariables false
set_option linter.unusedSimpArgs false
namespace Jvm.Pilot.@@N@@
open Jvm Jvm.ClassFile Sem Op Lib Jvm.Free Jvm.Stand Jvm.LawKit Jvm.RoadKit Bundle Jvm.Pilot.@@N@@.Jvm.D
section OwnKit
variable {p : Program} {l : Launch} {e : Env} {R : Room} {s : State} {m : MethodId} {args : Array Value} {below : List Frame} {meth : Method} {c : Code} {T : State} {locs : List Loc} {cells slots : Nat} {Z : State} {a0 : Array Value} {h h' : Heap}
/-- what a body leaves: its value, the heap, the places written -/
abbrev own_P := Option Value → Heap → List Loc → Prop
/-- from here the run comes back, and leaves P -/
def own_Go (p : Program) (e : Env) (below : List Frame) (s : State) (P : own_P) (kc ks : Nat) (A : State) : Prop :=
  ∃ s₂ o, Steps p.tables e below A s₂ ∧ s₂.status = .running ∧ Ended s₂ below o ∧ ∃ v L, o = Outcome.returned v ∧ P v s₂.heap L ∧ FrameEnd s o s₂ L kc ks
theorem own_st {P : own_P} {kc ks : Nat} {A B : State} (hs : ∀ t, Steps p.tables e below B t → Steps p.tables e below A t) (k : own_Go p e below s P kc ks B) : own_Go p e below s P kc ks A := by
  obtain ⟨s₂, o, h1, h2⟩ := k
  exact ⟨s₂, o, hs _ h1, h2⟩
theorem own_stT {P : own_P} {kc ks : Nat} {A B : State} (hs : Steps p.tables e below A B) (k : own_Go p e below s P kc ks B) : own_Go p e below s P kc ks A := by
  obtain ⟨s₂, o, h1, h2⟩ := k
  exact ⟨s₂, o, hs.trans h1, h2⟩
theorem own_end (X : Stand p l e R s m args below meth c T locs cells slots) (hx : p.tables.exec = Jvm.exec) (hlk : meth.locks = false) {P : own_P} {kc ks : Nat} {pc : Nat} {Ls : Array Slot} {w : Value} {t : FieldType} {i : Instr} {rest : List Value} (hret : meth.sig.returnType = some t) (hn : narrow t w = w)
    (hi : (i = .ireturn ∧ (t = .int ∨ t = .boolean ∨ t = .byte ∨ t = .char ∨ t = .short) ∧ ∃ z, w = .int z) ∨ (i = .lreturn ∧ t = .long ∧ ∃ z, w = .long z) ∨ (i = .dreturn ∧ t = .double ∧ ∃ z, w = .double z) ∨ (i = .freturn ∧ t = .float ∧ ∃ z, w = .float z) ∨ (i = .areturn ∧ t.isReference = true ∧ w.isRef = true))
    (hd : decode c.code pc = .ok (i, 1)) (hP : P (some w) T.heap locs) (hc : cells ≤ kc) (hs : slots ≤ ks) : own_Go p e below s P kc ks (T.setTop (mkF m pc Ls (w :: rest))) := by
  obtain ⟨fs, hr, hrun, hended, hW, hsame⟩ := X.leave (v := some w) (fun h => by rw [hret] at h; cases h) hlk
  exact ⟨_, _, retOut X hx hret hn hi hd hr, hrun, hended, _, _, rfl, hP, ⟨_, rfl⟩, hW, hsame.mono hc hs⟩
theorem own_endI (X : Stand p l e R s m args below meth c T locs cells slots) (hx : p.tables.exec = Jvm.exec) (hlk : meth.locks = false) {P : own_P} {kc ks : Nat} {pc : Nat} {Ls : Array Slot} {z : Int32} {rest : List Value} (hret : meth.sig.returnType = some .int)
    (hd : decode c.code pc = .ok (.ireturn, 1)) (hP : P (some (.int z)) T.heap locs) (hc : cells ≤ kc) (hs : slots ≤ ks) : own_Go p e below s P kc ks (T.setTop (mkF m pc Ls (.int z :: rest))) :=
  own_end X hx hlk hret rfl (Or.inl ⟨rfl, Or.inl rfl, z, rfl⟩) hd hP hc hs
theorem own_endJ (X : Stand p l e R s m args below meth c T locs cells slots) (hx : p.tables.exec = Jvm.exec) (hlk : meth.locks = false) {P : own_P} {kc ks : Nat} {pc : Nat} {Ls : Array Slot} {z : Int64} {rest : List Value} (hret : meth.sig.returnType = some .long)
    (hd : decode c.code pc = .ok (.lreturn, 1)) (hP : P (some (.long z)) T.heap locs) (hc : cells ≤ kc) (hs : slots ≤ ks) : own_Go p e below s P kc ks (T.setTop (mkF m pc Ls (.long z :: rest))) :=
  own_end X hx hlk hret rfl (Or.inr (Or.inl ⟨rfl, rfl, z, rfl⟩)) hd hP hc hs
theorem own_endA (X : Stand p l e R s m args below meth c T locs cells slots) (hx : p.tables.exec = Jvm.exec) (hlk : meth.locks = false) {P : own_P} {kc ks : Nat} {pc : Nat} {Ls : Array Slot} {a : Addr} {t : FieldType} {rest : List Value} (hret : meth.sig.returnType = some t) (ht : t.isReference = true) (hn : narrow t (.ref a) = .ref a)
    (hd : decode c.code pc = .ok (.areturn, 1)) (hP : P (some (.ref a)) T.heap locs) (hc : cells ≤ kc) (hs : slots ≤ ks) : own_Go p e below s P kc ks (T.setTop (mkF m pc Ls (.ref a :: rest))) :=
  own_end X hx hlk hret hn (Or.inr (Or.inr (Or.inr (Or.inr ⟨rfl, ht, rfl⟩)))) hd hP hc hs
/-- a boolean, byte, char, short comes back narrowed -/
theorem own_endN (X : Stand p l e R s m args below meth c T locs cells slots) (hx : p.tables.exec = Jvm.exec) (hlk : meth.locks = false) {P : own_P} {kc ks : Nat} {pc : Nat} {Ls : Array Slot} {z : Int32} {t : FieldType} {rest : List Value} (hret : meth.sig.returnType = some t) (ht : t = .boolean ∨ t = .byte ∨ t = .char ∨ t = .short)
    (hd : decode c.code pc = .ok (.ireturn, 1)) {w : Int32} (hz : nar t z = w) (hP : P (some (.int w)) T.heap locs) (hc : cells ≤ kc) (hs : slots ≤ ks) : own_Go p e below s P kc ks (T.setTop (mkF m pc Ls (.int z :: rest))) := by
  subst hz
  obtain ⟨fs, hr, hrun, hended, hW, hsame⟩ := X.leave (v := some (.int (nar t z))) (fun h => by rw [hret] at h; cases h) hlk
  exact ⟨_, _, retN X hx hret ht hd hr, hrun, hended, _, _, rfl, hP, ⟨_, rfl⟩, hW, hsame.mono hc hs⟩
theorem own_endV (X : Stand p l e R s m args below meth c T locs cells slots) (hx : p.tables.exec = Jvm.exec) (hlk : meth.locks = false) {P : own_P} {kc ks : Nat} {pc : Nat} {Ls : Array Slot} (hret : meth.sig.returnType = none)
    (hd : decode c.code pc = .ok (.return_, 1)) (hP : P none T.heap locs) (hc : cells ≤ kc) (hs : slots ≤ ks) : own_Go p e below s P kc ks (T.setTop (mkF m pc Ls [])) := by
  obtain ⟨fs, hr, hrun, hended, hW, hsame⟩ := X.leave (v := none) (fun _ => rfl) hlk
  exact ⟨_, _, X.returnOut hx hret hd hr, hrun, hended, _, _, rfl, hP, ⟨_, rfl⟩, hW, hsame.mono hc hs⟩
/-- a body's contract -/
def own_Met (l : Launch) (Z : State) (y : MethodName) (bytes : ByteArray) (maxL : Nat) (ret : Option FieldType) (rm : Room) (as : Array Value) (h : Heap) (Q : own_P) : Prop :=
  ∀ ws : List Jvm.Cond, MetFree l y (head1 (Jvm.Cond.code y bytes maxL ret :: ws) rm) (fun a U => a = as ∧ Z.Warmed39 U.vm ∧ U.heap = h) (fun _ _ _ _ _ => True) (fun _ U o U' => ∃ v L, o = .returned v ∧ Q v U'.heap L ∧ FrameEnd U o U' L rm.cells rm.slots)
theorem own_in {y : MethodName} {bytes : ByteArray} {maxL : Nat} {ret : Option FieldType} {rm : Room} {as : Array Value} {Q : own_P} (pn : plainFor y = true)
    (body : ∀ (p : Program) (e : Env) (s : State) (m : MethodId) (below : List Frame) (meth : Method) (c : Code) (s₁ : State), p.tables.exec = Jvm.exec → c.code = bytes → c.maxLocals = maxL → s.vm.findClass y.cls = some m.cls → meth.name = y.name → meth.locks = false → meth.sig.returnType = ret → Z.Warmed39 s.vm →
      Stand p l e rm s m as below meth c s₁ [] 0 0 → s₁.heap = h → own_Go p e below s Q rm.cells rm.slots (s₁.setTop (entryFrame m as maxL))) : own_Met l Z y bytes maxL ret rm as h Q := by
  intro ws
  refine MetFree.of_bodySF pn hisR ?_
  intro p e s m args below meth c s₁ Bd hml hP hK
  obtain ⟨rfl, hZ, hh⟩ := hP
  exact body p e s m below meth c s₁ Bd.exec Bd.bytes hml (findClass_of_methodNamed Bd.named) (name_of_methodNamed Bd.named Bd.method).1 (BodyLoose.notSynchronized Bd) Bd.returns hZ (Stand.of_body Bd) (by rw [← hh, Bd.state]; rfl)
theorem own_ef {tbp : Program} {P : own_P} {kc ks : Nat} {g g' : JFrame} (q : g = g') (k : own_Go tbp e below s P kc ks (T.setTop g')) : own_Go tbp e below s P kc ks (T.setTop g) := q ▸ k
/-- a static call by its contract -/
theorem own_cS (X : Stand p l e R s m args below meth c T locs cells slots) (hx : p.tables.exec = Jvm.exec) {ml : Nat} (hml : c.maxLocals = ml) (hZ : Z.Warmed39 s.vm) {own : String} {index : Nat} {y : MethodName} {bytes : ByteArray} {maxL : Nat} {ret : Option FieldType} {rm : Room} {as : Array Value} {Q : own_P}
    (hown : s.vm.findClass own = some m.cls) (w1 : (Jvm.Cond.methodLink own index y).before a0 Z = true) (w2 : (Jvm.Cond.static y).before a0 Z = true) (w3 : (Jvm.Cond.initialized y.cls).before a0 Z = true) (w4 : (Jvm.Cond.code y bytes maxL ret).before a0 Z = true)
    (hy : y.cls ≠ "java/lang/invoke/MethodHandle" ∧ y.cls ≠ "java/lang/invoke/VarHandle") (hM : own_Met l Z y bytes maxL ret rm as h Q) (eT : T.heap = h) (hf : rm.frames + 1 ≤ R.frames) {W : Nat} (hl : W + (maxL + 11) + rm.locals ≤ R.locals)
    {g : JFrame} (hg : g.method = m) (hsize : g.locals.size = ml) {ps : List FieldType} {r : Option FieldType} (hpd : parseMethodDescriptor y.desc = some ⟨ps, r⟩) {argsL rest : List Value} (hlen : argsL.length = ps.length) (has : argsL.toArray = as) (hst : g.stack = argsL.reverse ++ rest)
    (hW : 2 * g.monitorRoom + (rest.map fun v => v.category).sum ≤ W) (hd : decode c.code g.pc = .ok (.invokestatic index, 3)) (hc : cells + rm.cells ≤ R.cells) (hs : slots + rm.slots ≤ R.slots) {P : own_P} {kc ks : Nat}
    (k : ∀ T' L v, Stand p l e R s m args below meth c T' (locs ++ L) (cells + rm.cells) (slots + rm.slots) → Q v T'.heap L → own_Go p e below s P kc ks (T'.setTop { g with pc := g.pc + 3, stack := v.toList ++ rest })) : own_Go p e below s P kc ks (T.setTop g) := by
  obtain ⟨v, vm, ⟨T', L', k', n'⟩, -, X', ⟨L, hQ, hl', hk', hn'⟩, st⟩ := Jvm.LawKit.callS X hx (y := y) hown (mvT hZ w1) (mvT hZ w2) (mvT hZ w3) (mvT hZ w4) hy (backOf (W := W) (hM []) hZ w4 w3 hf hl) hg (hsize.trans hml.symm) (argsL := argsL) (rest := rest) (lenOf hpd hlen) hst hW hd (fun _ _ => ⟨has, eT, hc, hs⟩)
  dsimp only [Pt.U, Pt.locs, Pt.cells, Pt.slots] at X' hl' hk' hn' st hQ
  subst hl' hk' hn'
  exact own_st st (k T' L v X' hQ)
/-- an instance method by its contract -/
theorem own_cV (X : Stand p l e R s m args below meth c T locs cells slots) (hx : p.tables.exec = Jvm.exec) {ml : Nat} (hml : c.maxLocals = ml) (hZ : Z.Warmed39 s.vm) {own C : String} {index : Nat} {y : MethodName} {bytes : ByteArray} {maxL : Nat} {ret : Option FieldType} {rm : Room} {as : Array Value} {Q : own_P}
    (hown : s.vm.findClass own = some m.cls) (w1 : (Jvm.Cond.methodLink own index y).before a0 Z = true) (w2 : (Jvm.Cond.declares y).before a0 Z = true) (w5 : (Jvm.Cond.selects C y y).before a0 Z = true) (w6 : (Jvm.Cond.instanceMethod y).before a0 Z = true) (w3 : (Jvm.Cond.initialized y.cls).before a0 Z = true) (w4 : (Jvm.Cond.code y bytes maxL ret).before a0 Z = true)
    (hy : y.cls ≠ "java/lang/invoke/MethodHandle" ∧ y.cls ≠ "java/lang/invoke/VarHandle") (hM : own_Met l Z y bytes maxL ret rm as h Q) (eT : T.heap = h) {b : Addr} (EX : Exa Z h b C) (hf : rm.frames + 1 ≤ R.frames) {W : Nat} (hl : W + (maxL + 11) + rm.locals ≤ R.locals)
    {g : JFrame} (hg : g.method = m) (hsize : g.locals.size = ml) {ps : List FieldType} {r : Option FieldType} (hpd : parseMethodDescriptor y.desc = some ⟨ps, r⟩) {argsL rest : List Value} (hlen : argsL.length = ps.length) (has : (.ref b :: argsL).toArray = as) (hst : g.stack = argsL.reverse ++ .ref b :: rest)
    (hW : 2 * g.monitorRoom + (rest.map fun v => v.category).sum ≤ W) (hd : decode c.code g.pc = .ok (.invokevirtual index, 3)) (hc : cells + rm.cells ≤ R.cells) (hs : slots + rm.slots ≤ R.slots) {P : own_P} {kc ks : Nat}
    (k : ∀ T' L v, Stand p l e R s m args below meth c T' (locs ++ L) (cells + rm.cells) (slots + rm.slots) → Q v T'.heap L → own_Go p e below s P kc ks (T'.setTop { g with pc := g.pc + 3, stack := v.toList ++ rest })) : own_Go p e below s P kc ks (T.setTop g) := by
  obtain ⟨cq, kq, qa, qb, qc⟩ := isOf hZ eT EX
  obtain ⟨v, vm, ⟨T', L', k', n'⟩, -, X', ⟨L, hQ, hl', hk', hn'⟩, st⟩ := X.virtualBack hx (y := y) (z := y) hown (mvT hZ w1) (mvT hZ w2) (notFace_of_selects (args := #[]) (mvT hZ w5)) (mvT hZ w5) (mvT hZ w6) hy (backOf (W := W) (hM []) hZ w4 w3 hf hl) qa qc hg (hsize.trans hml.symm) (Steps.refl _) (argsL := argsL) (rest := rest) (lenOf hpd hlen) hst hW hd (fun _ _ => ⟨has, eT, hc, hs⟩)
  dsimp only [Pt.U, Pt.locs, Pt.cells, Pt.slots] at X' hl' hk' hn' st hQ
  subst hl' hk' hn'
  exact own_stT st (k T' L v X' hQ)
/-- a private method by its contract -/
theorem own_cP (X : Stand p l e R s m args below meth c T locs cells slots) (hx : p.tables.exec = Jvm.exec) {ml : Nat} (hml : c.maxLocals = ml) (hZ : Z.Warmed39 s.vm) {own C : String} {index nn : Nat} {y : MethodName} {bytes : ByteArray} {maxL : Nat} {ret : Option FieldType} {rm : Room} {as : Array Value} {Q : own_P}
    (hown : s.vm.findClass own = some m.cls) (w1 : (Jvm.Cond.methodLink own index y).before a0 Z = true) (w2 : (Jvm.Cond.instanceMethod y).before a0 Z = true) (w5 : (Jvm.Cond.privateMethod y).before a0 Z = true) (wi : (Jvm.Cond.instantiable y.cls nn).before a0 Z = true) (w3 : (Jvm.Cond.initialized y.cls).before a0 Z = true) (w4 : (Jvm.Cond.code y bytes maxL ret).before a0 Z = true)
    (hy : y.cls ≠ "java/lang/invoke/MethodHandle" ∧ y.cls ≠ "java/lang/invoke/VarHandle") (hM : own_Met l Z y bytes maxL ret rm as h Q) (eT : T.heap = h) {b : Addr} (EX : Exa Z h b C) (hf : rm.frames + 1 ≤ R.frames) {W : Nat} (hl : W + (maxL + 11) + rm.locals ≤ R.locals)
    {g : JFrame} (hg : g.method = m) (hsize : g.locals.size = ml) {ps : List FieldType} {r : Option FieldType} (hpd : parseMethodDescriptor y.desc = some ⟨ps, r⟩) {argsL rest : List Value} (hlen : argsL.length = ps.length) (has : (.ref b :: argsL).toArray = as) (hst : g.stack = argsL.reverse ++ .ref b :: rest)
    (hW : 2 * g.monitorRoom + (rest.map fun v => v.category).sum ≤ W) (hd : decode c.code g.pc = .ok (.invokevirtual index, 3)) (hc : cells + rm.cells ≤ R.cells) (hs : slots + rm.slots ≤ R.slots) {P : own_P} {kc ks : Nat}
    (k : ∀ T' L v, Stand p l e R s m args below meth c T' (locs ++ L) (cells + rm.cells) (slots + rm.slots) → Q v T'.heap L → own_Go p e below s P kc ks (T'.setTop { g with pc := g.pc + 3, stack := v.toList ++ rest })) : own_Go p e below s P kc ks (T.setTop g) := by
  obtain ⟨cq, q1, q2⟩ := EX.cell
  have hpriv : s.PrivateAt y := Cond.privateMethod_at (mvP hZ w5 (args := #[]))
  have hsel : (Jvm.Cond.selects y.cls y y).before args s = true := by
    have wi' : (Jvm.Cond.instantiable y.cls nn).before args s = true := mvT hZ wi
    obtain ⟨c2, k2, f1, f2, f3, f4, -⟩ := Cond.instantiable_spec wi'
    exact selects_self_of_private f1 f2 (Bool.or_eq_false_iff.mp f4).1 hpriv (mvT hZ w2) hy
  obtain ⟨v, vm, ⟨T', L', k', n'⟩, -, X', ⟨L, hQ, hl', hk', hn'⟩, st⟩ := X.privateBack hx (y := y) hown (mvT hZ w1) (mvT hZ w2) hsel hpriv (mvT hZ w4) hy (backOf (W := W) (hM []) hZ w4 w3 hf hl) hg (hsize.trans hml.symm) (Steps.refl _) (a := b) (by rw [eT]; exact q1) q2 (argsL := argsL) (rest := rest) (lenOf hpd hlen) hst hW hd (fun _ _ => ⟨has, eT, hc, hs⟩)
  dsimp only [Pt.U, Pt.locs, Pt.cells, Pt.slots] at X' hl' hk' hn' st hQ
  subst hl' hk' hn'
  exact own_stT st (k T' L v X' hQ)
/-- a constructor by its contract -/
theorem own_cN (X : Stand p l e R s m args below meth c T locs cells slots) (hx : p.tables.exec = Jvm.exec) {ml : Nat} (hml : c.maxLocals = ml) (hZ : Z.Warmed39 s.vm) {own : String} {index : Nat} {y : MethodName} {bytes : ByteArray} {maxL : Nat} {rm : Room} {as : Array Value} {Q : own_P} (hy1 : y.name = "<init>")
    (hown : s.vm.findClass own = some m.cls) (w1 : (Jvm.Cond.methodLink own index y).before a0 Z = true) (w2 : (Jvm.Cond.instanceMethod y).before a0 Z = true) (w3 : (Jvm.Cond.initialized y.cls).before a0 Z = true) (w4 : (Jvm.Cond.code y bytes maxL none).before a0 Z = true)
    (hy : y.cls ≠ "java/lang/invoke/MethodHandle" ∧ y.cls ≠ "java/lang/invoke/VarHandle") (hM : own_Met l Z y bytes maxL none rm as h Q) (eT : T.heap = h) (hf : rm.frames + 1 ≤ R.frames) {W : Nat} (hl : W + (maxL + 11) + rm.locals ≤ R.locals)
    {g : JFrame} (hg : g.method = m) (hsize : g.locals.size = ml) {ps : List FieldType} {r : Option FieldType} (hpd : parseMethodDescriptor y.desc = some ⟨ps, r⟩) {b : Addr} {argsL rest : List Value} (hlen : argsL.length = ps.length) (has : (.ref b :: argsL).toArray = as) (hst : g.stack = argsL.reverse ++ .ref b :: rest)
    (hW : 2 * g.monitorRoom + (rest.map fun v => v.category).sum ≤ W) (hd : decode c.code g.pc = .ok (.invokespecial index, 3)) (hc : cells + rm.cells ≤ R.cells) (hs : slots + rm.slots ≤ R.slots) {P : own_P} {kc ks : Nat}
    (k : ∀ T' L v, Stand p l e R s m args below meth c T' (locs ++ L) (cells + rm.cells) (slots + rm.slots) → Q v T'.heap L → own_Go p e below s P kc ks (T'.setTop { g with pc := g.pc + 3, stack := v.toList ++ rest })) : own_Go p e below s P kc ks (T.setTop g) := by
  obtain ⟨v, vm, ⟨T', L', k', n'⟩, -, X', ⟨L, hQ, hl', hk', hn'⟩, st⟩ := X.specialBack hx (y := y) hy1 hown (mvT hZ w1) (mvT hZ w2) (mvT hZ w4) hy (backOf (W := W) (hM []) hZ w4 w3 hf hl) hg (hsize.trans hml.symm) (Steps.refl _) (a := b) (argsL := argsL) (rest := rest) (lenOf hpd hlen) hst hW hd (fun _ _ => ⟨has, eT, hc, hs⟩)
  dsimp only [Pt.U, Pt.locs, Pt.cells, Pt.slots] at X' hl' hk' hn' st hQ
  subst hl' hk' hn'
  exact own_stT st (k T' L v X' hQ)
/-- an array of n places: place j holds f j -/
def own_Av (Z : State) (h : Heap) (a : Addr) (ty : FieldType) (n : Nat) (f : Nat → Value) : Prop :=
  n < 2147483648 ∧ ∃ cl : Cell, Arr Z h a cl ty ∧ cl.slots.size = n ∧ ∀ j, j < n → cl.slots[j]? = some (f j)
theorem own_Av.lt {a : Addr} {ty : FieldType} {n : Nat} {f : Nat → Value} (V : own_Av Z h a ty n f) : a < h.size := by
  obtain ⟨-, cl, A, -⟩ := V
  exact A.lt
theorem own_Av.ext {a : Addr} {ty : FieldType} {n : Nat} {f : Nat → Value} (V : own_Av Z h a ty n f) (E : Ext h h') : own_Av Z h' a ty n f := by
  obtain ⟨hn, cl, A, r⟩ := V
  exact ⟨hn, cl, A.ext E, r⟩
theorem own_Av.other {a b : Addr} {ty : FieldType} {n sl : Nat} {f : Nat → Value} {v : Value} (V : own_Av Z h b ty n f) (W : Wr h h' a sl v) (q : b ≠ a) : own_Av Z h' b ty n f := by
  obtain ⟨hn, cl, A, r⟩ := V
  exact ⟨hn, cl, A.other W q, r⟩
theorem own_Av.keep {a : Addr} {ty : FieldType} {n : Nat} {f : Nat → Value} {ws : List Addr} (V : own_Av Z h a ty n f) (K : Keep h h' ws) (q : a ∉ ws) : own_Av Z h' a ty n f := by
  obtain ⟨hn, cl, A, r⟩ := V
  exact ⟨hn, cl, ⟨K.2.1 a cl A.1 q, A.2⟩, r⟩
theorem own_Av.congr {a : Addr} {ty : FieldType} {n : Nat} {f g : Nat → Value} (V : own_Av Z h a ty n f) (q : ∀ j, j < n → f j = g j) : own_Av Z h a ty n g := by
  obtain ⟨hn, cl, A, r1, r2⟩ := V
  exact ⟨hn, cl, A, r1, fun j hj => by rw [r2 j hj, q j hj]⟩
theorem own_Av.same {a : Addr} {ty : FieldType} {n i : Nat} {f : Nat → Value} {v : Value} (V : own_Av Z h a ty n f) (W : Wr h h' a i v) : own_Av Z h' a ty n (fun j => if j = i then v else f j) := by
  obtain ⟨hn, cl, A, r1, r2⟩ := V
  refine ⟨hn, cl.setSlot i v, A.same W, by rw [sz_set, r1], fun j hj => ?_⟩
  have hj' : j < cl.slots.size := by rw [r1]; exact hj
  by_cases q : j = i
  · subst q
    simp [Cell.setSlot, hj']
  · have q' : ¬ i = j := fun u => q u.symm
    simp only [Cell.setSlot, if_neg q]
    rw [Array.getElem?_setIfInBounds_ne q']
    exact r2 j hj
theorem own_Av.new {a : Addr} {ty : FieldType} {k : ClassId} {z : Int32} {n : Nat} (A : Arr Z h a (newA k ty z) ty) (hz : z.toInt = n) : own_Av Z h a ty n (fun _ => defaultValue ty) := by
  have h1 : z.toNatClampNeg = n := by
    show z.toInt.toNat = n
    rw [hz]; rfl
  have h2 : z.toInt < 2147483648 := Int32.toInt_lt z
  refine ⟨by omega, _, A, by rw [sz_new, h1], fun j hj => ?_⟩
  simp [newA, h1, hj]
theorem own_ix {j : Int32} {i n : Nat} (hj : j.toInt = i) (hi : i < n) : ¬ (j < 0 ∨ n ≤ j.toNatClampNeg) ∧ j.toNatClampNeg = i := by
  have h1 : j.toNatClampNeg = i := by
    show j.toInt.toNat = i
    rw [hj]; rfl
  refine ⟨?_, h1⟩
  rintro (q | q)
  · rw [Int32.lt_iff_toInt_lt, hj] at q
    have : (0 : Int32).toInt = 0 := by decide
    omega
  · omega
theorem own_ldI (X : Stand p l e R s m args below meth c T locs cells slots) (hx : p.tables.exec = Jvm.exec) (hZ : Z.Warmed39 s.vm) (eT : T.heap = h) {a : Addr} {n : Nat} {f : Nat → Value} (V : own_Av Z h a .int n f) {j : Int32} {i : Nat} (hj : j.toInt = i) (hi : i < n) {v : Value} (hv : f i = v)
    {g : JFrame} (hg : g.method = m) {rest : List Value} (hs : g.stack = .int j :: .ref a :: rest) (hd : decode c.code g.pc = .ok (.iaload, 1)) :
    ∀ t, Steps p.tables e below (T.setTop { g with pc := g.pc + 1, stack := v :: rest }) t → Steps p.tables e below (T.setTop g) t := by
  obtain ⟨-, cl, A, r1, r2⟩ := V
  obtain ⟨q1, q2⟩ := own_ix hj (n := cl.slots.size) (by rw [r1]; exact hi)
  exact X.iaload hx (by rw [eT]; exact A.1) (State.isArrayOf_alike hZ.alike A.2.1) A.2.2 q1 (by rw [q2, r2 i hi, hv]) hg hs hd
theorem own_ldB (X : Stand p l e R s m args below meth c T locs cells slots) (hx : p.tables.exec = Jvm.exec) (hZ : Z.Warmed39 s.vm) (eT : T.heap = h) {a : Addr} {n : Nat} {f : Nat → Value} (V : own_Av Z h a .byte n f) {j : Int32} {i : Nat} (hj : j.toInt = i) (hi : i < n) {v : Value} (hv : f i = v)
    {g : JFrame} (hg : g.method = m) {rest : List Value} (hs : g.stack = .int j :: .ref a :: rest) (hd : decode c.code g.pc = .ok (.baload, 1)) :
    ∀ t, Steps p.tables e below (T.setTop { g with pc := g.pc + 1, stack := v :: rest }) t → Steps p.tables e below (T.setTop g) t := by
  obtain ⟨-, cl, A, r1, r2⟩ := V
  obtain ⟨q1, q2⟩ := own_ix hj (n := cl.slots.size) (by rw [r1]; exact hi)
  exact X.baloadBytes hx (by rw [eT]; exact A.1) (State.isArrayOf_alike hZ.alike A.2.1) A.2.2 q1 (by rw [q2, r2 i hi, hv]) hg hs hd
theorem own_ldJ (X : Stand p l e R s m args below meth c T locs cells slots) (hx : p.tables.exec = Jvm.exec) (hZ : Z.Warmed39 s.vm) (eT : T.heap = h) {a : Addr} {n : Nat} {f : Nat → Value} (V : own_Av Z h a .long n f) {j : Int32} {i : Nat} (hj : j.toInt = i) (hi : i < n) {v : Value} (hv : f i = v)
    {g : JFrame} (hg : g.method = m) {rest : List Value} (hs : g.stack = .int j :: .ref a :: rest) (hd : decode c.code g.pc = .ok (.laload, 1)) :
    ∀ t, Steps p.tables e below (T.setTop { g with pc := g.pc + 1, stack := v :: rest }) t → Steps p.tables e below (T.setTop g) t := by
  obtain ⟨-, cl, A, r1, r2⟩ := V
  obtain ⟨q1, q2⟩ := own_ix hj (n := cl.slots.size) (by rw [r1]; exact hi)
  exact X.laload hx (by rw [eT]; exact A.1) (State.isArrayOf_alike hZ.alike A.2.1) A.2.2 q1 (by rw [q2, r2 i hi, hv]) hg hs hd
theorem own_len (X : Stand p l e R s m args below meth c T locs cells slots) (hx : p.tables.exec = Jvm.exec) (hZ : Z.Warmed39 s.vm) (eT : T.heap = h) {a : Addr} {ty : FieldType} {n : Nat} {f : Nat → Value} (V : own_Av Z h a ty n f) {z : Int32} (hz : z.toInt = n)
    {g : JFrame} (hg : g.method = m) {rest : List Value} (hs : g.stack = .ref a :: rest) (hd : decode c.code g.pc = .ok (.arraylength, 1)) :
    ∀ t, Steps p.tables e below (T.setTop { g with pc := g.pc + 1, stack := .int z :: rest }) t → Steps p.tables e below (T.setTop g) t := by
  obtain ⟨hn, cl, A, r1, r2⟩ := V
  have q : cl.slots.size.toInt32 = z := by
    rw [r1]
    apply Int32.toInt_inj.mp
    rw [hz]
    show (Int32.ofNat n).toInt = n
    rw [Int32.toInt_ofNat_of_lt (by omega)]
  intro t ht
  refine X.arraylength hx (by rw [eT]; exact A.1) (State.isArrayOf_alike hZ.alike A.2.1) hg hs hd t ?_
  rw [q]
  exact ht
theorem own_stI (X : Stand p l e R s m args below meth c T locs cells slots) (hx : p.tables.exec = Jvm.exec) (hZ : Z.Warmed39 s.vm) (eT : T.heap = h) {a : Addr} {n : Nat} {f : Nat → Int32} (V : own_Av Z h a .int n (fun t => .int (f t))) {j x : Int32} {i : Nat} (hj : j.toInt = i) (hi : i < n)
    {g : JFrame} (hg : g.method = m) {rest : List Value} (hs : g.stack = .int x :: .int j :: .ref a :: rest) (hd : decode c.code g.pc = .ok (.iastore, 1)) :
    ∃ T' h', Stand p l e R s m args below meth c T' (locs ++ [⟨a, i⟩]) cells slots ∧ T'.heap = h' ∧ Wr h h' a i (.int x) ∧ own_Av Z h' a .int n (fun t => .int (if t = i then x else f t)) ∧
      ∀ t, Steps p.tables e below (T'.setTop { g with pc := g.pc + 1, stack := rest }) t → Steps p.tables e below (T.setTop g) t := by
  have V' := V
  obtain ⟨-, cl, A, r1, r2⟩ := V
  obtain ⟨q1, q2⟩ := own_ix hj (n := cl.slots.size) (by rw [r1]; exact hi)
  obtain ⟨T', h', X', e', W', st⟩ := stI X hx hZ eT A q1 hg hs hd
  rw [q2] at X' W'
  exact ⟨T', h', X', e', W', (V'.same W').congr (fun j _ => by by_cases q : j = i <;> simp [q]), st⟩
theorem own_stB (X : Stand p l e R s m args below meth c T locs cells slots) (hx : p.tables.exec = Jvm.exec) (hZ : Z.Warmed39 s.vm) (eT : T.heap = h) {a : Addr} {n : Nat} {f : Nat → Int32} (V : own_Av Z h a .byte n (fun t => .int (f t))) {j x : Int32} {i : Nat} (hj : j.toInt = i) (hi : i < n)
    {g : JFrame} (hg : g.method = m) {rest : List Value} (hs : g.stack = .int x :: .int j :: .ref a :: rest) (hd : decode c.code g.pc = .ok (.bastore, 1)) :
    ∃ T' h', Stand p l e R s m args below meth c T' (locs ++ [⟨a, i⟩]) cells slots ∧ T'.heap = h' ∧ Wr h h' a i (.int (nar .byte x)) ∧ own_Av Z h' a .byte n (fun t => .int (if t = i then (nar .byte x) else f t)) ∧
      ∀ t, Steps p.tables e below (T'.setTop { g with pc := g.pc + 1, stack := rest }) t → Steps p.tables e below (T.setTop g) t := by
  have V' := V
  obtain ⟨-, cl, A, r1, r2⟩ := V
  obtain ⟨q1, q2⟩ := own_ix hj (n := cl.slots.size) (by rw [r1]; exact hi)
  obtain ⟨T', h', X', e', W', st⟩ := stB X hx hZ eT A q1 hg hs hd
  rw [q2] at X' W'
  exact ⟨T', h', X', e', W', (V'.same W').congr (fun j _ => by by_cases q : j = i <;> simp [q]), st⟩
theorem own_stJ (X : Stand p l e R s m args below meth c T locs cells slots) (hx : p.tables.exec = Jvm.exec) (hZ : Z.Warmed39 s.vm) (eT : T.heap = h) {a : Addr} {n : Nat} {f : Nat → Int64} (V : own_Av Z h a .long n (fun t => .long (f t))) {j : Int32} {x : Int64} {i : Nat} (hj : j.toInt = i) (hi : i < n)
    {g : JFrame} (hg : g.method = m) {rest : List Value} (hs : g.stack = .long x :: .int j :: .ref a :: rest) (hd : decode c.code g.pc = .ok (.lastore, 1)) :
    ∃ T' h', Stand p l e R s m args below meth c T' (locs ++ [⟨a, i⟩]) cells slots ∧ T'.heap = h' ∧ Wr h h' a i (.long x) ∧ own_Av Z h' a .long n (fun t => .long (if t = i then x else f t)) ∧
      ∀ t, Steps p.tables e below (T'.setTop { g with pc := g.pc + 1, stack := rest }) t → Steps p.tables e below (T.setTop g) t := by
  have V' := V
  obtain ⟨-, cl, A, r1, r2⟩ := V
  obtain ⟨q1, q2⟩ := own_ix hj (n := cl.slots.size) (by rw [r1]; exact hi)
  obtain ⟨T', h', X', e', W', st⟩ := stJ X hx hZ eT A q1 hg hs hd
  rw [q2] at X' W'
  exact ⟨T', h', X', e', W', (V'.same W').congr (fun j _ => by by_cases q : j = i <;> simp [q]), st⟩
/-- newarray: b is the fresh array's address -/
theorem own_newA (X : Stand p l e R s m args below meth c T locs cells slots) (hx : p.tables.exec = Jvm.exec) (hZ : Z.Warmed39 s.vm) {aty : ArrayType} (w : (Jvm.Cond.arrayClass (newarray.typeOf aty)).before a0 Z = true) (eT : T.heap = h) {g : JFrame} (hg : g.method = m) (hd : decode c.code g.pc = .ok (.newarray aty, 2)) {z : Int32} {rest : List Value} (hs : g.stack = .int z :: rest)
    {n cap : Nat} (hz : z.toInt = n) (hcap : n ≤ cap) (hb : cap * 8 ≤ 536870912) (hc : cells + 1 ≤ R.cells) (hl : slots + cap ≤ R.slots) :
    ∃ T' h' b, b = h.size ∧ Stand p l e R s m args below meth c T' locs (cells + 1) (slots + cap) ∧ T'.heap = h' ∧ Ext h h' ∧ own_Av Z h' b (newarray.typeOf aty) n (fun _ => defaultValue (newarray.typeOf aty)) ∧
      ∀ t, Steps p.tables e below (T'.setTop { g with pc := g.pc + 2, stack := .ref b :: rest }) t → Steps p.tables e below (T.setTop g) t := by
  have h1 : z.toNatClampNeg = n := by
    show z.toInt.toNat = n
    rw [hz]; rfl
  have h2 : ¬ z < 0 := by
    rw [Int32.lt_iff_toInt_lt, hz]
    have : (0 : Int32).toInt = 0 := by decide
    omega
  obtain ⟨T', h', cA, X', e', E', A', st⟩ := newP X hx hZ w eT hg hd hs h2 (cap := cap) (by omega) hb hc hl
  exact ⟨T', h', h.size, rfl, X', e', E', own_Av.new A' hz, st⟩
theorem own_nil {k : Nat} {L : List Loc} (N : Fr k L) {L' : List Loc} (q : L' = []) : Fr k (L ++ L') := by
  subst q
  rw [List.append_nil]
  exact N
/-- the walk's end, carried to the sheet -/
theorem own_cast {P : own_P} {kc ks : Nat} {A B : State} (q : A = B) (k : own_Go p e below s P kc ks B) : own_Go p e below s P kc ks A := q ▸ k
theorem own_bm {x : Int} (h1 : -2147483648 ≤ x) (h2 : x < 2147483648) : x.bmod (2 ^ 32) = x := by
  rw [Int.bmod_def]
  split <;> omega
theorem own_addN {a b : Int32} {i k : Nat} (ha : a.toInt = i) (hb : b.toInt = k) (hlt : i + k < 2147483648) : (a + b).toInt = ((i + k : Nat) : Int) := by
  rw [Int32.toInt_add, ha, hb, own_bm (by omega) (by omega)]
  omega
theorem own_add {a b : Int32} (h1 : -2147483648 ≤ a.toInt + b.toInt) (h2 : a.toInt + b.toInt < 2147483648) : (a + b).toInt = a.toInt + b.toInt := by
  rw [Int32.toInt_add, own_bm h1 h2]
theorem own_sub {a b : Int32} (h1 : -2147483648 ≤ a.toInt - b.toInt) (h2 : a.toInt - b.toInt < 2147483648) : (a - b).toInt = a.toInt - b.toInt := by
  rw [Int32.toInt_sub, own_bm h1 h2]
theorem own_mask (z K : Int32) {k : Nat} (hK : K.toInt = k) : ∃ i : Nat, (z &&& K).toInt = i ∧ i ≤ k := by
  have hk : K.toBitVec.toInt = k := hK
  have h1 : K.toBitVec.toNat = k := by
    rw [BitVec.toInt_eq_toNat_cond] at hk
    have := K.toBitVec.isLt
    split at hk <;> omega
  have h2 : 2 * K.toBitVec.toNat < 2 ^ 32 := by
    rw [BitVec.toInt_eq_toNat_cond] at hk
    have := K.toBitVec.isLt
    split at hk <;> omega
  have h3 : (z &&& K).toBitVec.toNat ≤ k := by
    show (z.toBitVec &&& K.toBitVec).toNat ≤ k
    rw [BitVec.toNat_and, ← h1]
    exact Nat.and_le_right
  refine ⟨(z &&& K).toBitVec.toNat, ?_, h3⟩
  show (z &&& K).toBitVec.toInt = _
  rw [BitVec.toInt_eq_toNat_cond, if_pos (by omega)]
theorem own_lt32 {a b : Int32} : a < b ↔ a.toInt < b.toInt := Int32.lt_iff_toInt_lt
theorem own_rem {a b : Int32} (ha : 0 ≤ a.toInt) (hb : 0 < b.toInt) : (a % b).toInt = a.toInt % b.toInt := by
  rw [Int32.toInt_mod]
  exact Int.tmod_eq_emod_of_nonneg ha
end OwnKit
def own_min (a b : Int32) : Int32 := if b < a then b else a
def own_dg (z : Int32) : Prop := 48 ≤ z.toInt ∧ z.toInt ≤ 57
def own_tab (t : Nat) : Int64 := if t = 18 then (1000000000000000000 : Int64) else if t = 17 then (100000000000000000 : Int64) else if t = 16 then (10000000000000000 : Int64) else if t = 15 then (1000000000000000 : Int64) else if t = 14 then (100000000000000 : Int64) else if t = 13 then (10000000000000 : Int64) else if t = 12 then (1000000000000 : Int64) else if t = 11 then (100000000000 : Int64) else if t = 10 then (10000000000 : Int64) else if t = 9 then (1000000000 : Int64) else if t = 8 then (100000000 : Int64) else if t = 7 then (10000000 : Int64) else if t = 6 then (1000000 : Int64) else if t = 5 then (100000 : Int64) else if t = 4 then (10000 : Int64) else if t = 3 then (1000 : Int64) else if t = 2 then (100 : Int64) else if t = 1 then (10 : Int64) else if t = 0 then (1 : Int64) else 0
set_option maxRecDepth 4096 in
theorem own_tab_at {n : Nat} (h : n < 19) : (own_tab n).toInt = ((10 ^ n : Nat) : Int) := by
  have k : ∀ j : Fin 19, (own_tab j.val).toInt = ((10 ^ j.val : Nat) : Int) := by decide
  exact k ⟨n, h⟩
def own_dec (f : Nat → Int32) (i : Nat) : Nat → Nat
  | 0 => 0
  | k + 1 => own_dec f i k * 10 + ((f (i + k)).toInt - 48).toNat
theorem own_dec_lt {f : Nat → Int32} {i : Nat} {k : Nat} (h : ∀ t, t < i + k → own_dg (f t)) : own_dec f i k < 10 ^ k := by
  induction k with
  | zero => show 0 < 1; omega
  | succ k ih =>
    have q := ih (fun t ht => h t (by omega))
    have d := h (i + k) (by omega)
    unfold own_dg at d
    show own_dec f i k * 10 + _ < _
    rw [Nat.pow_succ]
    omega
theorem own_dec_app (f : Nat → Int32) (i a b : Nat) : own_dec f i (a + b) = own_dec f i a * 10 ^ b + own_dec f (i + a) b := by
  induction b with
  | zero => show own_dec f i a = _ * 10 ^ 0 + 0; simp
  | succ b ih =>
    show own_dec f i (a + b) * 10 + ((f (i + (a + b))).toInt - 48).toNat = own_dec f i a * 10 ^ (b + 1) + (own_dec f (i + a) b * 10 + ((f (i + a + b)).toInt - 48).toNat)
    rw [ih, Nat.pow_succ, ← Nat.add_assoc i a b, Nat.add_mul, Nat.mul_assoc, Nat.add_assoc]
theorem own_p17 {f : Nat → Int32} {i k n : Nat} (h : ∀ t, t < i + k → own_dg (f t)) (hk : k ≤ n) : own_dec f i k < 10 ^ n := Nat.lt_of_lt_of_le (own_dec_lt h) (Nat.pow_le_pow_right (by omega) hk)
theorem own_bmL {z : Int} (h1 : -9223372036854775808 ≤ z) (h2 : z < 9223372036854775808) : z.bmod (2 ^ 64) = z := by
  rw [Int.bmod_def]
  split <;> omega
theorem own_addL {a b : Int64} (h1 : -9223372036854775808 ≤ a.toInt + b.toInt) (h2 : a.toInt + b.toInt < 9223372036854775808) : (a + b).toInt = a.toInt + b.toInt := by
  rw [Int64.toInt_add, own_bmL h1 h2]
theorem own_subL {a b : Int64} (h1 : -9223372036854775808 ≤ a.toInt - b.toInt) (h2 : a.toInt - b.toInt < 9223372036854775808) : (a - b).toInt = a.toInt - b.toInt := by
  rw [Int64.toInt_sub, own_bmL h1 h2]
theorem own_mulL {a b : Int64} (h1 : -9223372036854775808 ≤ a.toInt * b.toInt) (h2 : a.toInt * b.toInt < 9223372036854775808) : (a * b).toInt = a.toInt * b.toInt := by
  rw [Int64.toInt_mul, own_bmL h1 h2]
theorem own_turn {z : Int64} {x : Int32} {n : Nat} (hz : z.toInt = (n : Int)) (hn : n < 10 ^ 17) (hd : own_dg x) : (((z * (10 : Int64)) + x.toInt64) - (48 : Int64)).toInt = ((n * 10 + (x.toInt - 48).toNat : Nat) : Int) := by
  unfold own_dg at hd
  have c1 : ((10 : Int64)).toInt = 10 := by decide
  have c2 : ((48 : Int64)).toInt = 48 := by decide
  have c3 : (x.toInt64).toInt = x.toInt := Int32.toInt_toInt64 x
  have c4 : (10 : Nat) ^ 17 = 100000000000000000 := by decide
  rw [c4] at hn
  have m1 : (z * (10 : Int64)).toInt = (n : Int) * 10 := by rw [own_mulL (by rw [hz, c1]; omega) (by rw [hz, c1]; omega), hz, c1]
  have m2 : ((z * (10 : Int64)) + x.toInt64).toInt = (n : Int) * 10 + x.toInt := by rw [own_addL (by rw [m1, c3]; omega) (by rw [m1, c3]; omega), m1, c3]
  rw [own_subL (by rw [m2, c2]; omega) (by rw [m2, c2]; omega), m2, c2]
  omega
theorem own_next {f : Nat → Int32} {k : Nat} {d : Int32} (hf : ∀ t, t < k → own_dg (f t)) (hd : own_dg d) : ∀ t, t < k + 1 → own_dg (if t = k then d else f t) := by
  intro t ht
  by_cases q : t = k
  · rw [if_pos q]; exact hd
  · rw [if_neg q]; exact hf t (by omega)
theorem own_nb {z : Int32} (h : own_dg z) : nar .byte z = z := by
  apply Int32.toInt_inj.mp
  unfold own_dg at h
  show (z.toInt8.toInt32).toInt = _
  rw [Int8.toInt_toInt32, Int32.toInt_toInt8, Int.bmod_def]
  split <;> omega
theorem own_digit (q : Int64) : ∃ d : Int32, own_dg d ∧ ((48 : Int32) + ((q &&& (63 : Int64)) - ((q &&& (63 : Int64)) / (10 : Int64)) * (10 : Int64)).toInt32).toInt8.toInt32 = d := by
  refine ⟨_, ?_, rfl⟩
  have c0 : ∃ n : Nat, (q &&& (63 : Int64)).toInt = (n : Int) ∧ n ≤ 63 := by
    have h3 : (q &&& (63 : Int64)).toBitVec.toNat ≤ 63 := by
      show (q.toBitVec &&& 63#64).toNat ≤ 63
      rw [BitVec.toNat_and]
      exact Nat.and_le_right
    refine ⟨(q &&& (63 : Int64)).toBitVec.toNat, ?_, h3⟩
    show (q &&& (63 : Int64)).toBitVec.toInt = _
    rw [BitVec.toInt_eq_toNat_cond, if_pos (by omega)]
  obtain ⟨n, hn, hle⟩ := c0
  have c1 : ((10 : Int64)).toInt = 10 := by decide
  have d1 : ((q &&& (63 : Int64)) / (10 : Int64)).toInt = ((n / 10 : Nat) : Int) := by
    rw [Int64.toInt_div, hn, c1, own_bmL]
    · rfl
    · exact Int.le_trans (by decide) (Int.natCast_nonneg _)
    · show ((n / 10 : Nat) : Int) < _
      omega
  have d2 : (((q &&& (63 : Int64)) / (10 : Int64)) * (10 : Int64)).toInt = ((n / 10 * 10 : Nat) : Int) := by
    rw [own_mulL (by rw [d1, c1]; omega) (by rw [d1, c1]; omega), d1, c1]
    omega
  have d3 : ((q &&& (63 : Int64)) - ((q &&& (63 : Int64)) / (10 : Int64)) * (10 : Int64)).toInt = ((n % 10 : Nat) : Int) := by
    rw [own_subL (by rw [d2, hn]; omega) (by rw [d2, hn]; omega), d2, hn]
    omega
  generalize ((q &&& (63 : Int64)) - ((q &&& (63 : Int64)) / (10 : Int64)) * (10 : Int64)) = r at *
  have d4 : (r.toInt32).toInt = ((n % 10 : Nat) : Int) := by
    rw [Int64.toInt_toInt32, d3, own_bm (by omega) (by omega)]
  have c2 : ((48 : Int32)).toInt = 48 := by decide
  have d5 : ((48 : Int32) + r.toInt32).toInt = 48 + ((n % 10 : Nat) : Int) := by
    rw [own_add (by rw [d4, c2]; omega) (by rw [d4, c2]; omega), d4, c2]
  unfold own_dg
  rw [Int8.toInt_toInt32, Int32.toInt_toInt8, d5, Int.bmod_def]
  split <;> omega
theorem own_splitL {f : Nat → Int32} {i k1 k2 : Nat} (hf : ∀ t, t < 20 → own_dg (f t)) (hk : k1 + k2 ≤ 18) (h20 : i + (k1 + k2) ≤ 20) {w l p r : Int64} (hw : w.toInt = ((own_dec f i (k1 + k2) : Nat) : Int)) (hl : l.toInt = ((own_dec f i k1 : Nat) : Int)) (hp : p.toInt = ((10 ^ k2 : Nat) : Int)) (hr : r.toInt = ((own_dec f (i + k1) k2 : Nat) : Int)) : w = (l * p) + r := by
  have b1 : own_dec f i (k1 + k2) < 10 ^ 18 := own_p17 (fun t ht => hf t (by omega)) hk
  have c4 : (10 : Nat) ^ 18 = 1000000000000000000 := by decide
  rw [c4] at b1
  rw [own_dec_app] at b1 hw
  have m0 : l.toInt * p.toInt = ((own_dec f i k1 * 10 ^ k2 : Nat) : Int) := by rw [hl, hp]; exact (Int.natCast_mul _ _).symm
  generalize own_dec f i k1 * 10 ^ k2 = M at *
  generalize own_dec f (i + k1) k2 = D at *
  clear hl hp hf c4
  have m1 : (l * p).toInt = (M : Int) := by
    rw [own_mulL (by rw [m0]; omega) (by rw [m0]; omega), m0]
  apply Int64.toInt_inj.mp
  rw [own_addL (by rw [m1, hr]; omega) (by rw [m1, hr]; omega), m1, hr, hw]
  omega
theorem own_cl {x y : Int64} : XT.cmpL x y < 0 ↔ x < y := by
  unfold XT.cmpL
  have h1 : ¬ ((1 : Int32) < 0) := by decide
  have h2 : ¬ ((0 : Int32) < 0) := by decide
  have h3 : ((-1 : Int32) < 0) := by decide
  by_cases q : y < x
  · rw [if_pos q]
    refine ⟨fun u => absurd u h1, fun u => ?_⟩
    rw [Int64.lt_iff_toInt_lt] at q u
    omega
  · rw [if_neg q]
    by_cases r : x = y
    · rw [if_pos r]
      refine ⟨fun u => absurd u h2, fun u => ?_⟩
      rw [r] at u
      rw [Int64.lt_iff_toInt_lt] at u
      omega
    · rw [if_neg r]
      refine ⟨fun _ => ?_, fun _ => h3⟩
      rw [Int64.lt_iff_toInt_lt] at q ⊢
      have r' : x.toInt ≠ y.toInt := fun u => r (Int64.toInt_inj.mp u)
      omega
theorem own_ce {x y : Int64} (h : x = y) : XT.cmpL x y = 0 := by
  subst h
  unfold XT.cmpL
  have q : ¬ x < x := by rw [Int64.lt_iff_toInt_lt]; omega
  rw [if_neg q, if_pos rfl]
theorem own_d0_0 : decode jdk_29_method_69_code 0 = .ok (.iload_n 0, 1) := by decide +kernel
theorem own_d0_1 : decode jdk_29_method_69_code 1 = .ok (.iload_n 1, 1) := by decide +kernel
theorem own_d0_2 : decode jdk_29_method_69_code 2 = .ok (.if_icmp .gt 7, 3) := by decide +kernel
theorem own_d0_5 : decode jdk_29_method_69_code 5 = .ok (.iload_n 0, 1) := by decide +kernel
theorem own_d0_6 : decode jdk_29_method_69_code 6 = .ok (.goto 4, 3) := by decide +kernel
theorem own_d0_9 : decode jdk_29_method_69_code 9 = .ok (.iload_n 1, 1) := by decide +kernel
theorem own_d0_10 : decode jdk_29_method_69_code 10 = .ok (.ireturn, 1) := by decide +kernel
theorem own_pn0 : plainFor (⟨"java/lang/Math", "min", "(II)I"⟩ : MethodName) = true := by first | exact plainFor_of_name (show plainName "java/lang/Math" = true by first | (simp [plainName, overriddenIn]; done) | decide +kernel) | decide +kernel
theorem own_ef0 (m : MethodId) (x0 : Int32) (x1 : Int32) : entryFrame m #[(.int x0), (.int x1)] 2 = mkF m 0 #[.val (.int x0), .val (.int x1)] [] := by first | (simp [entryFrame, mkF, argsToLocals, Value.category]; done) | rfl
set_option maxRecDepth 65536 in
set_option maxHeartbeats 40000000 in
theorem own_rm1 (l : Launch) (Z : State) (a0 : Array Value) (hw : ∀ d ∈ tables_1, d.before a0 Z = true) (p1 p2 : Int32) (h0 : Heap) (n0 : Nat) (Z0 : n0 ≤ h0.size)  :
    own_Met l Z (⟨"java/lang/Math", "min", "(II)I"⟩ : MethodName) jdk_29_method_69_code 2 (some .int) ({ frames := 0, cells := 0, slots := 0, locals := 0 } : Room) #[(.int p1), (.int p2)] h0 (fun v h' L => v = some (.int (own_min p1 p2)) ∧ h' = h0 ∧ L = []) := by
  refine own_in own_pn0 ?_
  intro p e s m below meth c s₁ hx hby hml hown hnm hlk hret hZ X0 e0
  have N0 := Fr.nil n0
  refine own_ef (own_ef0 m p1 p2) ?_
  show own_Go p e below s _ _ _ (s₁.setTop (mkF m 0 #[.val (.int p1), .val (.int p2)] []))
  refine own_st (fun _ kont => XS.iloadN X0.here hx rfl (hb hby own_d0_0) rfl kont) ?_
  show own_Go p e below s _ _ _ (s₁.setTop (mkF m 1 #[.val (.int p1), .val (.int p2)] [(.int p1)]))
  refine own_st (fun _ kont => XS.iloadN X0.here hx rfl (hb hby own_d0_1) rfl kont) ?_
  show own_Go p e below s _ _ _ (s₁.setTop (mkF m 2 #[.val (.int p1), .val (.int p2)] [(.int p2), (.int p1)]))
  rcases Classical.em (p2 < p1) with c1 | c1
  · show own_Go p e below s _ _ _ (s₁.setTop (mkF m 2 #[.val (.int p1), .val (.int p2)] [(.int p2), (.int p1)]))
    refine own_st (fun _ kont => XS.icmpYes X0.here hx rfl (pc0 := 2) (pc' := 9) rfl (hb hby own_d0_2) rfl (tlt c1).2.2.1 (by decide) (by decide) kont) ?_
    show own_Go p e below s _ _ _ (s₁.setTop (mkF m 9 #[.val (.int p1), .val (.int p2)] []))
    refine own_st (fun _ kont => XS.iloadN X0.here hx rfl (hb hby own_d0_9) rfl kont) ?_
    show own_Go p e below s _ _ _ (s₁.setTop (mkF m 10 #[.val (.int p1), .val (.int p2)] [(.int p2)]))
    exact own_endI X0 hx hlk hret (hb hby own_d0_10) ⟨by rw [own_min, if_pos c1], e0, rfl⟩ (by decide) (by decide)
  · show own_Go p e below s _ _ _ (s₁.setTop (mkF m 2 #[.val (.int p1), .val (.int p2)] [(.int p2), (.int p1)]))
    refine own_st (fun _ kont => XS.icmpNo X0.here hx rfl (hb hby own_d0_2) rfl (flt c1).2.2.1 kont) ?_
    show own_Go p e below s _ _ _ (s₁.setTop (mkF m 5 #[.val (.int p1), .val (.int p2)] []))
    refine own_st (fun _ kont => XS.iloadN X0.here hx rfl (hb hby own_d0_5) rfl kont) ?_
    show own_Go p e below s _ _ _ (s₁.setTop (mkF m 6 #[.val (.int p1), .val (.int p2)] [(.int p1)]))
    refine own_st (fun _ kont => XS.goto X0.here hx rfl (pc0 := 6) (pc' := 10) rfl (hb hby own_d0_6) (by decide) (by decide) kont) ?_
    show own_Go p e below s _ _ _ (s₁.setTop (mkF m 10 #[.val (.int p1), .val (.int p2)] [(.int p1)]))
    exact own_endI X0 hx hlk hret (hb hby own_d0_10) ⟨by rw [own_min, if_neg c1], e0, rfl⟩ (by decide) (by decide)
theorem own_d1_0 : decode method_2_code 0 = .ok (.bipush 48, 2) := by decide +kernel
theorem own_d1_2 : decode method_2_code 2 = .ok (.lload_n 0, 1) := by decide +kernel
theorem own_d1_3 : decode method_2_code 3 = .ok (.bipush 6, 2) := by decide +kernel
theorem own_d1_5 : decode method_2_code 5 = .ok (.iload_n 2, 1) := by decide +kernel
theorem own_d1_6 : decode method_2_code 6 = .ok (.imul, 1) := by decide +kernel
theorem own_d1_7 : decode method_2_code 7 = .ok (.lushr, 1) := by decide +kernel
theorem own_d1_8 : decode method_2_code 8 = .ok (.ldc2_w 7, 3) := by decide +kernel
theorem own_d1_11 : decode method_2_code 11 = .ok (.land, 1) := by decide +kernel
theorem own_d1_12 : decode method_2_code 12 = .ok (.ldc2_w 9, 3) := by decide +kernel
theorem own_d1_15 : decode method_2_code 15 = .ok (.lrem, 1) := by decide +kernel
theorem own_d1_16 : decode method_2_code 16 = .ok (.l2i, 1) := by decide +kernel
theorem own_d1_17 : decode method_2_code 17 = .ok (.iadd, 1) := by decide +kernel
theorem own_d1_18 : decode method_2_code 18 = .ok (.i2b, 1) := by decide +kernel
theorem own_d1_19 : decode method_2_code 19 = .ok (.ireturn, 1) := by decide +kernel
theorem own_pn1 : plainFor (⟨"com/example/refset_loom/refsetloom/rf2/BytesDecimalPinLaw", "digit", "(JI)B"⟩ : MethodName) = true := by first | exact plainFor_of_name (show plainName "com/example/refset_loom/refsetloom/rf2/BytesDecimalPinLaw" = true by first | (simp [plainName, overriddenIn]; done) | decide +kernel) | decide +kernel
theorem own_ef1 (m : MethodId) (x0 : Int64) (x1 : Int32) : entryFrame m #[(.long x0), (.int x1)] 3 = mkF m 0 #[.val (.long x0), .second, .val (.int x1)] [] := by first | (simp [entryFrame, mkF, argsToLocals, Value.category]; done) | rfl
set_option maxRecDepth 65536 in
set_option maxHeartbeats 40000000 in
theorem own_rm2 (l : Launch) (Z : State) (a0 : Array Value) (hw : ∀ d ∈ tables_1, d.before a0 Z = true) (q1 : Int64) (p2 : Int32) (h0 : Heap) (n0 : Nat) (Z0 : n0 ≤ h0.size)  :
    own_Met l Z (⟨"com/example/refset_loom/refsetloom/rf2/BytesDecimalPinLaw", "digit", "(JI)B"⟩ : MethodName) method_2_code 3 (some .byte) ({ frames := 0, cells := 0, slots := 0, locals := 0 } : Room) #[(.long q1), (.int p2)] h0 (fun v h' L => (∃ d : Int32, v = some (.int d) ∧ own_dg d) ∧ h' = h0 ∧ L = []) := by
  refine own_in own_pn1 ?_
  intro p e s m below meth c s₁ hx hby hml hown hnm hlk hret hZ X0 e0
  have N0 := Fr.nil n0
  refine own_ef (own_ef1 m q1 p2) ?_
  show own_Go p e below s _ _ _ (s₁.setTop (mkF m 0 #[.val (.long q1), .second, .val (.int p2)] []))
  refine own_st (fun _ kont => XS.bipush X0.here hx rfl (hb hby own_d1_0) kont) ?_
  show own_Go p e below s _ _ _ (s₁.setTop (mkF m 2 #[.val (.long q1), .second, .val (.int p2)] [(.int (48 : Int32))]))
  refine own_st (fun _ kont => XS.lloadN X0.here hx rfl (hb hby own_d1_2) rfl kont) ?_
  show own_Go p e below s _ _ _ (s₁.setTop (mkF m 3 #[.val (.long q1), .second, .val (.int p2)] [(.long q1), (.int (48 : Int32))]))
  refine own_st (fun _ kont => XS.bipush X0.here hx rfl (hb hby own_d1_3) kont) ?_
  show own_Go p e below s _ _ _ (s₁.setTop (mkF m 5 #[.val (.long q1), .second, .val (.int p2)] [(.int (6 : Int32)), (.long q1), (.int (48 : Int32))]))
  refine own_st (fun _ kont => XS.iloadN X0.here hx rfl (hb hby own_d1_5) rfl kont) ?_
  show own_Go p e below s _ _ _ (s₁.setTop (mkF m 6 #[.val (.long q1), .second, .val (.int p2)] [(.int p2), (.int (6 : Int32)), (.long q1), (.int (48 : Int32))]))
  refine own_st (fun _ kont => XS.imul X0.here hx rfl (hb hby own_d1_6) rfl kont) ?_
  show own_Go p e below s _ _ _ (s₁.setTop (mkF m 7 #[.val (.long q1), .second, .val (.int p2)] [(.int ((6 : Int32) * p2)), (.long q1), (.int (48 : Int32))]))
  refine own_st (fun _ kont => XT.lushr X0.here hx rfl (hb hby own_d1_7) rfl kont) ?_
  show own_Go p e below s _ _ _ (s₁.setTop (mkF m 8 #[.val (.long q1), .second, .val (.int p2)] [(.long (XT.ushrL q1 ((6 : Int32) * p2))), (.int (48 : Int32))]))
  refine own_st (fun _ kont => X0.ldc2Long hx hown (mvT hZ (hw _ (List.mem_of_getElem? (i := 5) rfl))) (g := (mkF m 8 #[.val (.long q1), .second, .val (.int p2)] [(.long (XT.ushrL q1 ((6 : Int32) * p2))), (.int (48 : Int32))])) rfl (hb hby own_d1_8) _ kont) ?_
  show own_Go p e below s _ _ _ (s₁.setTop (mkF m 11 #[.val (.long q1), .second, .val (.int p2)] [(.long (63 : Int64)), (.long (XT.ushrL q1 ((6 : Int32) * p2))), (.int (48 : Int32))]))
  refine own_st (fun _ kont => XS.land X0.here hx rfl (hb hby own_d1_11) rfl kont) ?_
  show own_Go p e below s _ _ _ (s₁.setTop (mkF m 12 #[.val (.long q1), .second, .val (.int p2)] [(.long ((XT.ushrL q1 ((6 : Int32) * p2)) &&& (63 : Int64))), (.int (48 : Int32))]))
  refine own_st (fun _ kont => X0.ldc2Long hx hown (mvT hZ (hw _ (List.mem_of_getElem? (i := 6) rfl))) (g := (mkF m 12 #[.val (.long q1), .second, .val (.int p2)] [(.long ((XT.ushrL q1 ((6 : Int32) * p2)) &&& (63 : Int64))), (.int (48 : Int32))])) rfl (hb hby own_d1_12) _ kont) ?_
  show own_Go p e below s _ _ _ (s₁.setTop (mkF m 15 #[.val (.long q1), .second, .val (.int p2)] [(.long (10 : Int64)), (.long ((XT.ushrL q1 ((6 : Int32) * p2)) &&& (63 : Int64))), (.int (48 : Int32))]))
  refine own_st (fun _ kont => XS.lrem X0.here hx rfl (hb hby own_d1_15) rfl (by decide) kont) ?_
  show own_Go p e below s _ _ _ (s₁.setTop (mkF m 16 #[.val (.long q1), .second, .val (.int p2)] [(.long (((XT.ushrL q1 ((6 : Int32) * p2)) &&& (63 : Int64)) - (((XT.ushrL q1 ((6 : Int32) * p2)) &&& (63 : Int64)) / (10 : Int64)) * (10 : Int64))), (.int (48 : Int32))]))
  refine own_st (fun _ kont => XS.l2i X0.here hx rfl (hb hby own_d1_16) rfl kont) ?_
  show own_Go p e below s _ _ _ (s₁.setTop (mkF m 17 #[.val (.long q1), .second, .val (.int p2)] [(.int ((((XT.ushrL q1 ((6 : Int32) * p2)) &&& (63 : Int64)) - (((XT.ushrL q1 ((6 : Int32) * p2)) &&& (63 : Int64)) / (10 : Int64)) * (10 : Int64))).toInt32), (.int (48 : Int32))]))
  refine own_st (fun _ kont => XS.iadd X0.here hx rfl (hb hby own_d1_17) rfl kont) ?_
  show own_Go p e below s _ _ _ (s₁.setTop (mkF m 18 #[.val (.long q1), .second, .val (.int p2)] [(.int ((48 : Int32) + ((((XT.ushrL q1 ((6 : Int32) * p2)) &&& (63 : Int64)) - (((XT.ushrL q1 ((6 : Int32) * p2)) &&& (63 : Int64)) / (10 : Int64)) * (10 : Int64))).toInt32))]))
  refine own_st (fun _ kont => XS.i2b X0.here hx rfl (hb hby own_d1_18) rfl kont) ?_
  show own_Go p e below s _ _ _ (s₁.setTop (mkF m 19 #[.val (.long q1), .second, .val (.int p2)] [(.int (((48 : Int32) + ((((XT.ushrL q1 ((6 : Int32) * p2)) &&& (63 : Int64)) - (((XT.ushrL q1 ((6 : Int32) * p2)) &&& (63 : Int64)) / (10 : Int64)) * (10 : Int64))).toInt32)).toInt8.toInt32)]))
  obtain ⟨dd, hdd, hde⟩ := own_digit (XT.ushrL q1 ((6 : Int32) * p2))
  exact own_endN X0 hx hlk (t := .byte) hret (by simp) (hb hby own_d1_19) rfl ⟨⟨dd, by rw [own_nb (by rw [hde]; exact hdd), hde], hdd⟩, e0, rfl⟩ (by decide) (by decide)
theorem own_d2_0 : decode method_3_code 0 = .ok (.bipush 19, 2) := by decide +kernel
theorem own_d2_2 : decode method_3_code 2 = .ok (.newarray .long, 2) := by decide +kernel
theorem own_d2_4 : decode method_3_code 4 = .ok (.dup, 1) := by decide +kernel
theorem own_d2_5 : decode method_3_code 5 = .ok (.iconst 0, 1) := by decide +kernel
theorem own_d2_6 : decode method_3_code 6 = .ok (.lconst 1, 1) := by decide +kernel
theorem own_d2_7 : decode method_3_code 7 = .ok (.lastore, 1) := by decide +kernel
theorem own_d2_8 : decode method_3_code 8 = .ok (.dup, 1) := by decide +kernel
theorem own_d2_9 : decode method_3_code 9 = .ok (.iconst 1, 1) := by decide +kernel
theorem own_d2_10 : decode method_3_code 10 = .ok (.ldc2_w 9, 3) := by decide +kernel
theorem own_d2_13 : decode method_3_code 13 = .ok (.lastore, 1) := by decide +kernel
theorem own_d2_14 : decode method_3_code 14 = .ok (.dup, 1) := by decide +kernel
theorem own_d2_15 : decode method_3_code 15 = .ok (.iconst 2, 1) := by decide +kernel
theorem own_d2_16 : decode method_3_code 16 = .ok (.ldc2_w 11, 3) := by decide +kernel
theorem own_d2_19 : decode method_3_code 19 = .ok (.lastore, 1) := by decide +kernel
theorem own_d2_20 : decode method_3_code 20 = .ok (.dup, 1) := by decide +kernel
theorem own_d2_21 : decode method_3_code 21 = .ok (.iconst 3, 1) := by decide +kernel
theorem own_d2_22 : decode method_3_code 22 = .ok (.ldc2_w 13, 3) := by decide +kernel
theorem own_d2_25 : decode method_3_code 25 = .ok (.lastore, 1) := by decide +kernel
theorem own_d2_26 : decode method_3_code 26 = .ok (.dup, 1) := by decide +kernel
theorem own_d2_27 : decode method_3_code 27 = .ok (.iconst 4, 1) := by decide +kernel
theorem own_d2_28 : decode method_3_code 28 = .ok (.ldc2_w 15, 3) := by decide +kernel
theorem own_d2_31 : decode method_3_code 31 = .ok (.lastore, 1) := by decide +kernel
theorem own_d2_32 : decode method_3_code 32 = .ok (.dup, 1) := by decide +kernel
theorem own_d2_33 : decode method_3_code 33 = .ok (.iconst 5, 1) := by decide +kernel
theorem own_d2_34 : decode method_3_code 34 = .ok (.ldc2_w 17, 3) := by decide +kernel
theorem own_d2_37 : decode method_3_code 37 = .ok (.lastore, 1) := by decide +kernel
theorem own_d2_38 : decode method_3_code 38 = .ok (.dup, 1) := by decide +kernel
theorem own_d2_39 : decode method_3_code 39 = .ok (.bipush 6, 2) := by decide +kernel
theorem own_d2_41 : decode method_3_code 41 = .ok (.ldc2_w 19, 3) := by decide +kernel
theorem own_d2_44 : decode method_3_code 44 = .ok (.lastore, 1) := by decide +kernel
theorem own_d2_45 : decode method_3_code 45 = .ok (.dup, 1) := by decide +kernel
theorem own_d2_46 : decode method_3_code 46 = .ok (.bipush 7, 2) := by decide +kernel
theorem own_d2_48 : decode method_3_code 48 = .ok (.ldc2_w 21, 3) := by decide +kernel
theorem own_d2_51 : decode method_3_code 51 = .ok (.lastore, 1) := by decide +kernel
theorem own_d2_52 : decode method_3_code 52 = .ok (.dup, 1) := by decide +kernel
theorem own_d2_53 : decode method_3_code 53 = .ok (.bipush 8, 2) := by decide +kernel
theorem own_d2_55 : decode method_3_code 55 = .ok (.ldc2_w 23, 3) := by decide +kernel
theorem own_d2_58 : decode method_3_code 58 = .ok (.lastore, 1) := by decide +kernel
theorem own_d2_59 : decode method_3_code 59 = .ok (.dup, 1) := by decide +kernel
theorem own_d2_60 : decode method_3_code 60 = .ok (.bipush 9, 2) := by decide +kernel
theorem own_d2_62 : decode method_3_code 62 = .ok (.ldc2_w 25, 3) := by decide +kernel
theorem own_d2_65 : decode method_3_code 65 = .ok (.lastore, 1) := by decide +kernel
theorem own_d2_66 : decode method_3_code 66 = .ok (.dup, 1) := by decide +kernel
theorem own_d2_67 : decode method_3_code 67 = .ok (.bipush 10, 2) := by decide +kernel
theorem own_d2_69 : decode method_3_code 69 = .ok (.ldc2_w 27, 3) := by decide +kernel
theorem own_d2_72 : decode method_3_code 72 = .ok (.lastore, 1) := by decide +kernel
theorem own_d2_73 : decode method_3_code 73 = .ok (.dup, 1) := by decide +kernel
theorem own_d2_74 : decode method_3_code 74 = .ok (.bipush 11, 2) := by decide +kernel
theorem own_d2_76 : decode method_3_code 76 = .ok (.ldc2_w 29, 3) := by decide +kernel
theorem own_d2_79 : decode method_3_code 79 = .ok (.lastore, 1) := by decide +kernel
theorem own_d2_80 : decode method_3_code 80 = .ok (.dup, 1) := by decide +kernel
theorem own_d2_81 : decode method_3_code 81 = .ok (.bipush 12, 2) := by decide +kernel
theorem own_d2_83 : decode method_3_code 83 = .ok (.ldc2_w 31, 3) := by decide +kernel
theorem own_d2_86 : decode method_3_code 86 = .ok (.lastore, 1) := by decide +kernel
theorem own_d2_87 : decode method_3_code 87 = .ok (.dup, 1) := by decide +kernel
theorem own_d2_88 : decode method_3_code 88 = .ok (.bipush 13, 2) := by decide +kernel
theorem own_d2_90 : decode method_3_code 90 = .ok (.ldc2_w 33, 3) := by decide +kernel
theorem own_d2_93 : decode method_3_code 93 = .ok (.lastore, 1) := by decide +kernel
theorem own_d2_94 : decode method_3_code 94 = .ok (.dup, 1) := by decide +kernel
theorem own_d2_95 : decode method_3_code 95 = .ok (.bipush 14, 2) := by decide +kernel
theorem own_d2_97 : decode method_3_code 97 = .ok (.ldc2_w 35, 3) := by decide +kernel
theorem own_d2_100 : decode method_3_code 100 = .ok (.lastore, 1) := by decide +kernel
theorem own_d2_101 : decode method_3_code 101 = .ok (.dup, 1) := by decide +kernel
theorem own_d2_102 : decode method_3_code 102 = .ok (.bipush 15, 2) := by decide +kernel
theorem own_d2_104 : decode method_3_code 104 = .ok (.ldc2_w 37, 3) := by decide +kernel
theorem own_d2_107 : decode method_3_code 107 = .ok (.lastore, 1) := by decide +kernel
theorem own_d2_108 : decode method_3_code 108 = .ok (.dup, 1) := by decide +kernel
theorem own_d2_109 : decode method_3_code 109 = .ok (.bipush 16, 2) := by decide +kernel
theorem own_d2_111 : decode method_3_code 111 = .ok (.ldc2_w 39, 3) := by decide +kernel
theorem own_d2_114 : decode method_3_code 114 = .ok (.lastore, 1) := by decide +kernel
theorem own_d2_115 : decode method_3_code 115 = .ok (.dup, 1) := by decide +kernel
theorem own_d2_116 : decode method_3_code 116 = .ok (.bipush 17, 2) := by decide +kernel
theorem own_d2_118 : decode method_3_code 118 = .ok (.ldc2_w 41, 3) := by decide +kernel
theorem own_d2_121 : decode method_3_code 121 = .ok (.lastore, 1) := by decide +kernel
theorem own_d2_122 : decode method_3_code 122 = .ok (.dup, 1) := by decide +kernel
theorem own_d2_123 : decode method_3_code 123 = .ok (.bipush 18, 2) := by decide +kernel
theorem own_d2_125 : decode method_3_code 125 = .ok (.ldc2_w 43, 3) := by decide +kernel
theorem own_d2_128 : decode method_3_code 128 = .ok (.lastore, 1) := by decide +kernel
theorem own_d2_129 : decode method_3_code 129 = .ok (.astore_n 1, 1) := by decide +kernel
theorem own_d2_130 : decode method_3_code 130 = .ok (.aload_n 1, 1) := by decide +kernel
theorem own_d2_131 : decode method_3_code 131 = .ok (.iload_n 0, 1) := by decide +kernel
theorem own_d2_132 : decode method_3_code 132 = .ok (.laload, 1) := by decide +kernel
theorem own_d2_133 : decode method_3_code 133 = .ok (.lreturn, 1) := by decide +kernel
theorem own_pn2 : plainFor (⟨"com/example/refset_loom/refsetloom/rf2/BytesDecimalPinLaw", "pow10", "(I)J"⟩ : MethodName) = true := by first | exact plainFor_of_name (show plainName "com/example/refset_loom/refsetloom/rf2/BytesDecimalPinLaw" = true by first | (simp [plainName, overriddenIn]; done) | decide +kernel) | decide +kernel
theorem own_ef2 (m : MethodId) (x0 : Int32) : entryFrame m #[(.int x0)] 2 = mkF m 0 #[.val (.int x0), .unset] [] := by first | (simp [entryFrame, mkF, argsToLocals, Value.category]; done) | rfl
set_option maxRecDepth 65536 in
set_option maxHeartbeats 40000000 in
theorem own_rm3 (l : Launch) (Z : State) (a0 : Array Value) (hw : ∀ d ∈ tables_1, d.before a0 Z = true) (p1 : Int32) (n : Nat) (h0 : Heap) (n0 : Nat) (Z0 : n0 ≤ h0.size) (hn : p1.toInt = (n : Int)) (hlt : n < 19) :
    own_Met l Z (⟨"com/example/refset_loom/refsetloom/rf2/BytesDecimalPinLaw", "pow10", "(I)J"⟩ : MethodName) method_3_code 2 (some .long) ({ frames := 0, cells := 1, slots := 19, locals := 0 } : Room) #[(.int p1)] h0 (fun v h' L => (∃ z : Int64, v = some (.long z) ∧ z.toInt = ((10 ^ n : Nat) : Int)) ∧ Fr n0 L ∧ Keep h0 h' []) := by
  refine own_in own_pn2 ?_
  intro p e s m below meth c s₁ hx hby hml hown hnm hlk hret hZ X0 e0
  have N0 := Fr.nil n0
  refine own_ef (own_ef2 m p1) ?_
  show own_Go p e below s _ _ _ (s₁.setTop (mkF m 0 #[.val (.int p1), .unset] []))
  refine own_st (fun _ kont => XS.bipush X0.here hx rfl (hb hby own_d2_0) kont) ?_
  show own_Go p e below s _ _ _ (s₁.setTop (mkF m 2 #[.val (.int p1), .unset] [(.int (19 : Int32))]))
  obtain ⟨T1, h1, tb, g1, X1, e1, E1, Vtb, st1⟩ := own_newA X0 hx hZ (hw _ (List.mem_of_getElem? (i := 21) rfl)) e0 (g := (mkF m 2 #[.val (.int p1), .unset] [(.int (19 : Int32))])) rfl (hb hby own_d2_2) rfl (n := 19) (cap := 19) (by decide) (by decide) (by decide) (by decide) (by decide)
  replace Vtb : own_Av Z h1 tb .long 19 (fun _ => .long 0) := Vtb
  have fr_tb : n0 ≤ tb := Nat.le_trans Z0 (Nat.le_of_eq g1.symm)
  have sk_tb : h0.size ≤ tb := Nat.le_trans (Keep.refl h0 []).1 (Nat.le_of_eq g1.symm)
  have sz1 := Nat.le_trans Z0 E1.1
  have K1 := (Keep.refl h0 []).ext E1
  refine own_st st1 ?_
  show own_Go p e below s _ _ _ (T1.setTop (mkF m 4 #[.val (.int p1), .unset] [(.ref tb)]))
  refine own_st (fun _ kont => XS.dup X1.here hx rfl (hb hby own_d2_4) rfl rfl kont) ?_
  show own_Go p e below s _ _ _ (T1.setTop (mkF m 5 #[.val (.int p1), .unset] [(.ref tb), (.ref tb)]))
  refine own_st (fun _ kont => XS.iconst X1.here hx rfl (hb hby own_d2_5) kont) ?_
  show own_Go p e below s _ _ _ (T1.setTop (mkF m 6 #[.val (.int p1), .unset] [(.int (0 : Int32)), (.ref tb), (.ref tb)]))
  refine own_st (fun _ kont => XS.lconst X1.here hx rfl (hb hby own_d2_6) kont) ?_
  show own_Go p e below s _ _ _ (T1.setTop (mkF m 7 #[.val (.int p1), .unset] [(.long (1 : Int64)), (.int (0 : Int32)), (.ref tb), (.ref tb)]))
  obtain ⟨T2, h2, X2, e2, W2, Vtb_2, st2⟩ := own_stJ X1 hx hZ e1 Vtb (i := 0) (by decide) (by decide) (g := (mkF m 7 #[.val (.int p1), .unset] [(.long (1 : Int64)), (.int (0 : Int32)), (.ref tb), (.ref tb)])) rfl rfl (hb hby own_d2_7)
  have sz2 := Nat.le_trans sz1 (Keep.of_wr W2).1
  have K2 := K1.wr W2 (Or.inr sk_tb)
  have N2 := Fr.snoc X2 N0 fr_tb
  refine own_st st2 ?_
  show own_Go p e below s _ _ _ (T2.setTop (mkF m 8 #[.val (.int p1), .unset] [(.ref tb)]))
  refine own_st (fun _ kont => XS.dup X2.here hx rfl (hb hby own_d2_8) rfl rfl kont) ?_
  show own_Go p e below s _ _ _ (T2.setTop (mkF m 9 #[.val (.int p1), .unset] [(.ref tb), (.ref tb)]))
  refine own_st (fun _ kont => XS.iconst X2.here hx rfl (hb hby own_d2_9) kont) ?_
  show own_Go p e below s _ _ _ (T2.setTop (mkF m 10 #[.val (.int p1), .unset] [(.int (1 : Int32)), (.ref tb), (.ref tb)]))
  refine own_st (fun _ kont => X2.ldc2Long hx hown (mvT hZ (hw _ (List.mem_of_getElem? (i := 6) rfl))) (g := (mkF m 10 #[.val (.int p1), .unset] [(.int (1 : Int32)), (.ref tb), (.ref tb)])) rfl (hb hby own_d2_10) _ kont) ?_
  show own_Go p e below s _ _ _ (T2.setTop (mkF m 13 #[.val (.int p1), .unset] [(.long (10 : Int64)), (.int (1 : Int32)), (.ref tb), (.ref tb)]))
  obtain ⟨T3, h3, X3, e3, W3, Vtb_3, st3⟩ := own_stJ X2 hx hZ e2 Vtb_2 (i := 1) (by decide) (by decide) (g := (mkF m 13 #[.val (.int p1), .unset] [(.long (10 : Int64)), (.int (1 : Int32)), (.ref tb), (.ref tb)])) rfl rfl (hb hby own_d2_13)
  have sz3 := Nat.le_trans sz2 (Keep.of_wr W3).1
  have K3 := K2.wr W3 (Or.inr sk_tb)
  have N3 := Fr.snoc X3 N2 fr_tb
  refine own_st st3 ?_
  show own_Go p e below s _ _ _ (T3.setTop (mkF m 14 #[.val (.int p1), .unset] [(.ref tb)]))
  refine own_st (fun _ kont => XS.dup X3.here hx rfl (hb hby own_d2_14) rfl rfl kont) ?_
  show own_Go p e below s _ _ _ (T3.setTop (mkF m 15 #[.val (.int p1), .unset] [(.ref tb), (.ref tb)]))
  refine own_st (fun _ kont => XS.iconst X3.here hx rfl (hb hby own_d2_15) kont) ?_
  show own_Go p e below s _ _ _ (T3.setTop (mkF m 16 #[.val (.int p1), .unset] [(.int (2 : Int32)), (.ref tb), (.ref tb)]))
  refine own_st (fun _ kont => X3.ldc2Long hx hown (mvT hZ (hw _ (List.mem_of_getElem? (i := 22) rfl))) (g := (mkF m 16 #[.val (.int p1), .unset] [(.int (2 : Int32)), (.ref tb), (.ref tb)])) rfl (hb hby own_d2_16) _ kont) ?_
  show own_Go p e below s _ _ _ (T3.setTop (mkF m 19 #[.val (.int p1), .unset] [(.long (100 : Int64)), (.int (2 : Int32)), (.ref tb), (.ref tb)]))
  obtain ⟨T4, h4, X4, e4, W4, Vtb_4, st4⟩ := own_stJ X3 hx hZ e3 Vtb_3 (i := 2) (by decide) (by decide) (g := (mkF m 19 #[.val (.int p1), .unset] [(.long (100 : Int64)), (.int (2 : Int32)), (.ref tb), (.ref tb)])) rfl rfl (hb hby own_d2_19)
  have sz4 := Nat.le_trans sz3 (Keep.of_wr W4).1
  have K4 := K3.wr W4 (Or.inr sk_tb)
  have N4 := Fr.snoc X4 N3 fr_tb
  refine own_st st4 ?_
  show own_Go p e below s _ _ _ (T4.setTop (mkF m 20 #[.val (.int p1), .unset] [(.ref tb)]))
  refine own_st (fun _ kont => XS.dup X4.here hx rfl (hb hby own_d2_20) rfl rfl kont) ?_
  show own_Go p e below s _ _ _ (T4.setTop (mkF m 21 #[.val (.int p1), .unset] [(.ref tb), (.ref tb)]))
  refine own_st (fun _ kont => XS.iconst X4.here hx rfl (hb hby own_d2_21) kont) ?_
  show own_Go p e below s _ _ _ (T4.setTop (mkF m 22 #[.val (.int p1), .unset] [(.int (3 : Int32)), (.ref tb), (.ref tb)]))
  refine own_st (fun _ kont => X4.ldc2Long hx hown (mvT hZ (hw _ (List.mem_of_getElem? (i := 23) rfl))) (g := (mkF m 22 #[.val (.int p1), .unset] [(.int (3 : Int32)), (.ref tb), (.ref tb)])) rfl (hb hby own_d2_22) _ kont) ?_
  show own_Go p e below s _ _ _ (T4.setTop (mkF m 25 #[.val (.int p1), .unset] [(.long (1000 : Int64)), (.int (3 : Int32)), (.ref tb), (.ref tb)]))
  obtain ⟨T5, h5, X5, e5, W5, Vtb_5, st5⟩ := own_stJ X4 hx hZ e4 Vtb_4 (i := 3) (by decide) (by decide) (g := (mkF m 25 #[.val (.int p1), .unset] [(.long (1000 : Int64)), (.int (3 : Int32)), (.ref tb), (.ref tb)])) rfl rfl (hb hby own_d2_25)
  have sz5 := Nat.le_trans sz4 (Keep.of_wr W5).1
  have K5 := K4.wr W5 (Or.inr sk_tb)
  have N5 := Fr.snoc X5 N4 fr_tb
  refine own_st st5 ?_
  show own_Go p e below s _ _ _ (T5.setTop (mkF m 26 #[.val (.int p1), .unset] [(.ref tb)]))
  refine own_st (fun _ kont => XS.dup X5.here hx rfl (hb hby own_d2_26) rfl rfl kont) ?_
  show own_Go p e below s _ _ _ (T5.setTop (mkF m 27 #[.val (.int p1), .unset] [(.ref tb), (.ref tb)]))
  refine own_st (fun _ kont => XS.iconst X5.here hx rfl (hb hby own_d2_27) kont) ?_
  show own_Go p e below s _ _ _ (T5.setTop (mkF m 28 #[.val (.int p1), .unset] [(.int (4 : Int32)), (.ref tb), (.ref tb)]))
  refine own_st (fun _ kont => X5.ldc2Long hx hown (mvT hZ (hw _ (List.mem_of_getElem? (i := 24) rfl))) (g := (mkF m 28 #[.val (.int p1), .unset] [(.int (4 : Int32)), (.ref tb), (.ref tb)])) rfl (hb hby own_d2_28) _ kont) ?_
  show own_Go p e below s _ _ _ (T5.setTop (mkF m 31 #[.val (.int p1), .unset] [(.long (10000 : Int64)), (.int (4 : Int32)), (.ref tb), (.ref tb)]))
  obtain ⟨T6, h6, X6, e6, W6, Vtb_6, st6⟩ := own_stJ X5 hx hZ e5 Vtb_5 (i := 4) (by decide) (by decide) (g := (mkF m 31 #[.val (.int p1), .unset] [(.long (10000 : Int64)), (.int (4 : Int32)), (.ref tb), (.ref tb)])) rfl rfl (hb hby own_d2_31)
  have sz6 := Nat.le_trans sz5 (Keep.of_wr W6).1
  have K6 := K5.wr W6 (Or.inr sk_tb)
  have N6 := Fr.snoc X6 N5 fr_tb
  refine own_st st6 ?_
  show own_Go p e below s _ _ _ (T6.setTop (mkF m 32 #[.val (.int p1), .unset] [(.ref tb)]))
  refine own_st (fun _ kont => XS.dup X6.here hx rfl (hb hby own_d2_32) rfl rfl kont) ?_
  show own_Go p e below s _ _ _ (T6.setTop (mkF m 33 #[.val (.int p1), .unset] [(.ref tb), (.ref tb)]))
  refine own_st (fun _ kont => XS.iconst X6.here hx rfl (hb hby own_d2_33) kont) ?_
  show own_Go p e below s _ _ _ (T6.setTop (mkF m 34 #[.val (.int p1), .unset] [(.int (5 : Int32)), (.ref tb), (.ref tb)]))
  refine own_st (fun _ kont => X6.ldc2Long hx hown (mvT hZ (hw _ (List.mem_of_getElem? (i := 25) rfl))) (g := (mkF m 34 #[.val (.int p1), .unset] [(.int (5 : Int32)), (.ref tb), (.ref tb)])) rfl (hb hby own_d2_34) _ kont) ?_
  show own_Go p e below s _ _ _ (T6.setTop (mkF m 37 #[.val (.int p1), .unset] [(.long (100000 : Int64)), (.int (5 : Int32)), (.ref tb), (.ref tb)]))
  obtain ⟨T7, h7, X7, e7, W7, Vtb_7, st7⟩ := own_stJ X6 hx hZ e6 Vtb_6 (i := 5) (by decide) (by decide) (g := (mkF m 37 #[.val (.int p1), .unset] [(.long (100000 : Int64)), (.int (5 : Int32)), (.ref tb), (.ref tb)])) rfl rfl (hb hby own_d2_37)
  have sz7 := Nat.le_trans sz6 (Keep.of_wr W7).1
  have K7 := K6.wr W7 (Or.inr sk_tb)
  have N7 := Fr.snoc X7 N6 fr_tb
  refine own_st st7 ?_
  show own_Go p e below s _ _ _ (T7.setTop (mkF m 38 #[.val (.int p1), .unset] [(.ref tb)]))
  refine own_st (fun _ kont => XS.dup X7.here hx rfl (hb hby own_d2_38) rfl rfl kont) ?_
  show own_Go p e below s _ _ _ (T7.setTop (mkF m 39 #[.val (.int p1), .unset] [(.ref tb), (.ref tb)]))
  refine own_st (fun _ kont => XS.bipush X7.here hx rfl (hb hby own_d2_39) kont) ?_
  show own_Go p e below s _ _ _ (T7.setTop (mkF m 41 #[.val (.int p1), .unset] [(.int (6 : Int32)), (.ref tb), (.ref tb)]))
  refine own_st (fun _ kont => X7.ldc2Long hx hown (mvT hZ (hw _ (List.mem_of_getElem? (i := 26) rfl))) (g := (mkF m 41 #[.val (.int p1), .unset] [(.int (6 : Int32)), (.ref tb), (.ref tb)])) rfl (hb hby own_d2_41) _ kont) ?_
  show own_Go p e below s _ _ _ (T7.setTop (mkF m 44 #[.val (.int p1), .unset] [(.long (1000000 : Int64)), (.int (6 : Int32)), (.ref tb), (.ref tb)]))
  obtain ⟨T8, h8, X8, e8, W8, Vtb_8, st8⟩ := own_stJ X7 hx hZ e7 Vtb_7 (i := 6) (by decide) (by decide) (g := (mkF m 44 #[.val (.int p1), .unset] [(.long (1000000 : Int64)), (.int (6 : Int32)), (.ref tb), (.ref tb)])) rfl rfl (hb hby own_d2_44)
  have sz8 := Nat.le_trans sz7 (Keep.of_wr W8).1
  have K8 := K7.wr W8 (Or.inr sk_tb)
  have N8 := Fr.snoc X8 N7 fr_tb
  refine own_st st8 ?_
  show own_Go p e below s _ _ _ (T8.setTop (mkF m 45 #[.val (.int p1), .unset] [(.ref tb)]))
  refine own_st (fun _ kont => XS.dup X8.here hx rfl (hb hby own_d2_45) rfl rfl kont) ?_
  show own_Go p e below s _ _ _ (T8.setTop (mkF m 46 #[.val (.int p1), .unset] [(.ref tb), (.ref tb)]))
  refine own_st (fun _ kont => XS.bipush X8.here hx rfl (hb hby own_d2_46) kont) ?_
  show own_Go p e below s _ _ _ (T8.setTop (mkF m 48 #[.val (.int p1), .unset] [(.int (7 : Int32)), (.ref tb), (.ref tb)]))
  refine own_st (fun _ kont => X8.ldc2Long hx hown (mvT hZ (hw _ (List.mem_of_getElem? (i := 27) rfl))) (g := (mkF m 48 #[.val (.int p1), .unset] [(.int (7 : Int32)), (.ref tb), (.ref tb)])) rfl (hb hby own_d2_48) _ kont) ?_
  show own_Go p e below s _ _ _ (T8.setTop (mkF m 51 #[.val (.int p1), .unset] [(.long (10000000 : Int64)), (.int (7 : Int32)), (.ref tb), (.ref tb)]))
  obtain ⟨T9, h9, X9, e9, W9, Vtb_9, st9⟩ := own_stJ X8 hx hZ e8 Vtb_8 (i := 7) (by decide) (by decide) (g := (mkF m 51 #[.val (.int p1), .unset] [(.long (10000000 : Int64)), (.int (7 : Int32)), (.ref tb), (.ref tb)])) rfl rfl (hb hby own_d2_51)
  have sz9 := Nat.le_trans sz8 (Keep.of_wr W9).1
  have K9 := K8.wr W9 (Or.inr sk_tb)
  have N9 := Fr.snoc X9 N8 fr_tb
  refine own_st st9 ?_
  show own_Go p e below s _ _ _ (T9.setTop (mkF m 52 #[.val (.int p1), .unset] [(.ref tb)]))
  refine own_st (fun _ kont => XS.dup X9.here hx rfl (hb hby own_d2_52) rfl rfl kont) ?_
  show own_Go p e below s _ _ _ (T9.setTop (mkF m 53 #[.val (.int p1), .unset] [(.ref tb), (.ref tb)]))
  refine own_st (fun _ kont => XS.bipush X9.here hx rfl (hb hby own_d2_53) kont) ?_
  show own_Go p e below s _ _ _ (T9.setTop (mkF m 55 #[.val (.int p1), .unset] [(.int (8 : Int32)), (.ref tb), (.ref tb)]))
  refine own_st (fun _ kont => X9.ldc2Long hx hown (mvT hZ (hw _ (List.mem_of_getElem? (i := 28) rfl))) (g := (mkF m 55 #[.val (.int p1), .unset] [(.int (8 : Int32)), (.ref tb), (.ref tb)])) rfl (hb hby own_d2_55) _ kont) ?_
  show own_Go p e below s _ _ _ (T9.setTop (mkF m 58 #[.val (.int p1), .unset] [(.long (100000000 : Int64)), (.int (8 : Int32)), (.ref tb), (.ref tb)]))
  obtain ⟨T10, h10, X10, e10, W10, Vtb_10, st10⟩ := own_stJ X9 hx hZ e9 Vtb_9 (i := 8) (by decide) (by decide) (g := (mkF m 58 #[.val (.int p1), .unset] [(.long (100000000 : Int64)), (.int (8 : Int32)), (.ref tb), (.ref tb)])) rfl rfl (hb hby own_d2_58)
  have sz10 := Nat.le_trans sz9 (Keep.of_wr W10).1
  have K10 := K9.wr W10 (Or.inr sk_tb)
  have N10 := Fr.snoc X10 N9 fr_tb
  refine own_st st10 ?_
  show own_Go p e below s _ _ _ (T10.setTop (mkF m 59 #[.val (.int p1), .unset] [(.ref tb)]))
  refine own_st (fun _ kont => XS.dup X10.here hx rfl (hb hby own_d2_59) rfl rfl kont) ?_
  show own_Go p e below s _ _ _ (T10.setTop (mkF m 60 #[.val (.int p1), .unset] [(.ref tb), (.ref tb)]))
  refine own_st (fun _ kont => XS.bipush X10.here hx rfl (hb hby own_d2_60) kont) ?_
  show own_Go p e below s _ _ _ (T10.setTop (mkF m 62 #[.val (.int p1), .unset] [(.int (9 : Int32)), (.ref tb), (.ref tb)]))
  refine own_st (fun _ kont => X10.ldc2Long hx hown (mvT hZ (hw _ (List.mem_of_getElem? (i := 29) rfl))) (g := (mkF m 62 #[.val (.int p1), .unset] [(.int (9 : Int32)), (.ref tb), (.ref tb)])) rfl (hb hby own_d2_62) _ kont) ?_
  show own_Go p e below s _ _ _ (T10.setTop (mkF m 65 #[.val (.int p1), .unset] [(.long (1000000000 : Int64)), (.int (9 : Int32)), (.ref tb), (.ref tb)]))
  obtain ⟨T11, h11, X11, e11, W11, Vtb_11, st11⟩ := own_stJ X10 hx hZ e10 Vtb_10 (i := 9) (by decide) (by decide) (g := (mkF m 65 #[.val (.int p1), .unset] [(.long (1000000000 : Int64)), (.int (9 : Int32)), (.ref tb), (.ref tb)])) rfl rfl (hb hby own_d2_65)
  have sz11 := Nat.le_trans sz10 (Keep.of_wr W11).1
  have K11 := K10.wr W11 (Or.inr sk_tb)
  have N11 := Fr.snoc X11 N10 fr_tb
  refine own_st st11 ?_
  show own_Go p e below s _ _ _ (T11.setTop (mkF m 66 #[.val (.int p1), .unset] [(.ref tb)]))
  refine own_st (fun _ kont => XS.dup X11.here hx rfl (hb hby own_d2_66) rfl rfl kont) ?_
  show own_Go p e below s _ _ _ (T11.setTop (mkF m 67 #[.val (.int p1), .unset] [(.ref tb), (.ref tb)]))
  refine own_st (fun _ kont => XS.bipush X11.here hx rfl (hb hby own_d2_67) kont) ?_
  show own_Go p e below s _ _ _ (T11.setTop (mkF m 69 #[.val (.int p1), .unset] [(.int (10 : Int32)), (.ref tb), (.ref tb)]))
  refine own_st (fun _ kont => X11.ldc2Long hx hown (mvT hZ (hw _ (List.mem_of_getElem? (i := 30) rfl))) (g := (mkF m 69 #[.val (.int p1), .unset] [(.int (10 : Int32)), (.ref tb), (.ref tb)])) rfl (hb hby own_d2_69) _ kont) ?_
  show own_Go p e below s _ _ _ (T11.setTop (mkF m 72 #[.val (.int p1), .unset] [(.long (10000000000 : Int64)), (.int (10 : Int32)), (.ref tb), (.ref tb)]))
  obtain ⟨T12, h12, X12, e12, W12, Vtb_12, st12⟩ := own_stJ X11 hx hZ e11 Vtb_11 (i := 10) (by decide) (by decide) (g := (mkF m 72 #[.val (.int p1), .unset] [(.long (10000000000 : Int64)), (.int (10 : Int32)), (.ref tb), (.ref tb)])) rfl rfl (hb hby own_d2_72)
  have sz12 := Nat.le_trans sz11 (Keep.of_wr W12).1
  have K12 := K11.wr W12 (Or.inr sk_tb)
  have N12 := Fr.snoc X12 N11 fr_tb
  refine own_st st12 ?_
  show own_Go p e below s _ _ _ (T12.setTop (mkF m 73 #[.val (.int p1), .unset] [(.ref tb)]))
  refine own_st (fun _ kont => XS.dup X12.here hx rfl (hb hby own_d2_73) rfl rfl kont) ?_
  show own_Go p e below s _ _ _ (T12.setTop (mkF m 74 #[.val (.int p1), .unset] [(.ref tb), (.ref tb)]))
  refine own_st (fun _ kont => XS.bipush X12.here hx rfl (hb hby own_d2_74) kont) ?_
  show own_Go p e below s _ _ _ (T12.setTop (mkF m 76 #[.val (.int p1), .unset] [(.int (11 : Int32)), (.ref tb), (.ref tb)]))
  refine own_st (fun _ kont => X12.ldc2Long hx hown (mvT hZ (hw _ (List.mem_of_getElem? (i := 31) rfl))) (g := (mkF m 76 #[.val (.int p1), .unset] [(.int (11 : Int32)), (.ref tb), (.ref tb)])) rfl (hb hby own_d2_76) _ kont) ?_
  show own_Go p e below s _ _ _ (T12.setTop (mkF m 79 #[.val (.int p1), .unset] [(.long (100000000000 : Int64)), (.int (11 : Int32)), (.ref tb), (.ref tb)]))
  obtain ⟨T13, h13, X13, e13, W13, Vtb_13, st13⟩ := own_stJ X12 hx hZ e12 Vtb_12 (i := 11) (by decide) (by decide) (g := (mkF m 79 #[.val (.int p1), .unset] [(.long (100000000000 : Int64)), (.int (11 : Int32)), (.ref tb), (.ref tb)])) rfl rfl (hb hby own_d2_79)
  have sz13 := Nat.le_trans sz12 (Keep.of_wr W13).1
  have K13 := K12.wr W13 (Or.inr sk_tb)
  have N13 := Fr.snoc X13 N12 fr_tb
  refine own_st st13 ?_
  show own_Go p e below s _ _ _ (T13.setTop (mkF m 80 #[.val (.int p1), .unset] [(.ref tb)]))
  refine own_st (fun _ kont => XS.dup X13.here hx rfl (hb hby own_d2_80) rfl rfl kont) ?_
  show own_Go p e below s _ _ _ (T13.setTop (mkF m 81 #[.val (.int p1), .unset] [(.ref tb), (.ref tb)]))
  refine own_st (fun _ kont => XS.bipush X13.here hx rfl (hb hby own_d2_81) kont) ?_
  show own_Go p e below s _ _ _ (T13.setTop (mkF m 83 #[.val (.int p1), .unset] [(.int (12 : Int32)), (.ref tb), (.ref tb)]))
  refine own_st (fun _ kont => X13.ldc2Long hx hown (mvT hZ (hw _ (List.mem_of_getElem? (i := 32) rfl))) (g := (mkF m 83 #[.val (.int p1), .unset] [(.int (12 : Int32)), (.ref tb), (.ref tb)])) rfl (hb hby own_d2_83) _ kont) ?_
  show own_Go p e below s _ _ _ (T13.setTop (mkF m 86 #[.val (.int p1), .unset] [(.long (1000000000000 : Int64)), (.int (12 : Int32)), (.ref tb), (.ref tb)]))
  obtain ⟨T14, h14, X14, e14, W14, Vtb_14, st14⟩ := own_stJ X13 hx hZ e13 Vtb_13 (i := 12) (by decide) (by decide) (g := (mkF m 86 #[.val (.int p1), .unset] [(.long (1000000000000 : Int64)), (.int (12 : Int32)), (.ref tb), (.ref tb)])) rfl rfl (hb hby own_d2_86)
  have sz14 := Nat.le_trans sz13 (Keep.of_wr W14).1
  have K14 := K13.wr W14 (Or.inr sk_tb)
  have N14 := Fr.snoc X14 N13 fr_tb
  refine own_st st14 ?_
  show own_Go p e below s _ _ _ (T14.setTop (mkF m 87 #[.val (.int p1), .unset] [(.ref tb)]))
  refine own_st (fun _ kont => XS.dup X14.here hx rfl (hb hby own_d2_87) rfl rfl kont) ?_
  show own_Go p e below s _ _ _ (T14.setTop (mkF m 88 #[.val (.int p1), .unset] [(.ref tb), (.ref tb)]))
  refine own_st (fun _ kont => XS.bipush X14.here hx rfl (hb hby own_d2_88) kont) ?_
  show own_Go p e below s _ _ _ (T14.setTop (mkF m 90 #[.val (.int p1), .unset] [(.int (13 : Int32)), (.ref tb), (.ref tb)]))
  refine own_st (fun _ kont => X14.ldc2Long hx hown (mvT hZ (hw _ (List.mem_of_getElem? (i := 33) rfl))) (g := (mkF m 90 #[.val (.int p1), .unset] [(.int (13 : Int32)), (.ref tb), (.ref tb)])) rfl (hb hby own_d2_90) _ kont) ?_
  show own_Go p e below s _ _ _ (T14.setTop (mkF m 93 #[.val (.int p1), .unset] [(.long (10000000000000 : Int64)), (.int (13 : Int32)), (.ref tb), (.ref tb)]))
  obtain ⟨T15, h15, X15, e15, W15, Vtb_15, st15⟩ := own_stJ X14 hx hZ e14 Vtb_14 (i := 13) (by decide) (by decide) (g := (mkF m 93 #[.val (.int p1), .unset] [(.long (10000000000000 : Int64)), (.int (13 : Int32)), (.ref tb), (.ref tb)])) rfl rfl (hb hby own_d2_93)
  have sz15 := Nat.le_trans sz14 (Keep.of_wr W15).1
  have K15 := K14.wr W15 (Or.inr sk_tb)
  have N15 := Fr.snoc X15 N14 fr_tb
  refine own_st st15 ?_
  show own_Go p e below s _ _ _ (T15.setTop (mkF m 94 #[.val (.int p1), .unset] [(.ref tb)]))
  refine own_st (fun _ kont => XS.dup X15.here hx rfl (hb hby own_d2_94) rfl rfl kont) ?_
  show own_Go p e below s _ _ _ (T15.setTop (mkF m 95 #[.val (.int p1), .unset] [(.ref tb), (.ref tb)]))
  refine own_st (fun _ kont => XS.bipush X15.here hx rfl (hb hby own_d2_95) kont) ?_
  show own_Go p e below s _ _ _ (T15.setTop (mkF m 97 #[.val (.int p1), .unset] [(.int (14 : Int32)), (.ref tb), (.ref tb)]))
  refine own_st (fun _ kont => X15.ldc2Long hx hown (mvT hZ (hw _ (List.mem_of_getElem? (i := 34) rfl))) (g := (mkF m 97 #[.val (.int p1), .unset] [(.int (14 : Int32)), (.ref tb), (.ref tb)])) rfl (hb hby own_d2_97) _ kont) ?_
  show own_Go p e below s _ _ _ (T15.setTop (mkF m 100 #[.val (.int p1), .unset] [(.long (100000000000000 : Int64)), (.int (14 : Int32)), (.ref tb), (.ref tb)]))
  obtain ⟨T16, h16, X16, e16, W16, Vtb_16, st16⟩ := own_stJ X15 hx hZ e15 Vtb_15 (i := 14) (by decide) (by decide) (g := (mkF m 100 #[.val (.int p1), .unset] [(.long (100000000000000 : Int64)), (.int (14 : Int32)), (.ref tb), (.ref tb)])) rfl rfl (hb hby own_d2_100)
  have sz16 := Nat.le_trans sz15 (Keep.of_wr W16).1
  have K16 := K15.wr W16 (Or.inr sk_tb)
  have N16 := Fr.snoc X16 N15 fr_tb
  refine own_st st16 ?_
  show own_Go p e below s _ _ _ (T16.setTop (mkF m 101 #[.val (.int p1), .unset] [(.ref tb)]))
  refine own_st (fun _ kont => XS.dup X16.here hx rfl (hb hby own_d2_101) rfl rfl kont) ?_
  show own_Go p e below s _ _ _ (T16.setTop (mkF m 102 #[.val (.int p1), .unset] [(.ref tb), (.ref tb)]))
  refine own_st (fun _ kont => XS.bipush X16.here hx rfl (hb hby own_d2_102) kont) ?_
  show own_Go p e below s _ _ _ (T16.setTop (mkF m 104 #[.val (.int p1), .unset] [(.int (15 : Int32)), (.ref tb), (.ref tb)]))
  refine own_st (fun _ kont => X16.ldc2Long hx hown (mvT hZ (hw _ (List.mem_of_getElem? (i := 35) rfl))) (g := (mkF m 104 #[.val (.int p1), .unset] [(.int (15 : Int32)), (.ref tb), (.ref tb)])) rfl (hb hby own_d2_104) _ kont) ?_
  show own_Go p e below s _ _ _ (T16.setTop (mkF m 107 #[.val (.int p1), .unset] [(.long (1000000000000000 : Int64)), (.int (15 : Int32)), (.ref tb), (.ref tb)]))
  obtain ⟨T17, h17, X17, e17, W17, Vtb_17, st17⟩ := own_stJ X16 hx hZ e16 Vtb_16 (i := 15) (by decide) (by decide) (g := (mkF m 107 #[.val (.int p1), .unset] [(.long (1000000000000000 : Int64)), (.int (15 : Int32)), (.ref tb), (.ref tb)])) rfl rfl (hb hby own_d2_107)
  have sz17 := Nat.le_trans sz16 (Keep.of_wr W17).1
  have K17 := K16.wr W17 (Or.inr sk_tb)
  have N17 := Fr.snoc X17 N16 fr_tb
  refine own_st st17 ?_
  show own_Go p e below s _ _ _ (T17.setTop (mkF m 108 #[.val (.int p1), .unset] [(.ref tb)]))
  refine own_st (fun _ kont => XS.dup X17.here hx rfl (hb hby own_d2_108) rfl rfl kont) ?_
  show own_Go p e below s _ _ _ (T17.setTop (mkF m 109 #[.val (.int p1), .unset] [(.ref tb), (.ref tb)]))
  refine own_st (fun _ kont => XS.bipush X17.here hx rfl (hb hby own_d2_109) kont) ?_
  show own_Go p e below s _ _ _ (T17.setTop (mkF m 111 #[.val (.int p1), .unset] [(.int (16 : Int32)), (.ref tb), (.ref tb)]))
  refine own_st (fun _ kont => X17.ldc2Long hx hown (mvT hZ (hw _ (List.mem_of_getElem? (i := 36) rfl))) (g := (mkF m 111 #[.val (.int p1), .unset] [(.int (16 : Int32)), (.ref tb), (.ref tb)])) rfl (hb hby own_d2_111) _ kont) ?_
  show own_Go p e below s _ _ _ (T17.setTop (mkF m 114 #[.val (.int p1), .unset] [(.long (10000000000000000 : Int64)), (.int (16 : Int32)), (.ref tb), (.ref tb)]))
  obtain ⟨T18, h18, X18, e18, W18, Vtb_18, st18⟩ := own_stJ X17 hx hZ e17 Vtb_17 (i := 16) (by decide) (by decide) (g := (mkF m 114 #[.val (.int p1), .unset] [(.long (10000000000000000 : Int64)), (.int (16 : Int32)), (.ref tb), (.ref tb)])) rfl rfl (hb hby own_d2_114)
  have sz18 := Nat.le_trans sz17 (Keep.of_wr W18).1
  have K18 := K17.wr W18 (Or.inr sk_tb)
  have N18 := Fr.snoc X18 N17 fr_tb
  refine own_st st18 ?_
  show own_Go p e below s _ _ _ (T18.setTop (mkF m 115 #[.val (.int p1), .unset] [(.ref tb)]))
  refine own_st (fun _ kont => XS.dup X18.here hx rfl (hb hby own_d2_115) rfl rfl kont) ?_
  show own_Go p e below s _ _ _ (T18.setTop (mkF m 116 #[.val (.int p1), .unset] [(.ref tb), (.ref tb)]))
  refine own_st (fun _ kont => XS.bipush X18.here hx rfl (hb hby own_d2_116) kont) ?_
  show own_Go p e below s _ _ _ (T18.setTop (mkF m 118 #[.val (.int p1), .unset] [(.int (17 : Int32)), (.ref tb), (.ref tb)]))
  refine own_st (fun _ kont => X18.ldc2Long hx hown (mvT hZ (hw _ (List.mem_of_getElem? (i := 37) rfl))) (g := (mkF m 118 #[.val (.int p1), .unset] [(.int (17 : Int32)), (.ref tb), (.ref tb)])) rfl (hb hby own_d2_118) _ kont) ?_
  show own_Go p e below s _ _ _ (T18.setTop (mkF m 121 #[.val (.int p1), .unset] [(.long (100000000000000000 : Int64)), (.int (17 : Int32)), (.ref tb), (.ref tb)]))
  obtain ⟨T19, h19, X19, e19, W19, Vtb_19, st19⟩ := own_stJ X18 hx hZ e18 Vtb_18 (i := 17) (by decide) (by decide) (g := (mkF m 121 #[.val (.int p1), .unset] [(.long (100000000000000000 : Int64)), (.int (17 : Int32)), (.ref tb), (.ref tb)])) rfl rfl (hb hby own_d2_121)
  have sz19 := Nat.le_trans sz18 (Keep.of_wr W19).1
  have K19 := K18.wr W19 (Or.inr sk_tb)
  have N19 := Fr.snoc X19 N18 fr_tb
  refine own_st st19 ?_
  show own_Go p e below s _ _ _ (T19.setTop (mkF m 122 #[.val (.int p1), .unset] [(.ref tb)]))
  refine own_st (fun _ kont => XS.dup X19.here hx rfl (hb hby own_d2_122) rfl rfl kont) ?_
  show own_Go p e below s _ _ _ (T19.setTop (mkF m 123 #[.val (.int p1), .unset] [(.ref tb), (.ref tb)]))
  refine own_st (fun _ kont => XS.bipush X19.here hx rfl (hb hby own_d2_123) kont) ?_
  show own_Go p e below s _ _ _ (T19.setTop (mkF m 125 #[.val (.int p1), .unset] [(.int (18 : Int32)), (.ref tb), (.ref tb)]))
  refine own_st (fun _ kont => X19.ldc2Long hx hown (mvT hZ (hw _ (List.mem_of_getElem? (i := 38) rfl))) (g := (mkF m 125 #[.val (.int p1), .unset] [(.int (18 : Int32)), (.ref tb), (.ref tb)])) rfl (hb hby own_d2_125) _ kont) ?_
  show own_Go p e below s _ _ _ (T19.setTop (mkF m 128 #[.val (.int p1), .unset] [(.long (1000000000000000000 : Int64)), (.int (18 : Int32)), (.ref tb), (.ref tb)]))
  obtain ⟨T20, h20, X20, e20, W20, Vtb_20, st20⟩ := own_stJ X19 hx hZ e19 Vtb_19 (i := 18) (by decide) (by decide) (g := (mkF m 128 #[.val (.int p1), .unset] [(.long (1000000000000000000 : Int64)), (.int (18 : Int32)), (.ref tb), (.ref tb)])) rfl rfl (hb hby own_d2_128)
  have sz20 := Nat.le_trans sz19 (Keep.of_wr W20).1
  have K20 := K19.wr W20 (Or.inr sk_tb)
  have N20 := Fr.snoc X20 N19 fr_tb
  refine own_st st20 ?_
  show own_Go p e below s _ _ _ (T20.setTop (mkF m 129 #[.val (.int p1), .unset] [(.ref tb)]))
  replace Vtb_20 : own_Av Z h20 tb .long 19 (fun t => .long (own_tab t)) := Vtb_20
  show own_Go p e below s _ _ _ (T20.setTop (mkF m 129 #[.val (.int p1), .unset] [(.ref tb)]))
  refine own_st (fun _ kont => XS.astoreN X20.here hx rfl (hb hby own_d2_129) rfl rfl (l' := #[.val (.int p1), .val (.ref tb)]) rfl kont) ?_
  show own_Go p e below s _ _ _ (T20.setTop (mkF m 130 #[.val (.int p1), .val (.ref tb)] []))
  refine own_st (fun _ kont => XS.aloadN X20.here hx rfl (hb hby own_d2_130) rfl rfl kont) ?_
  show own_Go p e below s _ _ _ (T20.setTop (mkF m 131 #[.val (.int p1), .val (.ref tb)] [(.ref tb)]))
  refine own_st (fun _ kont => XS.iloadN X20.here hx rfl (hb hby own_d2_131) rfl kont) ?_
  show own_Go p e below s _ _ _ (T20.setTop (mkF m 132 #[.val (.int p1), .val (.ref tb)] [(.int p1), (.ref tb)]))
  refine own_st (own_ldJ X20 hx hZ e20 Vtb_20 (i := n) hn hlt (v := (.long (own_tab n))) rfl (g := (mkF m 132 #[.val (.int p1), .val (.ref tb)] [(.int p1), (.ref tb)])) rfl rfl (hb hby own_d2_132)) ?_
  show own_Go p e below s _ _ _ (T20.setTop (mkF m 133 #[.val (.int p1), .val (.ref tb)] [(.long (own_tab n))]))
  exact own_endJ X20 hx hlk hret (hb hby own_d2_133) ⟨⟨_, rfl, own_tab_at hlt⟩, N20, by rw [e20]; exact K20⟩ (by decide) (by decide)
theorem own_d3_0 : decode prog_125_method_6_code 0 = .ok (.lconst 0, 1) := by decide +kernel
theorem own_d3_1 : decode prog_125_method_6_code 1 = .ok (.lstore_n 3, 1) := by decide +kernel
theorem own_d3_2 : decode prog_125_method_6_code 2 = .ok (.iload_n 1, 1) := by decide +kernel
theorem own_d3_3 : decode prog_125_method_6_code 3 = .ok (.istore 5, 2) := by decide +kernel
theorem own_d3_5 : decode prog_125_method_6_code 5 = .ok (.iload 5, 2) := by decide +kernel
theorem own_d3_7 : decode prog_125_method_6_code 7 = .ok (.iload_n 2, 1) := by decide +kernel
theorem own_d3_8 : decode prog_125_method_6_code 8 = .ok (.if_icmp .ge 25, 3) := by decide +kernel
theorem own_d3_11 : decode prog_125_method_6_code 11 = .ok (.lload_n 3, 1) := by decide +kernel
theorem own_d3_12 : decode prog_125_method_6_code 12 = .ok (.ldc2_w 25, 3) := by decide +kernel
theorem own_d3_15 : decode prog_125_method_6_code 15 = .ok (.lmul, 1) := by decide +kernel
theorem own_d3_16 : decode prog_125_method_6_code 16 = .ok (.aload_n 0, 1) := by decide +kernel
theorem own_d3_17 : decode prog_125_method_6_code 17 = .ok (.iload 5, 2) := by decide +kernel
theorem own_d3_19 : decode prog_125_method_6_code 19 = .ok (.baload, 1) := by decide +kernel
theorem own_d3_20 : decode prog_125_method_6_code 20 = .ok (.i2l, 1) := by decide +kernel
theorem own_d3_21 : decode prog_125_method_6_code 21 = .ok (.ladd, 1) := by decide +kernel
theorem own_d3_22 : decode prog_125_method_6_code 22 = .ok (.ldc2_w 27, 3) := by decide +kernel
theorem own_d3_25 : decode prog_125_method_6_code 25 = .ok (.lsub, 1) := by decide +kernel
theorem own_d3_26 : decode prog_125_method_6_code 26 = .ok (.lstore_n 3, 1) := by decide +kernel
theorem own_d3_27 : decode prog_125_method_6_code 27 = .ok (.iinc 5 1, 3) := by decide +kernel
theorem own_d3_30 : decode prog_125_method_6_code 30 = .ok (.goto (-25), 3) := by decide +kernel
theorem own_d3_33 : decode prog_125_method_6_code 33 = .ok (.lload_n 3, 1) := by decide +kernel
theorem own_d3_34 : decode prog_125_method_6_code 34 = .ok (.lreturn, 1) := by decide +kernel
theorem own_pn3 : plainFor (⟨"com/example/refset_loom/refsetloom/rf2/Bytes", "decimal", "([BII)J"⟩ : MethodName) = true := by first | exact plainFor_of_name (show plainName "com/example/refset_loom/refsetloom/rf2/Bytes" = true by first | (simp [plainName, overriddenIn]; done) | decide +kernel) | decide +kernel
theorem own_ef3 (m : MethodId) (x0 : Addr) (x1 : Int32) (x2 : Int32) : entryFrame m #[(.ref x0), (.int x1), (.int x2)] 6 = mkF m 0 #[.val (.ref x0), .val (.int x1), .val (.int x2), .unset, .unset, .unset] [] := by first | (simp [entryFrame, mkF, argsToLocals, Value.category]; done) | rfl
set_option maxRecDepth 65536 in
set_option maxHeartbeats 40000000 in
theorem own_rm4 (l : Launch) (Z : State) (a0 : Array Value) (hw : ∀ d ∈ tables_1, d.before a0 Z = true) (a1 : Addr) (p2 p3 : Int32) (f : Nat → Int32) (i n : Nat) (h0 : Heap) (n0 : Nat) (Z0 : n0 ≤ h0.size) (V : own_Av Z h0 a1 .byte 20 (fun t => .int (f t))) (hf : ∀ t, t < 20 → own_dg (f t)) (hi : p2.toInt = (i : Int)) (hj : p3.toInt = ((i + n : Nat) : Int)) (hn : n ≤ 18) (h20 : i + n ≤ 20) :
    own_Met l Z (⟨"com/example/refset_loom/refsetloom/rf2/Bytes", "decimal", "([BII)J"⟩ : MethodName) prog_125_method_6_code 6 (some .long) ({ frames := 0, cells := 0, slots := 0, locals := 0 } : Room) #[(.ref a1), (.int p2), (.int p3)] h0 (fun v h' L => (∃ z : Int64, v = some (.long z) ∧ z.toInt = ((own_dec f i n : Nat) : Int)) ∧ h' = h0 ∧ L = []) := by
  refine own_in own_pn3 ?_
  intro p e s m below meth c s₁ hx hby hml hown hnm hlk hret hZ X0 e0
  have N0 := Fr.nil n0
  refine own_ef (own_ef3 m a1 p2 p3) ?_
  show own_Go p e below s _ _ _ (s₁.setTop (mkF m 0 #[.val (.ref a1), .val (.int p2), .val (.int p3), .unset, .unset, .unset] []))
  refine own_st (fun _ kont => XS.lconst X0.here hx rfl (hb hby own_d3_0) kont) ?_
  show own_Go p e below s _ _ _ (s₁.setTop (mkF m 1 #[.val (.ref a1), .val (.int p2), .val (.int p3), .unset, .unset, .unset] [(.long (0 : Int64))]))
  refine own_st (fun _ kont => XS.lstoreN X0.here hx rfl (hb hby own_d3_1) rfl (l' := #[.val (.ref a1), .val (.int p2), .val (.int p3), .val (.long (0 : Int64)), .second, .unset]) rfl kont) ?_
  show own_Go p e below s _ _ _ (s₁.setTop (mkF m 2 #[.val (.ref a1), .val (.int p2), .val (.int p3), .val (.long (0 : Int64)), .second, .unset] []))
  refine own_st (fun _ kont => XS.iloadN X0.here hx rfl (hb hby own_d3_2) rfl kont) ?_
  show own_Go p e below s _ _ _ (s₁.setTop (mkF m 3 #[.val (.ref a1), .val (.int p2), .val (.int p3), .val (.long (0 : Int64)), .second, .unset] [(.int p2)]))
  refine own_st (fun _ kont => XS.istore X0.here hx rfl (hb hby own_d3_3) rfl (l' := #[.val (.ref a1), .val (.int p2), .val (.int p3), .val (.long (0 : Int64)), .second, .val (.int p2)]) rfl kont) ?_
  show own_Go p e below s _ _ _ (s₁.setTop (mkF m 5 #[.val (.ref a1), .val (.int p2), .val (.int p3), .val (.long (0 : Int64)), .second, .val (.int p2)] []))
  have loop : ∀ (r k : Nat) (cur : Int32) (acc : Int64), k + r = n → cur.toInt = ((i + k : Nat) : Int) → acc.toInt = ((own_dec f i k : Nat) : Int) → own_Go p e below s (fun v h' L => (∃ z : Int64, v = some (.long z) ∧ z.toInt = ((own_dec f i n : Nat) : Int)) ∧ h' = h0 ∧ L = []) ({ frames := 0, cells := 0, slots := 0, locals := 0 } : Room).cells ({ frames := 0, cells := 0, slots := 0, locals := 0 } : Room).slots (s₁.setTop (mkF m 5 #[.val (.ref a1), .val (.int p2), .val (.int p3), .val (.long acc), .second, .val (.int cur)] [])) := by
    intro r
    induction r with
    | zero =>
      intro k cur acc hk hc ha
      show own_Go p e below s _ _ _ (s₁.setTop (mkF m 5 #[.val (.ref a1), .val (.int p2), .val (.int p3), .val (.long acc), .second, .val (.int cur)] []))
      refine own_st (fun _ kont => XS.iload X0.here hx rfl (hb hby own_d3_5) rfl kont) ?_
      show own_Go p e below s _ _ _ (s₁.setTop (mkF m 7 #[.val (.ref a1), .val (.int p2), .val (.int p3), .val (.long acc), .second, .val (.int cur)] [(.int cur)]))
      refine own_st (fun _ kont => XS.iloadN X0.here hx rfl (hb hby own_d3_7) rfl kont) ?_
      show own_Go p e below s _ _ _ (s₁.setTop (mkF m 8 #[.val (.ref a1), .val (.int p2), .val (.int p3), .val (.long acc), .second, .val (.int cur)] [(.int p3), (.int cur)]))
      refine own_st (fun _ kont => XS.icmpYes X0.here hx rfl (pc0 := 8) (pc' := 33) rfl (hb hby own_d3_8) rfl (flt (fun u => by rw [own_lt32, hc, hj] at u; omega)).2.1 (by decide) (by decide) kont) ?_
      show own_Go p e below s _ _ _ (s₁.setTop (mkF m 33 #[.val (.ref a1), .val (.int p2), .val (.int p3), .val (.long acc), .second, .val (.int cur)] []))
      refine own_st (fun _ kont => XS.lloadN X0.here hx rfl (hb hby own_d3_33) rfl kont) ?_
      show own_Go p e below s _ _ _ (s₁.setTop (mkF m 34 #[.val (.ref a1), .val (.int p2), .val (.int p3), .val (.long acc), .second, .val (.int cur)] [(.long acc)]))
      exact own_endJ X0 hx hlk hret (hb hby own_d3_34) ⟨⟨_, rfl, by rw [ha, show k = n by omega]⟩, e0, rfl⟩ (by decide) (by decide)
    | succ r ih =>
      intro k cur acc hk hc ha
      show own_Go p e below s _ _ _ (s₁.setTop (mkF m 5 #[.val (.ref a1), .val (.int p2), .val (.int p3), .val (.long acc), .second, .val (.int cur)] []))
      refine own_st (fun _ kont => XS.iload X0.here hx rfl (hb hby own_d3_5) rfl kont) ?_
      show own_Go p e below s _ _ _ (s₁.setTop (mkF m 7 #[.val (.ref a1), .val (.int p2), .val (.int p3), .val (.long acc), .second, .val (.int cur)] [(.int cur)]))
      refine own_st (fun _ kont => XS.iloadN X0.here hx rfl (hb hby own_d3_7) rfl kont) ?_
      show own_Go p e below s _ _ _ (s₁.setTop (mkF m 8 #[.val (.ref a1), .val (.int p2), .val (.int p3), .val (.long acc), .second, .val (.int cur)] [(.int p3), (.int cur)]))
      refine own_st (fun _ kont => XS.icmpNo X0.here hx rfl (hb hby own_d3_8) rfl (tlt (own_lt32.mpr (by rw [hc, hj]; omega))).2.1 kont) ?_
      show own_Go p e below s _ _ _ (s₁.setTop (mkF m 11 #[.val (.ref a1), .val (.int p2), .val (.int p3), .val (.long acc), .second, .val (.int cur)] []))
      refine own_st (fun _ kont => XS.lloadN X0.here hx rfl (hb hby own_d3_11) rfl kont) ?_
      show own_Go p e below s _ _ _ (s₁.setTop (mkF m 12 #[.val (.ref a1), .val (.int p2), .val (.int p3), .val (.long acc), .second, .val (.int cur)] [(.long acc)]))
      refine own_st (fun _ kont => X0.ldc2Long hx hown (mvT hZ (hw _ (List.mem_of_getElem? (i := 16) rfl))) (g := (mkF m 12 #[.val (.ref a1), .val (.int p2), .val (.int p3), .val (.long acc), .second, .val (.int cur)] [(.long acc)])) rfl (hb hby own_d3_12) _ kont) ?_
      show own_Go p e below s _ _ _ (s₁.setTop (mkF m 15 #[.val (.ref a1), .val (.int p2), .val (.int p3), .val (.long acc), .second, .val (.int cur)] [(.long (10 : Int64)), (.long acc)]))
      refine own_st (fun _ kont => XS.lmul X0.here hx rfl (hb hby own_d3_15) rfl kont) ?_
      show own_Go p e below s _ _ _ (s₁.setTop (mkF m 16 #[.val (.ref a1), .val (.int p2), .val (.int p3), .val (.long acc), .second, .val (.int cur)] [(.long (acc * (10 : Int64)))]))
      refine own_st (fun _ kont => XS.aloadN X0.here hx rfl (hb hby own_d3_16) rfl rfl kont) ?_
      show own_Go p e below s _ _ _ (s₁.setTop (mkF m 17 #[.val (.ref a1), .val (.int p2), .val (.int p3), .val (.long acc), .second, .val (.int cur)] [(.ref a1), (.long (acc * (10 : Int64)))]))
      refine own_st (fun _ kont => XS.iload X0.here hx rfl (hb hby own_d3_17) rfl kont) ?_
      show own_Go p e below s _ _ _ (s₁.setTop (mkF m 19 #[.val (.ref a1), .val (.int p2), .val (.int p3), .val (.long acc), .second, .val (.int cur)] [(.int cur), (.ref a1), (.long (acc * (10 : Int64)))]))
      refine own_st (own_ldB X0 hx hZ e0 V (i := (i + k)) hc (by omega) (v := (.int (f (i + k)))) rfl (g := (mkF m 19 #[.val (.ref a1), .val (.int p2), .val (.int p3), .val (.long acc), .second, .val (.int cur)] [(.int cur), (.ref a1), (.long (acc * (10 : Int64)))])) rfl rfl (hb hby own_d3_19)) ?_
      show own_Go p e below s _ _ _ (s₁.setTop (mkF m 20 #[.val (.ref a1), .val (.int p2), .val (.int p3), .val (.long acc), .second, .val (.int cur)] [(.int (f (i + k))), (.long (acc * (10 : Int64)))]))
      refine own_st (fun _ kont => XS.i2l X0.here hx rfl (hb hby own_d3_20) rfl kont) ?_
      show own_Go p e below s _ _ _ (s₁.setTop (mkF m 21 #[.val (.ref a1), .val (.int p2), .val (.int p3), .val (.long acc), .second, .val (.int cur)] [(.long ((f (i + k))).toInt64), (.long (acc * (10 : Int64)))]))
      refine own_st (fun _ kont => XS.ladd X0.here hx rfl (hb hby own_d3_21) rfl kont) ?_
      show own_Go p e below s _ _ _ (s₁.setTop (mkF m 22 #[.val (.ref a1), .val (.int p2), .val (.int p3), .val (.long acc), .second, .val (.int cur)] [(.long ((acc * (10 : Int64)) + ((f (i + k))).toInt64))]))
      refine own_st (fun _ kont => X0.ldc2Long hx hown (mvT hZ (hw _ (List.mem_of_getElem? (i := 17) rfl))) (g := (mkF m 22 #[.val (.ref a1), .val (.int p2), .val (.int p3), .val (.long acc), .second, .val (.int cur)] [(.long ((acc * (10 : Int64)) + ((f (i + k))).toInt64))])) rfl (hb hby own_d3_22) _ kont) ?_
      show own_Go p e below s _ _ _ (s₁.setTop (mkF m 25 #[.val (.ref a1), .val (.int p2), .val (.int p3), .val (.long acc), .second, .val (.int cur)] [(.long (48 : Int64)), (.long ((acc * (10 : Int64)) + ((f (i + k))).toInt64))]))
      refine own_st (fun _ kont => XS.lsub X0.here hx rfl (hb hby own_d3_25) rfl kont) ?_
      show own_Go p e below s _ _ _ (s₁.setTop (mkF m 26 #[.val (.ref a1), .val (.int p2), .val (.int p3), .val (.long acc), .second, .val (.int cur)] [(.long (((acc * (10 : Int64)) + ((f (i + k))).toInt64) - (48 : Int64)))]))
      refine own_st (fun _ kont => XS.lstoreN X0.here hx rfl (hb hby own_d3_26) rfl (l' := #[.val (.ref a1), .val (.int p2), .val (.int p3), .val (.long (((acc * (10 : Int64)) + ((f (i + k))).toInt64) - (48 : Int64))), .second, .val (.int cur)]) rfl kont) ?_
      show own_Go p e below s _ _ _ (s₁.setTop (mkF m 27 #[.val (.ref a1), .val (.int p2), .val (.int p3), .val (.long (((acc * (10 : Int64)) + ((f (i + k))).toInt64) - (48 : Int64))), .second, .val (.int cur)] []))
      refine own_st (fun _ kont => XS.iinc X0.here hx rfl (hb hby own_d3_27) rfl (l' := #[.val (.ref a1), .val (.int p2), .val (.int p3), .val (.long (((acc * (10 : Int64)) + ((f (i + k))).toInt64) - (48 : Int64))), .second, .val (.int (cur + (1 : Int32)))]) rfl kont) ?_
      show own_Go p e below s _ _ _ (s₁.setTop (mkF m 30 #[.val (.ref a1), .val (.int p2), .val (.int p3), .val (.long (((acc * (10 : Int64)) + ((f (i + k))).toInt64) - (48 : Int64))), .second, .val (.int (cur + (1 : Int32)))] []))
      refine own_st (fun _ kont => XS.goto X0.here hx rfl (pc0 := 30) (pc' := 5) rfl (hb hby own_d3_30) (by decide) (by decide) kont) ?_
      show own_Go p e below s _ _ _ (s₁.setTop (mkF m 5 #[.val (.ref a1), .val (.int p2), .val (.int p3), .val (.long (((acc * (10 : Int64)) + ((f (i + k))).toInt64) - (48 : Int64))), .second, .val (.int (cur + (1 : Int32)))] []))
      exact ih (k + 1) _ _ (by omega) (own_addN (i := i + k) (k := 1) hc (by decide) (by omega)) (own_turn ha (own_p17 (fun t ht => hf t (by omega)) (by omega)) (hf _ (by omega)))
  show own_Go p e below s _ _ _ (s₁.setTop (mkF m 5 #[.val (.ref a1), .val (.int p2), .val (.int p3), .val (.long (0 : Int64)), .second, .val (.int p2)] []))
  exact loop n 0 _ _ (by omega) hi rfl
theorem own_pd0 : parseMethodDescriptor "(JI)B" = some ⟨[.long, .int], some .byte⟩ := by decide +kernel
theorem own_pd1 : parseMethodDescriptor "(II)I" = some ⟨[.int, .int], some .int⟩ := by decide +kernel
theorem own_pd2 : parseMethodDescriptor "([BII)J" = some ⟨[(.array .byte), .int, .int], some .long⟩ := by decide +kernel
theorem own_pd3 : parseMethodDescriptor "(I)J" = some ⟨[.int], some .long⟩ := by decide +kernel
theorem own_pn4 : plainFor x = true := by first | exact plainFor_of_name (show plainName "com/example/refset_loom/refsetloom/rf2/BytesDecimalPinLaw" = true by first | (simp [plainName, overriddenIn]; done) | decide +kernel) | decide +kernel
theorem own_ef4 (m : MethodId) (x0 : Int64) (x1 : Int64) (x2 : Int32) (x3 : Int32) (x4 : Int32) (x5 : Int32) : entryFrame m #[(.long x0), (.long x1), (.int x2), (.int x3), (.int x4), (.int x5)] maxLocals = mkF m 0 #[.val (.long x0), .second, .val (.long x1), .second, .val (.int x2), .val (.int x3), .val (.int x4), .val (.int x5), .unset, .unset, .unset, .unset, .unset, .unset, .unset, .unset, .unset, .unset, .unset, .unset, .unset, .unset, .unset, .unset, .unset] [] := by first | (simp [entryFrame, mkF, argsToLocals, Value.category, maxLocals]; done) | rfl
set_option maxRecDepth 65536 in
set_option maxHeartbeats 40000000 in
theorem own_rm0 (l : Launch) (Z : State) (a0 : Array Value) (hw : ∀ d ∈ tables_1, d.before a0 Z = true) (ax ay : Int64) (aa ab ac ae : Int32) (h0 : Heap) (n0 : Nat) (Z0 : n0 ≤ h0.size)  :
    own_Met l Z x code maxLocals ret room_1 #[(.long ax), (.long ay), (.int aa), (.int ab), (.int ac), (.int ae)] h0 (fun v h' L => v = some (.int 1) ∧ Fr n0 L) := by
  refine own_in own_pn4 ?_
  intro p e s m below meth c s₁ hx hby hml hown hnm hlk hret hZ X0 e0
  have N0 := Fr.nil n0
  refine own_ef (own_ef4 m ax ay aa ab ac ae) ?_
  show own_Go p e below s _ _ _ (s₁.setTop (mkF m 0 #[.val (.long ax), .second, .val (.long ay), .second, .val (.int aa), .val (.int ab), .val (.int ac), .val (.int ae), .unset, .unset, .unset, .unset, .unset, .unset, .unset, .unset, .unset, .unset, .unset, .unset, .unset, .unset, .unset, .unset, .unset] []))
  refine own_st (fun _ kont => XS.bipush X0.here hx rfl (hb hby at_0) kont) ?_
  show own_Go p e below s _ _ _ (s₁.setTop (mkF m 2 #[.val (.long ax), .second, .val (.long ay), .second, .val (.int aa), .val (.int ab), .val (.int ac), .val (.int ae), .unset, .unset, .unset, .unset, .unset, .unset, .unset, .unset, .unset, .unset, .unset, .unset, .unset, .unset, .unset, .unset, .unset] [(.int (20 : Int32))]))
  obtain ⟨T1, h1, bb, g1, X1, e1, E1, Vbb, st1⟩ := own_newA X0 hx hZ (hw _ (List.mem_of_getElem? (i := 0) rfl)) e0 (g := (mkF m 2 #[.val (.long ax), .second, .val (.long ay), .second, .val (.int aa), .val (.int ab), .val (.int ac), .val (.int ae), .unset, .unset, .unset, .unset, .unset, .unset, .unset, .unset, .unset, .unset, .unset, .unset, .unset, .unset, .unset, .unset, .unset] [(.int (20 : Int32))])) rfl (hb hby at_2) rfl (n := 20) (cap := 20) (by decide) (by decide) (by decide) (by decide) (by decide)
  replace Vbb : own_Av Z h1 bb .byte 20 (fun _ => .int 0) := Vbb
  have fr_bb : n0 ≤ bb := Nat.le_trans Z0 (Nat.le_of_eq g1.symm)
  have sz1 := Nat.le_trans Z0 E1.1
  refine own_st st1 ?_
  show own_Go p e below s _ _ _ (T1.setTop (mkF m 4 #[.val (.long ax), .second, .val (.long ay), .second, .val (.int aa), .val (.int ab), .val (.int ac), .val (.int ae), .unset, .unset, .unset, .unset, .unset, .unset, .unset, .unset, .unset, .unset, .unset, .unset, .unset, .unset, .unset, .unset, .unset] [(.ref bb)]))
  have hf0 : ∀ t, t < 0 → own_dg ((fun _ : Nat => (0 : Int32)) t) := fun t h => absurd h (by omega)
  refine own_st (fun _ kont => XS.astore X1.here hx rfl (hb hby at_4) rfl rfl (l' := #[.val (.long ax), .second, .val (.long ay), .second, .val (.int aa), .val (.int ab), .val (.int ac), .val (.int ae), .val (.ref bb), .unset, .unset, .unset, .unset, .unset, .unset, .unset, .unset, .unset, .unset, .unset, .unset, .unset, .unset, .unset, .unset]) rfl kont) ?_
  show own_Go p e below s _ _ _ (T1.setTop (mkF m 6 #[.val (.long ax), .second, .val (.long ay), .second, .val (.int aa), .val (.int ab), .val (.int ac), .val (.int ae), .val (.ref bb), .unset, .unset, .unset, .unset, .unset, .unset, .unset, .unset, .unset, .unset, .unset, .unset, .unset, .unset, .unset, .unset] []))
  refine own_st (fun _ kont => XS.aload X1.here hx rfl (hb hby at_6) rfl rfl kont) ?_
  show own_Go p e below s _ _ _ (T1.setTop (mkF m 8 #[.val (.long ax), .second, .val (.long ay), .second, .val (.int aa), .val (.int ab), .val (.int ac), .val (.int ae), .val (.ref bb), .unset, .unset, .unset, .unset, .unset, .unset, .unset, .unset, .unset, .unset, .unset, .unset, .unset, .unset, .unset, .unset] [(.ref bb)]))
  refine own_st (fun _ kont => XS.iconst X1.here hx rfl (hb hby at_8) kont) ?_
  show own_Go p e below s _ _ _ (T1.setTop (mkF m 9 #[.val (.long ax), .second, .val (.long ay), .second, .val (.int aa), .val (.int ab), .val (.int ac), .val (.int ae), .val (.ref bb), .unset, .unset, .unset, .unset, .unset, .unset, .unset, .unset, .unset, .unset, .unset, .unset, .unset, .unset, .unset, .unset] [(.int (0 : Int32)), (.ref bb)]))
  refine own_st (fun _ kont => XS.lloadN X1.here hx rfl (hb hby at_9) rfl kont) ?_
  show own_Go p e below s _ _ _ (T1.setTop (mkF m 10 #[.val (.long ax), .second, .val (.long ay), .second, .val (.int aa), .val (.int ab), .val (.int ac), .val (.int ae), .val (.ref bb), .unset, .unset, .unset, .unset, .unset, .unset, .unset, .unset, .unset, .unset, .unset, .unset, .unset, .unset, .unset, .unset] [(.long ax), (.int (0 : Int32)), (.ref bb)]))
  refine own_st (fun _ kont => XS.iconst X1.here hx rfl (hb hby at_10) kont) ?_
  show own_Go p e below s _ _ _ (T1.setTop (mkF m 11 #[.val (.long ax), .second, .val (.long ay), .second, .val (.int aa), .val (.int ab), .val (.int ac), .val (.int ae), .val (.ref bb), .unset, .unset, .unset, .unset, .unset, .unset, .unset, .unset, .unset, .unset, .unset, .unset, .unset, .unset, .unset, .unset] [(.int (0 : Int32)), (.long ax), (.int (0 : Int32)), (.ref bb)]))
  refine own_cS X1 hx hml hZ hown (hw _ (List.mem_of_getElem? (i := 1) rfl)) (hw _ (List.mem_of_getElem? (i := 2) rfl)) (hw _ (List.mem_of_getElem? (i := 3) rfl)) (hw _ (List.mem_of_getElem? (i := 4) rfl)) (by decide) (own_rm2 l Z a0 hw ax (0 : Int32) h1 n0 sz1) e1 (by decide) (W := 2) (by decide) (g := (mkF m 11 #[.val (.long ax), .second, .val (.long ay), .second, .val (.int aa), .val (.int ab), .val (.int ac), .val (.int ae), .val (.ref bb), .unset, .unset, .unset, .unset, .unset, .unset, .unset, .unset, .unset, .unset, .unset, .unset, .unset, .unset, .unset, .unset] [(.int (0 : Int32)), (.long ax), (.int (0 : Int32)), (.ref bb)])) rfl rfl own_pd0 (argsL := [(.long ax), (.int (0 : Int32))]) (rest := [(.int (0 : Int32)), (.ref bb)]) rfl rfl rfl (by show 2 * 0 + _ ≤ _; exact Nat.le_of_eq rfl) (hb hby at_11) (by decide) (by decide) ?_
  intro T2 L2 v2 X2 hQ2
  obtain ⟨⟨d2, rfl, hd2⟩, eh2, le2⟩ := hQ2
  have N2 := own_nil N0 le2
  show own_Go p e below s _ _ _ (T2.setTop (mkF m 14 #[.val (.long ax), .second, .val (.long ay), .second, .val (.int aa), .val (.int ab), .val (.int ac), .val (.int ae), .val (.ref bb), .unset, .unset, .unset, .unset, .unset, .unset, .unset, .unset, .unset, .unset, .unset, .unset, .unset, .unset, .unset, .unset] [(.int d2), (.int (0 : Int32)), (.ref bb)]))
  obtain ⟨T3, h3, X3, e3, W3, Vbb_3, st3⟩ := own_stB X2 hx hZ eh2 Vbb (i := 0) (by decide) (by decide) (g := (mkF m 14 #[.val (.long ax), .second, .val (.long ay), .second, .val (.int aa), .val (.int ab), .val (.int ac), .val (.int ae), .val (.ref bb), .unset, .unset, .unset, .unset, .unset, .unset, .unset, .unset, .unset, .unset, .unset, .unset, .unset, .unset, .unset, .unset] [(.int d2), (.int (0 : Int32)), (.ref bb)])) rfl rfl (hb hby at_14)
  have sz3 := Nat.le_trans sz1 (Keep.of_wr W3).1
  have N3 := Fr.snoc X3 N2 fr_bb
  refine own_st st3 ?_
  show own_Go p e below s _ _ _ (T3.setTop (mkF m 15 #[.val (.long ax), .second, .val (.long ay), .second, .val (.int aa), .val (.int ab), .val (.int ac), .val (.int ae), .val (.ref bb), .unset, .unset, .unset, .unset, .unset, .unset, .unset, .unset, .unset, .unset, .unset, .unset, .unset, .unset, .unset, .unset] []))
  obtain ⟨f1, hf1, Vbb_3⟩ : ∃ f : Nat → Int32, (∀ t, t < 1 → own_dg (f t)) ∧ own_Av Z h3 bb .byte 20 (fun t => .int (f t)) := ⟨_, own_next hf0 (by rw [own_nb hd2]; exact hd2), Vbb_3⟩
  show own_Go p e below s _ _ _ (T3.setTop (mkF m 15 #[.val (.long ax), .second, .val (.long ay), .second, .val (.int aa), .val (.int ab), .val (.int ac), .val (.int ae), .val (.ref bb), .unset, .unset, .unset, .unset, .unset, .unset, .unset, .unset, .unset, .unset, .unset, .unset, .unset, .unset, .unset, .unset] []))
  refine own_st (fun _ kont => XS.aload X3.here hx rfl (hb hby at_15) rfl rfl kont) ?_
  show own_Go p e below s _ _ _ (T3.setTop (mkF m 17 #[.val (.long ax), .second, .val (.long ay), .second, .val (.int aa), .val (.int ab), .val (.int ac), .val (.int ae), .val (.ref bb), .unset, .unset, .unset, .unset, .unset, .unset, .unset, .unset, .unset, .unset, .unset, .unset, .unset, .unset, .unset, .unset] [(.ref bb)]))
  refine own_st (fun _ kont => XS.iconst X3.here hx rfl (hb hby at_17) kont) ?_
  show own_Go p e below s _ _ _ (T3.setTop (mkF m 18 #[.val (.long ax), .second, .val (.long ay), .second, .val (.int aa), .val (.int ab), .val (.int ac), .val (.int ae), .val (.ref bb), .unset, .unset, .unset, .unset, .unset, .unset, .unset, .unset, .unset, .unset, .unset, .unset, .unset, .unset, .unset, .unset] [(.int (1 : Int32)), (.ref bb)]))
  refine own_st (fun _ kont => XS.lloadN X3.here hx rfl (hb hby at_18) rfl kont) ?_
  show own_Go p e below s _ _ _ (T3.setTop (mkF m 19 #[.val (.long ax), .second, .val (.long ay), .second, .val (.int aa), .val (.int ab), .val (.int ac), .val (.int ae), .val (.ref bb), .unset, .unset, .unset, .unset, .unset, .unset, .unset, .unset, .unset, .unset, .unset, .unset, .unset, .unset, .unset, .unset] [(.long ax), (.int (1 : Int32)), (.ref bb)]))
  refine own_st (fun _ kont => XS.iconst X3.here hx rfl (hb hby at_19) kont) ?_
  show own_Go p e below s _ _ _ (T3.setTop (mkF m 20 #[.val (.long ax), .second, .val (.long ay), .second, .val (.int aa), .val (.int ab), .val (.int ac), .val (.int ae), .val (.ref bb), .unset, .unset, .unset, .unset, .unset, .unset, .unset, .unset, .unset, .unset, .unset, .unset, .unset, .unset, .unset, .unset] [(.int (1 : Int32)), (.long ax), (.int (1 : Int32)), (.ref bb)]))
  refine own_cS X3 hx hml hZ hown (hw _ (List.mem_of_getElem? (i := 1) rfl)) (hw _ (List.mem_of_getElem? (i := 2) rfl)) (hw _ (List.mem_of_getElem? (i := 3) rfl)) (hw _ (List.mem_of_getElem? (i := 4) rfl)) (by decide) (own_rm2 l Z a0 hw ax (1 : Int32) h3 n0 sz3) e3 (by decide) (W := 2) (by decide) (g := (mkF m 20 #[.val (.long ax), .second, .val (.long ay), .second, .val (.int aa), .val (.int ab), .val (.int ac), .val (.int ae), .val (.ref bb), .unset, .unset, .unset, .unset, .unset, .unset, .unset, .unset, .unset, .unset, .unset, .unset, .unset, .unset, .unset, .unset] [(.int (1 : Int32)), (.long ax), (.int (1 : Int32)), (.ref bb)])) rfl rfl own_pd0 (argsL := [(.long ax), (.int (1 : Int32))]) (rest := [(.int (1 : Int32)), (.ref bb)]) rfl rfl rfl (by show 2 * 0 + _ ≤ _; exact Nat.le_of_eq rfl) (hb hby at_20) (by decide) (by decide) ?_
  intro T4 L4 v4 X4 hQ4
  obtain ⟨⟨d4, rfl, hd4⟩, eh4, le4⟩ := hQ4
  have N4 := own_nil N3 le4
  show own_Go p e below s _ _ _ (T4.setTop (mkF m 23 #[.val (.long ax), .second, .val (.long ay), .second, .val (.int aa), .val (.int ab), .val (.int ac), .val (.int ae), .val (.ref bb), .unset, .unset, .unset, .unset, .unset, .unset, .unset, .unset, .unset, .unset, .unset, .unset, .unset, .unset, .unset, .unset] [(.int d4), (.int (1 : Int32)), (.ref bb)]))
  obtain ⟨T5, h5, X5, e5, W5, Vbb_5, st5⟩ := own_stB X4 hx hZ eh4 Vbb_3 (i := 1) (by decide) (by decide) (g := (mkF m 23 #[.val (.long ax), .second, .val (.long ay), .second, .val (.int aa), .val (.int ab), .val (.int ac), .val (.int ae), .val (.ref bb), .unset, .unset, .unset, .unset, .unset, .unset, .unset, .unset, .unset, .unset, .unset, .unset, .unset, .unset, .unset, .unset] [(.int d4), (.int (1 : Int32)), (.ref bb)])) rfl rfl (hb hby at_23)
  have sz5 := Nat.le_trans sz3 (Keep.of_wr W5).1
  have N5 := Fr.snoc X5 N4 fr_bb
  refine own_st st5 ?_
  show own_Go p e below s _ _ _ (T5.setTop (mkF m 24 #[.val (.long ax), .second, .val (.long ay), .second, .val (.int aa), .val (.int ab), .val (.int ac), .val (.int ae), .val (.ref bb), .unset, .unset, .unset, .unset, .unset, .unset, .unset, .unset, .unset, .unset, .unset, .unset, .unset, .unset, .unset, .unset] []))
  obtain ⟨f2, hf2, Vbb_5⟩ : ∃ f : Nat → Int32, (∀ t, t < 2 → own_dg (f t)) ∧ own_Av Z h5 bb .byte 20 (fun t => .int (f t)) := ⟨_, own_next hf1 (by rw [own_nb hd4]; exact hd4), Vbb_5⟩
  show own_Go p e below s _ _ _ (T5.setTop (mkF m 24 #[.val (.long ax), .second, .val (.long ay), .second, .val (.int aa), .val (.int ab), .val (.int ac), .val (.int ae), .val (.ref bb), .unset, .unset, .unset, .unset, .unset, .unset, .unset, .unset, .unset, .unset, .unset, .unset, .unset, .unset, .unset, .unset] []))
  refine own_st (fun _ kont => XS.aload X5.here hx rfl (hb hby at_24) rfl rfl kont) ?_
  show own_Go p e below s _ _ _ (T5.setTop (mkF m 26 #[.val (.long ax), .second, .val (.long ay), .second, .val (.int aa), .val (.int ab), .val (.int ac), .val (.int ae), .val (.ref bb), .unset, .unset, .unset, .unset, .unset, .unset, .unset, .unset, .unset, .unset, .unset, .unset, .unset, .unset, .unset, .unset] [(.ref bb)]))
  refine own_st (fun _ kont => XS.iconst X5.here hx rfl (hb hby at_26) kont) ?_
  show own_Go p e below s _ _ _ (T5.setTop (mkF m 27 #[.val (.long ax), .second, .val (.long ay), .second, .val (.int aa), .val (.int ab), .val (.int ac), .val (.int ae), .val (.ref bb), .unset, .unset, .unset, .unset, .unset, .unset, .unset, .unset, .unset, .unset, .unset, .unset, .unset, .unset, .unset, .unset] [(.int (2 : Int32)), (.ref bb)]))
  refine own_st (fun _ kont => XS.lloadN X5.here hx rfl (hb hby at_27) rfl kont) ?_
  show own_Go p e below s _ _ _ (T5.setTop (mkF m 28 #[.val (.long ax), .second, .val (.long ay), .second, .val (.int aa), .val (.int ab), .val (.int ac), .val (.int ae), .val (.ref bb), .unset, .unset, .unset, .unset, .unset, .unset, .unset, .unset, .unset, .unset, .unset, .unset, .unset, .unset, .unset, .unset] [(.long ax), (.int (2 : Int32)), (.ref bb)]))
  refine own_st (fun _ kont => XS.iconst X5.here hx rfl (hb hby at_28) kont) ?_
  show own_Go p e below s _ _ _ (T5.setTop (mkF m 29 #[.val (.long ax), .second, .val (.long ay), .second, .val (.int aa), .val (.int ab), .val (.int ac), .val (.int ae), .val (.ref bb), .unset, .unset, .unset, .unset, .unset, .unset, .unset, .unset, .unset, .unset, .unset, .unset, .unset, .unset, .unset, .unset] [(.int (2 : Int32)), (.long ax), (.int (2 : Int32)), (.ref bb)]))
  refine own_cS X5 hx hml hZ hown (hw _ (List.mem_of_getElem? (i := 1) rfl)) (hw _ (List.mem_of_getElem? (i := 2) rfl)) (hw _ (List.mem_of_getElem? (i := 3) rfl)) (hw _ (List.mem_of_getElem? (i := 4) rfl)) (by decide) (own_rm2 l Z a0 hw ax (2 : Int32) h5 n0 sz5) e5 (by decide) (W := 2) (by decide) (g := (mkF m 29 #[.val (.long ax), .second, .val (.long ay), .second, .val (.int aa), .val (.int ab), .val (.int ac), .val (.int ae), .val (.ref bb), .unset, .unset, .unset, .unset, .unset, .unset, .unset, .unset, .unset, .unset, .unset, .unset, .unset, .unset, .unset, .unset] [(.int (2 : Int32)), (.long ax), (.int (2 : Int32)), (.ref bb)])) rfl rfl own_pd0 (argsL := [(.long ax), (.int (2 : Int32))]) (rest := [(.int (2 : Int32)), (.ref bb)]) rfl rfl rfl (by show 2 * 0 + _ ≤ _; exact Nat.le_of_eq rfl) (hb hby at_29) (by decide) (by decide) ?_
  intro T6 L6 v6 X6 hQ6
  obtain ⟨⟨d6, rfl, hd6⟩, eh6, le6⟩ := hQ6
  have N6 := own_nil N5 le6
  show own_Go p e below s _ _ _ (T6.setTop (mkF m 32 #[.val (.long ax), .second, .val (.long ay), .second, .val (.int aa), .val (.int ab), .val (.int ac), .val (.int ae), .val (.ref bb), .unset, .unset, .unset, .unset, .unset, .unset, .unset, .unset, .unset, .unset, .unset, .unset, .unset, .unset, .unset, .unset] [(.int d6), (.int (2 : Int32)), (.ref bb)]))
  obtain ⟨T7, h7, X7, e7, W7, Vbb_7, st7⟩ := own_stB X6 hx hZ eh6 Vbb_5 (i := 2) (by decide) (by decide) (g := (mkF m 32 #[.val (.long ax), .second, .val (.long ay), .second, .val (.int aa), .val (.int ab), .val (.int ac), .val (.int ae), .val (.ref bb), .unset, .unset, .unset, .unset, .unset, .unset, .unset, .unset, .unset, .unset, .unset, .unset, .unset, .unset, .unset, .unset] [(.int d6), (.int (2 : Int32)), (.ref bb)])) rfl rfl (hb hby at_32)
  have sz7 := Nat.le_trans sz5 (Keep.of_wr W7).1
  have N7 := Fr.snoc X7 N6 fr_bb
  refine own_st st7 ?_
  show own_Go p e below s _ _ _ (T7.setTop (mkF m 33 #[.val (.long ax), .second, .val (.long ay), .second, .val (.int aa), .val (.int ab), .val (.int ac), .val (.int ae), .val (.ref bb), .unset, .unset, .unset, .unset, .unset, .unset, .unset, .unset, .unset, .unset, .unset, .unset, .unset, .unset, .unset, .unset] []))
  obtain ⟨f3, hf3, Vbb_7⟩ : ∃ f : Nat → Int32, (∀ t, t < 3 → own_dg (f t)) ∧ own_Av Z h7 bb .byte 20 (fun t => .int (f t)) := ⟨_, own_next hf2 (by rw [own_nb hd6]; exact hd6), Vbb_7⟩
  show own_Go p e below s _ _ _ (T7.setTop (mkF m 33 #[.val (.long ax), .second, .val (.long ay), .second, .val (.int aa), .val (.int ab), .val (.int ac), .val (.int ae), .val (.ref bb), .unset, .unset, .unset, .unset, .unset, .unset, .unset, .unset, .unset, .unset, .unset, .unset, .unset, .unset, .unset, .unset] []))
  refine own_st (fun _ kont => XS.aload X7.here hx rfl (hb hby at_33) rfl rfl kont) ?_
  show own_Go p e below s _ _ _ (T7.setTop (mkF m 35 #[.val (.long ax), .second, .val (.long ay), .second, .val (.int aa), .val (.int ab), .val (.int ac), .val (.int ae), .val (.ref bb), .unset, .unset, .unset, .unset, .unset, .unset, .unset, .unset, .unset, .unset, .unset, .unset, .unset, .unset, .unset, .unset] [(.ref bb)]))
  refine own_st (fun _ kont => XS.iconst X7.here hx rfl (hb hby at_35) kont) ?_
  show own_Go p e below s _ _ _ (T7.setTop (mkF m 36 #[.val (.long ax), .second, .val (.long ay), .second, .val (.int aa), .val (.int ab), .val (.int ac), .val (.int ae), .val (.ref bb), .unset, .unset, .unset, .unset, .unset, .unset, .unset, .unset, .unset, .unset, .unset, .unset, .unset, .unset, .unset, .unset] [(.int (3 : Int32)), (.ref bb)]))
  refine own_st (fun _ kont => XS.lloadN X7.here hx rfl (hb hby at_36) rfl kont) ?_
  show own_Go p e below s _ _ _ (T7.setTop (mkF m 37 #[.val (.long ax), .second, .val (.long ay), .second, .val (.int aa), .val (.int ab), .val (.int ac), .val (.int ae), .val (.ref bb), .unset, .unset, .unset, .unset, .unset, .unset, .unset, .unset, .unset, .unset, .unset, .unset, .unset, .unset, .unset, .unset] [(.long ax), (.int (3 : Int32)), (.ref bb)]))
  refine own_st (fun _ kont => XS.iconst X7.here hx rfl (hb hby at_37) kont) ?_
  show own_Go p e below s _ _ _ (T7.setTop (mkF m 38 #[.val (.long ax), .second, .val (.long ay), .second, .val (.int aa), .val (.int ab), .val (.int ac), .val (.int ae), .val (.ref bb), .unset, .unset, .unset, .unset, .unset, .unset, .unset, .unset, .unset, .unset, .unset, .unset, .unset, .unset, .unset, .unset] [(.int (3 : Int32)), (.long ax), (.int (3 : Int32)), (.ref bb)]))
  refine own_cS X7 hx hml hZ hown (hw _ (List.mem_of_getElem? (i := 1) rfl)) (hw _ (List.mem_of_getElem? (i := 2) rfl)) (hw _ (List.mem_of_getElem? (i := 3) rfl)) (hw _ (List.mem_of_getElem? (i := 4) rfl)) (by decide) (own_rm2 l Z a0 hw ax (3 : Int32) h7 n0 sz7) e7 (by decide) (W := 2) (by decide) (g := (mkF m 38 #[.val (.long ax), .second, .val (.long ay), .second, .val (.int aa), .val (.int ab), .val (.int ac), .val (.int ae), .val (.ref bb), .unset, .unset, .unset, .unset, .unset, .unset, .unset, .unset, .unset, .unset, .unset, .unset, .unset, .unset, .unset, .unset] [(.int (3 : Int32)), (.long ax), (.int (3 : Int32)), (.ref bb)])) rfl rfl own_pd0 (argsL := [(.long ax), (.int (3 : Int32))]) (rest := [(.int (3 : Int32)), (.ref bb)]) rfl rfl rfl (by show 2 * 0 + _ ≤ _; exact Nat.le_of_eq rfl) (hb hby at_38) (by decide) (by decide) ?_
  intro T8 L8 v8 X8 hQ8
  obtain ⟨⟨d8, rfl, hd8⟩, eh8, le8⟩ := hQ8
  have N8 := own_nil N7 le8
  show own_Go p e below s _ _ _ (T8.setTop (mkF m 41 #[.val (.long ax), .second, .val (.long ay), .second, .val (.int aa), .val (.int ab), .val (.int ac), .val (.int ae), .val (.ref bb), .unset, .unset, .unset, .unset, .unset, .unset, .unset, .unset, .unset, .unset, .unset, .unset, .unset, .unset, .unset, .unset] [(.int d8), (.int (3 : Int32)), (.ref bb)]))
  obtain ⟨T9, h9, X9, e9, W9, Vbb_9, st9⟩ := own_stB X8 hx hZ eh8 Vbb_7 (i := 3) (by decide) (by decide) (g := (mkF m 41 #[.val (.long ax), .second, .val (.long ay), .second, .val (.int aa), .val (.int ab), .val (.int ac), .val (.int ae), .val (.ref bb), .unset, .unset, .unset, .unset, .unset, .unset, .unset, .unset, .unset, .unset, .unset, .unset, .unset, .unset, .unset, .unset] [(.int d8), (.int (3 : Int32)), (.ref bb)])) rfl rfl (hb hby at_41)
  have sz9 := Nat.le_trans sz7 (Keep.of_wr W9).1
  have N9 := Fr.snoc X9 N8 fr_bb
  refine own_st st9 ?_
  show own_Go p e below s _ _ _ (T9.setTop (mkF m 42 #[.val (.long ax), .second, .val (.long ay), .second, .val (.int aa), .val (.int ab), .val (.int ac), .val (.int ae), .val (.ref bb), .unset, .unset, .unset, .unset, .unset, .unset, .unset, .unset, .unset, .unset, .unset, .unset, .unset, .unset, .unset, .unset] []))
  obtain ⟨f4, hf4, Vbb_9⟩ : ∃ f : Nat → Int32, (∀ t, t < 4 → own_dg (f t)) ∧ own_Av Z h9 bb .byte 20 (fun t => .int (f t)) := ⟨_, own_next hf3 (by rw [own_nb hd8]; exact hd8), Vbb_9⟩
  show own_Go p e below s _ _ _ (T9.setTop (mkF m 42 #[.val (.long ax), .second, .val (.long ay), .second, .val (.int aa), .val (.int ab), .val (.int ac), .val (.int ae), .val (.ref bb), .unset, .unset, .unset, .unset, .unset, .unset, .unset, .unset, .unset, .unset, .unset, .unset, .unset, .unset, .unset, .unset] []))
  refine own_st (fun _ kont => XS.aload X9.here hx rfl (hb hby at_42) rfl rfl kont) ?_
  show own_Go p e below s _ _ _ (T9.setTop (mkF m 44 #[.val (.long ax), .second, .val (.long ay), .second, .val (.int aa), .val (.int ab), .val (.int ac), .val (.int ae), .val (.ref bb), .unset, .unset, .unset, .unset, .unset, .unset, .unset, .unset, .unset, .unset, .unset, .unset, .unset, .unset, .unset, .unset] [(.ref bb)]))
  refine own_st (fun _ kont => XS.iconst X9.here hx rfl (hb hby at_44) kont) ?_
  show own_Go p e below s _ _ _ (T9.setTop (mkF m 45 #[.val (.long ax), .second, .val (.long ay), .second, .val (.int aa), .val (.int ab), .val (.int ac), .val (.int ae), .val (.ref bb), .unset, .unset, .unset, .unset, .unset, .unset, .unset, .unset, .unset, .unset, .unset, .unset, .unset, .unset, .unset, .unset] [(.int (4 : Int32)), (.ref bb)]))
  refine own_st (fun _ kont => XS.lloadN X9.here hx rfl (hb hby at_45) rfl kont) ?_
  show own_Go p e below s _ _ _ (T9.setTop (mkF m 46 #[.val (.long ax), .second, .val (.long ay), .second, .val (.int aa), .val (.int ab), .val (.int ac), .val (.int ae), .val (.ref bb), .unset, .unset, .unset, .unset, .unset, .unset, .unset, .unset, .unset, .unset, .unset, .unset, .unset, .unset, .unset, .unset] [(.long ax), (.int (4 : Int32)), (.ref bb)]))
  refine own_st (fun _ kont => XS.iconst X9.here hx rfl (hb hby at_46) kont) ?_
  show own_Go p e below s _ _ _ (T9.setTop (mkF m 47 #[.val (.long ax), .second, .val (.long ay), .second, .val (.int aa), .val (.int ab), .val (.int ac), .val (.int ae), .val (.ref bb), .unset, .unset, .unset, .unset, .unset, .unset, .unset, .unset, .unset, .unset, .unset, .unset, .unset, .unset, .unset, .unset] [(.int (4 : Int32)), (.long ax), (.int (4 : Int32)), (.ref bb)]))
  refine own_cS X9 hx hml hZ hown (hw _ (List.mem_of_getElem? (i := 1) rfl)) (hw _ (List.mem_of_getElem? (i := 2) rfl)) (hw _ (List.mem_of_getElem? (i := 3) rfl)) (hw _ (List.mem_of_getElem? (i := 4) rfl)) (by decide) (own_rm2 l Z a0 hw ax (4 : Int32) h9 n0 sz9) e9 (by decide) (W := 2) (by decide) (g := (mkF m 47 #[.val (.long ax), .second, .val (.long ay), .second, .val (.int aa), .val (.int ab), .val (.int ac), .val (.int ae), .val (.ref bb), .unset, .unset, .unset, .unset, .unset, .unset, .unset, .unset, .unset, .unset, .unset, .unset, .unset, .unset, .unset, .unset] [(.int (4 : Int32)), (.long ax), (.int (4 : Int32)), (.ref bb)])) rfl rfl own_pd0 (argsL := [(.long ax), (.int (4 : Int32))]) (rest := [(.int (4 : Int32)), (.ref bb)]) rfl rfl rfl (by show 2 * 0 + _ ≤ _; exact Nat.le_of_eq rfl) (hb hby at_47) (by decide) (by decide) ?_
  intro T10 L10 v10 X10 hQ10
  obtain ⟨⟨d10, rfl, hd10⟩, eh10, le10⟩ := hQ10
  have N10 := own_nil N9 le10
  show own_Go p e below s _ _ _ (T10.setTop (mkF m 50 #[.val (.long ax), .second, .val (.long ay), .second, .val (.int aa), .val (.int ab), .val (.int ac), .val (.int ae), .val (.ref bb), .unset, .unset, .unset, .unset, .unset, .unset, .unset, .unset, .unset, .unset, .unset, .unset, .unset, .unset, .unset, .unset] [(.int d10), (.int (4 : Int32)), (.ref bb)]))
  obtain ⟨T11, h11, X11, e11, W11, Vbb_11, st11⟩ := own_stB X10 hx hZ eh10 Vbb_9 (i := 4) (by decide) (by decide) (g := (mkF m 50 #[.val (.long ax), .second, .val (.long ay), .second, .val (.int aa), .val (.int ab), .val (.int ac), .val (.int ae), .val (.ref bb), .unset, .unset, .unset, .unset, .unset, .unset, .unset, .unset, .unset, .unset, .unset, .unset, .unset, .unset, .unset, .unset] [(.int d10), (.int (4 : Int32)), (.ref bb)])) rfl rfl (hb hby at_50)
  have sz11 := Nat.le_trans sz9 (Keep.of_wr W11).1
  have N11 := Fr.snoc X11 N10 fr_bb
  refine own_st st11 ?_
  show own_Go p e below s _ _ _ (T11.setTop (mkF m 51 #[.val (.long ax), .second, .val (.long ay), .second, .val (.int aa), .val (.int ab), .val (.int ac), .val (.int ae), .val (.ref bb), .unset, .unset, .unset, .unset, .unset, .unset, .unset, .unset, .unset, .unset, .unset, .unset, .unset, .unset, .unset, .unset] []))
  obtain ⟨f5, hf5, Vbb_11⟩ : ∃ f : Nat → Int32, (∀ t, t < 5 → own_dg (f t)) ∧ own_Av Z h11 bb .byte 20 (fun t => .int (f t)) := ⟨_, own_next hf4 (by rw [own_nb hd10]; exact hd10), Vbb_11⟩
  show own_Go p e below s _ _ _ (T11.setTop (mkF m 51 #[.val (.long ax), .second, .val (.long ay), .second, .val (.int aa), .val (.int ab), .val (.int ac), .val (.int ae), .val (.ref bb), .unset, .unset, .unset, .unset, .unset, .unset, .unset, .unset, .unset, .unset, .unset, .unset, .unset, .unset, .unset, .unset] []))
  refine own_st (fun _ kont => XS.aload X11.here hx rfl (hb hby at_51) rfl rfl kont) ?_
  show own_Go p e below s _ _ _ (T11.setTop (mkF m 53 #[.val (.long ax), .second, .val (.long ay), .second, .val (.int aa), .val (.int ab), .val (.int ac), .val (.int ae), .val (.ref bb), .unset, .unset, .unset, .unset, .unset, .unset, .unset, .unset, .unset, .unset, .unset, .unset, .unset, .unset, .unset, .unset] [(.ref bb)]))
  refine own_st (fun _ kont => XS.iconst X11.here hx rfl (hb hby at_53) kont) ?_
  show own_Go p e below s _ _ _ (T11.setTop (mkF m 54 #[.val (.long ax), .second, .val (.long ay), .second, .val (.int aa), .val (.int ab), .val (.int ac), .val (.int ae), .val (.ref bb), .unset, .unset, .unset, .unset, .unset, .unset, .unset, .unset, .unset, .unset, .unset, .unset, .unset, .unset, .unset, .unset] [(.int (5 : Int32)), (.ref bb)]))
  refine own_st (fun _ kont => XS.lloadN X11.here hx rfl (hb hby at_54) rfl kont) ?_
  show own_Go p e below s _ _ _ (T11.setTop (mkF m 55 #[.val (.long ax), .second, .val (.long ay), .second, .val (.int aa), .val (.int ab), .val (.int ac), .val (.int ae), .val (.ref bb), .unset, .unset, .unset, .unset, .unset, .unset, .unset, .unset, .unset, .unset, .unset, .unset, .unset, .unset, .unset, .unset] [(.long ax), (.int (5 : Int32)), (.ref bb)]))
  refine own_st (fun _ kont => XS.iconst X11.here hx rfl (hb hby at_55) kont) ?_
  show own_Go p e below s _ _ _ (T11.setTop (mkF m 56 #[.val (.long ax), .second, .val (.long ay), .second, .val (.int aa), .val (.int ab), .val (.int ac), .val (.int ae), .val (.ref bb), .unset, .unset, .unset, .unset, .unset, .unset, .unset, .unset, .unset, .unset, .unset, .unset, .unset, .unset, .unset, .unset] [(.int (5 : Int32)), (.long ax), (.int (5 : Int32)), (.ref bb)]))
  refine own_cS X11 hx hml hZ hown (hw _ (List.mem_of_getElem? (i := 1) rfl)) (hw _ (List.mem_of_getElem? (i := 2) rfl)) (hw _ (List.mem_of_getElem? (i := 3) rfl)) (hw _ (List.mem_of_getElem? (i := 4) rfl)) (by decide) (own_rm2 l Z a0 hw ax (5 : Int32) h11 n0 sz11) e11 (by decide) (W := 2) (by decide) (g := (mkF m 56 #[.val (.long ax), .second, .val (.long ay), .second, .val (.int aa), .val (.int ab), .val (.int ac), .val (.int ae), .val (.ref bb), .unset, .unset, .unset, .unset, .unset, .unset, .unset, .unset, .unset, .unset, .unset, .unset, .unset, .unset, .unset, .unset] [(.int (5 : Int32)), (.long ax), (.int (5 : Int32)), (.ref bb)])) rfl rfl own_pd0 (argsL := [(.long ax), (.int (5 : Int32))]) (rest := [(.int (5 : Int32)), (.ref bb)]) rfl rfl rfl (by show 2 * 0 + _ ≤ _; exact Nat.le_of_eq rfl) (hb hby at_56) (by decide) (by decide) ?_
  intro T12 L12 v12 X12 hQ12
  obtain ⟨⟨d12, rfl, hd12⟩, eh12, le12⟩ := hQ12
  have N12 := own_nil N11 le12
  show own_Go p e below s _ _ _ (T12.setTop (mkF m 59 #[.val (.long ax), .second, .val (.long ay), .second, .val (.int aa), .val (.int ab), .val (.int ac), .val (.int ae), .val (.ref bb), .unset, .unset, .unset, .unset, .unset, .unset, .unset, .unset, .unset, .unset, .unset, .unset, .unset, .unset, .unset, .unset] [(.int d12), (.int (5 : Int32)), (.ref bb)]))
  obtain ⟨T13, h13, X13, e13, W13, Vbb_13, st13⟩ := own_stB X12 hx hZ eh12 Vbb_11 (i := 5) (by decide) (by decide) (g := (mkF m 59 #[.val (.long ax), .second, .val (.long ay), .second, .val (.int aa), .val (.int ab), .val (.int ac), .val (.int ae), .val (.ref bb), .unset, .unset, .unset, .unset, .unset, .unset, .unset, .unset, .unset, .unset, .unset, .unset, .unset, .unset, .unset, .unset] [(.int d12), (.int (5 : Int32)), (.ref bb)])) rfl rfl (hb hby at_59)
  have sz13 := Nat.le_trans sz11 (Keep.of_wr W13).1
  have N13 := Fr.snoc X13 N12 fr_bb
  refine own_st st13 ?_
  show own_Go p e below s _ _ _ (T13.setTop (mkF m 60 #[.val (.long ax), .second, .val (.long ay), .second, .val (.int aa), .val (.int ab), .val (.int ac), .val (.int ae), .val (.ref bb), .unset, .unset, .unset, .unset, .unset, .unset, .unset, .unset, .unset, .unset, .unset, .unset, .unset, .unset, .unset, .unset] []))
  obtain ⟨f6, hf6, Vbb_13⟩ : ∃ f : Nat → Int32, (∀ t, t < 6 → own_dg (f t)) ∧ own_Av Z h13 bb .byte 20 (fun t => .int (f t)) := ⟨_, own_next hf5 (by rw [own_nb hd12]; exact hd12), Vbb_13⟩
  show own_Go p e below s _ _ _ (T13.setTop (mkF m 60 #[.val (.long ax), .second, .val (.long ay), .second, .val (.int aa), .val (.int ab), .val (.int ac), .val (.int ae), .val (.ref bb), .unset, .unset, .unset, .unset, .unset, .unset, .unset, .unset, .unset, .unset, .unset, .unset, .unset, .unset, .unset, .unset] []))
  refine own_st (fun _ kont => XS.aload X13.here hx rfl (hb hby at_60) rfl rfl kont) ?_
  show own_Go p e below s _ _ _ (T13.setTop (mkF m 62 #[.val (.long ax), .second, .val (.long ay), .second, .val (.int aa), .val (.int ab), .val (.int ac), .val (.int ae), .val (.ref bb), .unset, .unset, .unset, .unset, .unset, .unset, .unset, .unset, .unset, .unset, .unset, .unset, .unset, .unset, .unset, .unset] [(.ref bb)]))
  refine own_st (fun _ kont => XS.bipush X13.here hx rfl (hb hby at_62) kont) ?_
  show own_Go p e below s _ _ _ (T13.setTop (mkF m 64 #[.val (.long ax), .second, .val (.long ay), .second, .val (.int aa), .val (.int ab), .val (.int ac), .val (.int ae), .val (.ref bb), .unset, .unset, .unset, .unset, .unset, .unset, .unset, .unset, .unset, .unset, .unset, .unset, .unset, .unset, .unset, .unset] [(.int (6 : Int32)), (.ref bb)]))
  refine own_st (fun _ kont => XS.lloadN X13.here hx rfl (hb hby at_64) rfl kont) ?_
  show own_Go p e below s _ _ _ (T13.setTop (mkF m 65 #[.val (.long ax), .second, .val (.long ay), .second, .val (.int aa), .val (.int ab), .val (.int ac), .val (.int ae), .val (.ref bb), .unset, .unset, .unset, .unset, .unset, .unset, .unset, .unset, .unset, .unset, .unset, .unset, .unset, .unset, .unset, .unset] [(.long ax), (.int (6 : Int32)), (.ref bb)]))
  refine own_st (fun _ kont => XS.bipush X13.here hx rfl (hb hby at_65) kont) ?_
  show own_Go p e below s _ _ _ (T13.setTop (mkF m 67 #[.val (.long ax), .second, .val (.long ay), .second, .val (.int aa), .val (.int ab), .val (.int ac), .val (.int ae), .val (.ref bb), .unset, .unset, .unset, .unset, .unset, .unset, .unset, .unset, .unset, .unset, .unset, .unset, .unset, .unset, .unset, .unset] [(.int (6 : Int32)), (.long ax), (.int (6 : Int32)), (.ref bb)]))
  refine own_cS X13 hx hml hZ hown (hw _ (List.mem_of_getElem? (i := 1) rfl)) (hw _ (List.mem_of_getElem? (i := 2) rfl)) (hw _ (List.mem_of_getElem? (i := 3) rfl)) (hw _ (List.mem_of_getElem? (i := 4) rfl)) (by decide) (own_rm2 l Z a0 hw ax (6 : Int32) h13 n0 sz13) e13 (by decide) (W := 2) (by decide) (g := (mkF m 67 #[.val (.long ax), .second, .val (.long ay), .second, .val (.int aa), .val (.int ab), .val (.int ac), .val (.int ae), .val (.ref bb), .unset, .unset, .unset, .unset, .unset, .unset, .unset, .unset, .unset, .unset, .unset, .unset, .unset, .unset, .unset, .unset] [(.int (6 : Int32)), (.long ax), (.int (6 : Int32)), (.ref bb)])) rfl rfl own_pd0 (argsL := [(.long ax), (.int (6 : Int32))]) (rest := [(.int (6 : Int32)), (.ref bb)]) rfl rfl rfl (by show 2 * 0 + _ ≤ _; exact Nat.le_of_eq rfl) (hb hby at_67) (by decide) (by decide) ?_
  intro T14 L14 v14 X14 hQ14
  obtain ⟨⟨d14, rfl, hd14⟩, eh14, le14⟩ := hQ14
  have N14 := own_nil N13 le14
  show own_Go p e below s _ _ _ (T14.setTop (mkF m 70 #[.val (.long ax), .second, .val (.long ay), .second, .val (.int aa), .val (.int ab), .val (.int ac), .val (.int ae), .val (.ref bb), .unset, .unset, .unset, .unset, .unset, .unset, .unset, .unset, .unset, .unset, .unset, .unset, .unset, .unset, .unset, .unset] [(.int d14), (.int (6 : Int32)), (.ref bb)]))
  obtain ⟨T15, h15, X15, e15, W15, Vbb_15, st15⟩ := own_stB X14 hx hZ eh14 Vbb_13 (i := 6) (by decide) (by decide) (g := (mkF m 70 #[.val (.long ax), .second, .val (.long ay), .second, .val (.int aa), .val (.int ab), .val (.int ac), .val (.int ae), .val (.ref bb), .unset, .unset, .unset, .unset, .unset, .unset, .unset, .unset, .unset, .unset, .unset, .unset, .unset, .unset, .unset, .unset] [(.int d14), (.int (6 : Int32)), (.ref bb)])) rfl rfl (hb hby at_70)
  have sz15 := Nat.le_trans sz13 (Keep.of_wr W15).1
  have N15 := Fr.snoc X15 N14 fr_bb
  refine own_st st15 ?_
  show own_Go p e below s _ _ _ (T15.setTop (mkF m 71 #[.val (.long ax), .second, .val (.long ay), .second, .val (.int aa), .val (.int ab), .val (.int ac), .val (.int ae), .val (.ref bb), .unset, .unset, .unset, .unset, .unset, .unset, .unset, .unset, .unset, .unset, .unset, .unset, .unset, .unset, .unset, .unset] []))
  obtain ⟨f7, hf7, Vbb_15⟩ : ∃ f : Nat → Int32, (∀ t, t < 7 → own_dg (f t)) ∧ own_Av Z h15 bb .byte 20 (fun t => .int (f t)) := ⟨_, own_next hf6 (by rw [own_nb hd14]; exact hd14), Vbb_15⟩
  show own_Go p e below s _ _ _ (T15.setTop (mkF m 71 #[.val (.long ax), .second, .val (.long ay), .second, .val (.int aa), .val (.int ab), .val (.int ac), .val (.int ae), .val (.ref bb), .unset, .unset, .unset, .unset, .unset, .unset, .unset, .unset, .unset, .unset, .unset, .unset, .unset, .unset, .unset, .unset] []))
  refine own_st (fun _ kont => XS.aload X15.here hx rfl (hb hby at_71) rfl rfl kont) ?_
  show own_Go p e below s _ _ _ (T15.setTop (mkF m 73 #[.val (.long ax), .second, .val (.long ay), .second, .val (.int aa), .val (.int ab), .val (.int ac), .val (.int ae), .val (.ref bb), .unset, .unset, .unset, .unset, .unset, .unset, .unset, .unset, .unset, .unset, .unset, .unset, .unset, .unset, .unset, .unset] [(.ref bb)]))
  refine own_st (fun _ kont => XS.bipush X15.here hx rfl (hb hby at_73) kont) ?_
  show own_Go p e below s _ _ _ (T15.setTop (mkF m 75 #[.val (.long ax), .second, .val (.long ay), .second, .val (.int aa), .val (.int ab), .val (.int ac), .val (.int ae), .val (.ref bb), .unset, .unset, .unset, .unset, .unset, .unset, .unset, .unset, .unset, .unset, .unset, .unset, .unset, .unset, .unset, .unset] [(.int (7 : Int32)), (.ref bb)]))
  refine own_st (fun _ kont => XS.lloadN X15.here hx rfl (hb hby at_75) rfl kont) ?_
  show own_Go p e below s _ _ _ (T15.setTop (mkF m 76 #[.val (.long ax), .second, .val (.long ay), .second, .val (.int aa), .val (.int ab), .val (.int ac), .val (.int ae), .val (.ref bb), .unset, .unset, .unset, .unset, .unset, .unset, .unset, .unset, .unset, .unset, .unset, .unset, .unset, .unset, .unset, .unset] [(.long ax), (.int (7 : Int32)), (.ref bb)]))
  refine own_st (fun _ kont => XS.bipush X15.here hx rfl (hb hby at_76) kont) ?_
  show own_Go p e below s _ _ _ (T15.setTop (mkF m 78 #[.val (.long ax), .second, .val (.long ay), .second, .val (.int aa), .val (.int ab), .val (.int ac), .val (.int ae), .val (.ref bb), .unset, .unset, .unset, .unset, .unset, .unset, .unset, .unset, .unset, .unset, .unset, .unset, .unset, .unset, .unset, .unset] [(.int (7 : Int32)), (.long ax), (.int (7 : Int32)), (.ref bb)]))
  refine own_cS X15 hx hml hZ hown (hw _ (List.mem_of_getElem? (i := 1) rfl)) (hw _ (List.mem_of_getElem? (i := 2) rfl)) (hw _ (List.mem_of_getElem? (i := 3) rfl)) (hw _ (List.mem_of_getElem? (i := 4) rfl)) (by decide) (own_rm2 l Z a0 hw ax (7 : Int32) h15 n0 sz15) e15 (by decide) (W := 2) (by decide) (g := (mkF m 78 #[.val (.long ax), .second, .val (.long ay), .second, .val (.int aa), .val (.int ab), .val (.int ac), .val (.int ae), .val (.ref bb), .unset, .unset, .unset, .unset, .unset, .unset, .unset, .unset, .unset, .unset, .unset, .unset, .unset, .unset, .unset, .unset] [(.int (7 : Int32)), (.long ax), (.int (7 : Int32)), (.ref bb)])) rfl rfl own_pd0 (argsL := [(.long ax), (.int (7 : Int32))]) (rest := [(.int (7 : Int32)), (.ref bb)]) rfl rfl rfl (by show 2 * 0 + _ ≤ _; exact Nat.le_of_eq rfl) (hb hby at_78) (by decide) (by decide) ?_
  intro T16 L16 v16 X16 hQ16
  obtain ⟨⟨d16, rfl, hd16⟩, eh16, le16⟩ := hQ16
  have N16 := own_nil N15 le16
  show own_Go p e below s _ _ _ (T16.setTop (mkF m 81 #[.val (.long ax), .second, .val (.long ay), .second, .val (.int aa), .val (.int ab), .val (.int ac), .val (.int ae), .val (.ref bb), .unset, .unset, .unset, .unset, .unset, .unset, .unset, .unset, .unset, .unset, .unset, .unset, .unset, .unset, .unset, .unset] [(.int d16), (.int (7 : Int32)), (.ref bb)]))
  obtain ⟨T17, h17, X17, e17, W17, Vbb_17, st17⟩ := own_stB X16 hx hZ eh16 Vbb_15 (i := 7) (by decide) (by decide) (g := (mkF m 81 #[.val (.long ax), .second, .val (.long ay), .second, .val (.int aa), .val (.int ab), .val (.int ac), .val (.int ae), .val (.ref bb), .unset, .unset, .unset, .unset, .unset, .unset, .unset, .unset, .unset, .unset, .unset, .unset, .unset, .unset, .unset, .unset] [(.int d16), (.int (7 : Int32)), (.ref bb)])) rfl rfl (hb hby at_81)
  have sz17 := Nat.le_trans sz15 (Keep.of_wr W17).1
  have N17 := Fr.snoc X17 N16 fr_bb
  refine own_st st17 ?_
  show own_Go p e below s _ _ _ (T17.setTop (mkF m 82 #[.val (.long ax), .second, .val (.long ay), .second, .val (.int aa), .val (.int ab), .val (.int ac), .val (.int ae), .val (.ref bb), .unset, .unset, .unset, .unset, .unset, .unset, .unset, .unset, .unset, .unset, .unset, .unset, .unset, .unset, .unset, .unset] []))
  obtain ⟨f8, hf8, Vbb_17⟩ : ∃ f : Nat → Int32, (∀ t, t < 8 → own_dg (f t)) ∧ own_Av Z h17 bb .byte 20 (fun t => .int (f t)) := ⟨_, own_next hf7 (by rw [own_nb hd16]; exact hd16), Vbb_17⟩
  show own_Go p e below s _ _ _ (T17.setTop (mkF m 82 #[.val (.long ax), .second, .val (.long ay), .second, .val (.int aa), .val (.int ab), .val (.int ac), .val (.int ae), .val (.ref bb), .unset, .unset, .unset, .unset, .unset, .unset, .unset, .unset, .unset, .unset, .unset, .unset, .unset, .unset, .unset, .unset] []))
  refine own_st (fun _ kont => XS.aload X17.here hx rfl (hb hby at_82) rfl rfl kont) ?_
  show own_Go p e below s _ _ _ (T17.setTop (mkF m 84 #[.val (.long ax), .second, .val (.long ay), .second, .val (.int aa), .val (.int ab), .val (.int ac), .val (.int ae), .val (.ref bb), .unset, .unset, .unset, .unset, .unset, .unset, .unset, .unset, .unset, .unset, .unset, .unset, .unset, .unset, .unset, .unset] [(.ref bb)]))
  refine own_st (fun _ kont => XS.bipush X17.here hx rfl (hb hby at_84) kont) ?_
  show own_Go p e below s _ _ _ (T17.setTop (mkF m 86 #[.val (.long ax), .second, .val (.long ay), .second, .val (.int aa), .val (.int ab), .val (.int ac), .val (.int ae), .val (.ref bb), .unset, .unset, .unset, .unset, .unset, .unset, .unset, .unset, .unset, .unset, .unset, .unset, .unset, .unset, .unset, .unset] [(.int (8 : Int32)), (.ref bb)]))
  refine own_st (fun _ kont => XS.lloadN X17.here hx rfl (hb hby at_86) rfl kont) ?_
  show own_Go p e below s _ _ _ (T17.setTop (mkF m 87 #[.val (.long ax), .second, .val (.long ay), .second, .val (.int aa), .val (.int ab), .val (.int ac), .val (.int ae), .val (.ref bb), .unset, .unset, .unset, .unset, .unset, .unset, .unset, .unset, .unset, .unset, .unset, .unset, .unset, .unset, .unset, .unset] [(.long ax), (.int (8 : Int32)), (.ref bb)]))
  refine own_st (fun _ kont => XS.bipush X17.here hx rfl (hb hby at_87) kont) ?_
  show own_Go p e below s _ _ _ (T17.setTop (mkF m 89 #[.val (.long ax), .second, .val (.long ay), .second, .val (.int aa), .val (.int ab), .val (.int ac), .val (.int ae), .val (.ref bb), .unset, .unset, .unset, .unset, .unset, .unset, .unset, .unset, .unset, .unset, .unset, .unset, .unset, .unset, .unset, .unset] [(.int (8 : Int32)), (.long ax), (.int (8 : Int32)), (.ref bb)]))
  refine own_cS X17 hx hml hZ hown (hw _ (List.mem_of_getElem? (i := 1) rfl)) (hw _ (List.mem_of_getElem? (i := 2) rfl)) (hw _ (List.mem_of_getElem? (i := 3) rfl)) (hw _ (List.mem_of_getElem? (i := 4) rfl)) (by decide) (own_rm2 l Z a0 hw ax (8 : Int32) h17 n0 sz17) e17 (by decide) (W := 2) (by decide) (g := (mkF m 89 #[.val (.long ax), .second, .val (.long ay), .second, .val (.int aa), .val (.int ab), .val (.int ac), .val (.int ae), .val (.ref bb), .unset, .unset, .unset, .unset, .unset, .unset, .unset, .unset, .unset, .unset, .unset, .unset, .unset, .unset, .unset, .unset] [(.int (8 : Int32)), (.long ax), (.int (8 : Int32)), (.ref bb)])) rfl rfl own_pd0 (argsL := [(.long ax), (.int (8 : Int32))]) (rest := [(.int (8 : Int32)), (.ref bb)]) rfl rfl rfl (by show 2 * 0 + _ ≤ _; exact Nat.le_of_eq rfl) (hb hby at_89) (by decide) (by decide) ?_
  intro T18 L18 v18 X18 hQ18
  obtain ⟨⟨d18, rfl, hd18⟩, eh18, le18⟩ := hQ18
  have N18 := own_nil N17 le18
  show own_Go p e below s _ _ _ (T18.setTop (mkF m 92 #[.val (.long ax), .second, .val (.long ay), .second, .val (.int aa), .val (.int ab), .val (.int ac), .val (.int ae), .val (.ref bb), .unset, .unset, .unset, .unset, .unset, .unset, .unset, .unset, .unset, .unset, .unset, .unset, .unset, .unset, .unset, .unset] [(.int d18), (.int (8 : Int32)), (.ref bb)]))
  obtain ⟨T19, h19, X19, e19, W19, Vbb_19, st19⟩ := own_stB X18 hx hZ eh18 Vbb_17 (i := 8) (by decide) (by decide) (g := (mkF m 92 #[.val (.long ax), .second, .val (.long ay), .second, .val (.int aa), .val (.int ab), .val (.int ac), .val (.int ae), .val (.ref bb), .unset, .unset, .unset, .unset, .unset, .unset, .unset, .unset, .unset, .unset, .unset, .unset, .unset, .unset, .unset, .unset] [(.int d18), (.int (8 : Int32)), (.ref bb)])) rfl rfl (hb hby at_92)
  have sz19 := Nat.le_trans sz17 (Keep.of_wr W19).1
  have N19 := Fr.snoc X19 N18 fr_bb
  refine own_st st19 ?_
  show own_Go p e below s _ _ _ (T19.setTop (mkF m 93 #[.val (.long ax), .second, .val (.long ay), .second, .val (.int aa), .val (.int ab), .val (.int ac), .val (.int ae), .val (.ref bb), .unset, .unset, .unset, .unset, .unset, .unset, .unset, .unset, .unset, .unset, .unset, .unset, .unset, .unset, .unset, .unset] []))
  obtain ⟨f9, hf9, Vbb_19⟩ : ∃ f : Nat → Int32, (∀ t, t < 9 → own_dg (f t)) ∧ own_Av Z h19 bb .byte 20 (fun t => .int (f t)) := ⟨_, own_next hf8 (by rw [own_nb hd18]; exact hd18), Vbb_19⟩
  show own_Go p e below s _ _ _ (T19.setTop (mkF m 93 #[.val (.long ax), .second, .val (.long ay), .second, .val (.int aa), .val (.int ab), .val (.int ac), .val (.int ae), .val (.ref bb), .unset, .unset, .unset, .unset, .unset, .unset, .unset, .unset, .unset, .unset, .unset, .unset, .unset, .unset, .unset, .unset] []))
  refine own_st (fun _ kont => XS.aload X19.here hx rfl (hb hby at_93) rfl rfl kont) ?_
  show own_Go p e below s _ _ _ (T19.setTop (mkF m 95 #[.val (.long ax), .second, .val (.long ay), .second, .val (.int aa), .val (.int ab), .val (.int ac), .val (.int ae), .val (.ref bb), .unset, .unset, .unset, .unset, .unset, .unset, .unset, .unset, .unset, .unset, .unset, .unset, .unset, .unset, .unset, .unset] [(.ref bb)]))
  refine own_st (fun _ kont => XS.bipush X19.here hx rfl (hb hby at_95) kont) ?_
  show own_Go p e below s _ _ _ (T19.setTop (mkF m 97 #[.val (.long ax), .second, .val (.long ay), .second, .val (.int aa), .val (.int ab), .val (.int ac), .val (.int ae), .val (.ref bb), .unset, .unset, .unset, .unset, .unset, .unset, .unset, .unset, .unset, .unset, .unset, .unset, .unset, .unset, .unset, .unset] [(.int (9 : Int32)), (.ref bb)]))
  refine own_st (fun _ kont => XS.lloadN X19.here hx rfl (hb hby at_97) rfl kont) ?_
  show own_Go p e below s _ _ _ (T19.setTop (mkF m 98 #[.val (.long ax), .second, .val (.long ay), .second, .val (.int aa), .val (.int ab), .val (.int ac), .val (.int ae), .val (.ref bb), .unset, .unset, .unset, .unset, .unset, .unset, .unset, .unset, .unset, .unset, .unset, .unset, .unset, .unset, .unset, .unset] [(.long ax), (.int (9 : Int32)), (.ref bb)]))
  refine own_st (fun _ kont => XS.bipush X19.here hx rfl (hb hby at_98) kont) ?_
  show own_Go p e below s _ _ _ (T19.setTop (mkF m 100 #[.val (.long ax), .second, .val (.long ay), .second, .val (.int aa), .val (.int ab), .val (.int ac), .val (.int ae), .val (.ref bb), .unset, .unset, .unset, .unset, .unset, .unset, .unset, .unset, .unset, .unset, .unset, .unset, .unset, .unset, .unset, .unset] [(.int (9 : Int32)), (.long ax), (.int (9 : Int32)), (.ref bb)]))
  refine own_cS X19 hx hml hZ hown (hw _ (List.mem_of_getElem? (i := 1) rfl)) (hw _ (List.mem_of_getElem? (i := 2) rfl)) (hw _ (List.mem_of_getElem? (i := 3) rfl)) (hw _ (List.mem_of_getElem? (i := 4) rfl)) (by decide) (own_rm2 l Z a0 hw ax (9 : Int32) h19 n0 sz19) e19 (by decide) (W := 2) (by decide) (g := (mkF m 100 #[.val (.long ax), .second, .val (.long ay), .second, .val (.int aa), .val (.int ab), .val (.int ac), .val (.int ae), .val (.ref bb), .unset, .unset, .unset, .unset, .unset, .unset, .unset, .unset, .unset, .unset, .unset, .unset, .unset, .unset, .unset, .unset] [(.int (9 : Int32)), (.long ax), (.int (9 : Int32)), (.ref bb)])) rfl rfl own_pd0 (argsL := [(.long ax), (.int (9 : Int32))]) (rest := [(.int (9 : Int32)), (.ref bb)]) rfl rfl rfl (by show 2 * 0 + _ ≤ _; exact Nat.le_of_eq rfl) (hb hby at_100) (by decide) (by decide) ?_
  intro T20 L20 v20 X20 hQ20
  obtain ⟨⟨d20, rfl, hd20⟩, eh20, le20⟩ := hQ20
  have N20 := own_nil N19 le20
  show own_Go p e below s _ _ _ (T20.setTop (mkF m 103 #[.val (.long ax), .second, .val (.long ay), .second, .val (.int aa), .val (.int ab), .val (.int ac), .val (.int ae), .val (.ref bb), .unset, .unset, .unset, .unset, .unset, .unset, .unset, .unset, .unset, .unset, .unset, .unset, .unset, .unset, .unset, .unset] [(.int d20), (.int (9 : Int32)), (.ref bb)]))
  obtain ⟨T21, h21, X21, e21, W21, Vbb_21, st21⟩ := own_stB X20 hx hZ eh20 Vbb_19 (i := 9) (by decide) (by decide) (g := (mkF m 103 #[.val (.long ax), .second, .val (.long ay), .second, .val (.int aa), .val (.int ab), .val (.int ac), .val (.int ae), .val (.ref bb), .unset, .unset, .unset, .unset, .unset, .unset, .unset, .unset, .unset, .unset, .unset, .unset, .unset, .unset, .unset, .unset] [(.int d20), (.int (9 : Int32)), (.ref bb)])) rfl rfl (hb hby at_103)
  have sz21 := Nat.le_trans sz19 (Keep.of_wr W21).1
  have N21 := Fr.snoc X21 N20 fr_bb
  refine own_st st21 ?_
  show own_Go p e below s _ _ _ (T21.setTop (mkF m 104 #[.val (.long ax), .second, .val (.long ay), .second, .val (.int aa), .val (.int ab), .val (.int ac), .val (.int ae), .val (.ref bb), .unset, .unset, .unset, .unset, .unset, .unset, .unset, .unset, .unset, .unset, .unset, .unset, .unset, .unset, .unset, .unset] []))
  obtain ⟨f10, hf10, Vbb_21⟩ : ∃ f : Nat → Int32, (∀ t, t < 10 → own_dg (f t)) ∧ own_Av Z h21 bb .byte 20 (fun t => .int (f t)) := ⟨_, own_next hf9 (by rw [own_nb hd20]; exact hd20), Vbb_21⟩
  show own_Go p e below s _ _ _ (T21.setTop (mkF m 104 #[.val (.long ax), .second, .val (.long ay), .second, .val (.int aa), .val (.int ab), .val (.int ac), .val (.int ae), .val (.ref bb), .unset, .unset, .unset, .unset, .unset, .unset, .unset, .unset, .unset, .unset, .unset, .unset, .unset, .unset, .unset, .unset] []))
  refine own_st (fun _ kont => XS.aload X21.here hx rfl (hb hby at_104) rfl rfl kont) ?_
  show own_Go p e below s _ _ _ (T21.setTop (mkF m 106 #[.val (.long ax), .second, .val (.long ay), .second, .val (.int aa), .val (.int ab), .val (.int ac), .val (.int ae), .val (.ref bb), .unset, .unset, .unset, .unset, .unset, .unset, .unset, .unset, .unset, .unset, .unset, .unset, .unset, .unset, .unset, .unset] [(.ref bb)]))
  refine own_st (fun _ kont => XS.bipush X21.here hx rfl (hb hby at_106) kont) ?_
  show own_Go p e below s _ _ _ (T21.setTop (mkF m 108 #[.val (.long ax), .second, .val (.long ay), .second, .val (.int aa), .val (.int ab), .val (.int ac), .val (.int ae), .val (.ref bb), .unset, .unset, .unset, .unset, .unset, .unset, .unset, .unset, .unset, .unset, .unset, .unset, .unset, .unset, .unset, .unset] [(.int (10 : Int32)), (.ref bb)]))
  refine own_st (fun _ kont => XS.lloadN X21.here hx rfl (hb hby at_108) rfl kont) ?_
  show own_Go p e below s _ _ _ (T21.setTop (mkF m 109 #[.val (.long ax), .second, .val (.long ay), .second, .val (.int aa), .val (.int ab), .val (.int ac), .val (.int ae), .val (.ref bb), .unset, .unset, .unset, .unset, .unset, .unset, .unset, .unset, .unset, .unset, .unset, .unset, .unset, .unset, .unset, .unset] [(.long ay), (.int (10 : Int32)), (.ref bb)]))
  refine own_st (fun _ kont => XS.iconst X21.here hx rfl (hb hby at_109) kont) ?_
  show own_Go p e below s _ _ _ (T21.setTop (mkF m 110 #[.val (.long ax), .second, .val (.long ay), .second, .val (.int aa), .val (.int ab), .val (.int ac), .val (.int ae), .val (.ref bb), .unset, .unset, .unset, .unset, .unset, .unset, .unset, .unset, .unset, .unset, .unset, .unset, .unset, .unset, .unset, .unset] [(.int (0 : Int32)), (.long ay), (.int (10 : Int32)), (.ref bb)]))
  refine own_cS X21 hx hml hZ hown (hw _ (List.mem_of_getElem? (i := 1) rfl)) (hw _ (List.mem_of_getElem? (i := 2) rfl)) (hw _ (List.mem_of_getElem? (i := 3) rfl)) (hw _ (List.mem_of_getElem? (i := 4) rfl)) (by decide) (own_rm2 l Z a0 hw ay (0 : Int32) h21 n0 sz21) e21 (by decide) (W := 2) (by decide) (g := (mkF m 110 #[.val (.long ax), .second, .val (.long ay), .second, .val (.int aa), .val (.int ab), .val (.int ac), .val (.int ae), .val (.ref bb), .unset, .unset, .unset, .unset, .unset, .unset, .unset, .unset, .unset, .unset, .unset, .unset, .unset, .unset, .unset, .unset] [(.int (0 : Int32)), (.long ay), (.int (10 : Int32)), (.ref bb)])) rfl rfl own_pd0 (argsL := [(.long ay), (.int (0 : Int32))]) (rest := [(.int (10 : Int32)), (.ref bb)]) rfl rfl rfl (by show 2 * 0 + _ ≤ _; exact Nat.le_of_eq rfl) (hb hby at_110) (by decide) (by decide) ?_
  intro T22 L22 v22 X22 hQ22
  obtain ⟨⟨d22, rfl, hd22⟩, eh22, le22⟩ := hQ22
  have N22 := own_nil N21 le22
  show own_Go p e below s _ _ _ (T22.setTop (mkF m 113 #[.val (.long ax), .second, .val (.long ay), .second, .val (.int aa), .val (.int ab), .val (.int ac), .val (.int ae), .val (.ref bb), .unset, .unset, .unset, .unset, .unset, .unset, .unset, .unset, .unset, .unset, .unset, .unset, .unset, .unset, .unset, .unset] [(.int d22), (.int (10 : Int32)), (.ref bb)]))
  obtain ⟨T23, h23, X23, e23, W23, Vbb_23, st23⟩ := own_stB X22 hx hZ eh22 Vbb_21 (i := 10) (by decide) (by decide) (g := (mkF m 113 #[.val (.long ax), .second, .val (.long ay), .second, .val (.int aa), .val (.int ab), .val (.int ac), .val (.int ae), .val (.ref bb), .unset, .unset, .unset, .unset, .unset, .unset, .unset, .unset, .unset, .unset, .unset, .unset, .unset, .unset, .unset, .unset] [(.int d22), (.int (10 : Int32)), (.ref bb)])) rfl rfl (hb hby at_113)
  have sz23 := Nat.le_trans sz21 (Keep.of_wr W23).1
  have N23 := Fr.snoc X23 N22 fr_bb
  refine own_st st23 ?_
  show own_Go p e below s _ _ _ (T23.setTop (mkF m 114 #[.val (.long ax), .second, .val (.long ay), .second, .val (.int aa), .val (.int ab), .val (.int ac), .val (.int ae), .val (.ref bb), .unset, .unset, .unset, .unset, .unset, .unset, .unset, .unset, .unset, .unset, .unset, .unset, .unset, .unset, .unset, .unset] []))
  obtain ⟨f11, hf11, Vbb_23⟩ : ∃ f : Nat → Int32, (∀ t, t < 11 → own_dg (f t)) ∧ own_Av Z h23 bb .byte 20 (fun t => .int (f t)) := ⟨_, own_next hf10 (by rw [own_nb hd22]; exact hd22), Vbb_23⟩
  show own_Go p e below s _ _ _ (T23.setTop (mkF m 114 #[.val (.long ax), .second, .val (.long ay), .second, .val (.int aa), .val (.int ab), .val (.int ac), .val (.int ae), .val (.ref bb), .unset, .unset, .unset, .unset, .unset, .unset, .unset, .unset, .unset, .unset, .unset, .unset, .unset, .unset, .unset, .unset] []))
  refine own_st (fun _ kont => XS.aload X23.here hx rfl (hb hby at_114) rfl rfl kont) ?_
  show own_Go p e below s _ _ _ (T23.setTop (mkF m 116 #[.val (.long ax), .second, .val (.long ay), .second, .val (.int aa), .val (.int ab), .val (.int ac), .val (.int ae), .val (.ref bb), .unset, .unset, .unset, .unset, .unset, .unset, .unset, .unset, .unset, .unset, .unset, .unset, .unset, .unset, .unset, .unset] [(.ref bb)]))
  refine own_st (fun _ kont => XS.bipush X23.here hx rfl (hb hby at_116) kont) ?_
  show own_Go p e below s _ _ _ (T23.setTop (mkF m 118 #[.val (.long ax), .second, .val (.long ay), .second, .val (.int aa), .val (.int ab), .val (.int ac), .val (.int ae), .val (.ref bb), .unset, .unset, .unset, .unset, .unset, .unset, .unset, .unset, .unset, .unset, .unset, .unset, .unset, .unset, .unset, .unset] [(.int (11 : Int32)), (.ref bb)]))
  refine own_st (fun _ kont => XS.lloadN X23.here hx rfl (hb hby at_118) rfl kont) ?_
  show own_Go p e below s _ _ _ (T23.setTop (mkF m 119 #[.val (.long ax), .second, .val (.long ay), .second, .val (.int aa), .val (.int ab), .val (.int ac), .val (.int ae), .val (.ref bb), .unset, .unset, .unset, .unset, .unset, .unset, .unset, .unset, .unset, .unset, .unset, .unset, .unset, .unset, .unset, .unset] [(.long ay), (.int (11 : Int32)), (.ref bb)]))
  refine own_st (fun _ kont => XS.iconst X23.here hx rfl (hb hby at_119) kont) ?_
  show own_Go p e below s _ _ _ (T23.setTop (mkF m 120 #[.val (.long ax), .second, .val (.long ay), .second, .val (.int aa), .val (.int ab), .val (.int ac), .val (.int ae), .val (.ref bb), .unset, .unset, .unset, .unset, .unset, .unset, .unset, .unset, .unset, .unset, .unset, .unset, .unset, .unset, .unset, .unset] [(.int (1 : Int32)), (.long ay), (.int (11 : Int32)), (.ref bb)]))
  refine own_cS X23 hx hml hZ hown (hw _ (List.mem_of_getElem? (i := 1) rfl)) (hw _ (List.mem_of_getElem? (i := 2) rfl)) (hw _ (List.mem_of_getElem? (i := 3) rfl)) (hw _ (List.mem_of_getElem? (i := 4) rfl)) (by decide) (own_rm2 l Z a0 hw ay (1 : Int32) h23 n0 sz23) e23 (by decide) (W := 2) (by decide) (g := (mkF m 120 #[.val (.long ax), .second, .val (.long ay), .second, .val (.int aa), .val (.int ab), .val (.int ac), .val (.int ae), .val (.ref bb), .unset, .unset, .unset, .unset, .unset, .unset, .unset, .unset, .unset, .unset, .unset, .unset, .unset, .unset, .unset, .unset] [(.int (1 : Int32)), (.long ay), (.int (11 : Int32)), (.ref bb)])) rfl rfl own_pd0 (argsL := [(.long ay), (.int (1 : Int32))]) (rest := [(.int (11 : Int32)), (.ref bb)]) rfl rfl rfl (by show 2 * 0 + _ ≤ _; exact Nat.le_of_eq rfl) (hb hby at_120) (by decide) (by decide) ?_
  intro T24 L24 v24 X24 hQ24
  obtain ⟨⟨d24, rfl, hd24⟩, eh24, le24⟩ := hQ24
  have N24 := own_nil N23 le24
  show own_Go p e below s _ _ _ (T24.setTop (mkF m 123 #[.val (.long ax), .second, .val (.long ay), .second, .val (.int aa), .val (.int ab), .val (.int ac), .val (.int ae), .val (.ref bb), .unset, .unset, .unset, .unset, .unset, .unset, .unset, .unset, .unset, .unset, .unset, .unset, .unset, .unset, .unset, .unset] [(.int d24), (.int (11 : Int32)), (.ref bb)]))
  obtain ⟨T25, h25, X25, e25, W25, Vbb_25, st25⟩ := own_stB X24 hx hZ eh24 Vbb_23 (i := 11) (by decide) (by decide) (g := (mkF m 123 #[.val (.long ax), .second, .val (.long ay), .second, .val (.int aa), .val (.int ab), .val (.int ac), .val (.int ae), .val (.ref bb), .unset, .unset, .unset, .unset, .unset, .unset, .unset, .unset, .unset, .unset, .unset, .unset, .unset, .unset, .unset, .unset] [(.int d24), (.int (11 : Int32)), (.ref bb)])) rfl rfl (hb hby at_123)
  have sz25 := Nat.le_trans sz23 (Keep.of_wr W25).1
  have N25 := Fr.snoc X25 N24 fr_bb
  refine own_st st25 ?_
  show own_Go p e below s _ _ _ (T25.setTop (mkF m 124 #[.val (.long ax), .second, .val (.long ay), .second, .val (.int aa), .val (.int ab), .val (.int ac), .val (.int ae), .val (.ref bb), .unset, .unset, .unset, .unset, .unset, .unset, .unset, .unset, .unset, .unset, .unset, .unset, .unset, .unset, .unset, .unset] []))
  obtain ⟨f12, hf12, Vbb_25⟩ : ∃ f : Nat → Int32, (∀ t, t < 12 → own_dg (f t)) ∧ own_Av Z h25 bb .byte 20 (fun t => .int (f t)) := ⟨_, own_next hf11 (by rw [own_nb hd24]; exact hd24), Vbb_25⟩
  show own_Go p e below s _ _ _ (T25.setTop (mkF m 124 #[.val (.long ax), .second, .val (.long ay), .second, .val (.int aa), .val (.int ab), .val (.int ac), .val (.int ae), .val (.ref bb), .unset, .unset, .unset, .unset, .unset, .unset, .unset, .unset, .unset, .unset, .unset, .unset, .unset, .unset, .unset, .unset] []))
  refine own_st (fun _ kont => XS.aload X25.here hx rfl (hb hby at_124) rfl rfl kont) ?_
  show own_Go p e below s _ _ _ (T25.setTop (mkF m 126 #[.val (.long ax), .second, .val (.long ay), .second, .val (.int aa), .val (.int ab), .val (.int ac), .val (.int ae), .val (.ref bb), .unset, .unset, .unset, .unset, .unset, .unset, .unset, .unset, .unset, .unset, .unset, .unset, .unset, .unset, .unset, .unset] [(.ref bb)]))
  refine own_st (fun _ kont => XS.bipush X25.here hx rfl (hb hby at_126) kont) ?_
  show own_Go p e below s _ _ _ (T25.setTop (mkF m 128 #[.val (.long ax), .second, .val (.long ay), .second, .val (.int aa), .val (.int ab), .val (.int ac), .val (.int ae), .val (.ref bb), .unset, .unset, .unset, .unset, .unset, .unset, .unset, .unset, .unset, .unset, .unset, .unset, .unset, .unset, .unset, .unset] [(.int (12 : Int32)), (.ref bb)]))
  refine own_st (fun _ kont => XS.lloadN X25.here hx rfl (hb hby at_128) rfl kont) ?_
  show own_Go p e below s _ _ _ (T25.setTop (mkF m 129 #[.val (.long ax), .second, .val (.long ay), .second, .val (.int aa), .val (.int ab), .val (.int ac), .val (.int ae), .val (.ref bb), .unset, .unset, .unset, .unset, .unset, .unset, .unset, .unset, .unset, .unset, .unset, .unset, .unset, .unset, .unset, .unset] [(.long ay), (.int (12 : Int32)), (.ref bb)]))
  refine own_st (fun _ kont => XS.iconst X25.here hx rfl (hb hby at_129) kont) ?_
  show own_Go p e below s _ _ _ (T25.setTop (mkF m 130 #[.val (.long ax), .second, .val (.long ay), .second, .val (.int aa), .val (.int ab), .val (.int ac), .val (.int ae), .val (.ref bb), .unset, .unset, .unset, .unset, .unset, .unset, .unset, .unset, .unset, .unset, .unset, .unset, .unset, .unset, .unset, .unset] [(.int (2 : Int32)), (.long ay), (.int (12 : Int32)), (.ref bb)]))
  refine own_cS X25 hx hml hZ hown (hw _ (List.mem_of_getElem? (i := 1) rfl)) (hw _ (List.mem_of_getElem? (i := 2) rfl)) (hw _ (List.mem_of_getElem? (i := 3) rfl)) (hw _ (List.mem_of_getElem? (i := 4) rfl)) (by decide) (own_rm2 l Z a0 hw ay (2 : Int32) h25 n0 sz25) e25 (by decide) (W := 2) (by decide) (g := (mkF m 130 #[.val (.long ax), .second, .val (.long ay), .second, .val (.int aa), .val (.int ab), .val (.int ac), .val (.int ae), .val (.ref bb), .unset, .unset, .unset, .unset, .unset, .unset, .unset, .unset, .unset, .unset, .unset, .unset, .unset, .unset, .unset, .unset] [(.int (2 : Int32)), (.long ay), (.int (12 : Int32)), (.ref bb)])) rfl rfl own_pd0 (argsL := [(.long ay), (.int (2 : Int32))]) (rest := [(.int (12 : Int32)), (.ref bb)]) rfl rfl rfl (by show 2 * 0 + _ ≤ _; exact Nat.le_of_eq rfl) (hb hby at_130) (by decide) (by decide) ?_
  intro T26 L26 v26 X26 hQ26
  obtain ⟨⟨d26, rfl, hd26⟩, eh26, le26⟩ := hQ26
  have N26 := own_nil N25 le26
  show own_Go p e below s _ _ _ (T26.setTop (mkF m 133 #[.val (.long ax), .second, .val (.long ay), .second, .val (.int aa), .val (.int ab), .val (.int ac), .val (.int ae), .val (.ref bb), .unset, .unset, .unset, .unset, .unset, .unset, .unset, .unset, .unset, .unset, .unset, .unset, .unset, .unset, .unset, .unset] [(.int d26), (.int (12 : Int32)), (.ref bb)]))
  obtain ⟨T27, h27, X27, e27, W27, Vbb_27, st27⟩ := own_stB X26 hx hZ eh26 Vbb_25 (i := 12) (by decide) (by decide) (g := (mkF m 133 #[.val (.long ax), .second, .val (.long ay), .second, .val (.int aa), .val (.int ab), .val (.int ac), .val (.int ae), .val (.ref bb), .unset, .unset, .unset, .unset, .unset, .unset, .unset, .unset, .unset, .unset, .unset, .unset, .unset, .unset, .unset, .unset] [(.int d26), (.int (12 : Int32)), (.ref bb)])) rfl rfl (hb hby at_133)
  have sz27 := Nat.le_trans sz25 (Keep.of_wr W27).1
  have N27 := Fr.snoc X27 N26 fr_bb
  refine own_st st27 ?_
  show own_Go p e below s _ _ _ (T27.setTop (mkF m 134 #[.val (.long ax), .second, .val (.long ay), .second, .val (.int aa), .val (.int ab), .val (.int ac), .val (.int ae), .val (.ref bb), .unset, .unset, .unset, .unset, .unset, .unset, .unset, .unset, .unset, .unset, .unset, .unset, .unset, .unset, .unset, .unset] []))
  obtain ⟨f13, hf13, Vbb_27⟩ : ∃ f : Nat → Int32, (∀ t, t < 13 → own_dg (f t)) ∧ own_Av Z h27 bb .byte 20 (fun t => .int (f t)) := ⟨_, own_next hf12 (by rw [own_nb hd26]; exact hd26), Vbb_27⟩
  show own_Go p e below s _ _ _ (T27.setTop (mkF m 134 #[.val (.long ax), .second, .val (.long ay), .second, .val (.int aa), .val (.int ab), .val (.int ac), .val (.int ae), .val (.ref bb), .unset, .unset, .unset, .unset, .unset, .unset, .unset, .unset, .unset, .unset, .unset, .unset, .unset, .unset, .unset, .unset] []))
  refine own_st (fun _ kont => XS.aload X27.here hx rfl (hb hby at_134) rfl rfl kont) ?_
  show own_Go p e below s _ _ _ (T27.setTop (mkF m 136 #[.val (.long ax), .second, .val (.long ay), .second, .val (.int aa), .val (.int ab), .val (.int ac), .val (.int ae), .val (.ref bb), .unset, .unset, .unset, .unset, .unset, .unset, .unset, .unset, .unset, .unset, .unset, .unset, .unset, .unset, .unset, .unset] [(.ref bb)]))
  refine own_st (fun _ kont => XS.bipush X27.here hx rfl (hb hby at_136) kont) ?_
  show own_Go p e below s _ _ _ (T27.setTop (mkF m 138 #[.val (.long ax), .second, .val (.long ay), .second, .val (.int aa), .val (.int ab), .val (.int ac), .val (.int ae), .val (.ref bb), .unset, .unset, .unset, .unset, .unset, .unset, .unset, .unset, .unset, .unset, .unset, .unset, .unset, .unset, .unset, .unset] [(.int (13 : Int32)), (.ref bb)]))
  refine own_st (fun _ kont => XS.lloadN X27.here hx rfl (hb hby at_138) rfl kont) ?_
  show own_Go p e below s _ _ _ (T27.setTop (mkF m 139 #[.val (.long ax), .second, .val (.long ay), .second, .val (.int aa), .val (.int ab), .val (.int ac), .val (.int ae), .val (.ref bb), .unset, .unset, .unset, .unset, .unset, .unset, .unset, .unset, .unset, .unset, .unset, .unset, .unset, .unset, .unset, .unset] [(.long ay), (.int (13 : Int32)), (.ref bb)]))
  refine own_st (fun _ kont => XS.iconst X27.here hx rfl (hb hby at_139) kont) ?_
  show own_Go p e below s _ _ _ (T27.setTop (mkF m 140 #[.val (.long ax), .second, .val (.long ay), .second, .val (.int aa), .val (.int ab), .val (.int ac), .val (.int ae), .val (.ref bb), .unset, .unset, .unset, .unset, .unset, .unset, .unset, .unset, .unset, .unset, .unset, .unset, .unset, .unset, .unset, .unset] [(.int (3 : Int32)), (.long ay), (.int (13 : Int32)), (.ref bb)]))
  refine own_cS X27 hx hml hZ hown (hw _ (List.mem_of_getElem? (i := 1) rfl)) (hw _ (List.mem_of_getElem? (i := 2) rfl)) (hw _ (List.mem_of_getElem? (i := 3) rfl)) (hw _ (List.mem_of_getElem? (i := 4) rfl)) (by decide) (own_rm2 l Z a0 hw ay (3 : Int32) h27 n0 sz27) e27 (by decide) (W := 2) (by decide) (g := (mkF m 140 #[.val (.long ax), .second, .val (.long ay), .second, .val (.int aa), .val (.int ab), .val (.int ac), .val (.int ae), .val (.ref bb), .unset, .unset, .unset, .unset, .unset, .unset, .unset, .unset, .unset, .unset, .unset, .unset, .unset, .unset, .unset, .unset] [(.int (3 : Int32)), (.long ay), (.int (13 : Int32)), (.ref bb)])) rfl rfl own_pd0 (argsL := [(.long ay), (.int (3 : Int32))]) (rest := [(.int (13 : Int32)), (.ref bb)]) rfl rfl rfl (by show 2 * 0 + _ ≤ _; exact Nat.le_of_eq rfl) (hb hby at_140) (by decide) (by decide) ?_
  intro T28 L28 v28 X28 hQ28
  obtain ⟨⟨d28, rfl, hd28⟩, eh28, le28⟩ := hQ28
  have N28 := own_nil N27 le28
  show own_Go p e below s _ _ _ (T28.setTop (mkF m 143 #[.val (.long ax), .second, .val (.long ay), .second, .val (.int aa), .val (.int ab), .val (.int ac), .val (.int ae), .val (.ref bb), .unset, .unset, .unset, .unset, .unset, .unset, .unset, .unset, .unset, .unset, .unset, .unset, .unset, .unset, .unset, .unset] [(.int d28), (.int (13 : Int32)), (.ref bb)]))
  obtain ⟨T29, h29, X29, e29, W29, Vbb_29, st29⟩ := own_stB X28 hx hZ eh28 Vbb_27 (i := 13) (by decide) (by decide) (g := (mkF m 143 #[.val (.long ax), .second, .val (.long ay), .second, .val (.int aa), .val (.int ab), .val (.int ac), .val (.int ae), .val (.ref bb), .unset, .unset, .unset, .unset, .unset, .unset, .unset, .unset, .unset, .unset, .unset, .unset, .unset, .unset, .unset, .unset] [(.int d28), (.int (13 : Int32)), (.ref bb)])) rfl rfl (hb hby at_143)
  have sz29 := Nat.le_trans sz27 (Keep.of_wr W29).1
  have N29 := Fr.snoc X29 N28 fr_bb
  refine own_st st29 ?_
  show own_Go p e below s _ _ _ (T29.setTop (mkF m 144 #[.val (.long ax), .second, .val (.long ay), .second, .val (.int aa), .val (.int ab), .val (.int ac), .val (.int ae), .val (.ref bb), .unset, .unset, .unset, .unset, .unset, .unset, .unset, .unset, .unset, .unset, .unset, .unset, .unset, .unset, .unset, .unset] []))
  obtain ⟨f14, hf14, Vbb_29⟩ : ∃ f : Nat → Int32, (∀ t, t < 14 → own_dg (f t)) ∧ own_Av Z h29 bb .byte 20 (fun t => .int (f t)) := ⟨_, own_next hf13 (by rw [own_nb hd28]; exact hd28), Vbb_29⟩
  show own_Go p e below s _ _ _ (T29.setTop (mkF m 144 #[.val (.long ax), .second, .val (.long ay), .second, .val (.int aa), .val (.int ab), .val (.int ac), .val (.int ae), .val (.ref bb), .unset, .unset, .unset, .unset, .unset, .unset, .unset, .unset, .unset, .unset, .unset, .unset, .unset, .unset, .unset, .unset] []))
  refine own_st (fun _ kont => XS.aload X29.here hx rfl (hb hby at_144) rfl rfl kont) ?_
  show own_Go p e below s _ _ _ (T29.setTop (mkF m 146 #[.val (.long ax), .second, .val (.long ay), .second, .val (.int aa), .val (.int ab), .val (.int ac), .val (.int ae), .val (.ref bb), .unset, .unset, .unset, .unset, .unset, .unset, .unset, .unset, .unset, .unset, .unset, .unset, .unset, .unset, .unset, .unset] [(.ref bb)]))
  refine own_st (fun _ kont => XS.bipush X29.here hx rfl (hb hby at_146) kont) ?_
  show own_Go p e below s _ _ _ (T29.setTop (mkF m 148 #[.val (.long ax), .second, .val (.long ay), .second, .val (.int aa), .val (.int ab), .val (.int ac), .val (.int ae), .val (.ref bb), .unset, .unset, .unset, .unset, .unset, .unset, .unset, .unset, .unset, .unset, .unset, .unset, .unset, .unset, .unset, .unset] [(.int (14 : Int32)), (.ref bb)]))
  refine own_st (fun _ kont => XS.lloadN X29.here hx rfl (hb hby at_148) rfl kont) ?_
  show own_Go p e below s _ _ _ (T29.setTop (mkF m 149 #[.val (.long ax), .second, .val (.long ay), .second, .val (.int aa), .val (.int ab), .val (.int ac), .val (.int ae), .val (.ref bb), .unset, .unset, .unset, .unset, .unset, .unset, .unset, .unset, .unset, .unset, .unset, .unset, .unset, .unset, .unset, .unset] [(.long ay), (.int (14 : Int32)), (.ref bb)]))
  refine own_st (fun _ kont => XS.iconst X29.here hx rfl (hb hby at_149) kont) ?_
  show own_Go p e below s _ _ _ (T29.setTop (mkF m 150 #[.val (.long ax), .second, .val (.long ay), .second, .val (.int aa), .val (.int ab), .val (.int ac), .val (.int ae), .val (.ref bb), .unset, .unset, .unset, .unset, .unset, .unset, .unset, .unset, .unset, .unset, .unset, .unset, .unset, .unset, .unset, .unset] [(.int (4 : Int32)), (.long ay), (.int (14 : Int32)), (.ref bb)]))
  refine own_cS X29 hx hml hZ hown (hw _ (List.mem_of_getElem? (i := 1) rfl)) (hw _ (List.mem_of_getElem? (i := 2) rfl)) (hw _ (List.mem_of_getElem? (i := 3) rfl)) (hw _ (List.mem_of_getElem? (i := 4) rfl)) (by decide) (own_rm2 l Z a0 hw ay (4 : Int32) h29 n0 sz29) e29 (by decide) (W := 2) (by decide) (g := (mkF m 150 #[.val (.long ax), .second, .val (.long ay), .second, .val (.int aa), .val (.int ab), .val (.int ac), .val (.int ae), .val (.ref bb), .unset, .unset, .unset, .unset, .unset, .unset, .unset, .unset, .unset, .unset, .unset, .unset, .unset, .unset, .unset, .unset] [(.int (4 : Int32)), (.long ay), (.int (14 : Int32)), (.ref bb)])) rfl rfl own_pd0 (argsL := [(.long ay), (.int (4 : Int32))]) (rest := [(.int (14 : Int32)), (.ref bb)]) rfl rfl rfl (by show 2 * 0 + _ ≤ _; exact Nat.le_of_eq rfl) (hb hby at_150) (by decide) (by decide) ?_
  intro T30 L30 v30 X30 hQ30
  obtain ⟨⟨d30, rfl, hd30⟩, eh30, le30⟩ := hQ30
  have N30 := own_nil N29 le30
  show own_Go p e below s _ _ _ (T30.setTop (mkF m 153 #[.val (.long ax), .second, .val (.long ay), .second, .val (.int aa), .val (.int ab), .val (.int ac), .val (.int ae), .val (.ref bb), .unset, .unset, .unset, .unset, .unset, .unset, .unset, .unset, .unset, .unset, .unset, .unset, .unset, .unset, .unset, .unset] [(.int d30), (.int (14 : Int32)), (.ref bb)]))
  obtain ⟨T31, h31, X31, e31, W31, Vbb_31, st31⟩ := own_stB X30 hx hZ eh30 Vbb_29 (i := 14) (by decide) (by decide) (g := (mkF m 153 #[.val (.long ax), .second, .val (.long ay), .second, .val (.int aa), .val (.int ab), .val (.int ac), .val (.int ae), .val (.ref bb), .unset, .unset, .unset, .unset, .unset, .unset, .unset, .unset, .unset, .unset, .unset, .unset, .unset, .unset, .unset, .unset] [(.int d30), (.int (14 : Int32)), (.ref bb)])) rfl rfl (hb hby at_153)
  have sz31 := Nat.le_trans sz29 (Keep.of_wr W31).1
  have N31 := Fr.snoc X31 N30 fr_bb
  refine own_st st31 ?_
  show own_Go p e below s _ _ _ (T31.setTop (mkF m 154 #[.val (.long ax), .second, .val (.long ay), .second, .val (.int aa), .val (.int ab), .val (.int ac), .val (.int ae), .val (.ref bb), .unset, .unset, .unset, .unset, .unset, .unset, .unset, .unset, .unset, .unset, .unset, .unset, .unset, .unset, .unset, .unset] []))
  obtain ⟨f15, hf15, Vbb_31⟩ : ∃ f : Nat → Int32, (∀ t, t < 15 → own_dg (f t)) ∧ own_Av Z h31 bb .byte 20 (fun t => .int (f t)) := ⟨_, own_next hf14 (by rw [own_nb hd30]; exact hd30), Vbb_31⟩
  show own_Go p e below s _ _ _ (T31.setTop (mkF m 154 #[.val (.long ax), .second, .val (.long ay), .second, .val (.int aa), .val (.int ab), .val (.int ac), .val (.int ae), .val (.ref bb), .unset, .unset, .unset, .unset, .unset, .unset, .unset, .unset, .unset, .unset, .unset, .unset, .unset, .unset, .unset, .unset] []))
  refine own_st (fun _ kont => XS.aload X31.here hx rfl (hb hby at_154) rfl rfl kont) ?_
  show own_Go p e below s _ _ _ (T31.setTop (mkF m 156 #[.val (.long ax), .second, .val (.long ay), .second, .val (.int aa), .val (.int ab), .val (.int ac), .val (.int ae), .val (.ref bb), .unset, .unset, .unset, .unset, .unset, .unset, .unset, .unset, .unset, .unset, .unset, .unset, .unset, .unset, .unset, .unset] [(.ref bb)]))
  refine own_st (fun _ kont => XS.bipush X31.here hx rfl (hb hby at_156) kont) ?_
  show own_Go p e below s _ _ _ (T31.setTop (mkF m 158 #[.val (.long ax), .second, .val (.long ay), .second, .val (.int aa), .val (.int ab), .val (.int ac), .val (.int ae), .val (.ref bb), .unset, .unset, .unset, .unset, .unset, .unset, .unset, .unset, .unset, .unset, .unset, .unset, .unset, .unset, .unset, .unset] [(.int (15 : Int32)), (.ref bb)]))
  refine own_st (fun _ kont => XS.lloadN X31.here hx rfl (hb hby at_158) rfl kont) ?_
  show own_Go p e below s _ _ _ (T31.setTop (mkF m 159 #[.val (.long ax), .second, .val (.long ay), .second, .val (.int aa), .val (.int ab), .val (.int ac), .val (.int ae), .val (.ref bb), .unset, .unset, .unset, .unset, .unset, .unset, .unset, .unset, .unset, .unset, .unset, .unset, .unset, .unset, .unset, .unset] [(.long ay), (.int (15 : Int32)), (.ref bb)]))
  refine own_st (fun _ kont => XS.iconst X31.here hx rfl (hb hby at_159) kont) ?_
  show own_Go p e below s _ _ _ (T31.setTop (mkF m 160 #[.val (.long ax), .second, .val (.long ay), .second, .val (.int aa), .val (.int ab), .val (.int ac), .val (.int ae), .val (.ref bb), .unset, .unset, .unset, .unset, .unset, .unset, .unset, .unset, .unset, .unset, .unset, .unset, .unset, .unset, .unset, .unset] [(.int (5 : Int32)), (.long ay), (.int (15 : Int32)), (.ref bb)]))
  refine own_cS X31 hx hml hZ hown (hw _ (List.mem_of_getElem? (i := 1) rfl)) (hw _ (List.mem_of_getElem? (i := 2) rfl)) (hw _ (List.mem_of_getElem? (i := 3) rfl)) (hw _ (List.mem_of_getElem? (i := 4) rfl)) (by decide) (own_rm2 l Z a0 hw ay (5 : Int32) h31 n0 sz31) e31 (by decide) (W := 2) (by decide) (g := (mkF m 160 #[.val (.long ax), .second, .val (.long ay), .second, .val (.int aa), .val (.int ab), .val (.int ac), .val (.int ae), .val (.ref bb), .unset, .unset, .unset, .unset, .unset, .unset, .unset, .unset, .unset, .unset, .unset, .unset, .unset, .unset, .unset, .unset] [(.int (5 : Int32)), (.long ay), (.int (15 : Int32)), (.ref bb)])) rfl rfl own_pd0 (argsL := [(.long ay), (.int (5 : Int32))]) (rest := [(.int (15 : Int32)), (.ref bb)]) rfl rfl rfl (by show 2 * 0 + _ ≤ _; exact Nat.le_of_eq rfl) (hb hby at_160) (by decide) (by decide) ?_
  intro T32 L32 v32 X32 hQ32
  obtain ⟨⟨d32, rfl, hd32⟩, eh32, le32⟩ := hQ32
  have N32 := own_nil N31 le32
  show own_Go p e below s _ _ _ (T32.setTop (mkF m 163 #[.val (.long ax), .second, .val (.long ay), .second, .val (.int aa), .val (.int ab), .val (.int ac), .val (.int ae), .val (.ref bb), .unset, .unset, .unset, .unset, .unset, .unset, .unset, .unset, .unset, .unset, .unset, .unset, .unset, .unset, .unset, .unset] [(.int d32), (.int (15 : Int32)), (.ref bb)]))
  obtain ⟨T33, h33, X33, e33, W33, Vbb_33, st33⟩ := own_stB X32 hx hZ eh32 Vbb_31 (i := 15) (by decide) (by decide) (g := (mkF m 163 #[.val (.long ax), .second, .val (.long ay), .second, .val (.int aa), .val (.int ab), .val (.int ac), .val (.int ae), .val (.ref bb), .unset, .unset, .unset, .unset, .unset, .unset, .unset, .unset, .unset, .unset, .unset, .unset, .unset, .unset, .unset, .unset] [(.int d32), (.int (15 : Int32)), (.ref bb)])) rfl rfl (hb hby at_163)
  have sz33 := Nat.le_trans sz31 (Keep.of_wr W33).1
  have N33 := Fr.snoc X33 N32 fr_bb
  refine own_st st33 ?_
  show own_Go p e below s _ _ _ (T33.setTop (mkF m 164 #[.val (.long ax), .second, .val (.long ay), .second, .val (.int aa), .val (.int ab), .val (.int ac), .val (.int ae), .val (.ref bb), .unset, .unset, .unset, .unset, .unset, .unset, .unset, .unset, .unset, .unset, .unset, .unset, .unset, .unset, .unset, .unset] []))
  obtain ⟨f16, hf16, Vbb_33⟩ : ∃ f : Nat → Int32, (∀ t, t < 16 → own_dg (f t)) ∧ own_Av Z h33 bb .byte 20 (fun t => .int (f t)) := ⟨_, own_next hf15 (by rw [own_nb hd32]; exact hd32), Vbb_33⟩
  show own_Go p e below s _ _ _ (T33.setTop (mkF m 164 #[.val (.long ax), .second, .val (.long ay), .second, .val (.int aa), .val (.int ab), .val (.int ac), .val (.int ae), .val (.ref bb), .unset, .unset, .unset, .unset, .unset, .unset, .unset, .unset, .unset, .unset, .unset, .unset, .unset, .unset, .unset, .unset] []))
  refine own_st (fun _ kont => XS.aload X33.here hx rfl (hb hby at_164) rfl rfl kont) ?_
  show own_Go p e below s _ _ _ (T33.setTop (mkF m 166 #[.val (.long ax), .second, .val (.long ay), .second, .val (.int aa), .val (.int ab), .val (.int ac), .val (.int ae), .val (.ref bb), .unset, .unset, .unset, .unset, .unset, .unset, .unset, .unset, .unset, .unset, .unset, .unset, .unset, .unset, .unset, .unset] [(.ref bb)]))
  refine own_st (fun _ kont => XS.bipush X33.here hx rfl (hb hby at_166) kont) ?_
  show own_Go p e below s _ _ _ (T33.setTop (mkF m 168 #[.val (.long ax), .second, .val (.long ay), .second, .val (.int aa), .val (.int ab), .val (.int ac), .val (.int ae), .val (.ref bb), .unset, .unset, .unset, .unset, .unset, .unset, .unset, .unset, .unset, .unset, .unset, .unset, .unset, .unset, .unset, .unset] [(.int (16 : Int32)), (.ref bb)]))
  refine own_st (fun _ kont => XS.lloadN X33.here hx rfl (hb hby at_168) rfl kont) ?_
  show own_Go p e below s _ _ _ (T33.setTop (mkF m 169 #[.val (.long ax), .second, .val (.long ay), .second, .val (.int aa), .val (.int ab), .val (.int ac), .val (.int ae), .val (.ref bb), .unset, .unset, .unset, .unset, .unset, .unset, .unset, .unset, .unset, .unset, .unset, .unset, .unset, .unset, .unset, .unset] [(.long ay), (.int (16 : Int32)), (.ref bb)]))
  refine own_st (fun _ kont => XS.bipush X33.here hx rfl (hb hby at_169) kont) ?_
  show own_Go p e below s _ _ _ (T33.setTop (mkF m 171 #[.val (.long ax), .second, .val (.long ay), .second, .val (.int aa), .val (.int ab), .val (.int ac), .val (.int ae), .val (.ref bb), .unset, .unset, .unset, .unset, .unset, .unset, .unset, .unset, .unset, .unset, .unset, .unset, .unset, .unset, .unset, .unset] [(.int (6 : Int32)), (.long ay), (.int (16 : Int32)), (.ref bb)]))
  refine own_cS X33 hx hml hZ hown (hw _ (List.mem_of_getElem? (i := 1) rfl)) (hw _ (List.mem_of_getElem? (i := 2) rfl)) (hw _ (List.mem_of_getElem? (i := 3) rfl)) (hw _ (List.mem_of_getElem? (i := 4) rfl)) (by decide) (own_rm2 l Z a0 hw ay (6 : Int32) h33 n0 sz33) e33 (by decide) (W := 2) (by decide) (g := (mkF m 171 #[.val (.long ax), .second, .val (.long ay), .second, .val (.int aa), .val (.int ab), .val (.int ac), .val (.int ae), .val (.ref bb), .unset, .unset, .unset, .unset, .unset, .unset, .unset, .unset, .unset, .unset, .unset, .unset, .unset, .unset, .unset, .unset] [(.int (6 : Int32)), (.long ay), (.int (16 : Int32)), (.ref bb)])) rfl rfl own_pd0 (argsL := [(.long ay), (.int (6 : Int32))]) (rest := [(.int (16 : Int32)), (.ref bb)]) rfl rfl rfl (by show 2 * 0 + _ ≤ _; exact Nat.le_of_eq rfl) (hb hby at_171) (by decide) (by decide) ?_
  intro T34 L34 v34 X34 hQ34
  obtain ⟨⟨d34, rfl, hd34⟩, eh34, le34⟩ := hQ34
  have N34 := own_nil N33 le34
  show own_Go p e below s _ _ _ (T34.setTop (mkF m 174 #[.val (.long ax), .second, .val (.long ay), .second, .val (.int aa), .val (.int ab), .val (.int ac), .val (.int ae), .val (.ref bb), .unset, .unset, .unset, .unset, .unset, .unset, .unset, .unset, .unset, .unset, .unset, .unset, .unset, .unset, .unset, .unset] [(.int d34), (.int (16 : Int32)), (.ref bb)]))
  obtain ⟨T35, h35, X35, e35, W35, Vbb_35, st35⟩ := own_stB X34 hx hZ eh34 Vbb_33 (i := 16) (by decide) (by decide) (g := (mkF m 174 #[.val (.long ax), .second, .val (.long ay), .second, .val (.int aa), .val (.int ab), .val (.int ac), .val (.int ae), .val (.ref bb), .unset, .unset, .unset, .unset, .unset, .unset, .unset, .unset, .unset, .unset, .unset, .unset, .unset, .unset, .unset, .unset] [(.int d34), (.int (16 : Int32)), (.ref bb)])) rfl rfl (hb hby at_174)
  have sz35 := Nat.le_trans sz33 (Keep.of_wr W35).1
  have N35 := Fr.snoc X35 N34 fr_bb
  refine own_st st35 ?_
  show own_Go p e below s _ _ _ (T35.setTop (mkF m 175 #[.val (.long ax), .second, .val (.long ay), .second, .val (.int aa), .val (.int ab), .val (.int ac), .val (.int ae), .val (.ref bb), .unset, .unset, .unset, .unset, .unset, .unset, .unset, .unset, .unset, .unset, .unset, .unset, .unset, .unset, .unset, .unset] []))
  obtain ⟨f17, hf17, Vbb_35⟩ : ∃ f : Nat → Int32, (∀ t, t < 17 → own_dg (f t)) ∧ own_Av Z h35 bb .byte 20 (fun t => .int (f t)) := ⟨_, own_next hf16 (by rw [own_nb hd34]; exact hd34), Vbb_35⟩
  show own_Go p e below s _ _ _ (T35.setTop (mkF m 175 #[.val (.long ax), .second, .val (.long ay), .second, .val (.int aa), .val (.int ab), .val (.int ac), .val (.int ae), .val (.ref bb), .unset, .unset, .unset, .unset, .unset, .unset, .unset, .unset, .unset, .unset, .unset, .unset, .unset, .unset, .unset, .unset] []))
  refine own_st (fun _ kont => XS.aload X35.here hx rfl (hb hby at_175) rfl rfl kont) ?_
  show own_Go p e below s _ _ _ (T35.setTop (mkF m 177 #[.val (.long ax), .second, .val (.long ay), .second, .val (.int aa), .val (.int ab), .val (.int ac), .val (.int ae), .val (.ref bb), .unset, .unset, .unset, .unset, .unset, .unset, .unset, .unset, .unset, .unset, .unset, .unset, .unset, .unset, .unset, .unset] [(.ref bb)]))
  refine own_st (fun _ kont => XS.bipush X35.here hx rfl (hb hby at_177) kont) ?_
  show own_Go p e below s _ _ _ (T35.setTop (mkF m 179 #[.val (.long ax), .second, .val (.long ay), .second, .val (.int aa), .val (.int ab), .val (.int ac), .val (.int ae), .val (.ref bb), .unset, .unset, .unset, .unset, .unset, .unset, .unset, .unset, .unset, .unset, .unset, .unset, .unset, .unset, .unset, .unset] [(.int (17 : Int32)), (.ref bb)]))
  refine own_st (fun _ kont => XS.lloadN X35.here hx rfl (hb hby at_179) rfl kont) ?_
  show own_Go p e below s _ _ _ (T35.setTop (mkF m 180 #[.val (.long ax), .second, .val (.long ay), .second, .val (.int aa), .val (.int ab), .val (.int ac), .val (.int ae), .val (.ref bb), .unset, .unset, .unset, .unset, .unset, .unset, .unset, .unset, .unset, .unset, .unset, .unset, .unset, .unset, .unset, .unset] [(.long ay), (.int (17 : Int32)), (.ref bb)]))
  refine own_st (fun _ kont => XS.bipush X35.here hx rfl (hb hby at_180) kont) ?_
  show own_Go p e below s _ _ _ (T35.setTop (mkF m 182 #[.val (.long ax), .second, .val (.long ay), .second, .val (.int aa), .val (.int ab), .val (.int ac), .val (.int ae), .val (.ref bb), .unset, .unset, .unset, .unset, .unset, .unset, .unset, .unset, .unset, .unset, .unset, .unset, .unset, .unset, .unset, .unset] [(.int (7 : Int32)), (.long ay), (.int (17 : Int32)), (.ref bb)]))
  refine own_cS X35 hx hml hZ hown (hw _ (List.mem_of_getElem? (i := 1) rfl)) (hw _ (List.mem_of_getElem? (i := 2) rfl)) (hw _ (List.mem_of_getElem? (i := 3) rfl)) (hw _ (List.mem_of_getElem? (i := 4) rfl)) (by decide) (own_rm2 l Z a0 hw ay (7 : Int32) h35 n0 sz35) e35 (by decide) (W := 2) (by decide) (g := (mkF m 182 #[.val (.long ax), .second, .val (.long ay), .second, .val (.int aa), .val (.int ab), .val (.int ac), .val (.int ae), .val (.ref bb), .unset, .unset, .unset, .unset, .unset, .unset, .unset, .unset, .unset, .unset, .unset, .unset, .unset, .unset, .unset, .unset] [(.int (7 : Int32)), (.long ay), (.int (17 : Int32)), (.ref bb)])) rfl rfl own_pd0 (argsL := [(.long ay), (.int (7 : Int32))]) (rest := [(.int (17 : Int32)), (.ref bb)]) rfl rfl rfl (by show 2 * 0 + _ ≤ _; exact Nat.le_of_eq rfl) (hb hby at_182) (by decide) (by decide) ?_
  intro T36 L36 v36 X36 hQ36
  obtain ⟨⟨d36, rfl, hd36⟩, eh36, le36⟩ := hQ36
  have N36 := own_nil N35 le36
  show own_Go p e below s _ _ _ (T36.setTop (mkF m 185 #[.val (.long ax), .second, .val (.long ay), .second, .val (.int aa), .val (.int ab), .val (.int ac), .val (.int ae), .val (.ref bb), .unset, .unset, .unset, .unset, .unset, .unset, .unset, .unset, .unset, .unset, .unset, .unset, .unset, .unset, .unset, .unset] [(.int d36), (.int (17 : Int32)), (.ref bb)]))
  obtain ⟨T37, h37, X37, e37, W37, Vbb_37, st37⟩ := own_stB X36 hx hZ eh36 Vbb_35 (i := 17) (by decide) (by decide) (g := (mkF m 185 #[.val (.long ax), .second, .val (.long ay), .second, .val (.int aa), .val (.int ab), .val (.int ac), .val (.int ae), .val (.ref bb), .unset, .unset, .unset, .unset, .unset, .unset, .unset, .unset, .unset, .unset, .unset, .unset, .unset, .unset, .unset, .unset] [(.int d36), (.int (17 : Int32)), (.ref bb)])) rfl rfl (hb hby at_185)
  have sz37 := Nat.le_trans sz35 (Keep.of_wr W37).1
  have N37 := Fr.snoc X37 N36 fr_bb
  refine own_st st37 ?_
  show own_Go p e below s _ _ _ (T37.setTop (mkF m 186 #[.val (.long ax), .second, .val (.long ay), .second, .val (.int aa), .val (.int ab), .val (.int ac), .val (.int ae), .val (.ref bb), .unset, .unset, .unset, .unset, .unset, .unset, .unset, .unset, .unset, .unset, .unset, .unset, .unset, .unset, .unset, .unset] []))
  obtain ⟨f18, hf18, Vbb_37⟩ : ∃ f : Nat → Int32, (∀ t, t < 18 → own_dg (f t)) ∧ own_Av Z h37 bb .byte 20 (fun t => .int (f t)) := ⟨_, own_next hf17 (by rw [own_nb hd36]; exact hd36), Vbb_37⟩
  show own_Go p e below s _ _ _ (T37.setTop (mkF m 186 #[.val (.long ax), .second, .val (.long ay), .second, .val (.int aa), .val (.int ab), .val (.int ac), .val (.int ae), .val (.ref bb), .unset, .unset, .unset, .unset, .unset, .unset, .unset, .unset, .unset, .unset, .unset, .unset, .unset, .unset, .unset, .unset] []))
  refine own_st (fun _ kont => XS.aload X37.here hx rfl (hb hby at_186) rfl rfl kont) ?_
  show own_Go p e below s _ _ _ (T37.setTop (mkF m 188 #[.val (.long ax), .second, .val (.long ay), .second, .val (.int aa), .val (.int ab), .val (.int ac), .val (.int ae), .val (.ref bb), .unset, .unset, .unset, .unset, .unset, .unset, .unset, .unset, .unset, .unset, .unset, .unset, .unset, .unset, .unset, .unset] [(.ref bb)]))
  refine own_st (fun _ kont => XS.bipush X37.here hx rfl (hb hby at_188) kont) ?_
  show own_Go p e below s _ _ _ (T37.setTop (mkF m 190 #[.val (.long ax), .second, .val (.long ay), .second, .val (.int aa), .val (.int ab), .val (.int ac), .val (.int ae), .val (.ref bb), .unset, .unset, .unset, .unset, .unset, .unset, .unset, .unset, .unset, .unset, .unset, .unset, .unset, .unset, .unset, .unset] [(.int (18 : Int32)), (.ref bb)]))
  refine own_st (fun _ kont => XS.lloadN X37.here hx rfl (hb hby at_190) rfl kont) ?_
  show own_Go p e below s _ _ _ (T37.setTop (mkF m 191 #[.val (.long ax), .second, .val (.long ay), .second, .val (.int aa), .val (.int ab), .val (.int ac), .val (.int ae), .val (.ref bb), .unset, .unset, .unset, .unset, .unset, .unset, .unset, .unset, .unset, .unset, .unset, .unset, .unset, .unset, .unset, .unset] [(.long ay), (.int (18 : Int32)), (.ref bb)]))
  refine own_st (fun _ kont => XS.bipush X37.here hx rfl (hb hby at_191) kont) ?_
  show own_Go p e below s _ _ _ (T37.setTop (mkF m 193 #[.val (.long ax), .second, .val (.long ay), .second, .val (.int aa), .val (.int ab), .val (.int ac), .val (.int ae), .val (.ref bb), .unset, .unset, .unset, .unset, .unset, .unset, .unset, .unset, .unset, .unset, .unset, .unset, .unset, .unset, .unset, .unset] [(.int (8 : Int32)), (.long ay), (.int (18 : Int32)), (.ref bb)]))
  refine own_cS X37 hx hml hZ hown (hw _ (List.mem_of_getElem? (i := 1) rfl)) (hw _ (List.mem_of_getElem? (i := 2) rfl)) (hw _ (List.mem_of_getElem? (i := 3) rfl)) (hw _ (List.mem_of_getElem? (i := 4) rfl)) (by decide) (own_rm2 l Z a0 hw ay (8 : Int32) h37 n0 sz37) e37 (by decide) (W := 2) (by decide) (g := (mkF m 193 #[.val (.long ax), .second, .val (.long ay), .second, .val (.int aa), .val (.int ab), .val (.int ac), .val (.int ae), .val (.ref bb), .unset, .unset, .unset, .unset, .unset, .unset, .unset, .unset, .unset, .unset, .unset, .unset, .unset, .unset, .unset, .unset] [(.int (8 : Int32)), (.long ay), (.int (18 : Int32)), (.ref bb)])) rfl rfl own_pd0 (argsL := [(.long ay), (.int (8 : Int32))]) (rest := [(.int (18 : Int32)), (.ref bb)]) rfl rfl rfl (by show 2 * 0 + _ ≤ _; exact Nat.le_of_eq rfl) (hb hby at_193) (by decide) (by decide) ?_
  intro T38 L38 v38 X38 hQ38
  obtain ⟨⟨d38, rfl, hd38⟩, eh38, le38⟩ := hQ38
  have N38 := own_nil N37 le38
  show own_Go p e below s _ _ _ (T38.setTop (mkF m 196 #[.val (.long ax), .second, .val (.long ay), .second, .val (.int aa), .val (.int ab), .val (.int ac), .val (.int ae), .val (.ref bb), .unset, .unset, .unset, .unset, .unset, .unset, .unset, .unset, .unset, .unset, .unset, .unset, .unset, .unset, .unset, .unset] [(.int d38), (.int (18 : Int32)), (.ref bb)]))
  obtain ⟨T39, h39, X39, e39, W39, Vbb_39, st39⟩ := own_stB X38 hx hZ eh38 Vbb_37 (i := 18) (by decide) (by decide) (g := (mkF m 196 #[.val (.long ax), .second, .val (.long ay), .second, .val (.int aa), .val (.int ab), .val (.int ac), .val (.int ae), .val (.ref bb), .unset, .unset, .unset, .unset, .unset, .unset, .unset, .unset, .unset, .unset, .unset, .unset, .unset, .unset, .unset, .unset] [(.int d38), (.int (18 : Int32)), (.ref bb)])) rfl rfl (hb hby at_196)
  have sz39 := Nat.le_trans sz37 (Keep.of_wr W39).1
  have N39 := Fr.snoc X39 N38 fr_bb
  refine own_st st39 ?_
  show own_Go p e below s _ _ _ (T39.setTop (mkF m 197 #[.val (.long ax), .second, .val (.long ay), .second, .val (.int aa), .val (.int ab), .val (.int ac), .val (.int ae), .val (.ref bb), .unset, .unset, .unset, .unset, .unset, .unset, .unset, .unset, .unset, .unset, .unset, .unset, .unset, .unset, .unset, .unset] []))
  obtain ⟨f19, hf19, Vbb_39⟩ : ∃ f : Nat → Int32, (∀ t, t < 19 → own_dg (f t)) ∧ own_Av Z h39 bb .byte 20 (fun t => .int (f t)) := ⟨_, own_next hf18 (by rw [own_nb hd38]; exact hd38), Vbb_39⟩
  show own_Go p e below s _ _ _ (T39.setTop (mkF m 197 #[.val (.long ax), .second, .val (.long ay), .second, .val (.int aa), .val (.int ab), .val (.int ac), .val (.int ae), .val (.ref bb), .unset, .unset, .unset, .unset, .unset, .unset, .unset, .unset, .unset, .unset, .unset, .unset, .unset, .unset, .unset, .unset] []))
  refine own_st (fun _ kont => XS.aload X39.here hx rfl (hb hby at_197) rfl rfl kont) ?_
  show own_Go p e below s _ _ _ (T39.setTop (mkF m 199 #[.val (.long ax), .second, .val (.long ay), .second, .val (.int aa), .val (.int ab), .val (.int ac), .val (.int ae), .val (.ref bb), .unset, .unset, .unset, .unset, .unset, .unset, .unset, .unset, .unset, .unset, .unset, .unset, .unset, .unset, .unset, .unset] [(.ref bb)]))
  refine own_st (fun _ kont => XS.bipush X39.here hx rfl (hb hby at_199) kont) ?_
  show own_Go p e below s _ _ _ (T39.setTop (mkF m 201 #[.val (.long ax), .second, .val (.long ay), .second, .val (.int aa), .val (.int ab), .val (.int ac), .val (.int ae), .val (.ref bb), .unset, .unset, .unset, .unset, .unset, .unset, .unset, .unset, .unset, .unset, .unset, .unset, .unset, .unset, .unset, .unset] [(.int (19 : Int32)), (.ref bb)]))
  refine own_st (fun _ kont => XS.lloadN X39.here hx rfl (hb hby at_201) rfl kont) ?_
  show own_Go p e below s _ _ _ (T39.setTop (mkF m 202 #[.val (.long ax), .second, .val (.long ay), .second, .val (.int aa), .val (.int ab), .val (.int ac), .val (.int ae), .val (.ref bb), .unset, .unset, .unset, .unset, .unset, .unset, .unset, .unset, .unset, .unset, .unset, .unset, .unset, .unset, .unset, .unset] [(.long ay), (.int (19 : Int32)), (.ref bb)]))
  refine own_st (fun _ kont => XS.bipush X39.here hx rfl (hb hby at_202) kont) ?_
  show own_Go p e below s _ _ _ (T39.setTop (mkF m 204 #[.val (.long ax), .second, .val (.long ay), .second, .val (.int aa), .val (.int ab), .val (.int ac), .val (.int ae), .val (.ref bb), .unset, .unset, .unset, .unset, .unset, .unset, .unset, .unset, .unset, .unset, .unset, .unset, .unset, .unset, .unset, .unset] [(.int (9 : Int32)), (.long ay), (.int (19 : Int32)), (.ref bb)]))
  refine own_cS X39 hx hml hZ hown (hw _ (List.mem_of_getElem? (i := 1) rfl)) (hw _ (List.mem_of_getElem? (i := 2) rfl)) (hw _ (List.mem_of_getElem? (i := 3) rfl)) (hw _ (List.mem_of_getElem? (i := 4) rfl)) (by decide) (own_rm2 l Z a0 hw ay (9 : Int32) h39 n0 sz39) e39 (by decide) (W := 2) (by decide) (g := (mkF m 204 #[.val (.long ax), .second, .val (.long ay), .second, .val (.int aa), .val (.int ab), .val (.int ac), .val (.int ae), .val (.ref bb), .unset, .unset, .unset, .unset, .unset, .unset, .unset, .unset, .unset, .unset, .unset, .unset, .unset, .unset, .unset, .unset] [(.int (9 : Int32)), (.long ay), (.int (19 : Int32)), (.ref bb)])) rfl rfl own_pd0 (argsL := [(.long ay), (.int (9 : Int32))]) (rest := [(.int (19 : Int32)), (.ref bb)]) rfl rfl rfl (by show 2 * 0 + _ ≤ _; exact Nat.le_of_eq rfl) (hb hby at_204) (by decide) (by decide) ?_
  intro T40 L40 v40 X40 hQ40
  obtain ⟨⟨d40, rfl, hd40⟩, eh40, le40⟩ := hQ40
  have N40 := own_nil N39 le40
  show own_Go p e below s _ _ _ (T40.setTop (mkF m 207 #[.val (.long ax), .second, .val (.long ay), .second, .val (.int aa), .val (.int ab), .val (.int ac), .val (.int ae), .val (.ref bb), .unset, .unset, .unset, .unset, .unset, .unset, .unset, .unset, .unset, .unset, .unset, .unset, .unset, .unset, .unset, .unset] [(.int d40), (.int (19 : Int32)), (.ref bb)]))
  obtain ⟨T41, h41, X41, e41, W41, Vbb_41, st41⟩ := own_stB X40 hx hZ eh40 Vbb_39 (i := 19) (by decide) (by decide) (g := (mkF m 207 #[.val (.long ax), .second, .val (.long ay), .second, .val (.int aa), .val (.int ab), .val (.int ac), .val (.int ae), .val (.ref bb), .unset, .unset, .unset, .unset, .unset, .unset, .unset, .unset, .unset, .unset, .unset, .unset, .unset, .unset, .unset, .unset] [(.int d40), (.int (19 : Int32)), (.ref bb)])) rfl rfl (hb hby at_207)
  have sz41 := Nat.le_trans sz39 (Keep.of_wr W41).1
  have N41 := Fr.snoc X41 N40 fr_bb
  refine own_st st41 ?_
  show own_Go p e below s _ _ _ (T41.setTop (mkF m 208 #[.val (.long ax), .second, .val (.long ay), .second, .val (.int aa), .val (.int ab), .val (.int ac), .val (.int ae), .val (.ref bb), .unset, .unset, .unset, .unset, .unset, .unset, .unset, .unset, .unset, .unset, .unset, .unset, .unset, .unset, .unset, .unset] []))
  obtain ⟨f20, hf20, Vbb_41⟩ : ∃ f : Nat → Int32, (∀ t, t < 20 → own_dg (f t)) ∧ own_Av Z h41 bb .byte 20 (fun t => .int (f t)) := ⟨_, own_next hf19 (by rw [own_nb hd40]; exact hd40), Vbb_41⟩
  show own_Go p e below s _ _ _ (T41.setTop (mkF m 208 #[.val (.long ax), .second, .val (.long ay), .second, .val (.int aa), .val (.int ab), .val (.int ac), .val (.int ae), .val (.ref bb), .unset, .unset, .unset, .unset, .unset, .unset, .unset, .unset, .unset, .unset, .unset, .unset, .unset, .unset, .unset, .unset] []))
  refine own_st (fun _ kont => XS.iload X41.here hx rfl (hb hby at_208) rfl kont) ?_
  show own_Go p e below s _ _ _ (T41.setTop (mkF m 210 #[.val (.long ax), .second, .val (.long ay), .second, .val (.int aa), .val (.int ab), .val (.int ac), .val (.int ae), .val (.ref bb), .unset, .unset, .unset, .unset, .unset, .unset, .unset, .unset, .unset, .unset, .unset, .unset, .unset, .unset, .unset, .unset] [(.int aa)]))
  refine own_st (fun _ kont => X41.ldcInt hx hown (mvT hZ (hw _ (List.mem_of_getElem? (i := 7) rfl))) (g := (mkF m 210 #[.val (.long ax), .second, .val (.long ay), .second, .val (.int aa), .val (.int ab), .val (.int ac), .val (.int ae), .val (.ref bb), .unset, .unset, .unset, .unset, .unset, .unset, .unset, .unset, .unset, .unset, .unset, .unset, .unset, .unset, .unset, .unset] [(.int aa)])) rfl (hb hby at_210) _ kont) ?_
  show own_Go p e below s _ _ _ (T41.setTop (mkF m 212 #[.val (.long ax), .second, .val (.long ay), .second, .val (.int aa), .val (.int ab), .val (.int ac), .val (.int ae), .val (.ref bb), .unset, .unset, .unset, .unset, .unset, .unset, .unset, .unset, .unset, .unset, .unset, .unset, .unset, .unset, .unset, .unset] [(.int (2147483647 : Int32)), (.int aa)]))
  refine own_st (fun _ kont => XS.iand X41.here hx rfl (hb hby at_212) rfl kont) ?_
  show own_Go p e below s _ _ _ (T41.setTop (mkF m 213 #[.val (.long ax), .second, .val (.long ay), .second, .val (.int aa), .val (.int ab), .val (.int ac), .val (.int ae), .val (.ref bb), .unset, .unset, .unset, .unset, .unset, .unset, .unset, .unset, .unset, .unset, .unset, .unset, .unset, .unset, .unset, .unset] [(.int (aa &&& (2147483647 : Int32)))]))
  refine own_st (fun _ kont => XS.bipush X41.here hx rfl (hb hby at_213) kont) ?_
  show own_Go p e below s _ _ _ (T41.setTop (mkF m 215 #[.val (.long ax), .second, .val (.long ay), .second, .val (.int aa), .val (.int ab), .val (.int ac), .val (.int ae), .val (.ref bb), .unset, .unset, .unset, .unset, .unset, .unset, .unset, .unset, .unset, .unset, .unset, .unset, .unset, .unset, .unset, .unset] [(.int (21 : Int32)), (.int (aa &&& (2147483647 : Int32)))]))
  refine own_st (fun _ kont => iremM X41 hx rfl (hb hby at_215) rfl (by decide) kont) ?_
  show own_Go p e below s _ _ _ (T41.setTop (mkF m 216 #[.val (.long ax), .second, .val (.long ay), .second, .val (.int aa), .val (.int ab), .val (.int ac), .val (.int ae), .val (.ref bb), .unset, .unset, .unset, .unset, .unset, .unset, .unset, .unset, .unset, .unset, .unset, .unset, .unset, .unset, .unset, .unset] [(.int ((aa &&& (2147483647 : Int32)) % (21 : Int32)))]))
  refine own_st (fun _ kont => XS.istore X41.here hx rfl (hb hby at_216) rfl (l' := #[.val (.long ax), .second, .val (.long ay), .second, .val (.int aa), .val (.int ab), .val (.int ac), .val (.int ae), .val (.ref bb), .val (.int ((aa &&& (2147483647 : Int32)) % (21 : Int32))), .unset, .unset, .unset, .unset, .unset, .unset, .unset, .unset, .unset, .unset, .unset, .unset, .unset, .unset, .unset]) rfl kont) ?_
  show own_Go p e below s _ _ _ (T41.setTop (mkF m 218 #[.val (.long ax), .second, .val (.long ay), .second, .val (.int aa), .val (.int ab), .val (.int ac), .val (.int ae), .val (.ref bb), .val (.int ((aa &&& (2147483647 : Int32)) % (21 : Int32))), .unset, .unset, .unset, .unset, .unset, .unset, .unset, .unset, .unset, .unset, .unset, .unset, .unset, .unset, .unset] []))
  obtain ⟨ma, hma, hla⟩ := own_mask aa (2147483647 : Int32) (k := 2147483647) (by decide)
  suffices JJ42 : ∀ (fr : Int32) (i0 : Nat) (hi : fr.toInt = (i0 : Int)) (hi20 : i0 ≤ 20), own_Go p e below s (fun v h' L => v = some (.int 1) ∧ Fr n0 L) room_1.cells room_1.slots (T41.setTop (mkF m 218 #[.val (.long ax), .second, .val (.long ay), .second, .val (.int aa), .val (.int ab), .val (.int ac), .val (.int ae), .val (.ref bb), .val (.int fr), .unset, .unset, .unset, .unset, .unset, .unset, .unset, .unset, .unset, .unset, .unset, .unset, .unset, .unset, .unset] [])) from JJ42 _ (ma % 21) (by rw [own_rem (by rw [hma]; omega) (by decide), hma]; rfl) (by omega)
  intro fr i0 hi hi20
  show own_Go p e below s _ _ _ (T41.setTop (mkF m 218 #[.val (.long ax), .second, .val (.long ay), .second, .val (.int aa), .val (.int ab), .val (.int ac), .val (.int ae), .val (.ref bb), .val (.int fr), .unset, .unset, .unset, .unset, .unset, .unset, .unset, .unset, .unset, .unset, .unset, .unset, .unset, .unset, .unset] []))
  refine own_st (fun _ kont => XS.bipush X41.here hx rfl (hb hby at_218) kont) ?_
  show own_Go p e below s _ _ _ (T41.setTop (mkF m 220 #[.val (.long ax), .second, .val (.long ay), .second, .val (.int aa), .val (.int ab), .val (.int ac), .val (.int ae), .val (.ref bb), .val (.int fr), .unset, .unset, .unset, .unset, .unset, .unset, .unset, .unset, .unset, .unset, .unset, .unset, .unset, .unset, .unset] [(.int (18 : Int32))]))
  refine own_st (fun _ kont => XS.bipush X41.here hx rfl (hb hby at_220) kont) ?_
  show own_Go p e below s _ _ _ (T41.setTop (mkF m 222 #[.val (.long ax), .second, .val (.long ay), .second, .val (.int aa), .val (.int ab), .val (.int ac), .val (.int ae), .val (.ref bb), .val (.int fr), .unset, .unset, .unset, .unset, .unset, .unset, .unset, .unset, .unset, .unset, .unset, .unset, .unset, .unset, .unset] [(.int (20 : Int32)), (.int (18 : Int32))]))
  refine own_st (fun _ kont => XS.iload X41.here hx rfl (hb hby at_222) rfl kont) ?_
  show own_Go p e below s _ _ _ (T41.setTop (mkF m 224 #[.val (.long ax), .second, .val (.long ay), .second, .val (.int aa), .val (.int ab), .val (.int ac), .val (.int ae), .val (.ref bb), .val (.int fr), .unset, .unset, .unset, .unset, .unset, .unset, .unset, .unset, .unset, .unset, .unset, .unset, .unset, .unset, .unset] [(.int fr), (.int (20 : Int32)), (.int (18 : Int32))]))
  refine own_st (fun _ kont => XS.isub X41.here hx rfl (hb hby at_224) rfl kont) ?_
  show own_Go p e below s _ _ _ (T41.setTop (mkF m 225 #[.val (.long ax), .second, .val (.long ay), .second, .val (.int aa), .val (.int ab), .val (.int ac), .val (.int ae), .val (.ref bb), .val (.int fr), .unset, .unset, .unset, .unset, .unset, .unset, .unset, .unset, .unset, .unset, .unset, .unset, .unset, .unset, .unset] [(.int ((20 : Int32) - fr)), (.int (18 : Int32))]))
  refine own_cS X41 hx hml hZ hown (hw _ (List.mem_of_getElem? (i := 8) rfl)) (hw _ (List.mem_of_getElem? (i := 9) rfl)) (hw _ (List.mem_of_getElem? (i := 10) rfl)) (hw _ (List.mem_of_getElem? (i := 11) rfl)) (by decide) (own_rm1 l Z a0 hw (18 : Int32) ((20 : Int32) - fr) h41 n0 sz41) e41 (by decide) (W := 0) (by decide) (g := (mkF m 225 #[.val (.long ax), .second, .val (.long ay), .second, .val (.int aa), .val (.int ab), .val (.int ac), .val (.int ae), .val (.ref bb), .val (.int fr), .unset, .unset, .unset, .unset, .unset, .unset, .unset, .unset, .unset, .unset, .unset, .unset, .unset, .unset, .unset] [(.int ((20 : Int32) - fr)), (.int (18 : Int32))])) rfl rfl own_pd1 (argsL := [(.int (18 : Int32)), (.int ((20 : Int32) - fr))]) (rest := []) rfl rfl rfl (by show 2 * 0 + _ ≤ _; exact Nat.le_of_eq rfl) (hb hby at_225) (by decide) (by decide) ?_
  intro T43 L43 v43 X43 hQ43
  obtain ⟨rfl, eh43, le43⟩ := hQ43
  have N43 := own_nil N41 le43
  show own_Go p e below s _ _ _ (T43.setTop (mkF m 228 #[.val (.long ax), .second, .val (.long ay), .second, .val (.int aa), .val (.int ab), .val (.int ac), .val (.int ae), .val (.ref bb), .val (.int fr), .unset, .unset, .unset, .unset, .unset, .unset, .unset, .unset, .unset, .unset, .unset, .unset, .unset, .unset, .unset] [(.int (own_min (18 : Int32) ((20 : Int32) - fr)))]))
  refine own_st (fun _ kont => XS.istore X43.here hx rfl (hb hby at_228) rfl (l' := #[.val (.long ax), .second, .val (.long ay), .second, .val (.int aa), .val (.int ab), .val (.int ac), .val (.int ae), .val (.ref bb), .val (.int fr), .val (.int (own_min (18 : Int32) ((20 : Int32) - fr))), .unset, .unset, .unset, .unset, .unset, .unset, .unset, .unset, .unset, .unset, .unset, .unset, .unset, .unset]) rfl kont) ?_
  show own_Go p e below s _ _ _ (T43.setTop (mkF m 230 #[.val (.long ax), .second, .val (.long ay), .second, .val (.int aa), .val (.int ab), .val (.int ac), .val (.int ae), .val (.ref bb), .val (.int fr), .val (.int (own_min (18 : Int32) ((20 : Int32) - fr))), .unset, .unset, .unset, .unset, .unset, .unset, .unset, .unset, .unset, .unset, .unset, .unset, .unset, .unset] []))
  have hq20 : ((20 : Int32) - fr).toInt = 20 - (i0 : Int) := by
    have c1 : ((20 : Int32)).toInt = 20 := by decide
    rw [own_sub (by rw [hi, c1]; omega) (by rw [hi, c1]; omega), hi, c1]
  have hml0 : (own_min (18 : Int32) ((20 : Int32) - fr)).toInt = ((min 18 (20 - i0) : Nat) : Int) := by
    unfold own_min
    have c1 : ((18 : Int32)).toInt = 18 := by decide
    by_cases q : (20 : Int32) - fr < 18
    · rw [if_pos q, hq20]
      rw [own_lt32, hq20, c1] at q
      omega
    · rw [if_neg q]
      rw [own_lt32, hq20, c1] at q
      rw [c1]
      omega
  suffices JJ44 : ∀ (mx : Int32) (m0 : Nat) (hm : mx.toInt = (m0 : Int)) (hm18 : m0 ≤ 18) (hm20 : i0 + m0 ≤ 20), own_Go p e below s (fun v h' L => v = some (.int 1) ∧ Fr n0 L) room_1.cells room_1.slots (T43.setTop (mkF m 230 #[.val (.long ax), .second, .val (.long ay), .second, .val (.int aa), .val (.int ab), .val (.int ac), .val (.int ae), .val (.ref bb), .val (.int fr), .val (.int mx), .unset, .unset, .unset, .unset, .unset, .unset, .unset, .unset, .unset, .unset, .unset, .unset, .unset, .unset] [])) from JJ44 _ (min 18 (20 - i0)) hml0 (by omega) (by omega)
  intro mx m0 hm hm18 hm20
  show own_Go p e below s _ _ _ (T43.setTop (mkF m 230 #[.val (.long ax), .second, .val (.long ay), .second, .val (.int aa), .val (.int ab), .val (.int ac), .val (.int ae), .val (.ref bb), .val (.int fr), .val (.int mx), .unset, .unset, .unset, .unset, .unset, .unset, .unset, .unset, .unset, .unset, .unset, .unset, .unset, .unset] []))
  refine own_st (fun _ kont => XS.iload X43.here hx rfl (hb hby at_230) rfl kont) ?_
  show own_Go p e below s _ _ _ (T43.setTop (mkF m 232 #[.val (.long ax), .second, .val (.long ay), .second, .val (.int aa), .val (.int ab), .val (.int ac), .val (.int ae), .val (.ref bb), .val (.int fr), .val (.int mx), .unset, .unset, .unset, .unset, .unset, .unset, .unset, .unset, .unset, .unset, .unset, .unset, .unset, .unset] [(.int fr)]))
  refine own_st (fun _ kont => XS.iload X43.here hx rfl (hb hby at_232) rfl kont) ?_
  show own_Go p e below s _ _ _ (T43.setTop (mkF m 234 #[.val (.long ax), .second, .val (.long ay), .second, .val (.int aa), .val (.int ab), .val (.int ac), .val (.int ae), .val (.ref bb), .val (.int fr), .val (.int mx), .unset, .unset, .unset, .unset, .unset, .unset, .unset, .unset, .unset, .unset, .unset, .unset, .unset, .unset] [(.int ab), (.int fr)]))
  refine own_st (fun _ kont => X43.ldcInt hx hown (mvT hZ (hw _ (List.mem_of_getElem? (i := 7) rfl))) (g := (mkF m 234 #[.val (.long ax), .second, .val (.long ay), .second, .val (.int aa), .val (.int ab), .val (.int ac), .val (.int ae), .val (.ref bb), .val (.int fr), .val (.int mx), .unset, .unset, .unset, .unset, .unset, .unset, .unset, .unset, .unset, .unset, .unset, .unset, .unset, .unset] [(.int ab), (.int fr)])) rfl (hb hby at_234) _ kont) ?_
  show own_Go p e below s _ _ _ (T43.setTop (mkF m 236 #[.val (.long ax), .second, .val (.long ay), .second, .val (.int aa), .val (.int ab), .val (.int ac), .val (.int ae), .val (.ref bb), .val (.int fr), .val (.int mx), .unset, .unset, .unset, .unset, .unset, .unset, .unset, .unset, .unset, .unset, .unset, .unset, .unset, .unset] [(.int (2147483647 : Int32)), (.int ab), (.int fr)]))
  refine own_st (fun _ kont => XS.iand X43.here hx rfl (hb hby at_236) rfl kont) ?_
  show own_Go p e below s _ _ _ (T43.setTop (mkF m 237 #[.val (.long ax), .second, .val (.long ay), .second, .val (.int aa), .val (.int ab), .val (.int ac), .val (.int ae), .val (.ref bb), .val (.int fr), .val (.int mx), .unset, .unset, .unset, .unset, .unset, .unset, .unset, .unset, .unset, .unset, .unset, .unset, .unset, .unset] [(.int (ab &&& (2147483647 : Int32))), (.int fr)]))
  refine own_st (fun _ kont => XS.iload X43.here hx rfl (hb hby at_237) rfl kont) ?_
  show own_Go p e below s _ _ _ (T43.setTop (mkF m 239 #[.val (.long ax), .second, .val (.long ay), .second, .val (.int aa), .val (.int ab), .val (.int ac), .val (.int ae), .val (.ref bb), .val (.int fr), .val (.int mx), .unset, .unset, .unset, .unset, .unset, .unset, .unset, .unset, .unset, .unset, .unset, .unset, .unset, .unset] [(.int mx), (.int (ab &&& (2147483647 : Int32))), (.int fr)]))
  refine own_st (fun _ kont => XS.iconst X43.here hx rfl (hb hby at_239) kont) ?_
  show own_Go p e below s _ _ _ (T43.setTop (mkF m 240 #[.val (.long ax), .second, .val (.long ay), .second, .val (.int aa), .val (.int ab), .val (.int ac), .val (.int ae), .val (.ref bb), .val (.int fr), .val (.int mx), .unset, .unset, .unset, .unset, .unset, .unset, .unset, .unset, .unset, .unset, .unset, .unset, .unset, .unset] [(.int (1 : Int32)), (.int mx), (.int (ab &&& (2147483647 : Int32))), (.int fr)]))
  refine own_st (fun _ kont => XS.iadd X43.here hx rfl (hb hby at_240) rfl kont) ?_
  show own_Go p e below s _ _ _ (T43.setTop (mkF m 241 #[.val (.long ax), .second, .val (.long ay), .second, .val (.int aa), .val (.int ab), .val (.int ac), .val (.int ae), .val (.ref bb), .val (.int fr), .val (.int mx), .unset, .unset, .unset, .unset, .unset, .unset, .unset, .unset, .unset, .unset, .unset, .unset, .unset, .unset] [(.int (mx + (1 : Int32))), (.int (ab &&& (2147483647 : Int32))), (.int fr)]))
  have hm1 : (mx + (1 : Int32)).toInt = ((m0 + 1 : Nat) : Int) := own_addN hm (by decide) (by omega)
  refine own_st (fun _ kont => iremM X43 hx rfl (hb hby at_241) rfl (fun u => by rw [u] at hm1; have h6 : ((0 : Int32)).toInt = 0 := (by decide); omega) kont) ?_
  show own_Go p e below s _ _ _ (T43.setTop (mkF m 242 #[.val (.long ax), .second, .val (.long ay), .second, .val (.int aa), .val (.int ab), .val (.int ac), .val (.int ae), .val (.ref bb), .val (.int fr), .val (.int mx), .unset, .unset, .unset, .unset, .unset, .unset, .unset, .unset, .unset, .unset, .unset, .unset, .unset, .unset] [(.int ((ab &&& (2147483647 : Int32)) % (mx + (1 : Int32)))), (.int fr)]))
  refine own_st (fun _ kont => XS.iadd X43.here hx rfl (hb hby at_242) rfl kont) ?_
  show own_Go p e below s _ _ _ (T43.setTop (mkF m 243 #[.val (.long ax), .second, .val (.long ay), .second, .val (.int aa), .val (.int ab), .val (.int ac), .val (.int ae), .val (.ref bb), .val (.int fr), .val (.int mx), .unset, .unset, .unset, .unset, .unset, .unset, .unset, .unset, .unset, .unset, .unset, .unset, .unset, .unset] [(.int (fr + ((ab &&& (2147483647 : Int32)) % (mx + (1 : Int32)))))]))
  refine own_st (fun _ kont => XS.istore X43.here hx rfl (hb hby at_243) rfl (l' := #[.val (.long ax), .second, .val (.long ay), .second, .val (.int aa), .val (.int ab), .val (.int ac), .val (.int ae), .val (.ref bb), .val (.int fr), .val (.int mx), .val (.int (fr + ((ab &&& (2147483647 : Int32)) % (mx + (1 : Int32))))), .unset, .unset, .unset, .unset, .unset, .unset, .unset, .unset, .unset, .unset, .unset, .unset, .unset]) rfl kont) ?_
  show own_Go p e below s _ _ _ (T43.setTop (mkF m 245 #[.val (.long ax), .second, .val (.long ay), .second, .val (.int aa), .val (.int ab), .val (.int ac), .val (.int ae), .val (.ref bb), .val (.int fr), .val (.int mx), .val (.int (fr + ((ab &&& (2147483647 : Int32)) % (mx + (1 : Int32))))), .unset, .unset, .unset, .unset, .unset, .unset, .unset, .unset, .unset, .unset, .unset, .unset, .unset] []))
  obtain ⟨mb, hmb, hlb⟩ := own_mask ab (2147483647 : Int32) (k := 2147483647) (by decide)
  have hr1 : ((ab &&& (2147483647 : Int32)) % (mx + (1 : Int32))).toInt = ((mb % (m0 + 1) : Nat) : Int) := by rw [own_rem (by rw [hmb]; omega) (by rw [hm1]; omega), hmb, hm1]; rfl
  have hr2 : mb % (m0 + 1) < m0 + 1 := Nat.mod_lt _ (by omega)
  suffices JJ45 : ∀ (to : Int32) (n : Nat) (hto : to.toInt = ((i0 + n : Nat) : Int)) (hn18 : n ≤ 18) (hn20 : i0 + n ≤ 20), own_Go p e below s (fun v h' L => v = some (.int 1) ∧ Fr n0 L) room_1.cells room_1.slots (T43.setTop (mkF m 245 #[.val (.long ax), .second, .val (.long ay), .second, .val (.int aa), .val (.int ab), .val (.int ac), .val (.int ae), .val (.ref bb), .val (.int fr), .val (.int mx), .val (.int to), .unset, .unset, .unset, .unset, .unset, .unset, .unset, .unset, .unset, .unset, .unset, .unset, .unset] [])) from JJ45 _ (mb % (m0 + 1)) (own_addN hi hr1 (by omega)) (by omega) (by omega)
  intro to n hto hn18 hn20
  show own_Go p e below s _ _ _ (T43.setTop (mkF m 245 #[.val (.long ax), .second, .val (.long ay), .second, .val (.int aa), .val (.int ab), .val (.int ac), .val (.int ae), .val (.ref bb), .val (.int fr), .val (.int mx), .val (.int to), .unset, .unset, .unset, .unset, .unset, .unset, .unset, .unset, .unset, .unset, .unset, .unset, .unset] []))
  refine own_st (fun _ kont => XS.iload X43.here hx rfl (hb hby at_245) rfl kont) ?_
  show own_Go p e below s _ _ _ (T43.setTop (mkF m 247 #[.val (.long ax), .second, .val (.long ay), .second, .val (.int aa), .val (.int ab), .val (.int ac), .val (.int ae), .val (.ref bb), .val (.int fr), .val (.int mx), .val (.int to), .unset, .unset, .unset, .unset, .unset, .unset, .unset, .unset, .unset, .unset, .unset, .unset, .unset] [(.int fr)]))
  refine own_st (fun _ kont => XS.iload X43.here hx rfl (hb hby at_247) rfl kont) ?_
  show own_Go p e below s _ _ _ (T43.setTop (mkF m 249 #[.val (.long ax), .second, .val (.long ay), .second, .val (.int aa), .val (.int ab), .val (.int ac), .val (.int ae), .val (.ref bb), .val (.int fr), .val (.int mx), .val (.int to), .unset, .unset, .unset, .unset, .unset, .unset, .unset, .unset, .unset, .unset, .unset, .unset, .unset] [(.int ac), (.int fr)]))
  refine own_st (fun _ kont => X43.ldcInt hx hown (mvT hZ (hw _ (List.mem_of_getElem? (i := 7) rfl))) (g := (mkF m 249 #[.val (.long ax), .second, .val (.long ay), .second, .val (.int aa), .val (.int ab), .val (.int ac), .val (.int ae), .val (.ref bb), .val (.int fr), .val (.int mx), .val (.int to), .unset, .unset, .unset, .unset, .unset, .unset, .unset, .unset, .unset, .unset, .unset, .unset, .unset] [(.int ac), (.int fr)])) rfl (hb hby at_249) _ kont) ?_
  show own_Go p e below s _ _ _ (T43.setTop (mkF m 251 #[.val (.long ax), .second, .val (.long ay), .second, .val (.int aa), .val (.int ab), .val (.int ac), .val (.int ae), .val (.ref bb), .val (.int fr), .val (.int mx), .val (.int to), .unset, .unset, .unset, .unset, .unset, .unset, .unset, .unset, .unset, .unset, .unset, .unset, .unset] [(.int (2147483647 : Int32)), (.int ac), (.int fr)]))
  refine own_st (fun _ kont => XS.iand X43.here hx rfl (hb hby at_251) rfl kont) ?_
  show own_Go p e below s _ _ _ (T43.setTop (mkF m 252 #[.val (.long ax), .second, .val (.long ay), .second, .val (.int aa), .val (.int ab), .val (.int ac), .val (.int ae), .val (.ref bb), .val (.int fr), .val (.int mx), .val (.int to), .unset, .unset, .unset, .unset, .unset, .unset, .unset, .unset, .unset, .unset, .unset, .unset, .unset] [(.int (ac &&& (2147483647 : Int32))), (.int fr)]))
  refine own_st (fun _ kont => XS.iload X43.here hx rfl (hb hby at_252) rfl kont) ?_
  show own_Go p e below s _ _ _ (T43.setTop (mkF m 254 #[.val (.long ax), .second, .val (.long ay), .second, .val (.int aa), .val (.int ab), .val (.int ac), .val (.int ae), .val (.ref bb), .val (.int fr), .val (.int mx), .val (.int to), .unset, .unset, .unset, .unset, .unset, .unset, .unset, .unset, .unset, .unset, .unset, .unset, .unset] [(.int to), (.int (ac &&& (2147483647 : Int32))), (.int fr)]))
  refine own_st (fun _ kont => XS.iload X43.here hx rfl (hb hby at_254) rfl kont) ?_
  show own_Go p e below s _ _ _ (T43.setTop (mkF m 256 #[.val (.long ax), .second, .val (.long ay), .second, .val (.int aa), .val (.int ab), .val (.int ac), .val (.int ae), .val (.ref bb), .val (.int fr), .val (.int mx), .val (.int to), .unset, .unset, .unset, .unset, .unset, .unset, .unset, .unset, .unset, .unset, .unset, .unset, .unset] [(.int fr), (.int to), (.int (ac &&& (2147483647 : Int32))), (.int fr)]))
  refine own_st (fun _ kont => XS.isub X43.here hx rfl (hb hby at_256) rfl kont) ?_
  show own_Go p e below s _ _ _ (T43.setTop (mkF m 257 #[.val (.long ax), .second, .val (.long ay), .second, .val (.int aa), .val (.int ab), .val (.int ac), .val (.int ae), .val (.ref bb), .val (.int fr), .val (.int mx), .val (.int to), .unset, .unset, .unset, .unset, .unset, .unset, .unset, .unset, .unset, .unset, .unset, .unset, .unset] [(.int (to - fr)), (.int (ac &&& (2147483647 : Int32))), (.int fr)]))
  refine own_st (fun _ kont => XS.iconst X43.here hx rfl (hb hby at_257) kont) ?_
  show own_Go p e below s _ _ _ (T43.setTop (mkF m 258 #[.val (.long ax), .second, .val (.long ay), .second, .val (.int aa), .val (.int ab), .val (.int ac), .val (.int ae), .val (.ref bb), .val (.int fr), .val (.int mx), .val (.int to), .unset, .unset, .unset, .unset, .unset, .unset, .unset, .unset, .unset, .unset, .unset, .unset, .unset] [(.int (1 : Int32)), (.int (to - fr)), (.int (ac &&& (2147483647 : Int32))), (.int fr)]))
  refine own_st (fun _ kont => XS.iadd X43.here hx rfl (hb hby at_258) rfl kont) ?_
  show own_Go p e below s _ _ _ (T43.setTop (mkF m 259 #[.val (.long ax), .second, .val (.long ay), .second, .val (.int aa), .val (.int ab), .val (.int ac), .val (.int ae), .val (.ref bb), .val (.int fr), .val (.int mx), .val (.int to), .unset, .unset, .unset, .unset, .unset, .unset, .unset, .unset, .unset, .unset, .unset, .unset, .unset] [(.int ((to - fr) + (1 : Int32))), (.int (ac &&& (2147483647 : Int32))), (.int fr)]))
  have htf : (to - fr).toInt = (n : Int) := by
    rw [own_sub (by rw [hi, hto]; omega) (by rw [hi, hto]; omega), hi, hto]
    omega
  have htf1 : ((to - fr) + (1 : Int32)).toInt = ((n + 1 : Nat) : Int) := own_addN htf (by decide) (by omega)
  refine own_st (fun _ kont => iremM X43 hx rfl (hb hby at_259) rfl (fun u => by rw [u] at htf1; have h6 : ((0 : Int32)).toInt = 0 := (by decide); omega) kont) ?_
  show own_Go p e below s _ _ _ (T43.setTop (mkF m 260 #[.val (.long ax), .second, .val (.long ay), .second, .val (.int aa), .val (.int ab), .val (.int ac), .val (.int ae), .val (.ref bb), .val (.int fr), .val (.int mx), .val (.int to), .unset, .unset, .unset, .unset, .unset, .unset, .unset, .unset, .unset, .unset, .unset, .unset, .unset] [(.int ((ac &&& (2147483647 : Int32)) % ((to - fr) + (1 : Int32)))), (.int fr)]))
  refine own_st (fun _ kont => XS.iadd X43.here hx rfl (hb hby at_260) rfl kont) ?_
  show own_Go p e below s _ _ _ (T43.setTop (mkF m 261 #[.val (.long ax), .second, .val (.long ay), .second, .val (.int aa), .val (.int ab), .val (.int ac), .val (.int ae), .val (.ref bb), .val (.int fr), .val (.int mx), .val (.int to), .unset, .unset, .unset, .unset, .unset, .unset, .unset, .unset, .unset, .unset, .unset, .unset, .unset] [(.int (fr + ((ac &&& (2147483647 : Int32)) % ((to - fr) + (1 : Int32)))))]))
  refine own_st (fun _ kont => XS.istore X43.here hx rfl (hb hby at_261) rfl (l' := #[.val (.long ax), .second, .val (.long ay), .second, .val (.int aa), .val (.int ab), .val (.int ac), .val (.int ae), .val (.ref bb), .val (.int fr), .val (.int mx), .val (.int to), .val (.int (fr + ((ac &&& (2147483647 : Int32)) % ((to - fr) + (1 : Int32))))), .unset, .unset, .unset, .unset, .unset, .unset, .unset, .unset, .unset, .unset, .unset, .unset]) rfl kont) ?_
  show own_Go p e below s _ _ _ (T43.setTop (mkF m 263 #[.val (.long ax), .second, .val (.long ay), .second, .val (.int aa), .val (.int ab), .val (.int ac), .val (.int ae), .val (.ref bb), .val (.int fr), .val (.int mx), .val (.int to), .val (.int (fr + ((ac &&& (2147483647 : Int32)) % ((to - fr) + (1 : Int32))))), .unset, .unset, .unset, .unset, .unset, .unset, .unset, .unset, .unset, .unset, .unset, .unset] []))
  obtain ⟨mc, hmc, hlc⟩ := own_mask ac (2147483647 : Int32) (k := 2147483647) (by decide)
  have hr3 : ((ac &&& (2147483647 : Int32)) % ((to - fr) + (1 : Int32))).toInt = ((mc % (n + 1) : Nat) : Int) := by rw [own_rem (by rw [hmc]; omega) (by rw [htf1]; omega), hmc, htf1]; rfl
  have hr4 : mc % (n + 1) < n + 1 := Nat.mod_lt _ (by omega)
  suffices JJ46 : ∀ (md : Int32) (k1 k2 : Nat) (hk : k1 + k2 = n) (hmd : md.toInt = ((i0 + k1 : Nat) : Int)), own_Go p e below s (fun v h' L => v = some (.int 1) ∧ Fr n0 L) room_1.cells room_1.slots (T43.setTop (mkF m 263 #[.val (.long ax), .second, .val (.long ay), .second, .val (.int aa), .val (.int ab), .val (.int ac), .val (.int ae), .val (.ref bb), .val (.int fr), .val (.int mx), .val (.int to), .val (.int md), .unset, .unset, .unset, .unset, .unset, .unset, .unset, .unset, .unset, .unset, .unset, .unset] [])) from JJ46 _ (mc % (n + 1)) (n - mc % (n + 1)) (by omega) (own_addN hi hr3 (by omega))
  intro md k1 k2 hk hmd
  show own_Go p e below s _ _ _ (T43.setTop (mkF m 263 #[.val (.long ax), .second, .val (.long ay), .second, .val (.int aa), .val (.int ab), .val (.int ac), .val (.int ae), .val (.ref bb), .val (.int fr), .val (.int mx), .val (.int to), .val (.int md), .unset, .unset, .unset, .unset, .unset, .unset, .unset, .unset, .unset, .unset, .unset, .unset] []))
  refine own_st (fun _ kont => XS.iload X43.here hx rfl (hb hby at_263) rfl kont) ?_
  show own_Go p e below s _ _ _ (T43.setTop (mkF m 265 #[.val (.long ax), .second, .val (.long ay), .second, .val (.int aa), .val (.int ab), .val (.int ac), .val (.int ae), .val (.ref bb), .val (.int fr), .val (.int mx), .val (.int to), .val (.int md), .unset, .unset, .unset, .unset, .unset, .unset, .unset, .unset, .unset, .unset, .unset, .unset] [(.int ae)]))
  refine own_st (fun _ kont => X43.ldcInt hx hown (mvT hZ (hw _ (List.mem_of_getElem? (i := 7) rfl))) (g := (mkF m 265 #[.val (.long ax), .second, .val (.long ay), .second, .val (.int aa), .val (.int ab), .val (.int ac), .val (.int ae), .val (.ref bb), .val (.int fr), .val (.int mx), .val (.int to), .val (.int md), .unset, .unset, .unset, .unset, .unset, .unset, .unset, .unset, .unset, .unset, .unset, .unset] [(.int ae)])) rfl (hb hby at_265) _ kont) ?_
  show own_Go p e below s _ _ _ (T43.setTop (mkF m 267 #[.val (.long ax), .second, .val (.long ay), .second, .val (.int aa), .val (.int ab), .val (.int ac), .val (.int ae), .val (.ref bb), .val (.int fr), .val (.int mx), .val (.int to), .val (.int md), .unset, .unset, .unset, .unset, .unset, .unset, .unset, .unset, .unset, .unset, .unset, .unset] [(.int (2147483647 : Int32)), (.int ae)]))
  refine own_st (fun _ kont => XS.iand X43.here hx rfl (hb hby at_267) rfl kont) ?_
  show own_Go p e below s _ _ _ (T43.setTop (mkF m 268 #[.val (.long ax), .second, .val (.long ay), .second, .val (.int aa), .val (.int ab), .val (.int ac), .val (.int ae), .val (.ref bb), .val (.int fr), .val (.int mx), .val (.int to), .val (.int md), .unset, .unset, .unset, .unset, .unset, .unset, .unset, .unset, .unset, .unset, .unset, .unset] [(.int (ae &&& (2147483647 : Int32)))]))
  refine own_st (fun _ kont => XS.bipush X43.here hx rfl (hb hby at_268) kont) ?_
  show own_Go p e below s _ _ _ (T43.setTop (mkF m 270 #[.val (.long ax), .second, .val (.long ay), .second, .val (.int aa), .val (.int ab), .val (.int ac), .val (.int ae), .val (.ref bb), .val (.int fr), .val (.int mx), .val (.int to), .val (.int md), .unset, .unset, .unset, .unset, .unset, .unset, .unset, .unset, .unset, .unset, .unset, .unset] [(.int (20 : Int32)), (.int (ae &&& (2147483647 : Int32)))]))
  refine own_st (fun _ kont => iremM X43 hx rfl (hb hby at_270) rfl (by decide) kont) ?_
  show own_Go p e below s _ _ _ (T43.setTop (mkF m 271 #[.val (.long ax), .second, .val (.long ay), .second, .val (.int aa), .val (.int ab), .val (.int ac), .val (.int ae), .val (.ref bb), .val (.int fr), .val (.int mx), .val (.int to), .val (.int md), .unset, .unset, .unset, .unset, .unset, .unset, .unset, .unset, .unset, .unset, .unset, .unset] [(.int ((ae &&& (2147483647 : Int32)) % (20 : Int32)))]))
  refine own_st (fun _ kont => XS.istore X43.here hx rfl (hb hby at_271) rfl (l' := #[.val (.long ax), .second, .val (.long ay), .second, .val (.int aa), .val (.int ab), .val (.int ac), .val (.int ae), .val (.ref bb), .val (.int fr), .val (.int mx), .val (.int to), .val (.int md), .val (.int ((ae &&& (2147483647 : Int32)) % (20 : Int32))), .unset, .unset, .unset, .unset, .unset, .unset, .unset, .unset, .unset, .unset, .unset]) rfl kont) ?_
  show own_Go p e below s _ _ _ (T43.setTop (mkF m 273 #[.val (.long ax), .second, .val (.long ay), .second, .val (.int aa), .val (.int ab), .val (.int ac), .val (.int ae), .val (.ref bb), .val (.int fr), .val (.int mx), .val (.int to), .val (.int md), .val (.int ((ae &&& (2147483647 : Int32)) % (20 : Int32))), .unset, .unset, .unset, .unset, .unset, .unset, .unset, .unset, .unset, .unset, .unset] []))
  obtain ⟨me, hme, hle⟩ := own_mask ae (2147483647 : Int32) (k := 2147483647) (by decide)
  suffices JJ47 : ∀ (ix : Int32) (ii : Nat) (hix : ix.toInt = (ii : Int)) (hii : ii < 20), own_Go p e below s (fun v h' L => v = some (.int 1) ∧ Fr n0 L) room_1.cells room_1.slots (T43.setTop (mkF m 273 #[.val (.long ax), .second, .val (.long ay), .second, .val (.int aa), .val (.int ab), .val (.int ac), .val (.int ae), .val (.ref bb), .val (.int fr), .val (.int mx), .val (.int to), .val (.int md), .val (.int ix), .unset, .unset, .unset, .unset, .unset, .unset, .unset, .unset, .unset, .unset, .unset] [])) from JJ47 _ (me % 20) (by rw [own_rem (by rw [hme]; omega) (by decide), hme]; rfl) (by omega)
  intro ix ii hix hii
  show own_Go p e below s _ _ _ (T43.setTop (mkF m 273 #[.val (.long ax), .second, .val (.long ay), .second, .val (.int aa), .val (.int ab), .val (.int ac), .val (.int ae), .val (.ref bb), .val (.int fr), .val (.int mx), .val (.int to), .val (.int md), .val (.int ix), .unset, .unset, .unset, .unset, .unset, .unset, .unset, .unset, .unset, .unset, .unset] []))
  refine own_st (fun _ kont => XS.aload X43.here hx rfl (hb hby at_273) rfl rfl kont) ?_
  show own_Go p e below s _ _ _ (T43.setTop (mkF m 275 #[.val (.long ax), .second, .val (.long ay), .second, .val (.int aa), .val (.int ab), .val (.int ac), .val (.int ae), .val (.ref bb), .val (.int fr), .val (.int mx), .val (.int to), .val (.int md), .val (.int ix), .unset, .unset, .unset, .unset, .unset, .unset, .unset, .unset, .unset, .unset, .unset] [(.ref bb)]))
  refine own_st (fun _ kont => XS.iload X43.here hx rfl (hb hby at_275) rfl kont) ?_
  show own_Go p e below s _ _ _ (T43.setTop (mkF m 277 #[.val (.long ax), .second, .val (.long ay), .second, .val (.int aa), .val (.int ab), .val (.int ac), .val (.int ae), .val (.ref bb), .val (.int fr), .val (.int mx), .val (.int to), .val (.int md), .val (.int ix), .unset, .unset, .unset, .unset, .unset, .unset, .unset, .unset, .unset, .unset, .unset] [(.int fr), (.ref bb)]))
  refine own_st (fun _ kont => XS.iload X43.here hx rfl (hb hby at_277) rfl kont) ?_
  show own_Go p e below s _ _ _ (T43.setTop (mkF m 279 #[.val (.long ax), .second, .val (.long ay), .second, .val (.int aa), .val (.int ab), .val (.int ac), .val (.int ae), .val (.ref bb), .val (.int fr), .val (.int mx), .val (.int to), .val (.int md), .val (.int ix), .unset, .unset, .unset, .unset, .unset, .unset, .unset, .unset, .unset, .unset, .unset] [(.int to), (.int fr), (.ref bb)]))
  refine own_cS X43 hx hml hZ hown (hw _ (List.mem_of_getElem? (i := 12) rfl)) (hw _ (List.mem_of_getElem? (i := 13) rfl)) (hw _ (List.mem_of_getElem? (i := 14) rfl)) (hw _ (List.mem_of_getElem? (i := 15) rfl)) (by decide) (own_rm4 l Z a0 hw bb fr to f20 i0 n h41 n0 sz41 Vbb_41 hf20 hi hto hn18 hn20) eh43 (by decide) (W := 0) (by decide) (g := (mkF m 279 #[.val (.long ax), .second, .val (.long ay), .second, .val (.int aa), .val (.int ab), .val (.int ac), .val (.int ae), .val (.ref bb), .val (.int fr), .val (.int mx), .val (.int to), .val (.int md), .val (.int ix), .unset, .unset, .unset, .unset, .unset, .unset, .unset, .unset, .unset, .unset, .unset] [(.int to), (.int fr), (.ref bb)])) rfl rfl own_pd2 (argsL := [(.ref bb), (.int fr), (.int to)]) (rest := []) rfl rfl rfl (by show 2 * 0 + _ ≤ _; exact Nat.le_of_eq rfl) (hb hby at_279) (by decide) (by decide) ?_
  intro T48 L48 v48 X48 hQ48
  obtain ⟨⟨z48, rfl, hz48⟩, eh48, le48⟩ := hQ48
  have N48 := own_nil N43 le48
  show own_Go p e below s _ _ _ (T48.setTop (mkF m 282 #[.val (.long ax), .second, .val (.long ay), .second, .val (.int aa), .val (.int ab), .val (.int ac), .val (.int ae), .val (.ref bb), .val (.int fr), .val (.int mx), .val (.int to), .val (.int md), .val (.int ix), .unset, .unset, .unset, .unset, .unset, .unset, .unset, .unset, .unset, .unset, .unset] [(.long z48)]))
  refine own_st (fun _ kont => XS.lstore X48.here hx rfl (hb hby at_282) rfl (l' := #[.val (.long ax), .second, .val (.long ay), .second, .val (.int aa), .val (.int ab), .val (.int ac), .val (.int ae), .val (.ref bb), .val (.int fr), .val (.int mx), .val (.int to), .val (.int md), .val (.int ix), .val (.long z48), .second, .unset, .unset, .unset, .unset, .unset, .unset, .unset, .unset, .unset]) rfl kont) ?_
  show own_Go p e below s _ _ _ (T48.setTop (mkF m 284 #[.val (.long ax), .second, .val (.long ay), .second, .val (.int aa), .val (.int ab), .val (.int ac), .val (.int ae), .val (.ref bb), .val (.int fr), .val (.int mx), .val (.int to), .val (.int md), .val (.int ix), .val (.long z48), .second, .unset, .unset, .unset, .unset, .unset, .unset, .unset, .unset, .unset] []))
  refine own_st (fun _ kont => XS.aload X48.here hx rfl (hb hby at_284) rfl rfl kont) ?_
  show own_Go p e below s _ _ _ (T48.setTop (mkF m 286 #[.val (.long ax), .second, .val (.long ay), .second, .val (.int aa), .val (.int ab), .val (.int ac), .val (.int ae), .val (.ref bb), .val (.int fr), .val (.int mx), .val (.int to), .val (.int md), .val (.int ix), .val (.long z48), .second, .unset, .unset, .unset, .unset, .unset, .unset, .unset, .unset, .unset] [(.ref bb)]))
  refine own_st (fun _ kont => XS.iload X48.here hx rfl (hb hby at_286) rfl kont) ?_
  show own_Go p e below s _ _ _ (T48.setTop (mkF m 288 #[.val (.long ax), .second, .val (.long ay), .second, .val (.int aa), .val (.int ab), .val (.int ac), .val (.int ae), .val (.ref bb), .val (.int fr), .val (.int mx), .val (.int to), .val (.int md), .val (.int ix), .val (.long z48), .second, .unset, .unset, .unset, .unset, .unset, .unset, .unset, .unset, .unset] [(.int fr), (.ref bb)]))
  refine own_st (fun _ kont => XS.iload X48.here hx rfl (hb hby at_288) rfl kont) ?_
  show own_Go p e below s _ _ _ (T48.setTop (mkF m 290 #[.val (.long ax), .second, .val (.long ay), .second, .val (.int aa), .val (.int ab), .val (.int ac), .val (.int ae), .val (.ref bb), .val (.int fr), .val (.int mx), .val (.int to), .val (.int md), .val (.int ix), .val (.long z48), .second, .unset, .unset, .unset, .unset, .unset, .unset, .unset, .unset, .unset] [(.int md), (.int fr), (.ref bb)]))
  refine own_cS X48 hx hml hZ hown (hw _ (List.mem_of_getElem? (i := 12) rfl)) (hw _ (List.mem_of_getElem? (i := 13) rfl)) (hw _ (List.mem_of_getElem? (i := 14) rfl)) (hw _ (List.mem_of_getElem? (i := 15) rfl)) (by decide) (own_rm4 l Z a0 hw bb fr md f20 i0 k1 h41 n0 sz41 Vbb_41 hf20 hi hmd (by omega) (by omega)) eh48 (by decide) (W := 0) (by decide) (g := (mkF m 290 #[.val (.long ax), .second, .val (.long ay), .second, .val (.int aa), .val (.int ab), .val (.int ac), .val (.int ae), .val (.ref bb), .val (.int fr), .val (.int mx), .val (.int to), .val (.int md), .val (.int ix), .val (.long z48), .second, .unset, .unset, .unset, .unset, .unset, .unset, .unset, .unset, .unset] [(.int md), (.int fr), (.ref bb)])) rfl rfl own_pd2 (argsL := [(.ref bb), (.int fr), (.int md)]) (rest := []) rfl rfl rfl (by show 2 * 0 + _ ≤ _; exact Nat.le_of_eq rfl) (hb hby at_290) (by decide) (by decide) ?_
  intro T49 L49 v49 X49 hQ49
  obtain ⟨⟨z49, rfl, hz49⟩, eh49, le49⟩ := hQ49
  have N49 := own_nil N48 le49
  show own_Go p e below s _ _ _ (T49.setTop (mkF m 293 #[.val (.long ax), .second, .val (.long ay), .second, .val (.int aa), .val (.int ab), .val (.int ac), .val (.int ae), .val (.ref bb), .val (.int fr), .val (.int mx), .val (.int to), .val (.int md), .val (.int ix), .val (.long z48), .second, .unset, .unset, .unset, .unset, .unset, .unset, .unset, .unset, .unset] [(.long z49)]))
  refine own_st (fun _ kont => XS.lstore X49.here hx rfl (hb hby at_293) rfl (l' := #[.val (.long ax), .second, .val (.long ay), .second, .val (.int aa), .val (.int ab), .val (.int ac), .val (.int ae), .val (.ref bb), .val (.int fr), .val (.int mx), .val (.int to), .val (.int md), .val (.int ix), .val (.long z48), .second, .val (.long z49), .second, .unset, .unset, .unset, .unset, .unset, .unset, .unset]) rfl kont) ?_
  show own_Go p e below s _ _ _ (T49.setTop (mkF m 295 #[.val (.long ax), .second, .val (.long ay), .second, .val (.int aa), .val (.int ab), .val (.int ac), .val (.int ae), .val (.ref bb), .val (.int fr), .val (.int mx), .val (.int to), .val (.int md), .val (.int ix), .val (.long z48), .second, .val (.long z49), .second, .unset, .unset, .unset, .unset, .unset, .unset, .unset] []))
  refine own_st (fun _ kont => XS.aload X49.here hx rfl (hb hby at_295) rfl rfl kont) ?_
  show own_Go p e below s _ _ _ (T49.setTop (mkF m 297 #[.val (.long ax), .second, .val (.long ay), .second, .val (.int aa), .val (.int ab), .val (.int ac), .val (.int ae), .val (.ref bb), .val (.int fr), .val (.int mx), .val (.int to), .val (.int md), .val (.int ix), .val (.long z48), .second, .val (.long z49), .second, .unset, .unset, .unset, .unset, .unset, .unset, .unset] [(.ref bb)]))
  refine own_st (fun _ kont => XS.iload X49.here hx rfl (hb hby at_297) rfl kont) ?_
  show own_Go p e below s _ _ _ (T49.setTop (mkF m 299 #[.val (.long ax), .second, .val (.long ay), .second, .val (.int aa), .val (.int ab), .val (.int ac), .val (.int ae), .val (.ref bb), .val (.int fr), .val (.int mx), .val (.int to), .val (.int md), .val (.int ix), .val (.long z48), .second, .val (.long z49), .second, .unset, .unset, .unset, .unset, .unset, .unset, .unset] [(.int md), (.ref bb)]))
  refine own_st (fun _ kont => XS.iload X49.here hx rfl (hb hby at_299) rfl kont) ?_
  show own_Go p e below s _ _ _ (T49.setTop (mkF m 301 #[.val (.long ax), .second, .val (.long ay), .second, .val (.int aa), .val (.int ab), .val (.int ac), .val (.int ae), .val (.ref bb), .val (.int fr), .val (.int mx), .val (.int to), .val (.int md), .val (.int ix), .val (.long z48), .second, .val (.long z49), .second, .unset, .unset, .unset, .unset, .unset, .unset, .unset] [(.int to), (.int md), (.ref bb)]))
  refine own_cS X49 hx hml hZ hown (hw _ (List.mem_of_getElem? (i := 12) rfl)) (hw _ (List.mem_of_getElem? (i := 13) rfl)) (hw _ (List.mem_of_getElem? (i := 14) rfl)) (hw _ (List.mem_of_getElem? (i := 15) rfl)) (by decide) (own_rm4 l Z a0 hw bb md to f20 (i0 + k1) k2 h41 n0 sz41 Vbb_41 hf20 hmd (by rw [hto]; omega) (by omega) (by omega)) eh49 (by decide) (W := 0) (by decide) (g := (mkF m 301 #[.val (.long ax), .second, .val (.long ay), .second, .val (.int aa), .val (.int ab), .val (.int ac), .val (.int ae), .val (.ref bb), .val (.int fr), .val (.int mx), .val (.int to), .val (.int md), .val (.int ix), .val (.long z48), .second, .val (.long z49), .second, .unset, .unset, .unset, .unset, .unset, .unset, .unset] [(.int to), (.int md), (.ref bb)])) rfl rfl own_pd2 (argsL := [(.ref bb), (.int md), (.int to)]) (rest := []) rfl rfl rfl (by show 2 * 0 + _ ≤ _; exact Nat.le_of_eq rfl) (hb hby at_301) (by decide) (by decide) ?_
  intro T50 L50 v50 X50 hQ50
  obtain ⟨⟨z50, rfl, hz50⟩, eh50, le50⟩ := hQ50
  have N50 := own_nil N49 le50
  show own_Go p e below s _ _ _ (T50.setTop (mkF m 304 #[.val (.long ax), .second, .val (.long ay), .second, .val (.int aa), .val (.int ab), .val (.int ac), .val (.int ae), .val (.ref bb), .val (.int fr), .val (.int mx), .val (.int to), .val (.int md), .val (.int ix), .val (.long z48), .second, .val (.long z49), .second, .unset, .unset, .unset, .unset, .unset, .unset, .unset] [(.long z50)]))
  refine own_st (fun _ kont => XS.lstore X50.here hx rfl (hb hby at_304) rfl (l' := #[.val (.long ax), .second, .val (.long ay), .second, .val (.int aa), .val (.int ab), .val (.int ac), .val (.int ae), .val (.ref bb), .val (.int fr), .val (.int mx), .val (.int to), .val (.int md), .val (.int ix), .val (.long z48), .second, .val (.long z49), .second, .val (.long z50), .second, .unset, .unset, .unset, .unset, .unset]) rfl kont) ?_
  show own_Go p e below s _ _ _ (T50.setTop (mkF m 306 #[.val (.long ax), .second, .val (.long ay), .second, .val (.int aa), .val (.int ab), .val (.int ac), .val (.int ae), .val (.ref bb), .val (.int fr), .val (.int mx), .val (.int to), .val (.int md), .val (.int ix), .val (.long z48), .second, .val (.long z49), .second, .val (.long z50), .second, .unset, .unset, .unset, .unset, .unset] []))
  refine own_st (fun _ kont => XS.aload X50.here hx rfl (hb hby at_306) rfl rfl kont) ?_
  show own_Go p e below s _ _ _ (T50.setTop (mkF m 308 #[.val (.long ax), .second, .val (.long ay), .second, .val (.int aa), .val (.int ab), .val (.int ac), .val (.int ae), .val (.ref bb), .val (.int fr), .val (.int mx), .val (.int to), .val (.int md), .val (.int ix), .val (.long z48), .second, .val (.long z49), .second, .val (.long z50), .second, .unset, .unset, .unset, .unset, .unset] [(.ref bb)]))
  refine own_st (fun _ kont => XS.iload X50.here hx rfl (hb hby at_308) rfl kont) ?_
  show own_Go p e below s _ _ _ (T50.setTop (mkF m 310 #[.val (.long ax), .second, .val (.long ay), .second, .val (.int aa), .val (.int ab), .val (.int ac), .val (.int ae), .val (.ref bb), .val (.int fr), .val (.int mx), .val (.int to), .val (.int md), .val (.int ix), .val (.long z48), .second, .val (.long z49), .second, .val (.long z50), .second, .unset, .unset, .unset, .unset, .unset] [(.int ix), (.ref bb)]))
  refine own_st (fun _ kont => XS.iload X50.here hx rfl (hb hby at_310) rfl kont) ?_
  show own_Go p e below s _ _ _ (T50.setTop (mkF m 312 #[.val (.long ax), .second, .val (.long ay), .second, .val (.int aa), .val (.int ab), .val (.int ac), .val (.int ae), .val (.ref bb), .val (.int fr), .val (.int mx), .val (.int to), .val (.int md), .val (.int ix), .val (.long z48), .second, .val (.long z49), .second, .val (.long z50), .second, .unset, .unset, .unset, .unset, .unset] [(.int ix), (.int ix), (.ref bb)]))
  refine own_st (fun _ kont => XS.iconst X50.here hx rfl (hb hby at_312) kont) ?_
  show own_Go p e below s _ _ _ (T50.setTop (mkF m 313 #[.val (.long ax), .second, .val (.long ay), .second, .val (.int aa), .val (.int ab), .val (.int ac), .val (.int ae), .val (.ref bb), .val (.int fr), .val (.int mx), .val (.int to), .val (.int md), .val (.int ix), .val (.long z48), .second, .val (.long z49), .second, .val (.long z50), .second, .unset, .unset, .unset, .unset, .unset] [(.int (1 : Int32)), (.int ix), (.int ix), (.ref bb)]))
  refine own_st (fun _ kont => XS.iadd X50.here hx rfl (hb hby at_313) rfl kont) ?_
  show own_Go p e below s _ _ _ (T50.setTop (mkF m 314 #[.val (.long ax), .second, .val (.long ay), .second, .val (.int aa), .val (.int ab), .val (.int ac), .val (.int ae), .val (.ref bb), .val (.int fr), .val (.int mx), .val (.int to), .val (.int md), .val (.int ix), .val (.long z48), .second, .val (.long z49), .second, .val (.long z50), .second, .unset, .unset, .unset, .unset, .unset] [(.int (ix + (1 : Int32))), (.int ix), (.ref bb)]))
  refine own_cS X50 hx hml hZ hown (hw _ (List.mem_of_getElem? (i := 12) rfl)) (hw _ (List.mem_of_getElem? (i := 13) rfl)) (hw _ (List.mem_of_getElem? (i := 14) rfl)) (hw _ (List.mem_of_getElem? (i := 15) rfl)) (by decide) (own_rm4 l Z a0 hw bb ix (ix + (1 : Int32)) f20 ii 1 h41 n0 sz41 Vbb_41 hf20 hix (own_addN hix (by decide) (by omega)) (by omega) (by omega)) eh50 (by decide) (W := 0) (by decide) (g := (mkF m 314 #[.val (.long ax), .second, .val (.long ay), .second, .val (.int aa), .val (.int ab), .val (.int ac), .val (.int ae), .val (.ref bb), .val (.int fr), .val (.int mx), .val (.int to), .val (.int md), .val (.int ix), .val (.long z48), .second, .val (.long z49), .second, .val (.long z50), .second, .unset, .unset, .unset, .unset, .unset] [(.int (ix + (1 : Int32))), (.int ix), (.ref bb)])) rfl rfl own_pd2 (argsL := [(.ref bb), (.int ix), (.int (ix + (1 : Int32)))]) (rest := []) rfl rfl rfl (by show 2 * 0 + _ ≤ _; exact Nat.le_of_eq rfl) (hb hby at_314) (by decide) (by decide) ?_
  intro T51 L51 v51 X51 hQ51
  obtain ⟨⟨z51, rfl, hz51⟩, eh51, le51⟩ := hQ51
  have N51 := own_nil N50 le51
  show own_Go p e below s _ _ _ (T51.setTop (mkF m 317 #[.val (.long ax), .second, .val (.long ay), .second, .val (.int aa), .val (.int ab), .val (.int ac), .val (.int ae), .val (.ref bb), .val (.int fr), .val (.int mx), .val (.int to), .val (.int md), .val (.int ix), .val (.long z48), .second, .val (.long z49), .second, .val (.long z50), .second, .unset, .unset, .unset, .unset, .unset] [(.long z51)]))
  refine own_st (fun _ kont => XS.lstore X51.here hx rfl (hb hby at_317) rfl (l' := #[.val (.long ax), .second, .val (.long ay), .second, .val (.int aa), .val (.int ab), .val (.int ac), .val (.int ae), .val (.ref bb), .val (.int fr), .val (.int mx), .val (.int to), .val (.int md), .val (.int ix), .val (.long z48), .second, .val (.long z49), .second, .val (.long z50), .second, .val (.long z51), .second, .unset, .unset, .unset]) rfl kont) ?_
  show own_Go p e below s _ _ _ (T51.setTop (mkF m 319 #[.val (.long ax), .second, .val (.long ay), .second, .val (.int aa), .val (.int ab), .val (.int ac), .val (.int ae), .val (.ref bb), .val (.int fr), .val (.int mx), .val (.int to), .val (.int md), .val (.int ix), .val (.long z48), .second, .val (.long z49), .second, .val (.long z50), .second, .val (.long z51), .second, .unset, .unset, .unset] []))
  refine own_st (fun _ kont => XS.lload X51.here hx rfl (hb hby at_319) rfl kont) ?_
  show own_Go p e below s _ _ _ (T51.setTop (mkF m 321 #[.val (.long ax), .second, .val (.long ay), .second, .val (.int aa), .val (.int ab), .val (.int ac), .val (.int ae), .val (.ref bb), .val (.int fr), .val (.int mx), .val (.int to), .val (.int md), .val (.int ix), .val (.long z48), .second, .val (.long z49), .second, .val (.long z50), .second, .val (.long z51), .second, .unset, .unset, .unset] [(.long z48)]))
  refine own_st (fun _ kont => XS.lload X51.here hx rfl (hb hby at_321) rfl kont) ?_
  show own_Go p e below s _ _ _ (T51.setTop (mkF m 323 #[.val (.long ax), .second, .val (.long ay), .second, .val (.int aa), .val (.int ab), .val (.int ac), .val (.int ae), .val (.ref bb), .val (.int fr), .val (.int mx), .val (.int to), .val (.int md), .val (.int ix), .val (.long z48), .second, .val (.long z49), .second, .val (.long z50), .second, .val (.long z51), .second, .unset, .unset, .unset] [(.long z49), (.long z48)]))
  refine own_st (fun _ kont => XS.iload X51.here hx rfl (hb hby at_323) rfl kont) ?_
  show own_Go p e below s _ _ _ (T51.setTop (mkF m 325 #[.val (.long ax), .second, .val (.long ay), .second, .val (.int aa), .val (.int ab), .val (.int ac), .val (.int ae), .val (.ref bb), .val (.int fr), .val (.int mx), .val (.int to), .val (.int md), .val (.int ix), .val (.long z48), .second, .val (.long z49), .second, .val (.long z50), .second, .val (.long z51), .second, .unset, .unset, .unset] [(.int to), (.long z49), (.long z48)]))
  refine own_st (fun _ kont => XS.iload X51.here hx rfl (hb hby at_325) rfl kont) ?_
  show own_Go p e below s _ _ _ (T51.setTop (mkF m 327 #[.val (.long ax), .second, .val (.long ay), .second, .val (.int aa), .val (.int ab), .val (.int ac), .val (.int ae), .val (.ref bb), .val (.int fr), .val (.int mx), .val (.int to), .val (.int md), .val (.int ix), .val (.long z48), .second, .val (.long z49), .second, .val (.long z50), .second, .val (.long z51), .second, .unset, .unset, .unset] [(.int md), (.int to), (.long z49), (.long z48)]))
  refine own_st (fun _ kont => XS.isub X51.here hx rfl (hb hby at_327) rfl kont) ?_
  show own_Go p e below s _ _ _ (T51.setTop (mkF m 328 #[.val (.long ax), .second, .val (.long ay), .second, .val (.int aa), .val (.int ab), .val (.int ac), .val (.int ae), .val (.ref bb), .val (.int fr), .val (.int mx), .val (.int to), .val (.int md), .val (.int ix), .val (.long z48), .second, .val (.long z49), .second, .val (.long z50), .second, .val (.long z51), .second, .unset, .unset, .unset] [(.int (to - md)), (.long z49), (.long z48)]))
  have htm : (to - md).toInt = (k2 : Int) := by
    rw [own_sub (by rw [hmd, hto]; omega) (by rw [hmd, hto]; omega), hmd, hto]
    omega
  refine own_cS X51 hx hml hZ hown (hw _ (List.mem_of_getElem? (i := 18) rfl)) (hw _ (List.mem_of_getElem? (i := 19) rfl)) (hw _ (List.mem_of_getElem? (i := 3) rfl)) (hw _ (List.mem_of_getElem? (i := 20) rfl)) (by decide) (own_rm3 l Z a0 hw (to - md) k2 h41 n0 sz41 htm (by omega)) eh51 (by decide) (W := 4) (by decide) (g := (mkF m 328 #[.val (.long ax), .second, .val (.long ay), .second, .val (.int aa), .val (.int ab), .val (.int ac), .val (.int ae), .val (.ref bb), .val (.int fr), .val (.int mx), .val (.int to), .val (.int md), .val (.int ix), .val (.long z48), .second, .val (.long z49), .second, .val (.long z50), .second, .val (.long z51), .second, .unset, .unset, .unset] [(.int (to - md)), (.long z49), (.long z48)])) rfl rfl own_pd3 (argsL := [(.int (to - md))]) (rest := [(.long z49), (.long z48)]) rfl rfl rfl (by show 2 * 0 + _ ≤ _; exact Nat.le_of_eq rfl) (hb hby at_328) (by decide) (by decide) ?_
  intro T52 L52 v52 X52 hQ52
  obtain ⟨⟨z52, rfl, hz52⟩, Nc52, K52⟩ := hQ52
  have N52 := Fr.app N51 Nc52
  have Vbb_52 := Vbb_41.keep K52 nin0
  have sz52 := Nat.le_trans sz41 K52.1
  show own_Go p e below s _ _ _ (T52.setTop (mkF m 331 #[.val (.long ax), .second, .val (.long ay), .second, .val (.int aa), .val (.int ab), .val (.int ac), .val (.int ae), .val (.ref bb), .val (.int fr), .val (.int mx), .val (.int to), .val (.int md), .val (.int ix), .val (.long z48), .second, .val (.long z49), .second, .val (.long z50), .second, .val (.long z51), .second, .unset, .unset, .unset] [(.long z52), (.long z49), (.long z48)]))
  refine own_st (fun _ kont => XS.lmul X52.here hx rfl (hb hby at_331) rfl kont) ?_
  show own_Go p e below s _ _ _ (T52.setTop (mkF m 332 #[.val (.long ax), .second, .val (.long ay), .second, .val (.int aa), .val (.int ab), .val (.int ac), .val (.int ae), .val (.ref bb), .val (.int fr), .val (.int mx), .val (.int to), .val (.int md), .val (.int ix), .val (.long z48), .second, .val (.long z49), .second, .val (.long z50), .second, .val (.long z51), .second, .unset, .unset, .unset] [(.long (z49 * z52)), (.long z48)]))
  refine own_st (fun _ kont => XS.lload X52.here hx rfl (hb hby at_332) rfl kont) ?_
  show own_Go p e below s _ _ _ (T52.setTop (mkF m 334 #[.val (.long ax), .second, .val (.long ay), .second, .val (.int aa), .val (.int ab), .val (.int ac), .val (.int ae), .val (.ref bb), .val (.int fr), .val (.int mx), .val (.int to), .val (.int md), .val (.int ix), .val (.long z48), .second, .val (.long z49), .second, .val (.long z50), .second, .val (.long z51), .second, .unset, .unset, .unset] [(.long z50), (.long (z49 * z52)), (.long z48)]))
  refine own_st (fun _ kont => XS.ladd X52.here hx rfl (hb hby at_334) rfl kont) ?_
  show own_Go p e below s _ _ _ (T52.setTop (mkF m 335 #[.val (.long ax), .second, .val (.long ay), .second, .val (.int aa), .val (.int ab), .val (.int ac), .val (.int ae), .val (.ref bb), .val (.int fr), .val (.int mx), .val (.int to), .val (.int md), .val (.int ix), .val (.long z48), .second, .val (.long z49), .second, .val (.long z50), .second, .val (.long z51), .second, .unset, .unset, .unset] [(.long ((z49 * z52) + z50)), (.long z48)]))
  refine own_st (fun _ kont => XT.lcmp X52.here hx rfl (hb hby at_335) rfl kont) ?_
  show own_Go p e below s _ _ _ (T52.setTop (mkF m 336 #[.val (.long ax), .second, .val (.long ay), .second, .val (.int aa), .val (.int ab), .val (.int ac), .val (.int ae), .val (.ref bb), .val (.int fr), .val (.int mx), .val (.int to), .val (.int md), .val (.int ix), .val (.long z48), .second, .val (.long z49), .second, .val (.long z50), .second, .val (.long z51), .second, .unset, .unset, .unset] [(.int (XT.cmpL z48 ((z49 * z52) + z50)))]))
  have hsp : z48 = ((z49 * z52) + z50) := own_splitL hf20 (by omega) (by omega) (by rw [hz48, hk]) hz49 hz52 hz50
  show own_Go p e below s _ _ _ (T52.setTop (mkF m 336 #[.val (.long ax), .second, .val (.long ay), .second, .val (.int aa), .val (.int ab), .val (.int ac), .val (.int ae), .val (.ref bb), .val (.int fr), .val (.int mx), .val (.int to), .val (.int md), .val (.int ix), .val (.long z48), .second, .val (.long z49), .second, .val (.long z50), .second, .val (.long z51), .second, .unset, .unset, .unset] [(.int (XT.cmpL z48 ((z49 * z52) + z50)))]))
  refine own_st (fun _ kont => XS.ifNo X52.here hx rfl (hb hby at_336) rfl ((if0 _ _).trans (teq (own_ce hsp)).2) kont) ?_
  show own_Go p e below s _ _ _ (T52.setTop (mkF m 339 #[.val (.long ax), .second, .val (.long ay), .second, .val (.int aa), .val (.int ab), .val (.int ac), .val (.int ae), .val (.ref bb), .val (.int fr), .val (.int mx), .val (.int to), .val (.int md), .val (.int ix), .val (.long z48), .second, .val (.long z49), .second, .val (.long z50), .second, .val (.long z51), .second, .unset, .unset, .unset] []))
  refine own_st (fun _ kont => XS.iconst X52.here hx rfl (hb hby at_339) kont) ?_
  show own_Go p e below s _ _ _ (T52.setTop (mkF m 340 #[.val (.long ax), .second, .val (.long ay), .second, .val (.int aa), .val (.int ab), .val (.int ac), .val (.int ae), .val (.ref bb), .val (.int fr), .val (.int mx), .val (.int to), .val (.int md), .val (.int ix), .val (.long z48), .second, .val (.long z49), .second, .val (.long z50), .second, .val (.long z51), .second, .unset, .unset, .unset] [(.int (1 : Int32))]))
  refine own_st (fun _ kont => XS.goto X52.here hx rfl (pc0 := 340) (pc' := 344) rfl (hb hby at_340) (by decide) (by decide) kont) ?_
  show own_Go p e below s _ _ _ (T52.setTop (mkF m 344 #[.val (.long ax), .second, .val (.long ay), .second, .val (.int aa), .val (.int ab), .val (.int ac), .val (.int ae), .val (.ref bb), .val (.int fr), .val (.int mx), .val (.int to), .val (.int md), .val (.int ix), .val (.long z48), .second, .val (.long z49), .second, .val (.long z50), .second, .val (.long z51), .second, .unset, .unset, .unset] [(.int (1 : Int32))]))
  refine own_st (fun _ kont => XS.istore X52.here hx rfl (hb hby at_344) rfl (l' := #[.val (.long ax), .second, .val (.long ay), .second, .val (.int aa), .val (.int ab), .val (.int ac), .val (.int ae), .val (.ref bb), .val (.int fr), .val (.int mx), .val (.int to), .val (.int md), .val (.int ix), .val (.long z48), .second, .val (.long z49), .second, .val (.long z50), .second, .val (.long z51), .second, .val (.int (1 : Int32)), .unset, .unset]) rfl kont) ?_
  show own_Go p e below s _ _ _ (T52.setTop (mkF m 346 #[.val (.long ax), .second, .val (.long ay), .second, .val (.int aa), .val (.int ab), .val (.int ac), .val (.int ae), .val (.ref bb), .val (.int fr), .val (.int mx), .val (.int to), .val (.int md), .val (.int ix), .val (.long z48), .second, .val (.long z49), .second, .val (.long z50), .second, .val (.long z51), .second, .val (.int (1 : Int32)), .unset, .unset] []))
  refine own_st (fun _ kont => XS.lload X52.here hx rfl (hb hby at_346) rfl kont) ?_
  show own_Go p e below s _ _ _ (T52.setTop (mkF m 348 #[.val (.long ax), .second, .val (.long ay), .second, .val (.int aa), .val (.int ab), .val (.int ac), .val (.int ae), .val (.ref bb), .val (.int fr), .val (.int mx), .val (.int to), .val (.int md), .val (.int ix), .val (.long z48), .second, .val (.long z49), .second, .val (.long z50), .second, .val (.long z51), .second, .val (.int (1 : Int32)), .unset, .unset] [(.long z48)]))
  refine own_st (fun _ kont => XS.lconst X52.here hx rfl (hb hby at_348) kont) ?_
  show own_Go p e below s _ _ _ (T52.setTop (mkF m 349 #[.val (.long ax), .second, .val (.long ay), .second, .val (.int aa), .val (.int ab), .val (.int ac), .val (.int ae), .val (.ref bb), .val (.int fr), .val (.int mx), .val (.int to), .val (.int md), .val (.int ix), .val (.long z48), .second, .val (.long z49), .second, .val (.long z50), .second, .val (.long z51), .second, .val (.int (1 : Int32)), .unset, .unset] [(.long (0 : Int64)), (.long z48)]))
  refine own_st (fun _ kont => XT.lcmp X52.here hx rfl (hb hby at_349) rfl kont) ?_
  show own_Go p e below s _ _ _ (T52.setTop (mkF m 350 #[.val (.long ax), .second, .val (.long ay), .second, .val (.int aa), .val (.int ab), .val (.int ac), .val (.int ae), .val (.ref bb), .val (.int fr), .val (.int mx), .val (.int to), .val (.int md), .val (.int ix), .val (.long z48), .second, .val (.long z49), .second, .val (.long z50), .second, .val (.long z51), .second, .val (.int (1 : Int32)), .unset, .unset] [(.int (XT.cmpL z48 (0 : Int64)))]))
  have hz0 : ((0 : Int64)).toInt = 0 := by decide
  show own_Go p e below s _ _ _ (T52.setTop (mkF m 350 #[.val (.long ax), .second, .val (.long ay), .second, .val (.int aa), .val (.int ab), .val (.int ac), .val (.int ae), .val (.ref bb), .val (.int fr), .val (.int mx), .val (.int to), .val (.int md), .val (.int ix), .val (.long z48), .second, .val (.long z49), .second, .val (.long z50), .second, .val (.long z51), .second, .val (.int (1 : Int32)), .unset, .unset] [(.int (XT.cmpL z48 (0 : Int64)))]))
  refine own_st (fun _ kont => XS.ifNo X52.here hx rfl (hb hby at_350) rfl ((if0 _ _).trans (flt (fun u => by rw [own_cl, Int64.lt_iff_toInt_lt, hz48, hz0] at u; omega)).1) kont) ?_
  show own_Go p e below s _ _ _ (T52.setTop (mkF m 353 #[.val (.long ax), .second, .val (.long ay), .second, .val (.int aa), .val (.int ab), .val (.int ac), .val (.int ae), .val (.ref bb), .val (.int fr), .val (.int mx), .val (.int to), .val (.int md), .val (.int ix), .val (.long z48), .second, .val (.long z49), .second, .val (.long z50), .second, .val (.long z51), .second, .val (.int (1 : Int32)), .unset, .unset] []))
  refine own_st (fun _ kont => XS.lload X52.here hx rfl (hb hby at_353) rfl kont) ?_
  show own_Go p e below s _ _ _ (T52.setTop (mkF m 355 #[.val (.long ax), .second, .val (.long ay), .second, .val (.int aa), .val (.int ab), .val (.int ac), .val (.int ae), .val (.ref bb), .val (.int fr), .val (.int mx), .val (.int to), .val (.int md), .val (.int ix), .val (.long z48), .second, .val (.long z49), .second, .val (.long z50), .second, .val (.long z51), .second, .val (.int (1 : Int32)), .unset, .unset] [(.long z48)]))
  refine own_st (fun _ kont => XS.iload X52.here hx rfl (hb hby at_355) rfl kont) ?_
  show own_Go p e below s _ _ _ (T52.setTop (mkF m 357 #[.val (.long ax), .second, .val (.long ay), .second, .val (.int aa), .val (.int ab), .val (.int ac), .val (.int ae), .val (.ref bb), .val (.int fr), .val (.int mx), .val (.int to), .val (.int md), .val (.int ix), .val (.long z48), .second, .val (.long z49), .second, .val (.long z50), .second, .val (.long z51), .second, .val (.int (1 : Int32)), .unset, .unset] [(.int to), (.long z48)]))
  refine own_st (fun _ kont => XS.iload X52.here hx rfl (hb hby at_357) rfl kont) ?_
  show own_Go p e below s _ _ _ (T52.setTop (mkF m 359 #[.val (.long ax), .second, .val (.long ay), .second, .val (.int aa), .val (.int ab), .val (.int ac), .val (.int ae), .val (.ref bb), .val (.int fr), .val (.int mx), .val (.int to), .val (.int md), .val (.int ix), .val (.long z48), .second, .val (.long z49), .second, .val (.long z50), .second, .val (.long z51), .second, .val (.int (1 : Int32)), .unset, .unset] [(.int fr), (.int to), (.long z48)]))
  refine own_st (fun _ kont => XS.isub X52.here hx rfl (hb hby at_359) rfl kont) ?_
  show own_Go p e below s _ _ _ (T52.setTop (mkF m 360 #[.val (.long ax), .second, .val (.long ay), .second, .val (.int aa), .val (.int ab), .val (.int ac), .val (.int ae), .val (.ref bb), .val (.int fr), .val (.int mx), .val (.int to), .val (.int md), .val (.int ix), .val (.long z48), .second, .val (.long z49), .second, .val (.long z50), .second, .val (.long z51), .second, .val (.int (1 : Int32)), .unset, .unset] [(.int (to - fr)), (.long z48)]))
  refine own_cS X52 hx hml hZ hown (hw _ (List.mem_of_getElem? (i := 18) rfl)) (hw _ (List.mem_of_getElem? (i := 19) rfl)) (hw _ (List.mem_of_getElem? (i := 3) rfl)) (hw _ (List.mem_of_getElem? (i := 20) rfl)) (by decide) (own_rm3 l Z a0 hw (to - fr) n T52.heap n0 sz52 htf (by omega)) (rfl : T52.heap = T52.heap) (by decide) (W := 2) (by decide) (g := (mkF m 360 #[.val (.long ax), .second, .val (.long ay), .second, .val (.int aa), .val (.int ab), .val (.int ac), .val (.int ae), .val (.ref bb), .val (.int fr), .val (.int mx), .val (.int to), .val (.int md), .val (.int ix), .val (.long z48), .second, .val (.long z49), .second, .val (.long z50), .second, .val (.long z51), .second, .val (.int (1 : Int32)), .unset, .unset] [(.int (to - fr)), (.long z48)])) rfl rfl own_pd3 (argsL := [(.int (to - fr))]) (rest := [(.long z48)]) rfl rfl rfl (by show 2 * 0 + _ ≤ _; exact Nat.le_of_eq rfl) (hb hby at_360) (by decide) (by decide) ?_
  intro T53 L53 v53 X53 hQ53
  obtain ⟨⟨z53, rfl, hz53⟩, Nc53, K53⟩ := hQ53
  have N53 := Fr.app N52 Nc53
  have Vbb_53 := Vbb_52.keep K53 nin0
  have sz53 := Nat.le_trans sz52 K53.1
  show own_Go p e below s _ _ _ (T53.setTop (mkF m 363 #[.val (.long ax), .second, .val (.long ay), .second, .val (.int aa), .val (.int ab), .val (.int ac), .val (.int ae), .val (.ref bb), .val (.int fr), .val (.int mx), .val (.int to), .val (.int md), .val (.int ix), .val (.long z48), .second, .val (.long z49), .second, .val (.long z50), .second, .val (.long z51), .second, .val (.int (1 : Int32)), .unset, .unset] [(.long z53), (.long z48)]))
  refine own_st (fun _ kont => XT.lcmp X53.here hx rfl (hb hby at_363) rfl kont) ?_
  show own_Go p e below s _ _ _ (T53.setTop (mkF m 364 #[.val (.long ax), .second, .val (.long ay), .second, .val (.int aa), .val (.int ab), .val (.int ac), .val (.int ae), .val (.ref bb), .val (.int fr), .val (.int mx), .val (.int to), .val (.int md), .val (.int ix), .val (.long z48), .second, .val (.long z49), .second, .val (.long z50), .second, .val (.long z51), .second, .val (.int (1 : Int32)), .unset, .unset] [(.int (XT.cmpL z48 z53))]))
  refine own_st (fun _ kont => XS.ifNo X53.here hx rfl (hb hby at_364) rfl ((if0 _ _).trans (tlt (own_cl.mpr (Int64.lt_iff_toInt_lt.mpr (by rw [hz48, hz53]; exact Int.ofNat_lt.mpr (own_dec_lt (fun t ht => hf20 t (by omega))))))).2.1) kont) ?_
  show own_Go p e below s _ _ _ (T53.setTop (mkF m 367 #[.val (.long ax), .second, .val (.long ay), .second, .val (.int aa), .val (.int ab), .val (.int ac), .val (.int ae), .val (.ref bb), .val (.int fr), .val (.int mx), .val (.int to), .val (.int md), .val (.int ix), .val (.long z48), .second, .val (.long z49), .second, .val (.long z50), .second, .val (.long z51), .second, .val (.int (1 : Int32)), .unset, .unset] []))
  refine own_st (fun _ kont => XS.iconst X53.here hx rfl (hb hby at_367) kont) ?_
  show own_Go p e below s _ _ _ (T53.setTop (mkF m 368 #[.val (.long ax), .second, .val (.long ay), .second, .val (.int aa), .val (.int ab), .val (.int ac), .val (.int ae), .val (.ref bb), .val (.int fr), .val (.int mx), .val (.int to), .val (.int md), .val (.int ix), .val (.long z48), .second, .val (.long z49), .second, .val (.long z50), .second, .val (.long z51), .second, .val (.int (1 : Int32)), .unset, .unset] [(.int (1 : Int32))]))
  refine own_st (fun _ kont => XS.goto X53.here hx rfl (pc0 := 368) (pc' := 372) rfl (hb hby at_368) (by decide) (by decide) kont) ?_
  show own_Go p e below s _ _ _ (T53.setTop (mkF m 372 #[.val (.long ax), .second, .val (.long ay), .second, .val (.int aa), .val (.int ab), .val (.int ac), .val (.int ae), .val (.ref bb), .val (.int fr), .val (.int mx), .val (.int to), .val (.int md), .val (.int ix), .val (.long z48), .second, .val (.long z49), .second, .val (.long z50), .second, .val (.long z51), .second, .val (.int (1 : Int32)), .unset, .unset] [(.int (1 : Int32))]))
  refine own_st (fun _ kont => XS.istore X53.here hx rfl (hb hby at_372) rfl (l' := #[.val (.long ax), .second, .val (.long ay), .second, .val (.int aa), .val (.int ab), .val (.int ac), .val (.int ae), .val (.ref bb), .val (.int fr), .val (.int mx), .val (.int to), .val (.int md), .val (.int ix), .val (.long z48), .second, .val (.long z49), .second, .val (.long z50), .second, .val (.long z51), .second, .val (.int (1 : Int32)), .val (.int (1 : Int32)), .unset]) rfl kont) ?_
  show own_Go p e below s _ _ _ (T53.setTop (mkF m 374 #[.val (.long ax), .second, .val (.long ay), .second, .val (.int aa), .val (.int ab), .val (.int ac), .val (.int ae), .val (.ref bb), .val (.int fr), .val (.int mx), .val (.int to), .val (.int md), .val (.int ix), .val (.long z48), .second, .val (.long z49), .second, .val (.long z50), .second, .val (.long z51), .second, .val (.int (1 : Int32)), .val (.int (1 : Int32)), .unset] []))
  refine own_st (fun _ kont => XS.lload X53.here hx rfl (hb hby at_374) rfl kont) ?_
  show own_Go p e below s _ _ _ (T53.setTop (mkF m 376 #[.val (.long ax), .second, .val (.long ay), .second, .val (.int aa), .val (.int ab), .val (.int ac), .val (.int ae), .val (.ref bb), .val (.int fr), .val (.int mx), .val (.int to), .val (.int md), .val (.int ix), .val (.long z48), .second, .val (.long z49), .second, .val (.long z50), .second, .val (.long z51), .second, .val (.int (1 : Int32)), .val (.int (1 : Int32)), .unset] [(.long z51)]))
  refine own_st (fun _ kont => XS.aload X53.here hx rfl (hb hby at_376) rfl rfl kont) ?_
  show own_Go p e below s _ _ _ (T53.setTop (mkF m 378 #[.val (.long ax), .second, .val (.long ay), .second, .val (.int aa), .val (.int ab), .val (.int ac), .val (.int ae), .val (.ref bb), .val (.int fr), .val (.int mx), .val (.int to), .val (.int md), .val (.int ix), .val (.long z48), .second, .val (.long z49), .second, .val (.long z50), .second, .val (.long z51), .second, .val (.int (1 : Int32)), .val (.int (1 : Int32)), .unset] [(.ref bb), (.long z51)]))
  refine own_st (fun _ kont => XS.iload X53.here hx rfl (hb hby at_378) rfl kont) ?_
  show own_Go p e below s _ _ _ (T53.setTop (mkF m 380 #[.val (.long ax), .second, .val (.long ay), .second, .val (.int aa), .val (.int ab), .val (.int ac), .val (.int ae), .val (.ref bb), .val (.int fr), .val (.int mx), .val (.int to), .val (.int md), .val (.int ix), .val (.long z48), .second, .val (.long z49), .second, .val (.long z50), .second, .val (.long z51), .second, .val (.int (1 : Int32)), .val (.int (1 : Int32)), .unset] [(.int ix), (.ref bb), (.long z51)]))
  refine own_st (own_ldB X53 hx hZ (rfl : T53.heap = T53.heap) Vbb_53 (i := ii) hix hii (v := (.int (f20 ii))) rfl (g := (mkF m 380 #[.val (.long ax), .second, .val (.long ay), .second, .val (.int aa), .val (.int ab), .val (.int ac), .val (.int ae), .val (.ref bb), .val (.int fr), .val (.int mx), .val (.int to), .val (.int md), .val (.int ix), .val (.long z48), .second, .val (.long z49), .second, .val (.long z50), .second, .val (.long z51), .second, .val (.int (1 : Int32)), .val (.int (1 : Int32)), .unset] [(.int ix), (.ref bb), (.long z51)])) rfl rfl (hb hby at_380)) ?_
  show own_Go p e below s _ _ _ (T53.setTop (mkF m 381 #[.val (.long ax), .second, .val (.long ay), .second, .val (.int aa), .val (.int ab), .val (.int ac), .val (.int ae), .val (.ref bb), .val (.int fr), .val (.int mx), .val (.int to), .val (.int md), .val (.int ix), .val (.long z48), .second, .val (.long z49), .second, .val (.long z50), .second, .val (.long z51), .second, .val (.int (1 : Int32)), .val (.int (1 : Int32)), .unset] [(.int (f20 ii)), (.long z51)]))
  refine own_st (fun _ kont => XS.bipush X53.here hx rfl (hb hby at_381) kont) ?_
  show own_Go p e below s _ _ _ (T53.setTop (mkF m 383 #[.val (.long ax), .second, .val (.long ay), .second, .val (.int aa), .val (.int ab), .val (.int ac), .val (.int ae), .val (.ref bb), .val (.int fr), .val (.int mx), .val (.int to), .val (.int md), .val (.int ix), .val (.long z48), .second, .val (.long z49), .second, .val (.long z50), .second, .val (.long z51), .second, .val (.int (1 : Int32)), .val (.int (1 : Int32)), .unset] [(.int (48 : Int32)), (.int (f20 ii)), (.long z51)]))
  refine own_st (fun _ kont => XS.isub X53.here hx rfl (hb hby at_383) rfl kont) ?_
  show own_Go p e below s _ _ _ (T53.setTop (mkF m 384 #[.val (.long ax), .second, .val (.long ay), .second, .val (.int aa), .val (.int ab), .val (.int ac), .val (.int ae), .val (.ref bb), .val (.int fr), .val (.int mx), .val (.int to), .val (.int md), .val (.int ix), .val (.long z48), .second, .val (.long z49), .second, .val (.long z50), .second, .val (.long z51), .second, .val (.int (1 : Int32)), .val (.int (1 : Int32)), .unset] [(.int ((f20 ii) - (48 : Int32))), (.long z51)]))
  refine own_st (fun _ kont => XS.i2l X53.here hx rfl (hb hby at_384) rfl kont) ?_
  show own_Go p e below s _ _ _ (T53.setTop (mkF m 385 #[.val (.long ax), .second, .val (.long ay), .second, .val (.int aa), .val (.int ab), .val (.int ac), .val (.int ae), .val (.ref bb), .val (.int fr), .val (.int mx), .val (.int to), .val (.int md), .val (.int ix), .val (.long z48), .second, .val (.long z49), .second, .val (.long z50), .second, .val (.long z51), .second, .val (.int (1 : Int32)), .val (.int (1 : Int32)), .unset] [(.long (((f20 ii) - (48 : Int32))).toInt64), (.long z51)]))
  refine own_st (fun _ kont => XT.lcmp X53.here hx rfl (hb hby at_385) rfl kont) ?_
  show own_Go p e below s _ _ _ (T53.setTop (mkF m 386 #[.val (.long ax), .second, .val (.long ay), .second, .val (.int aa), .val (.int ab), .val (.int ac), .val (.int ae), .val (.ref bb), .val (.int fr), .val (.int mx), .val (.int to), .val (.int md), .val (.int ix), .val (.long z48), .second, .val (.long z49), .second, .val (.long z50), .second, .val (.long z51), .second, .val (.int (1 : Int32)), .val (.int (1 : Int32)), .unset] [(.int (XT.cmpL z51 (((f20 ii) - (48 : Int32))).toInt64))]))
  have hon : z51 = (((f20 ii) - (48 : Int32))).toInt64 := by
    have c1 : ((48 : Int32)).toInt = 48 := by decide
    have d := hf20 ii hii
    unfold own_dg at d
    apply Int64.toInt_inj.mp
    rw [hz51, Int32.toInt_toInt64, own_sub (by rw [c1]; omega) (by rw [c1]; omega), c1]
    show ((0 * 10 + ((f20 (ii + 0)).toInt - 48).toNat : Nat) : Int) = _
    rw [Nat.add_zero]
    omega
  show own_Go p e below s _ _ _ (T53.setTop (mkF m 386 #[.val (.long ax), .second, .val (.long ay), .second, .val (.int aa), .val (.int ab), .val (.int ac), .val (.int ae), .val (.ref bb), .val (.int fr), .val (.int mx), .val (.int to), .val (.int md), .val (.int ix), .val (.long z48), .second, .val (.long z49), .second, .val (.long z50), .second, .val (.long z51), .second, .val (.int (1 : Int32)), .val (.int (1 : Int32)), .unset] [(.int (XT.cmpL z51 (((f20 ii) - (48 : Int32))).toInt64))]))
  refine own_st (fun _ kont => XS.ifNo X53.here hx rfl (hb hby at_386) rfl ((if0 _ _).trans (teq (own_ce hon)).2) kont) ?_
  show own_Go p e below s _ _ _ (T53.setTop (mkF m 389 #[.val (.long ax), .second, .val (.long ay), .second, .val (.int aa), .val (.int ab), .val (.int ac), .val (.int ae), .val (.ref bb), .val (.int fr), .val (.int mx), .val (.int to), .val (.int md), .val (.int ix), .val (.long z48), .second, .val (.long z49), .second, .val (.long z50), .second, .val (.long z51), .second, .val (.int (1 : Int32)), .val (.int (1 : Int32)), .unset] []))
  refine own_st (fun _ kont => XS.iconst X53.here hx rfl (hb hby at_389) kont) ?_
  show own_Go p e below s _ _ _ (T53.setTop (mkF m 390 #[.val (.long ax), .second, .val (.long ay), .second, .val (.int aa), .val (.int ab), .val (.int ac), .val (.int ae), .val (.ref bb), .val (.int fr), .val (.int mx), .val (.int to), .val (.int md), .val (.int ix), .val (.long z48), .second, .val (.long z49), .second, .val (.long z50), .second, .val (.long z51), .second, .val (.int (1 : Int32)), .val (.int (1 : Int32)), .unset] [(.int (1 : Int32))]))
  refine own_st (fun _ kont => XS.goto X53.here hx rfl (pc0 := 390) (pc' := 394) rfl (hb hby at_390) (by decide) (by decide) kont) ?_
  show own_Go p e below s _ _ _ (T53.setTop (mkF m 394 #[.val (.long ax), .second, .val (.long ay), .second, .val (.int aa), .val (.int ab), .val (.int ac), .val (.int ae), .val (.ref bb), .val (.int fr), .val (.int mx), .val (.int to), .val (.int md), .val (.int ix), .val (.long z48), .second, .val (.long z49), .second, .val (.long z50), .second, .val (.long z51), .second, .val (.int (1 : Int32)), .val (.int (1 : Int32)), .unset] [(.int (1 : Int32))]))
  refine own_st (fun _ kont => XS.istore X53.here hx rfl (hb hby at_394) rfl (l' := #[.val (.long ax), .second, .val (.long ay), .second, .val (.int aa), .val (.int ab), .val (.int ac), .val (.int ae), .val (.ref bb), .val (.int fr), .val (.int mx), .val (.int to), .val (.int md), .val (.int ix), .val (.long z48), .second, .val (.long z49), .second, .val (.long z50), .second, .val (.long z51), .second, .val (.int (1 : Int32)), .val (.int (1 : Int32)), .val (.int (1 : Int32))]) rfl kont) ?_
  show own_Go p e below s _ _ _ (T53.setTop (mkF m 396 #[.val (.long ax), .second, .val (.long ay), .second, .val (.int aa), .val (.int ab), .val (.int ac), .val (.int ae), .val (.ref bb), .val (.int fr), .val (.int mx), .val (.int to), .val (.int md), .val (.int ix), .val (.long z48), .second, .val (.long z49), .second, .val (.long z50), .second, .val (.long z51), .second, .val (.int (1 : Int32)), .val (.int (1 : Int32)), .val (.int (1 : Int32))] []))
  refine own_st (fun _ kont => XS.iload X53.here hx rfl (hb hby at_396) rfl kont) ?_
  show own_Go p e below s _ _ _ (T53.setTop (mkF m 398 #[.val (.long ax), .second, .val (.long ay), .second, .val (.int aa), .val (.int ab), .val (.int ac), .val (.int ae), .val (.ref bb), .val (.int fr), .val (.int mx), .val (.int to), .val (.int md), .val (.int ix), .val (.long z48), .second, .val (.long z49), .second, .val (.long z50), .second, .val (.long z51), .second, .val (.int (1 : Int32)), .val (.int (1 : Int32)), .val (.int (1 : Int32))] [(.int (1 : Int32))]))
  refine own_st (fun _ kont => XS.ifNo X53.here hx rfl (hb hby at_398) rfl (by decide) kont) ?_
  show own_Go p e below s _ _ _ (T53.setTop (mkF m 401 #[.val (.long ax), .second, .val (.long ay), .second, .val (.int aa), .val (.int ab), .val (.int ac), .val (.int ae), .val (.ref bb), .val (.int fr), .val (.int mx), .val (.int to), .val (.int md), .val (.int ix), .val (.long z48), .second, .val (.long z49), .second, .val (.long z50), .second, .val (.long z51), .second, .val (.int (1 : Int32)), .val (.int (1 : Int32)), .val (.int (1 : Int32))] []))
  refine own_st (fun _ kont => XS.iload X53.here hx rfl (hb hby at_401) rfl kont) ?_
  show own_Go p e below s _ _ _ (T53.setTop (mkF m 403 #[.val (.long ax), .second, .val (.long ay), .second, .val (.int aa), .val (.int ab), .val (.int ac), .val (.int ae), .val (.ref bb), .val (.int fr), .val (.int mx), .val (.int to), .val (.int md), .val (.int ix), .val (.long z48), .second, .val (.long z49), .second, .val (.long z50), .second, .val (.long z51), .second, .val (.int (1 : Int32)), .val (.int (1 : Int32)), .val (.int (1 : Int32))] [(.int (1 : Int32))]))
  refine own_st (fun _ kont => XS.ifNo X53.here hx rfl (hb hby at_403) rfl (by decide) kont) ?_
  show own_Go p e below s _ _ _ (T53.setTop (mkF m 406 #[.val (.long ax), .second, .val (.long ay), .second, .val (.int aa), .val (.int ab), .val (.int ac), .val (.int ae), .val (.ref bb), .val (.int fr), .val (.int mx), .val (.int to), .val (.int md), .val (.int ix), .val (.long z48), .second, .val (.long z49), .second, .val (.long z50), .second, .val (.long z51), .second, .val (.int (1 : Int32)), .val (.int (1 : Int32)), .val (.int (1 : Int32))] []))
  refine own_st (fun _ kont => XS.iload X53.here hx rfl (hb hby at_406) rfl kont) ?_
  show own_Go p e below s _ _ _ (T53.setTop (mkF m 408 #[.val (.long ax), .second, .val (.long ay), .second, .val (.int aa), .val (.int ab), .val (.int ac), .val (.int ae), .val (.ref bb), .val (.int fr), .val (.int mx), .val (.int to), .val (.int md), .val (.int ix), .val (.long z48), .second, .val (.long z49), .second, .val (.long z50), .second, .val (.long z51), .second, .val (.int (1 : Int32)), .val (.int (1 : Int32)), .val (.int (1 : Int32))] [(.int (1 : Int32))]))
  refine own_st (fun _ kont => XS.ifNo X53.here hx rfl (hb hby at_408) rfl (by decide) kont) ?_
  show own_Go p e below s _ _ _ (T53.setTop (mkF m 411 #[.val (.long ax), .second, .val (.long ay), .second, .val (.int aa), .val (.int ab), .val (.int ac), .val (.int ae), .val (.ref bb), .val (.int fr), .val (.int mx), .val (.int to), .val (.int md), .val (.int ix), .val (.long z48), .second, .val (.long z49), .second, .val (.long z50), .second, .val (.long z51), .second, .val (.int (1 : Int32)), .val (.int (1 : Int32)), .val (.int (1 : Int32))] []))
  refine own_st (fun _ kont => XS.iconst X53.here hx rfl (hb hby at_411) kont) ?_
  show own_Go p e below s _ _ _ (T53.setTop (mkF m 412 #[.val (.long ax), .second, .val (.long ay), .second, .val (.int aa), .val (.int ab), .val (.int ac), .val (.int ae), .val (.ref bb), .val (.int fr), .val (.int mx), .val (.int to), .val (.int md), .val (.int ix), .val (.long z48), .second, .val (.long z49), .second, .val (.long z50), .second, .val (.long z51), .second, .val (.int (1 : Int32)), .val (.int (1 : Int32)), .val (.int (1 : Int32))] [(.int (1 : Int32))]))
  refine own_st (fun _ kont => XS.goto X53.here hx rfl (pc0 := 412) (pc' := 416) rfl (hb hby at_412) (by decide) (by decide) kont) ?_
  show own_Go p e below s _ _ _ (T53.setTop (mkF m 416 #[.val (.long ax), .second, .val (.long ay), .second, .val (.int aa), .val (.int ab), .val (.int ac), .val (.int ae), .val (.ref bb), .val (.int fr), .val (.int mx), .val (.int to), .val (.int md), .val (.int ix), .val (.long z48), .second, .val (.long z49), .second, .val (.long z50), .second, .val (.long z51), .second, .val (.int (1 : Int32)), .val (.int (1 : Int32)), .val (.int (1 : Int32))] [(.int (1 : Int32))]))
  exact own_endN X53 hx hlk (t := .boolean) hret (by simp) (hb hby at_416) (w := (1 : Int32)) (by decide) ⟨rfl, N53⟩ (by decide) (by decide)
set_option maxRecDepth 65536 in
set_option maxHeartbeats 40000000 in
theorem own_comes {Post : Tables → Env → Array Value → State → Outcome → State → Prop} (hpost : ∀ tb e args s v u, (limb_1_1.after args s (.returned v) u = true ∧ limb_1_2.after args s (.returned v) u = true ∧ True) → FrameEnd s (.returned v) u (Jvm.fieldLocs frame_1_writes args s ++ Jvm.arrayLocs frame_1_arrays args s ++ Jvm.staticLocs frame_1_statics s) 16 192 → Post tb e args s (.returned v) u) :
    ArmFor flags0 classFile x code maxLocals ret World_1 tables_1 room_1 Calls_1 rest_1 Pre_1 Post := by
  intro l hfl _ _ p e ha hc hk s m args below hf hA hF happ hP
  obtain ⟨hcalls, hrest, hpre⟩ := hP
  obtain ⟨-, -, -, hnamed, -, -, -, hat⟩ := (Spec.applies_iff hf).mp happ
  obtain ⟨hg, hn⟩ := and_e (Cond.before_iff.mp (show (Jvm.Cond.and given_1 narrow_1).before args s = true from hpre))
  obtain ⟨gc, r0⟩ := and_e hg
  obtain ⟨k0, r1⟩ := and_e r0
  obtain ⟨k1, r2⟩ := and_e r1
  obtain ⟨k2, r3⟩ := and_e r2
  obtain ⟨k3, r4⟩ := and_e r3
  obtain ⟨k4, r5⟩ := and_e r4
  obtain ⟨w0, w1, w2, w3, w4, w5, rfl⟩ : ∃ w0 w1 w2 w3 w4 w5 : Value, args = #[w0, w1, w2, w3, w4, w5] := by
    have hs : args.size = 6 := by simpa [Cond.value, given_1] using gc
    obtain ⟨L⟩ := args
    match L, hs with
    | [w0, w1, w2, w3, w4, w5], _ => exact ⟨w0, w1, w2, w3, w4, w5, rfl⟩
  have hw := fun d (hd : d ∈ tables_1) => atoms_spec (ws := Jvm.Cond.code x code maxLocals ret :: tables_1) hat d (List.mem_cons_of_mem _ hd)
  obtain ⟨i0, ei0⟩ := isL_v k0
  obtain rfl : w0 = (.long i0) := Option.some.inj ei0
  obtain ⟨i1, ei1⟩ := isL_v k1
  obtain rfl : w1 = (.long i1) := Option.some.inj ei1
  obtain ⟨i2, ei2⟩ := is_v k2
  obtain rfl : w2 = (.int i2) := Option.some.inj ei2
  obtain ⟨i3, ei3⟩ := is_v k3
  obtain rfl : w3 = (.int i3) := Option.some.inj ei3
  obtain ⟨i4, ei4⟩ := is_v k4
  obtain rfl : w4 = (.int i4) := Option.some.inj ei4
  obtain ⟨i5, ei5⟩ := is_v r5
  obtain rfl : w5 = (.int i5) := Option.some.inj ei5
  obtain ⟨n, o, h1, h2, h3, _, L, rfl, ⟨rfl, N⟩, hq⟩ := own_rm0 l s _ hw i0 i1 i2 i3 i4 i5 s.heap s.heap.size (Nat.le_refl _)  tables_1 p e ha hc hk s m _ below hf ((Spec.applies_iff_loose hf).mp happ).1 ⟨rfl, State.Warmed39.refl s, rfl⟩ trivial
  refine ⟨n, _, h1, h2, h3, hpost _ _ _ _ _ _ ⟨Cond.after_iff.mpr rfl, Cond.after_iff.mpr (eq_i res_at (Term.int_eval (1)) rfl), trivial⟩ ⟨hq.1, hq.2.1, (hq.2.2.sift fun y hy => Or.inr (N y hy)).mono (by decide) (by decide)⟩⟩
theorem main_1_1 : Claimed_1_1 := own_comes fun _ _ _ _ _ _ h hF => ⟨h.1, hF⟩
theorem main_1_2 : Claimed_1_2 := own_comes fun _ _ _ _ _ _ h hF => ⟨h.2.1, hF⟩
end Jvm.Pilot.@@N@@
namespace Jvm.Pilot.@@N@@
open Jvm Jvm.ClassFile Sem Op Lib Jvm.Free Jvm.Stand Jvm.Pilot.@@N@@.Jvm.D
/-! MADE BY PROGRAM (witnessworld.py) out of the Statement's table words and the real class files: 12 classes; the members and pool entries that the words name. The judged class is class 1, her method 3. -/
namespace start1
open Jvm.ClassFile
def u (s : String) : CpInfo := .utf8 (stringToUtf16 s)
/-- a pool by its gaps: so many unusable entries, then the entry; so many at the end -/
def gap : Nat → List CpInfo → List CpInfo
  | 0, r => r
  | n + 1, r => .unusable :: gap n r
def poolList (es : List (Nat × CpInfo)) (last : Nat) : List CpInfo := es.foldr (fun e r => gap e.1 (e.2 :: r)) (gap last [])
def pool (es : List (Nat × CpInfo)) (last : Nat) : Array CpInfo := ⟨poolList es last⟩
def fileOf (pool : Array CpInfo) (this : Nat) (attrs : Array Attribute := #[]) (ms : Array MethodInfo := #[]) (fl : Nat := 33) (sup : Nat := 0) (ifs : Array Nat := #[]) (fds : Array FieldInfo := #[]) : ClassFile where
  minorVersion := 0
  majorVersion := 65
  constantPool := pool
  accessFlags := fl
  thisClass := this
  superClass := sup
  interfaces := ifs
  fields := fds
  methods := ms
  attributes := attrs
def plain (name : String) (sup : Option ClassId) : Class where
  name := name
  kind := .ordinary
  loader := none
  accessFlags := 33
  super := sup
  interfaces := #[]
  cf := none
  fields := #[]
  methods := #[]
  instanceTypes := #[]
  staticTypes := #[]
  resolved := #[]
  callSites := []
  init := .initialized
  statics := none
  mirror := none

def pool0 : Array CpInfo := pool [(5, u "<init>"), (0, u "()V"), (1, .class_ 10), (1, u "java/lang/Object")] 113

def k0m0 : Method := { name := "<init>", desc := "()V", sig := { parameters := [], returnType := none }, accessFlags := 1, code := none }
/-- java/lang/Object -/
def k0 : Class := { plain "java/lang/Object" none with
  accessFlags := 33
  interfaces := #[]
  cf := some (fileOf pool0 8 #[] #[{ accessFlags := 1, nameIndex := 5, descriptorIndex := 6, attributes := #[] }] 33 0 #[] #[])
  fields := #[]
  methods := #[k0m0]
  instanceTypes := #[]
  staticTypes := #[]
  resolved := Array.replicate 124 none
  statics := none }

def pool1 : Array CpInfo := pool [(2, .class_ 4), (1, u "java/lang/Object"), (0, u "<init>"), (0, u "()V"), (0, .long 63), (1, .long 10), (1, .long 100), (1, .long 1000), (1, .long 10000), (1, .long 100000), (1, .long 1000000), (1, .long 10000000), (1, .long 100000000), (1, .long 1000000000), (1, .long 10000000000), (1, .long 100000000000), (1, .long 1000000000000), (1, .long 10000000000000), (1, .long 100000000000000), (1, .long 1000000000000000), (1, .long 10000000000000000), (1, .long 100000000000000000), (1, .long 1000000000000000000), (1, .methodref 46 47), (0, .class_ 48), (0, .nameAndType 49 50), (0, u "com/example/refset_loom/refsetloom/rf2/BytesDecimalPinLaw"), (0, u "digit"), (0, u "(JI)B"), (0, .integer 2147483647), (0, .methodref 53 54), (0, .class_ 55), (0, .nameAndType 56 57), (0, u "java/lang/Math"), (0, u "min"), (0, u "(II)I"), (0, .methodref 59 60), (0, .class_ 61), (0, .nameAndType 62 63), (0, u "com/example/refset_loom/refsetloom/rf2/Bytes"), (0, u "decimal"), (0, u "([BII)J"), (0, .methodref 46 65), (0, .nameAndType 66 67), (0, u "pow10"), (0, u "(I)J"), (2, u "law"), (0, u "(JJIIII)Z")] 5

def k1m0 : Method := { name := "<init>", desc := "()V", sig := { parameters := [], returnType := none }, accessFlags := 2, code := none }
def k1c1 : Code := { maxStack := 5, maxLocals := 3, code := method_2_code, exceptionTable := #[], attributes := #[] }
def k1m1 : Method := { name := "digit", desc := "(JI)B", sig := { parameters := [.long, .int], returnType := some .byte }, accessFlags := 10, code := some k1c1 }
def k1c2 : Code := { maxStack := 5, maxLocals := 2, code := method_3_code, exceptionTable := #[], attributes := #[] }
def k1m2 : Method := { name := "pow10", desc := "(I)J", sig := { parameters := [.int], returnType := some .long }, accessFlags := 10, code := some k1c2 }
def k1c3 : Code := { maxStack := 6, maxLocals := 25, code := code, exceptionTable := #[], attributes := #[] }
def k1m3 : Method := { name := "law", desc := "(JJIIII)Z", sig := { parameters := [.long, .long, .int, .int, .int, .int], returnType := some .boolean }, accessFlags := 9, code := some k1c3 }
/-- com/example/refset_loom/refsetloom/rf2/BytesDecimalPinLaw -/
def k1 : Class := { plain "com/example/refset_loom/refsetloom/rf2/BytesDecimalPinLaw" (some 0) with
  accessFlags := 49
  interfaces := #[]
  cf := some (fileOf pool1 46 #[] #[{ accessFlags := 2, nameIndex := 5, descriptorIndex := 6, attributes := #[] }, { accessFlags := 10, nameIndex := 49, descriptorIndex := 50, attributes := #[] }, { accessFlags := 10, nameIndex := 66, descriptorIndex := 67, attributes := #[] }, { accessFlags := 9, nameIndex := 70, descriptorIndex := 71, attributes := #[] }] 49 2 #[] #[])
  fields := #[]
  methods := #[k1m0, k1m1, k1m2, k1m3]
  instanceTypes := #[]
  staticTypes := #[]
  resolved := Array.replicate 77 none
  statics := none }

def pool2 : Array CpInfo := pool [(1, .class_ 2), (0, u "java/lang/Math"), (1, .class_ 6), (1, u "java/lang/Object"), (0, u "<init>"), (0, u "()V"), (89, .class_ 100), (1, u "java/lang/Math$RandomNumberGeneratorHolder"), (71, u "negativeZeroFloatBits"), (0, u "J"), (2, u "negativeZeroDoubleBits"), (24, u "min"), (43, u "$assertionsDisabled"), (0, u "Z"), (88, u "(II)I"), (2, u "twoToTheDoubleScaleDown"), (0, u "D"), (4, u "twoToTheDoubleScaleUp"), (9, u "E"), (3, u "PI"), (2, u "TAU"), (2, u "DEGREES_TO_RADIANS"), (0, u "RADIANS_TO_DEGREES")] 94

def k2m0 : Method := { name := "<init>", desc := "()V", sig := { parameters := [], returnType := none }, accessFlags := 2, code := none }
def k2c1 : Code := { maxStack := 2, maxLocals := 2, code := jdk_29_method_69_code, exceptionTable := #[], attributes := #[] }
def k2m1 : Method := { name := "min", desc := "(II)I", sig := { parameters := [.int, .int], returnType := some .int }, accessFlags := 9, code := some k2c1 }
/-- java/lang/Math -/
def k2 : Class := { plain "java/lang/Math" (some 0) with
  accessFlags := 49
  interfaces := #[]
  cf := some (fileOf pool2 1 #[.nestMembers #[98]] #[{ accessFlags := 2, nameIndex := 7, descriptorIndex := 8, attributes := #[] }, { accessFlags := 9, nameIndex := 201, descriptorIndex := 335, attributes := #[] }] 49 4 #[] #[{ accessFlags := 25, nameIndex := 354, descriptorIndex := 339, attributes := #[] }, { accessFlags := 25, nameIndex := 358, descriptorIndex := 339, attributes := #[] }, { accessFlags := 25, nameIndex := 361, descriptorIndex := 339, attributes := #[] }, { accessFlags := 26, nameIndex := 364, descriptorIndex := 339, attributes := #[] }, { accessFlags := 26, nameIndex := 365, descriptorIndex := 339, attributes := #[] }, { accessFlags := 26, nameIndex := 172, descriptorIndex := 173, attributes := #[] }, { accessFlags := 26, nameIndex := 176, descriptorIndex := 173, attributes := #[] }, { accessFlags := 8, nameIndex := 344, descriptorIndex := 339, attributes := #[] }, { accessFlags := 8, nameIndex := 338, descriptorIndex := 339, attributes := #[] }, { accessFlags := 4120, nameIndex := 245, descriptorIndex := 246, attributes := #[] }])
  fields := #[{ name := "E", type := .double, accessFlags := 25, slot := 0, constantValue := 0 }, { name := "PI", type := .double, accessFlags := 25, slot := 1, constantValue := 0 }, { name := "TAU", type := .double, accessFlags := 25, slot := 2, constantValue := 0 }, { name := "DEGREES_TO_RADIANS", type := .double, accessFlags := 26, slot := 3, constantValue := 0 }, { name := "RADIANS_TO_DEGREES", type := .double, accessFlags := 26, slot := 4, constantValue := 0 }, { name := "negativeZeroFloatBits", type := .long, accessFlags := 26, slot := 5, constantValue := 0 }, { name := "negativeZeroDoubleBits", type := .long, accessFlags := 26, slot := 6, constantValue := 0 }, { name := "twoToTheDoubleScaleUp", type := .double, accessFlags := 8, slot := 7, constantValue := 0 }, { name := "twoToTheDoubleScaleDown", type := .double, accessFlags := 8, slot := 8, constantValue := 0 }, { name := "$assertionsDisabled", type := .boolean, accessFlags := 4120, slot := 9, constantValue := 0 }]
  methods := #[k2m0, k2m1]
  instanceTypes := #[]
  staticTypes := #[.double, .double, .double, .double, .double, .long, .long, .double, .double, .boolean]
  resolved := Array.replicate 460 none
  statics := none }

def pool3 : Array CpInfo := pool [(1, .class_ 2), (0, u "com/example/refset_loom/refsetloom/rf2/Bytes"), (1, .class_ 6), (1, u "java/lang/Object"), (0, u "<init>"), (0, u "()V"), (2, u "WORDS"), (0, u "Ljava/lang/invoke/VarHandle;"), (12, .long 10), (1, .long 48), (20, u "EACH_BYTE"), (0, u "J"), (3, u "HIGH_BITS"), (0, u "LOW_BITS"), (0, u "DECIMAL"), (0, u "I"), (9, u "decimal"), (0, u "([BII)J")] 5

def k3m0 : Method := { name := "<init>", desc := "()V", sig := { parameters := [], returnType := none }, accessFlags := 2, code := none }
def k3c1 : Code := { maxStack := 4, maxLocals := 6, code := prog_125_method_6_code, exceptionTable := #[], attributes := #[] }
def k3m1 : Method := { name := "decimal", desc := "([BII)J", sig := { parameters := [(.array .byte), .int, .int], returnType := some .long }, accessFlags := 8, code := some k3c1 }
/-- com/example/refset_loom/refsetloom/rf2/Bytes -/
def k3 : Class := { plain "com/example/refset_loom/refsetloom/rf2/Bytes" (some 0) with
  accessFlags := 48
  interfaces := #[]
  cf := some (fileOf pool3 1 #[] #[{ accessFlags := 2, nameIndex := 7, descriptorIndex := 8, attributes := #[] }, { accessFlags := 8, nameIndex := 66, descriptorIndex := 67, attributes := #[] }] 48 4 #[] #[{ accessFlags := 24, nameIndex := 48, descriptorIndex := 49, attributes := #[] }, { accessFlags := 26, nameIndex := 53, descriptorIndex := 49, attributes := #[] }, { accessFlags := 26, nameIndex := 54, descriptorIndex := 49, attributes := #[] }, { accessFlags := 26, nameIndex := 55, descriptorIndex := 56, attributes := #[] }, { accessFlags := 26, nameIndex := 11, descriptorIndex := 12, attributes := #[] }])
  fields := #[{ name := "EACH_BYTE", type := .long, accessFlags := 24, slot := 0, constantValue := 0 }, { name := "HIGH_BITS", type := .long, accessFlags := 26, slot := 1, constantValue := 0 }, { name := "LOW_BITS", type := .long, accessFlags := 26, slot := 2, constantValue := 0 }, { name := "DECIMAL", type := .int, accessFlags := 26, slot := 3, constantValue := 0 }, { name := "WORDS", type := (.object "java/lang/invoke/VarHandle"), accessFlags := 26, slot := 4, constantValue := 0 }]
  methods := #[k3m0, k3m1]
  instanceTypes := #[]
  staticTypes := #[.long, .long, .long, .int, (.object "java/lang/invoke/VarHandle")]
  resolved := Array.replicate 73 none
  statics := none }

def pool4 : Array CpInfo := pool [(1, u "java/lang/Cloneable"), (0, .class_ 1), (0, u "java/lang/Object"), (0, .class_ 3)] 3

/-- java/lang/Cloneable -/
def k4 : Class := { plain "java/lang/Cloneable" (some 0) with
  accessFlags := 1537
  interfaces := #[]
  cf := some (fileOf pool4 2 #[] #[] 1537 4 #[] #[])
  fields := #[]
  methods := #[]
  instanceTypes := #[]
  staticTypes := #[]
  resolved := Array.replicate 8 none
  statics := none }

def pool5 : Array CpInfo := pool [(1, u "java/io/Serializable"), (0, .class_ 1), (0, u "java/lang/Object"), (0, .class_ 3)] 3

/-- java/io/Serializable -/
def k5 : Class := { plain "java/io/Serializable" (some 0) with
  accessFlags := 1537
  interfaces := #[]
  cf := some (fileOf pool5 2 #[] #[] 1537 4 #[] #[])
  fields := #[]
  methods := #[]
  instanceTypes := #[]
  staticTypes := #[]
  resolved := Array.replicate 8 none
  statics := none }

/-- the primitive byte -/
def k6 : Class := { plain "byte" none with kind := .primitive 'B', accessFlags := 0x411 }
/-- [B -/
def k7 : Class := { plain "[B" (some 0) with kind := .array 6 .byte, interfaces := #[4, 5], accessFlags := 1041 }

/-- the primitive int -/
def k8 : Class := { plain "int" none with kind := .primitive 'I', accessFlags := 0x411 }
/-- [I -/
def k9 : Class := { plain "[I" (some 0) with kind := .array 8 .int, interfaces := #[4, 5], accessFlags := 1041 }

/-- the primitive long -/
def k10 : Class := { plain "long" none with kind := .primitive 'J', accessFlags := 0x411 }
/-- [J -/
def k11 : Class := { plain "[J" (some 0) with kind := .array 10 .long, interfaces := #[4, 5], accessFlags := 1041 }

def heap : Heap := #[]
def classes : Array Class := #[k0, k1, k2, k3, k4, k5, k6, k7, k8, k9, k10, k11]
def interned : List (Array UInt16 × Addr) := []
def slotsUsed : Nat := 0
def theMethod : MethodId := ⟨1, 3⟩
def args0 : Array Value := #[.long 5, .long 7, .int 49, .int 50, .int 4, .int 60]
def aboutOver (below : List Frame) : State where
  vm := { classes := classes, interned := interned.toArray }
  heap := heap
  slotsUsed := slotsUsed
  threads := #[{ frames := .invoking theMethod args0 :: below }]
def below0 : List Frame := [.native { method := ⟨0, 0⟩, args := #[] }]
def about1 : State := aboutOver below0
def p0 : Program := .bare "" "" ""
def e0 : Env := launch0.env 0 0 0
theorem w_frames : about1.frames = Frame.invoking theMethod args0 :: below0 := rfl
set_option maxRecDepth 65536 in
theorem w_args : argsFit about1.vm theMethod args0 = true := by decide +kernel
set_option maxRecDepth 65536 in
theorem w_heap : heapFits about1 = true := by decide +kernel
set_option maxRecDepth 65536 in
theorem w_runnable : about1.curStatus? = some .runnable := by decide +kernel
set_option maxRecDepth 65536 in
theorem w_alone : about1.alone = true := by decide +kernel
set_option maxRecDepth 65536 in
theorem w_named : about1.methodNamed? x = some theMethod := by decide +kernel
set_option maxRecDepth 65536 in
theorem w_hears : about1.hears theMethod below0 = true := by decide +kernel
set_option maxRecDepth 65536 in
theorem w_ripe : about1.ripe theMethod args0 below0 = true := by decide +kernel
theorem w_running : about1.status = .running := rfl
set_option maxRecDepth 65536 in
theorem w_room : about1.hasRoom e0.platform room_1 = true :=
  launch0.hasRoom_least _ room_1 (by decide +kernel) (by decide +kernel) (by decide +kernel) (by decide +kernel) (by decide +kernel) (by decide +kernel)
theorem allAtoms_all (ts : List Jvm.Cond) (a : Array Jvm.Value) (st : Jvm.State) : (allAtoms ts).before a st = ts.all (fun c => c.before a st) := by
  induction ts with
  | nil => rfl
  | cons c t ih =>
    show (Jvm.Cond.and c (allAtoms t)).before a st = _
    rw [Jvm.Cond.before_and, ih, List.all_cons]
def words1 : List Jvm.Cond := Jvm.Cond.code x code maxLocals ret :: tables_1
/-- a 'code' word, met by the world's own term for the bytes: nothing is compared byte by byte -/
theorem code_word {y : MethodName} {bytes : ByteArray} {mx : Nat} {rt : Option FieldType} {a : Array Value} {s : State} {m : MethodId} {meth : Method} {c : Code} (h1 : s.methodNamed? y = some m) (h2 : s.vm.method? m = some meth) (h3 : meth.code = some c) (h4 : c.code = bytes)
    (h5 : (c.maxLocals == mx && c.exceptionTable.isEmpty && decide (c.maxStack ≤ mostOperands) && decide (meth.sig.returnType = rt) && !meth.locks && decide (parseMethodDescriptor y.desc = some meth.sig)) = true) : (Jvm.Cond.code y bytes mx rt).before a s = true := by
  simp only [Bool.and_eq_true, beq_iff_eq, Bool.not_eq_true', decide_eq_true_eq] at h5
  obtain ⟨⟨⟨⟨⟨g1, g2⟩, g3⟩, g4⟩, g5⟩, g6⟩ := h5
  simp [Cond.before, Cond.holds, Cond.value, h1, h2, h3, h4, g1, g2, g3, g4, g5, g6]
def isCode : Jvm.Cond → Bool
  | .code _ _ _ _ => true
  | _ => false
theorem all_split {L : List Jvm.Cond} {P : Jvm.Cond → Bool} (h1 : L.all (fun c => isCode c || P c) = true) (h2 : ∀ c ∈ L.filter isCode, P c = true) : L.all P = true := by
  refine List.all_eq_true.mpr fun c hc => ?_
  have h := List.all_eq_true.mp h1 c hc
  rcases Bool.eq_false_or_eq_true (isCode c) with hi | hi
  · exact h2 c (List.mem_filter.mpr ⟨hc, hi⟩)
  · simpa [hi] using h
set_option maxRecDepth 65536 in
theorem w_c0 : (Jvm.Cond.code x code maxLocals ret).before args0 about1 = true := code_word (m := ⟨1, 3⟩) (meth := k1m3) (c := k1c3) (by decide +kernel) rfl rfl rfl (by decide +kernel)
set_option maxRecDepth 65536 in
theorem w_c1 : (Jvm.Cond.code ({ cls := "com/example/refset_loom/refsetloom/rf2/BytesDecimalPinLaw", name := "digit", desc := "(JI)B" } : Jvm.MethodName) method_2_code (3 : Nat) (Option.some Jvm.ClassFile.FieldType.byte)).before args0 about1 = true := code_word (m := ⟨1, 1⟩) (meth := k1m1) (c := k1c1) (by decide +kernel) rfl rfl rfl (by decide +kernel)
set_option maxRecDepth 65536 in
theorem w_c2 : (Jvm.Cond.code ({ cls := "java/lang/Math", name := "min", desc := "(II)I" } : Jvm.MethodName) jdk_29_method_69_code (2 : Nat) (Option.some Jvm.ClassFile.FieldType.int)).before args0 about1 = true := code_word (m := ⟨2, 1⟩) (meth := k2m1) (c := k2c1) (by decide +kernel) rfl rfl rfl (by decide +kernel)
set_option maxRecDepth 65536 in
theorem w_c3 : (Jvm.Cond.code ({ cls := "com/example/refset_loom/refsetloom/rf2/Bytes", name := "decimal", desc := "([BII)J" } : Jvm.MethodName) prog_125_method_6_code (6 : Nat) (Option.some Jvm.ClassFile.FieldType.long)).before args0 about1 = true := code_word (m := ⟨3, 1⟩) (meth := k3m1) (c := k3c1) (by decide +kernel) rfl rfl rfl (by decide +kernel)
set_option maxRecDepth 65536 in
theorem w_c4 : (Jvm.Cond.code ({ cls := "com/example/refset_loom/refsetloom/rf2/BytesDecimalPinLaw", name := "pow10", desc := "(I)J" } : Jvm.MethodName) method_3_code (2 : Nat) (Option.some Jvm.ClassFile.FieldType.long)).before args0 about1 = true := code_word (m := ⟨1, 2⟩) (meth := k1m2) (c := k1c2) (by decide +kernel) rfl rfl rfl (by decide +kernel)
def codes1 : List Jvm.Cond := [Jvm.Cond.code x code maxLocals ret, Jvm.Cond.code ({ cls := "com/example/refset_loom/refsetloom/rf2/BytesDecimalPinLaw", name := "digit", desc := "(JI)B" } : Jvm.MethodName) method_2_code (3 : Nat) (Option.some Jvm.ClassFile.FieldType.byte), Jvm.Cond.code ({ cls := "java/lang/Math", name := "min", desc := "(II)I" } : Jvm.MethodName) jdk_29_method_69_code (2 : Nat) (Option.some Jvm.ClassFile.FieldType.int), Jvm.Cond.code ({ cls := "com/example/refset_loom/refsetloom/rf2/Bytes", name := "decimal", desc := "([BII)J" } : Jvm.MethodName) prog_125_method_6_code (6 : Nat) (Option.some Jvm.ClassFile.FieldType.long), Jvm.Cond.code ({ cls := "com/example/refset_loom/refsetloom/rf2/BytesDecimalPinLaw", name := "pow10", desc := "(I)J" } : Jvm.MethodName) method_3_code (2 : Nat) (Option.some Jvm.ClassFile.FieldType.long)]
set_option maxRecDepth 65536 in
theorem codes_eq : words1.filter isCode = codes1 := rfl
theorem w_codes : ∀ c ∈ words1.filter isCode, c.before args0 about1 = true := by
  rw [codes_eq]
  intro c hc
  simp only [codes1, List.mem_cons, List.not_mem_nil, or_false] at hc
  rcases hc with rfl | rfl | rfl | rfl | rfl
  · exact w_c0
  · exact w_c1
  · exact w_c2
  · exact w_c3
  · exact w_c4
set_option maxRecDepth 65536 in
theorem w_t1 : (words1.take 24).all (fun c => isCode c || c.before args0 about1) = true := by decide +kernel
set_option maxRecDepth 65536 in
theorem w_t2 : (words1.drop 24).all (fun c => isCode c || c.before args0 about1) = true := by decide +kernel
theorem w_tables : (allAtoms (Jvm.Cond.code x code maxLocals ret :: tables_1)).before args0 about1 = true := by
  rw [allAtoms_all]
  show words1.all (fun c => c.before args0 about1) = true
  refine all_split ?_ w_codes
  rw [← List.take_append_drop 24 words1, List.all_append, w_t1, w_t2]
  rfl
set_option maxRecDepth 65536 in
theorem w_case : (Jvm.Cond.and given_1 narrow_1).before args0 about1 = true := by decide +kernel
theorem w_applies : (headSpec (Jvm.Cond.code x code maxLocals ret :: tables_1) room_1).applies x e0.platform about1 = true :=
  (Spec.applies_iff w_frames).mpr ⟨w_running, w_runnable, w_alone, w_named, w_hears, w_ripe, w_room, w_tables⟩
theorem atStart : AtStart classFile x code maxLocals ret World_1 tables_1 room_1 Calls_1 rest_1 Pre_1 launch0 p0 e0 about1 theMethod args0 below0 :=
  ⟨lists_1, trivial, launch0.admits_env _ _ _, launch0.least_env, fairChoices_fair.cas, fairChoices_fair.clock, w_frames, w_args, w_heap, w_applies, trivial, trivial, w_case⟩
end start1
theorem witness_1 : WitnessClaimed_1 := ⟨start1.p0, start1.e0, start1.about1, start1.theMethod, start1.args0, start1.below0, start1.atStart⟩
end Jvm.Pilot.@@N@@
