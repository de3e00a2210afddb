import JvmDerived
import JvmDerived.Pilot.@@N@@Statement
import JvmDerived.Pilot.@@N@@Code
set_option linter.unusedVariables false
set_option linter.unusedSimpArgs false
namespace Jvm.Pilot.@@N@@
open Jvm Jvm.ClassFile Sem Op Lib Jvm.Free Jvm.Stand Jvm.LawKit Jvm.RoadKit Bundle Jvm.Pilot.@@N@@.Jvm.D
section OwnKit
variable {p : Program} {l : Launch} {e : Env} {R : Room} {s : State} {m : MethodId} {args : Array Value} {below : List Frame} {meth : Method} {c : Code} {T : State} {locs : List Loc} {cells slots : Nat} {Z : State} {a0 : Array Value} {h h' : Heap}
/-- what a body leaves: its value, the heap, the places written -/
abbrev own_P := Option Value → Heap → List Loc → Prop
/-- from here the run comes back, and leaves P -/
def own_Go (p : Program) (e : Env) (below : List Frame) (s : State) (P : own_P) (kc ks : Nat) (A : State) : Prop :=
  ∃ s₂ o, Steps p.tables e below A s₂ ∧ s₂.status = .running ∧ Ended s₂ below o ∧ ∃ v L, o = Outcome.returned v ∧ P v s₂.heap L ∧ FrameEnd s o s₂ L kc ks
theorem own_st {P : own_P} {kc ks : Nat} {A B : State} (hs : ∀ t, Steps p.tables e below B t → Steps p.tables e below A t) (k : own_Go p e below s P kc ks B) : own_Go p e below s P kc ks A := by
  obtain ⟨s₂, o, h1, h2⟩ := k
  exact ⟨s₂, o, hs _ h1, h2⟩
theorem own_stT {P : own_P} {kc ks : Nat} {A B : State} (hs : Steps p.tables e below A B) (k : own_Go p e below s P kc ks B) : own_Go p e below s P kc ks A := by
  obtain ⟨s₂, o, h1, h2⟩ := k
  exact ⟨s₂, o, hs.trans h1, h2⟩
theorem own_end (X : Stand p l e R s m args below meth c T locs cells slots) (hx : p.tables.exec = Jvm.exec) (hlk : meth.locks = false) {P : own_P} {kc ks : Nat} {pc : Nat} {Ls : Array Slot} {w : Value} {t : FieldType} {i : Instr} {rest : List Value} (hret : meth.sig.returnType = some t) (hn : narrow t w = w)
    (hi : (i = .ireturn ∧ (t = .int ∨ t = .boolean ∨ t = .byte ∨ t = .char ∨ t = .short) ∧ ∃ z, w = .int z) ∨ (i = .lreturn ∧ t = .long ∧ ∃ z, w = .long z) ∨ (i = .dreturn ∧ t = .double ∧ ∃ z, w = .double z) ∨ (i = .freturn ∧ t = .float ∧ ∃ z, w = .float z) ∨ (i = .areturn ∧ t.isReference = true ∧ w.isRef = true))
    (hd : decode c.code pc = .ok (i, 1)) (hP : P (some w) T.heap locs) (hc : cells ≤ kc) (hs : slots ≤ ks) : own_Go p e below s P kc ks (T.setTop (mkF m pc Ls (w :: rest))) := by
  obtain ⟨fs, hr, hrun, hended, hW, hsame⟩ := X.leave (v := some w) (fun h => by rw [hret] at h; cases h) hlk
  exact ⟨_, _, retOut X hx hret hn hi hd hr, hrun, hended, _, _, rfl, hP, ⟨_, rfl⟩, hW, hsame.mono hc hs⟩
theorem own_endI (X : Stand p l e R s m args below meth c T locs cells slots) (hx : p.tables.exec = Jvm.exec) (hlk : meth.locks = false) {P : own_P} {kc ks : Nat} {pc : Nat} {Ls : Array Slot} {z : Int32} {rest : List Value} (hret : meth.sig.returnType = some .int)
    (hd : decode c.code pc = .ok (.ireturn, 1)) (hP : P (some (.int z)) T.heap locs) (hc : cells ≤ kc) (hs : slots ≤ ks) : own_Go p e below s P kc ks (T.setTop (mkF m pc Ls (.int z :: rest))) :=
  own_end X hx hlk hret rfl (Or.inl ⟨rfl, Or.inl rfl, z, rfl⟩) hd hP hc hs
theorem own_endJ (X : Stand p l e R s m args below meth c T locs cells slots) (hx : p.tables.exec = Jvm.exec) (hlk : meth.locks = false) {P : own_P} {kc ks : Nat} {pc : Nat} {Ls : Array Slot} {z : Int64} {rest : List Value} (hret : meth.sig.returnType = some .long)
    (hd : decode c.code pc = .ok (.lreturn, 1)) (hP : P (some (.long z)) T.heap locs) (hc : cells ≤ kc) (hs : slots ≤ ks) : own_Go p e below s P kc ks (T.setTop (mkF m pc Ls (.long z :: rest))) :=
  own_end X hx hlk hret rfl (Or.inr (Or.inl ⟨rfl, rfl, z, rfl⟩)) hd hP hc hs
theorem own_endA (X : Stand p l e R s m args below meth c T locs cells slots) (hx : p.tables.exec = Jvm.exec) (hlk : meth.locks = false) {P : own_P} {kc ks : Nat} {pc : Nat} {Ls : Array Slot} {a : Addr} {t : FieldType} {rest : List Value} (hret : meth.sig.returnType = some t) (ht : t.isReference = true) (hn : narrow t (.ref a) = .ref a)
    (hd : decode c.code pc = .ok (.areturn, 1)) (hP : P (some (.ref a)) T.heap locs) (hc : cells ≤ kc) (hs : slots ≤ ks) : own_Go p e below s P kc ks (T.setTop (mkF m pc Ls (.ref a :: rest))) :=
  own_end X hx hlk hret hn (Or.inr (Or.inr (Or.inr (Or.inr ⟨rfl, ht, rfl⟩)))) hd hP hc hs
/-- a boolean, byte, char, short comes back narrowed -/
theorem own_endN (X : Stand p l e R s m args below meth c T locs cells slots) (hx : p.tables.exec = Jvm.exec) (hlk : meth.locks = false) {P : own_P} {kc ks : Nat} {pc : Nat} {Ls : Array Slot} {z : Int32} {t : FieldType} {rest : List Value} (hret : meth.sig.returnType = some t) (ht : t = .boolean ∨ t = .byte ∨ t = .char ∨ t = .short)
    (hd : decode c.code pc = .ok (.ireturn, 1)) {w : Int32} (hz : nar t z = w) (hP : P (some (.int w)) T.heap locs) (hc : cells ≤ kc) (hs : slots ≤ ks) : own_Go p e below s P kc ks (T.setTop (mkF m pc Ls (.int z :: rest))) := by
  subst hz
  obtain ⟨fs, hr, hrun, hended, hW, hsame⟩ := X.leave (v := some (.int (nar t z))) (fun h => by rw [hret] at h; cases h) hlk
  exact ⟨_, _, retN X hx hret ht hd hr, hrun, hended, _, _, rfl, hP, ⟨_, rfl⟩, hW, hsame.mono hc hs⟩
theorem own_endV (X : Stand p l e R s m args below meth c T locs cells slots) (hx : p.tables.exec = Jvm.exec) (hlk : meth.locks = false) {P : own_P} {kc ks : Nat} {pc : Nat} {Ls : Array Slot} (hret : meth.sig.returnType = none)
    (hd : decode c.code pc = .ok (.return_, 1)) (hP : P none T.heap locs) (hc : cells ≤ kc) (hs : slots ≤ ks) : own_Go p e below s P kc ks (T.setTop (mkF m pc Ls [])) := by
  obtain ⟨fs, hr, hrun, hended, hW, hsame⟩ := X.leave (v := none) (fun _ => rfl) hlk
  exact ⟨_, _, X.returnOut hx hret hd hr, hrun, hended, _, _, rfl, hP, ⟨_, rfl⟩, hW, hsame.mono hc hs⟩
/-- a body's contract -/
def own_Met (l : Launch) (Z : State) (y : MethodName) (bytes : ByteArray) (maxL : Nat) (ret : Option FieldType) (rm : Room) (as : Array Value) (h : Heap) (Q : own_P) : Prop :=
  ∀ ws : List Jvm.Cond, MetFree l y (head1 (Jvm.Cond.code y bytes maxL ret :: ws) rm) (fun a U => a = as ∧ Z.Warmed39 U.vm ∧ U.heap = h) (fun _ _ _ _ _ => True) (fun _ U o U' => ∃ v L, o = .returned v ∧ Q v U'.heap L ∧ FrameEnd U o U' L rm.cells rm.slots)
theorem own_in {y : MethodName} {bytes : ByteArray} {maxL : Nat} {ret : Option FieldType} {rm : Room} {as : Array Value} {Q : own_P} (pn : plainFor y = true)
    (body : ∀ (p : Program) (e : Env) (s : State) (m : MethodId) (below : List Frame) (meth : Method) (c : Code) (s₁ : State), p.tables.exec = Jvm.exec → c.code = bytes → c.maxLocals = maxL → s.vm.findClass y.cls = some m.cls → meth.name = y.name → meth.locks = false → meth.sig.returnType = ret → Z.Warmed39 s.vm →
      Stand p l e rm s m as below meth c s₁ [] 0 0 → s₁.heap = h → own_Go p e below s Q rm.cells rm.slots (s₁.setTop (entryFrame m as maxL))) : own_Met l Z y bytes maxL ret rm as h Q := by
  intro ws
  refine MetFree.of_bodySF pn hisR ?_
  intro p e s m args below meth c s₁ Bd hml hP hK
  obtain ⟨rfl, hZ, hh⟩ := hP
  exact body p e s m below meth c s₁ Bd.exec Bd.bytes hml (findClass_of_methodNamed Bd.named) (name_of_methodNamed Bd.named Bd.method).1 (BodyLoose.notSynchronized Bd) Bd.returns hZ (Stand.of_body Bd) (by rw [← hh, Bd.state]; rfl)
theorem own_ef {tbp : Program} {P : own_P} {kc ks : Nat} {g g' : JFrame} (q : g = g') (k : own_Go tbp e below s P kc ks (T.setTop g')) : own_Go tbp e below s P kc ks (T.setTop g) := q ▸ k
/-- a static call by its contract -/
theorem own_cS (X : Stand p l e R s m args below meth c T locs cells slots) (hx : p.tables.exec = Jvm.exec) {ml : Nat} (hml : c.maxLocals = ml) (hZ : Z.Warmed39 s.vm) {own : String} {index : Nat} {y : MethodName} {bytes : ByteArray} {maxL : Nat} {ret : Option FieldType} {rm : Room} {as : Array Value} {Q : own_P}
    (hown : s.vm.findClass own = some m.cls) (w1 : (Jvm.Cond.methodLink own index y).before a0 Z = true) (w2 : (Jvm.Cond.static y).before a0 Z = true) (w3 : (Jvm.Cond.initialized y.cls).before a0 Z = true) (w4 : (Jvm.Cond.code y bytes maxL ret).before a0 Z = true)
    (hy : y.cls ≠ "java/lang/invoke/MethodHandle" ∧ y.cls ≠ "java/lang/invoke/VarHandle") (hM : own_Met l Z y bytes maxL ret rm as h Q) (eT : T.heap = h) (hf : rm.frames + 1 ≤ R.frames) {W : Nat} (hl : W + (maxL + 11) + rm.locals ≤ R.locals)
    {g : JFrame} (hg : g.method = m) (hsize : g.locals.size = ml) {ps : List FieldType} {r : Option FieldType} (hpd : parseMethodDescriptor y.desc = some ⟨ps, r⟩) {argsL rest : List Value} (hlen : argsL.length = ps.length) (has : argsL.toArray = as) (hst : g.stack = argsL.reverse ++ rest)
    (hW : 2 * g.monitorRoom + (rest.map fun v => v.category).sum ≤ W) (hd : decode c.code g.pc = .ok (.invokestatic index, 3)) (hc : cells + rm.cells ≤ R.cells) (hs : slots + rm.slots ≤ R.slots) {P : own_P} {kc ks : Nat}
    (k : ∀ T' L v, Stand p l e R s m args below meth c T' (locs ++ L) (cells + rm.cells) (slots + rm.slots) → Q v T'.heap L → own_Go p e below s P kc ks (T'.setTop { g with pc := g.pc + 3, stack := v.toList ++ rest })) : own_Go p e below s P kc ks (T.setTop g) := by
  obtain ⟨v, vm, ⟨T', L', k', n'⟩, -, X', ⟨L, hQ, hl', hk', hn'⟩, st⟩ := Jvm.LawKit.callS X hx (y := y) hown (mvT hZ w1) (mvT hZ w2) (mvT hZ w3) (mvT hZ w4) hy (backOf (W := W) (hM []) hZ w4 w3 hf hl) hg (hsize.trans hml.symm) (argsL := argsL) (rest := rest) (lenOf hpd hlen) hst hW hd (fun _ _ => ⟨has, eT, hc, hs⟩)
  dsimp only [Pt.U, Pt.locs, Pt.cells, Pt.slots] at X' hl' hk' hn' st hQ
  subst hl' hk' hn'
  exact own_st st (k T' L v X' hQ)
/-- an instance method by its contract -/
theorem own_cV (X : Stand p l e R s m args below meth c T locs cells slots) (hx : p.tables.exec = Jvm.exec) {ml : Nat} (hml : c.maxLocals = ml) (hZ : Z.Warmed39 s.vm) {own C : String} {index : Nat} {y : MethodName} {bytes : ByteArray} {maxL : Nat} {ret : Option FieldType} {rm : Room} {as : Array Value} {Q : own_P}
    (hown : s.vm.findClass own = some m.cls) (w1 : (Jvm.Cond.methodLink own index y).before a0 Z = true) (w2 : (Jvm.Cond.declares y).before a0 Z = true) (w5 : (Jvm.Cond.selects C y y).before a0 Z = true) (w6 : (Jvm.Cond.instanceMethod y).before a0 Z = true) (w3 : (Jvm.Cond.initialized y.cls).before a0 Z = true) (w4 : (Jvm.Cond.code y bytes maxL ret).before a0 Z = true)
    (hy : y.cls ≠ "java/lang/invoke/MethodHandle" ∧ y.cls ≠ "java/lang/invoke/VarHandle") (hM : own_Met l Z y bytes maxL ret rm as h Q) (eT : T.heap = h) {b : Addr} (EX : Exa Z h b C) (hf : rm.frames + 1 ≤ R.frames) {W : Nat} (hl : W + (maxL + 11) + rm.locals ≤ R.locals)
    {g : JFrame} (hg : g.method = m) (hsize : g.locals.size = ml) {ps : List FieldType} {r : Option FieldType} (hpd : parseMethodDescriptor y.desc = some ⟨ps, r⟩) {argsL rest : List Value} (hlen : argsL.length = ps.length) (has : (.ref b :: argsL).toArray = as) (hst : g.stack = argsL.reverse ++ .ref b :: rest)
    (hW : 2 * g.monitorRoom + (rest.map fun v => v.category).sum ≤ W) (hd : decode c.code g.pc = .ok (.invokevirtual index, 3)) (hc : cells + rm.cells ≤ R.cells) (hs : slots + rm.slots ≤ R.slots) {P : own_P} {kc ks : Nat}
    (k : ∀ T' L v, Stand p l e R s m args below meth c T' (locs ++ L) (cells + rm.cells) (slots + rm.slots) → Q v T'.heap L → own_Go p e below s P kc ks (T'.setTop { g with pc := g.pc + 3, stack := v.toList ++ rest })) : own_Go p e below s P kc ks (T.setTop g) := by
  obtain ⟨cq, kq, qa, qb, qc⟩ := isOf hZ eT EX
  obtain ⟨v, vm, ⟨T', L', k', n'⟩, -, X', ⟨L, hQ, hl', hk', hn'⟩, st⟩ := X.virtualBack hx (y := y) (z := y) hown (mvT hZ w1) (mvT hZ w2) (notFace_of_selects (args := #[]) (mvT hZ w5)) (mvT hZ w5) (mvT hZ w6) hy (backOf (W := W) (hM []) hZ w4 w3 hf hl) qa qc hg (hsize.trans hml.symm) (Steps.refl _) (argsL := argsL) (rest := rest) (lenOf hpd hlen) hst hW hd (fun _ _ => ⟨has, eT, hc, hs⟩)
  dsimp only [Pt.U, Pt.locs, Pt.cells, Pt.slots] at X' hl' hk' hn' st hQ
  subst hl' hk' hn'
  exact own_stT st (k T' L v X' hQ)
/-- a private method by its contract -/
theorem own_cP (X : Stand p l e R s m args below meth c T locs cells slots) (hx : p.tables.exec = Jvm.exec) {ml : Nat} (hml : c.maxLocals = ml) (hZ : Z.Warmed39 s.vm) {own C : String} {index nn : Nat} {y : MethodName} {bytes : ByteArray} {maxL : Nat} {ret : Option FieldType} {rm : Room} {as : Array Value} {Q : own_P}
    (hown : s.vm.findClass own = some m.cls) (w1 : (Jvm.Cond.methodLink own index y).before a0 Z = true) (w2 : (Jvm.Cond.instanceMethod y).before a0 Z = true) (w5 : (Jvm.Cond.privateMethod y).before a0 Z = true) (wi : (Jvm.Cond.instantiable y.cls nn).before a0 Z = true) (w3 : (Jvm.Cond.initialized y.cls).before a0 Z = true) (w4 : (Jvm.Cond.code y bytes maxL ret).before a0 Z = true)
    (hy : y.cls ≠ "java/lang/invoke/MethodHandle" ∧ y.cls ≠ "java/lang/invoke/VarHandle") (hM : own_Met l Z y bytes maxL ret rm as h Q) (eT : T.heap = h) {b : Addr} (EX : Exa Z h b C) (hf : rm.frames + 1 ≤ R.frames) {W : Nat} (hl : W + (maxL + 11) + rm.locals ≤ R.locals)
    {g : JFrame} (hg : g.method = m) (hsize : g.locals.size = ml) {ps : List FieldType} {r : Option FieldType} (hpd : parseMethodDescriptor y.desc = some ⟨ps, r⟩) {argsL rest : List Value} (hlen : argsL.length = ps.length) (has : (.ref b :: argsL).toArray = as) (hst : g.stack = argsL.reverse ++ .ref b :: rest)
    (hW : 2 * g.monitorRoom + (rest.map fun v => v.category).sum ≤ W) (hd : decode c.code g.pc = .ok (.invokevirtual index, 3)) (hc : cells + rm.cells ≤ R.cells) (hs : slots + rm.slots ≤ R.slots) {P : own_P} {kc ks : Nat}
    (k : ∀ T' L v, Stand p l e R s m args below meth c T' (locs ++ L) (cells + rm.cells) (slots + rm.slots) → Q v T'.heap L → own_Go p e below s P kc ks (T'.setTop { g with pc := g.pc + 3, stack := v.toList ++ rest })) : own_Go p e below s P kc ks (T.setTop g) := by
  obtain ⟨cq, q1, q2⟩ := EX.cell
  have hpriv : s.PrivateAt y := Cond.privateMethod_at (mvP hZ w5 (args := #[]))
  have hsel : (Jvm.Cond.selects y.cls y y).before args s = true := by
    have wi' : (Jvm.Cond.instantiable y.cls nn).before args s = true := mvT hZ wi
    obtain ⟨c2, k2, f1, f2, f3, f4, -⟩ := Cond.instantiable_spec wi'
    exact selects_self_of_private f1 f2 (Bool.or_eq_false_iff.mp f4).1 hpriv (mvT hZ w2) hy
  obtain ⟨v, vm, ⟨T', L', k', n'⟩, -, X', ⟨L, hQ, hl', hk', hn'⟩, st⟩ := X.privateBack hx (y := y) hown (mvT hZ w1) (mvT hZ w2) hsel hpriv (mvT hZ w4) hy (backOf (W := W) (hM []) hZ w4 w3 hf hl) hg (hsize.trans hml.symm) (Steps.refl _) (a := b) (by rw [eT]; exact q1) q2 (argsL := argsL) (rest := rest) (lenOf hpd hlen) hst hW hd (fun _ _ => ⟨has, eT, hc, hs⟩)
  dsimp only [Pt.U, Pt.locs, Pt.cells, Pt.slots] at X' hl' hk' hn' st hQ
  subst hl' hk' hn'
  exact own_stT st (k T' L v X' hQ)
/-- a constructor by its contract -/
theorem own_cN (X : Stand p l e R s m args below meth c T locs cells slots) (hx : p.tables.exec = Jvm.exec) {ml : Nat} (hml : c.maxLocals = ml) (hZ : Z.Warmed39 s.vm) {own : String} {index : Nat} {y : MethodName} {bytes : ByteArray} {maxL : Nat} {rm : Room} {as : Array Value} {Q : own_P} (hy1 : y.name = "<init>")
    (hown : s.vm.findClass own = some m.cls) (w1 : (Jvm.Cond.methodLink own index y).before a0 Z = true) (w2 : (Jvm.Cond.instanceMethod y).before a0 Z = true) (w3 : (Jvm.Cond.initialized y.cls).before a0 Z = true) (w4 : (Jvm.Cond.code y bytes maxL none).before a0 Z = true)
    (hy : y.cls ≠ "java/lang/invoke/MethodHandle" ∧ y.cls ≠ "java/lang/invoke/VarHandle") (hM : own_Met l Z y bytes maxL none rm as h Q) (eT : T.heap = h) (hf : rm.frames + 1 ≤ R.frames) {W : Nat} (hl : W + (maxL + 11) + rm.locals ≤ R.locals)
    {g : JFrame} (hg : g.method = m) (hsize : g.locals.size = ml) {ps : List FieldType} {r : Option FieldType} (hpd : parseMethodDescriptor y.desc = some ⟨ps, r⟩) {b : Addr} {argsL rest : List Value} (hlen : argsL.length = ps.length) (has : (.ref b :: argsL).toArray = as) (hst : g.stack = argsL.reverse ++ .ref b :: rest)
    (hW : 2 * g.monitorRoom + (rest.map fun v => v.category).sum ≤ W) (hd : decode c.code g.pc = .ok (.invokespecial index, 3)) (hc : cells + rm.cells ≤ R.cells) (hs : slots + rm.slots ≤ R.slots) {P : own_P} {kc ks : Nat}
    (k : ∀ T' L v, Stand p l e R s m args below meth c T' (locs ++ L) (cells + rm.cells) (slots + rm.slots) → Q v T'.heap L → own_Go p e below s P kc ks (T'.setTop { g with pc := g.pc + 3, stack := v.toList ++ rest })) : own_Go p e below s P kc ks (T.setTop g) := by
  obtain ⟨v, vm, ⟨T', L', k', n'⟩, -, X', ⟨L, hQ, hl', hk', hn'⟩, st⟩ := X.specialBack hx (y := y) hy1 hown (mvT hZ w1) (mvT hZ w2) (mvT hZ w4) hy (backOf (W := W) (hM []) hZ w4 w3 hf hl) hg (hsize.trans hml.symm) (Steps.refl _) (a := b) (argsL := argsL) (rest := rest) (lenOf hpd hlen) hst hW hd (fun _ _ => ⟨has, eT, hc, hs⟩)
  dsimp only [Pt.U, Pt.locs, Pt.cells, Pt.slots] at X' hl' hk' hn' st hQ
  subst hl' hk' hn'
  exact own_stT st (k T' L v X' hQ)
/-- an array of n places: place j holds f j -/
def own_Av (Z : State) (h : Heap) (a : Addr) (ty : FieldType) (n : Nat) (f : Nat → Value) : Prop :=
  n < 2147483648 ∧ ∃ cl : Cell, Arr Z h a cl ty ∧ cl.slots.size = n ∧ ∀ j, j < n → cl.slots[j]? = some (f j)
theorem own_Av.lt {a : Addr} {ty : FieldType} {n : Nat} {f : Nat → Value} (V : own_Av Z h a ty n f) : a < h.size := by
  obtain ⟨-, cl, A, -⟩ := V
  exact A.lt
theorem own_Av.ext {a : Addr} {ty : FieldType} {n : Nat} {f : Nat → Value} (V : own_Av Z h a ty n f) (E : Ext h h') : own_Av Z h' a ty n f := by
  obtain ⟨hn, cl, A, r⟩ := V
  exact ⟨hn, cl, A.ext E, r⟩
theorem own_Av.other {a b : Addr} {ty : FieldType} {n sl : Nat} {f : Nat → Value} {v : Value} (V : own_Av Z h b ty n f) (W : Wr h h' a sl v) (q : b ≠ a) : own_Av Z h' b ty n f := by
  obtain ⟨hn, cl, A, r⟩ := V
  exact ⟨hn, cl, A.other W q, r⟩
theorem own_Av.keep {a : Addr} {ty : FieldType} {n : Nat} {f : Nat → Value} {ws : List Addr} (V : own_Av Z h a ty n f) (K : Keep h h' ws) (q : a ∉ ws) : own_Av Z h' a ty n f := by
  obtain ⟨hn, cl, A, r⟩ := V
  exact ⟨hn, cl, ⟨K.2.1 a cl A.1 q, A.2⟩, r⟩
theorem own_Av.congr {a : Addr} {ty : FieldType} {n : Nat} {f g : Nat → Value} (V : own_Av Z h a ty n f) (q : ∀ j, j < n → f j = g j) : own_Av Z h a ty n g := by
  obtain ⟨hn, cl, A, r1, r2⟩ := V
  exact ⟨hn, cl, A, r1, fun j hj => by rw [r2 j hj, q j hj]⟩
theorem own_Av.same {a : Addr} {ty : FieldType} {n i : Nat} {f : Nat → Value} {v : Value} (V : own_Av Z h a ty n f) (W : Wr h h' a i v) : own_Av Z h' a ty n (fun j => if j = i then v else f j) := by
  obtain ⟨hn, cl, A, r1, r2⟩ := V
  refine ⟨hn, cl.setSlot i v, A.same W, by rw [sz_set, r1], fun j hj => ?_⟩
  have hj' : j < cl.slots.size := by rw [r1]; exact hj
  by_cases q : j = i
  · subst q
    simp [Cell.setSlot, hj']
  · have q' : ¬ i = j := fun u => q u.symm
    simp only [Cell.setSlot, if_neg q]
    rw [Array.getElem?_setIfInBounds_ne q']
    exact r2 j hj
theorem own_Av.new {a : Addr} {ty : FieldType} {k : ClassId} {z : Int32} {n : Nat} (A : Arr Z h a (newA k ty z) ty) (hz : z.toInt = n) : own_Av Z h a ty n (fun _ => defaultValue ty) := by
  have h1 : z.toNatClampNeg = n := by
    show z.toInt.toNat = n
    rw [hz]; rfl
  have h2 : z.toInt < 2147483648 := Int32.toInt_lt z
  refine ⟨by omega, _, A, by rw [sz_new, h1], fun j hj => ?_⟩
  simp [newA, h1, hj]
theorem own_ix {j : Int32} {i n : Nat} (hj : j.toInt = i) (hi : i < n) : ¬ (j < 0 ∨ n ≤ j.toNatClampNeg) ∧ j.toNatClampNeg = i := by
  have h1 : j.toNatClampNeg = i := by
    show j.toInt.toNat = i
    rw [hj]; rfl
  refine ⟨?_, h1⟩
  rintro (q | q)
  · rw [Int32.lt_iff_toInt_lt, hj] at q
    have : (0 : Int32).toInt = 0 := by decide
    omega
  · omega
theorem own_ldI (X : Stand p l e R s m args below meth c T locs cells slots) (hx : p.tables.exec = Jvm.exec) (hZ : Z.Warmed39 s.vm) (eT : T.heap = h) {a : Addr} {n : Nat} {f : Nat → Value} (V : own_Av Z h a .int n f) {j : Int32} {i : Nat} (hj : j.toInt = i) (hi : i < n) {v : Value} (hv : f i = v)
    {g : JFrame} (hg : g.method = m) {rest : List Value} (hs : g.stack = .int j :: .ref a :: rest) (hd : decode c.code g.pc = .ok (.iaload, 1)) :
    ∀ t, Steps p.tables e below (T.setTop { g with pc := g.pc + 1, stack := v :: rest }) t → Steps p.tables e below (T.setTop g) t := by
  obtain ⟨-, cl, A, r1, r2⟩ := V
  obtain ⟨q1, q2⟩ := own_ix hj (n := cl.slots.size) (by rw [r1]; exact hi)
  exact X.iaload hx (by rw [eT]; exact A.1) (State.isArrayOf_alike hZ.alike A.2.1) A.2.2 q1 (by rw [q2, r2 i hi, hv]) hg hs hd
theorem own_ldB (X : Stand p l e R s m args below meth c T locs cells slots) (hx : p.tables.exec = Jvm.exec) (hZ : Z.Warmed39 s.vm) (eT : T.heap = h) {a : Addr} {n : Nat} {f : Nat → Value} (V : own_Av Z h a .byte n f) {j : Int32} {i : Nat} (hj : j.toInt = i) (hi : i < n) {v : Value} (hv : f i = v)
    {g : JFrame} (hg : g.method = m) {rest : List Value} (hs : g.stack = .int j :: .ref a :: rest) (hd : decode c.code g.pc = .ok (.baload, 1)) :
    ∀ t, Steps p.tables e below (T.setTop { g with pc := g.pc + 1, stack := v :: rest }) t → Steps p.tables e below (T.setTop g) t := by
  obtain ⟨-, cl, A, r1, r2⟩ := V
  obtain ⟨q1, q2⟩ := own_ix hj (n := cl.slots.size) (by rw [r1]; exact hi)
  exact X.baloadBytes hx (by rw [eT]; exact A.1) (State.isArrayOf_alike hZ.alike A.2.1) A.2.2 q1 (by rw [q2, r2 i hi, hv]) hg hs hd
theorem own_ldJ (X : Stand p l e R s m args below meth c T locs cells slots) (hx : p.tables.exec = Jvm.exec) (hZ : Z.Warmed39 s.vm) (eT : T.heap = h) {a : Addr} {n : Nat} {f : Nat → Value} (V : own_Av Z h a .long n f) {j : Int32} {i : Nat} (hj : j.toInt = i) (hi : i < n) {v : Value} (hv : f i = v)
    {g : JFrame} (hg : g.method = m) {rest : List Value} (hs : g.stack = .int j :: .ref a :: rest) (hd : decode c.code g.pc = .ok (.laload, 1)) :
    ∀ t, Steps p.tables e below (T.setTop { g with pc := g.pc + 1, stack := v :: rest }) t → Steps p.tables e below (T.setTop g) t := by
  obtain ⟨-, cl, A, r1, r2⟩ := V
  obtain ⟨q1, q2⟩ := own_ix hj (n := cl.slots.size) (by rw [r1]; exact hi)
  exact X.laload hx (by rw [eT]; exact A.1) (State.isArrayOf_alike hZ.alike A.2.1) A.2.2 q1 (by rw [q2, r2 i hi, hv]) hg hs hd
theorem own_len (X : Stand p l e R s m args below meth c T locs cells slots) (hx : p.tables.exec = Jvm.exec) (hZ : Z.Warmed39 s.vm) (eT : T.heap = h) {a : Addr} {ty : FieldType} {n : Nat} {f : Nat → Value} (V : own_Av Z h a ty n f) {z : Int32} (hz : z.toInt = n)
    {g : JFrame} (hg : g.method = m) {rest : List Value} (hs : g.stack = .ref a :: rest) (hd : decode c.code g.pc = .ok (.arraylength, 1)) :
    ∀ t, Steps p.tables e below (T.setTop { g with pc := g.pc + 1, stack := .int z :: rest }) t → Steps p.tables e below (T.setTop g) t := by
  obtain ⟨hn, cl, A, r1, r2⟩ := V
  have q : cl.slots.size.toInt32 = z := by
    rw [r1]
    apply Int32.toInt_inj.mp
    rw [hz]
    show (Int32.ofNat n).toInt = n
    rw [Int32.toInt_ofNat_of_lt (by omega)]
  intro t ht
  refine X.arraylength hx (by rw [eT]; exact A.1) (State.isArrayOf_alike hZ.alike A.2.1) hg hs hd t ?_
  rw [q]
  exact ht
theorem own_stI (X : Stand p l e R s m args below meth c T locs cells slots) (hx : p.tables.exec = Jvm.exec) (hZ : Z.Warmed39 s.vm) (eT : T.heap = h) {a : Addr} {n : Nat} {f : Nat → Int32} (V : own_Av Z h a .int n (fun t => .int (f t))) {j x : Int32} {i : Nat} (hj : j.toInt = i) (hi : i < n)
    {g : JFrame} (hg : g.method = m) {rest : List Value} (hs : g.stack = .int x :: .int j :: .ref a :: rest) (hd : decode c.code g.pc = .ok (.iastore, 1)) :
    ∃ T' h', Stand p l e R s m args below meth c T' (locs ++ [⟨a, i⟩]) cells slots ∧ T'.heap = h' ∧ Wr h h' a i (.int x) ∧ own_Av Z h' a .int n (fun t => .int (if t = i then x else f t)) ∧
      ∀ t, Steps p.tables e below (T'.setTop { g with pc := g.pc + 1, stack := rest }) t → Steps p.tables e below (T.setTop g) t := by
  have V' := V
  obtain ⟨-, cl, A, r1, r2⟩ := V
  obtain ⟨q1, q2⟩ := own_ix hj (n := cl.slots.size) (by rw [r1]; exact hi)
  obtain ⟨T', h', X', e', W', st⟩ := stI X hx hZ eT A q1 hg hs hd
  rw [q2] at X' W'
  exact ⟨T', h', X', e', W', (V'.same W').congr (fun j _ => by by_cases q : j = i <;> simp [q]), st⟩
theorem own_stB (X : Stand p l e R s m args below meth c T locs cells slots) (hx : p.tables.exec = Jvm.exec) (hZ : Z.Warmed39 s.vm) (eT : T.heap = h) {a : Addr} {n : Nat} {f : Nat → Int32} (V : own_Av Z h a .byte n (fun t => .int (f t))) {j x : Int32} {i : Nat} (hj : j.toInt = i) (hi : i < n)
    {g : JFrame} (hg : g.method = m) {rest : List Value} (hs : g.stack = .int x :: .int j :: .ref a :: rest) (hd : decode c.code g.pc = .ok (.bastore, 1)) :
    ∃ T' h', Stand p l e R s m args below meth c T' (locs ++ [⟨a, i⟩]) cells slots ∧ T'.heap = h' ∧ Wr h h' a i (.int (nar .byte x)) ∧ own_Av Z h' a .byte n (fun t => .int (if t = i then (nar .byte x) else f t)) ∧
      ∀ t, Steps p.tables e below (T'.setTop { g with pc := g.pc + 1, stack := rest }) t → Steps p.tables e below (T.setTop g) t := by
  have V' := V
  obtain ⟨-, cl, A, r1, r2⟩ := V
  obtain ⟨q1, q2⟩ := own_ix hj (n := cl.slots.size) (by rw [r1]; exact hi)
  obtain ⟨T', h', X', e', W', st⟩ := stB X hx hZ eT A q1 hg hs hd
  rw [q2] at X' W'
  exact ⟨T', h', X', e', W', (V'.same W').congr (fun j _ => by by_cases q : j = i <;> simp [q]), st⟩
theorem own_stJ (X : Stand p l e R s m args below meth c T locs cells slots) (hx : p.tables.exec = Jvm.exec) (hZ : Z.Warmed39 s.vm) (eT : T.heap = h) {a : Addr} {n : Nat} {f : Nat → Int64} (V : own_Av Z h a .long n (fun t => .long (f t))) {j : Int32} {x : Int64} {i : Nat} (hj : j.toInt = i) (hi : i < n)
    {g : JFrame} (hg : g.method = m) {rest : List Value} (hs : g.stack = .long x :: .int j :: .ref a :: rest) (hd : decode c.code g.pc = .ok (.lastore, 1)) :
    ∃ T' h', Stand p l e R s m args below meth c T' (locs ++ [⟨a, i⟩]) cells slots ∧ T'.heap = h' ∧ Wr h h' a i (.long x) ∧ own_Av Z h' a .long n (fun t => .long (if t = i then x else f t)) ∧
      ∀ t, Steps p.tables e below (T'.setTop { g with pc := g.pc + 1, stack := rest }) t → Steps p.tables e below (T.setTop g) t := by
  have V' := V
  obtain ⟨-, cl, A, r1, r2⟩ := V
  obtain ⟨q1, q2⟩ := own_ix hj (n := cl.slots.size) (by rw [r1]; exact hi)
  obtain ⟨T', h', X', e', W', st⟩ := stJ X hx hZ eT A q1 hg hs hd
  rw [q2] at X' W'
  exact ⟨T', h', X', e', W', (V'.same W').congr (fun j _ => by by_cases q : j = i <;> simp [q]), st⟩
/-- newarray: b is the fresh array's address -/
theorem own_newA (X : Stand p l e R s m args below meth c T locs cells slots) (hx : p.tables.exec = Jvm.exec) (hZ : Z.Warmed39 s.vm) {aty : ArrayType} (w : (Jvm.Cond.arrayClass (newarray.typeOf aty)).before a0 Z = true) (eT : T.heap = h) {g : JFrame} (hg : g.method = m) (hd : decode c.code g.pc = .ok (.newarray aty, 2)) {z : Int32} {rest : List Value} (hs : g.stack = .int z :: rest)
    {n cap : Nat} (hz : z.toInt = n) (hcap : n ≤ cap) (hb : cap * 8 ≤ 536870912) (hc : cells + 1 ≤ R.cells) (hl : slots + cap ≤ R.slots) :
    ∃ T' h' b, b = h.size ∧ Stand p l e R s m args below meth c T' locs (cells + 1) (slots + cap) ∧ T'.heap = h' ∧ Ext h h' ∧ own_Av Z h' b (newarray.typeOf aty) n (fun _ => defaultValue (newarray.typeOf aty)) ∧
      ∀ t, Steps p.tables e below (T'.setTop { g with pc := g.pc + 2, stack := .ref b :: rest }) t → Steps p.tables e below (T.setTop g) t := by
  have h1 : z.toNatClampNeg = n := by
    show z.toInt.toNat = n
    rw [hz]; rfl
  have h2 : ¬ z < 0 := by
    rw [Int32.lt_iff_toInt_lt, hz]
    have : (0 : Int32).toInt = 0 := by decide
    omega
  obtain ⟨T', h', cA, X', e', E', A', st⟩ := newP X hx hZ w eT hg hd hs h2 (cap := cap) (by omega) hb hc hl
  exact ⟨T', h', h.size, rfl, X', e', E', own_Av.new A' hz, st⟩
theorem own_nil {k : Nat} {L : List Loc} (N : Fr k L) {L' : List Loc} (q : L' = []) : Fr k (L ++ L') := by
  subst q
  rw [List.append_nil]
  exact N
/-- the walk's end, carried to the sheet -/
theorem own_cast {P : own_P} {kc ks : Nat} {A B : State} (q : A = B) (k : own_Go p e below s P kc ks B) : own_Go p e below s P kc ks A := q ▸ k
theorem own_bm {x : Int} (h1 : -2147483648 ≤ x) (h2 : x < 2147483648) : x.bmod (2 ^ 32) = x := by
  rw [Int.bmod_def]
  split <;> omega
theorem own_addN {a b : Int32} {i k : Nat} (ha : a.toInt = i) (hb : b.toInt = k) (hlt : i + k < 2147483648) : (a + b).toInt = ((i + k : Nat) : Int) := by
  rw [Int32.toInt_add, ha, hb, own_bm (by omega) (by omega)]
  omega
theorem own_add {a b : Int32} (h1 : -2147483648 ≤ a.toInt + b.toInt) (h2 : a.toInt + b.toInt < 2147483648) : (a + b).toInt = a.toInt + b.toInt := by
  rw [Int32.toInt_add, own_bm h1 h2]
theorem own_sub {a b : Int32} (h1 : -2147483648 ≤ a.toInt - b.toInt) (h2 : a.toInt - b.toInt < 2147483648) : (a - b).toInt = a.toInt - b.toInt := by
  rw [Int32.toInt_sub, own_bm h1 h2]
theorem own_mask (z K : Int32) {k : Nat} (hK : K.toInt = k) : ∃ i : Nat, (z &&& K).toInt = i ∧ i ≤ k := by
  have hk : K.toBitVec.toInt = k := hK
  have h1 : K.toBitVec.toNat = k := by
    rw [BitVec.toInt_eq_toNat_cond] at hk
    have := K.toBitVec.isLt
    split at hk <;> omega
  have h2 : 2 * K.toBitVec.toNat < 2 ^ 32 := by
    rw [BitVec.toInt_eq_toNat_cond] at hk
    have := K.toBitVec.isLt
    split at hk <;> omega
  have h3 : (z &&& K).toBitVec.toNat ≤ k := by
    show (z.toBitVec &&& K.toBitVec).toNat ≤ k
    rw [BitVec.toNat_and, ← h1]
    exact Nat.and_le_right
  refine ⟨(z &&& K).toBitVec.toNat, ?_, h3⟩
  show (z &&& K).toBitVec.toInt = _
  rw [BitVec.toInt_eq_toNat_cond, if_pos (by omega)]
theorem own_lt32 {a b : Int32} : a < b ↔ a.toInt < b.toInt := Int32.lt_iff_toInt_lt
theorem own_rem {a b : Int32} (ha : 0 ≤ a.toInt) (hb : 0 < b.toInt) : (a % b).toInt = a.toInt % b.toInt := by
  rw [Int32.toInt_mod]
  exact Int.tmod_eq_emod_of_nonneg ha
end OwnKit
def own_E (f : Nat → Int32) (i t j : Nat) : Prop := j ≤ t ∧ ((i + 2 ≤ j ∧ f (j - 2) = 10 ∧ f (j - 1) = 10) ∨ (i + 3 ≤ j ∧ f (j - 3) = 10 ∧ f (j - 2) = 13 ∧ f (j - 1) = 10))
def own_S (f : Nat → Int32) (t u : Nat) : Prop := (u + 2 ≤ t ∧ f u = 10 ∧ f (u + 1) = 10) ∨ (u + 3 ≤ t ∧ f u = 10 ∧ f (u + 1) = 13 ∧ f (u + 2) = 10)
theorem own_E_S {f : Nat → Int32} {i t j : Nat} (h : own_E f i t j) : (i + 2 ≤ j ∧ own_S f t (j - 2) ∧ f (j - 1) = 10 ∧ f (j - 2) = 10) ∨ (i + 3 ≤ j ∧ own_S f t (j - 3)) := by
  obtain ⟨h0, ⟨h1, h2, h3⟩ | ⟨h1, h2, h3, h4⟩⟩ := h
  · refine Or.inl ⟨h1, Or.inl ⟨by omega, h2, ?_⟩, h3, h2⟩
    rw [show j - 2 + 1 = j - 1 by omega]
    exact h3
  · refine Or.inr ⟨h1, Or.inr ⟨by omega, h2, ?_, ?_⟩⟩
    · rw [show j - 3 + 1 = j - 2 by omega]
      exact h3
    · rw [show j - 3 + 2 = j - 1 by omega]
      exact h4
theorem own_hit2 {f : Nat → Int32} {i t q : Nat} (hq : i ≤ q) (ht : q + 2 ≤ t) (h1 : f q = 10) (h2 : f (q + 1) = 10) (hn : ∀ u, i ≤ u → u < q → ¬ own_S f t u) : own_E f i t (q + 2) ∧ ∀ j, j < q + 2 → ¬ own_E f i t j := by
  refine ⟨⟨ht, Or.inl ⟨by omega, h1, h2⟩⟩, fun j hj h => ?_⟩
  rcases own_E_S h with ⟨r1, r2, -⟩ | ⟨r1, r2⟩
  · exact hn _ (by omega) (by omega) r2
  · exact hn _ (by omega) (by omega) r2
theorem own_hit3 {f : Nat → Int32} {i t q : Nat} (hq : i ≤ q) (ht : q + 3 ≤ t) (h1 : f q = 10) (h2 : f (q + 1) = 13) (h3 : f (q + 2) = 10) (hn : ∀ u, i ≤ u → u < q → ¬ own_S f t u) : own_E f i t (q + 3) ∧ ∀ j, j < q + 3 → ¬ own_E f i t j := by
  refine ⟨⟨ht, Or.inr ⟨by omega, h1, h2, h3⟩⟩, fun j hj h => ?_⟩
  rcases own_E_S h with ⟨r1, r2, r3, -⟩ | ⟨r1, r2⟩
  · by_cases e : j = q + 2
    · subst e
      rw [show q + 2 - 1 = q + 1 by omega, h2] at r3
      exact absurd r3 (by decide)
    · exact hn _ (by omega) (by omega) r2
  · exact hn _ (by omega) (by omega) r2
theorem own_none {f : Nat → Int32} {i t : Nat} (hn : ∀ u, i ≤ u → u < t → ¬ own_S f t u) : ∀ j, ¬ own_E f i t j := by
  intro j h
  have h0 := h.1
  rcases own_E_S h with ⟨r1, r2, -⟩ | ⟨r1, r2⟩
  · exact hn _ (by omega) (by omega) r2
  · exact hn _ (by omega) (by omega) r2
theorem own_d0_0 : decode method_2_code 0 = .ok (.iload_n 0, 1) := by decide +kernel
theorem own_d0_1 : decode method_2_code 1 = .ok (.sipush 255, 3) := by decide +kernel
theorem own_d0_4 : decode method_2_code 4 = .ok (.iand, 1) := by decide +kernel
theorem own_d0_5 : decode method_2_code 5 = .ok (.istore_n 1, 1) := by decide +kernel
theorem own_d0_6 : decode method_2_code 6 = .ok (.iload_n 1, 1) := by decide +kernel
theorem own_d0_7 : decode method_2_code 7 = .ok (.iconst 3, 1) := by decide +kernel
theorem own_d0_8 : decode method_2_code 8 = .ok (.iand, 1) := by decide +kernel
theorem own_d0_9 : decode method_2_code 9 = .ok (.ifCond .ne 6, 3) := by decide +kernel
theorem own_d0_12 : decode method_2_code 12 = .ok (.bipush 10, 2) := by decide +kernel
theorem own_d0_14 : decode method_2_code 14 = .ok (.ireturn, 1) := by decide +kernel
theorem own_d0_15 : decode method_2_code 15 = .ok (.iload_n 1, 1) := by decide +kernel
theorem own_d0_16 : decode method_2_code 16 = .ok (.iconst 3, 1) := by decide +kernel
theorem own_d0_17 : decode method_2_code 17 = .ok (.iand, 1) := by decide +kernel
theorem own_d0_18 : decode method_2_code 18 = .ok (.iconst 1, 1) := by decide +kernel
theorem own_d0_19 : decode method_2_code 19 = .ok (.if_icmp .ne 6, 3) := by decide +kernel
theorem own_d0_22 : decode method_2_code 22 = .ok (.bipush 13, 2) := by decide +kernel
theorem own_d0_24 : decode method_2_code 24 = .ok (.ireturn, 1) := by decide +kernel
theorem own_d0_25 : decode method_2_code 25 = .ok (.iload_n 1, 1) := by decide +kernel
theorem own_d0_26 : decode method_2_code 26 = .ok (.i2b, 1) := by decide +kernel
theorem own_d0_27 : decode method_2_code 27 = .ok (.ireturn, 1) := by decide +kernel
theorem own_pn0 : plainFor (⟨"com/example/prudent_queue/prudentqueue/http/RequestHeadEndPinLaw", "byteOf", "(I)B"⟩ : MethodName) = true := by first | exact plainFor_of_name (show plainName "com/example/prudent_queue/prudentqueue/http/RequestHeadEndPinLaw" = true by first | (simp [plainName, overriddenIn]; done) | decide +kernel) | decide +kernel
theorem own_ef0 (m : MethodId) (x0 : Int32) : entryFrame m #[(.int x0)] 2 = mkF m 0 #[.val (.int x0), .unset] [] := by first | (simp [entryFrame, mkF, argsToLocals, Value.category]; done) | rfl
set_option maxRecDepth 65536 in
set_option maxHeartbeats 40000000 in
theorem own_rm1 (l : Launch) (Z : State) (a0 : Array Value) (hw : ∀ d ∈ tables_1, d.before a0 Z = true) (p1 : Int32) (h0 : Heap) (n0 : Nat) (Z0 : n0 ≤ h0.size)  :
    own_Met l Z (⟨"com/example/prudent_queue/prudentqueue/http/RequestHeadEndPinLaw", "byteOf", "(I)B"⟩ : MethodName) method_2_code 2 (some .byte) ({ frames := 0, cells := 0, slots := 0, locals := 0 } : Room) #[(.int p1)] h0 (fun v h' L => (∃ d : Int32, v = some (.int d)) ∧ h' = h0 ∧ L = []) := by
  refine own_in own_pn0 ?_
  intro p e s m below meth c s₁ hx hby hml hown hnm hlk hret hZ X0 e0
  have N0 := Fr.nil n0
  refine own_ef (own_ef0 m p1) ?_
  show own_Go p e below s _ _ _ (s₁.setTop (mkF m 0 #[.val (.int p1), .unset] []))
  refine own_st (fun _ kont => XS.iloadN X0.here hx rfl (hb hby own_d0_0) rfl kont) ?_
  show own_Go p e below s _ _ _ (s₁.setTop (mkF m 1 #[.val (.int p1), .unset] [(.int p1)]))
  refine own_st (fun _ kont => XS.sipush X0.here hx rfl (hb hby own_d0_1) kont) ?_
  show own_Go p e below s _ _ _ (s₁.setTop (mkF m 4 #[.val (.int p1), .unset] [(.int (255 : Int32)), (.int p1)]))
  refine own_st (fun _ kont => XS.iand X0.here hx rfl (hb hby own_d0_4) rfl kont) ?_
  show own_Go p e below s _ _ _ (s₁.setTop (mkF m 5 #[.val (.int p1), .unset] [(.int (p1 &&& (255 : Int32)))]))
  refine own_st (fun _ kont => XS.istoreN X0.here hx rfl (hb hby own_d0_5) rfl (l' := #[.val (.int p1), .val (.int (p1 &&& (255 : Int32)))]) rfl kont) ?_
  show own_Go p e below s _ _ _ (s₁.setTop (mkF m 6 #[.val (.int p1), .val (.int (p1 &&& (255 : Int32)))] []))
  refine own_st (fun _ kont => XS.iloadN X0.here hx rfl (hb hby own_d0_6) rfl kont) ?_
  show own_Go p e below s _ _ _ (s₁.setTop (mkF m 7 #[.val (.int p1), .val (.int (p1 &&& (255 : Int32)))] [(.int (p1 &&& (255 : Int32)))]))
  refine own_st (fun _ kont => XS.iconst X0.here hx rfl (hb hby own_d0_7) kont) ?_
  show own_Go p e below s _ _ _ (s₁.setTop (mkF m 8 #[.val (.int p1), .val (.int (p1 &&& (255 : Int32)))] [(.int (3 : Int32)), (.int (p1 &&& (255 : Int32)))]))
  refine own_st (fun _ kont => XS.iand X0.here hx rfl (hb hby own_d0_8) rfl kont) ?_
  show own_Go p e below s _ _ _ (s₁.setTop (mkF m 9 #[.val (.int p1), .val (.int (p1 &&& (255 : Int32)))] [(.int ((p1 &&& (255 : Int32)) &&& (3 : Int32)))]))
  rcases Classical.em (((p1 &&& (255 : Int32)) &&& (3 : Int32)) = (0 : Int32)) with cc1 | cc1
  · have icc1 : ((((p1 &&& (255 : Int32)) &&& (3 : Int32))).toInt : Int) = 0 := congrArg Int32.toInt cc1
    show own_Go p e below s _ _ _ (s₁.setTop (mkF m 9 #[.val (.int p1), .val (.int (p1 &&& (255 : Int32)))] [(.int ((p1 &&& (255 : Int32)) &&& (3 : Int32)))]))
    refine own_st (fun _ kont => XS.ifNo X0.here hx rfl (hb hby own_d0_9) rfl ((if0 _ _).trans (teq cc1).2) kont) ?_
    show own_Go p e below s _ _ _ (s₁.setTop (mkF m 12 #[.val (.int p1), .val (.int (p1 &&& (255 : Int32)))] []))
    refine own_st (fun _ kont => XS.bipush X0.here hx rfl (hb hby own_d0_12) kont) ?_
    show own_Go p e below s _ _ _ (s₁.setTop (mkF m 14 #[.val (.int p1), .val (.int (p1 &&& (255 : Int32)))] [(.int (10 : Int32))]))
    exact own_endN X0 hx hlk (t := .byte) hret (by simp) (hb hby own_d0_14) (w := (10 : Int32)) (by decide) ⟨⟨_, rfl⟩, e0, rfl⟩ (by decide) (by decide)
  · have icc1 : ¬ (((((p1 &&& (255 : Int32)) &&& (3 : Int32))).toInt : Int) = 0) := fun u => cc1 (Int32.toInt_inj.mp u)
    show own_Go p e below s _ _ _ (s₁.setTop (mkF m 9 #[.val (.int p1), .val (.int (p1 &&& (255 : Int32)))] [(.int ((p1 &&& (255 : Int32)) &&& (3 : Int32)))]))
    refine own_st (fun _ kont => XS.ifYes X0.here hx rfl (pc0 := 9) (pc' := 15) rfl (hb hby own_d0_9) rfl ((if0 _ _).trans (feq cc1).2) (by decide) (by decide) kont) ?_
    show own_Go p e below s _ _ _ (s₁.setTop (mkF m 15 #[.val (.int p1), .val (.int (p1 &&& (255 : Int32)))] []))
    refine own_st (fun _ kont => XS.iloadN X0.here hx rfl (hb hby own_d0_15) rfl kont) ?_
    show own_Go p e below s _ _ _ (s₁.setTop (mkF m 16 #[.val (.int p1), .val (.int (p1 &&& (255 : Int32)))] [(.int (p1 &&& (255 : Int32)))]))
    refine own_st (fun _ kont => XS.iconst X0.here hx rfl (hb hby own_d0_16) kont) ?_
    show own_Go p e below s _ _ _ (s₁.setTop (mkF m 17 #[.val (.int p1), .val (.int (p1 &&& (255 : Int32)))] [(.int (3 : Int32)), (.int (p1 &&& (255 : Int32)))]))
    refine own_st (fun _ kont => XS.iand X0.here hx rfl (hb hby own_d0_17) rfl kont) ?_
    show own_Go p e below s _ _ _ (s₁.setTop (mkF m 18 #[.val (.int p1), .val (.int (p1 &&& (255 : Int32)))] [(.int ((p1 &&& (255 : Int32)) &&& (3 : Int32)))]))
    refine own_st (fun _ kont => XS.iconst X0.here hx rfl (hb hby own_d0_18) kont) ?_
    show own_Go p e below s _ _ _ (s₁.setTop (mkF m 19 #[.val (.int p1), .val (.int (p1 &&& (255 : Int32)))] [(.int (1 : Int32)), (.int ((p1 &&& (255 : Int32)) &&& (3 : Int32)))]))
    rcases Classical.em (((p1 &&& (255 : Int32)) &&& (3 : Int32)) = (1 : Int32)) with cc2 | cc2
    · have icc2 : ((((p1 &&& (255 : Int32)) &&& (3 : Int32))).toInt : Int) = 1 := congrArg Int32.toInt cc2
      show own_Go p e below s _ _ _ (s₁.setTop (mkF m 19 #[.val (.int p1), .val (.int (p1 &&& (255 : Int32)))] [(.int (1 : Int32)), (.int ((p1 &&& (255 : Int32)) &&& (3 : Int32)))]))
      refine own_st (fun _ kont => XS.icmpNo X0.here hx rfl (hb hby own_d0_19) rfl (teq cc2).2 kont) ?_
      show own_Go p e below s _ _ _ (s₁.setTop (mkF m 22 #[.val (.int p1), .val (.int (p1 &&& (255 : Int32)))] []))
      refine own_st (fun _ kont => XS.bipush X0.here hx rfl (hb hby own_d0_22) kont) ?_
      show own_Go p e below s _ _ _ (s₁.setTop (mkF m 24 #[.val (.int p1), .val (.int (p1 &&& (255 : Int32)))] [(.int (13 : Int32))]))
      exact own_endN X0 hx hlk (t := .byte) hret (by simp) (hb hby own_d0_24) (w := (13 : Int32)) (by decide) ⟨⟨_, rfl⟩, e0, rfl⟩ (by decide) (by decide)
    · have icc2 : ¬ (((((p1 &&& (255 : Int32)) &&& (3 : Int32))).toInt : Int) = 1) := fun u => cc2 (Int32.toInt_inj.mp u)
      show own_Go p e below s _ _ _ (s₁.setTop (mkF m 19 #[.val (.int p1), .val (.int (p1 &&& (255 : Int32)))] [(.int (1 : Int32)), (.int ((p1 &&& (255 : Int32)) &&& (3 : Int32)))]))
      refine own_st (fun _ kont => XS.icmpYes X0.here hx rfl (pc0 := 19) (pc' := 25) rfl (hb hby own_d0_19) rfl (feq cc2).2 (by decide) (by decide) kont) ?_
      show own_Go p e below s _ _ _ (s₁.setTop (mkF m 25 #[.val (.int p1), .val (.int (p1 &&& (255 : Int32)))] []))
      refine own_st (fun _ kont => XS.iloadN X0.here hx rfl (hb hby own_d0_25) rfl kont) ?_
      show own_Go p e below s _ _ _ (s₁.setTop (mkF m 26 #[.val (.int p1), .val (.int (p1 &&& (255 : Int32)))] [(.int (p1 &&& (255 : Int32)))]))
      refine own_st (fun _ kont => XS.i2b X0.here hx rfl (hb hby own_d0_26) rfl kont) ?_
      show own_Go p e below s _ _ _ (s₁.setTop (mkF m 27 #[.val (.int p1), .val (.int (p1 &&& (255 : Int32)))] [(.int ((p1 &&& (255 : Int32))).toInt8.toInt32)]))
      exact own_endN X0 hx hlk (t := .byte) hret (by simp) (hb hby own_d0_27) rfl ⟨⟨_, rfl⟩, e0, rfl⟩ (by decide) (by decide)
theorem own_d1_0 : decode method_3_code 0 = .ok (.iload_n 3, 1) := by decide +kernel
theorem own_d1_1 : decode method_3_code 1 = .ok (.iload_n 2, 1) := by decide +kernel
theorem own_d1_2 : decode method_3_code 2 = .ok (.if_icmp .le 5, 3) := by decide +kernel
theorem own_d1_5 : decode method_3_code 5 = .ok (.iconst 0, 1) := by decide +kernel
theorem own_d1_6 : decode method_3_code 6 = .ok (.ireturn, 1) := by decide +kernel
theorem own_d1_7 : decode method_3_code 7 = .ok (.iload_n 3, 1) := by decide +kernel
theorem own_d1_8 : decode method_3_code 8 = .ok (.iconst 2, 1) := by decide +kernel
theorem own_d1_9 : decode method_3_code 9 = .ok (.isub, 1) := by decide +kernel
theorem own_d1_10 : decode method_3_code 10 = .ok (.iload_n 1, 1) := by decide +kernel
theorem own_d1_11 : decode method_3_code 11 = .ok (.if_icmp .lt 27, 3) := by decide +kernel
theorem own_d1_14 : decode method_3_code 14 = .ok (.aload_n 0, 1) := by decide +kernel
theorem own_d1_15 : decode method_3_code 15 = .ok (.iload_n 3, 1) := by decide +kernel
theorem own_d1_16 : decode method_3_code 16 = .ok (.iconst 2, 1) := by decide +kernel
theorem own_d1_17 : decode method_3_code 17 = .ok (.isub, 1) := by decide +kernel
theorem own_d1_18 : decode method_3_code 18 = .ok (.baload, 1) := by decide +kernel
theorem own_d1_19 : decode method_3_code 19 = .ok (.bipush 10, 2) := by decide +kernel
theorem own_d1_21 : decode method_3_code 21 = .ok (.if_icmp .ne 17, 3) := by decide +kernel
theorem own_d1_24 : decode method_3_code 24 = .ok (.aload_n 0, 1) := by decide +kernel
theorem own_d1_25 : decode method_3_code 25 = .ok (.iload_n 3, 1) := by decide +kernel
theorem own_d1_26 : decode method_3_code 26 = .ok (.iconst 1, 1) := by decide +kernel
theorem own_d1_27 : decode method_3_code 27 = .ok (.isub, 1) := by decide +kernel
theorem own_d1_28 : decode method_3_code 28 = .ok (.baload, 1) := by decide +kernel
theorem own_d1_29 : decode method_3_code 29 = .ok (.bipush 10, 2) := by decide +kernel
theorem own_d1_31 : decode method_3_code 31 = .ok (.if_icmp .ne 7, 3) := by decide +kernel
theorem own_d1_34 : decode method_3_code 34 = .ok (.iconst 1, 1) := by decide +kernel
theorem own_d1_35 : decode method_3_code 35 = .ok (.goto 4, 3) := by decide +kernel
theorem own_d1_38 : decode method_3_code 38 = .ok (.iconst 0, 1) := by decide +kernel
theorem own_d1_39 : decode method_3_code 39 = .ok (.istore 4, 2) := by decide +kernel
theorem own_d1_41 : decode method_3_code 41 = .ok (.iload_n 3, 1) := by decide +kernel
theorem own_d1_42 : decode method_3_code 42 = .ok (.iconst 3, 1) := by decide +kernel
theorem own_d1_43 : decode method_3_code 43 = .ok (.if_icmp .lt 44, 3) := by decide +kernel
theorem own_d1_46 : decode method_3_code 46 = .ok (.iload_n 3, 1) := by decide +kernel
theorem own_d1_47 : decode method_3_code 47 = .ok (.iconst 3, 1) := by decide +kernel
theorem own_d1_48 : decode method_3_code 48 = .ok (.isub, 1) := by decide +kernel
theorem own_d1_49 : decode method_3_code 49 = .ok (.iload_n 1, 1) := by decide +kernel
theorem own_d1_50 : decode method_3_code 50 = .ok (.if_icmp .lt 37, 3) := by decide +kernel
theorem own_d1_53 : decode method_3_code 53 = .ok (.aload_n 0, 1) := by decide +kernel
theorem own_d1_54 : decode method_3_code 54 = .ok (.iload_n 3, 1) := by decide +kernel
theorem own_d1_55 : decode method_3_code 55 = .ok (.iconst 3, 1) := by decide +kernel
theorem own_d1_56 : decode method_3_code 56 = .ok (.isub, 1) := by decide +kernel
theorem own_d1_57 : decode method_3_code 57 = .ok (.baload, 1) := by decide +kernel
theorem own_d1_58 : decode method_3_code 58 = .ok (.bipush 10, 2) := by decide +kernel
theorem own_d1_60 : decode method_3_code 60 = .ok (.if_icmp .ne 27, 3) := by decide +kernel
theorem own_d1_63 : decode method_3_code 63 = .ok (.aload_n 0, 1) := by decide +kernel
theorem own_d1_64 : decode method_3_code 64 = .ok (.iload_n 3, 1) := by decide +kernel
theorem own_d1_65 : decode method_3_code 65 = .ok (.iconst 2, 1) := by decide +kernel
theorem own_d1_66 : decode method_3_code 66 = .ok (.isub, 1) := by decide +kernel
theorem own_d1_67 : decode method_3_code 67 = .ok (.baload, 1) := by decide +kernel
theorem own_d1_68 : decode method_3_code 68 = .ok (.bipush 13, 2) := by decide +kernel
theorem own_d1_70 : decode method_3_code 70 = .ok (.if_icmp .ne 17, 3) := by decide +kernel
theorem own_d1_73 : decode method_3_code 73 = .ok (.aload_n 0, 1) := by decide +kernel
theorem own_d1_74 : decode method_3_code 74 = .ok (.iload_n 3, 1) := by decide +kernel
theorem own_d1_75 : decode method_3_code 75 = .ok (.iconst 1, 1) := by decide +kernel
theorem own_d1_76 : decode method_3_code 76 = .ok (.isub, 1) := by decide +kernel
theorem own_d1_77 : decode method_3_code 77 = .ok (.baload, 1) := by decide +kernel
theorem own_d1_78 : decode method_3_code 78 = .ok (.bipush 10, 2) := by decide +kernel
theorem own_d1_80 : decode method_3_code 80 = .ok (.if_icmp .ne 7, 3) := by decide +kernel
theorem own_d1_83 : decode method_3_code 83 = .ok (.iconst 1, 1) := by decide +kernel
theorem own_d1_84 : decode method_3_code 84 = .ok (.goto 4, 3) := by decide +kernel
theorem own_d1_87 : decode method_3_code 87 = .ok (.iconst 0, 1) := by decide +kernel
theorem own_d1_88 : decode method_3_code 88 = .ok (.istore 5, 2) := by decide +kernel
theorem own_d1_90 : decode method_3_code 90 = .ok (.iload 4, 2) := by decide +kernel
theorem own_d1_92 : decode method_3_code 92 = .ok (.ifCond .ne 8, 3) := by decide +kernel
theorem own_d1_95 : decode method_3_code 95 = .ok (.iload 5, 2) := by decide +kernel
theorem own_d1_97 : decode method_3_code 97 = .ok (.ifCond .eq 7, 3) := by decide +kernel
theorem own_d1_100 : decode method_3_code 100 = .ok (.iconst 1, 1) := by decide +kernel
theorem own_d1_101 : decode method_3_code 101 = .ok (.goto 4, 3) := by decide +kernel
theorem own_d1_104 : decode method_3_code 104 = .ok (.iconst 0, 1) := by decide +kernel
theorem own_d1_105 : decode method_3_code 105 = .ok (.ireturn, 1) := by decide +kernel
theorem own_pn1 : plainFor (⟨"com/example/prudent_queue/prudentqueue/http/RequestHeadEndPinLaw", "endsAt", "([BIII)Z"⟩ : MethodName) = true := by first | exact plainFor_of_name (show plainName "com/example/prudent_queue/prudentqueue/http/RequestHeadEndPinLaw" = true by first | (simp [plainName, overriddenIn]; done) | decide +kernel) | decide +kernel
theorem own_ef1 (m : MethodId) (x0 : Addr) (x1 : Int32) (x2 : Int32) (x3 : Int32) : entryFrame m #[(.ref x0), (.int x1), (.int x2), (.int x3)] 6 = mkF m 0 #[.val (.ref x0), .val (.int x1), .val (.int x2), .val (.int x3), .unset, .unset] [] := by first | (simp [entryFrame, mkF, argsToLocals, Value.category]; done) | rfl
set_option maxRecDepth 65536 in
set_option maxHeartbeats 40000000 in
theorem own_rm2 (l : Launch) (Z : State) (a0 : Array Value) (hw : ∀ d ∈ tables_1, d.before a0 Z = true) (a1 : Addr) (p2 p3 p4 : Int32) (f : Nat → Int32) (i t j : Nat) (h0 : Heap) (n0 : Nat) (Z0 : n0 ≤ h0.size) (V : own_Av Z h0 a1 .byte 6 (fun t => .int (f t))) (hi : p2.toInt = (i : Int)) (ht : p3.toInt = (t : Int)) (ht6 : t ≤ 6) (hj : p4.toInt = (j : Int)) (hj2 : 2 ≤ j) (hj6 : j ≤ 6) (hi6 : i ≤ 6) :
    own_Met l Z (⟨"com/example/prudent_queue/prudentqueue/http/RequestHeadEndPinLaw", "endsAt", "([BIII)Z"⟩ : MethodName) method_3_code 6 (some .boolean) ({ frames := 0, cells := 0, slots := 0, locals := 0 } : Room) #[(.ref a1), (.int p2), (.int p3), (.int p4)] h0 (fun v h' L => ((v = some (.int 1) ∧ (own_E f i t j)) ∨ (v = some (.int 0) ∧ ¬ (own_E f i t j))) ∧ h' = h0 ∧ L = []) := by
  refine own_in own_pn1 ?_
  intro p e s m below meth c s₁ hx hby hml hown hnm hlk hret hZ X0 e0
  have N0 := Fr.nil n0
  refine own_ef (own_ef1 m a1 p2 p3 p4) ?_
  have e1 : (p4 - (1 : Int32)).toInt = ((j - 1 : Nat) : Int) := by
    have c1 : ((1 : Int32)).toInt = 1 := by decide
    rw [own_sub (by omega) (by omega), hj, c1]; omega
  have e2 : (p4 - (2 : Int32)).toInt = ((j - 2 : Nat) : Int) := by
    have c1 : ((2 : Int32)).toInt = 2 := by decide
    rw [own_sub (by omega) (by omega), hj, c1]; omega
  have e3 : 3 ≤ j → (p4 - (3 : Int32)).toInt = ((j - 3 : Nat) : Int) := by
    intro u
    have c1 : ((3 : Int32)).toInt = 3 := by decide
    rw [own_sub (by omega) (by omega), hj, c1]; omega
  have e3' : (p4 - (3 : Int32)).toInt = (j : Int) - 3 := by
    have c1 : ((3 : Int32)).toInt = 3 := by decide
    rw [own_sub (by omega) (by omega), hj, c1]
  show own_Go p e below s _ _ _ (s₁.setTop (mkF m 0 #[.val (.ref a1), .val (.int p2), .val (.int p3), .val (.int p4), .unset, .unset] []))
  refine own_st (fun _ kont => XS.iloadN X0.here hx rfl (hb hby own_d1_0) rfl kont) ?_
  show own_Go p e below s _ _ _ (s₁.setTop (mkF m 1 #[.val (.ref a1), .val (.int p2), .val (.int p3), .val (.int p4), .unset, .unset] [(.int p4)]))
  refine own_st (fun _ kont => XS.iloadN X0.here hx rfl (hb hby own_d1_1) rfl kont) ?_
  show own_Go p e below s _ _ _ (s₁.setTop (mkF m 2 #[.val (.ref a1), .val (.int p2), .val (.int p3), .val (.int p4), .unset, .unset] [(.int p3), (.int p4)]))
  rcases Classical.em (p3 < p4) with c1 | c1
  · have ic1 : ((p3).toInt : Int) < (p4).toInt := Int32.lt_iff_toInt_lt.mp c1
    show own_Go p e below s _ _ _ (s₁.setTop (mkF m 2 #[.val (.ref a1), .val (.int p2), .val (.int p3), .val (.int p4), .unset, .unset] [(.int p3), (.int p4)]))
    refine own_st (fun _ kont => XS.icmpNo X0.here hx rfl (hb hby own_d1_2) rfl (tlt c1).2.2.2 kont) ?_
    show own_Go p e below s _ _ _ (s₁.setTop (mkF m 5 #[.val (.ref a1), .val (.int p2), .val (.int p3), .val (.int p4), .unset, .unset] []))
    refine own_st (fun _ kont => XS.iconst X0.here hx rfl (hb hby own_d1_5) kont) ?_
    show own_Go p e below s _ _ _ (s₁.setTop (mkF m 6 #[.val (.ref a1), .val (.int p2), .val (.int p3), .val (.int p4), .unset, .unset] [(.int (0 : Int32))]))
    exact own_endN X0 hx hlk (t := .boolean) hret (by simp) (hb hby own_d1_6) (w := (0 : Int32)) (by decide) ⟨Or.inr ⟨rfl, fun u => by have := u.1; omega⟩, e0, rfl⟩ (by decide) (by decide)
  · have ic1 : ¬ (((p3).toInt : Int) < (p4).toInt) := fun u => c1 (Int32.lt_iff_toInt_lt.mpr u)
    show own_Go p e below s _ _ _ (s₁.setTop (mkF m 2 #[.val (.ref a1), .val (.int p2), .val (.int p3), .val (.int p4), .unset, .unset] [(.int p3), (.int p4)]))
    refine own_st (fun _ kont => XS.icmpYes X0.here hx rfl (pc0 := 2) (pc' := 7) rfl (hb hby own_d1_2) rfl (flt c1).2.2.2 (by decide) (by decide) kont) ?_
    show own_Go p e below s _ _ _ (s₁.setTop (mkF m 7 #[.val (.ref a1), .val (.int p2), .val (.int p3), .val (.int p4), .unset, .unset] []))
    refine own_st (fun _ kont => XS.iloadN X0.here hx rfl (hb hby own_d1_7) rfl kont) ?_
    show own_Go p e below s _ _ _ (s₁.setTop (mkF m 8 #[.val (.ref a1), .val (.int p2), .val (.int p3), .val (.int p4), .unset, .unset] [(.int p4)]))
    refine own_st (fun _ kont => XS.iconst X0.here hx rfl (hb hby own_d1_8) kont) ?_
    show own_Go p e below s _ _ _ (s₁.setTop (mkF m 9 #[.val (.ref a1), .val (.int p2), .val (.int p3), .val (.int p4), .unset, .unset] [(.int (2 : Int32)), (.int p4)]))
    refine own_st (fun _ kont => XS.isub X0.here hx rfl (hb hby own_d1_9) rfl kont) ?_
    show own_Go p e below s _ _ _ (s₁.setTop (mkF m 10 #[.val (.ref a1), .val (.int p2), .val (.int p3), .val (.int p4), .unset, .unset] [(.int (p4 - (2 : Int32)))]))
    refine own_st (fun _ kont => XS.iloadN X0.here hx rfl (hb hby own_d1_10) rfl kont) ?_
    show own_Go p e below s _ _ _ (s₁.setTop (mkF m 11 #[.val (.ref a1), .val (.int p2), .val (.int p3), .val (.int p4), .unset, .unset] [(.int p2), (.int (p4 - (2 : Int32)))]))
    have J2 : ∀ g1 g2 : Int32, (g1 = 1 ∧ (i + 2 ≤ j ∧ f (j - 2) = 10 ∧ f (j - 1) = 10) ∨ g1 = 0 ∧ ¬ (i + 2 ≤ j ∧ f (j - 2) = 10 ∧ f (j - 1) = 10)) → (g2 = 1 ∧ (i + 3 ≤ j ∧ f (j - 3) = 10 ∧ f (j - 2) = 13 ∧ f (j - 1) = 10) ∨ g2 = 0 ∧ ¬ (i + 3 ≤ j ∧ f (j - 3) = 10 ∧ f (j - 2) = 13 ∧ f (j - 1) = 10)) → own_Go p e below s (fun v h' L => ((v = some (.int 1) ∧ (own_E f i t j)) ∨ (v = some (.int 0) ∧ ¬ (own_E f i t j))) ∧ h' = h0 ∧ L = []) ({ frames := 0, cells := 0, slots := 0, locals := 0 } : Room).cells ({ frames := 0, cells := 0, slots := 0, locals := 0 } : Room).slots (s₁.setTop (mkF m 90 #[.val (.ref a1), .val (.int p2), .val (.int p3), .val (.int p4), .val (.int g1), .val (.int g2)] [])) := by
      intro g1 g2 hg1 hg2
      show own_Go p e below s _ _ _ (s₁.setTop (mkF m 90 #[.val (.ref a1), .val (.int p2), .val (.int p3), .val (.int p4), .val (.int g1), .val (.int g2)] []))
      refine own_st (fun _ kont => XS.iload X0.here hx rfl (hb hby own_d1_90) rfl kont) ?_
      show own_Go p e below s _ _ _ (s₁.setTop (mkF m 92 #[.val (.ref a1), .val (.int p2), .val (.int p3), .val (.int p4), .val (.int g1), .val (.int g2)] [(.int g1)]))
      rcases Classical.em (g1 = (0 : Int32)) with d1 | d1
      · show own_Go p e below s _ _ _ (s₁.setTop (mkF m 92 #[.val (.ref a1), .val (.int p2), .val (.int p3), .val (.int p4), .val (.int g1), .val (.int g2)] [(.int g1)]))
        refine own_st (fun _ kont => XS.ifNo X0.here hx rfl (hb hby own_d1_92) rfl ((if0 _ _).trans (teq d1).2) kont) ?_
        show own_Go p e below s _ _ _ (s₁.setTop (mkF m 95 #[.val (.ref a1), .val (.int p2), .val (.int p3), .val (.int p4), .val (.int g1), .val (.int g2)] []))
        refine own_st (fun _ kont => XS.iload X0.here hx rfl (hb hby own_d1_95) rfl kont) ?_
        show own_Go p e below s _ _ _ (s₁.setTop (mkF m 97 #[.val (.ref a1), .val (.int p2), .val (.int p3), .val (.int p4), .val (.int g1), .val (.int g2)] [(.int g2)]))
        rcases Classical.em (g2 = (0 : Int32)) with d2 | d2
        · show own_Go p e below s _ _ _ (s₁.setTop (mkF m 97 #[.val (.ref a1), .val (.int p2), .val (.int p3), .val (.int p4), .val (.int g1), .val (.int g2)] [(.int g2)]))
          refine own_st (fun _ kont => XS.ifYes X0.here hx rfl (pc0 := 97) (pc' := 104) rfl (hb hby own_d1_97) rfl ((if0 _ _).trans (teq d2).1) (by decide) (by decide) kont) ?_
          show own_Go p e below s _ _ _ (s₁.setTop (mkF m 104 #[.val (.ref a1), .val (.int p2), .val (.int p3), .val (.int p4), .val (.int g1), .val (.int g2)] []))
          have hE : ¬ own_E f i t j := fun u => by
            rcases u.2 with r | r
            · rcases hg1 with ⟨q, -⟩ | ⟨-, q⟩
              · rw [d1] at q; exact absurd q (by decide)
              · exact q r
            · rcases hg2 with ⟨q, -⟩ | ⟨-, q⟩
              · rw [d2] at q; exact absurd q (by decide)
              · exact q r
          show own_Go p e below s _ _ _ (s₁.setTop (mkF m 104 #[.val (.ref a1), .val (.int p2), .val (.int p3), .val (.int p4), .val (.int g1), .val (.int g2)] []))
          refine own_st (fun _ kont => XS.iconst X0.here hx rfl (hb hby own_d1_104) kont) ?_
          show own_Go p e below s _ _ _ (s₁.setTop (mkF m 105 #[.val (.ref a1), .val (.int p2), .val (.int p3), .val (.int p4), .val (.int g1), .val (.int g2)] [(.int (0 : Int32))]))
          exact own_endN X0 hx hlk (t := .boolean) hret (by simp) (hb hby own_d1_105) (w := (0 : Int32)) (by decide) ⟨Or.inr ⟨rfl, hE⟩, e0, rfl⟩ (by decide) (by decide)
        · show own_Go p e below s _ _ _ (s₁.setTop (mkF m 97 #[.val (.ref a1), .val (.int p2), .val (.int p3), .val (.int p4), .val (.int g1), .val (.int g2)] [(.int g2)]))
          refine own_st (fun _ kont => XS.ifNo X0.here hx rfl (hb hby own_d1_97) rfl ((if0 _ _).trans (feq d2).1) kont) ?_
          show own_Go p e below s _ _ _ (s₁.setTop (mkF m 100 #[.val (.ref a1), .val (.int p2), .val (.int p3), .val (.int p4), .val (.int g1), .val (.int g2)] []))
          have hE : own_E f i t j := ⟨by omega, Or.inr (by
            rcases hg2 with ⟨-, r⟩ | ⟨r, -⟩
            · exact r
            · exact absurd r d2)⟩
          show own_Go p e below s _ _ _ (s₁.setTop (mkF m 100 #[.val (.ref a1), .val (.int p2), .val (.int p3), .val (.int p4), .val (.int g1), .val (.int g2)] []))
          refine own_st (fun _ kont => XS.iconst X0.here hx rfl (hb hby own_d1_100) kont) ?_
          show own_Go p e below s _ _ _ (s₁.setTop (mkF m 101 #[.val (.ref a1), .val (.int p2), .val (.int p3), .val (.int p4), .val (.int g1), .val (.int g2)] [(.int (1 : Int32))]))
          refine own_st (fun _ kont => XS.goto X0.here hx rfl (pc0 := 101) (pc' := 105) rfl (hb hby own_d1_101) (by decide) (by decide) kont) ?_
          show own_Go p e below s _ _ _ (s₁.setTop (mkF m 105 #[.val (.ref a1), .val (.int p2), .val (.int p3), .val (.int p4), .val (.int g1), .val (.int g2)] [(.int (1 : Int32))]))
          exact own_endN X0 hx hlk (t := .boolean) hret (by simp) (hb hby own_d1_105) (w := (1 : Int32)) (by decide) ⟨Or.inl ⟨rfl, hE⟩, e0, rfl⟩ (by decide) (by decide)
      · show own_Go p e below s _ _ _ (s₁.setTop (mkF m 92 #[.val (.ref a1), .val (.int p2), .val (.int p3), .val (.int p4), .val (.int g1), .val (.int g2)] [(.int g1)]))
        refine own_st (fun _ kont => XS.ifYes X0.here hx rfl (pc0 := 92) (pc' := 100) rfl (hb hby own_d1_92) rfl ((if0 _ _).trans (feq d1).2) (by decide) (by decide) kont) ?_
        show own_Go p e below s _ _ _ (s₁.setTop (mkF m 100 #[.val (.ref a1), .val (.int p2), .val (.int p3), .val (.int p4), .val (.int g1), .val (.int g2)] []))
        have hE : own_E f i t j := ⟨by omega, Or.inl (by
          rcases hg1 with ⟨-, r⟩ | ⟨r, -⟩
          · exact r
          · exact absurd r d1)⟩
        show own_Go p e below s _ _ _ (s₁.setTop (mkF m 100 #[.val (.ref a1), .val (.int p2), .val (.int p3), .val (.int p4), .val (.int g1), .val (.int g2)] []))
        refine own_st (fun _ kont => XS.iconst X0.here hx rfl (hb hby own_d1_100) kont) ?_
        show own_Go p e below s _ _ _ (s₁.setTop (mkF m 101 #[.val (.ref a1), .val (.int p2), .val (.int p3), .val (.int p4), .val (.int g1), .val (.int g2)] [(.int (1 : Int32))]))
        refine own_st (fun _ kont => XS.goto X0.here hx rfl (pc0 := 101) (pc' := 105) rfl (hb hby own_d1_101) (by decide) (by decide) kont) ?_
        show own_Go p e below s _ _ _ (s₁.setTop (mkF m 105 #[.val (.ref a1), .val (.int p2), .val (.int p3), .val (.int p4), .val (.int g1), .val (.int g2)] [(.int (1 : Int32))]))
        exact own_endN X0 hx hlk (t := .boolean) hret (by simp) (hb hby own_d1_105) (w := (1 : Int32)) (by decide) ⟨Or.inl ⟨rfl, hE⟩, e0, rfl⟩ (by decide) (by decide)
    have J1 : ∀ g1 : Int32, (g1 = 1 ∧ (i + 2 ≤ j ∧ f (j - 2) = 10 ∧ f (j - 1) = 10) ∨ g1 = 0 ∧ ¬ (i + 2 ≤ j ∧ f (j - 2) = 10 ∧ f (j - 1) = 10)) → own_Go p e below s (fun v h' L => ((v = some (.int 1) ∧ (own_E f i t j)) ∨ (v = some (.int 0) ∧ ¬ (own_E f i t j))) ∧ h' = h0 ∧ L = []) ({ frames := 0, cells := 0, slots := 0, locals := 0 } : Room).cells ({ frames := 0, cells := 0, slots := 0, locals := 0 } : Room).slots (s₁.setTop (mkF m 41 #[.val (.ref a1), .val (.int p2), .val (.int p3), .val (.int p4), .val (.int g1), .unset] [])) := by
      intro g1 hg1
      show own_Go p e below s _ _ _ (s₁.setTop (mkF m 41 #[.val (.ref a1), .val (.int p2), .val (.int p3), .val (.int p4), .val (.int g1), .unset] []))
      refine own_st (fun _ kont => XS.iloadN X0.here hx rfl (hb hby own_d1_41) rfl kont) ?_
      show own_Go p e below s _ _ _ (s₁.setTop (mkF m 42 #[.val (.ref a1), .val (.int p2), .val (.int p3), .val (.int p4), .val (.int g1), .unset] [(.int p4)]))
      refine own_st (fun _ kont => XS.iconst X0.here hx rfl (hb hby own_d1_42) kont) ?_
      show own_Go p e below s _ _ _ (s₁.setTop (mkF m 43 #[.val (.ref a1), .val (.int p2), .val (.int p3), .val (.int p4), .val (.int g1), .unset] [(.int (3 : Int32)), (.int p4)]))
      rcases Classical.em (p4 < (3 : Int32)) with b1 | b1
      · have ib1 : ((p4).toInt : Int) < 3 := Int32.lt_iff_toInt_lt.mp b1
        show own_Go p e below s _ _ _ (s₁.setTop (mkF m 43 #[.val (.ref a1), .val (.int p2), .val (.int p3), .val (.int p4), .val (.int g1), .unset] [(.int (3 : Int32)), (.int p4)]))
        refine own_st (fun _ kont => XS.icmpYes X0.here hx rfl (pc0 := 43) (pc' := 87) rfl (hb hby own_d1_43) rfl (tlt b1).1 (by decide) (by decide) kont) ?_
        show own_Go p e below s _ _ _ (s₁.setTop (mkF m 87 #[.val (.ref a1), .val (.int p2), .val (.int p3), .val (.int p4), .val (.int g1), .unset] []))
        refine own_st (fun _ kont => XS.iconst X0.here hx rfl (hb hby own_d1_87) kont) ?_
        show own_Go p e below s _ _ _ (s₁.setTop (mkF m 88 #[.val (.ref a1), .val (.int p2), .val (.int p3), .val (.int p4), .val (.int g1), .unset] [(.int (0 : Int32))]))
        refine own_st (fun _ kont => XS.istore X0.here hx rfl (hb hby own_d1_88) rfl (l' := #[.val (.ref a1), .val (.int p2), .val (.int p3), .val (.int p4), .val (.int g1), .val (.int (0 : Int32))]) rfl kont) ?_
        show own_Go p e below s _ _ _ (s₁.setTop (mkF m 90 #[.val (.ref a1), .val (.int p2), .val (.int p3), .val (.int p4), .val (.int g1), .val (.int (0 : Int32))] []))
        exact J2 _ _ hg1 (Or.inr ⟨rfl, fun r => by have := r.1; omega⟩)
      · have ib1 : ¬ (((p4).toInt : Int) < 3) := fun u => b1 (Int32.lt_iff_toInt_lt.mpr u)
        show own_Go p e below s _ _ _ (s₁.setTop (mkF m 43 #[.val (.ref a1), .val (.int p2), .val (.int p3), .val (.int p4), .val (.int g1), .unset] [(.int (3 : Int32)), (.int p4)]))
        refine own_st (fun _ kont => XS.icmpNo X0.here hx rfl (hb hby own_d1_43) rfl (flt b1).1 kont) ?_
        show own_Go p e below s _ _ _ (s₁.setTop (mkF m 46 #[.val (.ref a1), .val (.int p2), .val (.int p3), .val (.int p4), .val (.int g1), .unset] []))
        refine own_st (fun _ kont => XS.iloadN X0.here hx rfl (hb hby own_d1_46) rfl kont) ?_
        show own_Go p e below s _ _ _ (s₁.setTop (mkF m 47 #[.val (.ref a1), .val (.int p2), .val (.int p3), .val (.int p4), .val (.int g1), .unset] [(.int p4)]))
        refine own_st (fun _ kont => XS.iconst X0.here hx rfl (hb hby own_d1_47) kont) ?_
        show own_Go p e below s _ _ _ (s₁.setTop (mkF m 48 #[.val (.ref a1), .val (.int p2), .val (.int p3), .val (.int p4), .val (.int g1), .unset] [(.int (3 : Int32)), (.int p4)]))
        refine own_st (fun _ kont => XS.isub X0.here hx rfl (hb hby own_d1_48) rfl kont) ?_
        show own_Go p e below s _ _ _ (s₁.setTop (mkF m 49 #[.val (.ref a1), .val (.int p2), .val (.int p3), .val (.int p4), .val (.int g1), .unset] [(.int (p4 - (3 : Int32)))]))
        refine own_st (fun _ kont => XS.iloadN X0.here hx rfl (hb hby own_d1_49) rfl kont) ?_
        show own_Go p e below s _ _ _ (s₁.setTop (mkF m 50 #[.val (.ref a1), .val (.int p2), .val (.int p3), .val (.int p4), .val (.int g1), .unset] [(.int p2), (.int (p4 - (3 : Int32)))]))
        rcases Classical.em ((p4 - (3 : Int32)) < p2) with b2 | b2
        · have ib2 : (((p4 - (3 : Int32))).toInt : Int) < (p2).toInt := Int32.lt_iff_toInt_lt.mp b2
          show own_Go p e below s _ _ _ (s₁.setTop (mkF m 50 #[.val (.ref a1), .val (.int p2), .val (.int p3), .val (.int p4), .val (.int g1), .unset] [(.int p2), (.int (p4 - (3 : Int32)))]))
          refine own_st (fun _ kont => XS.icmpYes X0.here hx rfl (pc0 := 50) (pc' := 87) rfl (hb hby own_d1_50) rfl (tlt b2).1 (by decide) (by decide) kont) ?_
          show own_Go p e below s _ _ _ (s₁.setTop (mkF m 87 #[.val (.ref a1), .val (.int p2), .val (.int p3), .val (.int p4), .val (.int g1), .unset] []))
          refine own_st (fun _ kont => XS.iconst X0.here hx rfl (hb hby own_d1_87) kont) ?_
          show own_Go p e below s _ _ _ (s₁.setTop (mkF m 88 #[.val (.ref a1), .val (.int p2), .val (.int p3), .val (.int p4), .val (.int g1), .unset] [(.int (0 : Int32))]))
          refine own_st (fun _ kont => XS.istore X0.here hx rfl (hb hby own_d1_88) rfl (l' := #[.val (.ref a1), .val (.int p2), .val (.int p3), .val (.int p4), .val (.int g1), .val (.int (0 : Int32))]) rfl kont) ?_
          show own_Go p e below s _ _ _ (s₁.setTop (mkF m 90 #[.val (.ref a1), .val (.int p2), .val (.int p3), .val (.int p4), .val (.int g1), .val (.int (0 : Int32))] []))
          exact J2 _ _ hg1 (Or.inr ⟨rfl, fun r => by have := r.1; omega⟩)
        · have ib2 : ¬ ((((p4 - (3 : Int32))).toInt : Int) < (p2).toInt) := fun u => b2 (Int32.lt_iff_toInt_lt.mpr u)
          show own_Go p e below s _ _ _ (s₁.setTop (mkF m 50 #[.val (.ref a1), .val (.int p2), .val (.int p3), .val (.int p4), .val (.int g1), .unset] [(.int p2), (.int (p4 - (3 : Int32)))]))
          refine own_st (fun _ kont => XS.icmpNo X0.here hx rfl (hb hby own_d1_50) rfl (flt b2).1 kont) ?_
          show own_Go p e below s _ _ _ (s₁.setTop (mkF m 53 #[.val (.ref a1), .val (.int p2), .val (.int p3), .val (.int p4), .val (.int g1), .unset] []))
          refine own_st (fun _ kont => XS.aloadN X0.here hx rfl (hb hby own_d1_53) rfl rfl kont) ?_
          show own_Go p e below s _ _ _ (s₁.setTop (mkF m 54 #[.val (.ref a1), .val (.int p2), .val (.int p3), .val (.int p4), .val (.int g1), .unset] [(.ref a1)]))
          refine own_st (fun _ kont => XS.iloadN X0.here hx rfl (hb hby own_d1_54) rfl kont) ?_
          show own_Go p e below s _ _ _ (s₁.setTop (mkF m 55 #[.val (.ref a1), .val (.int p2), .val (.int p3), .val (.int p4), .val (.int g1), .unset] [(.int p4), (.ref a1)]))
          refine own_st (fun _ kont => XS.iconst X0.here hx rfl (hb hby own_d1_55) kont) ?_
          show own_Go p e below s _ _ _ (s₁.setTop (mkF m 56 #[.val (.ref a1), .val (.int p2), .val (.int p3), .val (.int p4), .val (.int g1), .unset] [(.int (3 : Int32)), (.int p4), (.ref a1)]))
          refine own_st (fun _ kont => XS.isub X0.here hx rfl (hb hby own_d1_56) rfl kont) ?_
          show own_Go p e below s _ _ _ (s₁.setTop (mkF m 57 #[.val (.ref a1), .val (.int p2), .val (.int p3), .val (.int p4), .val (.int g1), .unset] [(.int (p4 - (3 : Int32))), (.ref a1)]))
          refine own_st (own_ldB X0 hx hZ e0 V (i := (j - 3)) (e3 (by omega)) (by omega) (v := (.int (f (j - 3)))) rfl (g := (mkF m 57 #[.val (.ref a1), .val (.int p2), .val (.int p3), .val (.int p4), .val (.int g1), .unset] [(.int (p4 - (3 : Int32))), (.ref a1)])) rfl rfl (hb hby own_d1_57)) ?_
          show own_Go p e below s _ _ _ (s₁.setTop (mkF m 58 #[.val (.ref a1), .val (.int p2), .val (.int p3), .val (.int p4), .val (.int g1), .unset] [(.int (f (j - 3)))]))
          refine own_st (fun _ kont => XS.bipush X0.here hx rfl (hb hby own_d1_58) kont) ?_
          show own_Go p e below s _ _ _ (s₁.setTop (mkF m 60 #[.val (.ref a1), .val (.int p2), .val (.int p3), .val (.int p4), .val (.int g1), .unset] [(.int (10 : Int32)), (.int (f (j - 3)))]))
          rcases Classical.em ((f (j - 3)) = (10 : Int32)) with b3 | b3
          · show own_Go p e below s _ _ _ (s₁.setTop (mkF m 60 #[.val (.ref a1), .val (.int p2), .val (.int p3), .val (.int p4), .val (.int g1), .unset] [(.int (10 : Int32)), (.int (f (j - 3)))]))
            refine own_st (fun _ kont => XS.icmpNo X0.here hx rfl (hb hby own_d1_60) rfl (teq b3).2 kont) ?_
            show own_Go p e below s _ _ _ (s₁.setTop (mkF m 63 #[.val (.ref a1), .val (.int p2), .val (.int p3), .val (.int p4), .val (.int g1), .unset] []))
            refine own_st (fun _ kont => XS.aloadN X0.here hx rfl (hb hby own_d1_63) rfl rfl kont) ?_
            show own_Go p e below s _ _ _ (s₁.setTop (mkF m 64 #[.val (.ref a1), .val (.int p2), .val (.int p3), .val (.int p4), .val (.int g1), .unset] [(.ref a1)]))
            refine own_st (fun _ kont => XS.iloadN X0.here hx rfl (hb hby own_d1_64) rfl kont) ?_
            show own_Go p e below s _ _ _ (s₁.setTop (mkF m 65 #[.val (.ref a1), .val (.int p2), .val (.int p3), .val (.int p4), .val (.int g1), .unset] [(.int p4), (.ref a1)]))
            refine own_st (fun _ kont => XS.iconst X0.here hx rfl (hb hby own_d1_65) kont) ?_
            show own_Go p e below s _ _ _ (s₁.setTop (mkF m 66 #[.val (.ref a1), .val (.int p2), .val (.int p3), .val (.int p4), .val (.int g1), .unset] [(.int (2 : Int32)), (.int p4), (.ref a1)]))
            refine own_st (fun _ kont => XS.isub X0.here hx rfl (hb hby own_d1_66) rfl kont) ?_
            show own_Go p e below s _ _ _ (s₁.setTop (mkF m 67 #[.val (.ref a1), .val (.int p2), .val (.int p3), .val (.int p4), .val (.int g1), .unset] [(.int (p4 - (2 : Int32))), (.ref a1)]))
            refine own_st (own_ldB X0 hx hZ e0 V (i := (j - 2)) e2 (by omega) (v := (.int (f (j - 2)))) rfl (g := (mkF m 67 #[.val (.ref a1), .val (.int p2), .val (.int p3), .val (.int p4), .val (.int g1), .unset] [(.int (p4 - (2 : Int32))), (.ref a1)])) rfl rfl (hb hby own_d1_67)) ?_
            show own_Go p e below s _ _ _ (s₁.setTop (mkF m 68 #[.val (.ref a1), .val (.int p2), .val (.int p3), .val (.int p4), .val (.int g1), .unset] [(.int (f (j - 2)))]))
            refine own_st (fun _ kont => XS.bipush X0.here hx rfl (hb hby own_d1_68) kont) ?_
            show own_Go p e below s _ _ _ (s₁.setTop (mkF m 70 #[.val (.ref a1), .val (.int p2), .val (.int p3), .val (.int p4), .val (.int g1), .unset] [(.int (13 : Int32)), (.int (f (j - 2)))]))
            rcases Classical.em ((f (j - 2)) = (13 : Int32)) with b4 | b4
            · show own_Go p e below s _ _ _ (s₁.setTop (mkF m 70 #[.val (.ref a1), .val (.int p2), .val (.int p3), .val (.int p4), .val (.int g1), .unset] [(.int (13 : Int32)), (.int (f (j - 2)))]))
              refine own_st (fun _ kont => XS.icmpNo X0.here hx rfl (hb hby own_d1_70) rfl (teq b4).2 kont) ?_
              show own_Go p e below s _ _ _ (s₁.setTop (mkF m 73 #[.val (.ref a1), .val (.int p2), .val (.int p3), .val (.int p4), .val (.int g1), .unset] []))
              refine own_st (fun _ kont => XS.aloadN X0.here hx rfl (hb hby own_d1_73) rfl rfl kont) ?_
              show own_Go p e below s _ _ _ (s₁.setTop (mkF m 74 #[.val (.ref a1), .val (.int p2), .val (.int p3), .val (.int p4), .val (.int g1), .unset] [(.ref a1)]))
              refine own_st (fun _ kont => XS.iloadN X0.here hx rfl (hb hby own_d1_74) rfl kont) ?_
              show own_Go p e below s _ _ _ (s₁.setTop (mkF m 75 #[.val (.ref a1), .val (.int p2), .val (.int p3), .val (.int p4), .val (.int g1), .unset] [(.int p4), (.ref a1)]))
              refine own_st (fun _ kont => XS.iconst X0.here hx rfl (hb hby own_d1_75) kont) ?_
              show own_Go p e below s _ _ _ (s₁.setTop (mkF m 76 #[.val (.ref a1), .val (.int p2), .val (.int p3), .val (.int p4), .val (.int g1), .unset] [(.int (1 : Int32)), (.int p4), (.ref a1)]))
              refine own_st (fun _ kont => XS.isub X0.here hx rfl (hb hby own_d1_76) rfl kont) ?_
              show own_Go p e below s _ _ _ (s₁.setTop (mkF m 77 #[.val (.ref a1), .val (.int p2), .val (.int p3), .val (.int p4), .val (.int g1), .unset] [(.int (p4 - (1 : Int32))), (.ref a1)]))
              refine own_st (own_ldB X0 hx hZ e0 V (i := (j - 1)) e1 (by omega) (v := (.int (f (j - 1)))) rfl (g := (mkF m 77 #[.val (.ref a1), .val (.int p2), .val (.int p3), .val (.int p4), .val (.int g1), .unset] [(.int (p4 - (1 : Int32))), (.ref a1)])) rfl rfl (hb hby own_d1_77)) ?_
              show own_Go p e below s _ _ _ (s₁.setTop (mkF m 78 #[.val (.ref a1), .val (.int p2), .val (.int p3), .val (.int p4), .val (.int g1), .unset] [(.int (f (j - 1)))]))
              refine own_st (fun _ kont => XS.bipush X0.here hx rfl (hb hby own_d1_78) kont) ?_
              show own_Go p e below s _ _ _ (s₁.setTop (mkF m 80 #[.val (.ref a1), .val (.int p2), .val (.int p3), .val (.int p4), .val (.int g1), .unset] [(.int (10 : Int32)), (.int (f (j - 1)))]))
              rcases Classical.em ((f (j - 1)) = (10 : Int32)) with b5 | b5
              · show own_Go p e below s _ _ _ (s₁.setTop (mkF m 80 #[.val (.ref a1), .val (.int p2), .val (.int p3), .val (.int p4), .val (.int g1), .unset] [(.int (10 : Int32)), (.int (f (j - 1)))]))
                refine own_st (fun _ kont => XS.icmpNo X0.here hx rfl (hb hby own_d1_80) rfl (teq b5).2 kont) ?_
                show own_Go p e below s _ _ _ (s₁.setTop (mkF m 83 #[.val (.ref a1), .val (.int p2), .val (.int p3), .val (.int p4), .val (.int g1), .unset] []))
                refine own_st (fun _ kont => XS.iconst X0.here hx rfl (hb hby own_d1_83) kont) ?_
                show own_Go p e below s _ _ _ (s₁.setTop (mkF m 84 #[.val (.ref a1), .val (.int p2), .val (.int p3), .val (.int p4), .val (.int g1), .unset] [(.int (1 : Int32))]))
                refine own_st (fun _ kont => XS.goto X0.here hx rfl (pc0 := 84) (pc' := 88) rfl (hb hby own_d1_84) (by decide) (by decide) kont) ?_
                show own_Go p e below s _ _ _ (s₁.setTop (mkF m 88 #[.val (.ref a1), .val (.int p2), .val (.int p3), .val (.int p4), .val (.int g1), .unset] [(.int (1 : Int32))]))
                refine own_st (fun _ kont => XS.istore X0.here hx rfl (hb hby own_d1_88) rfl (l' := #[.val (.ref a1), .val (.int p2), .val (.int p3), .val (.int p4), .val (.int g1), .val (.int (1 : Int32))]) rfl kont) ?_
                show own_Go p e below s _ _ _ (s₁.setTop (mkF m 90 #[.val (.ref a1), .val (.int p2), .val (.int p3), .val (.int p4), .val (.int g1), .val (.int (1 : Int32))] []))
                exact J2 _ _ hg1 (Or.inl ⟨rfl, by omega, b3, b4, b5⟩)
              · show own_Go p e below s _ _ _ (s₁.setTop (mkF m 80 #[.val (.ref a1), .val (.int p2), .val (.int p3), .val (.int p4), .val (.int g1), .unset] [(.int (10 : Int32)), (.int (f (j - 1)))]))
                refine own_st (fun _ kont => XS.icmpYes X0.here hx rfl (pc0 := 80) (pc' := 87) rfl (hb hby own_d1_80) rfl (feq b5).2 (by decide) (by decide) kont) ?_
                show own_Go p e below s _ _ _ (s₁.setTop (mkF m 87 #[.val (.ref a1), .val (.int p2), .val (.int p3), .val (.int p4), .val (.int g1), .unset] []))
                refine own_st (fun _ kont => XS.iconst X0.here hx rfl (hb hby own_d1_87) kont) ?_
                show own_Go p e below s _ _ _ (s₁.setTop (mkF m 88 #[.val (.ref a1), .val (.int p2), .val (.int p3), .val (.int p4), .val (.int g1), .unset] [(.int (0 : Int32))]))
                refine own_st (fun _ kont => XS.istore X0.here hx rfl (hb hby own_d1_88) rfl (l' := #[.val (.ref a1), .val (.int p2), .val (.int p3), .val (.int p4), .val (.int g1), .val (.int (0 : Int32))]) rfl kont) ?_
                show own_Go p e below s _ _ _ (s₁.setTop (mkF m 90 #[.val (.ref a1), .val (.int p2), .val (.int p3), .val (.int p4), .val (.int g1), .val (.int (0 : Int32))] []))
                exact J2 _ _ hg1 (Or.inr ⟨rfl, fun r => b5 r.2.2.2⟩)
            · show own_Go p e below s _ _ _ (s₁.setTop (mkF m 70 #[.val (.ref a1), .val (.int p2), .val (.int p3), .val (.int p4), .val (.int g1), .unset] [(.int (13 : Int32)), (.int (f (j - 2)))]))
              refine own_st (fun _ kont => XS.icmpYes X0.here hx rfl (pc0 := 70) (pc' := 87) rfl (hb hby own_d1_70) rfl (feq b4).2 (by decide) (by decide) kont) ?_
              show own_Go p e below s _ _ _ (s₁.setTop (mkF m 87 #[.val (.ref a1), .val (.int p2), .val (.int p3), .val (.int p4), .val (.int g1), .unset] []))
              refine own_st (fun _ kont => XS.iconst X0.here hx rfl (hb hby own_d1_87) kont) ?_
              show own_Go p e below s _ _ _ (s₁.setTop (mkF m 88 #[.val (.ref a1), .val (.int p2), .val (.int p3), .val (.int p4), .val (.int g1), .unset] [(.int (0 : Int32))]))
              refine own_st (fun _ kont => XS.istore X0.here hx rfl (hb hby own_d1_88) rfl (l' := #[.val (.ref a1), .val (.int p2), .val (.int p3), .val (.int p4), .val (.int g1), .val (.int (0 : Int32))]) rfl kont) ?_
              show own_Go p e below s _ _ _ (s₁.setTop (mkF m 90 #[.val (.ref a1), .val (.int p2), .val (.int p3), .val (.int p4), .val (.int g1), .val (.int (0 : Int32))] []))
              exact J2 _ _ hg1 (Or.inr ⟨rfl, fun r => b4 r.2.2.1⟩)
          · show own_Go p e below s _ _ _ (s₁.setTop (mkF m 60 #[.val (.ref a1), .val (.int p2), .val (.int p3), .val (.int p4), .val (.int g1), .unset] [(.int (10 : Int32)), (.int (f (j - 3)))]))
            refine own_st (fun _ kont => XS.icmpYes X0.here hx rfl (pc0 := 60) (pc' := 87) rfl (hb hby own_d1_60) rfl (feq b3).2 (by decide) (by decide) kont) ?_
            show own_Go p e below s _ _ _ (s₁.setTop (mkF m 87 #[.val (.ref a1), .val (.int p2), .val (.int p3), .val (.int p4), .val (.int g1), .unset] []))
            refine own_st (fun _ kont => XS.iconst X0.here hx rfl (hb hby own_d1_87) kont) ?_
            show own_Go p e below s _ _ _ (s₁.setTop (mkF m 88 #[.val (.ref a1), .val (.int p2), .val (.int p3), .val (.int p4), .val (.int g1), .unset] [(.int (0 : Int32))]))
            refine own_st (fun _ kont => XS.istore X0.here hx rfl (hb hby own_d1_88) rfl (l' := #[.val (.ref a1), .val (.int p2), .val (.int p3), .val (.int p4), .val (.int g1), .val (.int (0 : Int32))]) rfl kont) ?_
            show own_Go p e below s _ _ _ (s₁.setTop (mkF m 90 #[.val (.ref a1), .val (.int p2), .val (.int p3), .val (.int p4), .val (.int g1), .val (.int (0 : Int32))] []))
            exact J2 _ _ hg1 (Or.inr ⟨rfl, fun r => b3 r.2.1⟩)
    show own_Go p e below s _ _ _ (s₁.setTop (mkF m 11 #[.val (.ref a1), .val (.int p2), .val (.int p3), .val (.int p4), .unset, .unset] [(.int p2), (.int (p4 - (2 : Int32)))]))
    rcases Classical.em ((p4 - (2 : Int32)) < p2) with b1 | b1
    · have ib1 : (((p4 - (2 : Int32))).toInt : Int) < (p2).toInt := Int32.lt_iff_toInt_lt.mp b1
      show own_Go p e below s _ _ _ (s₁.setTop (mkF m 11 #[.val (.ref a1), .val (.int p2), .val (.int p3), .val (.int p4), .unset, .unset] [(.int p2), (.int (p4 - (2 : Int32)))]))
      refine own_st (fun _ kont => XS.icmpYes X0.here hx rfl (pc0 := 11) (pc' := 38) rfl (hb hby own_d1_11) rfl (tlt b1).1 (by decide) (by decide) kont) ?_
      show own_Go p e below s _ _ _ (s₁.setTop (mkF m 38 #[.val (.ref a1), .val (.int p2), .val (.int p3), .val (.int p4), .unset, .unset] []))
      refine own_st (fun _ kont => XS.iconst X0.here hx rfl (hb hby own_d1_38) kont) ?_
      show own_Go p e below s _ _ _ (s₁.setTop (mkF m 39 #[.val (.ref a1), .val (.int p2), .val (.int p3), .val (.int p4), .unset, .unset] [(.int (0 : Int32))]))
      refine own_st (fun _ kont => XS.istore X0.here hx rfl (hb hby own_d1_39) rfl (l' := #[.val (.ref a1), .val (.int p2), .val (.int p3), .val (.int p4), .val (.int (0 : Int32)), .unset]) rfl kont) ?_
      show own_Go p e below s _ _ _ (s₁.setTop (mkF m 41 #[.val (.ref a1), .val (.int p2), .val (.int p3), .val (.int p4), .val (.int (0 : Int32)), .unset] []))
      exact J1 _ (Or.inr ⟨rfl, fun r => by have := r.1; omega⟩)
    · have ib1 : ¬ ((((p4 - (2 : Int32))).toInt : Int) < (p2).toInt) := fun u => b1 (Int32.lt_iff_toInt_lt.mpr u)
      show own_Go p e below s _ _ _ (s₁.setTop (mkF m 11 #[.val (.ref a1), .val (.int p2), .val (.int p3), .val (.int p4), .unset, .unset] [(.int p2), (.int (p4 - (2 : Int32)))]))
      refine own_st (fun _ kont => XS.icmpNo X0.here hx rfl (hb hby own_d1_11) rfl (flt b1).1 kont) ?_
      show own_Go p e below s _ _ _ (s₁.setTop (mkF m 14 #[.val (.ref a1), .val (.int p2), .val (.int p3), .val (.int p4), .unset, .unset] []))
      refine own_st (fun _ kont => XS.aloadN X0.here hx rfl (hb hby own_d1_14) rfl rfl kont) ?_
      show own_Go p e below s _ _ _ (s₁.setTop (mkF m 15 #[.val (.ref a1), .val (.int p2), .val (.int p3), .val (.int p4), .unset, .unset] [(.ref a1)]))
      refine own_st (fun _ kont => XS.iloadN X0.here hx rfl (hb hby own_d1_15) rfl kont) ?_
      show own_Go p e below s _ _ _ (s₁.setTop (mkF m 16 #[.val (.ref a1), .val (.int p2), .val (.int p3), .val (.int p4), .unset, .unset] [(.int p4), (.ref a1)]))
      refine own_st (fun _ kont => XS.iconst X0.here hx rfl (hb hby own_d1_16) kont) ?_
      show own_Go p e below s _ _ _ (s₁.setTop (mkF m 17 #[.val (.ref a1), .val (.int p2), .val (.int p3), .val (.int p4), .unset, .unset] [(.int (2 : Int32)), (.int p4), (.ref a1)]))
      refine own_st (fun _ kont => XS.isub X0.here hx rfl (hb hby own_d1_17) rfl kont) ?_
      show own_Go p e below s _ _ _ (s₁.setTop (mkF m 18 #[.val (.ref a1), .val (.int p2), .val (.int p3), .val (.int p4), .unset, .unset] [(.int (p4 - (2 : Int32))), (.ref a1)]))
      refine own_st (own_ldB X0 hx hZ e0 V (i := (j - 2)) e2 (by omega) (v := (.int (f (j - 2)))) rfl (g := (mkF m 18 #[.val (.ref a1), .val (.int p2), .val (.int p3), .val (.int p4), .unset, .unset] [(.int (p4 - (2 : Int32))), (.ref a1)])) rfl rfl (hb hby own_d1_18)) ?_
      show own_Go p e below s _ _ _ (s₁.setTop (mkF m 19 #[.val (.ref a1), .val (.int p2), .val (.int p3), .val (.int p4), .unset, .unset] [(.int (f (j - 2)))]))
      refine own_st (fun _ kont => XS.bipush X0.here hx rfl (hb hby own_d1_19) kont) ?_
      show own_Go p e below s _ _ _ (s₁.setTop (mkF m 21 #[.val (.ref a1), .val (.int p2), .val (.int p3), .val (.int p4), .unset, .unset] [(.int (10 : Int32)), (.int (f (j - 2)))]))
      rcases Classical.em ((f (j - 2)) = (10 : Int32)) with b2 | b2
      · show own_Go p e below s _ _ _ (s₁.setTop (mkF m 21 #[.val (.ref a1), .val (.int p2), .val (.int p3), .val (.int p4), .unset, .unset] [(.int (10 : Int32)), (.int (f (j - 2)))]))
        refine own_st (fun _ kont => XS.icmpNo X0.here hx rfl (hb hby own_d1_21) rfl (teq b2).2 kont) ?_
        show own_Go p e below s _ _ _ (s₁.setTop (mkF m 24 #[.val (.ref a1), .val (.int p2), .val (.int p3), .val (.int p4), .unset, .unset] []))
        refine own_st (fun _ kont => XS.aloadN X0.here hx rfl (hb hby own_d1_24) rfl rfl kont) ?_
        show own_Go p e below s _ _ _ (s₁.setTop (mkF m 25 #[.val (.ref a1), .val (.int p2), .val (.int p3), .val (.int p4), .unset, .unset] [(.ref a1)]))
        refine own_st (fun _ kont => XS.iloadN X0.here hx rfl (hb hby own_d1_25) rfl kont) ?_
        show own_Go p e below s _ _ _ (s₁.setTop (mkF m 26 #[.val (.ref a1), .val (.int p2), .val (.int p3), .val (.int p4), .unset, .unset] [(.int p4), (.ref a1)]))
        refine own_st (fun _ kont => XS.iconst X0.here hx rfl (hb hby own_d1_26) kont) ?_
        show own_Go p e below s _ _ _ (s₁.setTop (mkF m 27 #[.val (.ref a1), .val (.int p2), .val (.int p3), .val (.int p4), .unset, .unset] [(.int (1 : Int32)), (.int p4), (.ref a1)]))
        refine own_st (fun _ kont => XS.isub X0.here hx rfl (hb hby own_d1_27) rfl kont) ?_
        show own_Go p e below s _ _ _ (s₁.setTop (mkF m 28 #[.val (.ref a1), .val (.int p2), .val (.int p3), .val (.int p4), .unset, .unset] [(.int (p4 - (1 : Int32))), (.ref a1)]))
        refine own_st (own_ldB X0 hx hZ e0 V (i := (j - 1)) e1 (by omega) (v := (.int (f (j - 1)))) rfl (g := (mkF m 28 #[.val (.ref a1), .val (.int p2), .val (.int p3), .val (.int p4), .unset, .unset] [(.int (p4 - (1 : Int32))), (.ref a1)])) rfl rfl (hb hby own_d1_28)) ?_
        show own_Go p e below s _ _ _ (s₁.setTop (mkF m 29 #[.val (.ref a1), .val (.int p2), .val (.int p3), .val (.int p4), .unset, .unset] [(.int (f (j - 1)))]))
        refine own_st (fun _ kont => XS.bipush X0.here hx rfl (hb hby own_d1_29) kont) ?_
        show own_Go p e below s _ _ _ (s₁.setTop (mkF m 31 #[.val (.ref a1), .val (.int p2), .val (.int p3), .val (.int p4), .unset, .unset] [(.int (10 : Int32)), (.int (f (j - 1)))]))
        rcases Classical.em ((f (j - 1)) = (10 : Int32)) with b3 | b3
        · show own_Go p e below s _ _ _ (s₁.setTop (mkF m 31 #[.val (.ref a1), .val (.int p2), .val (.int p3), .val (.int p4), .unset, .unset] [(.int (10 : Int32)), (.int (f (j - 1)))]))
          refine own_st (fun _ kont => XS.icmpNo X0.here hx rfl (hb hby own_d1_31) rfl (teq b3).2 kont) ?_
          show own_Go p e below s _ _ _ (s₁.setTop (mkF m 34 #[.val (.ref a1), .val (.int p2), .val (.int p3), .val (.int p4), .unset, .unset] []))
          refine own_st (fun _ kont => XS.iconst X0.here hx rfl (hb hby own_d1_34) kont) ?_
          show own_Go p e below s _ _ _ (s₁.setTop (mkF m 35 #[.val (.ref a1), .val (.int p2), .val (.int p3), .val (.int p4), .unset, .unset] [(.int (1 : Int32))]))
          refine own_st (fun _ kont => XS.goto X0.here hx rfl (pc0 := 35) (pc' := 39) rfl (hb hby own_d1_35) (by decide) (by decide) kont) ?_
          show own_Go p e below s _ _ _ (s₁.setTop (mkF m 39 #[.val (.ref a1), .val (.int p2), .val (.int p3), .val (.int p4), .unset, .unset] [(.int (1 : Int32))]))
          refine own_st (fun _ kont => XS.istore X0.here hx rfl (hb hby own_d1_39) rfl (l' := #[.val (.ref a1), .val (.int p2), .val (.int p3), .val (.int p4), .val (.int (1 : Int32)), .unset]) rfl kont) ?_
          show own_Go p e below s _ _ _ (s₁.setTop (mkF m 41 #[.val (.ref a1), .val (.int p2), .val (.int p3), .val (.int p4), .val (.int (1 : Int32)), .unset] []))
          exact J1 _ (Or.inl ⟨rfl, by omega, b2, b3⟩)
        · show own_Go p e below s _ _ _ (s₁.setTop (mkF m 31 #[.val (.ref a1), .val (.int p2), .val (.int p3), .val (.int p4), .unset, .unset] [(.int (10 : Int32)), (.int (f (j - 1)))]))
          refine own_st (fun _ kont => XS.icmpYes X0.here hx rfl (pc0 := 31) (pc' := 38) rfl (hb hby own_d1_31) rfl (feq b3).2 (by decide) (by decide) kont) ?_
          show own_Go p e below s _ _ _ (s₁.setTop (mkF m 38 #[.val (.ref a1), .val (.int p2), .val (.int p3), .val (.int p4), .unset, .unset] []))
          refine own_st (fun _ kont => XS.iconst X0.here hx rfl (hb hby own_d1_38) kont) ?_
          show own_Go p e below s _ _ _ (s₁.setTop (mkF m 39 #[.val (.ref a1), .val (.int p2), .val (.int p3), .val (.int p4), .unset, .unset] [(.int (0 : Int32))]))
          refine own_st (fun _ kont => XS.istore X0.here hx rfl (hb hby own_d1_39) rfl (l' := #[.val (.ref a1), .val (.int p2), .val (.int p3), .val (.int p4), .val (.int (0 : Int32)), .unset]) rfl kont) ?_
          show own_Go p e below s _ _ _ (s₁.setTop (mkF m 41 #[.val (.ref a1), .val (.int p2), .val (.int p3), .val (.int p4), .val (.int (0 : Int32)), .unset] []))
          exact J1 _ (Or.inr ⟨rfl, fun r => b3 r.2.2⟩)
      · show own_Go p e below s _ _ _ (s₁.setTop (mkF m 21 #[.val (.ref a1), .val (.int p2), .val (.int p3), .val (.int p4), .unset, .unset] [(.int (10 : Int32)), (.int (f (j - 2)))]))
        refine own_st (fun _ kont => XS.icmpYes X0.here hx rfl (pc0 := 21) (pc' := 38) rfl (hb hby own_d1_21) rfl (feq b2).2 (by decide) (by decide) kont) ?_
        show own_Go p e below s _ _ _ (s₁.setTop (mkF m 38 #[.val (.ref a1), .val (.int p2), .val (.int p3), .val (.int p4), .unset, .unset] []))
        refine own_st (fun _ kont => XS.iconst X0.here hx rfl (hb hby own_d1_38) kont) ?_
        show own_Go p e below s _ _ _ (s₁.setTop (mkF m 39 #[.val (.ref a1), .val (.int p2), .val (.int p3), .val (.int p4), .unset, .unset] [(.int (0 : Int32))]))
        refine own_st (fun _ kont => XS.istore X0.here hx rfl (hb hby own_d1_39) rfl (l' := #[.val (.ref a1), .val (.int p2), .val (.int p3), .val (.int p4), .val (.int (0 : Int32)), .unset]) rfl kont) ?_
        show own_Go p e below s _ _ _ (s₁.setTop (mkF m 41 #[.val (.ref a1), .val (.int p2), .val (.int p3), .val (.int p4), .val (.int (0 : Int32)), .unset] []))
        exact J1 _ (Or.inr ⟨rfl, fun r => b2 r.2.1⟩)
theorem own_d2_0 : decode prog_10_method_3_code 0 = .ok (.iload_n 1, 1) := by decide +kernel
theorem own_d2_1 : decode prog_10_method_3_code 1 = .ok (.istore_n 3, 1) := by decide +kernel
theorem own_d2_2 : decode prog_10_method_3_code 2 = .ok (.iload_n 3, 1) := by decide +kernel
theorem own_d2_3 : decode prog_10_method_3_code 3 = .ok (.iload_n 2, 1) := by decide +kernel
theorem own_d2_4 : decode prog_10_method_3_code 4 = .ok (.if_icmp .ge 72, 3) := by decide +kernel
theorem own_d2_7 : decode prog_10_method_3_code 7 = .ok (.aload_n 0, 1) := by decide +kernel
theorem own_d2_8 : decode prog_10_method_3_code 8 = .ok (.iload_n 3, 1) := by decide +kernel
theorem own_d2_9 : decode prog_10_method_3_code 9 = .ok (.baload, 1) := by decide +kernel
theorem own_d2_10 : decode prog_10_method_3_code 10 = .ok (.bipush 10, 2) := by decide +kernel
theorem own_d2_12 : decode prog_10_method_3_code 12 = .ok (.if_icmp .eq 6, 3) := by decide +kernel
theorem own_d2_15 : decode prog_10_method_3_code 15 = .ok (.goto 55, 3) := by decide +kernel
theorem own_d2_18 : decode prog_10_method_3_code 18 = .ok (.iload_n 3, 1) := by decide +kernel
theorem own_d2_19 : decode prog_10_method_3_code 19 = .ok (.iconst 1, 1) := by decide +kernel
theorem own_d2_20 : decode prog_10_method_3_code 20 = .ok (.iadd, 1) := by decide +kernel
theorem own_d2_21 : decode prog_10_method_3_code 21 = .ok (.iload_n 2, 1) := by decide +kernel
theorem own_d2_22 : decode prog_10_method_3_code 22 = .ok (.if_icmp .ge 17, 3) := by decide +kernel
theorem own_d2_25 : decode prog_10_method_3_code 25 = .ok (.aload_n 0, 1) := by decide +kernel
theorem own_d2_26 : decode prog_10_method_3_code 26 = .ok (.iload_n 3, 1) := by decide +kernel
theorem own_d2_27 : decode prog_10_method_3_code 27 = .ok (.iconst 1, 1) := by decide +kernel
theorem own_d2_28 : decode prog_10_method_3_code 28 = .ok (.iadd, 1) := by decide +kernel
theorem own_d2_29 : decode prog_10_method_3_code 29 = .ok (.baload, 1) := by decide +kernel
theorem own_d2_30 : decode prog_10_method_3_code 30 = .ok (.bipush 10, 2) := by decide +kernel
theorem own_d2_32 : decode prog_10_method_3_code 32 = .ok (.if_icmp .ne 7, 3) := by decide +kernel
theorem own_d2_35 : decode prog_10_method_3_code 35 = .ok (.iload_n 3, 1) := by decide +kernel
theorem own_d2_36 : decode prog_10_method_3_code 36 = .ok (.iconst 2, 1) := by decide +kernel
theorem own_d2_37 : decode prog_10_method_3_code 37 = .ok (.iadd, 1) := by decide +kernel
theorem own_d2_38 : decode prog_10_method_3_code 38 = .ok (.ireturn, 1) := by decide +kernel
theorem own_d2_39 : decode prog_10_method_3_code 39 = .ok (.iload_n 3, 1) := by decide +kernel
theorem own_d2_40 : decode prog_10_method_3_code 40 = .ok (.iconst 2, 1) := by decide +kernel
theorem own_d2_41 : decode prog_10_method_3_code 41 = .ok (.iadd, 1) := by decide +kernel
theorem own_d2_42 : decode prog_10_method_3_code 42 = .ok (.iload_n 2, 1) := by decide +kernel
theorem own_d2_43 : decode prog_10_method_3_code 43 = .ok (.if_icmp .ge 27, 3) := by decide +kernel
theorem own_d2_46 : decode prog_10_method_3_code 46 = .ok (.aload_n 0, 1) := by decide +kernel
theorem own_d2_47 : decode prog_10_method_3_code 47 = .ok (.iload_n 3, 1) := by decide +kernel
theorem own_d2_48 : decode prog_10_method_3_code 48 = .ok (.iconst 1, 1) := by decide +kernel
theorem own_d2_49 : decode prog_10_method_3_code 49 = .ok (.iadd, 1) := by decide +kernel
theorem own_d2_50 : decode prog_10_method_3_code 50 = .ok (.baload, 1) := by decide +kernel
theorem own_d2_51 : decode prog_10_method_3_code 51 = .ok (.bipush 13, 2) := by decide +kernel
theorem own_d2_53 : decode prog_10_method_3_code 53 = .ok (.if_icmp .ne 17, 3) := by decide +kernel
theorem own_d2_56 : decode prog_10_method_3_code 56 = .ok (.aload_n 0, 1) := by decide +kernel
theorem own_d2_57 : decode prog_10_method_3_code 57 = .ok (.iload_n 3, 1) := by decide +kernel
theorem own_d2_58 : decode prog_10_method_3_code 58 = .ok (.iconst 2, 1) := by decide +kernel
theorem own_d2_59 : decode prog_10_method_3_code 59 = .ok (.iadd, 1) := by decide +kernel
theorem own_d2_60 : decode prog_10_method_3_code 60 = .ok (.baload, 1) := by decide +kernel
theorem own_d2_61 : decode prog_10_method_3_code 61 = .ok (.bipush 10, 2) := by decide +kernel
theorem own_d2_63 : decode prog_10_method_3_code 63 = .ok (.if_icmp .ne 7, 3) := by decide +kernel
theorem own_d2_66 : decode prog_10_method_3_code 66 = .ok (.iload_n 3, 1) := by decide +kernel
theorem own_d2_67 : decode prog_10_method_3_code 67 = .ok (.iconst 3, 1) := by decide +kernel
theorem own_d2_68 : decode prog_10_method_3_code 68 = .ok (.iadd, 1) := by decide +kernel
theorem own_d2_69 : decode prog_10_method_3_code 69 = .ok (.ireturn, 1) := by decide +kernel
theorem own_d2_70 : decode prog_10_method_3_code 70 = .ok (.iinc 3 1, 3) := by decide +kernel
theorem own_d2_73 : decode prog_10_method_3_code 73 = .ok (.goto (-71), 3) := by decide +kernel
theorem own_d2_76 : decode prog_10_method_3_code 76 = .ok (.iconst (-1), 1) := by decide +kernel
theorem own_d2_77 : decode prog_10_method_3_code 77 = .ok (.ireturn, 1) := by decide +kernel
theorem own_pn2 : plainFor (⟨"com/example/prudent_queue/prudentqueue/http/RequestHead", "end", "([BII)I"⟩ : MethodName) = true := by first | exact plainFor_of_name (show plainName "com/example/prudent_queue/prudentqueue/http/RequestHead" = true by first | (simp [plainName, overriddenIn]; done) | decide +kernel) | decide +kernel
theorem own_ef2 (m : MethodId) (x0 : Addr) (x1 : Int32) (x2 : Int32) : entryFrame m #[(.ref x0), (.int x1), (.int x2)] 4 = mkF m 0 #[.val (.ref x0), .val (.int x1), .val (.int x2), .unset] [] := by first | (simp [entryFrame, mkF, argsToLocals, Value.category]; done) | rfl
set_option maxRecDepth 65536 in
set_option maxHeartbeats 40000000 in
theorem own_rm3 (l : Launch) (Z : State) (a0 : Array Value) (hw : ∀ d ∈ tables_1, d.before a0 Z = true) (a1 : Addr) (p2 p3 : Int32) (f : Nat → Int32) (i t : Nat) (h0 : Heap) (n0 : Nat) (Z0 : n0 ≤ h0.size) (V : own_Av Z h0 a1 .byte 6 (fun t => .int (f t))) (hi : p2.toInt = (i : Int)) (ht : p3.toInt = (t : Int)) (ht6 : t ≤ 6) (hi6 : i ≤ 6) :
    own_Met l Z (⟨"com/example/prudent_queue/prudentqueue/http/RequestHead", "end", "([BII)I"⟩ : MethodName) prog_10_method_3_code 4 (some .int) ({ frames := 0, cells := 0, slots := 0, locals := 0 } : Room) #[(.ref a1), (.int p2), (.int p3)] h0 (fun v h' L => (∃ z : Int32, v = some (.int z) ∧ ((∃ j : Nat, z.toInt = (j : Int) ∧ own_E f i t j ∧ ∀ u, u < j → ¬ own_E f i t u) ∨ (z.toInt = -1 ∧ ∀ u, ¬ own_E f i t u))) ∧ h' = h0 ∧ L = []) := by
  refine own_in own_pn2 ?_
  intro p e s m below meth c s₁ hx hby hml hown hnm hlk hret hZ X0 e0
  have N0 := Fr.nil n0
  refine own_ef (own_ef2 m a1 p2 p3) ?_
  show own_Go p e below s _ _ _ (s₁.setTop (mkF m 0 #[.val (.ref a1), .val (.int p2), .val (.int p3), .unset] []))
  refine own_st (fun _ kont => XS.iloadN X0.here hx rfl (hb hby own_d2_0) rfl kont) ?_
  show own_Go p e below s _ _ _ (s₁.setTop (mkF m 1 #[.val (.ref a1), .val (.int p2), .val (.int p3), .unset] [(.int p2)]))
  refine own_st (fun _ kont => XS.istoreN X0.here hx rfl (hb hby own_d2_1) rfl (l' := #[.val (.ref a1), .val (.int p2), .val (.int p3), .val (.int p2)]) rfl kont) ?_
  show own_Go p e below s _ _ _ (s₁.setTop (mkF m 2 #[.val (.ref a1), .val (.int p2), .val (.int p3), .val (.int p2)] []))
  have loop : ∀ (k q : Nat) (cur : Int32), cur.toInt = (q : Int) → t ≤ q + k → i ≤ q → q ≤ i + 7 → (∀ u, i ≤ u → u < q → ¬ own_S f t u) → own_Go p e below s (fun v h' L => (∃ z : Int32, v = some (.int z) ∧ ((∃ j : Nat, z.toInt = (j : Int) ∧ own_E f i t j ∧ ∀ u, u < j → ¬ own_E f i t u) ∨ (z.toInt = -1 ∧ ∀ u, ¬ own_E f i t u))) ∧ h' = h0 ∧ L = []) ({ frames := 0, cells := 0, slots := 0, locals := 0 } : Room).cells ({ frames := 0, cells := 0, slots := 0, locals := 0 } : Room).slots (s₁.setTop (mkF m 2 #[.val (.ref a1), .val (.int p2), .val (.int p3), .val (.int cur)] [])) := by
    intro k
    induction k with
    | zero =>
      intro q cur hc hk hiq hq7 hn
      show own_Go p e below s _ _ _ (s₁.setTop (mkF m 2 #[.val (.ref a1), .val (.int p2), .val (.int p3), .val (.int cur)] []))
      refine own_st (fun _ kont => XS.iloadN X0.here hx rfl (hb hby own_d2_2) rfl kont) ?_
      show own_Go p e below s _ _ _ (s₁.setTop (mkF m 3 #[.val (.ref a1), .val (.int p2), .val (.int p3), .val (.int cur)] [(.int cur)]))
      refine own_st (fun _ kont => XS.iloadN X0.here hx rfl (hb hby own_d2_3) rfl kont) ?_
      show own_Go p e below s _ _ _ (s₁.setTop (mkF m 4 #[.val (.ref a1), .val (.int p2), .val (.int p3), .val (.int cur)] [(.int p3), (.int cur)]))
      refine own_st (fun _ kont => XS.icmpYes X0.here hx rfl (pc0 := 4) (pc' := 76) rfl (hb hby own_d2_4) rfl (flt (fun u => by rw [own_lt32, hc, ht] at u; omega)).2.1 (by decide) (by decide) kont) ?_
      show own_Go p e below s _ _ _ (s₁.setTop (mkF m 76 #[.val (.ref a1), .val (.int p2), .val (.int p3), .val (.int cur)] []))
      refine own_st (fun _ kont => XS.iconst X0.here hx rfl (hb hby own_d2_76) kont) ?_
      show own_Go p e below s _ _ _ (s₁.setTop (mkF m 77 #[.val (.ref a1), .val (.int p2), .val (.int p3), .val (.int cur)] [(.int (-1 : Int32))]))
      exact own_endI X0 hx hlk hret (hb hby own_d2_77) ⟨⟨_, rfl, Or.inr ⟨by decide, own_none fun u u1 u2 => hn u u1 (by omega)⟩⟩, e0, rfl⟩ (by decide) (by decide)
    | succ k ih =>
      intro q cur hc hk hiq hq7 hn
      have h1 : (cur + (1 : Int32)).toInt = ((q + 1 : Nat) : Int) := own_addN hc (by decide) (by omega)
      have h2 : (cur + (2 : Int32)).toInt = ((q + 2 : Nat) : Int) := own_addN hc (by decide) (by omega)
      have h3 : (cur + (3 : Int32)).toInt = ((q + 3 : Nat) : Int) := own_addN hc (by decide) (by omega)
      show own_Go p e below s _ _ _ (s₁.setTop (mkF m 2 #[.val (.ref a1), .val (.int p2), .val (.int p3), .val (.int cur)] []))
      refine own_st (fun _ kont => XS.iloadN X0.here hx rfl (hb hby own_d2_2) rfl kont) ?_
      show own_Go p e below s _ _ _ (s₁.setTop (mkF m 3 #[.val (.ref a1), .val (.int p2), .val (.int p3), .val (.int cur)] [(.int cur)]))
      refine own_st (fun _ kont => XS.iloadN X0.here hx rfl (hb hby own_d2_3) rfl kont) ?_
      show own_Go p e below s _ _ _ (s₁.setTop (mkF m 4 #[.val (.ref a1), .val (.int p2), .val (.int p3), .val (.int cur)] [(.int p3), (.int cur)]))
      rcases Classical.em (cur < p3) with c1 | c1
      · have ic1 : ((cur).toInt : Int) < (p3).toInt := Int32.lt_iff_toInt_lt.mp c1
        show own_Go p e below s _ _ _ (s₁.setTop (mkF m 4 #[.val (.ref a1), .val (.int p2), .val (.int p3), .val (.int cur)] [(.int p3), (.int cur)]))
        refine own_st (fun _ kont => XS.icmpNo X0.here hx rfl (hb hby own_d2_4) rfl (tlt c1).2.1 kont) ?_
        show own_Go p e below s _ _ _ (s₁.setTop (mkF m 7 #[.val (.ref a1), .val (.int p2), .val (.int p3), .val (.int cur)] []))
        have nx : ¬ own_S f t q → own_Go p e below s (fun v h' L => (∃ z : Int32, v = some (.int z) ∧ ((∃ j : Nat, z.toInt = (j : Int) ∧ own_E f i t j ∧ ∀ u, u < j → ¬ own_E f i t u) ∨ (z.toInt = -1 ∧ ∀ u, ¬ own_E f i t u))) ∧ h' = h0 ∧ L = []) ({ frames := 0, cells := 0, slots := 0, locals := 0 } : Room).cells ({ frames := 0, cells := 0, slots := 0, locals := 0 } : Room).slots (s₁.setTop (mkF m 70 #[.val (.ref a1), .val (.int p2), .val (.int p3), .val (.int cur)] [])) := by
          intro hq
          show own_Go p e below s _ _ _ (s₁.setTop (mkF m 70 #[.val (.ref a1), .val (.int p2), .val (.int p3), .val (.int cur)] []))
          refine own_st (fun _ kont => XS.iinc X0.here hx rfl (hb hby own_d2_70) rfl (l' := #[.val (.ref a1), .val (.int p2), .val (.int p3), .val (.int (cur + (1 : Int32)))]) rfl kont) ?_
          show own_Go p e below s _ _ _ (s₁.setTop (mkF m 73 #[.val (.ref a1), .val (.int p2), .val (.int p3), .val (.int (cur + (1 : Int32)))] []))
          refine own_st (fun _ kont => XS.goto X0.here hx rfl (pc0 := 73) (pc' := 2) rfl (hb hby own_d2_73) (by decide) (by decide) kont) ?_
          show own_Go p e below s _ _ _ (s₁.setTop (mkF m 2 #[.val (.ref a1), .val (.int p2), .val (.int p3), .val (.int (cur + (1 : Int32)))] []))
          refine ih (q + 1) _ h1 (by omega) (by omega) (by omega) (fun u u1 u2 => ?_)
          by_cases e : u = q
          · subst e; exact hq
          · exact hn u u1 (by omega)
        show own_Go p e below s _ _ _ (s₁.setTop (mkF m 7 #[.val (.ref a1), .val (.int p2), .val (.int p3), .val (.int cur)] []))
        refine own_st (fun _ kont => XS.aloadN X0.here hx rfl (hb hby own_d2_7) rfl rfl kont) ?_
        show own_Go p e below s _ _ _ (s₁.setTop (mkF m 8 #[.val (.ref a1), .val (.int p2), .val (.int p3), .val (.int cur)] [(.ref a1)]))
        refine own_st (fun _ kont => XS.iloadN X0.here hx rfl (hb hby own_d2_8) rfl kont) ?_
        show own_Go p e below s _ _ _ (s₁.setTop (mkF m 9 #[.val (.ref a1), .val (.int p2), .val (.int p3), .val (.int cur)] [(.int cur), (.ref a1)]))
        refine own_st (own_ldB X0 hx hZ e0 V (i := q) hc (by omega) (v := (.int (f q))) rfl (g := (mkF m 9 #[.val (.ref a1), .val (.int p2), .val (.int p3), .val (.int cur)] [(.int cur), (.ref a1)])) rfl rfl (hb hby own_d2_9)) ?_
        show own_Go p e below s _ _ _ (s₁.setTop (mkF m 10 #[.val (.ref a1), .val (.int p2), .val (.int p3), .val (.int cur)] [(.int (f q))]))
        refine own_st (fun _ kont => XS.bipush X0.here hx rfl (hb hby own_d2_10) kont) ?_
        show own_Go p e below s _ _ _ (s₁.setTop (mkF m 12 #[.val (.ref a1), .val (.int p2), .val (.int p3), .val (.int cur)] [(.int (10 : Int32)), (.int (f q))]))
        rcases Classical.em ((f q) = (10 : Int32)) with c2 | c2
        · show own_Go p e below s _ _ _ (s₁.setTop (mkF m 12 #[.val (.ref a1), .val (.int p2), .val (.int p3), .val (.int cur)] [(.int (10 : Int32)), (.int (f q))]))
          refine own_st (fun _ kont => XS.icmpYes X0.here hx rfl (pc0 := 12) (pc' := 18) rfl (hb hby own_d2_12) rfl (teq c2).1 (by decide) (by decide) kont) ?_
          show own_Go p e below s _ _ _ (s₁.setTop (mkF m 18 #[.val (.ref a1), .val (.int p2), .val (.int p3), .val (.int cur)] []))
          refine own_st (fun _ kont => XS.iloadN X0.here hx rfl (hb hby own_d2_18) rfl kont) ?_
          show own_Go p e below s _ _ _ (s₁.setTop (mkF m 19 #[.val (.ref a1), .val (.int p2), .val (.int p3), .val (.int cur)] [(.int cur)]))
          refine own_st (fun _ kont => XS.iconst X0.here hx rfl (hb hby own_d2_19) kont) ?_
          show own_Go p e below s _ _ _ (s₁.setTop (mkF m 20 #[.val (.ref a1), .val (.int p2), .val (.int p3), .val (.int cur)] [(.int (1 : Int32)), (.int cur)]))
          refine own_st (fun _ kont => XS.iadd X0.here hx rfl (hb hby own_d2_20) rfl kont) ?_
          show own_Go p e below s _ _ _ (s₁.setTop (mkF m 21 #[.val (.ref a1), .val (.int p2), .val (.int p3), .val (.int cur)] [(.int (cur + (1 : Int32)))]))
          refine own_st (fun _ kont => XS.iloadN X0.here hx rfl (hb hby own_d2_21) rfl kont) ?_
          show own_Go p e below s _ _ _ (s₁.setTop (mkF m 22 #[.val (.ref a1), .val (.int p2), .val (.int p3), .val (.int cur)] [(.int p3), (.int (cur + (1 : Int32)))]))
          have J39 : ¬ (q + 2 ≤ t ∧ f (q + 1) = 10) → own_Go p e below s (fun v h' L => (∃ z : Int32, v = some (.int z) ∧ ((∃ j : Nat, z.toInt = (j : Int) ∧ own_E f i t j ∧ ∀ u, u < j → ¬ own_E f i t u) ∨ (z.toInt = -1 ∧ ∀ u, ¬ own_E f i t u))) ∧ h' = h0 ∧ L = []) ({ frames := 0, cells := 0, slots := 0, locals := 0 } : Room).cells ({ frames := 0, cells := 0, slots := 0, locals := 0 } : Room).slots (s₁.setTop (mkF m 39 #[.val (.ref a1), .val (.int p2), .val (.int p3), .val (.int cur)] [])) := by
            intro hno
            show own_Go p e below s _ _ _ (s₁.setTop (mkF m 39 #[.val (.ref a1), .val (.int p2), .val (.int p3), .val (.int cur)] []))
            refine own_st (fun _ kont => XS.iloadN X0.here hx rfl (hb hby own_d2_39) rfl kont) ?_
            show own_Go p e below s _ _ _ (s₁.setTop (mkF m 40 #[.val (.ref a1), .val (.int p2), .val (.int p3), .val (.int cur)] [(.int cur)]))
            refine own_st (fun _ kont => XS.iconst X0.here hx rfl (hb hby own_d2_40) kont) ?_
            show own_Go p e below s _ _ _ (s₁.setTop (mkF m 41 #[.val (.ref a1), .val (.int p2), .val (.int p3), .val (.int cur)] [(.int (2 : Int32)), (.int cur)]))
            refine own_st (fun _ kont => XS.iadd X0.here hx rfl (hb hby own_d2_41) rfl kont) ?_
            show own_Go p e below s _ _ _ (s₁.setTop (mkF m 42 #[.val (.ref a1), .val (.int p2), .val (.int p3), .val (.int cur)] [(.int (cur + (2 : Int32)))]))
            refine own_st (fun _ kont => XS.iloadN X0.here hx rfl (hb hby own_d2_42) rfl kont) ?_
            show own_Go p e below s _ _ _ (s₁.setTop (mkF m 43 #[.val (.ref a1), .val (.int p2), .val (.int p3), .val (.int cur)] [(.int p3), (.int (cur + (2 : Int32)))]))
            rcases Classical.em ((cur + (2 : Int32)) < p3) with d1 | d1
            · have id1 : (((cur + (2 : Int32))).toInt : Int) < (p3).toInt := Int32.lt_iff_toInt_lt.mp d1
              show own_Go p e below s _ _ _ (s₁.setTop (mkF m 43 #[.val (.ref a1), .val (.int p2), .val (.int p3), .val (.int cur)] [(.int p3), (.int (cur + (2 : Int32)))]))
              refine own_st (fun _ kont => XS.icmpNo X0.here hx rfl (hb hby own_d2_43) rfl (tlt d1).2.1 kont) ?_
              show own_Go p e below s _ _ _ (s₁.setTop (mkF m 46 #[.val (.ref a1), .val (.int p2), .val (.int p3), .val (.int cur)] []))
              refine own_st (fun _ kont => XS.aloadN X0.here hx rfl (hb hby own_d2_46) rfl rfl kont) ?_
              show own_Go p e below s _ _ _ (s₁.setTop (mkF m 47 #[.val (.ref a1), .val (.int p2), .val (.int p3), .val (.int cur)] [(.ref a1)]))
              refine own_st (fun _ kont => XS.iloadN X0.here hx rfl (hb hby own_d2_47) rfl kont) ?_
              show own_Go p e below s _ _ _ (s₁.setTop (mkF m 48 #[.val (.ref a1), .val (.int p2), .val (.int p3), .val (.int cur)] [(.int cur), (.ref a1)]))
              refine own_st (fun _ kont => XS.iconst X0.here hx rfl (hb hby own_d2_48) kont) ?_
              show own_Go p e below s _ _ _ (s₁.setTop (mkF m 49 #[.val (.ref a1), .val (.int p2), .val (.int p3), .val (.int cur)] [(.int (1 : Int32)), (.int cur), (.ref a1)]))
              refine own_st (fun _ kont => XS.iadd X0.here hx rfl (hb hby own_d2_49) rfl kont) ?_
              show own_Go p e below s _ _ _ (s₁.setTop (mkF m 50 #[.val (.ref a1), .val (.int p2), .val (.int p3), .val (.int cur)] [(.int (cur + (1 : Int32))), (.ref a1)]))
              refine own_st (own_ldB X0 hx hZ e0 V (i := (q + 1)) h1 (by omega) (v := (.int (f (q + 1)))) rfl (g := (mkF m 50 #[.val (.ref a1), .val (.int p2), .val (.int p3), .val (.int cur)] [(.int (cur + (1 : Int32))), (.ref a1)])) rfl rfl (hb hby own_d2_50)) ?_
              show own_Go p e below s _ _ _ (s₁.setTop (mkF m 51 #[.val (.ref a1), .val (.int p2), .val (.int p3), .val (.int cur)] [(.int (f (q + 1)))]))
              refine own_st (fun _ kont => XS.bipush X0.here hx rfl (hb hby own_d2_51) kont) ?_
              show own_Go p e below s _ _ _ (s₁.setTop (mkF m 53 #[.val (.ref a1), .val (.int p2), .val (.int p3), .val (.int cur)] [(.int (13 : Int32)), (.int (f (q + 1)))]))
              rcases Classical.em ((f (q + 1)) = (13 : Int32)) with d2 | d2
              · show own_Go p e below s _ _ _ (s₁.setTop (mkF m 53 #[.val (.ref a1), .val (.int p2), .val (.int p3), .val (.int cur)] [(.int (13 : Int32)), (.int (f (q + 1)))]))
                refine own_st (fun _ kont => XS.icmpNo X0.here hx rfl (hb hby own_d2_53) rfl (teq d2).2 kont) ?_
                show own_Go p e below s _ _ _ (s₁.setTop (mkF m 56 #[.val (.ref a1), .val (.int p2), .val (.int p3), .val (.int cur)] []))
                refine own_st (fun _ kont => XS.aloadN X0.here hx rfl (hb hby own_d2_56) rfl rfl kont) ?_
                show own_Go p e below s _ _ _ (s₁.setTop (mkF m 57 #[.val (.ref a1), .val (.int p2), .val (.int p3), .val (.int cur)] [(.ref a1)]))
                refine own_st (fun _ kont => XS.iloadN X0.here hx rfl (hb hby own_d2_57) rfl kont) ?_
                show own_Go p e below s _ _ _ (s₁.setTop (mkF m 58 #[.val (.ref a1), .val (.int p2), .val (.int p3), .val (.int cur)] [(.int cur), (.ref a1)]))
                refine own_st (fun _ kont => XS.iconst X0.here hx rfl (hb hby own_d2_58) kont) ?_
                show own_Go p e below s _ _ _ (s₁.setTop (mkF m 59 #[.val (.ref a1), .val (.int p2), .val (.int p3), .val (.int cur)] [(.int (2 : Int32)), (.int cur), (.ref a1)]))
                refine own_st (fun _ kont => XS.iadd X0.here hx rfl (hb hby own_d2_59) rfl kont) ?_
                show own_Go p e below s _ _ _ (s₁.setTop (mkF m 60 #[.val (.ref a1), .val (.int p2), .val (.int p3), .val (.int cur)] [(.int (cur + (2 : Int32))), (.ref a1)]))
                refine own_st (own_ldB X0 hx hZ e0 V (i := (q + 2)) h2 (by omega) (v := (.int (f (q + 2)))) rfl (g := (mkF m 60 #[.val (.ref a1), .val (.int p2), .val (.int p3), .val (.int cur)] [(.int (cur + (2 : Int32))), (.ref a1)])) rfl rfl (hb hby own_d2_60)) ?_
                show own_Go p e below s _ _ _ (s₁.setTop (mkF m 61 #[.val (.ref a1), .val (.int p2), .val (.int p3), .val (.int cur)] [(.int (f (q + 2)))]))
                refine own_st (fun _ kont => XS.bipush X0.here hx rfl (hb hby own_d2_61) kont) ?_
                show own_Go p e below s _ _ _ (s₁.setTop (mkF m 63 #[.val (.ref a1), .val (.int p2), .val (.int p3), .val (.int cur)] [(.int (10 : Int32)), (.int (f (q + 2)))]))
                rcases Classical.em ((f (q + 2)) = (10 : Int32)) with d3 | d3
                · show own_Go p e below s _ _ _ (s₁.setTop (mkF m 63 #[.val (.ref a1), .val (.int p2), .val (.int p3), .val (.int cur)] [(.int (10 : Int32)), (.int (f (q + 2)))]))
                  refine own_st (fun _ kont => XS.icmpNo X0.here hx rfl (hb hby own_d2_63) rfl (teq d3).2 kont) ?_
                  show own_Go p e below s _ _ _ (s₁.setTop (mkF m 66 #[.val (.ref a1), .val (.int p2), .val (.int p3), .val (.int cur)] []))
                  refine own_st (fun _ kont => XS.iloadN X0.here hx rfl (hb hby own_d2_66) rfl kont) ?_
                  show own_Go p e below s _ _ _ (s₁.setTop (mkF m 67 #[.val (.ref a1), .val (.int p2), .val (.int p3), .val (.int cur)] [(.int cur)]))
                  refine own_st (fun _ kont => XS.iconst X0.here hx rfl (hb hby own_d2_67) kont) ?_
                  show own_Go p e below s _ _ _ (s₁.setTop (mkF m 68 #[.val (.ref a1), .val (.int p2), .val (.int p3), .val (.int cur)] [(.int (3 : Int32)), (.int cur)]))
                  refine own_st (fun _ kont => XS.iadd X0.here hx rfl (hb hby own_d2_68) rfl kont) ?_
                  show own_Go p e below s _ _ _ (s₁.setTop (mkF m 69 #[.val (.ref a1), .val (.int p2), .val (.int p3), .val (.int cur)] [(.int (cur + (3 : Int32)))]))
                  exact own_endI X0 hx hlk hret (hb hby own_d2_69) ⟨⟨_, rfl, Or.inl ⟨q + 3, h3, own_hit3 hiq (by omega) c2 d2 d3 hn⟩⟩, e0, rfl⟩ (by decide) (by decide)
                · show own_Go p e below s _ _ _ (s₁.setTop (mkF m 63 #[.val (.ref a1), .val (.int p2), .val (.int p3), .val (.int cur)] [(.int (10 : Int32)), (.int (f (q + 2)))]))
                  refine own_st (fun _ kont => XS.icmpYes X0.here hx rfl (pc0 := 63) (pc' := 70) rfl (hb hby own_d2_63) rfl (feq d3).2 (by decide) (by decide) kont) ?_
                  show own_Go p e below s _ _ _ (s₁.setTop (mkF m 70 #[.val (.ref a1), .val (.int p2), .val (.int p3), .val (.int cur)] []))
                  exact nx (by
                    rintro (⟨r1, r2, r3⟩ | ⟨r1, r2, r3, r4⟩)
                    · exact hno ⟨r1, r3⟩
                    · exact d3 r4)
              · show own_Go p e below s _ _ _ (s₁.setTop (mkF m 53 #[.val (.ref a1), .val (.int p2), .val (.int p3), .val (.int cur)] [(.int (13 : Int32)), (.int (f (q + 1)))]))
                refine own_st (fun _ kont => XS.icmpYes X0.here hx rfl (pc0 := 53) (pc' := 70) rfl (hb hby own_d2_53) rfl (feq d2).2 (by decide) (by decide) kont) ?_
                show own_Go p e below s _ _ _ (s₁.setTop (mkF m 70 #[.val (.ref a1), .val (.int p2), .val (.int p3), .val (.int cur)] []))
                exact nx (by
                  rintro (⟨r1, r2, r3⟩ | ⟨r1, r2, r3, r4⟩)
                  · exact hno ⟨r1, r3⟩
                  · exact d2 r3)
            · have id1 : ¬ ((((cur + (2 : Int32))).toInt : Int) < (p3).toInt) := fun u => d1 (Int32.lt_iff_toInt_lt.mpr u)
              show own_Go p e below s _ _ _ (s₁.setTop (mkF m 43 #[.val (.ref a1), .val (.int p2), .val (.int p3), .val (.int cur)] [(.int p3), (.int (cur + (2 : Int32)))]))
              refine own_st (fun _ kont => XS.icmpYes X0.here hx rfl (pc0 := 43) (pc' := 70) rfl (hb hby own_d2_43) rfl (flt d1).2.1 (by decide) (by decide) kont) ?_
              show own_Go p e below s _ _ _ (s₁.setTop (mkF m 70 #[.val (.ref a1), .val (.int p2), .val (.int p3), .val (.int cur)] []))
              exact nx (by
                rintro (⟨r1, r2, r3⟩ | ⟨r1, r2, r3, r4⟩)
                · exact hno ⟨r1, r3⟩
                · exact absurd r1 (by omega))
          show own_Go p e below s _ _ _ (s₁.setTop (mkF m 22 #[.val (.ref a1), .val (.int p2), .val (.int p3), .val (.int cur)] [(.int p3), (.int (cur + (1 : Int32)))]))
          rcases Classical.em ((cur + (1 : Int32)) < p3) with c3 | c3
          · have ic3 : (((cur + (1 : Int32))).toInt : Int) < (p3).toInt := Int32.lt_iff_toInt_lt.mp c3
            show own_Go p e below s _ _ _ (s₁.setTop (mkF m 22 #[.val (.ref a1), .val (.int p2), .val (.int p3), .val (.int cur)] [(.int p3), (.int (cur + (1 : Int32)))]))
            refine own_st (fun _ kont => XS.icmpNo X0.here hx rfl (hb hby own_d2_22) rfl (tlt c3).2.1 kont) ?_
            show own_Go p e below s _ _ _ (s₁.setTop (mkF m 25 #[.val (.ref a1), .val (.int p2), .val (.int p3), .val (.int cur)] []))
            refine own_st (fun _ kont => XS.aloadN X0.here hx rfl (hb hby own_d2_25) rfl rfl kont) ?_
            show own_Go p e below s _ _ _ (s₁.setTop (mkF m 26 #[.val (.ref a1), .val (.int p2), .val (.int p3), .val (.int cur)] [(.ref a1)]))
            refine own_st (fun _ kont => XS.iloadN X0.here hx rfl (hb hby own_d2_26) rfl kont) ?_
            show own_Go p e below s _ _ _ (s₁.setTop (mkF m 27 #[.val (.ref a1), .val (.int p2), .val (.int p3), .val (.int cur)] [(.int cur), (.ref a1)]))
            refine own_st (fun _ kont => XS.iconst X0.here hx rfl (hb hby own_d2_27) kont) ?_
            show own_Go p e below s _ _ _ (s₁.setTop (mkF m 28 #[.val (.ref a1), .val (.int p2), .val (.int p3), .val (.int cur)] [(.int (1 : Int32)), (.int cur), (.ref a1)]))
            refine own_st (fun _ kont => XS.iadd X0.here hx rfl (hb hby own_d2_28) rfl kont) ?_
            show own_Go p e below s _ _ _ (s₁.setTop (mkF m 29 #[.val (.ref a1), .val (.int p2), .val (.int p3), .val (.int cur)] [(.int (cur + (1 : Int32))), (.ref a1)]))
            refine own_st (own_ldB X0 hx hZ e0 V (i := (q + 1)) h1 (by omega) (v := (.int (f (q + 1)))) rfl (g := (mkF m 29 #[.val (.ref a1), .val (.int p2), .val (.int p3), .val (.int cur)] [(.int (cur + (1 : Int32))), (.ref a1)])) rfl rfl (hb hby own_d2_29)) ?_
            show own_Go p e below s _ _ _ (s₁.setTop (mkF m 30 #[.val (.ref a1), .val (.int p2), .val (.int p3), .val (.int cur)] [(.int (f (q + 1)))]))
            refine own_st (fun _ kont => XS.bipush X0.here hx rfl (hb hby own_d2_30) kont) ?_
            show own_Go p e below s _ _ _ (s₁.setTop (mkF m 32 #[.val (.ref a1), .val (.int p2), .val (.int p3), .val (.int cur)] [(.int (10 : Int32)), (.int (f (q + 1)))]))
            rcases Classical.em ((f (q + 1)) = (10 : Int32)) with c4 | c4
            · show own_Go p e below s _ _ _ (s₁.setTop (mkF m 32 #[.val (.ref a1), .val (.int p2), .val (.int p3), .val (.int cur)] [(.int (10 : Int32)), (.int (f (q + 1)))]))
              refine own_st (fun _ kont => XS.icmpNo X0.here hx rfl (hb hby own_d2_32) rfl (teq c4).2 kont) ?_
              show own_Go p e below s _ _ _ (s₁.setTop (mkF m 35 #[.val (.ref a1), .val (.int p2), .val (.int p3), .val (.int cur)] []))
              refine own_st (fun _ kont => XS.iloadN X0.here hx rfl (hb hby own_d2_35) rfl kont) ?_
              show own_Go p e below s _ _ _ (s₁.setTop (mkF m 36 #[.val (.ref a1), .val (.int p2), .val (.int p3), .val (.int cur)] [(.int cur)]))
              refine own_st (fun _ kont => XS.iconst X0.here hx rfl (hb hby own_d2_36) kont) ?_
              show own_Go p e below s _ _ _ (s₁.setTop (mkF m 37 #[.val (.ref a1), .val (.int p2), .val (.int p3), .val (.int cur)] [(.int (2 : Int32)), (.int cur)]))
              refine own_st (fun _ kont => XS.iadd X0.here hx rfl (hb hby own_d2_37) rfl kont) ?_
              show own_Go p e below s _ _ _ (s₁.setTop (mkF m 38 #[.val (.ref a1), .val (.int p2), .val (.int p3), .val (.int cur)] [(.int (cur + (2 : Int32)))]))
              exact own_endI X0 hx hlk hret (hb hby own_d2_38) ⟨⟨_, rfl, Or.inl ⟨q + 2, h2, own_hit2 hiq (by omega) c2 c4 hn⟩⟩, e0, rfl⟩ (by decide) (by decide)
            · show own_Go p e below s _ _ _ (s₁.setTop (mkF m 32 #[.val (.ref a1), .val (.int p2), .val (.int p3), .val (.int cur)] [(.int (10 : Int32)), (.int (f (q + 1)))]))
              refine own_st (fun _ kont => XS.icmpYes X0.here hx rfl (pc0 := 32) (pc' := 39) rfl (hb hby own_d2_32) rfl (feq c4).2 (by decide) (by decide) kont) ?_
              show own_Go p e below s _ _ _ (s₁.setTop (mkF m 39 #[.val (.ref a1), .val (.int p2), .val (.int p3), .val (.int cur)] []))
              exact J39 (fun r => c4 r.2)
          · have ic3 : ¬ ((((cur + (1 : Int32))).toInt : Int) < (p3).toInt) := fun u => c3 (Int32.lt_iff_toInt_lt.mpr u)
            show own_Go p e below s _ _ _ (s₁.setTop (mkF m 22 #[.val (.ref a1), .val (.int p2), .val (.int p3), .val (.int cur)] [(.int p3), (.int (cur + (1 : Int32)))]))
            refine own_st (fun _ kont => XS.icmpYes X0.here hx rfl (pc0 := 22) (pc' := 39) rfl (hb hby own_d2_22) rfl (flt c3).2.1 (by decide) (by decide) kont) ?_
            show own_Go p e below s _ _ _ (s₁.setTop (mkF m 39 #[.val (.ref a1), .val (.int p2), .val (.int p3), .val (.int cur)] []))
            exact J39 (fun r => absurd r.1 (by omega))
        · show own_Go p e below s _ _ _ (s₁.setTop (mkF m 12 #[.val (.ref a1), .val (.int p2), .val (.int p3), .val (.int cur)] [(.int (10 : Int32)), (.int (f q))]))
          refine own_st (fun _ kont => XS.icmpNo X0.here hx rfl (hb hby own_d2_12) rfl (feq c2).1 kont) ?_
          show own_Go p e below s _ _ _ (s₁.setTop (mkF m 15 #[.val (.ref a1), .val (.int p2), .val (.int p3), .val (.int cur)] []))
          refine own_st (fun _ kont => XS.goto X0.here hx rfl (pc0 := 15) (pc' := 70) rfl (hb hby own_d2_15) (by decide) (by decide) kont) ?_
          show own_Go p e below s _ _ _ (s₁.setTop (mkF m 70 #[.val (.ref a1), .val (.int p2), .val (.int p3), .val (.int cur)] []))
          exact nx (by rintro (⟨r1, r2, r3⟩ | ⟨r1, r2, r3, r4⟩) <;> exact c2 r2)
      · have ic1 : ¬ (((cur).toInt : Int) < (p3).toInt) := fun u => c1 (Int32.lt_iff_toInt_lt.mpr u)
        show own_Go p e below s _ _ _ (s₁.setTop (mkF m 4 #[.val (.ref a1), .val (.int p2), .val (.int p3), .val (.int cur)] [(.int p3), (.int cur)]))
        refine own_st (fun _ kont => XS.icmpYes X0.here hx rfl (pc0 := 4) (pc' := 76) rfl (hb hby own_d2_4) rfl (flt c1).2.1 (by decide) (by decide) kont) ?_
        show own_Go p e below s _ _ _ (s₁.setTop (mkF m 76 #[.val (.ref a1), .val (.int p2), .val (.int p3), .val (.int cur)] []))
        refine own_st (fun _ kont => XS.iconst X0.here hx rfl (hb hby own_d2_76) kont) ?_
        show own_Go p e below s _ _ _ (s₁.setTop (mkF m 77 #[.val (.ref a1), .val (.int p2), .val (.int p3), .val (.int cur)] [(.int (-1 : Int32))]))
        exact own_endI X0 hx hlk hret (hb hby own_d2_77) ⟨⟨_, rfl, Or.inr ⟨by decide, own_none fun u u1 u2 => hn u u1 (by omega)⟩⟩, e0, rfl⟩ (by decide) (by decide)
  show own_Go p e below s _ _ _ (s₁.setTop (mkF m 2 #[.val (.ref a1), .val (.int p2), .val (.int p3), .val (.int p2)] []))
  exact loop (t - i) i _ hi (by omega) (Nat.le_refl _) (by omega) (fun u u1 u2 => absurd u2 (by omega))
theorem own_pd0 : parseMethodDescriptor "(I)B" = some ⟨[.int], some .byte⟩ := by decide +kernel
theorem own_pd1 : parseMethodDescriptor "([BIII)Z" = some ⟨[(.array .byte), .int, .int, .int], some .boolean⟩ := by decide +kernel
theorem own_pd2 : parseMethodDescriptor "([BII)I" = some ⟨[(.array .byte), .int, .int], some .int⟩ := by decide +kernel
theorem own_pn3 : plainFor x = true := by first | exact plainFor_of_name (show plainName "com/example/prudent_queue/prudentqueue/http/RequestHeadEndPinLaw" = true by first | (simp [plainName, overriddenIn]; done) | decide +kernel) | decide +kernel
theorem own_ef3 (m : MethodId) (x0 : Int32) (x1 : Int32) (x2 : Int32) (x3 : Int32) : entryFrame m #[(.int x0), (.int x1), (.int x2), (.int x3)] maxLocals = mkF m 0 #[.val (.int x0), .val (.int x1), .val (.int x2), .val (.int x3), .unset, .unset, .unset, .unset] [] := by first | (simp [entryFrame, mkF, argsToLocals, Value.category, maxLocals]; done) | rfl
set_option maxRecDepth 65536 in
set_option maxHeartbeats 40000000 in
theorem own_rm0 (l : Launch) (Z : State) (a0 : Array Value) (hw : ∀ d ∈ tables_1, d.before a0 Z = true) (ax ay af at_ : Int32) (h0 : Heap) (n0 : Nat) (Z0 : n0 ≤ h0.size)  :
    own_Met l Z x code maxLocals ret room_1 #[(.int ax), (.int ay), (.int af), (.int at_)] h0 (fun v h' L => v = some (.int 1) ∧ Fr n0 L) := by
  refine own_in own_pn3 ?_
  intro p e s m below meth c s₁ hx hby hml hown hnm hlk hret hZ X0 e0
  have N0 := Fr.nil n0
  refine own_ef (own_ef3 m ax ay af at_) ?_
  show own_Go p e below s _ _ _ (s₁.setTop (mkF m 0 #[.val (.int ax), .val (.int ay), .val (.int af), .val (.int at_), .unset, .unset, .unset, .unset] []))
  refine own_st (fun _ kont => XS.bipush X0.here hx rfl (hb hby at_0) kont) ?_
  show own_Go p e below s _ _ _ (s₁.setTop (mkF m 2 #[.val (.int ax), .val (.int ay), .val (.int af), .val (.int at_), .unset, .unset, .unset, .unset] [(.int (6 : Int32))]))
  obtain ⟨T1, h1, bb, g1, X1, e1, E1, Vbb, st1⟩ := own_newA X0 hx hZ (hw _ (List.mem_of_getElem? (i := 0) rfl)) e0 (g := (mkF m 2 #[.val (.int ax), .val (.int ay), .val (.int af), .val (.int at_), .unset, .unset, .unset, .unset] [(.int (6 : Int32))])) rfl (hb hby at_2) rfl (n := 6) (cap := 6) (by decide) (by decide) (by decide) (by decide) (by decide)
  replace Vbb : own_Av Z h1 bb .byte 6 (fun _ => .int 0) := Vbb
  have fr_bb : n0 ≤ bb := Nat.le_trans Z0 (Nat.le_of_eq g1.symm)
  have sz1 := Nat.le_trans Z0 E1.1
  refine own_st st1 ?_
  show own_Go p e below s _ _ _ (T1.setTop (mkF m 4 #[.val (.int ax), .val (.int ay), .val (.int af), .val (.int at_), .unset, .unset, .unset, .unset] [(.ref bb)]))
  refine own_st (fun _ kont => XS.astore X1.here hx rfl (hb hby at_4) rfl rfl (l' := #[.val (.int ax), .val (.int ay), .val (.int af), .val (.int at_), .val (.ref bb), .unset, .unset, .unset]) rfl kont) ?_
  show own_Go p e below s _ _ _ (T1.setTop (mkF m 6 #[.val (.int ax), .val (.int ay), .val (.int af), .val (.int at_), .val (.ref bb), .unset, .unset, .unset] []))
  refine own_st (fun _ kont => XS.aload X1.here hx rfl (hb hby at_6) rfl rfl kont) ?_
  show own_Go p e below s _ _ _ (T1.setTop (mkF m 8 #[.val (.int ax), .val (.int ay), .val (.int af), .val (.int at_), .val (.ref bb), .unset, .unset, .unset] [(.ref bb)]))
  refine own_st (fun _ kont => XS.iconst X1.here hx rfl (hb hby at_8) kont) ?_
  show own_Go p e below s _ _ _ (T1.setTop (mkF m 9 #[.val (.int ax), .val (.int ay), .val (.int af), .val (.int at_), .val (.ref bb), .unset, .unset, .unset] [(.int (0 : Int32)), (.ref bb)]))
  refine own_st (fun _ kont => XS.iloadN X1.here hx rfl (hb hby at_9) rfl kont) ?_
  show own_Go p e below s _ _ _ (T1.setTop (mkF m 10 #[.val (.int ax), .val (.int ay), .val (.int af), .val (.int at_), .val (.ref bb), .unset, .unset, .unset] [(.int ax), (.int (0 : Int32)), (.ref bb)]))
  refine own_cS X1 hx hml hZ hown (hw _ (List.mem_of_getElem? (i := 1) rfl)) (hw _ (List.mem_of_getElem? (i := 2) rfl)) (hw _ (List.mem_of_getElem? (i := 3) rfl)) (hw _ (List.mem_of_getElem? (i := 4) rfl)) (by decide) (own_rm1 l Z a0 hw ax h1 n0 sz1) e1 (by decide) (W := 2) (by decide) (g := (mkF m 10 #[.val (.int ax), .val (.int ay), .val (.int af), .val (.int at_), .val (.ref bb), .unset, .unset, .unset] [(.int ax), (.int (0 : Int32)), (.ref bb)])) rfl rfl own_pd0 (argsL := [(.int ax)]) (rest := [(.int (0 : Int32)), (.ref bb)]) rfl rfl rfl (by show 2 * 0 + _ ≤ _; exact Nat.le_of_eq rfl) (hb hby at_10) (by decide) (by decide) ?_
  intro T2 L2 v2 X2 hQ2
  obtain ⟨⟨d2, rfl⟩, eh2, le2⟩ := hQ2
  have N2 := own_nil N0 le2
  show own_Go p e below s _ _ _ (T2.setTop (mkF m 13 #[.val (.int ax), .val (.int ay), .val (.int af), .val (.int at_), .val (.ref bb), .unset, .unset, .unset] [(.int d2), (.int (0 : Int32)), (.ref bb)]))
  obtain ⟨T3, h3, X3, e3, W3, Vbb_3, st3⟩ := own_stB X2 hx hZ eh2 Vbb (i := 0) (by decide) (by decide) (g := (mkF m 13 #[.val (.int ax), .val (.int ay), .val (.int af), .val (.int at_), .val (.ref bb), .unset, .unset, .unset] [(.int d2), (.int (0 : Int32)), (.ref bb)])) rfl rfl (hb hby at_13)
  have sz3 := Nat.le_trans sz1 (Keep.of_wr W3).1
  have N3 := Fr.snoc X3 N2 fr_bb
  refine own_st st3 ?_
  show own_Go p e below s _ _ _ (T3.setTop (mkF m 14 #[.val (.int ax), .val (.int ay), .val (.int af), .val (.int at_), .val (.ref bb), .unset, .unset, .unset] []))
  refine own_st (fun _ kont => XS.aload X3.here hx rfl (hb hby at_14) rfl rfl kont) ?_
  show own_Go p e below s _ _ _ (T3.setTop (mkF m 16 #[.val (.int ax), .val (.int ay), .val (.int af), .val (.int at_), .val (.ref bb), .unset, .unset, .unset] [(.ref bb)]))
  refine own_st (fun _ kont => XS.iconst X3.here hx rfl (hb hby at_16) kont) ?_
  show own_Go p e below s _ _ _ (T3.setTop (mkF m 17 #[.val (.int ax), .val (.int ay), .val (.int af), .val (.int at_), .val (.ref bb), .unset, .unset, .unset] [(.int (1 : Int32)), (.ref bb)]))
  refine own_st (fun _ kont => XS.iloadN X3.here hx rfl (hb hby at_17) rfl kont) ?_
  show own_Go p e below s _ _ _ (T3.setTop (mkF m 18 #[.val (.int ax), .val (.int ay), .val (.int af), .val (.int at_), .val (.ref bb), .unset, .unset, .unset] [(.int ax), (.int (1 : Int32)), (.ref bb)]))
  refine own_st (fun _ kont => XS.bipush X3.here hx rfl (hb hby at_18) kont) ?_
  show own_Go p e below s _ _ _ (T3.setTop (mkF m 20 #[.val (.int ax), .val (.int ay), .val (.int af), .val (.int at_), .val (.ref bb), .unset, .unset, .unset] [(.int (8 : Int32)), (.int ax), (.int (1 : Int32)), (.ref bb)]))
  refine own_st (fun _ kont => XT.ishr X3.here hx rfl (hb hby at_20) rfl kont) ?_
  show own_Go p e below s _ _ _ (T3.setTop (mkF m 21 #[.val (.int ax), .val (.int ay), .val (.int af), .val (.int at_), .val (.ref bb), .unset, .unset, .unset] [(.int (ax >>> ((8 : Int32) &&& 31))), (.int (1 : Int32)), (.ref bb)]))
  refine own_cS X3 hx hml hZ hown (hw _ (List.mem_of_getElem? (i := 1) rfl)) (hw _ (List.mem_of_getElem? (i := 2) rfl)) (hw _ (List.mem_of_getElem? (i := 3) rfl)) (hw _ (List.mem_of_getElem? (i := 4) rfl)) (by decide) (own_rm1 l Z a0 hw (ax >>> ((8 : Int32) &&& 31)) h3 n0 sz3) e3 (by decide) (W := 2) (by decide) (g := (mkF m 21 #[.val (.int ax), .val (.int ay), .val (.int af), .val (.int at_), .val (.ref bb), .unset, .unset, .unset] [(.int (ax >>> ((8 : Int32) &&& 31))), (.int (1 : Int32)), (.ref bb)])) rfl rfl own_pd0 (argsL := [(.int (ax >>> ((8 : Int32) &&& 31)))]) (rest := [(.int (1 : Int32)), (.ref bb)]) rfl rfl rfl (by show 2 * 0 + _ ≤ _; exact Nat.le_of_eq rfl) (hb hby at_21) (by decide) (by decide) ?_
  intro T4 L4 v4 X4 hQ4
  obtain ⟨⟨d4, rfl⟩, eh4, le4⟩ := hQ4
  have N4 := own_nil N3 le4
  show own_Go p e below s _ _ _ (T4.setTop (mkF m 24 #[.val (.int ax), .val (.int ay), .val (.int af), .val (.int at_), .val (.ref bb), .unset, .unset, .unset] [(.int d4), (.int (1 : Int32)), (.ref bb)]))
  obtain ⟨T5, h5, X5, e5, W5, Vbb_5, st5⟩ := own_stB X4 hx hZ eh4 Vbb_3 (i := 1) (by decide) (by decide) (g := (mkF m 24 #[.val (.int ax), .val (.int ay), .val (.int af), .val (.int at_), .val (.ref bb), .unset, .unset, .unset] [(.int d4), (.int (1 : Int32)), (.ref bb)])) rfl rfl (hb hby at_24)
  have sz5 := Nat.le_trans sz3 (Keep.of_wr W5).1
  have N5 := Fr.snoc X5 N4 fr_bb
  refine own_st st5 ?_
  show own_Go p e below s _ _ _ (T5.setTop (mkF m 25 #[.val (.int ax), .val (.int ay), .val (.int af), .val (.int at_), .val (.ref bb), .unset, .unset, .unset] []))
  refine own_st (fun _ kont => XS.aload X5.here hx rfl (hb hby at_25) rfl rfl kont) ?_
  show own_Go p e below s _ _ _ (T5.setTop (mkF m 27 #[.val (.int ax), .val (.int ay), .val (.int af), .val (.int at_), .val (.ref bb), .unset, .unset, .unset] [(.ref bb)]))
  refine own_st (fun _ kont => XS.iconst X5.here hx rfl (hb hby at_27) kont) ?_
  show own_Go p e below s _ _ _ (T5.setTop (mkF m 28 #[.val (.int ax), .val (.int ay), .val (.int af), .val (.int at_), .val (.ref bb), .unset, .unset, .unset] [(.int (2 : Int32)), (.ref bb)]))
  refine own_st (fun _ kont => XS.iloadN X5.here hx rfl (hb hby at_28) rfl kont) ?_
  show own_Go p e below s _ _ _ (T5.setTop (mkF m 29 #[.val (.int ax), .val (.int ay), .val (.int af), .val (.int at_), .val (.ref bb), .unset, .unset, .unset] [(.int ax), (.int (2 : Int32)), (.ref bb)]))
  refine own_st (fun _ kont => XS.bipush X5.here hx rfl (hb hby at_29) kont) ?_
  show own_Go p e below s _ _ _ (T5.setTop (mkF m 31 #[.val (.int ax), .val (.int ay), .val (.int af), .val (.int at_), .val (.ref bb), .unset, .unset, .unset] [(.int (16 : Int32)), (.int ax), (.int (2 : Int32)), (.ref bb)]))
  refine own_st (fun _ kont => XT.ishr X5.here hx rfl (hb hby at_31) rfl kont) ?_
  show own_Go p e below s _ _ _ (T5.setTop (mkF m 32 #[.val (.int ax), .val (.int ay), .val (.int af), .val (.int at_), .val (.ref bb), .unset, .unset, .unset] [(.int (ax >>> ((16 : Int32) &&& 31))), (.int (2 : Int32)), (.ref bb)]))
  refine own_cS X5 hx hml hZ hown (hw _ (List.mem_of_getElem? (i := 1) rfl)) (hw _ (List.mem_of_getElem? (i := 2) rfl)) (hw _ (List.mem_of_getElem? (i := 3) rfl)) (hw _ (List.mem_of_getElem? (i := 4) rfl)) (by decide) (own_rm1 l Z a0 hw (ax >>> ((16 : Int32) &&& 31)) h5 n0 sz5) e5 (by decide) (W := 2) (by decide) (g := (mkF m 32 #[.val (.int ax), .val (.int ay), .val (.int af), .val (.int at_), .val (.ref bb), .unset, .unset, .unset] [(.int (ax >>> ((16 : Int32) &&& 31))), (.int (2 : Int32)), (.ref bb)])) rfl rfl own_pd0 (argsL := [(.int (ax >>> ((16 : Int32) &&& 31)))]) (rest := [(.int (2 : Int32)), (.ref bb)]) rfl rfl rfl (by show 2 * 0 + _ ≤ _; exact Nat.le_of_eq rfl) (hb hby at_32) (by decide) (by decide) ?_
  intro T6 L6 v6 X6 hQ6
  obtain ⟨⟨d6, rfl⟩, eh6, le6⟩ := hQ6
  have N6 := own_nil N5 le6
  show own_Go p e below s _ _ _ (T6.setTop (mkF m 35 #[.val (.int ax), .val (.int ay), .val (.int af), .val (.int at_), .val (.ref bb), .unset, .unset, .unset] [(.int d6), (.int (2 : Int32)), (.ref bb)]))
  obtain ⟨T7, h7, X7, e7, W7, Vbb_7, st7⟩ := own_stB X6 hx hZ eh6 Vbb_5 (i := 2) (by decide) (by decide) (g := (mkF m 35 #[.val (.int ax), .val (.int ay), .val (.int af), .val (.int at_), .val (.ref bb), .unset, .unset, .unset] [(.int d6), (.int (2 : Int32)), (.ref bb)])) rfl rfl (hb hby at_35)
  have sz7 := Nat.le_trans sz5 (Keep.of_wr W7).1
  have N7 := Fr.snoc X7 N6 fr_bb
  refine own_st st7 ?_
  show own_Go p e below s _ _ _ (T7.setTop (mkF m 36 #[.val (.int ax), .val (.int ay), .val (.int af), .val (.int at_), .val (.ref bb), .unset, .unset, .unset] []))
  refine own_st (fun _ kont => XS.aload X7.here hx rfl (hb hby at_36) rfl rfl kont) ?_
  show own_Go p e below s _ _ _ (T7.setTop (mkF m 38 #[.val (.int ax), .val (.int ay), .val (.int af), .val (.int at_), .val (.ref bb), .unset, .unset, .unset] [(.ref bb)]))
  refine own_st (fun _ kont => XS.iconst X7.here hx rfl (hb hby at_38) kont) ?_
  show own_Go p e below s _ _ _ (T7.setTop (mkF m 39 #[.val (.int ax), .val (.int ay), .val (.int af), .val (.int at_), .val (.ref bb), .unset, .unset, .unset] [(.int (3 : Int32)), (.ref bb)]))
  refine own_st (fun _ kont => XS.iloadN X7.here hx rfl (hb hby at_39) rfl kont) ?_
  show own_Go p e below s _ _ _ (T7.setTop (mkF m 40 #[.val (.int ax), .val (.int ay), .val (.int af), .val (.int at_), .val (.ref bb), .unset, .unset, .unset] [(.int ax), (.int (3 : Int32)), (.ref bb)]))
  refine own_st (fun _ kont => XS.bipush X7.here hx rfl (hb hby at_40) kont) ?_
  show own_Go p e below s _ _ _ (T7.setTop (mkF m 42 #[.val (.int ax), .val (.int ay), .val (.int af), .val (.int at_), .val (.ref bb), .unset, .unset, .unset] [(.int (24 : Int32)), (.int ax), (.int (3 : Int32)), (.ref bb)]))
  refine own_st (fun _ kont => XT.ishr X7.here hx rfl (hb hby at_42) rfl kont) ?_
  show own_Go p e below s _ _ _ (T7.setTop (mkF m 43 #[.val (.int ax), .val (.int ay), .val (.int af), .val (.int at_), .val (.ref bb), .unset, .unset, .unset] [(.int (ax >>> ((24 : Int32) &&& 31))), (.int (3 : Int32)), (.ref bb)]))
  refine own_cS X7 hx hml hZ hown (hw _ (List.mem_of_getElem? (i := 1) rfl)) (hw _ (List.mem_of_getElem? (i := 2) rfl)) (hw _ (List.mem_of_getElem? (i := 3) rfl)) (hw _ (List.mem_of_getElem? (i := 4) rfl)) (by decide) (own_rm1 l Z a0 hw (ax >>> ((24 : Int32) &&& 31)) h7 n0 sz7) e7 (by decide) (W := 2) (by decide) (g := (mkF m 43 #[.val (.int ax), .val (.int ay), .val (.int af), .val (.int at_), .val (.ref bb), .unset, .unset, .unset] [(.int (ax >>> ((24 : Int32) &&& 31))), (.int (3 : Int32)), (.ref bb)])) rfl rfl own_pd0 (argsL := [(.int (ax >>> ((24 : Int32) &&& 31)))]) (rest := [(.int (3 : Int32)), (.ref bb)]) rfl rfl rfl (by show 2 * 0 + _ ≤ _; exact Nat.le_of_eq rfl) (hb hby at_43) (by decide) (by decide) ?_
  intro T8 L8 v8 X8 hQ8
  obtain ⟨⟨d8, rfl⟩, eh8, le8⟩ := hQ8
  have N8 := own_nil N7 le8
  show own_Go p e below s _ _ _ (T8.setTop (mkF m 46 #[.val (.int ax), .val (.int ay), .val (.int af), .val (.int at_), .val (.ref bb), .unset, .unset, .unset] [(.int d8), (.int (3 : Int32)), (.ref bb)]))
  obtain ⟨T9, h9, X9, e9, W9, Vbb_9, st9⟩ := own_stB X8 hx hZ eh8 Vbb_7 (i := 3) (by decide) (by decide) (g := (mkF m 46 #[.val (.int ax), .val (.int ay), .val (.int af), .val (.int at_), .val (.ref bb), .unset, .unset, .unset] [(.int d8), (.int (3 : Int32)), (.ref bb)])) rfl rfl (hb hby at_46)
  have sz9 := Nat.le_trans sz7 (Keep.of_wr W9).1
  have N9 := Fr.snoc X9 N8 fr_bb
  refine own_st st9 ?_
  show own_Go p e below s _ _ _ (T9.setTop (mkF m 47 #[.val (.int ax), .val (.int ay), .val (.int af), .val (.int at_), .val (.ref bb), .unset, .unset, .unset] []))
  refine own_st (fun _ kont => XS.aload X9.here hx rfl (hb hby at_47) rfl rfl kont) ?_
  show own_Go p e below s _ _ _ (T9.setTop (mkF m 49 #[.val (.int ax), .val (.int ay), .val (.int af), .val (.int at_), .val (.ref bb), .unset, .unset, .unset] [(.ref bb)]))
  refine own_st (fun _ kont => XS.iconst X9.here hx rfl (hb hby at_49) kont) ?_
  show own_Go p e below s _ _ _ (T9.setTop (mkF m 50 #[.val (.int ax), .val (.int ay), .val (.int af), .val (.int at_), .val (.ref bb), .unset, .unset, .unset] [(.int (4 : Int32)), (.ref bb)]))
  refine own_st (fun _ kont => XS.iloadN X9.here hx rfl (hb hby at_50) rfl kont) ?_
  show own_Go p e below s _ _ _ (T9.setTop (mkF m 51 #[.val (.int ax), .val (.int ay), .val (.int af), .val (.int at_), .val (.ref bb), .unset, .unset, .unset] [(.int ay), (.int (4 : Int32)), (.ref bb)]))
  refine own_cS X9 hx hml hZ hown (hw _ (List.mem_of_getElem? (i := 1) rfl)) (hw _ (List.mem_of_getElem? (i := 2) rfl)) (hw _ (List.mem_of_getElem? (i := 3) rfl)) (hw _ (List.mem_of_getElem? (i := 4) rfl)) (by decide) (own_rm1 l Z a0 hw ay h9 n0 sz9) e9 (by decide) (W := 2) (by decide) (g := (mkF m 51 #[.val (.int ax), .val (.int ay), .val (.int af), .val (.int at_), .val (.ref bb), .unset, .unset, .unset] [(.int ay), (.int (4 : Int32)), (.ref bb)])) rfl rfl own_pd0 (argsL := [(.int ay)]) (rest := [(.int (4 : Int32)), (.ref bb)]) rfl rfl rfl (by show 2 * 0 + _ ≤ _; exact Nat.le_of_eq rfl) (hb hby at_51) (by decide) (by decide) ?_
  intro T10 L10 v10 X10 hQ10
  obtain ⟨⟨d10, rfl⟩, eh10, le10⟩ := hQ10
  have N10 := own_nil N9 le10
  show own_Go p e below s _ _ _ (T10.setTop (mkF m 54 #[.val (.int ax), .val (.int ay), .val (.int af), .val (.int at_), .val (.ref bb), .unset, .unset, .unset] [(.int d10), (.int (4 : Int32)), (.ref bb)]))
  obtain ⟨T11, h11, X11, e11, W11, Vbb_11, st11⟩ := own_stB X10 hx hZ eh10 Vbb_9 (i := 4) (by decide) (by decide) (g := (mkF m 54 #[.val (.int ax), .val (.int ay), .val (.int af), .val (.int at_), .val (.ref bb), .unset, .unset, .unset] [(.int d10), (.int (4 : Int32)), (.ref bb)])) rfl rfl (hb hby at_54)
  have sz11 := Nat.le_trans sz9 (Keep.of_wr W11).1
  have N11 := Fr.snoc X11 N10 fr_bb
  refine own_st st11 ?_
  show own_Go p e below s _ _ _ (T11.setTop (mkF m 55 #[.val (.int ax), .val (.int ay), .val (.int af), .val (.int at_), .val (.ref bb), .unset, .unset, .unset] []))
  refine own_st (fun _ kont => XS.aload X11.here hx rfl (hb hby at_55) rfl rfl kont) ?_
  show own_Go p e below s _ _ _ (T11.setTop (mkF m 57 #[.val (.int ax), .val (.int ay), .val (.int af), .val (.int at_), .val (.ref bb), .unset, .unset, .unset] [(.ref bb)]))
  refine own_st (fun _ kont => XS.iconst X11.here hx rfl (hb hby at_57) kont) ?_
  show own_Go p e below s _ _ _ (T11.setTop (mkF m 58 #[.val (.int ax), .val (.int ay), .val (.int af), .val (.int at_), .val (.ref bb), .unset, .unset, .unset] [(.int (5 : Int32)), (.ref bb)]))
  refine own_st (fun _ kont => XS.iloadN X11.here hx rfl (hb hby at_58) rfl kont) ?_
  show own_Go p e below s _ _ _ (T11.setTop (mkF m 59 #[.val (.int ax), .val (.int ay), .val (.int af), .val (.int at_), .val (.ref bb), .unset, .unset, .unset] [(.int ay), (.int (5 : Int32)), (.ref bb)]))
  refine own_st (fun _ kont => XS.bipush X11.here hx rfl (hb hby at_59) kont) ?_
  show own_Go p e below s _ _ _ (T11.setTop (mkF m 61 #[.val (.int ax), .val (.int ay), .val (.int af), .val (.int at_), .val (.ref bb), .unset, .unset, .unset] [(.int (8 : Int32)), (.int ay), (.int (5 : Int32)), (.ref bb)]))
  refine own_st (fun _ kont => XT.ishr X11.here hx rfl (hb hby at_61) rfl kont) ?_
  show own_Go p e below s _ _ _ (T11.setTop (mkF m 62 #[.val (.int ax), .val (.int ay), .val (.int af), .val (.int at_), .val (.ref bb), .unset, .unset, .unset] [(.int (ay >>> ((8 : Int32) &&& 31))), (.int (5 : Int32)), (.ref bb)]))
  refine own_cS X11 hx hml hZ hown (hw _ (List.mem_of_getElem? (i := 1) rfl)) (hw _ (List.mem_of_getElem? (i := 2) rfl)) (hw _ (List.mem_of_getElem? (i := 3) rfl)) (hw _ (List.mem_of_getElem? (i := 4) rfl)) (by decide) (own_rm1 l Z a0 hw (ay >>> ((8 : Int32) &&& 31)) h11 n0 sz11) e11 (by decide) (W := 2) (by decide) (g := (mkF m 62 #[.val (.int ax), .val (.int ay), .val (.int af), .val (.int at_), .val (.ref bb), .unset, .unset, .unset] [(.int (ay >>> ((8 : Int32) &&& 31))), (.int (5 : Int32)), (.ref bb)])) rfl rfl own_pd0 (argsL := [(.int (ay >>> ((8 : Int32) &&& 31)))]) (rest := [(.int (5 : Int32)), (.ref bb)]) rfl rfl rfl (by show 2 * 0 + _ ≤ _; exact Nat.le_of_eq rfl) (hb hby at_62) (by decide) (by decide) ?_
  intro T12 L12 v12 X12 hQ12
  obtain ⟨⟨d12, rfl⟩, eh12, le12⟩ := hQ12
  have N12 := own_nil N11 le12
  show own_Go p e below s _ _ _ (T12.setTop (mkF m 65 #[.val (.int ax), .val (.int ay), .val (.int af), .val (.int at_), .val (.ref bb), .unset, .unset, .unset] [(.int d12), (.int (5 : Int32)), (.ref bb)]))
  obtain ⟨T13, h13, X13, e13, W13, Vbb_13, st13⟩ := own_stB X12 hx hZ eh12 Vbb_11 (i := 5) (by decide) (by decide) (g := (mkF m 65 #[.val (.int ax), .val (.int ay), .val (.int af), .val (.int at_), .val (.ref bb), .unset, .unset, .unset] [(.int d12), (.int (5 : Int32)), (.ref bb)])) rfl rfl (hb hby at_65)
  have sz13 := Nat.le_trans sz11 (Keep.of_wr W13).1
  have N13 := Fr.snoc X13 N12 fr_bb
  refine own_st st13 ?_
  show own_Go p e below s _ _ _ (T13.setTop (mkF m 66 #[.val (.int ax), .val (.int ay), .val (.int af), .val (.int at_), .val (.ref bb), .unset, .unset, .unset] []))
  obtain ⟨fb, Vbb_13⟩ : ∃ f : Nat → Int32, own_Av Z h13 bb .byte 6 (fun t => .int (f t)) := ⟨_, Vbb_13⟩
  show own_Go p e below s _ _ _ (T13.setTop (mkF m 66 #[.val (.int ax), .val (.int ay), .val (.int af), .val (.int at_), .val (.ref bb), .unset, .unset, .unset] []))
  refine own_st (fun _ kont => XS.iloadN X13.here hx rfl (hb hby at_66) rfl kont) ?_
  show own_Go p e below s _ _ _ (T13.setTop (mkF m 67 #[.val (.int ax), .val (.int ay), .val (.int af), .val (.int at_), .val (.ref bb), .unset, .unset, .unset] [(.int af)]))
  refine own_st (fun _ kont => X13.ldcInt hx hown (mvT hZ (hw _ (List.mem_of_getElem? (i := 5) rfl))) (g := (mkF m 67 #[.val (.int ax), .val (.int ay), .val (.int af), .val (.int at_), .val (.ref bb), .unset, .unset, .unset] [(.int af)])) rfl (hb hby at_67) _ kont) ?_
  show own_Go p e below s _ _ _ (T13.setTop (mkF m 69 #[.val (.int ax), .val (.int ay), .val (.int af), .val (.int at_), .val (.ref bb), .unset, .unset, .unset] [(.int (2147483647 : Int32)), (.int af)]))
  refine own_st (fun _ kont => XS.iand X13.here hx rfl (hb hby at_69) rfl kont) ?_
  show own_Go p e below s _ _ _ (T13.setTop (mkF m 70 #[.val (.int ax), .val (.int ay), .val (.int af), .val (.int at_), .val (.ref bb), .unset, .unset, .unset] [(.int (af &&& (2147483647 : Int32)))]))
  refine own_st (fun _ kont => XS.bipush X13.here hx rfl (hb hby at_70) kont) ?_
  show own_Go p e below s _ _ _ (T13.setTop (mkF m 72 #[.val (.int ax), .val (.int ay), .val (.int af), .val (.int at_), .val (.ref bb), .unset, .unset, .unset] [(.int (7 : Int32)), (.int (af &&& (2147483647 : Int32)))]))
  refine own_st (fun _ kont => iremM X13 hx rfl (hb hby at_72) rfl (by decide) kont) ?_
  show own_Go p e below s _ _ _ (T13.setTop (mkF m 73 #[.val (.int ax), .val (.int ay), .val (.int af), .val (.int at_), .val (.ref bb), .unset, .unset, .unset] [(.int ((af &&& (2147483647 : Int32)) % (7 : Int32)))]))
  refine own_st (fun _ kont => XS.istore X13.here hx rfl (hb hby at_73) rfl (l' := #[.val (.int ax), .val (.int ay), .val (.int af), .val (.int at_), .val (.ref bb), .val (.int ((af &&& (2147483647 : Int32)) % (7 : Int32))), .unset, .unset]) rfl kont) ?_
  show own_Go p e below s _ _ _ (T13.setTop (mkF m 75 #[.val (.int ax), .val (.int ay), .val (.int af), .val (.int at_), .val (.ref bb), .val (.int ((af &&& (2147483647 : Int32)) % (7 : Int32))), .unset, .unset] []))
  refine own_st (fun _ kont => XS.iloadN X13.here hx rfl (hb hby at_75) rfl kont) ?_
  show own_Go p e below s _ _ _ (T13.setTop (mkF m 76 #[.val (.int ax), .val (.int ay), .val (.int af), .val (.int at_), .val (.ref bb), .val (.int ((af &&& (2147483647 : Int32)) % (7 : Int32))), .unset, .unset] [(.int at_)]))
  refine own_st (fun _ kont => X13.ldcInt hx hown (mvT hZ (hw _ (List.mem_of_getElem? (i := 5) rfl))) (g := (mkF m 76 #[.val (.int ax), .val (.int ay), .val (.int af), .val (.int at_), .val (.ref bb), .val (.int ((af &&& (2147483647 : Int32)) % (7 : Int32))), .unset, .unset] [(.int at_)])) rfl (hb hby at_76) _ kont) ?_
  show own_Go p e below s _ _ _ (T13.setTop (mkF m 78 #[.val (.int ax), .val (.int ay), .val (.int af), .val (.int at_), .val (.ref bb), .val (.int ((af &&& (2147483647 : Int32)) % (7 : Int32))), .unset, .unset] [(.int (2147483647 : Int32)), (.int at_)]))
  refine own_st (fun _ kont => XS.iand X13.here hx rfl (hb hby at_78) rfl kont) ?_
  show own_Go p e below s _ _ _ (T13.setTop (mkF m 79 #[.val (.int ax), .val (.int ay), .val (.int af), .val (.int at_), .val (.ref bb), .val (.int ((af &&& (2147483647 : Int32)) % (7 : Int32))), .unset, .unset] [(.int (at_ &&& (2147483647 : Int32)))]))
  refine own_st (fun _ kont => XS.bipush X13.here hx rfl (hb hby at_79) kont) ?_
  show own_Go p e below s _ _ _ (T13.setTop (mkF m 81 #[.val (.int ax), .val (.int ay), .val (.int af), .val (.int at_), .val (.ref bb), .val (.int ((af &&& (2147483647 : Int32)) % (7 : Int32))), .unset, .unset] [(.int (7 : Int32)), (.int (at_ &&& (2147483647 : Int32)))]))
  refine own_st (fun _ kont => iremM X13 hx rfl (hb hby at_81) rfl (by decide) kont) ?_
  show own_Go p e below s _ _ _ (T13.setTop (mkF m 82 #[.val (.int ax), .val (.int ay), .val (.int af), .val (.int at_), .val (.ref bb), .val (.int ((af &&& (2147483647 : Int32)) % (7 : Int32))), .unset, .unset] [(.int ((at_ &&& (2147483647 : Int32)) % (7 : Int32)))]))
  refine own_st (fun _ kont => XS.istore X13.here hx rfl (hb hby at_82) rfl (l' := #[.val (.int ax), .val (.int ay), .val (.int af), .val (.int at_), .val (.ref bb), .val (.int ((af &&& (2147483647 : Int32)) % (7 : Int32))), .val (.int ((at_ &&& (2147483647 : Int32)) % (7 : Int32))), .unset]) rfl kont) ?_
  show own_Go p e below s _ _ _ (T13.setTop (mkF m 84 #[.val (.int ax), .val (.int ay), .val (.int af), .val (.int at_), .val (.ref bb), .val (.int ((af &&& (2147483647 : Int32)) % (7 : Int32))), .val (.int ((at_ &&& (2147483647 : Int32)) % (7 : Int32))), .unset] []))
  obtain ⟨iq, hiq, hqm⟩ := own_mask af (2147483647 : Int32) (k := 2147483647) (by decide)
  obtain ⟨jq, hjq, hjm⟩ := own_mask at_ (2147483647 : Int32) (k := 2147483647) (by decide)
  suffices JJ14 : ∀ (fr to : Int32) (i t : Nat) (hi : fr.toInt = (i : Int)) (ht : to.toInt = (t : Int)) (hi6 : i ≤ 6) (ht6 : t ≤ 6), own_Go p e below s (fun v h' L => v = some (.int 1) ∧ Fr n0 L) room_1.cells room_1.slots (T13.setTop (mkF m 84 #[.val (.int ax), .val (.int ay), .val (.int af), .val (.int at_), .val (.ref bb), .val (.int fr), .val (.int to), .unset] [])) from JJ14 _ _ (iq % 7) (jq % 7) (by rw [own_rem (by rw [hiq]; omega) (by decide), hiq]; rfl) (by rw [own_rem (by rw [hjq]; omega) (by decide), hjq]; rfl) (by omega) (by omega)
  intro fr to i t hi ht hi6 ht6
  show own_Go p e below s _ _ _ (T13.setTop (mkF m 84 #[.val (.int ax), .val (.int ay), .val (.int af), .val (.int at_), .val (.ref bb), .val (.int fr), .val (.int to), .unset] []))
  refine own_st (fun _ kont => XS.aload X13.here hx rfl (hb hby at_84) rfl rfl kont) ?_
  show own_Go p e below s _ _ _ (T13.setTop (mkF m 86 #[.val (.int ax), .val (.int ay), .val (.int af), .val (.int at_), .val (.ref bb), .val (.int fr), .val (.int to), .unset] [(.ref bb)]))
  refine own_st (fun _ kont => XS.iload X13.here hx rfl (hb hby at_86) rfl kont) ?_
  show own_Go p e below s _ _ _ (T13.setTop (mkF m 88 #[.val (.int ax), .val (.int ay), .val (.int af), .val (.int at_), .val (.ref bb), .val (.int fr), .val (.int to), .unset] [(.int fr), (.ref bb)]))
  refine own_st (fun _ kont => XS.iload X13.here hx rfl (hb hby at_88) rfl kont) ?_
  show own_Go p e below s _ _ _ (T13.setTop (mkF m 90 #[.val (.int ax), .val (.int ay), .val (.int af), .val (.int at_), .val (.ref bb), .val (.int fr), .val (.int to), .unset] [(.int to), (.int fr), (.ref bb)]))
  refine own_st (fun _ kont => XS.iconst X13.here hx rfl (hb hby at_90) kont) ?_
  show own_Go p e below s _ _ _ (T13.setTop (mkF m 91 #[.val (.int ax), .val (.int ay), .val (.int af), .val (.int at_), .val (.ref bb), .val (.int fr), .val (.int to), .unset] [(.int (2 : Int32)), (.int to), (.int fr), (.ref bb)]))
  refine own_cS X13 hx hml hZ hown (hw _ (List.mem_of_getElem? (i := 6) rfl)) (hw _ (List.mem_of_getElem? (i := 7) rfl)) (hw _ (List.mem_of_getElem? (i := 3) rfl)) (hw _ (List.mem_of_getElem? (i := 8) rfl)) (by decide) (own_rm2 l Z a0 hw bb fr to (2 : Int32) fb i t 2 h13 n0 sz13 Vbb_13 hi ht ht6 (by decide) (by decide) (by decide) hi6) e13 (by decide) (W := 0) (by decide) (g := (mkF m 91 #[.val (.int ax), .val (.int ay), .val (.int af), .val (.int at_), .val (.ref bb), .val (.int fr), .val (.int to), .unset] [(.int (2 : Int32)), (.int to), (.int fr), (.ref bb)])) rfl rfl own_pd1 (argsL := [(.ref bb), (.int fr), (.int to), (.int (2 : Int32))]) (rest := []) rfl rfl rfl (by show 2 * 0 + _ ≤ _; exact Nat.le_of_eq rfl) (hb hby at_91) (by decide) (by decide) ?_
  intro T15 L15 v15 X15 hQ15
  obtain ⟨hd15, eh15, le15⟩ := hQ15
  rcases hd15 with ⟨rfl, hE2⟩ | ⟨rfl, hE2⟩
  · have N15 := own_nil N13 le15
    show own_Go p e below s _ _ _ (T15.setTop (mkF m 94 #[.val (.int ax), .val (.int ay), .val (.int af), .val (.int at_), .val (.ref bb), .val (.int fr), .val (.int to), .unset] [(.int (1 : Int32))]))
    refine own_st (fun _ kont => XS.ifNo X15.here hx rfl (hb hby at_94) rfl (by decide) kont) ?_
    show own_Go p e below s _ _ _ (T15.setTop (mkF m 97 #[.val (.int ax), .val (.int ay), .val (.int af), .val (.int at_), .val (.ref bb), .val (.int fr), .val (.int to), .unset] []))
    refine own_st (fun _ kont => XS.iconst X15.here hx rfl (hb hby at_97) kont) ?_
    show own_Go p e below s _ _ _ (T15.setTop (mkF m 98 #[.val (.int ax), .val (.int ay), .val (.int af), .val (.int at_), .val (.ref bb), .val (.int fr), .val (.int to), .unset] [(.int (2 : Int32))]))
    refine own_st (fun _ kont => XS.istore X15.here hx rfl (hb hby at_98) rfl (l' := #[.val (.int ax), .val (.int ay), .val (.int af), .val (.int at_), .val (.ref bb), .val (.int fr), .val (.int to), .val (.int (2 : Int32))]) rfl kont) ?_
    show own_Go p e below s _ _ _ (T15.setTop (mkF m 100 #[.val (.int ax), .val (.int ay), .val (.int af), .val (.int at_), .val (.ref bb), .val (.int fr), .val (.int to), .val (.int (2 : Int32))] []))
    refine own_st (fun _ kont => XS.goto X15.here hx rfl (pc0 := 100) (pc' := 184) rfl (hb hby at_100) (by decide) (by decide) kont) ?_
    show own_Go p e below s _ _ _ (T15.setTop (mkF m 184 #[.val (.int ax), .val (.int ay), .val (.int af), .val (.int at_), .val (.ref bb), .val (.int fr), .val (.int to), .val (.int (2 : Int32))] []))
    refine own_st (fun _ kont => XS.aload X15.here hx rfl (hb hby at_184) rfl rfl kont) ?_
    show own_Go p e below s _ _ _ (T15.setTop (mkF m 186 #[.val (.int ax), .val (.int ay), .val (.int af), .val (.int at_), .val (.ref bb), .val (.int fr), .val (.int to), .val (.int (2 : Int32))] [(.ref bb)]))
    refine own_st (fun _ kont => XS.iload X15.here hx rfl (hb hby at_186) rfl kont) ?_
    show own_Go p e below s _ _ _ (T15.setTop (mkF m 188 #[.val (.int ax), .val (.int ay), .val (.int af), .val (.int at_), .val (.ref bb), .val (.int fr), .val (.int to), .val (.int (2 : Int32))] [(.int fr), (.ref bb)]))
    refine own_st (fun _ kont => XS.iload X15.here hx rfl (hb hby at_188) rfl kont) ?_
    show own_Go p e below s _ _ _ (T15.setTop (mkF m 190 #[.val (.int ax), .val (.int ay), .val (.int af), .val (.int at_), .val (.ref bb), .val (.int fr), .val (.int to), .val (.int (2 : Int32))] [(.int to), (.int fr), (.ref bb)]))
    refine own_cS X15 hx hml hZ hown (hw _ (List.mem_of_getElem? (i := 9) rfl)) (hw _ (List.mem_of_getElem? (i := 10) rfl)) (hw _ (List.mem_of_getElem? (i := 11) rfl)) (hw _ (List.mem_of_getElem? (i := 12) rfl)) (by decide) (own_rm3 l Z a0 hw bb fr to fb i t h13 n0 sz13 Vbb_13 hi ht ht6 hi6) eh15 (by decide) (W := 0) (by decide) (g := (mkF m 190 #[.val (.int ax), .val (.int ay), .val (.int af), .val (.int at_), .val (.ref bb), .val (.int fr), .val (.int to), .val (.int (2 : Int32))] [(.int to), (.int fr), (.ref bb)])) rfl rfl own_pd2 (argsL := [(.ref bb), (.int fr), (.int to)]) (rest := []) rfl rfl rfl (by show 2 * 0 + _ ≤ _; exact Nat.le_of_eq rfl) (hb hby at_190) (by decide) (by decide) ?_
    intro T16 L16 v16 X16 hQ16
    obtain ⟨⟨z16, rfl, hz16⟩, eh16, le16⟩ := hQ16
    have N16 := own_nil N15 le16
    show own_Go p e below s _ _ _ (T16.setTop (mkF m 193 #[.val (.int ax), .val (.int ay), .val (.int af), .val (.int at_), .val (.ref bb), .val (.int fr), .val (.int to), .val (.int (2 : Int32))] [(.int z16)]))
    refine own_st (fun _ kont => XS.iload X16.here hx rfl (hb hby at_193) rfl kont) ?_
    show own_Go p e below s _ _ _ (T16.setTop (mkF m 195 #[.val (.int ax), .val (.int ay), .val (.int af), .val (.int at_), .val (.ref bb), .val (.int fr), .val (.int to), .val (.int (2 : Int32))] [(.int (2 : Int32)), (.int z16)]))
    have hzz : z16 = (2 : Int32) := by
      apply Int32.toInt_inj.mp
      show _ = (2 : Int)
      rcases hz16 with ⟨j, hj, hEj, hmin⟩ | ⟨-, hno⟩
      · rw [hj]
        have q1 : ¬ 2 < j := fun u => hmin _ u hE2
        have q2 : 2 ≤ j := by obtain ⟨-, r | r⟩ := hEj <;> omega
        rcases (by omega : j = 2) with rfl
        · rfl
      · exact absurd hE2 (hno _)
    show own_Go p e below s _ _ _ (T16.setTop (mkF m 195 #[.val (.int ax), .val (.int ay), .val (.int af), .val (.int at_), .val (.ref bb), .val (.int fr), .val (.int to), .val (.int (2 : Int32))] [(.int (2 : Int32)), (.int z16)]))
    refine own_st (fun _ kont => XS.icmpNo X16.here hx rfl (hb hby at_195) rfl (teq hzz).2 kont) ?_
    show own_Go p e below s _ _ _ (T16.setTop (mkF m 198 #[.val (.int ax), .val (.int ay), .val (.int af), .val (.int at_), .val (.ref bb), .val (.int fr), .val (.int to), .val (.int (2 : Int32))] []))
    refine own_st (fun _ kont => XS.iconst X16.here hx rfl (hb hby at_198) kont) ?_
    show own_Go p e below s _ _ _ (T16.setTop (mkF m 199 #[.val (.int ax), .val (.int ay), .val (.int af), .val (.int at_), .val (.ref bb), .val (.int fr), .val (.int to), .val (.int (2 : Int32))] [(.int (1 : Int32))]))
    refine own_st (fun _ kont => XS.goto X16.here hx rfl (pc0 := 199) (pc' := 203) rfl (hb hby at_199) (by decide) (by decide) kont) ?_
    show own_Go p e below s _ _ _ (T16.setTop (mkF m 203 #[.val (.int ax), .val (.int ay), .val (.int af), .val (.int at_), .val (.ref bb), .val (.int fr), .val (.int to), .val (.int (2 : Int32))] [(.int (1 : Int32))]))
    exact own_endN X16 hx hlk (t := .boolean) hret (by simp) (hb hby at_203) (w := (1 : Int32)) (by decide) ⟨rfl, N16⟩ (by decide) (by decide)
  · have N15 := own_nil N13 le15
    show own_Go p e below s _ _ _ (T15.setTop (mkF m 94 #[.val (.int ax), .val (.int ay), .val (.int af), .val (.int at_), .val (.ref bb), .val (.int fr), .val (.int to), .unset] [(.int (0 : Int32))]))
    refine own_st (fun _ kont => XS.ifYes X15.here hx rfl (pc0 := 94) (pc' := 103) rfl (hb hby at_94) rfl (by decide) (by decide) (by decide) kont) ?_
    show own_Go p e below s _ _ _ (T15.setTop (mkF m 103 #[.val (.int ax), .val (.int ay), .val (.int af), .val (.int at_), .val (.ref bb), .val (.int fr), .val (.int to), .unset] []))
    refine own_st (fun _ kont => XS.aload X15.here hx rfl (hb hby at_103) rfl rfl kont) ?_
    show own_Go p e below s _ _ _ (T15.setTop (mkF m 105 #[.val (.int ax), .val (.int ay), .val (.int af), .val (.int at_), .val (.ref bb), .val (.int fr), .val (.int to), .unset] [(.ref bb)]))
    refine own_st (fun _ kont => XS.iload X15.here hx rfl (hb hby at_105) rfl kont) ?_
    show own_Go p e below s _ _ _ (T15.setTop (mkF m 107 #[.val (.int ax), .val (.int ay), .val (.int af), .val (.int at_), .val (.ref bb), .val (.int fr), .val (.int to), .unset] [(.int fr), (.ref bb)]))
    refine own_st (fun _ kont => XS.iload X15.here hx rfl (hb hby at_107) rfl kont) ?_
    show own_Go p e below s _ _ _ (T15.setTop (mkF m 109 #[.val (.int ax), .val (.int ay), .val (.int af), .val (.int at_), .val (.ref bb), .val (.int fr), .val (.int to), .unset] [(.int to), (.int fr), (.ref bb)]))
    refine own_st (fun _ kont => XS.iconst X15.here hx rfl (hb hby at_109) kont) ?_
    show own_Go p e below s _ _ _ (T15.setTop (mkF m 110 #[.val (.int ax), .val (.int ay), .val (.int af), .val (.int at_), .val (.ref bb), .val (.int fr), .val (.int to), .unset] [(.int (3 : Int32)), (.int to), (.int fr), (.ref bb)]))
    refine own_cS X15 hx hml hZ hown (hw _ (List.mem_of_getElem? (i := 6) rfl)) (hw _ (List.mem_of_getElem? (i := 7) rfl)) (hw _ (List.mem_of_getElem? (i := 3) rfl)) (hw _ (List.mem_of_getElem? (i := 8) rfl)) (by decide) (own_rm2 l Z a0 hw bb fr to (3 : Int32) fb i t 3 h13 n0 sz13 Vbb_13 hi ht ht6 (by decide) (by decide) (by decide) hi6) eh15 (by decide) (W := 0) (by decide) (g := (mkF m 110 #[.val (.int ax), .val (.int ay), .val (.int af), .val (.int at_), .val (.ref bb), .val (.int fr), .val (.int to), .unset] [(.int (3 : Int32)), (.int to), (.int fr), (.ref bb)])) rfl rfl own_pd1 (argsL := [(.ref bb), (.int fr), (.int to), (.int (3 : Int32))]) (rest := []) rfl rfl rfl (by show 2 * 0 + _ ≤ _; exact Nat.le_of_eq rfl) (hb hby at_110) (by decide) (by decide) ?_
    intro T17 L17 v17 X17 hQ17
    obtain ⟨hd17, eh17, le17⟩ := hQ17
    rcases hd17 with ⟨rfl, hE3⟩ | ⟨rfl, hE3⟩
    · have N17 := own_nil N15 le17
      show own_Go p e below s _ _ _ (T17.setTop (mkF m 113 #[.val (.int ax), .val (.int ay), .val (.int af), .val (.int at_), .val (.ref bb), .val (.int fr), .val (.int to), .unset] [(.int (1 : Int32))]))
      refine own_st (fun _ kont => XS.ifNo X17.here hx rfl (hb hby at_113) rfl (by decide) kont) ?_
      show own_Go p e below s _ _ _ (T17.setTop (mkF m 116 #[.val (.int ax), .val (.int ay), .val (.int af), .val (.int at_), .val (.ref bb), .val (.int fr), .val (.int to), .unset] []))
      refine own_st (fun _ kont => XS.iconst X17.here hx rfl (hb hby at_116) kont) ?_
      show own_Go p e below s _ _ _ (T17.setTop (mkF m 117 #[.val (.int ax), .val (.int ay), .val (.int af), .val (.int at_), .val (.ref bb), .val (.int fr), .val (.int to), .unset] [(.int (3 : Int32))]))
      refine own_st (fun _ kont => XS.istore X17.here hx rfl (hb hby at_117) rfl (l' := #[.val (.int ax), .val (.int ay), .val (.int af), .val (.int at_), .val (.ref bb), .val (.int fr), .val (.int to), .val (.int (3 : Int32))]) rfl kont) ?_
      show own_Go p e below s _ _ _ (T17.setTop (mkF m 119 #[.val (.int ax), .val (.int ay), .val (.int af), .val (.int at_), .val (.ref bb), .val (.int fr), .val (.int to), .val (.int (3 : Int32))] []))
      refine own_st (fun _ kont => XS.goto X17.here hx rfl (pc0 := 119) (pc' := 184) rfl (hb hby at_119) (by decide) (by decide) kont) ?_
      show own_Go p e below s _ _ _ (T17.setTop (mkF m 184 #[.val (.int ax), .val (.int ay), .val (.int af), .val (.int at_), .val (.ref bb), .val (.int fr), .val (.int to), .val (.int (3 : Int32))] []))
      refine own_st (fun _ kont => XS.aload X17.here hx rfl (hb hby at_184) rfl rfl kont) ?_
      show own_Go p e below s _ _ _ (T17.setTop (mkF m 186 #[.val (.int ax), .val (.int ay), .val (.int af), .val (.int at_), .val (.ref bb), .val (.int fr), .val (.int to), .val (.int (3 : Int32))] [(.ref bb)]))
      refine own_st (fun _ kont => XS.iload X17.here hx rfl (hb hby at_186) rfl kont) ?_
      show own_Go p e below s _ _ _ (T17.setTop (mkF m 188 #[.val (.int ax), .val (.int ay), .val (.int af), .val (.int at_), .val (.ref bb), .val (.int fr), .val (.int to), .val (.int (3 : Int32))] [(.int fr), (.ref bb)]))
      refine own_st (fun _ kont => XS.iload X17.here hx rfl (hb hby at_188) rfl kont) ?_
      show own_Go p e below s _ _ _ (T17.setTop (mkF m 190 #[.val (.int ax), .val (.int ay), .val (.int af), .val (.int at_), .val (.ref bb), .val (.int fr), .val (.int to), .val (.int (3 : Int32))] [(.int to), (.int fr), (.ref bb)]))
      refine own_cS X17 hx hml hZ hown (hw _ (List.mem_of_getElem? (i := 9) rfl)) (hw _ (List.mem_of_getElem? (i := 10) rfl)) (hw _ (List.mem_of_getElem? (i := 11) rfl)) (hw _ (List.mem_of_getElem? (i := 12) rfl)) (by decide) (own_rm3 l Z a0 hw bb fr to fb i t h13 n0 sz13 Vbb_13 hi ht ht6 hi6) eh17 (by decide) (W := 0) (by decide) (g := (mkF m 190 #[.val (.int ax), .val (.int ay), .val (.int af), .val (.int at_), .val (.ref bb), .val (.int fr), .val (.int to), .val (.int (3 : Int32))] [(.int to), (.int fr), (.ref bb)])) rfl rfl own_pd2 (argsL := [(.ref bb), (.int fr), (.int to)]) (rest := []) rfl rfl rfl (by show 2 * 0 + _ ≤ _; exact Nat.le_of_eq rfl) (hb hby at_190) (by decide) (by decide) ?_
      intro T18 L18 v18 X18 hQ18
      obtain ⟨⟨z18, rfl, hz18⟩, eh18, le18⟩ := hQ18
      have N18 := own_nil N17 le18
      show own_Go p e below s _ _ _ (T18.setTop (mkF m 193 #[.val (.int ax), .val (.int ay), .val (.int af), .val (.int at_), .val (.ref bb), .val (.int fr), .val (.int to), .val (.int (3 : Int32))] [(.int z18)]))
      refine own_st (fun _ kont => XS.iload X18.here hx rfl (hb hby at_193) rfl kont) ?_
      show own_Go p e below s _ _ _ (T18.setTop (mkF m 195 #[.val (.int ax), .val (.int ay), .val (.int af), .val (.int at_), .val (.ref bb), .val (.int fr), .val (.int to), .val (.int (3 : Int32))] [(.int (3 : Int32)), (.int z18)]))
      have hzz : z18 = (3 : Int32) := by
        apply Int32.toInt_inj.mp
        show _ = (3 : Int)
        rcases hz18 with ⟨j, hj, hEj, hmin⟩ | ⟨-, hno⟩
        · rw [hj]
          have q1 : ¬ 3 < j := fun u => hmin _ u hE3
          have q2 : 2 ≤ j := by obtain ⟨-, r | r⟩ := hEj <;> omega
          rcases (by omega : j = 2 ∨ j = 3) with rfl | rfl
          · exact absurd hEj hE2
          · rfl
        · exact absurd hE3 (hno _)
      show own_Go p e below s _ _ _ (T18.setTop (mkF m 195 #[.val (.int ax), .val (.int ay), .val (.int af), .val (.int at_), .val (.ref bb), .val (.int fr), .val (.int to), .val (.int (3 : Int32))] [(.int (3 : Int32)), (.int z18)]))
      refine own_st (fun _ kont => XS.icmpNo X18.here hx rfl (hb hby at_195) rfl (teq hzz).2 kont) ?_
      show own_Go p e below s _ _ _ (T18.setTop (mkF m 198 #[.val (.int ax), .val (.int ay), .val (.int af), .val (.int at_), .val (.ref bb), .val (.int fr), .val (.int to), .val (.int (3 : Int32))] []))
      refine own_st (fun _ kont => XS.iconst X18.here hx rfl (hb hby at_198) kont) ?_
      show own_Go p e below s _ _ _ (T18.setTop (mkF m 199 #[.val (.int ax), .val (.int ay), .val (.int af), .val (.int at_), .val (.ref bb), .val (.int fr), .val (.int to), .val (.int (3 : Int32))] [(.int (1 : Int32))]))
      refine own_st (fun _ kont => XS.goto X18.here hx rfl (pc0 := 199) (pc' := 203) rfl (hb hby at_199) (by decide) (by decide) kont) ?_
      show own_Go p e below s _ _ _ (T18.setTop (mkF m 203 #[.val (.int ax), .val (.int ay), .val (.int af), .val (.int at_), .val (.ref bb), .val (.int fr), .val (.int to), .val (.int (3 : Int32))] [(.int (1 : Int32))]))
      exact own_endN X18 hx hlk (t := .boolean) hret (by simp) (hb hby at_203) (w := (1 : Int32)) (by decide) ⟨rfl, N18⟩ (by decide) (by decide)
    · have N17 := own_nil N15 le17
      show own_Go p e below s _ _ _ (T17.setTop (mkF m 113 #[.val (.int ax), .val (.int ay), .val (.int af), .val (.int at_), .val (.ref bb), .val (.int fr), .val (.int to), .unset] [(.int (0 : Int32))]))
      refine own_st (fun _ kont => XS.ifYes X17.here hx rfl (pc0 := 113) (pc' := 122) rfl (hb hby at_113) rfl (by decide) (by decide) (by decide) kont) ?_
      show own_Go p e below s _ _ _ (T17.setTop (mkF m 122 #[.val (.int ax), .val (.int ay), .val (.int af), .val (.int at_), .val (.ref bb), .val (.int fr), .val (.int to), .unset] []))
      refine own_st (fun _ kont => XS.aload X17.here hx rfl (hb hby at_122) rfl rfl kont) ?_
      show own_Go p e below s _ _ _ (T17.setTop (mkF m 124 #[.val (.int ax), .val (.int ay), .val (.int af), .val (.int at_), .val (.ref bb), .val (.int fr), .val (.int to), .unset] [(.ref bb)]))
      refine own_st (fun _ kont => XS.iload X17.here hx rfl (hb hby at_124) rfl kont) ?_
      show own_Go p e below s _ _ _ (T17.setTop (mkF m 126 #[.val (.int ax), .val (.int ay), .val (.int af), .val (.int at_), .val (.ref bb), .val (.int fr), .val (.int to), .unset] [(.int fr), (.ref bb)]))
      refine own_st (fun _ kont => XS.iload X17.here hx rfl (hb hby at_126) rfl kont) ?_
      show own_Go p e below s _ _ _ (T17.setTop (mkF m 128 #[.val (.int ax), .val (.int ay), .val (.int af), .val (.int at_), .val (.ref bb), .val (.int fr), .val (.int to), .unset] [(.int to), (.int fr), (.ref bb)]))
      refine own_st (fun _ kont => XS.iconst X17.here hx rfl (hb hby at_128) kont) ?_
      show own_Go p e below s _ _ _ (T17.setTop (mkF m 129 #[.val (.int ax), .val (.int ay), .val (.int af), .val (.int at_), .val (.ref bb), .val (.int fr), .val (.int to), .unset] [(.int (4 : Int32)), (.int to), (.int fr), (.ref bb)]))
      refine own_cS X17 hx hml hZ hown (hw _ (List.mem_of_getElem? (i := 6) rfl)) (hw _ (List.mem_of_getElem? (i := 7) rfl)) (hw _ (List.mem_of_getElem? (i := 3) rfl)) (hw _ (List.mem_of_getElem? (i := 8) rfl)) (by decide) (own_rm2 l Z a0 hw bb fr to (4 : Int32) fb i t 4 h13 n0 sz13 Vbb_13 hi ht ht6 (by decide) (by decide) (by decide) hi6) eh17 (by decide) (W := 0) (by decide) (g := (mkF m 129 #[.val (.int ax), .val (.int ay), .val (.int af), .val (.int at_), .val (.ref bb), .val (.int fr), .val (.int to), .unset] [(.int (4 : Int32)), (.int to), (.int fr), (.ref bb)])) rfl rfl own_pd1 (argsL := [(.ref bb), (.int fr), (.int to), (.int (4 : Int32))]) (rest := []) rfl rfl rfl (by show 2 * 0 + _ ≤ _; exact Nat.le_of_eq rfl) (hb hby at_129) (by decide) (by decide) ?_
      intro T19 L19 v19 X19 hQ19
      obtain ⟨hd19, eh19, le19⟩ := hQ19
      rcases hd19 with ⟨rfl, hE4⟩ | ⟨rfl, hE4⟩
      · have N19 := own_nil N17 le19
        show own_Go p e below s _ _ _ (T19.setTop (mkF m 132 #[.val (.int ax), .val (.int ay), .val (.int af), .val (.int at_), .val (.ref bb), .val (.int fr), .val (.int to), .unset] [(.int (1 : Int32))]))
        refine own_st (fun _ kont => XS.ifNo X19.here hx rfl (hb hby at_132) rfl (by decide) kont) ?_
        show own_Go p e below s _ _ _ (T19.setTop (mkF m 135 #[.val (.int ax), .val (.int ay), .val (.int af), .val (.int at_), .val (.ref bb), .val (.int fr), .val (.int to), .unset] []))
        refine own_st (fun _ kont => XS.iconst X19.here hx rfl (hb hby at_135) kont) ?_
        show own_Go p e below s _ _ _ (T19.setTop (mkF m 136 #[.val (.int ax), .val (.int ay), .val (.int af), .val (.int at_), .val (.ref bb), .val (.int fr), .val (.int to), .unset] [(.int (4 : Int32))]))
        refine own_st (fun _ kont => XS.istore X19.here hx rfl (hb hby at_136) rfl (l' := #[.val (.int ax), .val (.int ay), .val (.int af), .val (.int at_), .val (.ref bb), .val (.int fr), .val (.int to), .val (.int (4 : Int32))]) rfl kont) ?_
        show own_Go p e below s _ _ _ (T19.setTop (mkF m 138 #[.val (.int ax), .val (.int ay), .val (.int af), .val (.int at_), .val (.ref bb), .val (.int fr), .val (.int to), .val (.int (4 : Int32))] []))
        refine own_st (fun _ kont => XS.goto X19.here hx rfl (pc0 := 138) (pc' := 184) rfl (hb hby at_138) (by decide) (by decide) kont) ?_
        show own_Go p e below s _ _ _ (T19.setTop (mkF m 184 #[.val (.int ax), .val (.int ay), .val (.int af), .val (.int at_), .val (.ref bb), .val (.int fr), .val (.int to), .val (.int (4 : Int32))] []))
        refine own_st (fun _ kont => XS.aload X19.here hx rfl (hb hby at_184) rfl rfl kont) ?_
        show own_Go p e below s _ _ _ (T19.setTop (mkF m 186 #[.val (.int ax), .val (.int ay), .val (.int af), .val (.int at_), .val (.ref bb), .val (.int fr), .val (.int to), .val (.int (4 : Int32))] [(.ref bb)]))
        refine own_st (fun _ kont => XS.iload X19.here hx rfl (hb hby at_186) rfl kont) ?_
        show own_Go p e below s _ _ _ (T19.setTop (mkF m 188 #[.val (.int ax), .val (.int ay), .val (.int af), .val (.int at_), .val (.ref bb), .val (.int fr), .val (.int to), .val (.int (4 : Int32))] [(.int fr), (.ref bb)]))
        refine own_st (fun _ kont => XS.iload X19.here hx rfl (hb hby at_188) rfl kont) ?_
        show own_Go p e below s _ _ _ (T19.setTop (mkF m 190 #[.val (.int ax), .val (.int ay), .val (.int af), .val (.int at_), .val (.ref bb), .val (.int fr), .val (.int to), .val (.int (4 : Int32))] [(.int to), (.int fr), (.ref bb)]))
        refine own_cS X19 hx hml hZ hown (hw _ (List.mem_of_getElem? (i := 9) rfl)) (hw _ (List.mem_of_getElem? (i := 10) rfl)) (hw _ (List.mem_of_getElem? (i := 11) rfl)) (hw _ (List.mem_of_getElem? (i := 12) rfl)) (by decide) (own_rm3 l Z a0 hw bb fr to fb i t h13 n0 sz13 Vbb_13 hi ht ht6 hi6) eh19 (by decide) (W := 0) (by decide) (g := (mkF m 190 #[.val (.int ax), .val (.int ay), .val (.int af), .val (.int at_), .val (.ref bb), .val (.int fr), .val (.int to), .val (.int (4 : Int32))] [(.int to), (.int fr), (.ref bb)])) rfl rfl own_pd2 (argsL := [(.ref bb), (.int fr), (.int to)]) (rest := []) rfl rfl rfl (by show 2 * 0 + _ ≤ _; exact Nat.le_of_eq rfl) (hb hby at_190) (by decide) (by decide) ?_
        intro T20 L20 v20 X20 hQ20
        obtain ⟨⟨z20, rfl, hz20⟩, eh20, le20⟩ := hQ20
        have N20 := own_nil N19 le20
        show own_Go p e below s _ _ _ (T20.setTop (mkF m 193 #[.val (.int ax), .val (.int ay), .val (.int af), .val (.int at_), .val (.ref bb), .val (.int fr), .val (.int to), .val (.int (4 : Int32))] [(.int z20)]))
        refine own_st (fun _ kont => XS.iload X20.here hx rfl (hb hby at_193) rfl kont) ?_
        show own_Go p e below s _ _ _ (T20.setTop (mkF m 195 #[.val (.int ax), .val (.int ay), .val (.int af), .val (.int at_), .val (.ref bb), .val (.int fr), .val (.int to), .val (.int (4 : Int32))] [(.int (4 : Int32)), (.int z20)]))
        have hzz : z20 = (4 : Int32) := by
          apply Int32.toInt_inj.mp
          show _ = (4 : Int)
          rcases hz20 with ⟨j, hj, hEj, hmin⟩ | ⟨-, hno⟩
          · rw [hj]
            have q1 : ¬ 4 < j := fun u => hmin _ u hE4
            have q2 : 2 ≤ j := by obtain ⟨-, r | r⟩ := hEj <;> omega
            rcases (by omega : j = 2 ∨ j = 3 ∨ j = 4) with rfl | rfl | rfl
            · exact absurd hEj hE2
            · exact absurd hEj hE3
            · rfl
          · exact absurd hE4 (hno _)
        show own_Go p e below s _ _ _ (T20.setTop (mkF m 195 #[.val (.int ax), .val (.int ay), .val (.int af), .val (.int at_), .val (.ref bb), .val (.int fr), .val (.int to), .val (.int (4 : Int32))] [(.int (4 : Int32)), (.int z20)]))
        refine own_st (fun _ kont => XS.icmpNo X20.here hx rfl (hb hby at_195) rfl (teq hzz).2 kont) ?_
        show own_Go p e below s _ _ _ (T20.setTop (mkF m 198 #[.val (.int ax), .val (.int ay), .val (.int af), .val (.int at_), .val (.ref bb), .val (.int fr), .val (.int to), .val (.int (4 : Int32))] []))
        refine own_st (fun _ kont => XS.iconst X20.here hx rfl (hb hby at_198) kont) ?_
        show own_Go p e below s _ _ _ (T20.setTop (mkF m 199 #[.val (.int ax), .val (.int ay), .val (.int af), .val (.int at_), .val (.ref bb), .val (.int fr), .val (.int to), .val (.int (4 : Int32))] [(.int (1 : Int32))]))
        refine own_st (fun _ kont => XS.goto X20.here hx rfl (pc0 := 199) (pc' := 203) rfl (hb hby at_199) (by decide) (by decide) kont) ?_
        show own_Go p e below s _ _ _ (T20.setTop (mkF m 203 #[.val (.int ax), .val (.int ay), .val (.int af), .val (.int at_), .val (.ref bb), .val (.int fr), .val (.int to), .val (.int (4 : Int32))] [(.int (1 : Int32))]))
        exact own_endN X20 hx hlk (t := .boolean) hret (by simp) (hb hby at_203) (w := (1 : Int32)) (by decide) ⟨rfl, N20⟩ (by decide) (by decide)
      · have N19 := own_nil N17 le19
        show own_Go p e below s _ _ _ (T19.setTop (mkF m 132 #[.val (.int ax), .val (.int ay), .val (.int af), .val (.int at_), .val (.ref bb), .val (.int fr), .val (.int to), .unset] [(.int (0 : Int32))]))
        refine own_st (fun _ kont => XS.ifYes X19.here hx rfl (pc0 := 132) (pc' := 141) rfl (hb hby at_132) rfl (by decide) (by decide) (by decide) kont) ?_
        show own_Go p e below s _ _ _ (T19.setTop (mkF m 141 #[.val (.int ax), .val (.int ay), .val (.int af), .val (.int at_), .val (.ref bb), .val (.int fr), .val (.int to), .unset] []))
        refine own_st (fun _ kont => XS.aload X19.here hx rfl (hb hby at_141) rfl rfl kont) ?_
        show own_Go p e below s _ _ _ (T19.setTop (mkF m 143 #[.val (.int ax), .val (.int ay), .val (.int af), .val (.int at_), .val (.ref bb), .val (.int fr), .val (.int to), .unset] [(.ref bb)]))
        refine own_st (fun _ kont => XS.iload X19.here hx rfl (hb hby at_143) rfl kont) ?_
        show own_Go p e below s _ _ _ (T19.setTop (mkF m 145 #[.val (.int ax), .val (.int ay), .val (.int af), .val (.int at_), .val (.ref bb), .val (.int fr), .val (.int to), .unset] [(.int fr), (.ref bb)]))
        refine own_st (fun _ kont => XS.iload X19.here hx rfl (hb hby at_145) rfl kont) ?_
        show own_Go p e below s _ _ _ (T19.setTop (mkF m 147 #[.val (.int ax), .val (.int ay), .val (.int af), .val (.int at_), .val (.ref bb), .val (.int fr), .val (.int to), .unset] [(.int to), (.int fr), (.ref bb)]))
        refine own_st (fun _ kont => XS.iconst X19.here hx rfl (hb hby at_147) kont) ?_
        show own_Go p e below s _ _ _ (T19.setTop (mkF m 148 #[.val (.int ax), .val (.int ay), .val (.int af), .val (.int at_), .val (.ref bb), .val (.int fr), .val (.int to), .unset] [(.int (5 : Int32)), (.int to), (.int fr), (.ref bb)]))
        refine own_cS X19 hx hml hZ hown (hw _ (List.mem_of_getElem? (i := 6) rfl)) (hw _ (List.mem_of_getElem? (i := 7) rfl)) (hw _ (List.mem_of_getElem? (i := 3) rfl)) (hw _ (List.mem_of_getElem? (i := 8) rfl)) (by decide) (own_rm2 l Z a0 hw bb fr to (5 : Int32) fb i t 5 h13 n0 sz13 Vbb_13 hi ht ht6 (by decide) (by decide) (by decide) hi6) eh19 (by decide) (W := 0) (by decide) (g := (mkF m 148 #[.val (.int ax), .val (.int ay), .val (.int af), .val (.int at_), .val (.ref bb), .val (.int fr), .val (.int to), .unset] [(.int (5 : Int32)), (.int to), (.int fr), (.ref bb)])) rfl rfl own_pd1 (argsL := [(.ref bb), (.int fr), (.int to), (.int (5 : Int32))]) (rest := []) rfl rfl rfl (by show 2 * 0 + _ ≤ _; exact Nat.le_of_eq rfl) (hb hby at_148) (by decide) (by decide) ?_
        intro T21 L21 v21 X21 hQ21
        obtain ⟨hd21, eh21, le21⟩ := hQ21
        rcases hd21 with ⟨rfl, hE5⟩ | ⟨rfl, hE5⟩
        · have N21 := own_nil N19 le21
          show own_Go p e below s _ _ _ (T21.setTop (mkF m 151 #[.val (.int ax), .val (.int ay), .val (.int af), .val (.int at_), .val (.ref bb), .val (.int fr), .val (.int to), .unset] [(.int (1 : Int32))]))
          refine own_st (fun _ kont => XS.ifNo X21.here hx rfl (hb hby at_151) rfl (by decide) kont) ?_
          show own_Go p e below s _ _ _ (T21.setTop (mkF m 154 #[.val (.int ax), .val (.int ay), .val (.int af), .val (.int at_), .val (.ref bb), .val (.int fr), .val (.int to), .unset] []))
          refine own_st (fun _ kont => XS.iconst X21.here hx rfl (hb hby at_154) kont) ?_
          show own_Go p e below s _ _ _ (T21.setTop (mkF m 155 #[.val (.int ax), .val (.int ay), .val (.int af), .val (.int at_), .val (.ref bb), .val (.int fr), .val (.int to), .unset] [(.int (5 : Int32))]))
          refine own_st (fun _ kont => XS.istore X21.here hx rfl (hb hby at_155) rfl (l' := #[.val (.int ax), .val (.int ay), .val (.int af), .val (.int at_), .val (.ref bb), .val (.int fr), .val (.int to), .val (.int (5 : Int32))]) rfl kont) ?_
          show own_Go p e below s _ _ _ (T21.setTop (mkF m 157 #[.val (.int ax), .val (.int ay), .val (.int af), .val (.int at_), .val (.ref bb), .val (.int fr), .val (.int to), .val (.int (5 : Int32))] []))
          refine own_st (fun _ kont => XS.goto X21.here hx rfl (pc0 := 157) (pc' := 184) rfl (hb hby at_157) (by decide) (by decide) kont) ?_
          show own_Go p e below s _ _ _ (T21.setTop (mkF m 184 #[.val (.int ax), .val (.int ay), .val (.int af), .val (.int at_), .val (.ref bb), .val (.int fr), .val (.int to), .val (.int (5 : Int32))] []))
          refine own_st (fun _ kont => XS.aload X21.here hx rfl (hb hby at_184) rfl rfl kont) ?_
          show own_Go p e below s _ _ _ (T21.setTop (mkF m 186 #[.val (.int ax), .val (.int ay), .val (.int af), .val (.int at_), .val (.ref bb), .val (.int fr), .val (.int to), .val (.int (5 : Int32))] [(.ref bb)]))
          refine own_st (fun _ kont => XS.iload X21.here hx rfl (hb hby at_186) rfl kont) ?_
          show own_Go p e below s _ _ _ (T21.setTop (mkF m 188 #[.val (.int ax), .val (.int ay), .val (.int af), .val (.int at_), .val (.ref bb), .val (.int fr), .val (.int to), .val (.int (5 : Int32))] [(.int fr), (.ref bb)]))
          refine own_st (fun _ kont => XS.iload X21.here hx rfl (hb hby at_188) rfl kont) ?_
          show own_Go p e below s _ _ _ (T21.setTop (mkF m 190 #[.val (.int ax), .val (.int ay), .val (.int af), .val (.int at_), .val (.ref bb), .val (.int fr), .val (.int to), .val (.int (5 : Int32))] [(.int to), (.int fr), (.ref bb)]))
          refine own_cS X21 hx hml hZ hown (hw _ (List.mem_of_getElem? (i := 9) rfl)) (hw _ (List.mem_of_getElem? (i := 10) rfl)) (hw _ (List.mem_of_getElem? (i := 11) rfl)) (hw _ (List.mem_of_getElem? (i := 12) rfl)) (by decide) (own_rm3 l Z a0 hw bb fr to fb i t h13 n0 sz13 Vbb_13 hi ht ht6 hi6) eh21 (by decide) (W := 0) (by decide) (g := (mkF m 190 #[.val (.int ax), .val (.int ay), .val (.int af), .val (.int at_), .val (.ref bb), .val (.int fr), .val (.int to), .val (.int (5 : Int32))] [(.int to), (.int fr), (.ref bb)])) rfl rfl own_pd2 (argsL := [(.ref bb), (.int fr), (.int to)]) (rest := []) rfl rfl rfl (by show 2 * 0 + _ ≤ _; exact Nat.le_of_eq rfl) (hb hby at_190) (by decide) (by decide) ?_
          intro T22 L22 v22 X22 hQ22
          obtain ⟨⟨z22, rfl, hz22⟩, eh22, le22⟩ := hQ22
          have N22 := own_nil N21 le22
          show own_Go p e below s _ _ _ (T22.setTop (mkF m 193 #[.val (.int ax), .val (.int ay), .val (.int af), .val (.int at_), .val (.ref bb), .val (.int fr), .val (.int to), .val (.int (5 : Int32))] [(.int z22)]))
          refine own_st (fun _ kont => XS.iload X22.here hx rfl (hb hby at_193) rfl kont) ?_
          show own_Go p e below s _ _ _ (T22.setTop (mkF m 195 #[.val (.int ax), .val (.int ay), .val (.int af), .val (.int at_), .val (.ref bb), .val (.int fr), .val (.int to), .val (.int (5 : Int32))] [(.int (5 : Int32)), (.int z22)]))
          have hzz : z22 = (5 : Int32) := by
            apply Int32.toInt_inj.mp
            show _ = (5 : Int)
            rcases hz22 with ⟨j, hj, hEj, hmin⟩ | ⟨-, hno⟩
            · rw [hj]
              have q1 : ¬ 5 < j := fun u => hmin _ u hE5
              have q2 : 2 ≤ j := by obtain ⟨-, r | r⟩ := hEj <;> omega
              rcases (by omega : j = 2 ∨ j = 3 ∨ j = 4 ∨ j = 5) with rfl | rfl | rfl | rfl
              · exact absurd hEj hE2
              · exact absurd hEj hE3
              · exact absurd hEj hE4
              · rfl
            · exact absurd hE5 (hno _)
          show own_Go p e below s _ _ _ (T22.setTop (mkF m 195 #[.val (.int ax), .val (.int ay), .val (.int af), .val (.int at_), .val (.ref bb), .val (.int fr), .val (.int to), .val (.int (5 : Int32))] [(.int (5 : Int32)), (.int z22)]))
          refine own_st (fun _ kont => XS.icmpNo X22.here hx rfl (hb hby at_195) rfl (teq hzz).2 kont) ?_
          show own_Go p e below s _ _ _ (T22.setTop (mkF m 198 #[.val (.int ax), .val (.int ay), .val (.int af), .val (.int at_), .val (.ref bb), .val (.int fr), .val (.int to), .val (.int (5 : Int32))] []))
          refine own_st (fun _ kont => XS.iconst X22.here hx rfl (hb hby at_198) kont) ?_
          show own_Go p e below s _ _ _ (T22.setTop (mkF m 199 #[.val (.int ax), .val (.int ay), .val (.int af), .val (.int at_), .val (.ref bb), .val (.int fr), .val (.int to), .val (.int (5 : Int32))] [(.int (1 : Int32))]))
          refine own_st (fun _ kont => XS.goto X22.here hx rfl (pc0 := 199) (pc' := 203) rfl (hb hby at_199) (by decide) (by decide) kont) ?_
          show own_Go p e below s _ _ _ (T22.setTop (mkF m 203 #[.val (.int ax), .val (.int ay), .val (.int af), .val (.int at_), .val (.ref bb), .val (.int fr), .val (.int to), .val (.int (5 : Int32))] [(.int (1 : Int32))]))
          exact own_endN X22 hx hlk (t := .boolean) hret (by simp) (hb hby at_203) (w := (1 : Int32)) (by decide) ⟨rfl, N22⟩ (by decide) (by decide)
        · have N21 := own_nil N19 le21
          show own_Go p e below s _ _ _ (T21.setTop (mkF m 151 #[.val (.int ax), .val (.int ay), .val (.int af), .val (.int at_), .val (.ref bb), .val (.int fr), .val (.int to), .unset] [(.int (0 : Int32))]))
          refine own_st (fun _ kont => XS.ifYes X21.here hx rfl (pc0 := 151) (pc' := 160) rfl (hb hby at_151) rfl (by decide) (by decide) (by decide) kont) ?_
          show own_Go p e below s _ _ _ (T21.setTop (mkF m 160 #[.val (.int ax), .val (.int ay), .val (.int af), .val (.int at_), .val (.ref bb), .val (.int fr), .val (.int to), .unset] []))
          refine own_st (fun _ kont => XS.aload X21.here hx rfl (hb hby at_160) rfl rfl kont) ?_
          show own_Go p e below s _ _ _ (T21.setTop (mkF m 162 #[.val (.int ax), .val (.int ay), .val (.int af), .val (.int at_), .val (.ref bb), .val (.int fr), .val (.int to), .unset] [(.ref bb)]))
          refine own_st (fun _ kont => XS.iload X21.here hx rfl (hb hby at_162) rfl kont) ?_
          show own_Go p e below s _ _ _ (T21.setTop (mkF m 164 #[.val (.int ax), .val (.int ay), .val (.int af), .val (.int at_), .val (.ref bb), .val (.int fr), .val (.int to), .unset] [(.int fr), (.ref bb)]))
          refine own_st (fun _ kont => XS.iload X21.here hx rfl (hb hby at_164) rfl kont) ?_
          show own_Go p e below s _ _ _ (T21.setTop (mkF m 166 #[.val (.int ax), .val (.int ay), .val (.int af), .val (.int at_), .val (.ref bb), .val (.int fr), .val (.int to), .unset] [(.int to), (.int fr), (.ref bb)]))
          refine own_st (fun _ kont => XS.bipush X21.here hx rfl (hb hby at_166) kont) ?_
          show own_Go p e below s _ _ _ (T21.setTop (mkF m 168 #[.val (.int ax), .val (.int ay), .val (.int af), .val (.int at_), .val (.ref bb), .val (.int fr), .val (.int to), .unset] [(.int (6 : Int32)), (.int to), (.int fr), (.ref bb)]))
          refine own_cS X21 hx hml hZ hown (hw _ (List.mem_of_getElem? (i := 6) rfl)) (hw _ (List.mem_of_getElem? (i := 7) rfl)) (hw _ (List.mem_of_getElem? (i := 3) rfl)) (hw _ (List.mem_of_getElem? (i := 8) rfl)) (by decide) (own_rm2 l Z a0 hw bb fr to (6 : Int32) fb i t 6 h13 n0 sz13 Vbb_13 hi ht ht6 (by decide) (by decide) (by decide) hi6) eh21 (by decide) (W := 0) (by decide) (g := (mkF m 168 #[.val (.int ax), .val (.int ay), .val (.int af), .val (.int at_), .val (.ref bb), .val (.int fr), .val (.int to), .unset] [(.int (6 : Int32)), (.int to), (.int fr), (.ref bb)])) rfl rfl own_pd1 (argsL := [(.ref bb), (.int fr), (.int to), (.int (6 : Int32))]) (rest := []) rfl rfl rfl (by show 2 * 0 + _ ≤ _; exact Nat.le_of_eq rfl) (hb hby at_168) (by decide) (by decide) ?_
          intro T23 L23 v23 X23 hQ23
          obtain ⟨hd23, eh23, le23⟩ := hQ23
          rcases hd23 with ⟨rfl, hE6⟩ | ⟨rfl, hE6⟩
          · have N23 := own_nil N21 le23
            show own_Go p e below s _ _ _ (T23.setTop (mkF m 171 #[.val (.int ax), .val (.int ay), .val (.int af), .val (.int at_), .val (.ref bb), .val (.int fr), .val (.int to), .unset] [(.int (1 : Int32))]))
            refine own_st (fun _ kont => XS.ifNo X23.here hx rfl (hb hby at_171) rfl (by decide) kont) ?_
            show own_Go p e below s _ _ _ (T23.setTop (mkF m 174 #[.val (.int ax), .val (.int ay), .val (.int af), .val (.int at_), .val (.ref bb), .val (.int fr), .val (.int to), .unset] []))
            refine own_st (fun _ kont => XS.bipush X23.here hx rfl (hb hby at_174) kont) ?_
            show own_Go p e below s _ _ _ (T23.setTop (mkF m 176 #[.val (.int ax), .val (.int ay), .val (.int af), .val (.int at_), .val (.ref bb), .val (.int fr), .val (.int to), .unset] [(.int (6 : Int32))]))
            refine own_st (fun _ kont => XS.istore X23.here hx rfl (hb hby at_176) rfl (l' := #[.val (.int ax), .val (.int ay), .val (.int af), .val (.int at_), .val (.ref bb), .val (.int fr), .val (.int to), .val (.int (6 : Int32))]) rfl kont) ?_
            show own_Go p e below s _ _ _ (T23.setTop (mkF m 178 #[.val (.int ax), .val (.int ay), .val (.int af), .val (.int at_), .val (.ref bb), .val (.int fr), .val (.int to), .val (.int (6 : Int32))] []))
            refine own_st (fun _ kont => XS.goto X23.here hx rfl (pc0 := 178) (pc' := 184) rfl (hb hby at_178) (by decide) (by decide) kont) ?_
            show own_Go p e below s _ _ _ (T23.setTop (mkF m 184 #[.val (.int ax), .val (.int ay), .val (.int af), .val (.int at_), .val (.ref bb), .val (.int fr), .val (.int to), .val (.int (6 : Int32))] []))
            refine own_st (fun _ kont => XS.aload X23.here hx rfl (hb hby at_184) rfl rfl kont) ?_
            show own_Go p e below s _ _ _ (T23.setTop (mkF m 186 #[.val (.int ax), .val (.int ay), .val (.int af), .val (.int at_), .val (.ref bb), .val (.int fr), .val (.int to), .val (.int (6 : Int32))] [(.ref bb)]))
            refine own_st (fun _ kont => XS.iload X23.here hx rfl (hb hby at_186) rfl kont) ?_
            show own_Go p e below s _ _ _ (T23.setTop (mkF m 188 #[.val (.int ax), .val (.int ay), .val (.int af), .val (.int at_), .val (.ref bb), .val (.int fr), .val (.int to), .val (.int (6 : Int32))] [(.int fr), (.ref bb)]))
            refine own_st (fun _ kont => XS.iload X23.here hx rfl (hb hby at_188) rfl kont) ?_
            show own_Go p e below s _ _ _ (T23.setTop (mkF m 190 #[.val (.int ax), .val (.int ay), .val (.int af), .val (.int at_), .val (.ref bb), .val (.int fr), .val (.int to), .val (.int (6 : Int32))] [(.int to), (.int fr), (.ref bb)]))
            refine own_cS X23 hx hml hZ hown (hw _ (List.mem_of_getElem? (i := 9) rfl)) (hw _ (List.mem_of_getElem? (i := 10) rfl)) (hw _ (List.mem_of_getElem? (i := 11) rfl)) (hw _ (List.mem_of_getElem? (i := 12) rfl)) (by decide) (own_rm3 l Z a0 hw bb fr to fb i t h13 n0 sz13 Vbb_13 hi ht ht6 hi6) eh23 (by decide) (W := 0) (by decide) (g := (mkF m 190 #[.val (.int ax), .val (.int ay), .val (.int af), .val (.int at_), .val (.ref bb), .val (.int fr), .val (.int to), .val (.int (6 : Int32))] [(.int to), (.int fr), (.ref bb)])) rfl rfl own_pd2 (argsL := [(.ref bb), (.int fr), (.int to)]) (rest := []) rfl rfl rfl (by show 2 * 0 + _ ≤ _; exact Nat.le_of_eq rfl) (hb hby at_190) (by decide) (by decide) ?_
            intro T24 L24 v24 X24 hQ24
            obtain ⟨⟨z24, rfl, hz24⟩, eh24, le24⟩ := hQ24
            have N24 := own_nil N23 le24
            show own_Go p e below s _ _ _ (T24.setTop (mkF m 193 #[.val (.int ax), .val (.int ay), .val (.int af), .val (.int at_), .val (.ref bb), .val (.int fr), .val (.int to), .val (.int (6 : Int32))] [(.int z24)]))
            refine own_st (fun _ kont => XS.iload X24.here hx rfl (hb hby at_193) rfl kont) ?_
            show own_Go p e below s _ _ _ (T24.setTop (mkF m 195 #[.val (.int ax), .val (.int ay), .val (.int af), .val (.int at_), .val (.ref bb), .val (.int fr), .val (.int to), .val (.int (6 : Int32))] [(.int (6 : Int32)), (.int z24)]))
            have hzz : z24 = (6 : Int32) := by
              apply Int32.toInt_inj.mp
              show _ = (6 : Int)
              rcases hz24 with ⟨j, hj, hEj, hmin⟩ | ⟨-, hno⟩
              · rw [hj]
                have q1 : ¬ 6 < j := fun u => hmin _ u hE6
                have q2 : 2 ≤ j := by obtain ⟨-, r | r⟩ := hEj <;> omega
                rcases (by omega : j = 2 ∨ j = 3 ∨ j = 4 ∨ j = 5 ∨ j = 6) with rfl | rfl | rfl | rfl | rfl
                · exact absurd hEj hE2
                · exact absurd hEj hE3
                · exact absurd hEj hE4
                · exact absurd hEj hE5
                · rfl
              · exact absurd hE6 (hno _)
            show own_Go p e below s _ _ _ (T24.setTop (mkF m 195 #[.val (.int ax), .val (.int ay), .val (.int af), .val (.int at_), .val (.ref bb), .val (.int fr), .val (.int to), .val (.int (6 : Int32))] [(.int (6 : Int32)), (.int z24)]))
            refine own_st (fun _ kont => XS.icmpNo X24.here hx rfl (hb hby at_195) rfl (teq hzz).2 kont) ?_
            show own_Go p e below s _ _ _ (T24.setTop (mkF m 198 #[.val (.int ax), .val (.int ay), .val (.int af), .val (.int at_), .val (.ref bb), .val (.int fr), .val (.int to), .val (.int (6 : Int32))] []))
            refine own_st (fun _ kont => XS.iconst X24.here hx rfl (hb hby at_198) kont) ?_
            show own_Go p e below s _ _ _ (T24.setTop (mkF m 199 #[.val (.int ax), .val (.int ay), .val (.int af), .val (.int at_), .val (.ref bb), .val (.int fr), .val (.int to), .val (.int (6 : Int32))] [(.int (1 : Int32))]))
            refine own_st (fun _ kont => XS.goto X24.here hx rfl (pc0 := 199) (pc' := 203) rfl (hb hby at_199) (by decide) (by decide) kont) ?_
            show own_Go p e below s _ _ _ (T24.setTop (mkF m 203 #[.val (.int ax), .val (.int ay), .val (.int af), .val (.int at_), .val (.ref bb), .val (.int fr), .val (.int to), .val (.int (6 : Int32))] [(.int (1 : Int32))]))
            exact own_endN X24 hx hlk (t := .boolean) hret (by simp) (hb hby at_203) (w := (1 : Int32)) (by decide) ⟨rfl, N24⟩ (by decide) (by decide)
          · have N23 := own_nil N21 le23
            show own_Go p e below s _ _ _ (T23.setTop (mkF m 171 #[.val (.int ax), .val (.int ay), .val (.int af), .val (.int at_), .val (.ref bb), .val (.int fr), .val (.int to), .unset] [(.int (0 : Int32))]))
            refine own_st (fun _ kont => XS.ifYes X23.here hx rfl (pc0 := 171) (pc' := 181) rfl (hb hby at_171) rfl (by decide) (by decide) (by decide) kont) ?_
            show own_Go p e below s _ _ _ (T23.setTop (mkF m 181 #[.val (.int ax), .val (.int ay), .val (.int af), .val (.int at_), .val (.ref bb), .val (.int fr), .val (.int to), .unset] []))
            refine own_st (fun _ kont => XS.iconst X23.here hx rfl (hb hby at_181) kont) ?_
            show own_Go p e below s _ _ _ (T23.setTop (mkF m 182 #[.val (.int ax), .val (.int ay), .val (.int af), .val (.int at_), .val (.ref bb), .val (.int fr), .val (.int to), .unset] [(.int (-1 : Int32))]))
            refine own_st (fun _ kont => XS.istore X23.here hx rfl (hb hby at_182) rfl (l' := #[.val (.int ax), .val (.int ay), .val (.int af), .val (.int at_), .val (.ref bb), .val (.int fr), .val (.int to), .val (.int (-1 : Int32))]) rfl kont) ?_
            show own_Go p e below s _ _ _ (T23.setTop (mkF m 184 #[.val (.int ax), .val (.int ay), .val (.int af), .val (.int at_), .val (.ref bb), .val (.int fr), .val (.int to), .val (.int (-1 : Int32))] []))
            refine own_st (fun _ kont => XS.aload X23.here hx rfl (hb hby at_184) rfl rfl kont) ?_
            show own_Go p e below s _ _ _ (T23.setTop (mkF m 186 #[.val (.int ax), .val (.int ay), .val (.int af), .val (.int at_), .val (.ref bb), .val (.int fr), .val (.int to), .val (.int (-1 : Int32))] [(.ref bb)]))
            refine own_st (fun _ kont => XS.iload X23.here hx rfl (hb hby at_186) rfl kont) ?_
            show own_Go p e below s _ _ _ (T23.setTop (mkF m 188 #[.val (.int ax), .val (.int ay), .val (.int af), .val (.int at_), .val (.ref bb), .val (.int fr), .val (.int to), .val (.int (-1 : Int32))] [(.int fr), (.ref bb)]))
            refine own_st (fun _ kont => XS.iload X23.here hx rfl (hb hby at_188) rfl kont) ?_
            show own_Go p e below s _ _ _ (T23.setTop (mkF m 190 #[.val (.int ax), .val (.int ay), .val (.int af), .val (.int at_), .val (.ref bb), .val (.int fr), .val (.int to), .val (.int (-1 : Int32))] [(.int to), (.int fr), (.ref bb)]))
            refine own_cS X23 hx hml hZ hown (hw _ (List.mem_of_getElem? (i := 9) rfl)) (hw _ (List.mem_of_getElem? (i := 10) rfl)) (hw _ (List.mem_of_getElem? (i := 11) rfl)) (hw _ (List.mem_of_getElem? (i := 12) rfl)) (by decide) (own_rm3 l Z a0 hw bb fr to fb i t h13 n0 sz13 Vbb_13 hi ht ht6 hi6) eh23 (by decide) (W := 0) (by decide) (g := (mkF m 190 #[.val (.int ax), .val (.int ay), .val (.int af), .val (.int at_), .val (.ref bb), .val (.int fr), .val (.int to), .val (.int (-1 : Int32))] [(.int to), (.int fr), (.ref bb)])) rfl rfl own_pd2 (argsL := [(.ref bb), (.int fr), (.int to)]) (rest := []) rfl rfl rfl (by show 2 * 0 + _ ≤ _; exact Nat.le_of_eq rfl) (hb hby at_190) (by decide) (by decide) ?_
            intro T25 L25 v25 X25 hQ25
            obtain ⟨⟨z25, rfl, hz25⟩, eh25, le25⟩ := hQ25
            have N25 := own_nil N23 le25
            show own_Go p e below s _ _ _ (T25.setTop (mkF m 193 #[.val (.int ax), .val (.int ay), .val (.int af), .val (.int at_), .val (.ref bb), .val (.int fr), .val (.int to), .val (.int (-1 : Int32))] [(.int z25)]))
            refine own_st (fun _ kont => XS.iload X25.here hx rfl (hb hby at_193) rfl kont) ?_
            show own_Go p e below s _ _ _ (T25.setTop (mkF m 195 #[.val (.int ax), .val (.int ay), .val (.int af), .val (.int at_), .val (.ref bb), .val (.int fr), .val (.int to), .val (.int (-1 : Int32))] [(.int (-1 : Int32)), (.int z25)]))
            have hzz : z25 = (-1 : Int32) := by
              apply Int32.toInt_inj.mp
              show _ = (-1 : Int)
              rcases hz25 with ⟨j, hj, hEj, hmin⟩ | ⟨hm, -⟩
              · have q2 : 2 ≤ j := by obtain ⟨-, r | r⟩ := hEj <;> omega
                have q3 : j ≤ 6 := by have := hEj.1; omega
                rcases (by omega : j = 2 ∨ j = 3 ∨ j = 4 ∨ j = 5 ∨ j = 6) with rfl | rfl | rfl | rfl | rfl
                · exact absurd hEj hE2
                · exact absurd hEj hE3
                · exact absurd hEj hE4
                · exact absurd hEj hE5
                · exact absurd hEj hE6
              · exact hm
            show own_Go p e below s _ _ _ (T25.setTop (mkF m 195 #[.val (.int ax), .val (.int ay), .val (.int af), .val (.int at_), .val (.ref bb), .val (.int fr), .val (.int to), .val (.int (-1 : Int32))] [(.int (-1 : Int32)), (.int z25)]))
            refine own_st (fun _ kont => XS.icmpNo X25.here hx rfl (hb hby at_195) rfl (teq hzz).2 kont) ?_
            show own_Go p e below s _ _ _ (T25.setTop (mkF m 198 #[.val (.int ax), .val (.int ay), .val (.int af), .val (.int at_), .val (.ref bb), .val (.int fr), .val (.int to), .val (.int (-1 : Int32))] []))
            refine own_st (fun _ kont => XS.iconst X25.here hx rfl (hb hby at_198) kont) ?_
            show own_Go p e below s _ _ _ (T25.setTop (mkF m 199 #[.val (.int ax), .val (.int ay), .val (.int af), .val (.int at_), .val (.ref bb), .val (.int fr), .val (.int to), .val (.int (-1 : Int32))] [(.int (1 : Int32))]))
            refine own_st (fun _ kont => XS.goto X25.here hx rfl (pc0 := 199) (pc' := 203) rfl (hb hby at_199) (by decide) (by decide) kont) ?_
            show own_Go p e below s _ _ _ (T25.setTop (mkF m 203 #[.val (.int ax), .val (.int ay), .val (.int af), .val (.int at_), .val (.ref bb), .val (.int fr), .val (.int to), .val (.int (-1 : Int32))] [(.int (1 : Int32))]))
            exact own_endN X25 hx hlk (t := .boolean) hret (by simp) (hb hby at_203) (w := (1 : Int32)) (by decide) ⟨rfl, N25⟩ (by decide) (by decide)
set_option maxRecDepth 65536 in
set_option maxHeartbeats 40000000 in
theorem own_comes {Post : Tables → Env → Array Value → State → Outcome → State → Prop} (hpost : ∀ tb e args s v u, (limb_1_1.after args s (.returned v) u = true ∧ limb_1_2.after args s (.returned v) u = true ∧ True) → FrameEnd s (.returned v) u (Jvm.fieldLocs frame_1_writes args s ++ Jvm.arrayLocs frame_1_arrays args s ++ Jvm.staticLocs frame_1_statics s) 16 128 → Post tb e args s (.returned v) u) :
    ArmFor flags0 classFile x code maxLocals ret World_1 tables_1 room_1 Calls_1 rest_1 Pre_1 Post := by
  intro l hfl _ _ p e ha hc hk s m args below hf hA hF happ hP
  obtain ⟨hcalls, hrest, hpre⟩ := hP
  obtain ⟨-, -, -, hnamed, -, -, -, hat⟩ := (Spec.applies_iff hf).mp happ
  obtain ⟨hg, hn⟩ := and_e (Cond.before_iff.mp (show (Jvm.Cond.and given_1 narrow_1).before args s = true from hpre))
  obtain ⟨gc, r0⟩ := and_e hg
  obtain ⟨k0, r1⟩ := and_e r0
  obtain ⟨k1, r2⟩ := and_e r1
  obtain ⟨k2, r3⟩ := and_e r2
  obtain ⟨w0, w1, w2, w3, rfl⟩ : ∃ w0 w1 w2 w3 : Value, args = #[w0, w1, w2, w3] := by
    have hs : args.size = 4 := by simpa [Cond.value, given_1] using gc
    obtain ⟨L⟩ := args
    match L, hs with
    | [w0, w1, w2, w3], _ => exact ⟨w0, w1, w2, w3, rfl⟩
  have hw := fun d (hd : d ∈ tables_1) => atoms_spec (ws := Jvm.Cond.code x code maxLocals ret :: tables_1) hat d (List.mem_cons_of_mem _ hd)
  obtain ⟨i0, ei0⟩ := is_v k0
  obtain rfl : w0 = (.int i0) := Option.some.inj ei0
  obtain ⟨i1, ei1⟩ := is_v k1
  obtain rfl : w1 = (.int i1) := Option.some.inj ei1
  obtain ⟨i2, ei2⟩ := is_v k2
  obtain rfl : w2 = (.int i2) := Option.some.inj ei2
  obtain ⟨i3, ei3⟩ := is_v r3
  obtain rfl : w3 = (.int i3) := Option.some.inj ei3
  obtain ⟨n, o, h1, h2, h3, _, L, rfl, ⟨rfl, N⟩, hq⟩ := own_rm0 l s _ hw i0 i1 i2 i3 s.heap s.heap.size (Nat.le_refl _)  tables_1 p e ha hc hk s m _ below hf ((Spec.applies_iff_loose hf).mp happ).1 ⟨rfl, State.Warmed39.refl s, rfl⟩ trivial
  refine ⟨n, _, h1, h2, h3, hpost _ _ _ _ _ _ ⟨Cond.after_iff.mpr rfl, Cond.after_iff.mpr (eq_i res_at (Term.int_eval (1)) rfl), trivial⟩ ⟨hq.1, hq.2.1, (hq.2.2.sift fun y hy => Or.inr (N y hy)).mono (by decide) (by decide)⟩⟩
theorem main_1_1 : Claimed_1_1 := own_comes fun _ _ _ _ _ _ h hF => ⟨h.1, hF⟩
theorem main_1_2 : Claimed_1_2 := own_comes fun _ _ _ _ _ _ h hF => ⟨h.2.1, hF⟩
end Jvm.Pilot.@@N@@
namespace Jvm.Pilot.@@N@@
open Jvm Jvm.ClassFile Sem Op Lib Jvm.Free Jvm.Stand Jvm.Pilot.@@N@@.Jvm.D
/-! MADE BY PROGRAM (witnessworld.py) out of the Statement's table words and the real class files: 9 classes; the members and pool entries that the words name. The judged class is class 1, her method 3. -/
namespace start1
open Jvm.ClassFile
def u (s : String) : CpInfo := .utf8 (stringToUtf16 s)
/-- a pool by its gaps: so many unusable entries, then the entry; so many at the end -/
def gap : Nat → List CpInfo → List CpInfo
  | 0, r => r
  | n + 1, r => .unusable :: gap n r
def poolList (es : List (Nat × CpInfo)) (last : Nat) : List CpInfo := es.foldr (fun e r => gap e.1 (e.2 :: r)) (gap last [])
def pool (es : List (Nat × CpInfo)) (last : Nat) : Array CpInfo := ⟨poolList es last⟩
def fileOf (pool : Array CpInfo) (this : Nat) (attrs : Array Attribute := #[]) (ms : Array MethodInfo := #[]) (fl : Nat := 33) (sup : Nat := 0) (ifs : Array Nat := #[]) (fds : Array FieldInfo := #[]) : ClassFile where
  minorVersion := 0
  majorVersion := 65
  constantPool := pool
  accessFlags := fl
  thisClass := this
  superClass := sup
  interfaces := ifs
  fields := fds
  methods := ms
  attributes := attrs
def plain (name : String) (sup : Option ClassId) : Class where
  name := name
  kind := .ordinary
  loader := none
  accessFlags := 33
  super := sup
  interfaces := #[]
  cf := none
  fields := #[]
  methods := #[]
  instanceTypes := #[]
  staticTypes := #[]
  resolved := #[]
  callSites := []
  init := .initialized
  statics := none
  mirror := none

def pool0 : Array CpInfo := pool [(5, u "<init>"), (0, u "()V"), (1, .class_ 10), (1, u "java/lang/Object")] 113

def k0m0 : Method := { name := "<init>", desc := "()V", sig := { parameters := [], returnType := none }, accessFlags := 1, code := none }
/-- java/lang/Object -/
def k0 : Class := { plain "java/lang/Object" none with
  accessFlags := 33
  interfaces := #[]
  cf := some (fileOf pool0 8 #[] #[{ accessFlags := 1, nameIndex := 5, descriptorIndex := 6, attributes := #[] }] 33 0 #[] #[])
  fields := #[]
  methods := #[k0m0]
  instanceTypes := #[]
  staticTypes := #[]
  resolved := Array.replicate 124 none
  statics := none }

def pool1 : Array CpInfo := pool [(2, .class_ 4), (1, u "java/lang/Object"), (0, u "<init>"), (0, u "()V"), (0, .methodref 8 9), (0, .class_ 10), (0, .nameAndType 11 12), (0, u "com/example/prudent_queue/prudentqueue/http/RequestHeadEndPinLaw"), (0, u "byteOf"), (0, u "(I)B"), (0, .integer 2147483647), (0, .methodref 8 15), (0, .nameAndType 16 17), (0, u "endsAt"), (0, u "([BIII)Z"), (0, .methodref 19 20), (0, .class_ 21), (0, .nameAndType 22 23), (0, u "com/example/prudent_queue/prudentqueue/http/RequestHead"), (0, u "end"), (0, u "([BII)I"), (3, u "law"), (0, u "(IIII)Z")] 4

def k1m0 : Method := { name := "<init>", desc := "()V", sig := { parameters := [], returnType := none }, accessFlags := 1, code := none }
def k1c1 : Code := { maxStack := 2, maxLocals := 2, code := method_2_code, exceptionTable := #[], attributes := #[] }
def k1m1 : Method := { name := "byteOf", desc := "(I)B", sig := { parameters := [.int], returnType := some .byte }, accessFlags := 10, code := some k1c1 }
def k1c2 : Code := { maxStack := 3, maxLocals := 6, code := method_3_code, exceptionTable := #[], attributes := #[] }
def k1m2 : Method := { name := "endsAt", desc := "([BIII)Z", sig := { parameters := [(.array .byte), .int, .int, .int], returnType := some .boolean }, accessFlags := 10, code := some k1c2 }
def k1c3 : Code := { maxStack := 4, maxLocals := 8, code := code, exceptionTable := #[], attributes := #[] }
def k1m3 : Method := { name := "law", desc := "(IIII)Z", sig := { parameters := [.int, .int, .int, .int], returnType := some .boolean }, accessFlags := 9, code := some k1c3 }
/-- com/example/prudent_queue/prudentqueue/http/RequestHeadEndPinLaw -/
def k1 : Class := { plain "com/example/prudent_queue/prudentqueue/http/RequestHeadEndPinLaw" (some 0) with
  accessFlags := 49
  interfaces := #[]
  cf := some (fileOf pool1 8 #[] #[{ accessFlags := 1, nameIndex := 5, descriptorIndex := 6, attributes := #[] }, { accessFlags := 10, nameIndex := 11, descriptorIndex := 12, attributes := #[] }, { accessFlags := 10, nameIndex := 16, descriptorIndex := 17, attributes := #[] }, { accessFlags := 9, nameIndex := 27, descriptorIndex := 28, attributes := #[] }] 49 2 #[] #[])
  fields := #[]
  methods := #[k1m0, k1m1, k1m2, k1m3]
  instanceTypes := #[]
  staticTypes := #[]
  resolved := Array.replicate 33 none
  statics := none }

def pool2 : Array CpInfo := pool [(2, .class_ 4), (1, u "java/lang/Object"), (3, .class_ 10), (1, u "com/example/prudent_queue/prudentqueue/http/RequestHead"), (0, u "method"), (0, u "Ljava/lang/String;"), (2, u "path"), (2, u "rawQuery"), (2, u "http10"), (0, u "Z"), (2, u "contentLength"), (0, u "J"), (2, u "chunked"), (2, u "expectsContinue"), (2, u "closeAsked"), (199, u "UNREAD"), (0, u "Lcom/example/prudent_queue/prudentqueue/http/RequestHead;"), (0, u "NO_LENGTH"), (1, u "TOKEN_SYMBOLS"), (2, u "end"), (0, u "([BII)I")] 41

def k2c0 : Code := { maxStack := 3, maxLocals := 4, code := prog_10_method_3_code, exceptionTable := #[], attributes := #[] }
def k2m0 : Method := { name := "end", desc := "([BII)I", sig := { parameters := [(.array .byte), .int, .int], returnType := some .int }, accessFlags := 8, code := some k2c0 }
/-- com/example/prudent_queue/prudentqueue/http/RequestHead -/
def k2 : Class := { plain "com/example/prudent_queue/prudentqueue/http/RequestHead" (some 0) with
  accessFlags := 48
  interfaces := #[]
  cf := some (fileOf pool2 8 #[] #[{ accessFlags := 8, nameIndex := 242, descriptorIndex := 243, attributes := #[] }] 48 2 #[] #[{ accessFlags := 24, nameIndex := 237, descriptorIndex := 26, attributes := #[] }, { accessFlags := 24, nameIndex := 235, descriptorIndex := 236, attributes := #[] }, { accessFlags := 26, nameIndex := 239, descriptorIndex := 12, attributes := #[] }, { accessFlags := 18, nameIndex := 11, descriptorIndex := 12, attributes := #[] }, { accessFlags := 18, nameIndex := 15, descriptorIndex := 12, attributes := #[] }, { accessFlags := 18, nameIndex := 18, descriptorIndex := 12, attributes := #[] }, { accessFlags := 18, nameIndex := 21, descriptorIndex := 22, attributes := #[] }, { accessFlags := 18, nameIndex := 25, descriptorIndex := 26, attributes := #[] }, { accessFlags := 18, nameIndex := 29, descriptorIndex := 22, attributes := #[] }, { accessFlags := 18, nameIndex := 32, descriptorIndex := 22, attributes := #[] }, { accessFlags := 18, nameIndex := 35, descriptorIndex := 22, attributes := #[] }])
  fields := #[{ name := "NO_LENGTH", type := .long, accessFlags := 24, slot := 0, constantValue := 0 }, { name := "UNREAD", type := (.object "com/example/prudent_queue/prudentqueue/http/RequestHead"), accessFlags := 24, slot := 1, constantValue := 0 }, { name := "TOKEN_SYMBOLS", type := (.object "java/lang/String"), accessFlags := 26, slot := 2, constantValue := 0 }, { name := "method", type := (.object "java/lang/String"), accessFlags := 18, slot := 0, constantValue := 0 }, { name := "path", type := (.object "java/lang/String"), accessFlags := 18, slot := 1, constantValue := 0 }, { name := "rawQuery", type := (.object "java/lang/String"), accessFlags := 18, slot := 2, constantValue := 0 }, { name := "http10", type := .boolean, accessFlags := 18, slot := 3, constantValue := 0 }, { name := "contentLength", type := .long, accessFlags := 18, slot := 4, constantValue := 0 }, { name := "chunked", type := .boolean, accessFlags := 18, slot := 5, constantValue := 0 }, { name := "expectsContinue", type := .boolean, accessFlags := 18, slot := 6, constantValue := 0 }, { name := "closeAsked", type := .boolean, accessFlags := 18, slot := 7, constantValue := 0 }]
  methods := #[k2m0]
  instanceTypes := #[(.object "java/lang/String"), (.object "java/lang/String"), (.object "java/lang/String"), .boolean, .long, .boolean, .boolean, .boolean]
  staticTypes := #[.long, (.object "com/example/prudent_queue/prudentqueue/http/RequestHead"), (.object "java/lang/String")]
  resolved := Array.replicate 285 none
  statics := none }

def pool3 : Array CpInfo := pool [(1, u "java/lang/Cloneable"), (0, .class_ 1), (0, u "java/lang/Object"), (0, .class_ 3)] 3

/-- java/lang/Cloneable -/
def k3 : Class := { plain "java/lang/Cloneable" (some 0) with
  accessFlags := 1537
  interfaces := #[]
  cf := some (fileOf pool3 2 #[] #[] 1537 4 #[] #[])
  fields := #[]
  methods := #[]
  instanceTypes := #[]
  staticTypes := #[]
  resolved := Array.replicate 8 none
  statics := none }

def pool4 : Array CpInfo := pool [(1, u "java/io/Serializable"), (0, .class_ 1), (0, u "java/lang/Object"), (0, .class_ 3)] 3

/-- java/io/Serializable -/
def k4 : Class := { plain "java/io/Serializable" (some 0) with
  accessFlags := 1537
  interfaces := #[]
  cf := some (fileOf pool4 2 #[] #[] 1537 4 #[] #[])
  fields := #[]
  methods := #[]
  instanceTypes := #[]
  staticTypes := #[]
  resolved := Array.replicate 8 none
  statics := none }

/-- the primitive byte -/
def k5 : Class := { plain "byte" none with kind := .primitive 'B', accessFlags := 0x411 }
/-- [B -/
def k6 : Class := { plain "[B" (some 0) with kind := .array 5 .byte, interfaces := #[3, 4], accessFlags := 1041 }

/-- the primitive int -/
def k7 : Class := { plain "int" none with kind := .primitive 'I', accessFlags := 0x411 }
/-- [I -/
def k8 : Class := { plain "[I" (some 0) with kind := .array 7 .int, interfaces := #[3, 4], accessFlags := 1041 }

def heap : Heap := #[]
def classes : Array Class := #[k0, k1, k2, k3, k4, k5, k6, k7, k8]
def interned : List (Array UInt16 × Addr) := []
def slotsUsed : Nat := 0
def theMethod : MethodId := ⟨1, 3⟩
def args0 : Array Value := #[.int 49, .int 50, .int 4, .int 60]
def aboutOver (below : List Frame) : State where
  vm := { classes := classes, interned := interned.toArray }
  heap := heap
  slotsUsed := slotsUsed
  threads := #[{ frames := .invoking theMethod args0 :: below }]
def below0 : List Frame := [.native { method := ⟨0, 0⟩, args := #[] }]
def about1 : State := aboutOver below0
def p0 : Program := .bare "" "" ""
def e0 : Env := launch0.env 0 0 0
theorem w_frames : about1.frames = Frame.invoking theMethod args0 :: below0 := rfl
set_option maxRecDepth 65536 in
theorem w_args : argsFit about1.vm theMethod args0 = true := by decide +kernel
set_option maxRecDepth 65536 in
theorem w_heap : heapFits about1 = true := by decide +kernel
set_option maxRecDepth 65536 in
theorem w_runnable : about1.curStatus? = some .runnable := by decide +kernel
set_option maxRecDepth 65536 in
theorem w_alone : about1.alone = true := by decide +kernel
set_option maxRecDepth 65536 in
theorem w_named : about1.methodNamed? x = some theMethod := by decide +kernel
set_option maxRecDepth 65536 in
theorem w_hears : about1.hears theMethod below0 = true := by decide +kernel
set_option maxRecDepth 65536 in
theorem w_ripe : about1.ripe theMethod args0 below0 = true := by decide +kernel
theorem w_running : about1.status = .running := rfl
set_option maxRecDepth 65536 in
theorem w_room : about1.hasRoom e0.platform room_1 = true :=
  launch0.hasRoom_least _ room_1 (by decide +kernel) (by decide +kernel) (by decide +kernel) (by decide +kernel) (by decide +kernel) (by decide +kernel)
theorem allAtoms_all (ts : List Jvm.Cond) (a : Array Jvm.Value) (st : Jvm.State) : (allAtoms ts).before a st = ts.all (fun c => c.before a st) := by
  induction ts with
  | nil => rfl
  | cons c t ih =>
    show (Jvm.Cond.and c (allAtoms t)).before a st = _
    rw [Jvm.Cond.before_and, ih, List.all_cons]
def words1 : List Jvm.Cond := Jvm.Cond.code x code maxLocals ret :: tables_1
/-- a 'code' word, met by the world's own term for the bytes: nothing is compared byte by byte -/
theorem code_word {y : MethodName} {bytes : ByteArray} {mx : Nat} {rt : Option FieldType} {a : Array Value} {s : State} {m : MethodId} {meth : Method} {c : Code} (h1 : s.methodNamed? y = some m) (h2 : s.vm.method? m = some meth) (h3 : meth.code = some c) (h4 : c.code = bytes)
    (h5 : (c.maxLocals == mx && c.exceptionTable.isEmpty && decide (c.maxStack ≤ mostOperands) && decide (meth.sig.returnType = rt) && !meth.locks && decide (parseMethodDescriptor y.desc = some meth.sig)) = true) : (Jvm.Cond.code y bytes mx rt).before a s = true := by
  simp only [Bool.and_eq_true, beq_iff_eq, Bool.not_eq_true', decide_eq_true_eq] at h5
  obtain ⟨⟨⟨⟨⟨g1, g2⟩, g3⟩, g4⟩, g5⟩, g6⟩ := h5
  simp [Cond.before, Cond.holds, Cond.value, h1, h2, h3, h4, g1, g2, g3, g4, g5, g6]
def isCode : Jvm.Cond → Bool
  | .code _ _ _ _ => true
  | _ => false
theorem all_split {L : List Jvm.Cond} {P : Jvm.Cond → Bool} (h1 : L.all (fun c => isCode c || P c) = true) (h2 : ∀ c ∈ L.filter isCode, P c = true) : L.all P = true := by
  refine List.all_eq_true.mpr fun c hc => ?_
  have h := List.all_eq_true.mp h1 c hc
  rcases Bool.eq_false_or_eq_true (isCode c) with hi | hi
  · exact h2 c (List.mem_filter.mpr ⟨hc, hi⟩)
  · simpa [hi] using h
set_option maxRecDepth 65536 in
theorem w_c0 : (Jvm.Cond.code x code maxLocals ret).before args0 about1 = true := code_word (m := ⟨1, 3⟩) (meth := k1m3) (c := k1c3) (by decide +kernel) rfl rfl rfl (by decide +kernel)
set_option maxRecDepth 65536 in
theorem w_c1 : (Jvm.Cond.code ({ cls := "com/example/prudent_queue/prudentqueue/http/RequestHeadEndPinLaw", name := "byteOf", desc := "(I)B" } : Jvm.MethodName) method_2_code (2 : Nat) (Option.some Jvm.ClassFile.FieldType.byte)).before args0 about1 = true := code_word (m := ⟨1, 1⟩) (meth := k1m1) (c := k1c1) (by decide +kernel) rfl rfl rfl (by decide +kernel)
set_option maxRecDepth 65536 in
theorem w_c2 : (Jvm.Cond.code ({ cls := "com/example/prudent_queue/prudentqueue/http/RequestHeadEndPinLaw", name := "endsAt", desc := "([BIII)Z" } : Jvm.MethodName) method_3_code (6 : Nat) (Option.some Jvm.ClassFile.FieldType.boolean)).before args0 about1 = true := code_word (m := ⟨1, 2⟩) (meth := k1m2) (c := k1c2) (by decide +kernel) rfl rfl rfl (by decide +kernel)
set_option maxRecDepth 65536 in
theorem w_c3 : (Jvm.Cond.code ({ cls := "com/example/prudent_queue/prudentqueue/http/RequestHead", name := "end", desc := "([BII)I" } : Jvm.MethodName) prog_10_method_3_code (4 : Nat) (Option.some Jvm.ClassFile.FieldType.int)).before args0 about1 = true := code_word (m := ⟨2, 0⟩) (meth := k2m0) (c := k2c0) (by decide +kernel) rfl rfl rfl (by decide +kernel)
def codes1 : List Jvm.Cond := [Jvm.Cond.code x code maxLocals ret, Jvm.Cond.code ({ cls := "com/example/prudent_queue/prudentqueue/http/RequestHeadEndPinLaw", name := "byteOf", desc := "(I)B" } : Jvm.MethodName) method_2_code (2 : Nat) (Option.some Jvm.ClassFile.FieldType.byte), Jvm.Cond.code ({ cls := "com/example/prudent_queue/prudentqueue/http/RequestHeadEndPinLaw", name := "endsAt", desc := "([BIII)Z" } : Jvm.MethodName) method_3_code (6 : Nat) (Option.some Jvm.ClassFile.FieldType.boolean), Jvm.Cond.code ({ cls := "com/example/prudent_queue/prudentqueue/http/RequestHead", name := "end", desc := "([BII)I" } : Jvm.MethodName) prog_10_method_3_code (4 : Nat) (Option.some Jvm.ClassFile.FieldType.int)]
set_option maxRecDepth 65536 in
theorem codes_eq : words1.filter isCode = codes1 := rfl
theorem w_codes : ∀ c ∈ words1.filter isCode, c.before args0 about1 = true := by
  rw [codes_eq]
  intro c hc
  simp only [codes1, List.mem_cons, List.not_mem_nil, or_false] at hc
  rcases hc with rfl | rfl | rfl | rfl
  · exact w_c0
  · exact w_c1
  · exact w_c2
  · exact w_c3
set_option maxRecDepth 65536 in
theorem w_t1 : words1.all (fun c => isCode c || c.before args0 about1) = true := by decide +kernel
theorem w_tables : (allAtoms (Jvm.Cond.code x code maxLocals ret :: tables_1)).before args0 about1 = true := by
  rw [allAtoms_all]
  show words1.all (fun c => c.before args0 about1) = true
  refine all_split ?_ w_codes
  rw [w_t1]
set_option maxRecDepth 65536 in
theorem w_case : (Jvm.Cond.and given_1 narrow_1).before args0 about1 = true := by decide +kernel
theorem w_applies : (headSpec (Jvm.Cond.code x code maxLocals ret :: tables_1) room_1).applies x e0.platform about1 = true :=
  (Spec.applies_iff w_frames).mpr ⟨w_running, w_runnable, w_alone, w_named, w_hears, w_ripe, w_room, w_tables⟩
theorem atStart : AtStart classFile x code maxLocals ret World_1 tables_1 room_1 Calls_1 rest_1 Pre_1 launch0 p0 e0 about1 theMethod args0 below0 :=
  ⟨lists_1, trivial, launch0.admits_env _ _ _, launch0.least_env, fairChoices_fair.cas, fairChoices_fair.clock, w_frames, w_args, w_heap, w_applies, trivial, trivial, w_case⟩
end start1
theorem witness_1 : WitnessClaimed_1 := ⟨start1.p0, start1.e0, start1.about1, start1.theMethod, start1.args0, start1.below0, start1.atStart⟩
end Jvm.Pilot.@@N@@
