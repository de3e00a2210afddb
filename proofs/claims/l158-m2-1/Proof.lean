import JvmDerived
import JvmDerived.Pilot.@@N@@Statement
import JvmDerived.Pilot.@@N@@Code
set_option linter.unusedVariables false
set_option linter.unusedSimpArgs false
namespace Jvm.Pilot.@@N@@
open Jvm Jvm.ClassFile Sem Op Lib Jvm.Free Jvm.Stand Jvm.LawKit Jvm.RoadKit Bundle Jvm.Pilot.@@N@@.Jvm.D
section OwnKit
variable {p : Program} {l : Launch} {e : Env} {R : Room} {s : State} {m : MethodId} {args : Array Value} {below : List Frame} {meth : Method} {c : Code} {T : State} {locs : List Loc} {cells slots : Nat} {Z : State} {a0 : Array Value} {h h' : Heap}
/-- what a body leaves: its value, the heap, the places written -/
abbrev own_P := Option Value → Heap → List Loc → Prop
/-- from here the run comes back, and leaves P -/
def own_Go (p : Program) (e : Env) (below : List Frame) (s : State) (P : own_P) (kc ks : Nat) (A : State) : Prop :=
  ∃ s₂ o, Steps p.tables e below A s₂ ∧ s₂.status = .running ∧ Ended s₂ below o ∧ ∃ v L, o = Outcome.returned v ∧ P v s₂.heap L ∧ FrameEnd s o s₂ L kc ks
theorem own_st {P : own_P} {kc ks : Nat} {A B : State} (hs : ∀ t, Steps p.tables e below B t → Steps p.tables e below A t) (k : own_Go p e below s P kc ks B) : own_Go p e below s P kc ks A := by
  obtain ⟨s₂, o, h1, h2⟩ := k
  exact ⟨s₂, o, hs _ h1, h2⟩
theorem own_stT {P : own_P} {kc ks : Nat} {A B : State} (hs : Steps p.tables e below A B) (k : own_Go p e below s P kc ks B) : own_Go p e below s P kc ks A := by
  obtain ⟨s₂, o, h1, h2⟩ := k
  exact ⟨s₂, o, hs.trans h1, h2⟩
theorem own_end (X : Stand p l e R s m args below meth c T locs cells slots) (hx : p.tables.exec = Jvm.exec) (hlk : meth.locks = false) {P : own_P} {kc ks : Nat} {pc : Nat} {Ls : Array Slot} {w : Value} {t : FieldType} {i : Instr} {rest : List Value} (hret : meth.sig.returnType = some t) (hn : narrow t w = w)
    (hi : (i = .ireturn ∧ (t = .int ∨ t = .boolean ∨ t = .byte ∨ t = .char ∨ t = .short) ∧ ∃ z, w = .int z) ∨ (i = .lreturn ∧ t = .long ∧ ∃ z, w = .long z) ∨ (i = .dreturn ∧ t = .double ∧ ∃ z, w = .double z) ∨ (i = .freturn ∧ t = .float ∧ ∃ z, w = .float z) ∨ (i = .areturn ∧ t.isReference = true ∧ w.isRef = true))
    (hd : decode c.code pc = .ok (i, 1)) (hP : P (some w) T.heap locs) (hc : cells ≤ kc) (hs : slots ≤ ks) : own_Go p e below s P kc ks (T.setTop (mkF m pc Ls (w :: rest))) := by
  obtain ⟨fs, hr, hrun, hended, hW, hsame⟩ := X.leave (v := some w) (fun h => by rw [hret] at h; cases h) hlk
  exact ⟨_, _, retOut X hx hret hn hi hd hr, hrun, hended, _, _, rfl, hP, ⟨_, rfl⟩, hW, hsame.mono hc hs⟩
theorem own_endI (X : Stand p l e R s m args below meth c T locs cells slots) (hx : p.tables.exec = Jvm.exec) (hlk : meth.locks = false) {P : own_P} {kc ks : Nat} {pc : Nat} {Ls : Array Slot} {z : Int32} {rest : List Value} (hret : meth.sig.returnType = some .int)
    (hd : decode c.code pc = .ok (.ireturn, 1)) (hP : P (some (.int z)) T.heap locs) (hc : cells ≤ kc) (hs : slots ≤ ks) : own_Go p e below s P kc ks (T.setTop (mkF m pc Ls (.int z :: rest))) :=
  own_end X hx hlk hret rfl (Or.inl ⟨rfl, Or.inl rfl, z, rfl⟩) hd hP hc hs
theorem own_endJ (X : Stand p l e R s m args below meth c T locs cells slots) (hx : p.tables.exec = Jvm.exec) (hlk : meth.locks = false) {P : own_P} {kc ks : Nat} {pc : Nat} {Ls : Array Slot} {z : Int64} {rest : List Value} (hret : meth.sig.returnType = some .long)
    (hd : decode c.code pc = .ok (.lreturn, 1)) (hP : P (some (.long z)) T.heap locs) (hc : cells ≤ kc) (hs : slots ≤ ks) : own_Go p e below s P kc ks (T.setTop (mkF m pc Ls (.long z :: rest))) :=
  own_end X hx hlk hret rfl (Or.inr (Or.inl ⟨rfl, rfl, z, rfl⟩)) hd hP hc hs
theorem own_endA (X : Stand p l e R s m args below meth c T locs cells slots) (hx : p.tables.exec = Jvm.exec) (hlk : meth.locks = false) {P : own_P} {kc ks : Nat} {pc : Nat} {Ls : Array Slot} {a : Addr} {t : FieldType} {rest : List Value} (hret : meth.sig.returnType = some t) (ht : t.isReference = true) (hn : narrow t (.ref a) = .ref a)
    (hd : decode c.code pc = .ok (.areturn, 1)) (hP : P (some (.ref a)) T.heap locs) (hc : cells ≤ kc) (hs : slots ≤ ks) : own_Go p e below s P kc ks (T.setTop (mkF m pc Ls (.ref a :: rest))) :=
  own_end X hx hlk hret hn (Or.inr (Or.inr (Or.inr (Or.inr ⟨rfl, ht, rfl⟩)))) hd hP hc hs
/-- a boolean, byte, char, short comes back narrowed -/
theorem own_endN (X : Stand p l e R s m args below meth c T locs cells slots) (hx : p.tables.exec = Jvm.exec) (hlk : meth.locks = false) {P : own_P} {kc ks : Nat} {pc : Nat} {Ls : Array Slot} {z : Int32} {t : FieldType} {rest : List Value} (hret : meth.sig.returnType = some t) (ht : t = .boolean ∨ t = .byte ∨ t = .char ∨ t = .short)
    (hd : decode c.code pc = .ok (.ireturn, 1)) {w : Int32} (hz : nar t z = w) (hP : P (some (.int w)) T.heap locs) (hc : cells ≤ kc) (hs : slots ≤ ks) : own_Go p e below s P kc ks (T.setTop (mkF m pc Ls (.int z :: rest))) := by
  subst hz
  obtain ⟨fs, hr, hrun, hended, hW, hsame⟩ := X.leave (v := some (.int (nar t z))) (fun h => by rw [hret] at h; cases h) hlk
  exact ⟨_, _, retN X hx hret ht hd hr, hrun, hended, _, _, rfl, hP, ⟨_, rfl⟩, hW, hsame.mono hc hs⟩
theorem own_endV (X : Stand p l e R s m args below meth c T locs cells slots) (hx : p.tables.exec = Jvm.exec) (hlk : meth.locks = false) {P : own_P} {kc ks : Nat} {pc : Nat} {Ls : Array Slot} (hret : meth.sig.returnType = none)
    (hd : decode c.code pc = .ok (.return_, 1)) (hP : P none T.heap locs) (hc : cells ≤ kc) (hs : slots ≤ ks) : own_Go p e below s P kc ks (T.setTop (mkF m pc Ls [])) := by
  obtain ⟨fs, hr, hrun, hended, hW, hsame⟩ := X.leave (v := none) (fun _ => rfl) hlk
  exact ⟨_, _, X.returnOut hx hret hd hr, hrun, hended, _, _, rfl, hP, ⟨_, rfl⟩, hW, hsame.mono hc hs⟩
/-- a body's contract -/
def own_Met (l : Launch) (Z : State) (y : MethodName) (bytes : ByteArray) (maxL : Nat) (ret : Option FieldType) (rm : Room) (as : Array Value) (h : Heap) (Q : own_P) : Prop :=
  ∀ ws : List Jvm.Cond, MetFree l y (head1 (Jvm.Cond.code y bytes maxL ret :: ws) rm) (fun a U => a = as ∧ Z.Warmed39 U.vm ∧ U.heap = h) (fun _ _ _ _ _ => True) (fun _ U o U' => ∃ v L, o = .returned v ∧ Q v U'.heap L ∧ FrameEnd U o U' L rm.cells rm.slots)
theorem own_in {y : MethodName} {bytes : ByteArray} {maxL : Nat} {ret : Option FieldType} {rm : Room} {as : Array Value} {Q : own_P} (pn : plainFor y = true)
    (body : ∀ (p : Program) (e : Env) (s : State) (m : MethodId) (below : List Frame) (meth : Method) (c : Code) (s₁ : State), p.tables.exec = Jvm.exec → c.code = bytes → c.maxLocals = maxL → s.vm.findClass y.cls = some m.cls → meth.name = y.name → meth.locks = false → meth.sig.returnType = ret → Z.Warmed39 s.vm →
      Stand p l e rm s m as below meth c s₁ [] 0 0 → s₁.heap = h → own_Go p e below s Q rm.cells rm.slots (s₁.setTop (entryFrame m as maxL))) : own_Met l Z y bytes maxL ret rm as h Q := by
  intro ws
  refine MetFree.of_bodySF pn hisR ?_
  intro p e s m args below meth c s₁ Bd hml hP hK
  obtain ⟨rfl, hZ, hh⟩ := hP
  exact body p e s m below meth c s₁ Bd.exec Bd.bytes hml (findClass_of_methodNamed Bd.named) (name_of_methodNamed Bd.named Bd.method).1 (BodyLoose.notSynchronized Bd) Bd.returns hZ (Stand.of_body Bd) (by rw [← hh, Bd.state]; rfl)
theorem own_ef {tbp : Program} {P : own_P} {kc ks : Nat} {g g' : JFrame} (q : g = g') (k : own_Go tbp e below s P kc ks (T.setTop g')) : own_Go tbp e below s P kc ks (T.setTop g) := q ▸ k
/-- a static call by its contract -/
theorem own_cS (X : Stand p l e R s m args below meth c T locs cells slots) (hx : p.tables.exec = Jvm.exec) {ml : Nat} (hml : c.maxLocals = ml) (hZ : Z.Warmed39 s.vm) {own : String} {index : Nat} {y : MethodName} {bytes : ByteArray} {maxL : Nat} {ret : Option FieldType} {rm : Room} {as : Array Value} {Q : own_P}
    (hown : s.vm.findClass own = some m.cls) (w1 : (Jvm.Cond.methodLink own index y).before a0 Z = true) (w2 : (Jvm.Cond.static y).before a0 Z = true) (w3 : (Jvm.Cond.initialized y.cls).before a0 Z = true) (w4 : (Jvm.Cond.code y bytes maxL ret).before a0 Z = true)
    (hy : y.cls ≠ "java/lang/invoke/MethodHandle" ∧ y.cls ≠ "java/lang/invoke/VarHandle") (hM : own_Met l Z y bytes maxL ret rm as h Q) (eT : T.heap = h) (hf : rm.frames + 1 ≤ R.frames) {W : Nat} (hl : W + (maxL + 11) + rm.locals ≤ R.locals)
    {g : JFrame} (hg : g.method = m) (hsize : g.locals.size = ml) {ps : List FieldType} {r : Option FieldType} (hpd : parseMethodDescriptor y.desc = some ⟨ps, r⟩) {argsL rest : List Value} (hlen : argsL.length = ps.length) (has : argsL.toArray = as) (hst : g.stack = argsL.reverse ++ rest)
    (hW : 2 * g.monitorRoom + (rest.map fun v => v.category).sum ≤ W) (hd : decode c.code g.pc = .ok (.invokestatic index, 3)) (hc : cells + rm.cells ≤ R.cells) (hs : slots + rm.slots ≤ R.slots) {P : own_P} {kc ks : Nat}
    (k : ∀ T' L v, Stand p l e R s m args below meth c T' (locs ++ L) (cells + rm.cells) (slots + rm.slots) → Q v T'.heap L → own_Go p e below s P kc ks (T'.setTop { g with pc := g.pc + 3, stack := v.toList ++ rest })) : own_Go p e below s P kc ks (T.setTop g) := by
  obtain ⟨v, vm, ⟨T', L', k', n'⟩, -, X', ⟨L, hQ, hl', hk', hn'⟩, st⟩ := Jvm.LawKit.callS X hx (y := y) hown (mvT hZ w1) (mvT hZ w2) (mvT hZ w3) (mvT hZ w4) hy (backOf (W := W) (hM []) hZ w4 w3 hf hl) hg (hsize.trans hml.symm) (argsL := argsL) (rest := rest) (lenOf hpd hlen) hst hW hd (fun _ _ => ⟨has, eT, hc, hs⟩)
  dsimp only [Pt.U, Pt.locs, Pt.cells, Pt.slots] at X' hl' hk' hn' st hQ
  subst hl' hk' hn'
  exact own_st st (k T' L v X' hQ)
/-- an instance method by its contract -/
theorem own_cV (X : Stand p l e R s m args below meth c T locs cells slots) (hx : p.tables.exec = Jvm.exec) {ml : Nat} (hml : c.maxLocals = ml) (hZ : Z.Warmed39 s.vm) {own C : String} {index : Nat} {y : MethodName} {bytes : ByteArray} {maxL : Nat} {ret : Option FieldType} {rm : Room} {as : Array Value} {Q : own_P}
    (hown : s.vm.findClass own = some m.cls) (w1 : (Jvm.Cond.methodLink own index y).before a0 Z = true) (w2 : (Jvm.Cond.declares y).before a0 Z = true) (w5 : (Jvm.Cond.selects C y y).before a0 Z = true) (w6 : (Jvm.Cond.instanceMethod y).before a0 Z = true) (w3 : (Jvm.Cond.initialized y.cls).before a0 Z = true) (w4 : (Jvm.Cond.code y bytes maxL ret).before a0 Z = true)
    (hy : y.cls ≠ "java/lang/invoke/MethodHandle" ∧ y.cls ≠ "java/lang/invoke/VarHandle") (hM : own_Met l Z y bytes maxL ret rm as h Q) (eT : T.heap = h) {b : Addr} (EX : Exa Z h b C) (hf : rm.frames + 1 ≤ R.frames) {W : Nat} (hl : W + (maxL + 11) + rm.locals ≤ R.locals)
    {g : JFrame} (hg : g.method = m) (hsize : g.locals.size = ml) {ps : List FieldType} {r : Option FieldType} (hpd : parseMethodDescriptor y.desc = some ⟨ps, r⟩) {argsL rest : List Value} (hlen : argsL.length = ps.length) (has : (.ref b :: argsL).toArray = as) (hst : g.stack = argsL.reverse ++ .ref b :: rest)
    (hW : 2 * g.monitorRoom + (rest.map fun v => v.category).sum ≤ W) (hd : decode c.code g.pc = .ok (.invokevirtual index, 3)) (hc : cells + rm.cells ≤ R.cells) (hs : slots + rm.slots ≤ R.slots) {P : own_P} {kc ks : Nat}
    (k : ∀ T' L v, Stand p l e R s m args below meth c T' (locs ++ L) (cells + rm.cells) (slots + rm.slots) → Q v T'.heap L → own_Go p e below s P kc ks (T'.setTop { g with pc := g.pc + 3, stack := v.toList ++ rest })) : own_Go p e below s P kc ks (T.setTop g) := by
  obtain ⟨cq, kq, qa, qb, qc⟩ := isOf hZ eT EX
  obtain ⟨v, vm, ⟨T', L', k', n'⟩, -, X', ⟨L, hQ, hl', hk', hn'⟩, st⟩ := X.virtualBack hx (y := y) (z := y) hown (mvT hZ w1) (mvT hZ w2) (notFace_of_selects (args := #[]) (mvT hZ w5)) (mvT hZ w5) (mvT hZ w6) hy (backOf (W := W) (hM []) hZ w4 w3 hf hl) qa qc hg (hsize.trans hml.symm) (Steps.refl _) (argsL := argsL) (rest := rest) (lenOf hpd hlen) hst hW hd (fun _ _ => ⟨has, eT, hc, hs⟩)
  dsimp only [Pt.U, Pt.locs, Pt.cells, Pt.slots] at X' hl' hk' hn' st hQ
  subst hl' hk' hn'
  exact own_stT st (k T' L v X' hQ)
/-- a private method by its contract -/
theorem own_cP (X : Stand p l e R s m args below meth c T locs cells slots) (hx : p.tables.exec = Jvm.exec) {ml : Nat} (hml : c.maxLocals = ml) (hZ : Z.Warmed39 s.vm) {own C : String} {index nn : Nat} {y : MethodName} {bytes : ByteArray} {maxL : Nat} {ret : Option FieldType} {rm : Room} {as : Array Value} {Q : own_P}
    (hown : s.vm.findClass own = some m.cls) (w1 : (Jvm.Cond.methodLink own index y).before a0 Z = true) (w2 : (Jvm.Cond.instanceMethod y).before a0 Z = true) (w5 : (Jvm.Cond.privateMethod y).before a0 Z = true) (wi : (Jvm.Cond.instantiable y.cls nn).before a0 Z = true) (w3 : (Jvm.Cond.initialized y.cls).before a0 Z = true) (w4 : (Jvm.Cond.code y bytes maxL ret).before a0 Z = true)
    (hy : y.cls ≠ "java/lang/invoke/MethodHandle" ∧ y.cls ≠ "java/lang/invoke/VarHandle") (hM : own_Met l Z y bytes maxL ret rm as h Q) (eT : T.heap = h) {b : Addr} (EX : Exa Z h b C) (hf : rm.frames + 1 ≤ R.frames) {W : Nat} (hl : W + (maxL + 11) + rm.locals ≤ R.locals)
    {g : JFrame} (hg : g.method = m) (hsize : g.locals.size = ml) {ps : List FieldType} {r : Option FieldType} (hpd : parseMethodDescriptor y.desc = some ⟨ps, r⟩) {argsL rest : List Value} (hlen : argsL.length = ps.length) (has : (.ref b :: argsL).toArray = as) (hst : g.stack = argsL.reverse ++ .ref b :: rest)
    (hW : 2 * g.monitorRoom + (rest.map fun v => v.category).sum ≤ W) (hd : decode c.code g.pc = .ok (.invokevirtual index, 3)) (hc : cells + rm.cells ≤ R.cells) (hs : slots + rm.slots ≤ R.slots) {P : own_P} {kc ks : Nat}
    (k : ∀ T' L v, Stand p l e R s m args below meth c T' (locs ++ L) (cells + rm.cells) (slots + rm.slots) → Q v T'.heap L → own_Go p e below s P kc ks (T'.setTop { g with pc := g.pc + 3, stack := v.toList ++ rest })) : own_Go p e below s P kc ks (T.setTop g) := by
  obtain ⟨cq, q1, q2⟩ := EX.cell
  have hpriv : s.PrivateAt y := Cond.privateMethod_at (mvP hZ w5 (args := #[]))
  have hsel : (Jvm.Cond.selects y.cls y y).before args s = true := by
    have wi' : (Jvm.Cond.instantiable y.cls nn).before args s = true := mvT hZ wi
    obtain ⟨c2, k2, f1, f2, f3, f4, -⟩ := Cond.instantiable_spec wi'
    exact selects_self_of_private f1 f2 (Bool.or_eq_false_iff.mp f4).1 hpriv (mvT hZ w2) hy
  obtain ⟨v, vm, ⟨T', L', k', n'⟩, -, X', ⟨L, hQ, hl', hk', hn'⟩, st⟩ := X.privateBack hx (y := y) hown (mvT hZ w1) (mvT hZ w2) hsel hpriv (mvT hZ w4) hy (backOf (W := W) (hM []) hZ w4 w3 hf hl) hg (hsize.trans hml.symm) (Steps.refl _) (a := b) (by rw [eT]; exact q1) q2 (argsL := argsL) (rest := rest) (lenOf hpd hlen) hst hW hd (fun _ _ => ⟨has, eT, hc, hs⟩)
  dsimp only [Pt.U, Pt.locs, Pt.cells, Pt.slots] at X' hl' hk' hn' st hQ
  subst hl' hk' hn'
  exact own_stT st (k T' L v X' hQ)
/-- a constructor by its contract -/
theorem own_cN (X : Stand p l e R s m args below meth c T locs cells slots) (hx : p.tables.exec = Jvm.exec) {ml : Nat} (hml : c.maxLocals = ml) (hZ : Z.Warmed39 s.vm) {own : String} {index : Nat} {y : MethodName} {bytes : ByteArray} {maxL : Nat} {rm : Room} {as : Array Value} {Q : own_P} (hy1 : y.name = "<init>")
    (hown : s.vm.findClass own = some m.cls) (w1 : (Jvm.Cond.methodLink own index y).before a0 Z = true) (w2 : (Jvm.Cond.instanceMethod y).before a0 Z = true) (w3 : (Jvm.Cond.initialized y.cls).before a0 Z = true) (w4 : (Jvm.Cond.code y bytes maxL none).before a0 Z = true)
    (hy : y.cls ≠ "java/lang/invoke/MethodHandle" ∧ y.cls ≠ "java/lang/invoke/VarHandle") (hM : own_Met l Z y bytes maxL none rm as h Q) (eT : T.heap = h) (hf : rm.frames + 1 ≤ R.frames) {W : Nat} (hl : W + (maxL + 11) + rm.locals ≤ R.locals)
    {g : JFrame} (hg : g.method = m) (hsize : g.locals.size = ml) {ps : List FieldType} {r : Option FieldType} (hpd : parseMethodDescriptor y.desc = some ⟨ps, r⟩) {b : Addr} {argsL rest : List Value} (hlen : argsL.length = ps.length) (has : (.ref b :: argsL).toArray = as) (hst : g.stack = argsL.reverse ++ .ref b :: rest)
    (hW : 2 * g.monitorRoom + (rest.map fun v => v.category).sum ≤ W) (hd : decode c.code g.pc = .ok (.invokespecial index, 3)) (hc : cells + rm.cells ≤ R.cells) (hs : slots + rm.slots ≤ R.slots) {P : own_P} {kc ks : Nat}
    (k : ∀ T' L v, Stand p l e R s m args below meth c T' (locs ++ L) (cells + rm.cells) (slots + rm.slots) → Q v T'.heap L → own_Go p e below s P kc ks (T'.setTop { g with pc := g.pc + 3, stack := v.toList ++ rest })) : own_Go p e below s P kc ks (T.setTop g) := by
  obtain ⟨v, vm, ⟨T', L', k', n'⟩, -, X', ⟨L, hQ, hl', hk', hn'⟩, st⟩ := X.specialBack hx (y := y) hy1 hown (mvT hZ w1) (mvT hZ w2) (mvT hZ w4) hy (backOf (W := W) (hM []) hZ w4 w3 hf hl) hg (hsize.trans hml.symm) (Steps.refl _) (a := b) (argsL := argsL) (rest := rest) (lenOf hpd hlen) hst hW hd (fun _ _ => ⟨has, eT, hc, hs⟩)
  dsimp only [Pt.U, Pt.locs, Pt.cells, Pt.slots] at X' hl' hk' hn' st hQ
  subst hl' hk' hn'
  exact own_stT st (k T' L v X' hQ)
/-- an array of n places: place j holds f j -/
def own_Av (Z : State) (h : Heap) (a : Addr) (ty : FieldType) (n : Nat) (f : Nat → Value) : Prop :=
  n < 2147483648 ∧ ∃ cl : Cell, Arr Z h a cl ty ∧ cl.slots.size = n ∧ ∀ j, j < n → cl.slots[j]? = some (f j)
theorem own_Av.lt {a : Addr} {ty : FieldType} {n : Nat} {f : Nat → Value} (V : own_Av Z h a ty n f) : a < h.size := by
  obtain ⟨-, cl, A, -⟩ := V
  exact A.lt
theorem own_Av.ext {a : Addr} {ty : FieldType} {n : Nat} {f : Nat → Value} (V : own_Av Z h a ty n f) (E : Ext h h') : own_Av Z h' a ty n f := by
  obtain ⟨hn, cl, A, r⟩ := V
  exact ⟨hn, cl, A.ext E, r⟩
theorem own_Av.other {a b : Addr} {ty : FieldType} {n sl : Nat} {f : Nat → Value} {v : Value} (V : own_Av Z h b ty n f) (W : Wr h h' a sl v) (q : b ≠ a) : own_Av Z h' b ty n f := by
  obtain ⟨hn, cl, A, r⟩ := V
  exact ⟨hn, cl, A.other W q, r⟩
theorem own_Av.keep {a : Addr} {ty : FieldType} {n : Nat} {f : Nat → Value} {ws : List Addr} (V : own_Av Z h a ty n f) (K : Keep h h' ws) (q : a ∉ ws) : own_Av Z h' a ty n f := by
  obtain ⟨hn, cl, A, r⟩ := V
  exact ⟨hn, cl, ⟨K.2.1 a cl A.1 q, A.2⟩, r⟩
theorem own_Av.congr {a : Addr} {ty : FieldType} {n : Nat} {f g : Nat → Value} (V : own_Av Z h a ty n f) (q : ∀ j, j < n → f j = g j) : own_Av Z h a ty n g := by
  obtain ⟨hn, cl, A, r1, r2⟩ := V
  exact ⟨hn, cl, A, r1, fun j hj => by rw [r2 j hj, q j hj]⟩
theorem own_Av.same {a : Addr} {ty : FieldType} {n i : Nat} {f : Nat → Value} {v : Value} (V : own_Av Z h a ty n f) (W : Wr h h' a i v) : own_Av Z h' a ty n (fun j => if j = i then v else f j) := by
  obtain ⟨hn, cl, A, r1, r2⟩ := V
  refine ⟨hn, cl.setSlot i v, A.same W, by rw [sz_set, r1], fun j hj => ?_⟩
  have hj' : j < cl.slots.size := by rw [r1]; exact hj
  by_cases q : j = i
  · subst q
    simp [Cell.setSlot, hj']
  · have q' : ¬ i = j := fun u => q u.symm
    simp only [Cell.setSlot, if_neg q]
    rw [Array.getElem?_setIfInBounds_ne q']
    exact r2 j hj
theorem own_Av.new {a : Addr} {ty : FieldType} {k : ClassId} {z : Int32} {n : Nat} (A : Arr Z h a (newA k ty z) ty) (hz : z.toInt = n) : own_Av Z h a ty n (fun _ => defaultValue ty) := by
  have h1 : z.toNatClampNeg = n := by
    show z.toInt.toNat = n
    rw [hz]; rfl
  have h2 : z.toInt < 2147483648 := Int32.toInt_lt z
  refine ⟨by omega, _, A, by rw [sz_new, h1], fun j hj => ?_⟩
  simp [newA, h1, hj]
theorem own_ix {j : Int32} {i n : Nat} (hj : j.toInt = i) (hi : i < n) : ¬ (j < 0 ∨ n ≤ j.toNatClampNeg) ∧ j.toNatClampNeg = i := by
  have h1 : j.toNatClampNeg = i := by
    show j.toInt.toNat = i
    rw [hj]; rfl
  refine ⟨?_, h1⟩
  rintro (q | q)
  · rw [Int32.lt_iff_toInt_lt, hj] at q
    have : (0 : Int32).toInt = 0 := by decide
    omega
  · omega
theorem own_ldI (X : Stand p l e R s m args below meth c T locs cells slots) (hx : p.tables.exec = Jvm.exec) (hZ : Z.Warmed39 s.vm) (eT : T.heap = h) {a : Addr} {n : Nat} {f : Nat → Value} (V : own_Av Z h a .int n f) {j : Int32} {i : Nat} (hj : j.toInt = i) (hi : i < n) {v : Value} (hv : f i = v)
    {g : JFrame} (hg : g.method = m) {rest : List Value} (hs : g.stack = .int j :: .ref a :: rest) (hd : decode c.code g.pc = .ok (.iaload, 1)) :
    ∀ t, Steps p.tables e below (T.setTop { g with pc := g.pc + 1, stack := v :: rest }) t → Steps p.tables e below (T.setTop g) t := by
  obtain ⟨-, cl, A, r1, r2⟩ := V
  obtain ⟨q1, q2⟩ := own_ix hj (n := cl.slots.size) (by rw [r1]; exact hi)
  exact X.iaload hx (by rw [eT]; exact A.1) (State.isArrayOf_alike hZ.alike A.2.1) A.2.2 q1 (by rw [q2, r2 i hi, hv]) hg hs hd
theorem own_ldB (X : Stand p l e R s m args below meth c T locs cells slots) (hx : p.tables.exec = Jvm.exec) (hZ : Z.Warmed39 s.vm) (eT : T.heap = h) {a : Addr} {n : Nat} {f : Nat → Value} (V : own_Av Z h a .byte n f) {j : Int32} {i : Nat} (hj : j.toInt = i) (hi : i < n) {v : Value} (hv : f i = v)
    {g : JFrame} (hg : g.method = m) {rest : List Value} (hs : g.stack = .int j :: .ref a :: rest) (hd : decode c.code g.pc = .ok (.baload, 1)) :
    ∀ t, Steps p.tables e below (T.setTop { g with pc := g.pc + 1, stack := v :: rest }) t → Steps p.tables e below (T.setTop g) t := by
  obtain ⟨-, cl, A, r1, r2⟩ := V
  obtain ⟨q1, q2⟩ := own_ix hj (n := cl.slots.size) (by rw [r1]; exact hi)
  exact X.baloadBytes hx (by rw [eT]; exact A.1) (State.isArrayOf_alike hZ.alike A.2.1) A.2.2 q1 (by rw [q2, r2 i hi, hv]) hg hs hd
theorem own_ldJ (X : Stand p l e R s m args below meth c T locs cells slots) (hx : p.tables.exec = Jvm.exec) (hZ : Z.Warmed39 s.vm) (eT : T.heap = h) {a : Addr} {n : Nat} {f : Nat → Value} (V : own_Av Z h a .long n f) {j : Int32} {i : Nat} (hj : j.toInt = i) (hi : i < n) {v : Value} (hv : f i = v)
    {g : JFrame} (hg : g.method = m) {rest : List Value} (hs : g.stack = .int j :: .ref a :: rest) (hd : decode c.code g.pc = .ok (.laload, 1)) :
    ∀ t, Steps p.tables e below (T.setTop { g with pc := g.pc + 1, stack := v :: rest }) t → Steps p.tables e below (T.setTop g) t := by
  obtain ⟨-, cl, A, r1, r2⟩ := V
  obtain ⟨q1, q2⟩ := own_ix hj (n := cl.slots.size) (by rw [r1]; exact hi)
  exact X.laload hx (by rw [eT]; exact A.1) (State.isArrayOf_alike hZ.alike A.2.1) A.2.2 q1 (by rw [q2, r2 i hi, hv]) hg hs hd
theorem own_len (X : Stand p l e R s m args below meth c T locs cells slots) (hx : p.tables.exec = Jvm.exec) (hZ : Z.Warmed39 s.vm) (eT : T.heap = h) {a : Addr} {ty : FieldType} {n : Nat} {f : Nat → Value} (V : own_Av Z h a ty n f) {z : Int32} (hz : z.toInt = n)
    {g : JFrame} (hg : g.method = m) {rest : List Value} (hs : g.stack = .ref a :: rest) (hd : decode c.code g.pc = .ok (.arraylength, 1)) :
    ∀ t, Steps p.tables e below (T.setTop { g with pc := g.pc + 1, stack := .int z :: rest }) t → Steps p.tables e below (T.setTop g) t := by
  obtain ⟨hn, cl, A, r1, r2⟩ := V
  have q : cl.slots.size.toInt32 = z := by
    rw [r1]
    apply Int32.toInt_inj.mp
    rw [hz]
    show (Int32.ofNat n).toInt = n
    rw [Int32.toInt_ofNat_of_lt (by omega)]
  intro t ht
  refine X.arraylength hx (by rw [eT]; exact A.1) (State.isArrayOf_alike hZ.alike A.2.1) hg hs hd t ?_
  rw [q]
  exact ht
theorem own_stI (X : Stand p l e R s m args below meth c T locs cells slots) (hx : p.tables.exec = Jvm.exec) (hZ : Z.Warmed39 s.vm) (eT : T.heap = h) {a : Addr} {n : Nat} {f : Nat → Int32} (V : own_Av Z h a .int n (fun t => .int (f t))) {j x : Int32} {i : Nat} (hj : j.toInt = i) (hi : i < n)
    {g : JFrame} (hg : g.method = m) {rest : List Value} (hs : g.stack = .int x :: .int j :: .ref a :: rest) (hd : decode c.code g.pc = .ok (.iastore, 1)) :
    ∃ T' h', Stand p l e R s m args below meth c T' (locs ++ [⟨a, i⟩]) cells slots ∧ T'.heap = h' ∧ Wr h h' a i (.int x) ∧ own_Av Z h' a .int n (fun t => .int (if t = i then x else f t)) ∧
      ∀ t, Steps p.tables e below (T'.setTop { g with pc := g.pc + 1, stack := rest }) t → Steps p.tables e below (T.setTop g) t := by
  have V' := V
  obtain ⟨-, cl, A, r1, r2⟩ := V
  obtain ⟨q1, q2⟩ := own_ix hj (n := cl.slots.size) (by rw [r1]; exact hi)
  obtain ⟨T', h', X', e', W', st⟩ := stI X hx hZ eT A q1 hg hs hd
  rw [q2] at X' W'
  exact ⟨T', h', X', e', W', (V'.same W').congr (fun j _ => by by_cases q : j = i <;> simp [q]), st⟩
theorem own_stB (X : Stand p l e R s m args below meth c T locs cells slots) (hx : p.tables.exec = Jvm.exec) (hZ : Z.Warmed39 s.vm) (eT : T.heap = h) {a : Addr} {n : Nat} {f : Nat → Int32} (V : own_Av Z h a .byte n (fun t => .int (f t))) {j x : Int32} {i : Nat} (hj : j.toInt = i) (hi : i < n)
    {g : JFrame} (hg : g.method = m) {rest : List Value} (hs : g.stack = .int x :: .int j :: .ref a :: rest) (hd : decode c.code g.pc = .ok (.bastore, 1)) :
    ∃ T' h', Stand p l e R s m args below meth c T' (locs ++ [⟨a, i⟩]) cells slots ∧ T'.heap = h' ∧ Wr h h' a i (.int (nar .byte x)) ∧ own_Av Z h' a .byte n (fun t => .int (if t = i then (nar .byte x) else f t)) ∧
      ∀ t, Steps p.tables e below (T'.setTop { g with pc := g.pc + 1, stack := rest }) t → Steps p.tables e below (T.setTop g) t := by
  have V' := V
  obtain ⟨-, cl, A, r1, r2⟩ := V
  obtain ⟨q1, q2⟩ := own_ix hj (n := cl.slots.size) (by rw [r1]; exact hi)
  obtain ⟨T', h', X', e', W', st⟩ := stB X hx hZ eT A q1 hg hs hd
  rw [q2] at X' W'
  exact ⟨T', h', X', e', W', (V'.same W').congr (fun j _ => by by_cases q : j = i <;> simp [q]), st⟩
theorem own_stJ (X : Stand p l e R s m args below meth c T locs cells slots) (hx : p.tables.exec = Jvm.exec) (hZ : Z.Warmed39 s.vm) (eT : T.heap = h) {a : Addr} {n : Nat} {f : Nat → Int64} (V : own_Av Z h a .long n (fun t => .long (f t))) {j : Int32} {x : Int64} {i : Nat} (hj : j.toInt = i) (hi : i < n)
    {g : JFrame} (hg : g.method = m) {rest : List Value} (hs : g.stack = .long x :: .int j :: .ref a :: rest) (hd : decode c.code g.pc = .ok (.lastore, 1)) :
    ∃ T' h', Stand p l e R s m args below meth c T' (locs ++ [⟨a, i⟩]) cells slots ∧ T'.heap = h' ∧ Wr h h' a i (.long x) ∧ own_Av Z h' a .long n (fun t => .long (if t = i then x else f t)) ∧
      ∀ t, Steps p.tables e below (T'.setTop { g with pc := g.pc + 1, stack := rest }) t → Steps p.tables e below (T.setTop g) t := by
  have V' := V
  obtain ⟨-, cl, A, r1, r2⟩ := V
  obtain ⟨q1, q2⟩ := own_ix hj (n := cl.slots.size) (by rw [r1]; exact hi)
  obtain ⟨T', h', X', e', W', st⟩ := stJ X hx hZ eT A q1 hg hs hd
  rw [q2] at X' W'
  exact ⟨T', h', X', e', W', (V'.same W').congr (fun j _ => by by_cases q : j = i <;> simp [q]), st⟩
/-- newarray: b is the fresh array's address -/
theorem own_newA (X : Stand p l e R s m args below meth c T locs cells slots) (hx : p.tables.exec = Jvm.exec) (hZ : Z.Warmed39 s.vm) {aty : ArrayType} (w : (Jvm.Cond.arrayClass (newarray.typeOf aty)).before a0 Z = true) (eT : T.heap = h) {g : JFrame} (hg : g.method = m) (hd : decode c.code g.pc = .ok (.newarray aty, 2)) {z : Int32} {rest : List Value} (hs : g.stack = .int z :: rest)
    {n cap : Nat} (hz : z.toInt = n) (hcap : n ≤ cap) (hb : cap * 8 ≤ 536870912) (hc : cells + 1 ≤ R.cells) (hl : slots + cap ≤ R.slots) :
    ∃ T' h' b, b = h.size ∧ Stand p l e R s m args below meth c T' locs (cells + 1) (slots + cap) ∧ T'.heap = h' ∧ Ext h h' ∧ own_Av Z h' b (newarray.typeOf aty) n (fun _ => defaultValue (newarray.typeOf aty)) ∧
      ∀ t, Steps p.tables e below (T'.setTop { g with pc := g.pc + 2, stack := .ref b :: rest }) t → Steps p.tables e below (T.setTop g) t := by
  have h1 : z.toNatClampNeg = n := by
    show z.toInt.toNat = n
    rw [hz]; rfl
  have h2 : ¬ z < 0 := by
    rw [Int32.lt_iff_toInt_lt, hz]
    have : (0 : Int32).toInt = 0 := by decide
    omega
  obtain ⟨T', h', cA, X', e', E', A', st⟩ := newP X hx hZ w eT hg hd hs h2 (cap := cap) (by omega) hb hc hl
  exact ⟨T', h', h.size, rfl, X', e', E', own_Av.new A' hz, st⟩
theorem own_nil {k : Nat} {L : List Loc} (N : Fr k L) {L' : List Loc} (q : L' = []) : Fr k (L ++ L') := by
  subst q
  rw [List.append_nil]
  exact N
/-- the walk's end, carried to the sheet -/
theorem own_cast {P : own_P} {kc ks : Nat} {A B : State} (q : A = B) (k : own_Go p e below s P kc ks B) : own_Go p e below s P kc ks A := q ▸ k
theorem own_bm {x : Int} (h1 : -2147483648 ≤ x) (h2 : x < 2147483648) : x.bmod (2 ^ 32) = x := by
  rw [Int.bmod_def]
  split <;> omega
theorem own_addN {a b : Int32} {i k : Nat} (ha : a.toInt = i) (hb : b.toInt = k) (hlt : i + k < 2147483648) : (a + b).toInt = ((i + k : Nat) : Int) := by
  rw [Int32.toInt_add, ha, hb, own_bm (by omega) (by omega)]
  omega
theorem own_add {a b : Int32} (h1 : -2147483648 ≤ a.toInt + b.toInt) (h2 : a.toInt + b.toInt < 2147483648) : (a + b).toInt = a.toInt + b.toInt := by
  rw [Int32.toInt_add, own_bm h1 h2]
theorem own_sub {a b : Int32} (h1 : -2147483648 ≤ a.toInt - b.toInt) (h2 : a.toInt - b.toInt < 2147483648) : (a - b).toInt = a.toInt - b.toInt := by
  rw [Int32.toInt_sub, own_bm h1 h2]
theorem own_mask (z K : Int32) {k : Nat} (hK : K.toInt = k) : ∃ i : Nat, (z &&& K).toInt = i ∧ i ≤ k := by
  have hk : K.toBitVec.toInt = k := hK
  have h1 : K.toBitVec.toNat = k := by
    rw [BitVec.toInt_eq_toNat_cond] at hk
    have := K.toBitVec.isLt
    split at hk <;> omega
  have h2 : 2 * K.toBitVec.toNat < 2 ^ 32 := by
    rw [BitVec.toInt_eq_toNat_cond] at hk
    have := K.toBitVec.isLt
    split at hk <;> omega
  have h3 : (z &&& K).toBitVec.toNat ≤ k := by
    show (z.toBitVec &&& K.toBitVec).toNat ≤ k
    rw [BitVec.toNat_and, ← h1]
    exact Nat.and_le_right
  refine ⟨(z &&& K).toBitVec.toNat, ?_, h3⟩
  show (z &&& K).toBitVec.toInt = _
  rw [BitVec.toInt_eq_toNat_cond, if_pos (by omega)]
theorem own_lt32 {a b : Int32} : a < b ↔ a.toInt < b.toInt := Int32.lt_iff_toInt_lt
theorem own_rem {a b : Int32} (ha : 0 ≤ a.toInt) (hb : 0 < b.toInt) : (a % b).toInt = a.toInt % b.toInt := by
  rw [Int32.toInt_mod]
  exact Int.tmod_eq_emod_of_nonneg ha
end OwnKit
theorem own_ce {x y : Int64} (h : x = y) : XT.cmpL x y = 0 := by
  subst h
  unfold XT.cmpL
  have q : ¬ x < x := by rw [Int64.lt_iff_toInt_lt]; omega
  rw [if_neg q, if_pos rfl]
def own_pos (w : Int32) : Int32 := if 0 < w then 1 else 0
theorem own_pos1 {w : Int32} (h : 0 < w) : own_pos w = 1 := if_pos h
theorem own_pos0 {w : Int32} (h : ¬ 0 < w) : own_pos w = 0 := if_neg h
theorem own_d0_0 : decode prog_26_method_1_code 0 = .ok (.aload_n 0, 1) := by decide +kernel
theorem own_d0_1 : decode prog_26_method_1_code 1 = .ok (.invokespecial 1, 3) := by decide +kernel
theorem own_d0_4 : decode prog_26_method_1_code 4 = .ok (.aload_n 0, 1) := by decide +kernel
theorem own_d0_5 : decode prog_26_method_1_code 5 = .ok (.lload_n 1, 1) := by decide +kernel
theorem own_d0_6 : decode prog_26_method_1_code 6 = .ok (.putfield 7, 3) := by decide +kernel
theorem own_d0_9 : decode prog_26_method_1_code 9 = .ok (.aload_n 0, 1) := by decide +kernel
theorem own_d0_10 : decode prog_26_method_1_code 10 = .ok (.aload_n 3, 1) := by decide +kernel
theorem own_d0_11 : decode prog_26_method_1_code 11 = .ok (.putfield 13, 3) := by decide +kernel
theorem own_d0_14 : decode prog_26_method_1_code 14 = .ok (.return_, 1) := by decide +kernel
theorem own_pn0 : plainFor (⟨"com/example/prudent_queue/prudentqueue/queue/Message", "<init>", "(J[B)V"⟩ : MethodName) = true := by first | exact plainFor_of_name (show plainName "com/example/prudent_queue/prudentqueue/queue/Message" = true by first | (simp [plainName, overriddenIn]; done) | decide +kernel) | decide +kernel
theorem own_ef0 (m : MethodId) (x0 : Addr) (x1 : Int64) (x2 : Addr) : entryFrame m #[(.ref x0), (.long x1), (.ref x2)] 4 = mkF m 0 #[.val (.ref x0), .val (.long x1), .second, .val (.ref x2)] [] := by first | (simp [entryFrame, mkF, argsToLocals, Value.category]; done) | rfl
set_option maxRecDepth 65536 in
set_option maxHeartbeats 40000000 in
theorem own_rm1 (l : Launch) (Z : State) (a0 : Array Value) (hw : ∀ d ∈ tables_1, d.before a0 Z = true) (a1 : Addr) (q2 : Int64) (a4 : Addr) (h0 : Heap) (n0 : Nat) (Z0 : n0 ≤ h0.size) (Fi : Fld Z h0 a1 "com/example/prudent_queue/prudentqueue/queue/Message" "id" "J" (.long 0)) (Fd : Fld Z h0 a1 "com/example/prudent_queue/prudentqueue/queue/Message" "data" "[B" .null) (Fh : Fld Z h0 a1 "com/example/prudent_queue/prudentqueue/queue/Message" "holders" "I" (.int 0)) (EX : Exa Z h0 a1 "com/example/prudent_queue/prudentqueue/queue/Message") (fr_a1 : n0 ≤ a1) :
    own_Met l Z (⟨"com/example/prudent_queue/prudentqueue/queue/Message", "<init>", "(J[B)V"⟩ : MethodName) prog_26_method_1_code 4 none ({ frames := 1, cells := 0, slots := 0, locals := 12 } : Room) #[(.ref a1), (.long q2), (.ref a4)] h0 (fun v h' L => v = none ∧ Fr n0 L ∧ Keep h0 h' [a1] ∧ Fld Z h' a1 "com/example/prudent_queue/prudentqueue/queue/Message" "id" "J" (.long q2) ∧ Fld Z h' a1 "com/example/prudent_queue/prudentqueue/queue/Message" "data" "[B" (.ref a4) ∧ Fld Z h' a1 "com/example/prudent_queue/prudentqueue/queue/Message" "holders" "I" (.int 0)) := by
  refine own_in own_pn0 ?_
  intro p e s m below meth c s₁ hx hby hml hown hnm hlk hret hZ X0 e0
  have N0 := Fr.nil n0
  refine own_ef (own_ef0 m a1 q2 a4) ?_
  show own_Go p e below s _ _ _ (s₁.setTop (mkF m 0 #[.val (.ref a1), .val (.long q2), .second, .val (.ref a4)] []))
  refine own_st (fun _ k => XS.aloadN X0.here hx rfl (hb hby own_d0_0) rfl rfl k) ?_
  show own_Go p e below s _ _ _ (s₁.setTop (mkF m 1 #[.val (.ref a1), .val (.long q2), .second, .val (.ref a4)] [(.ref a1)]))
  obtain ⟨T1, X1, e1, st1⟩ := initO X0 hx hZ hown (hw _ (List.mem_of_getElem? (i := 7) rfl)) (hw _ (List.mem_of_getElem? (i := 8) rfl)) (hw _ (List.mem_of_getElem? (i := 9) rfl)) e0 (g := (mkF m 1 #[.val (.ref a1), .val (.long q2), .second, .val (.ref a4)] [(.ref a1)])) rfl (by rw [hml]; rfl) rfl (hb hby own_d0_1) (by decide) (W := 0) (by show 2 * 0 + _ ≤ _; exact Nat.le_of_eq rfl) (by decide)
  refine own_st st1 ?_
  show own_Go p e below s _ _ _ (T1.setTop (mkF m 4 #[.val (.ref a1), .val (.long q2), .second, .val (.ref a4)] []))
  refine own_st (fun _ k => XS.aloadN X1.here hx rfl (hb hby own_d0_4) rfl rfl k) ?_
  show own_Go p e below s _ _ _ (T1.setTop (mkF m 5 #[.val (.ref a1), .val (.long q2), .second, .val (.ref a4)] [(.ref a1)]))
  refine own_st (fun _ k => XS.lloadN X1.here hx rfl (hb hby own_d0_5) rfl k) ?_
  show own_Go p e below s _ _ _ (T1.setTop (mkF m 6 #[.val (.ref a1), .val (.long q2), .second, .val (.ref a4)] [(.long q2), (.ref a1)]))
  obtain ⟨T2, h2, X2, e2, W2, st2⟩ := putF X1 hx hZ hown (host := "") (Or.inl (hw _ (List.mem_of_getElem? (i := 10) rfl))) Via.refl e1 Fi EX (Or.inr ⟨(hw _ (List.mem_of_getElem? (i := 11) rfl)), rfl, hnm⟩) (hw _ (List.mem_of_getElem? (i := 2) rfl)) (ty := .long) (by decide) rfl rfl (g := (mkF m 6 #[.val (.ref a1), .val (.long q2), .second, .val (.ref a4)] [(.long q2), (.ref a1)])) rfl rfl (hb hby own_d0_6)
  have Fi_2 := Fi.same W2
  have Fd_2 := Fd.other W2 (Or.inr (slot_ne (Or.inr (hw _ (List.mem_of_getElem? (i := 13) rfl))) (Or.inr (hw _ (List.mem_of_getElem? (i := 11) rfl))) (by decide) (t := (.array .byte)) (t' := .long) (by decide) (by decide)))
  have Fh_2 := Fh.other W2 (Or.inr (slot_ne (Or.inl (hw _ (List.mem_of_getElem? (i := 20) rfl))) (Or.inr (hw _ (List.mem_of_getElem? (i := 11) rfl))) (by decide) (t := .int) (t' := .long) (by decide) (by decide)))
  have EX_2 := EX.wr W2
  have sz2 := Nat.le_trans Z0 (Keep.of_wr W2).1
  have K2 := (Keep.refl h0 [a1]).wr W2 (Or.inl (List.mem_of_getElem? (i := 0) rfl))
  have N2 := Fr.snoc X2 N0 fr_a1
  refine own_st st2 ?_
  show own_Go p e below s _ _ _ (T2.setTop (mkF m 9 #[.val (.ref a1), .val (.long q2), .second, .val (.ref a4)] []))
  refine own_st (fun _ k => XS.aloadN X2.here hx rfl (hb hby own_d0_9) rfl rfl k) ?_
  show own_Go p e below s _ _ _ (T2.setTop (mkF m 10 #[.val (.ref a1), .val (.long q2), .second, .val (.ref a4)] [(.ref a1)]))
  refine own_st (fun _ k => XS.aloadN X2.here hx rfl (hb hby own_d0_10) rfl rfl k) ?_
  show own_Go p e below s _ _ _ (T2.setTop (mkF m 11 #[.val (.ref a1), .val (.long q2), .second, .val (.ref a4)] [(.ref a4), (.ref a1)]))
  obtain ⟨T3, h3, X3, e3, W3, st3⟩ := putF X2 hx hZ hown (host := "") (Or.inl (hw _ (List.mem_of_getElem? (i := 12) rfl))) Via.refl e2 Fd_2 EX_2 (Or.inr ⟨(hw _ (List.mem_of_getElem? (i := 13) rfl)), rfl, hnm⟩) (hw _ (List.mem_of_getElem? (i := 2) rfl)) (ty := (.array .byte)) (by decide) rfl rfl (g := (mkF m 11 #[.val (.ref a1), .val (.long q2), .second, .val (.ref a4)] [(.ref a4), (.ref a1)])) rfl rfl (hb hby own_d0_11)
  have Fd_3 := Fd_2.same W3
  have Fh_3 := Fh_2.other W3 (Or.inr (slot_ne (Or.inl (hw _ (List.mem_of_getElem? (i := 20) rfl))) (Or.inr (hw _ (List.mem_of_getElem? (i := 13) rfl))) (by decide) (t := .int) (t' := (.array .byte)) (by decide) (by decide)))
  have EX_3 := EX_2.wr W3
  have Fi_3 := Fi_2.other W3 (Or.inr (slot_ne (Or.inr (hw _ (List.mem_of_getElem? (i := 11) rfl))) (Or.inr (hw _ (List.mem_of_getElem? (i := 13) rfl))) (by decide) (t := .long) (t' := (.array .byte)) (by decide) (by decide)))
  have sz3 := Nat.le_trans sz2 (Keep.of_wr W3).1
  have K3 := K2.wr W3 (Or.inl (List.mem_of_getElem? (i := 0) rfl))
  have N3 := Fr.snoc X3 N2 fr_a1
  refine own_st st3 ?_
  show own_Go p e below s _ _ _ (T3.setTop (mkF m 14 #[.val (.ref a1), .val (.long q2), .second, .val (.ref a4)] []))
  exact own_endV X3 hx hlk hret (hb hby own_d0_14) (by rw [e3]; exact ⟨rfl, N3, K3, Fi_3, Fd_3, Fh_3⟩) (by decide) (by decide)
theorem own_d1_0 : decode prog_26_method_6_code 0 = .ok (.aload_n 0, 1) := by decide +kernel
theorem own_d1_1 : decode prog_26_method_6_code 1 = .ok (.getfield 17, 3) := by decide +kernel
theorem own_d1_4 : decode prog_26_method_6_code 4 = .ok (.ifCond .le 7, 3) := by decide +kernel
theorem own_d1_7 : decode prog_26_method_6_code 7 = .ok (.iconst 1, 1) := by decide +kernel
theorem own_d1_8 : decode prog_26_method_6_code 8 = .ok (.goto 4, 3) := by decide +kernel
theorem own_d1_11 : decode prog_26_method_6_code 11 = .ok (.iconst 0, 1) := by decide +kernel
theorem own_d1_12 : decode prog_26_method_6_code 12 = .ok (.ireturn, 1) := by decide +kernel
theorem own_pn1 : plainFor (⟨"com/example/prudent_queue/prudentqueue/queue/Message", "isHeld", "()Z"⟩ : MethodName) = true := by first | exact plainFor_of_name (show plainName "com/example/prudent_queue/prudentqueue/queue/Message" = true by first | (simp [plainName, overriddenIn]; done) | decide +kernel) | decide +kernel
theorem own_ef1 (m : MethodId) (x0 : Addr) : entryFrame m #[(.ref x0)] 1 = mkF m 0 #[.val (.ref x0)] [] := by first | (simp [entryFrame, mkF, argsToLocals, Value.category]; done) | rfl
set_option maxRecDepth 65536 in
set_option maxHeartbeats 40000000 in
theorem own_rm2 (l : Launch) (Z : State) (a0 : Array Value) (hw : ∀ d ∈ tables_1, d.before a0 Z = true) (a1 : Addr) (wh : Int32) (h0 : Heap) (n0 : Nat) (Z0 : n0 ≤ h0.size) (Fh : Fld Z h0 a1 "com/example/prudent_queue/prudentqueue/queue/Message" "holders" "I" (.int wh)) :
    own_Met l Z (⟨"com/example/prudent_queue/prudentqueue/queue/Message", "isHeld", "()Z"⟩ : MethodName) prog_26_method_6_code 1 (some .boolean) ({ frames := 0, cells := 0, slots := 0, locals := 0 } : Room) #[(.ref a1)] h0 (fun v h' L => v = some (.int (own_pos wh)) ∧ h' = h0 ∧ L = []) := by
  refine own_in own_pn1 ?_
  intro p e s m below meth c s₁ hx hby hml hown hnm hlk hret hZ X0 e0
  have N0 := Fr.nil n0
  refine own_ef (own_ef1 m a1) ?_
  show own_Go p e below s _ _ _ (s₁.setTop (mkF m 0 #[.val (.ref a1)] []))
  refine own_st (fun _ k => XS.aloadN X0.here hx rfl (hb hby own_d1_0) rfl rfl k) ?_
  show own_Go p e below s _ _ _ (s₁.setTop (mkF m 1 #[.val (.ref a1)] [(.ref a1)]))
  obtain ⟨T1, X1, e1, st1⟩ := getF X0 hx hZ hown (host := "") (Or.inl (hw _ (List.mem_of_getElem? (i := 19) rfl))) Via.refl e0 Fh (g := (mkF m 1 #[.val (.ref a1)] [(.ref a1)])) rfl rfl (hb hby own_d1_1)
  refine own_st st1 ?_
  show own_Go p e below s _ _ _ (T1.setTop (mkF m 4 #[.val (.ref a1)] [(.int wh)]))
  rcases Classical.em ((0 : Int32) < wh) with c1 | c1
  · show own_Go p e below s _ _ _ (T1.setTop (mkF m 4 #[.val (.ref a1)] [(.int wh)]))
    refine own_st (fun _ k => XS.ifNo X1.here hx rfl (hb hby own_d1_4) rfl ((if0 _ _).trans (tlt c1).2.2.2) k) ?_
    show own_Go p e below s _ _ _ (T1.setTop (mkF m 7 #[.val (.ref a1)] []))
    refine own_st (fun _ k => XS.iconst X1.here hx rfl (hb hby own_d1_7) k) ?_
    show own_Go p e below s _ _ _ (T1.setTop (mkF m 8 #[.val (.ref a1)] [(.int (1 : Int32))]))
    refine own_st (fun _ k => XS.goto X1.here hx rfl (pc0 := 8) (pc' := 12) rfl (hb hby own_d1_8) (by decide) (by decide) k) ?_
    show own_Go p e below s _ _ _ (T1.setTop (mkF m 12 #[.val (.ref a1)] [(.int (1 : Int32))]))
    exact own_endN X1 hx hlk (t := .boolean) hret (by simp) (hb hby own_d1_12) (w := (1 : Int32)) (by decide) ⟨by rw [own_pos1 c1], e1, rfl⟩ (by decide) (by decide)
  · show own_Go p e below s _ _ _ (T1.setTop (mkF m 4 #[.val (.ref a1)] [(.int wh)]))
    refine own_st (fun _ k => XS.ifYes X1.here hx rfl (pc0 := 4) (pc' := 11) rfl (hb hby own_d1_4) rfl ((if0 _ _).trans (flt c1).2.2.2) (by decide) (by decide) k) ?_
    show own_Go p e below s _ _ _ (T1.setTop (mkF m 11 #[.val (.ref a1)] []))
    refine own_st (fun _ k => XS.iconst X1.here hx rfl (hb hby own_d1_11) k) ?_
    show own_Go p e below s _ _ _ (T1.setTop (mkF m 12 #[.val (.ref a1)] [(.int (0 : Int32))]))
    exact own_endN X1 hx hlk (t := .boolean) hret (by simp) (hb hby own_d1_12) (w := (0 : Int32)) (by decide) ⟨by rw [own_pos0 c1], e1, rfl⟩ (by decide) (by decide)
theorem own_d2_0 : decode prog_26_method_2_code 0 = .ok (.aload_n 0, 1) := by decide +kernel
theorem own_d2_1 : decode prog_26_method_2_code 1 = .ok (.getfield 7, 3) := by decide +kernel
theorem own_d2_4 : decode prog_26_method_2_code 4 = .ok (.lreturn, 1) := by decide +kernel
theorem own_pn2 : plainFor (⟨"com/example/prudent_queue/prudentqueue/queue/Message", "getId", "()J"⟩ : MethodName) = true := by first | exact plainFor_of_name (show plainName "com/example/prudent_queue/prudentqueue/queue/Message" = true by first | (simp [plainName, overriddenIn]; done) | decide +kernel) | decide +kernel
theorem own_ef2 (m : MethodId) (x0 : Addr) : entryFrame m #[(.ref x0)] 1 = mkF m 0 #[.val (.ref x0)] [] := by first | (simp [entryFrame, mkF, argsToLocals, Value.category]; done) | rfl
set_option maxRecDepth 65536 in
set_option maxHeartbeats 40000000 in
theorem own_rm5 (l : Launch) (Z : State) (a0 : Array Value) (hw : ∀ d ∈ tables_1, d.before a0 Z = true) (a1 : Addr) (wi : Int64) (h0 : Heap) (n0 : Nat) (Z0 : n0 ≤ h0.size) (Fi : Fld Z h0 a1 "com/example/prudent_queue/prudentqueue/queue/Message" "id" "J" (.long wi)) :
    own_Met l Z (⟨"com/example/prudent_queue/prudentqueue/queue/Message", "getId", "()J"⟩ : MethodName) prog_26_method_2_code 1 (some .long) ({ frames := 0, cells := 0, slots := 0, locals := 0 } : Room) #[(.ref a1)] h0 (fun v h' L => v = some (.long wi) ∧ h' = h0 ∧ L = []) := by
  refine own_in own_pn2 ?_
  intro p e s m below meth c s₁ hx hby hml hown hnm hlk hret hZ X0 e0
  have N0 := Fr.nil n0
  refine own_ef (own_ef2 m a1) ?_
  show own_Go p e below s _ _ _ (s₁.setTop (mkF m 0 #[.val (.ref a1)] []))
  refine own_st (fun _ k => XS.aloadN X0.here hx rfl (hb hby own_d2_0) rfl rfl k) ?_
  show own_Go p e below s _ _ _ (s₁.setTop (mkF m 1 #[.val (.ref a1)] [(.ref a1)]))
  obtain ⟨T1, X1, e1, st1⟩ := getF X0 hx hZ hown (host := "") (Or.inl (hw _ (List.mem_of_getElem? (i := 10) rfl))) Via.refl e0 Fi (g := (mkF m 1 #[.val (.ref a1)] [(.ref a1)])) rfl rfl (hb hby own_d2_1)
  refine own_st st1 ?_
  show own_Go p e below s _ _ _ (T1.setTop (mkF m 4 #[.val (.ref a1)] [(.long wi)]))
  exact own_endJ X1 hx hlk hret (hb hby own_d2_4) ⟨rfl, e1, rfl⟩ (by decide) (by decide)
theorem own_d3_0 : decode prog_26_method_3_code 0 = .ok (.aload_n 0, 1) := by decide +kernel
theorem own_d3_1 : decode prog_26_method_3_code 1 = .ok (.getfield 13, 3) := by decide +kernel
theorem own_d3_4 : decode prog_26_method_3_code 4 = .ok (.areturn, 1) := by decide +kernel
theorem own_pn3 : plainFor (⟨"com/example/prudent_queue/prudentqueue/queue/Message", "getData", "()[B"⟩ : MethodName) = true := by first | exact plainFor_of_name (show plainName "com/example/prudent_queue/prudentqueue/queue/Message" = true by first | (simp [plainName, overriddenIn]; done) | decide +kernel) | decide +kernel
theorem own_ef3 (m : MethodId) (x0 : Addr) : entryFrame m #[(.ref x0)] 1 = mkF m 0 #[.val (.ref x0)] [] := by first | (simp [entryFrame, mkF, argsToLocals, Value.category]; done) | rfl
set_option maxRecDepth 65536 in
set_option maxHeartbeats 40000000 in
theorem own_rm6 (l : Launch) (Z : State) (a0 : Array Value) (hw : ∀ d ∈ tables_1, d.before a0 Z = true) (a1 : Addr) (wd : Addr) (h0 : Heap) (n0 : Nat) (Z0 : n0 ≤ h0.size) (Fd : Fld Z h0 a1 "com/example/prudent_queue/prudentqueue/queue/Message" "data" "[B" (.ref wd)) :
    own_Met l Z (⟨"com/example/prudent_queue/prudentqueue/queue/Message", "getData", "()[B"⟩ : MethodName) prog_26_method_3_code 1 (some (.array .byte)) ({ frames := 0, cells := 0, slots := 0, locals := 0 } : Room) #[(.ref a1)] h0 (fun v h' L => v = some (.ref wd) ∧ h' = h0 ∧ L = []) := by
  refine own_in own_pn3 ?_
  intro p e s m below meth c s₁ hx hby hml hown hnm hlk hret hZ X0 e0
  have N0 := Fr.nil n0
  refine own_ef (own_ef3 m a1) ?_
  show own_Go p e below s _ _ _ (s₁.setTop (mkF m 0 #[.val (.ref a1)] []))
  refine own_st (fun _ k => XS.aloadN X0.here hx rfl (hb hby own_d3_0) rfl rfl k) ?_
  show own_Go p e below s _ _ _ (s₁.setTop (mkF m 1 #[.val (.ref a1)] [(.ref a1)]))
  obtain ⟨T1, X1, e1, st1⟩ := getF X0 hx hZ hown (host := "") (Or.inl (hw _ (List.mem_of_getElem? (i := 12) rfl))) Via.refl e0 Fd (g := (mkF m 1 #[.val (.ref a1)] [(.ref a1)])) rfl rfl (hb hby own_d3_1)
  refine own_st st1 ?_
  show own_Go p e below s _ _ _ (T1.setTop (mkF m 4 #[.val (.ref a1)] [(.ref wd)]))
  exact own_endA X1 hx hlk hret rfl rfl (hb hby own_d3_4) ⟨rfl, e1, rfl⟩ (by decide) (by decide)
theorem own_d4_0 : decode prog_26_method_4_code 0 = .ok (.aload_n 0, 1) := by decide +kernel
theorem own_d4_1 : decode prog_26_method_4_code 1 = .ok (.dup, 1) := by decide +kernel
theorem own_d4_2 : decode prog_26_method_4_code 2 = .ok (.getfield 17, 3) := by decide +kernel
theorem own_d4_5 : decode prog_26_method_4_code 5 = .ok (.iconst 1, 1) := by decide +kernel
theorem own_d4_6 : decode prog_26_method_4_code 6 = .ok (.iadd, 1) := by decide +kernel
theorem own_d4_7 : decode prog_26_method_4_code 7 = .ok (.putfield 17, 3) := by decide +kernel
theorem own_d4_10 : decode prog_26_method_4_code 10 = .ok (.return_, 1) := by decide +kernel
theorem own_pn4 : plainFor (⟨"com/example/prudent_queue/prudentqueue/queue/Message", "hold", "()V"⟩ : MethodName) = true := by first | exact plainFor_of_name (show plainName "com/example/prudent_queue/prudentqueue/queue/Message" = true by first | (simp [plainName, overriddenIn]; done) | decide +kernel) | decide +kernel
theorem own_ef4 (m : MethodId) (x0 : Addr) : entryFrame m #[(.ref x0)] 1 = mkF m 0 #[.val (.ref x0)] [] := by first | (simp [entryFrame, mkF, argsToLocals, Value.category]; done) | rfl
set_option maxRecDepth 65536 in
set_option maxHeartbeats 40000000 in
theorem own_rm7 (l : Launch) (Z : State) (a0 : Array Value) (hw : ∀ d ∈ tables_1, d.before a0 Z = true) (a1 : Addr) (wi : Int64) (wd : Addr) (wh : Int32) (h0 : Heap) (n0 : Nat) (Z0 : n0 ≤ h0.size) (Fi : Fld Z h0 a1 "com/example/prudent_queue/prudentqueue/queue/Message" "id" "J" (.long wi)) (Fd : Fld Z h0 a1 "com/example/prudent_queue/prudentqueue/queue/Message" "data" "[B" (.ref wd)) (Fh : Fld Z h0 a1 "com/example/prudent_queue/prudentqueue/queue/Message" "holders" "I" (.int wh)) (EX : Exa Z h0 a1 "com/example/prudent_queue/prudentqueue/queue/Message") (fr_a1 : n0 ≤ a1) :
    own_Met l Z (⟨"com/example/prudent_queue/prudentqueue/queue/Message", "hold", "()V"⟩ : MethodName) prog_26_method_4_code 1 none ({ frames := 0, cells := 0, slots := 0, locals := 0 } : Room) #[(.ref a1)] h0 (fun v h' L => v = none ∧ Fr n0 L ∧ Keep h0 h' [a1] ∧ Fld Z h' a1 "com/example/prudent_queue/prudentqueue/queue/Message" "id" "J" (.long wi) ∧ Fld Z h' a1 "com/example/prudent_queue/prudentqueue/queue/Message" "data" "[B" (.ref wd) ∧ Fld Z h' a1 "com/example/prudent_queue/prudentqueue/queue/Message" "holders" "I" (.int (wh + (1 : Int32)))) := by
  refine own_in own_pn4 ?_
  intro p e s m below meth c s₁ hx hby hml hown hnm hlk hret hZ X0 e0
  have N0 := Fr.nil n0
  refine own_ef (own_ef4 m a1) ?_
  show own_Go p e below s _ _ _ (s₁.setTop (mkF m 0 #[.val (.ref a1)] []))
  refine own_st (fun _ k => XS.aloadN X0.here hx rfl (hb hby own_d4_0) rfl rfl k) ?_
  show own_Go p e below s _ _ _ (s₁.setTop (mkF m 1 #[.val (.ref a1)] [(.ref a1)]))
  refine own_st (fun _ k => XS.dup X0.here hx rfl (hb hby own_d4_1) rfl rfl k) ?_
  show own_Go p e below s _ _ _ (s₁.setTop (mkF m 2 #[.val (.ref a1)] [(.ref a1), (.ref a1)]))
  obtain ⟨T1, X1, e1, st1⟩ := getF X0 hx hZ hown (host := "") (Or.inl (hw _ (List.mem_of_getElem? (i := 19) rfl))) Via.refl e0 Fh (g := (mkF m 2 #[.val (.ref a1)] [(.ref a1), (.ref a1)])) rfl rfl (hb hby own_d4_2)
  refine own_st st1 ?_
  show own_Go p e below s _ _ _ (T1.setTop (mkF m 5 #[.val (.ref a1)] [(.int wh), (.ref a1)]))
  refine own_st (fun _ k => XS.iconst X1.here hx rfl (hb hby own_d4_5) k) ?_
  show own_Go p e below s _ _ _ (T1.setTop (mkF m 6 #[.val (.ref a1)] [(.int (1 : Int32)), (.int wh), (.ref a1)]))
  refine own_st (fun _ k => XS.iadd X1.here hx rfl (hb hby own_d4_6) rfl k) ?_
  show own_Go p e below s _ _ _ (T1.setTop (mkF m 7 #[.val (.ref a1)] [(.int (wh + (1 : Int32))), (.ref a1)]))
  obtain ⟨T2, h2, X2, e2, W2, st2⟩ := putF X1 hx hZ hown (host := "") (Or.inl (hw _ (List.mem_of_getElem? (i := 19) rfl))) Via.refl e1 Fh EX (Or.inl (hw _ (List.mem_of_getElem? (i := 20) rfl))) (hw _ (List.mem_of_getElem? (i := 2) rfl)) (ty := .int) (by decide) rfl rfl (g := (mkF m 7 #[.val (.ref a1)] [(.int (wh + (1 : Int32))), (.ref a1)])) rfl rfl (hb hby own_d4_7)
  have Fh_2 := Fh.same W2
  have Fi_2 := Fi.other W2 (Or.inr (slot_ne (Or.inr (hw _ (List.mem_of_getElem? (i := 11) rfl))) (Or.inl (hw _ (List.mem_of_getElem? (i := 20) rfl))) (by decide) (t := .long) (t' := .int) (by decide) (by decide)))
  have Fd_2 := Fd.other W2 (Or.inr (slot_ne (Or.inr (hw _ (List.mem_of_getElem? (i := 13) rfl))) (Or.inl (hw _ (List.mem_of_getElem? (i := 20) rfl))) (by decide) (t := (.array .byte)) (t' := .int) (by decide) (by decide)))
  have EX_2 := EX.wr W2
  have sz2 := Nat.le_trans Z0 (Keep.of_wr W2).1
  have K2 := (Keep.refl h0 [a1]).wr W2 (Or.inl (List.mem_of_getElem? (i := 0) rfl))
  have N2 := Fr.snoc X2 N0 fr_a1
  refine own_st st2 ?_
  show own_Go p e below s _ _ _ (T2.setTop (mkF m 10 #[.val (.ref a1)] []))
  exact own_endV X2 hx hlk hret (hb hby own_d4_10) (by rw [e2]; exact ⟨rfl, N2, K2, Fi_2, Fd_2, Fh_2⟩) (by decide) (by decide)
theorem own_d5_0 : decode prog_26_method_5_code 0 = .ok (.aload_n 0, 1) := by decide +kernel
theorem own_d5_1 : decode prog_26_method_5_code 1 = .ok (.dup, 1) := by decide +kernel
theorem own_d5_2 : decode prog_26_method_5_code 2 = .ok (.getfield 17, 3) := by decide +kernel
theorem own_d5_5 : decode prog_26_method_5_code 5 = .ok (.iconst 1, 1) := by decide +kernel
theorem own_d5_6 : decode prog_26_method_5_code 6 = .ok (.isub, 1) := by decide +kernel
theorem own_d5_7 : decode prog_26_method_5_code 7 = .ok (.putfield 17, 3) := by decide +kernel
theorem own_d5_10 : decode prog_26_method_5_code 10 = .ok (.return_, 1) := by decide +kernel
theorem own_pn5 : plainFor (⟨"com/example/prudent_queue/prudentqueue/queue/Message", "letGo", "()V"⟩ : MethodName) = true := by first | exact plainFor_of_name (show plainName "com/example/prudent_queue/prudentqueue/queue/Message" = true by first | (simp [plainName, overriddenIn]; done) | decide +kernel) | decide +kernel
theorem own_ef5 (m : MethodId) (x0 : Addr) : entryFrame m #[(.ref x0)] 1 = mkF m 0 #[.val (.ref x0)] [] := by first | (simp [entryFrame, mkF, argsToLocals, Value.category]; done) | rfl
set_option maxRecDepth 65536 in
set_option maxHeartbeats 40000000 in
theorem own_rm8 (l : Launch) (Z : State) (a0 : Array Value) (hw : ∀ d ∈ tables_1, d.before a0 Z = true) (a1 : Addr) (wi : Int64) (wd : Addr) (wh : Int32) (h0 : Heap) (n0 : Nat) (Z0 : n0 ≤ h0.size) (Fi : Fld Z h0 a1 "com/example/prudent_queue/prudentqueue/queue/Message" "id" "J" (.long wi)) (Fd : Fld Z h0 a1 "com/example/prudent_queue/prudentqueue/queue/Message" "data" "[B" (.ref wd)) (Fh : Fld Z h0 a1 "com/example/prudent_queue/prudentqueue/queue/Message" "holders" "I" (.int wh)) (EX : Exa Z h0 a1 "com/example/prudent_queue/prudentqueue/queue/Message") (fr_a1 : n0 ≤ a1) :
    own_Met l Z (⟨"com/example/prudent_queue/prudentqueue/queue/Message", "letGo", "()V"⟩ : MethodName) prog_26_method_5_code 1 none ({ frames := 0, cells := 0, slots := 0, locals := 0 } : Room) #[(.ref a1)] h0 (fun v h' L => v = none ∧ Fr n0 L ∧ Keep h0 h' [a1] ∧ Fld Z h' a1 "com/example/prudent_queue/prudentqueue/queue/Message" "id" "J" (.long wi) ∧ Fld Z h' a1 "com/example/prudent_queue/prudentqueue/queue/Message" "data" "[B" (.ref wd) ∧ Fld Z h' a1 "com/example/prudent_queue/prudentqueue/queue/Message" "holders" "I" (.int (wh - (1 : Int32)))) := by
  refine own_in own_pn5 ?_
  intro p e s m below meth c s₁ hx hby hml hown hnm hlk hret hZ X0 e0
  have N0 := Fr.nil n0
  refine own_ef (own_ef5 m a1) ?_
  show own_Go p e below s _ _ _ (s₁.setTop (mkF m 0 #[.val (.ref a1)] []))
  refine own_st (fun _ k => XS.aloadN X0.here hx rfl (hb hby own_d5_0) rfl rfl k) ?_
  show own_Go p e below s _ _ _ (s₁.setTop (mkF m 1 #[.val (.ref a1)] [(.ref a1)]))
  refine own_st (fun _ k => XS.dup X0.here hx rfl (hb hby own_d5_1) rfl rfl k) ?_
  show own_Go p e below s _ _ _ (s₁.setTop (mkF m 2 #[.val (.ref a1)] [(.ref a1), (.ref a1)]))
  obtain ⟨T1, X1, e1, st1⟩ := getF X0 hx hZ hown (host := "") (Or.inl (hw _ (List.mem_of_getElem? (i := 19) rfl))) Via.refl e0 Fh (g := (mkF m 2 #[.val (.ref a1)] [(.ref a1), (.ref a1)])) rfl rfl (hb hby own_d5_2)
  refine own_st st1 ?_
  show own_Go p e below s _ _ _ (T1.setTop (mkF m 5 #[.val (.ref a1)] [(.int wh), (.ref a1)]))
  refine own_st (fun _ k => XS.iconst X1.here hx rfl (hb hby own_d5_5) k) ?_
  show own_Go p e below s _ _ _ (T1.setTop (mkF m 6 #[.val (.ref a1)] [(.int (1 : Int32)), (.int wh), (.ref a1)]))
  refine own_st (fun _ k => XS.isub X1.here hx rfl (hb hby own_d5_6) rfl k) ?_
  show own_Go p e below s _ _ _ (T1.setTop (mkF m 7 #[.val (.ref a1)] [(.int (wh - (1 : Int32))), (.ref a1)]))
  obtain ⟨T2, h2, X2, e2, W2, st2⟩ := putF X1 hx hZ hown (host := "") (Or.inl (hw _ (List.mem_of_getElem? (i := 19) rfl))) Via.refl e1 Fh EX (Or.inl (hw _ (List.mem_of_getElem? (i := 20) rfl))) (hw _ (List.mem_of_getElem? (i := 2) rfl)) (ty := .int) (by decide) rfl rfl (g := (mkF m 7 #[.val (.ref a1)] [(.int (wh - (1 : Int32))), (.ref a1)])) rfl rfl (hb hby own_d5_7)
  have Fh_2 := Fh.same W2
  have Fi_2 := Fi.other W2 (Or.inr (slot_ne (Or.inr (hw _ (List.mem_of_getElem? (i := 11) rfl))) (Or.inl (hw _ (List.mem_of_getElem? (i := 20) rfl))) (by decide) (t := .long) (t' := .int) (by decide) (by decide)))
  have Fd_2 := Fd.other W2 (Or.inr (slot_ne (Or.inr (hw _ (List.mem_of_getElem? (i := 13) rfl))) (Or.inl (hw _ (List.mem_of_getElem? (i := 20) rfl))) (by decide) (t := (.array .byte)) (t' := .int) (by decide) (by decide)))
  have EX_2 := EX.wr W2
  have sz2 := Nat.le_trans Z0 (Keep.of_wr W2).1
  have K2 := (Keep.refl h0 [a1]).wr W2 (Or.inl (List.mem_of_getElem? (i := 0) rfl))
  have N2 := Fr.snoc X2 N0 fr_a1
  refine own_st st2 ?_
  show own_Go p e below s _ _ _ (T2.setTop (mkF m 10 #[.val (.ref a1)] []))
  exact own_endV X2 hx hlk hret (hb hby own_d5_10) (by rw [e2]; exact ⟨rfl, N2, K2, Fi_2, Fd_2, Fh_2⟩) (by decide) (by decide)
theorem own_pd0 : parseMethodDescriptor "()V" = some ⟨[], none⟩ := by decide +kernel
theorem own_d6_0 : decode method_2_code 0 = .ok (.iload_n 2, 1) := by decide +kernel
theorem own_d6_1 : decode method_2_code 1 = .ok (.iconst 3, 1) := by decide +kernel
theorem own_d6_2 : decode method_2_code 2 = .ok (.iand, 1) := by decide +kernel
theorem own_d6_3 : decode method_2_code 3 = .ok (.istore_n 3, 1) := by decide +kernel
theorem own_d6_4 : decode method_2_code 4 = .ok (.iload_n 3, 1) := by decide +kernel
theorem own_d6_5 : decode method_2_code 5 = .ok (.iconst 1, 1) := by decide +kernel
theorem own_d6_6 : decode method_2_code 6 = .ok (.if_icmp .eq 8, 3) := by decide +kernel
theorem own_d6_9 : decode method_2_code 9 = .ok (.iload_n 3, 1) := by decide +kernel
theorem own_d6_10 : decode method_2_code 10 = .ok (.iconst 3, 1) := by decide +kernel
theorem own_d6_11 : decode method_2_code 11 = .ok (.if_icmp .ne 11, 3) := by decide +kernel
theorem own_d6_14 : decode method_2_code 14 = .ok (.aload_n 0, 1) := by decide +kernel
theorem own_d6_15 : decode method_2_code 15 = .ok (.invokevirtual 7, 3) := by decide +kernel
theorem own_d6_18 : decode method_2_code 18 = .ok (.iload_n 1, 1) := by decide +kernel
theorem own_d6_19 : decode method_2_code 19 = .ok (.iconst 1, 1) := by decide +kernel
theorem own_d6_20 : decode method_2_code 20 = .ok (.iadd, 1) := by decide +kernel
theorem own_d6_21 : decode method_2_code 21 = .ok (.ireturn, 1) := by decide +kernel
theorem own_d6_22 : decode method_2_code 22 = .ok (.iload_n 3, 1) := by decide +kernel
theorem own_d6_23 : decode method_2_code 23 = .ok (.iconst 2, 1) := by decide +kernel
theorem own_d6_24 : decode method_2_code 24 = .ok (.if_icmp .ne 15, 3) := by decide +kernel
theorem own_d6_27 : decode method_2_code 27 = .ok (.iload_n 1, 1) := by decide +kernel
theorem own_d6_28 : decode method_2_code 28 = .ok (.ifCond .le 11, 3) := by decide +kernel
theorem own_d6_31 : decode method_2_code 31 = .ok (.aload_n 0, 1) := by decide +kernel
theorem own_d6_32 : decode method_2_code 32 = .ok (.invokevirtual 12, 3) := by decide +kernel
theorem own_d6_35 : decode method_2_code 35 = .ok (.iload_n 1, 1) := by decide +kernel
theorem own_d6_36 : decode method_2_code 36 = .ok (.iconst 1, 1) := by decide +kernel
theorem own_d6_37 : decode method_2_code 37 = .ok (.isub, 1) := by decide +kernel
theorem own_d6_38 : decode method_2_code 38 = .ok (.ireturn, 1) := by decide +kernel
theorem own_d6_39 : decode method_2_code 39 = .ok (.iload_n 1, 1) := by decide +kernel
theorem own_d6_40 : decode method_2_code 40 = .ok (.ireturn, 1) := by decide +kernel
theorem own_pn6 : plainFor (⟨"com/example/prudent_queue/prudentqueue/queue/MessageIsHeldPinLaw", "step", "(Lcom/example/prudent_queue/prudentqueue/queue/Message;II)I"⟩ : MethodName) = true := by first | exact plainFor_of_name (show plainName "com/example/prudent_queue/prudentqueue/queue/MessageIsHeldPinLaw" = true by first | (simp [plainName, overriddenIn]; done) | decide +kernel) | decide +kernel
theorem own_ef6 (m : MethodId) (x0 : Addr) (x1 : Int32) (x2 : Int32) : entryFrame m #[(.ref x0), (.int x1), (.int x2)] 4 = mkF m 0 #[.val (.ref x0), .val (.int x1), .val (.int x2), .unset] [] := by first | (simp [entryFrame, mkF, argsToLocals, Value.category]; done) | rfl
set_option maxRecDepth 65536 in
set_option maxHeartbeats 40000000 in
theorem own_rm3 (l : Launch) (Z : State) (a0 : Array Value) (hw : ∀ d ∈ tables_1, d.before a0 Z = true) (a1 : Addr) (wh p3 : Int32) (wi : Int64) (wd : Addr) (h0 : Heap) (n0 : Nat) (Z0 : n0 ≤ h0.size) (Fi : Fld Z h0 a1 "com/example/prudent_queue/prudentqueue/queue/Message" "id" "J" (.long wi)) (Fd : Fld Z h0 a1 "com/example/prudent_queue/prudentqueue/queue/Message" "data" "[B" (.ref wd)) (Fh : Fld Z h0 a1 "com/example/prudent_queue/prudentqueue/queue/Message" "holders" "I" (.int wh)) (EX : Exa Z h0 a1 "com/example/prudent_queue/prudentqueue/queue/Message") (fr_a1 : n0 ≤ a1) :
    own_Met l Z (⟨"com/example/prudent_queue/prudentqueue/queue/MessageIsHeldPinLaw", "step", "(Lcom/example/prudent_queue/prudentqueue/queue/Message;II)I"⟩ : MethodName) method_2_code 4 (some .int) ({ frames := 1, cells := 0, slots := 0, locals := 12 } : Room) #[(.ref a1), (.int wh), (.int p3)] h0 (fun v h' L => ∃ d : Int32, v = some (.int d) ∧ Fr n0 L ∧ Keep h0 h' [a1] ∧ Fld Z h' a1 "com/example/prudent_queue/prudentqueue/queue/Message" "id" "J" (.long wi) ∧ Fld Z h' a1 "com/example/prudent_queue/prudentqueue/queue/Message" "data" "[B" (.ref wd) ∧ Fld Z h' a1 "com/example/prudent_queue/prudentqueue/queue/Message" "holders" "I" (.int d)) := by
  refine own_in own_pn6 ?_
  intro p e s m below meth c s₁ hx hby hml hown hnm hlk hret hZ X0 e0
  have N0 := Fr.nil n0
  refine own_ef (own_ef6 m a1 wh p3) ?_
  show own_Go p e below s _ _ _ (s₁.setTop (mkF m 0 #[.val (.ref a1), .val (.int wh), .val (.int p3), .unset] []))
  refine own_st (fun _ k => XS.iloadN X0.here hx rfl (hb hby own_d6_0) rfl k) ?_
  show own_Go p e below s _ _ _ (s₁.setTop (mkF m 1 #[.val (.ref a1), .val (.int wh), .val (.int p3), .unset] [(.int p3)]))
  refine own_st (fun _ k => XS.iconst X0.here hx rfl (hb hby own_d6_1) k) ?_
  show own_Go p e below s _ _ _ (s₁.setTop (mkF m 2 #[.val (.ref a1), .val (.int wh), .val (.int p3), .unset] [(.int (3 : Int32)), (.int p3)]))
  refine own_st (fun _ k => XS.iand X0.here hx rfl (hb hby own_d6_2) rfl k) ?_
  show own_Go p e below s _ _ _ (s₁.setTop (mkF m 3 #[.val (.ref a1), .val (.int wh), .val (.int p3), .unset] [(.int (p3 &&& (3 : Int32)))]))
  refine own_st (fun _ k => XS.istoreN X0.here hx rfl (hb hby own_d6_3) rfl (l' := #[.val (.ref a1), .val (.int wh), .val (.int p3), .val (.int (p3 &&& (3 : Int32)))]) rfl k) ?_
  show own_Go p e below s _ _ _ (s₁.setTop (mkF m 4 #[.val (.ref a1), .val (.int wh), .val (.int p3), .val (.int (p3 &&& (3 : Int32)))] []))
  refine own_st (fun _ k => XS.iloadN X0.here hx rfl (hb hby own_d6_4) rfl k) ?_
  show own_Go p e below s _ _ _ (s₁.setTop (mkF m 5 #[.val (.ref a1), .val (.int wh), .val (.int p3), .val (.int (p3 &&& (3 : Int32)))] [(.int (p3 &&& (3 : Int32)))]))
  refine own_st (fun _ k => XS.iconst X0.here hx rfl (hb hby own_d6_5) k) ?_
  show own_Go p e below s _ _ _ (s₁.setTop (mkF m 6 #[.val (.ref a1), .val (.int wh), .val (.int p3), .val (.int (p3 &&& (3 : Int32)))] [(.int (1 : Int32)), (.int (p3 &&& (3 : Int32)))]))
  rcases Classical.em ((p3 &&& (3 : Int32)) = (1 : Int32)) with c1 | c1
  · show own_Go p e below s _ _ _ (s₁.setTop (mkF m 6 #[.val (.ref a1), .val (.int wh), .val (.int p3), .val (.int (p3 &&& (3 : Int32)))] [(.int (1 : Int32)), (.int (p3 &&& (3 : Int32)))]))
    refine own_st (fun _ k => XS.icmpYes X0.here hx rfl (pc0 := 6) (pc' := 14) rfl (hb hby own_d6_6) rfl (teq c1).1 (by decide) (by decide) k) ?_
    show own_Go p e below s _ _ _ (s₁.setTop (mkF m 14 #[.val (.ref a1), .val (.int wh), .val (.int p3), .val (.int (p3 &&& (3 : Int32)))] []))
    refine own_st (fun _ k => XS.aloadN X0.here hx rfl (hb hby own_d6_14) rfl rfl k) ?_
    show own_Go p e below s _ _ _ (s₁.setTop (mkF m 15 #[.val (.ref a1), .val (.int wh), .val (.int p3), .val (.int (p3 &&& (3 : Int32)))] [(.ref a1)]))
    refine own_cV X0 hx hml hZ hown (hw _ (List.mem_of_getElem? (i := 35) rfl)) (hw _ (List.mem_of_getElem? (i := 36) rfl)) (hw _ (List.mem_of_getElem? (i := 38) rfl)) (hw _ (List.mem_of_getElem? (i := 37) rfl)) (hw _ (List.mem_of_getElem? (i := 3) rfl)) (hw _ (List.mem_of_getElem? (i := 39) rfl)) (by decide) (own_rm7 l Z a0 hw a1 wi wd wh h0 n0 Z0 Fi Fd Fh EX fr_a1) e0 EX (by decide) (W := 0) (by decide) (g := (mkF m 15 #[.val (.ref a1), .val (.int wh), .val (.int p3), .val (.int (p3 &&& (3 : Int32)))] [(.ref a1)])) rfl rfl own_pd0 (argsL := []) (rest := []) rfl rfl rfl (by show 2 * 0 + _ ≤ _; exact Nat.le_of_eq rfl) (hb hby own_d6_15) (by decide) (by decide) ?_
    intro T1 L1 v1 X1 hQ1
    obtain ⟨rfl, Nc1, K1, Fi1, Fd1, Fh1⟩ := hQ1
    have N1 := Fr.app N0 Nc1
    have EX_1 := EX.keep K1
    have sz1 := Nat.le_trans Z0 K1.1
    have KK1 := (Keep.refl h0 [a1]).trans K1 (allS (Or.inl (List.mem_of_getElem? (i := 0) rfl)) all0)
    show own_Go p e below s _ _ _ (T1.setTop (mkF m 18 #[.val (.ref a1), .val (.int wh), .val (.int p3), .val (.int (p3 &&& (3 : Int32)))] []))
    refine own_st (fun _ k => XS.iloadN X1.here hx rfl (hb hby own_d6_18) rfl k) ?_
    show own_Go p e below s _ _ _ (T1.setTop (mkF m 19 #[.val (.ref a1), .val (.int wh), .val (.int p3), .val (.int (p3 &&& (3 : Int32)))] [(.int wh)]))
    refine own_st (fun _ k => XS.iconst X1.here hx rfl (hb hby own_d6_19) k) ?_
    show own_Go p e below s _ _ _ (T1.setTop (mkF m 20 #[.val (.ref a1), .val (.int wh), .val (.int p3), .val (.int (p3 &&& (3 : Int32)))] [(.int (1 : Int32)), (.int wh)]))
    refine own_st (fun _ k => XS.iadd X1.here hx rfl (hb hby own_d6_20) rfl k) ?_
    show own_Go p e below s _ _ _ (T1.setTop (mkF m 21 #[.val (.ref a1), .val (.int wh), .val (.int p3), .val (.int (p3 &&& (3 : Int32)))] [(.int (wh + (1 : Int32)))]))
    exact own_endI X1 hx hlk hret (hb hby own_d6_21) ⟨_, rfl, N1, K1, Fi1, Fd1, Fh1⟩ (by decide) (by decide)
  · show own_Go p e below s _ _ _ (s₁.setTop (mkF m 6 #[.val (.ref a1), .val (.int wh), .val (.int p3), .val (.int (p3 &&& (3 : Int32)))] [(.int (1 : Int32)), (.int (p3 &&& (3 : Int32)))]))
    refine own_st (fun _ k => XS.icmpNo X0.here hx rfl (hb hby own_d6_6) rfl (feq c1).1 k) ?_
    show own_Go p e below s _ _ _ (s₁.setTop (mkF m 9 #[.val (.ref a1), .val (.int wh), .val (.int p3), .val (.int (p3 &&& (3 : Int32)))] []))
    refine own_st (fun _ k => XS.iloadN X0.here hx rfl (hb hby own_d6_9) rfl k) ?_
    show own_Go p e below s _ _ _ (s₁.setTop (mkF m 10 #[.val (.ref a1), .val (.int wh), .val (.int p3), .val (.int (p3 &&& (3 : Int32)))] [(.int (p3 &&& (3 : Int32)))]))
    refine own_st (fun _ k => XS.iconst X0.here hx rfl (hb hby own_d6_10) k) ?_
    show own_Go p e below s _ _ _ (s₁.setTop (mkF m 11 #[.val (.ref a1), .val (.int wh), .val (.int p3), .val (.int (p3 &&& (3 : Int32)))] [(.int (3 : Int32)), (.int (p3 &&& (3 : Int32)))]))
    rcases Classical.em ((p3 &&& (3 : Int32)) = (3 : Int32)) with c2 | c2
    · show own_Go p e below s _ _ _ (s₁.setTop (mkF m 11 #[.val (.ref a1), .val (.int wh), .val (.int p3), .val (.int (p3 &&& (3 : Int32)))] [(.int (3 : Int32)), (.int (p3 &&& (3 : Int32)))]))
      refine own_st (fun _ k => XS.icmpNo X0.here hx rfl (hb hby own_d6_11) rfl (teq c2).2 k) ?_
      show own_Go p e below s _ _ _ (s₁.setTop (mkF m 14 #[.val (.ref a1), .val (.int wh), .val (.int p3), .val (.int (p3 &&& (3 : Int32)))] []))
      refine own_st (fun _ k => XS.aloadN X0.here hx rfl (hb hby own_d6_14) rfl rfl k) ?_
      show own_Go p e below s _ _ _ (s₁.setTop (mkF m 15 #[.val (.ref a1), .val (.int wh), .val (.int p3), .val (.int (p3 &&& (3 : Int32)))] [(.ref a1)]))
      refine own_cV X0 hx hml hZ hown (hw _ (List.mem_of_getElem? (i := 35) rfl)) (hw _ (List.mem_of_getElem? (i := 36) rfl)) (hw _ (List.mem_of_getElem? (i := 38) rfl)) (hw _ (List.mem_of_getElem? (i := 37) rfl)) (hw _ (List.mem_of_getElem? (i := 3) rfl)) (hw _ (List.mem_of_getElem? (i := 39) rfl)) (by decide) (own_rm7 l Z a0 hw a1 wi wd wh h0 n0 Z0 Fi Fd Fh EX fr_a1) e0 EX (by decide) (W := 0) (by decide) (g := (mkF m 15 #[.val (.ref a1), .val (.int wh), .val (.int p3), .val (.int (p3 &&& (3 : Int32)))] [(.ref a1)])) rfl rfl own_pd0 (argsL := []) (rest := []) rfl rfl rfl (by show 2 * 0 + _ ≤ _; exact Nat.le_of_eq rfl) (hb hby own_d6_15) (by decide) (by decide) ?_
      intro T2 L2 v2 X2 hQ2
      obtain ⟨rfl, Nc2, K2, Fi2, Fd2, Fh2⟩ := hQ2
      have N2 := Fr.app N0 Nc2
      have EX_2 := EX.keep K2
      have sz2 := Nat.le_trans Z0 K2.1
      have KK2 := (Keep.refl h0 [a1]).trans K2 (allS (Or.inl (List.mem_of_getElem? (i := 0) rfl)) all0)
      show own_Go p e below s _ _ _ (T2.setTop (mkF m 18 #[.val (.ref a1), .val (.int wh), .val (.int p3), .val (.int (p3 &&& (3 : Int32)))] []))
      refine own_st (fun _ k => XS.iloadN X2.here hx rfl (hb hby own_d6_18) rfl k) ?_
      show own_Go p e below s _ _ _ (T2.setTop (mkF m 19 #[.val (.ref a1), .val (.int wh), .val (.int p3), .val (.int (p3 &&& (3 : Int32)))] [(.int wh)]))
      refine own_st (fun _ k => XS.iconst X2.here hx rfl (hb hby own_d6_19) k) ?_
      show own_Go p e below s _ _ _ (T2.setTop (mkF m 20 #[.val (.ref a1), .val (.int wh), .val (.int p3), .val (.int (p3 &&& (3 : Int32)))] [(.int (1 : Int32)), (.int wh)]))
      refine own_st (fun _ k => XS.iadd X2.here hx rfl (hb hby own_d6_20) rfl k) ?_
      show own_Go p e below s _ _ _ (T2.setTop (mkF m 21 #[.val (.ref a1), .val (.int wh), .val (.int p3), .val (.int (p3 &&& (3 : Int32)))] [(.int (wh + (1 : Int32)))]))
      exact own_endI X2 hx hlk hret (hb hby own_d6_21) ⟨_, rfl, N2, K2, Fi2, Fd2, Fh2⟩ (by decide) (by decide)
    · show own_Go p e below s _ _ _ (s₁.setTop (mkF m 11 #[.val (.ref a1), .val (.int wh), .val (.int p3), .val (.int (p3 &&& (3 : Int32)))] [(.int (3 : Int32)), (.int (p3 &&& (3 : Int32)))]))
      refine own_st (fun _ k => XS.icmpYes X0.here hx rfl (pc0 := 11) (pc' := 22) rfl (hb hby own_d6_11) rfl (feq c2).2 (by decide) (by decide) k) ?_
      show own_Go p e below s _ _ _ (s₁.setTop (mkF m 22 #[.val (.ref a1), .val (.int wh), .val (.int p3), .val (.int (p3 &&& (3 : Int32)))] []))
      refine own_st (fun _ k => XS.iloadN X0.here hx rfl (hb hby own_d6_22) rfl k) ?_
      show own_Go p e below s _ _ _ (s₁.setTop (mkF m 23 #[.val (.ref a1), .val (.int wh), .val (.int p3), .val (.int (p3 &&& (3 : Int32)))] [(.int (p3 &&& (3 : Int32)))]))
      refine own_st (fun _ k => XS.iconst X0.here hx rfl (hb hby own_d6_23) k) ?_
      show own_Go p e below s _ _ _ (s₁.setTop (mkF m 24 #[.val (.ref a1), .val (.int wh), .val (.int p3), .val (.int (p3 &&& (3 : Int32)))] [(.int (2 : Int32)), (.int (p3 &&& (3 : Int32)))]))
      rcases Classical.em ((p3 &&& (3 : Int32)) = (2 : Int32)) with c3 | c3
      · show own_Go p e below s _ _ _ (s₁.setTop (mkF m 24 #[.val (.ref a1), .val (.int wh), .val (.int p3), .val (.int (p3 &&& (3 : Int32)))] [(.int (2 : Int32)), (.int (p3 &&& (3 : Int32)))]))
        refine own_st (fun _ k => XS.icmpNo X0.here hx rfl (hb hby own_d6_24) rfl (teq c3).2 k) ?_
        show own_Go p e below s _ _ _ (s₁.setTop (mkF m 27 #[.val (.ref a1), .val (.int wh), .val (.int p3), .val (.int (p3 &&& (3 : Int32)))] []))
        refine own_st (fun _ k => XS.iloadN X0.here hx rfl (hb hby own_d6_27) rfl k) ?_
        show own_Go p e below s _ _ _ (s₁.setTop (mkF m 28 #[.val (.ref a1), .val (.int wh), .val (.int p3), .val (.int (p3 &&& (3 : Int32)))] [(.int wh)]))
        rcases Classical.em ((0 : Int32) < wh) with c4 | c4
        · show own_Go p e below s _ _ _ (s₁.setTop (mkF m 28 #[.val (.ref a1), .val (.int wh), .val (.int p3), .val (.int (p3 &&& (3 : Int32)))] [(.int wh)]))
          refine own_st (fun _ k => XS.ifNo X0.here hx rfl (hb hby own_d6_28) rfl ((if0 _ _).trans (tlt c4).2.2.2) k) ?_
          show own_Go p e below s _ _ _ (s₁.setTop (mkF m 31 #[.val (.ref a1), .val (.int wh), .val (.int p3), .val (.int (p3 &&& (3 : Int32)))] []))
          refine own_st (fun _ k => XS.aloadN X0.here hx rfl (hb hby own_d6_31) rfl rfl k) ?_
          show own_Go p e below s _ _ _ (s₁.setTop (mkF m 32 #[.val (.ref a1), .val (.int wh), .val (.int p3), .val (.int (p3 &&& (3 : Int32)))] [(.ref a1)]))
          refine own_cV X0 hx hml hZ hown (hw _ (List.mem_of_getElem? (i := 40) rfl)) (hw _ (List.mem_of_getElem? (i := 41) rfl)) (hw _ (List.mem_of_getElem? (i := 43) rfl)) (hw _ (List.mem_of_getElem? (i := 42) rfl)) (hw _ (List.mem_of_getElem? (i := 3) rfl)) (hw _ (List.mem_of_getElem? (i := 44) rfl)) (by decide) (own_rm8 l Z a0 hw a1 wi wd wh h0 n0 Z0 Fi Fd Fh EX fr_a1) e0 EX (by decide) (W := 0) (by decide) (g := (mkF m 32 #[.val (.ref a1), .val (.int wh), .val (.int p3), .val (.int (p3 &&& (3 : Int32)))] [(.ref a1)])) rfl rfl own_pd0 (argsL := []) (rest := []) rfl rfl rfl (by show 2 * 0 + _ ≤ _; exact Nat.le_of_eq rfl) (hb hby own_d6_32) (by decide) (by decide) ?_
          intro T3 L3 v3 X3 hQ3
          obtain ⟨rfl, Nc3, K3, Fi3, Fd3, Fh3⟩ := hQ3
          have N3 := Fr.app N0 Nc3
          have EX_3 := EX.keep K3
          have sz3 := Nat.le_trans Z0 K3.1
          have KK3 := (Keep.refl h0 [a1]).trans K3 (allS (Or.inl (List.mem_of_getElem? (i := 0) rfl)) all0)
          show own_Go p e below s _ _ _ (T3.setTop (mkF m 35 #[.val (.ref a1), .val (.int wh), .val (.int p3), .val (.int (p3 &&& (3 : Int32)))] []))
          refine own_st (fun _ k => XS.iloadN X3.here hx rfl (hb hby own_d6_35) rfl k) ?_
          show own_Go p e below s _ _ _ (T3.setTop (mkF m 36 #[.val (.ref a1), .val (.int wh), .val (.int p3), .val (.int (p3 &&& (3 : Int32)))] [(.int wh)]))
          refine own_st (fun _ k => XS.iconst X3.here hx rfl (hb hby own_d6_36) k) ?_
          show own_Go p e below s _ _ _ (T3.setTop (mkF m 37 #[.val (.ref a1), .val (.int wh), .val (.int p3), .val (.int (p3 &&& (3 : Int32)))] [(.int (1 : Int32)), (.int wh)]))
          refine own_st (fun _ k => XS.isub X3.here hx rfl (hb hby own_d6_37) rfl k) ?_
          show own_Go p e below s _ _ _ (T3.setTop (mkF m 38 #[.val (.ref a1), .val (.int wh), .val (.int p3), .val (.int (p3 &&& (3 : Int32)))] [(.int (wh - (1 : Int32)))]))
          exact own_endI X3 hx hlk hret (hb hby own_d6_38) ⟨_, rfl, N3, K3, Fi3, Fd3, Fh3⟩ (by decide) (by decide)
        · show own_Go p e below s _ _ _ (s₁.setTop (mkF m 28 #[.val (.ref a1), .val (.int wh), .val (.int p3), .val (.int (p3 &&& (3 : Int32)))] [(.int wh)]))
          refine own_st (fun _ k => XS.ifYes X0.here hx rfl (pc0 := 28) (pc' := 39) rfl (hb hby own_d6_28) rfl ((if0 _ _).trans (flt c4).2.2.2) (by decide) (by decide) k) ?_
          show own_Go p e below s _ _ _ (s₁.setTop (mkF m 39 #[.val (.ref a1), .val (.int wh), .val (.int p3), .val (.int (p3 &&& (3 : Int32)))] []))
          refine own_st (fun _ k => XS.iloadN X0.here hx rfl (hb hby own_d6_39) rfl k) ?_
          show own_Go p e below s _ _ _ (s₁.setTop (mkF m 40 #[.val (.ref a1), .val (.int wh), .val (.int p3), .val (.int (p3 &&& (3 : Int32)))] [(.int wh)]))
          exact own_endI X0 hx hlk hret (hb hby own_d6_40) (by rw [e0]; exact ⟨_, rfl, N0, Keep.refl _ _, Fi, Fd, Fh⟩) (by decide) (by decide)
      · show own_Go p e below s _ _ _ (s₁.setTop (mkF m 24 #[.val (.ref a1), .val (.int wh), .val (.int p3), .val (.int (p3 &&& (3 : Int32)))] [(.int (2 : Int32)), (.int (p3 &&& (3 : Int32)))]))
        refine own_st (fun _ k => XS.icmpYes X0.here hx rfl (pc0 := 24) (pc' := 39) rfl (hb hby own_d6_24) rfl (feq c3).2 (by decide) (by decide) k) ?_
        show own_Go p e below s _ _ _ (s₁.setTop (mkF m 39 #[.val (.ref a1), .val (.int wh), .val (.int p3), .val (.int (p3 &&& (3 : Int32)))] []))
        refine own_st (fun _ k => XS.iloadN X0.here hx rfl (hb hby own_d6_39) rfl k) ?_
        show own_Go p e below s _ _ _ (s₁.setTop (mkF m 40 #[.val (.ref a1), .val (.int wh), .val (.int p3), .val (.int (p3 &&& (3 : Int32)))] [(.int wh)]))
        exact own_endI X0 hx hlk hret (hb hby own_d6_40) (by rw [e0]; exact ⟨_, rfl, N0, Keep.refl _ _, Fi, Fd, Fh⟩) (by decide) (by decide)
theorem own_pd1 : parseMethodDescriptor "(J[B)V" = some ⟨[.long, (.array .byte)], none⟩ := by decide +kernel
theorem own_pd2 : parseMethodDescriptor "()Z" = some ⟨[], some .boolean⟩ := by decide +kernel
theorem own_pd3 : parseMethodDescriptor "(Lcom/example/prudent_queue/prudentqueue/queue/Message;II)I" = some ⟨[(.object "com/example/prudent_queue/prudentqueue/queue/Message"), .int, .int], some .int⟩ := by decide +kernel
theorem own_pd4 : parseMethodDescriptor "()J" = some ⟨[], some .long⟩ := by decide +kernel
theorem own_pd5 : parseMethodDescriptor "()[B" = some ⟨[], some (.array .byte)⟩ := by decide +kernel
theorem own_pn7 : plainFor x = true := by first | exact plainFor_of_name (show plainName "com/example/prudent_queue/prudentqueue/queue/MessageIsHeldPinLaw" = true by first | (simp [plainName, overriddenIn]; done) | decide +kernel) | decide +kernel
theorem own_ef7 (m : MethodId) (x0 : Int64) (x1 : Int32) (x2 : Int32) : entryFrame m #[(.long x0), (.int x1), (.int x2)] maxLocals = mkF m 0 #[.val (.long x0), .second, .val (.int x1), .val (.int x2), .unset, .unset, .unset, .unset] [] := by first | (simp [entryFrame, mkF, argsToLocals, Value.category, maxLocals]; done) | rfl
set_option maxRecDepth 65536 in
set_option maxHeartbeats 40000000 in
theorem own_rm0 (l : Launch) (Z : State) (a0 : Array Value) (hw : ∀ d ∈ tables_1, d.before a0 Z = true) (ai : Int64) (aops ab : Int32) (h0 : Heap) (n0 : Nat) (Z0 : n0 ≤ h0.size)  :
    own_Met l Z x code maxLocals ret room_1 #[(.long ai), (.int aops), (.int ab)] h0 (fun v h' L => v = some (.int 1) ∧ Fr n0 L) := by
  refine own_in own_pn7 ?_
  intro p e s m below meth c s₁ hx hby hml hown hnm hlk hret hZ X0 e0
  have N0 := Fr.nil n0
  refine own_ef (own_ef7 m ai aops ab) ?_
  show own_Go p e below s _ _ _ (s₁.setTop (mkF m 0 #[.val (.long ai), .second, .val (.int aops), .val (.int ab), .unset, .unset, .unset, .unset] []))
  refine own_st (fun _ k => XS.iconst X0.here hx rfl (hb hby at_0) k) ?_
  show own_Go p e below s _ _ _ (s₁.setTop (mkF m 1 #[.val (.long ai), .second, .val (.int aops), .val (.int ab), .unset, .unset, .unset, .unset] [(.int (1 : Int32))]))
  obtain ⟨T1, h1, da, g1, X1, e1, E1, Vda, st1⟩ := own_newA X0 hx hZ (hw _ (List.mem_of_getElem? (i := 0) rfl)) e0 (g := (mkF m 1 #[.val (.long ai), .second, .val (.int aops), .val (.int ab), .unset, .unset, .unset, .unset] [(.int (1 : Int32))])) rfl (hb hby at_1) rfl (n := 1) (cap := 1) (by decide) (by decide) (by decide) (by decide) (by decide)
  replace Vda : own_Av Z h1 da .byte 1 (fun _ => .int 0) := Vda
  have fr_da : n0 ≤ da := Nat.le_trans Z0 (Nat.le_of_eq g1.symm)
  have sz1 := Nat.le_trans Z0 E1.1
  refine own_st st1 ?_
  show own_Go p e below s _ _ _ (T1.setTop (mkF m 3 #[.val (.long ai), .second, .val (.int aops), .val (.int ab), .unset, .unset, .unset, .unset] [(.ref da)]))
  refine own_st (fun _ k => XS.dup X1.here hx rfl (hb hby at_3) rfl rfl k) ?_
  show own_Go p e below s _ _ _ (T1.setTop (mkF m 4 #[.val (.long ai), .second, .val (.int aops), .val (.int ab), .unset, .unset, .unset, .unset] [(.ref da), (.ref da)]))
  refine own_st (fun _ k => XS.iconst X1.here hx rfl (hb hby at_4) k) ?_
  show own_Go p e below s _ _ _ (T1.setTop (mkF m 5 #[.val (.long ai), .second, .val (.int aops), .val (.int ab), .unset, .unset, .unset, .unset] [(.int (0 : Int32)), (.ref da), (.ref da)]))
  refine own_st (fun _ k => XS.iloadN X1.here hx rfl (hb hby at_5) rfl k) ?_
  show own_Go p e below s _ _ _ (T1.setTop (mkF m 6 #[.val (.long ai), .second, .val (.int aops), .val (.int ab), .unset, .unset, .unset, .unset] [(.int ab), (.int (0 : Int32)), (.ref da), (.ref da)]))
  refine own_st (fun _ k => XS.i2b X1.here hx rfl (hb hby at_6) rfl k) ?_
  show own_Go p e below s _ _ _ (T1.setTop (mkF m 7 #[.val (.long ai), .second, .val (.int aops), .val (.int ab), .unset, .unset, .unset, .unset] [(.int (ab).toInt8.toInt32), (.int (0 : Int32)), (.ref da), (.ref da)]))
  obtain ⟨T2, h2, X2, e2, W2, Vda_2, st2⟩ := own_stB X1 hx hZ e1 Vda (i := 0) (by decide) (by decide) (g := (mkF m 7 #[.val (.long ai), .second, .val (.int aops), .val (.int ab), .unset, .unset, .unset, .unset] [(.int (ab).toInt8.toInt32), (.int (0 : Int32)), (.ref da), (.ref da)])) rfl rfl (hb hby at_7)
  have sz2 := Nat.le_trans sz1 (Keep.of_wr W2).1
  have N2 := Fr.snoc X2 N0 fr_da
  refine own_st st2 ?_
  show own_Go p e below s _ _ _ (T2.setTop (mkF m 8 #[.val (.long ai), .second, .val (.int aops), .val (.int ab), .unset, .unset, .unset, .unset] [(.ref da)]))
  refine own_st (fun _ k => XS.astore X2.here hx rfl (hb hby at_8) rfl rfl (l' := #[.val (.long ai), .second, .val (.int aops), .val (.int ab), .val (.ref da), .unset, .unset, .unset]) rfl k) ?_
  show own_Go p e below s _ _ _ (T2.setTop (mkF m 10 #[.val (.long ai), .second, .val (.int aops), .val (.int ab), .val (.ref da), .unset, .unset, .unset] []))
  obtain ⟨T3, h3, X3, e3, E3, A3, D3, -, st3⟩ := newO X2 hx hZ hown (hw _ (List.mem_of_getElem? (i := 1) rfl)) (hw _ (List.mem_of_getElem? (i := 2) rfl)) (hw _ (List.mem_of_getElem? (i := 3) rfl)) e2 (g := (mkF m 10 #[.val (.long ai), .second, .val (.int aops), .val (.int ab), .val (.ref da), .unset, .unset, .unset] [])) rfl (hb hby at_10) (by decide) (by decide)
  obtain ⟨ms, g3⟩ : ∃ z, z = h2.size := ⟨_, rfl⟩
  rw [← g3] at A3 D3 st3
  have ne_da_ms : da ≠ ms := Nat.ne_of_lt (Nat.lt_of_lt_of_eq Vda_2.lt g3.symm)
  have fr_ms : n0 ≤ ms := Nat.le_trans sz2 (Nat.le_of_eq g3.symm)
  have Vda_3 := Vda_2.ext E3
  have sz3 := Nat.le_trans sz2 E3.1
  have EXms := A3
  have Fms_id : Fld Z h3 ms "com/example/prudent_queue/prudentqueue/queue/Message" "id" "J" (.long 0) := D3 (Or.inr (hw _ (List.mem_of_getElem? (i := 11) rfl))) (ty := .long) (by decide)
  have Fms_data : Fld Z h3 ms "com/example/prudent_queue/prudentqueue/queue/Message" "data" "[B" .null := D3 (Or.inr (hw _ (List.mem_of_getElem? (i := 13) rfl))) (ty := (.array .byte)) (by decide)
  have Fms_holders : Fld Z h3 ms "com/example/prudent_queue/prudentqueue/queue/Message" "holders" "I" (.int 0) := D3 (Or.inl (hw _ (List.mem_of_getElem? (i := 20) rfl))) (ty := .int) (by decide)
  refine own_st st3 ?_
  show own_Go p e below s _ _ _ (T3.setTop (mkF m 13 #[.val (.long ai), .second, .val (.int aops), .val (.int ab), .val (.ref da), .unset, .unset, .unset] [(.ref ms)]))
  refine own_st (fun _ k => XS.dup X3.here hx rfl (hb hby at_13) rfl rfl k) ?_
  show own_Go p e below s _ _ _ (T3.setTop (mkF m 14 #[.val (.long ai), .second, .val (.int aops), .val (.int ab), .val (.ref da), .unset, .unset, .unset] [(.ref ms), (.ref ms)]))
  refine own_st (fun _ k => XS.lloadN X3.here hx rfl (hb hby at_14) rfl k) ?_
  show own_Go p e below s _ _ _ (T3.setTop (mkF m 15 #[.val (.long ai), .second, .val (.int aops), .val (.int ab), .val (.ref da), .unset, .unset, .unset] [(.long ai), (.ref ms), (.ref ms)]))
  refine own_st (fun _ k => XS.aload X3.here hx rfl (hb hby at_15) rfl rfl k) ?_
  show own_Go p e below s _ _ _ (T3.setTop (mkF m 17 #[.val (.long ai), .second, .val (.int aops), .val (.int ab), .val (.ref da), .unset, .unset, .unset] [(.ref da), (.long ai), (.ref ms), (.ref ms)]))
  refine own_cN X3 hx hml hZ rfl hown (hw _ (List.mem_of_getElem? (i := 4) rfl)) (hw _ (List.mem_of_getElem? (i := 5) rfl)) (hw _ (List.mem_of_getElem? (i := 3) rfl)) (hw _ (List.mem_of_getElem? (i := 6) rfl)) (by decide) (own_rm1 l Z a0 hw ms ai da h3 n0 sz3 Fms_id Fms_data Fms_holders EXms fr_ms) e3 (by decide) (W := 1) (by decide) (g := (mkF m 17 #[.val (.long ai), .second, .val (.int aops), .val (.int ab), .val (.ref da), .unset, .unset, .unset] [(.ref da), (.long ai), (.ref ms), (.ref ms)])) rfl rfl own_pd1 (argsL := [(.long ai), (.ref da)]) (rest := [(.ref ms)]) rfl rfl rfl (by show 2 * 0 + _ ≤ _; exact Nat.le_of_eq rfl) (hb hby at_17) (by decide) (by decide) ?_
  intro T4 L4 v4 X4 hQ4
  obtain ⟨rfl, Nc4, K4, Fi4, Fd4, Fh4⟩ := hQ4
  have N4 := Fr.app N2 Nc4
  have Vda_4 := Vda_3.keep K4 (ninS ne_da_ms nin0)
  have EXms_4 := EXms.keep K4
  have sz4 := Nat.le_trans sz3 K4.1
  show own_Go p e below s _ _ _ (T4.setTop (mkF m 20 #[.val (.long ai), .second, .val (.int aops), .val (.int ab), .val (.ref da), .unset, .unset, .unset] [(.ref ms)]))
  refine own_st (fun _ k => XS.astore X4.here hx rfl (hb hby at_20) rfl rfl (l' := #[.val (.long ai), .second, .val (.int aops), .val (.int ab), .val (.ref da), .val (.ref ms), .unset, .unset]) rfl k) ?_
  show own_Go p e below s _ _ _ (T4.setTop (mkF m 22 #[.val (.long ai), .second, .val (.int aops), .val (.int ab), .val (.ref da), .val (.ref ms), .unset, .unset] []))
  refine own_st (fun _ k => XS.aload X4.here hx rfl (hb hby at_22) rfl rfl k) ?_
  show own_Go p e below s _ _ _ (T4.setTop (mkF m 24 #[.val (.long ai), .second, .val (.int aops), .val (.int ab), .val (.ref da), .val (.ref ms), .unset, .unset] [(.ref ms)]))
  refine own_cV X4 hx hml hZ hown (hw _ (List.mem_of_getElem? (i := 14) rfl)) (hw _ (List.mem_of_getElem? (i := 15) rfl)) (hw _ (List.mem_of_getElem? (i := 17) rfl)) (hw _ (List.mem_of_getElem? (i := 16) rfl)) (hw _ (List.mem_of_getElem? (i := 3) rfl)) (hw _ (List.mem_of_getElem? (i := 18) rfl)) (by decide) (own_rm2 l Z a0 hw ms (0 : Int32) T4.heap n0 sz4 Fh4) (rfl : T4.heap = T4.heap) EXms_4 (by decide) (W := 0) (by decide) (g := (mkF m 24 #[.val (.long ai), .second, .val (.int aops), .val (.int ab), .val (.ref da), .val (.ref ms), .unset, .unset] [(.ref ms)])) rfl rfl own_pd2 (argsL := []) (rest := []) rfl rfl rfl (by show 2 * 0 + _ ≤ _; exact Nat.le_of_eq rfl) (hb hby at_24) (by decide) (by decide) ?_
  intro T5 L5 v5 X5 hQ5
  obtain ⟨rfl, eh5, le5⟩ := hQ5
  have N5 := own_nil N4 le5
  show own_Go p e below s _ _ _ (T5.setTop (mkF m 27 #[.val (.long ai), .second, .val (.int aops), .val (.int ab), .val (.ref da), .val (.ref ms), .unset, .unset] [(.int (own_pos (0 : Int32)))]))
  refine own_st (fun _ k => XS.ifNo X5.here hx rfl (hb hby at_27) rfl ((if0 _ _).trans (teq (by decide)).2) k) ?_
  show own_Go p e below s _ _ _ (T5.setTop (mkF m 30 #[.val (.long ai), .second, .val (.int aops), .val (.int ab), .val (.ref da), .val (.ref ms), .unset, .unset] []))
  refine own_st (fun _ k => XS.iconst X5.here hx rfl (hb hby at_30) k) ?_
  show own_Go p e below s _ _ _ (T5.setTop (mkF m 31 #[.val (.long ai), .second, .val (.int aops), .val (.int ab), .val (.ref da), .val (.ref ms), .unset, .unset] [(.int (1 : Int32))]))
  refine own_st (fun _ k => XS.goto X5.here hx rfl (pc0 := 31) (pc' := 35) rfl (hb hby at_31) (by decide) (by decide) k) ?_
  show own_Go p e below s _ _ _ (T5.setTop (mkF m 35 #[.val (.long ai), .second, .val (.int aops), .val (.int ab), .val (.ref da), .val (.ref ms), .unset, .unset] [(.int (1 : Int32))]))
  refine own_st (fun _ k => XS.istore X5.here hx rfl (hb hby at_35) rfl (l' := #[.val (.long ai), .second, .val (.int aops), .val (.int ab), .val (.ref da), .val (.ref ms), .val (.int (1 : Int32)), .unset]) rfl k) ?_
  show own_Go p e below s _ _ _ (T5.setTop (mkF m 37 #[.val (.long ai), .second, .val (.int aops), .val (.int ab), .val (.ref da), .val (.ref ms), .val (.int (1 : Int32)), .unset] []))
  refine own_st (fun _ k => XS.iconst X5.here hx rfl (hb hby at_37) k) ?_
  show own_Go p e below s _ _ _ (T5.setTop (mkF m 38 #[.val (.long ai), .second, .val (.int aops), .val (.int ab), .val (.ref da), .val (.ref ms), .val (.int (1 : Int32)), .unset] [(.int (0 : Int32))]))
  refine own_st (fun _ k => XS.istore X5.here hx rfl (hb hby at_38) rfl (l' := #[.val (.long ai), .second, .val (.int aops), .val (.int ab), .val (.ref da), .val (.ref ms), .val (.int (1 : Int32)), .val (.int (0 : Int32))]) rfl k) ?_
  show own_Go p e below s _ _ _ (T5.setTop (mkF m 40 #[.val (.long ai), .second, .val (.int aops), .val (.int ab), .val (.ref da), .val (.ref ms), .val (.int (1 : Int32)), .val (.int (0 : Int32))] []))
  refine own_st (fun _ k => XS.aload X5.here hx rfl (hb hby at_40) rfl rfl k) ?_
  show own_Go p e below s _ _ _ (T5.setTop (mkF m 42 #[.val (.long ai), .second, .val (.int aops), .val (.int ab), .val (.ref da), .val (.ref ms), .val (.int (1 : Int32)), .val (.int (0 : Int32))] [(.ref ms)]))
  refine own_st (fun _ k => XS.iload X5.here hx rfl (hb hby at_42) rfl k) ?_
  show own_Go p e below s _ _ _ (T5.setTop (mkF m 44 #[.val (.long ai), .second, .val (.int aops), .val (.int ab), .val (.ref da), .val (.ref ms), .val (.int (1 : Int32)), .val (.int (0 : Int32))] [(.int (0 : Int32)), (.ref ms)]))
  refine own_st (fun _ k => XS.iloadN X5.here hx rfl (hb hby at_44) rfl k) ?_
  show own_Go p e below s _ _ _ (T5.setTop (mkF m 45 #[.val (.long ai), .second, .val (.int aops), .val (.int ab), .val (.ref da), .val (.ref ms), .val (.int (1 : Int32)), .val (.int (0 : Int32))] [(.int aops), (.int (0 : Int32)), (.ref ms)]))
  refine own_cS X5 hx hml hZ hown (hw _ (List.mem_of_getElem? (i := 21) rfl)) (hw _ (List.mem_of_getElem? (i := 22) rfl)) (hw _ (List.mem_of_getElem? (i := 23) rfl)) (hw _ (List.mem_of_getElem? (i := 24) rfl)) (by decide) (own_rm3 l Z a0 hw ms (0 : Int32) aops ai da T4.heap n0 sz4 Fi4 Fd4 Fh4 EXms_4 fr_ms) eh5 (by decide) (W := 0) (by decide) (g := (mkF m 45 #[.val (.long ai), .second, .val (.int aops), .val (.int ab), .val (.ref da), .val (.ref ms), .val (.int (1 : Int32)), .val (.int (0 : Int32))] [(.int aops), (.int (0 : Int32)), (.ref ms)])) rfl rfl own_pd3 (argsL := [(.ref ms), (.int (0 : Int32)), (.int aops)]) (rest := []) rfl rfl rfl (by show 2 * 0 + _ ≤ _; exact Nat.le_of_eq rfl) (hb hby at_45) (by decide) (by decide) ?_
  intro T6 L6 v6 X6 hQ6
  obtain ⟨d6, rfl, Nc6, K6, Fi6, Fd6, Fh6⟩ := hQ6
  have N6 := Fr.app N5 Nc6
  have Vda_6 := Vda_4.keep K6 (ninS ne_da_ms nin0)
  have EXms_6 := EXms_4.keep K6
  have sz6 := Nat.le_trans sz4 K6.1
  show own_Go p e below s _ _ _ (T6.setTop (mkF m 48 #[.val (.long ai), .second, .val (.int aops), .val (.int ab), .val (.ref da), .val (.ref ms), .val (.int (1 : Int32)), .val (.int (0 : Int32))] [(.int d6)]))
  refine own_st (fun _ k => XS.istore X6.here hx rfl (hb hby at_48) rfl (l' := #[.val (.long ai), .second, .val (.int aops), .val (.int ab), .val (.ref da), .val (.ref ms), .val (.int (1 : Int32)), .val (.int d6)]) rfl k) ?_
  show own_Go p e below s _ _ _ (T6.setTop (mkF m 50 #[.val (.long ai), .second, .val (.int aops), .val (.int ab), .val (.ref da), .val (.ref ms), .val (.int (1 : Int32)), .val (.int d6)] []))
  refine own_st (fun _ k => XS.aload X6.here hx rfl (hb hby at_50) rfl rfl k) ?_
  show own_Go p e below s _ _ _ (T6.setTop (mkF m 52 #[.val (.long ai), .second, .val (.int aops), .val (.int ab), .val (.ref da), .val (.ref ms), .val (.int (1 : Int32)), .val (.int d6)] [(.ref ms)]))
  refine own_st (fun _ k => XS.iload X6.here hx rfl (hb hby at_52) rfl k) ?_
  show own_Go p e below s _ _ _ (T6.setTop (mkF m 54 #[.val (.long ai), .second, .val (.int aops), .val (.int ab), .val (.ref da), .val (.ref ms), .val (.int (1 : Int32)), .val (.int d6)] [(.int d6), (.ref ms)]))
  refine own_st (fun _ k => XS.iloadN X6.here hx rfl (hb hby at_54) rfl k) ?_
  show own_Go p e below s _ _ _ (T6.setTop (mkF m 55 #[.val (.long ai), .second, .val (.int aops), .val (.int ab), .val (.ref da), .val (.ref ms), .val (.int (1 : Int32)), .val (.int d6)] [(.int aops), (.int d6), (.ref ms)]))
  refine own_st (fun _ k => XS.iconst X6.here hx rfl (hb hby at_55) k) ?_
  show own_Go p e below s _ _ _ (T6.setTop (mkF m 56 #[.val (.long ai), .second, .val (.int aops), .val (.int ab), .val (.ref da), .val (.ref ms), .val (.int (1 : Int32)), .val (.int d6)] [(.int (2 : Int32)), (.int aops), (.int d6), (.ref ms)]))
  refine own_st (fun _ k => XT.iushr X6.here hx rfl (hb hby at_56) rfl k) ?_
  show own_Go p e below s _ _ _ (T6.setTop (mkF m 57 #[.val (.long ai), .second, .val (.int aops), .val (.int ab), .val (.ref da), .val (.ref ms), .val (.int (1 : Int32)), .val (.int d6)] [(.int (XT.ushr aops (2 : Int32))), (.int d6), (.ref ms)]))
  refine own_cS X6 hx hml hZ hown (hw _ (List.mem_of_getElem? (i := 21) rfl)) (hw _ (List.mem_of_getElem? (i := 22) rfl)) (hw _ (List.mem_of_getElem? (i := 23) rfl)) (hw _ (List.mem_of_getElem? (i := 24) rfl)) (by decide) (own_rm3 l Z a0 hw ms d6 (XT.ushr aops (2 : Int32)) ai da T6.heap n0 sz6 Fi6 Fd6 Fh6 EXms_6 fr_ms) (rfl : T6.heap = T6.heap) (by decide) (W := 0) (by decide) (g := (mkF m 57 #[.val (.long ai), .second, .val (.int aops), .val (.int ab), .val (.ref da), .val (.ref ms), .val (.int (1 : Int32)), .val (.int d6)] [(.int (XT.ushr aops (2 : Int32))), (.int d6), (.ref ms)])) rfl rfl own_pd3 (argsL := [(.ref ms), (.int d6), (.int (XT.ushr aops (2 : Int32)))]) (rest := []) rfl rfl rfl (by show 2 * 0 + _ ≤ _; exact Nat.le_of_eq rfl) (hb hby at_57) (by decide) (by decide) ?_
  intro T7 L7 v7 X7 hQ7
  obtain ⟨d7, rfl, Nc7, K7, Fi7, Fd7, Fh7⟩ := hQ7
  have N7 := Fr.app N6 Nc7
  have Vda_7 := Vda_6.keep K7 (ninS ne_da_ms nin0)
  have EXms_7 := EXms_6.keep K7
  have sz7 := Nat.le_trans sz6 K7.1
  show own_Go p e below s _ _ _ (T7.setTop (mkF m 60 #[.val (.long ai), .second, .val (.int aops), .val (.int ab), .val (.ref da), .val (.ref ms), .val (.int (1 : Int32)), .val (.int d6)] [(.int d7)]))
  refine own_st (fun _ k => XS.istore X7.here hx rfl (hb hby at_60) rfl (l' := #[.val (.long ai), .second, .val (.int aops), .val (.int ab), .val (.ref da), .val (.ref ms), .val (.int (1 : Int32)), .val (.int d7)]) rfl k) ?_
  show own_Go p e below s _ _ _ (T7.setTop (mkF m 62 #[.val (.long ai), .second, .val (.int aops), .val (.int ab), .val (.ref da), .val (.ref ms), .val (.int (1 : Int32)), .val (.int d7)] []))
  refine own_st (fun _ k => XS.aload X7.here hx rfl (hb hby at_62) rfl rfl k) ?_
  show own_Go p e below s _ _ _ (T7.setTop (mkF m 64 #[.val (.long ai), .second, .val (.int aops), .val (.int ab), .val (.ref da), .val (.ref ms), .val (.int (1 : Int32)), .val (.int d7)] [(.ref ms)]))
  refine own_st (fun _ k => XS.iload X7.here hx rfl (hb hby at_64) rfl k) ?_
  show own_Go p e below s _ _ _ (T7.setTop (mkF m 66 #[.val (.long ai), .second, .val (.int aops), .val (.int ab), .val (.ref da), .val (.ref ms), .val (.int (1 : Int32)), .val (.int d7)] [(.int d7), (.ref ms)]))
  refine own_st (fun _ k => XS.iloadN X7.here hx rfl (hb hby at_66) rfl k) ?_
  show own_Go p e below s _ _ _ (T7.setTop (mkF m 67 #[.val (.long ai), .second, .val (.int aops), .val (.int ab), .val (.ref da), .val (.ref ms), .val (.int (1 : Int32)), .val (.int d7)] [(.int aops), (.int d7), (.ref ms)]))
  refine own_st (fun _ k => XS.iconst X7.here hx rfl (hb hby at_67) k) ?_
  show own_Go p e below s _ _ _ (T7.setTop (mkF m 68 #[.val (.long ai), .second, .val (.int aops), .val (.int ab), .val (.ref da), .val (.ref ms), .val (.int (1 : Int32)), .val (.int d7)] [(.int (4 : Int32)), (.int aops), (.int d7), (.ref ms)]))
  refine own_st (fun _ k => XT.iushr X7.here hx rfl (hb hby at_68) rfl k) ?_
  show own_Go p e below s _ _ _ (T7.setTop (mkF m 69 #[.val (.long ai), .second, .val (.int aops), .val (.int ab), .val (.ref da), .val (.ref ms), .val (.int (1 : Int32)), .val (.int d7)] [(.int (XT.ushr aops (4 : Int32))), (.int d7), (.ref ms)]))
  refine own_cS X7 hx hml hZ hown (hw _ (List.mem_of_getElem? (i := 21) rfl)) (hw _ (List.mem_of_getElem? (i := 22) rfl)) (hw _ (List.mem_of_getElem? (i := 23) rfl)) (hw _ (List.mem_of_getElem? (i := 24) rfl)) (by decide) (own_rm3 l Z a0 hw ms d7 (XT.ushr aops (4 : Int32)) ai da T7.heap n0 sz7 Fi7 Fd7 Fh7 EXms_7 fr_ms) (rfl : T7.heap = T7.heap) (by decide) (W := 0) (by decide) (g := (mkF m 69 #[.val (.long ai), .second, .val (.int aops), .val (.int ab), .val (.ref da), .val (.ref ms), .val (.int (1 : Int32)), .val (.int d7)] [(.int (XT.ushr aops (4 : Int32))), (.int d7), (.ref ms)])) rfl rfl own_pd3 (argsL := [(.ref ms), (.int d7), (.int (XT.ushr aops (4 : Int32)))]) (rest := []) rfl rfl rfl (by show 2 * 0 + _ ≤ _; exact Nat.le_of_eq rfl) (hb hby at_69) (by decide) (by decide) ?_
  intro T8 L8 v8 X8 hQ8
  obtain ⟨d8, rfl, Nc8, K8, Fi8, Fd8, Fh8⟩ := hQ8
  have N8 := Fr.app N7 Nc8
  have Vda_8 := Vda_7.keep K8 (ninS ne_da_ms nin0)
  have EXms_8 := EXms_7.keep K8
  have sz8 := Nat.le_trans sz7 K8.1
  show own_Go p e below s _ _ _ (T8.setTop (mkF m 72 #[.val (.long ai), .second, .val (.int aops), .val (.int ab), .val (.ref da), .val (.ref ms), .val (.int (1 : Int32)), .val (.int d7)] [(.int d8)]))
  refine own_st (fun _ k => XS.istore X8.here hx rfl (hb hby at_72) rfl (l' := #[.val (.long ai), .second, .val (.int aops), .val (.int ab), .val (.ref da), .val (.ref ms), .val (.int (1 : Int32)), .val (.int d8)]) rfl k) ?_
  show own_Go p e below s _ _ _ (T8.setTop (mkF m 74 #[.val (.long ai), .second, .val (.int aops), .val (.int ab), .val (.ref da), .val (.ref ms), .val (.int (1 : Int32)), .val (.int d8)] []))
  refine own_st (fun _ k => XS.iload X8.here hx rfl (hb hby at_74) rfl k) ?_
  show own_Go p e below s _ _ _ (T8.setTop (mkF m 76 #[.val (.long ai), .second, .val (.int aops), .val (.int ab), .val (.ref da), .val (.ref ms), .val (.int (1 : Int32)), .val (.int d8)] [(.int (1 : Int32))]))
  refine own_st (fun _ k => XS.ifNo X8.here hx rfl (hb hby at_76) rfl (by decide) k) ?_
  show own_Go p e below s _ _ _ (T8.setTop (mkF m 79 #[.val (.long ai), .second, .val (.int aops), .val (.int ab), .val (.ref da), .val (.ref ms), .val (.int (1 : Int32)), .val (.int d8)] []))
  refine own_st (fun _ k => XS.aload X8.here hx rfl (hb hby at_79) rfl rfl k) ?_
  show own_Go p e below s _ _ _ (T8.setTop (mkF m 81 #[.val (.long ai), .second, .val (.int aops), .val (.int ab), .val (.ref da), .val (.ref ms), .val (.int (1 : Int32)), .val (.int d8)] [(.ref ms)]))
  refine own_cV X8 hx hml hZ hown (hw _ (List.mem_of_getElem? (i := 14) rfl)) (hw _ (List.mem_of_getElem? (i := 15) rfl)) (hw _ (List.mem_of_getElem? (i := 17) rfl)) (hw _ (List.mem_of_getElem? (i := 16) rfl)) (hw _ (List.mem_of_getElem? (i := 3) rfl)) (hw _ (List.mem_of_getElem? (i := 18) rfl)) (by decide) (own_rm2 l Z a0 hw ms d8 T8.heap n0 sz8 Fh8) (rfl : T8.heap = T8.heap) EXms_8 (by decide) (W := 0) (by decide) (g := (mkF m 81 #[.val (.long ai), .second, .val (.int aops), .val (.int ab), .val (.ref da), .val (.ref ms), .val (.int (1 : Int32)), .val (.int d8)] [(.ref ms)])) rfl rfl own_pd2 (argsL := []) (rest := []) rfl rfl rfl (by show 2 * 0 + _ ≤ _; exact Nat.le_of_eq rfl) (hb hby at_81) (by decide) (by decide) ?_
  intro T9 L9 v9 X9 hQ9
  obtain ⟨rfl, eh9, le9⟩ := hQ9
  have N9 := own_nil N8 le9
  show own_Go p e below s _ _ _ (T9.setTop (mkF m 84 #[.val (.long ai), .second, .val (.int aops), .val (.int ab), .val (.ref da), .val (.ref ms), .val (.int (1 : Int32)), .val (.int d8)] [(.int (own_pos d8))]))
  refine own_st (fun _ k => XS.iload X9.here hx rfl (hb hby at_84) rfl k) ?_
  show own_Go p e below s _ _ _ (T9.setTop (mkF m 86 #[.val (.long ai), .second, .val (.int aops), .val (.int ab), .val (.ref da), .val (.ref ms), .val (.int (1 : Int32)), .val (.int d8)] [(.int d8), (.int (own_pos d8))]))
  have J104 : own_Go p e below s (fun v h' L => v = some (.int 1) ∧ Fr n0 L) room_1.cells room_1.slots (T9.setTop (mkF m 104 #[.val (.long ai), .second, .val (.int aops), .val (.int ab), .val (.ref da), .val (.ref ms), .val (.int (1 : Int32)), .val (.int d8)] [])) := by
    show own_Go p e below s _ _ _ (T9.setTop (mkF m 104 #[.val (.long ai), .second, .val (.int aops), .val (.int ab), .val (.ref da), .val (.ref ms), .val (.int (1 : Int32)), .val (.int d8)] []))
    refine own_st (fun _ k => XS.aload X9.here hx rfl (hb hby at_104) rfl rfl k) ?_
    show own_Go p e below s _ _ _ (T9.setTop (mkF m 106 #[.val (.long ai), .second, .val (.int aops), .val (.int ab), .val (.ref da), .val (.ref ms), .val (.int (1 : Int32)), .val (.int d8)] [(.ref ms)]))
    refine own_st (fun _ k => XS.iload X9.here hx rfl (hb hby at_106) rfl k) ?_
    show own_Go p e below s _ _ _ (T9.setTop (mkF m 108 #[.val (.long ai), .second, .val (.int aops), .val (.int ab), .val (.ref da), .val (.ref ms), .val (.int (1 : Int32)), .val (.int d8)] [(.int d8), (.ref ms)]))
    refine own_st (fun _ k => XS.iloadN X9.here hx rfl (hb hby at_108) rfl k) ?_
    show own_Go p e below s _ _ _ (T9.setTop (mkF m 109 #[.val (.long ai), .second, .val (.int aops), .val (.int ab), .val (.ref da), .val (.ref ms), .val (.int (1 : Int32)), .val (.int d8)] [(.int aops), (.int d8), (.ref ms)]))
    refine own_st (fun _ k => XS.bipush X9.here hx rfl (hb hby at_109) k) ?_
    show own_Go p e below s _ _ _ (T9.setTop (mkF m 111 #[.val (.long ai), .second, .val (.int aops), .val (.int ab), .val (.ref da), .val (.ref ms), .val (.int (1 : Int32)), .val (.int d8)] [(.int (6 : Int32)), (.int aops), (.int d8), (.ref ms)]))
    refine own_st (fun _ k => XT.iushr X9.here hx rfl (hb hby at_111) rfl k) ?_
    show own_Go p e below s _ _ _ (T9.setTop (mkF m 112 #[.val (.long ai), .second, .val (.int aops), .val (.int ab), .val (.ref da), .val (.ref ms), .val (.int (1 : Int32)), .val (.int d8)] [(.int (XT.ushr aops (6 : Int32))), (.int d8), (.ref ms)]))
    refine own_cS X9 hx hml hZ hown (hw _ (List.mem_of_getElem? (i := 21) rfl)) (hw _ (List.mem_of_getElem? (i := 22) rfl)) (hw _ (List.mem_of_getElem? (i := 23) rfl)) (hw _ (List.mem_of_getElem? (i := 24) rfl)) (by decide) (own_rm3 l Z a0 hw ms d8 (XT.ushr aops (6 : Int32)) ai da T8.heap n0 sz8 Fi8 Fd8 Fh8 EXms_8 fr_ms) eh9 (by decide) (W := 0) (by decide) (g := (mkF m 112 #[.val (.long ai), .second, .val (.int aops), .val (.int ab), .val (.ref da), .val (.ref ms), .val (.int (1 : Int32)), .val (.int d8)] [(.int (XT.ushr aops (6 : Int32))), (.int d8), (.ref ms)])) rfl rfl own_pd3 (argsL := [(.ref ms), (.int d8), (.int (XT.ushr aops (6 : Int32)))]) (rest := []) rfl rfl rfl (by show 2 * 0 + _ ≤ _; exact Nat.le_of_eq rfl) (hb hby at_112) (by decide) (by decide) ?_
    intro T10 L10 v10 X10 hQ10
    obtain ⟨d10, rfl, Nc10, K10, Fi10, Fd10, Fh10⟩ := hQ10
    have N10 := Fr.app N9 Nc10
    have Vda_10 := Vda_8.keep K10 (ninS ne_da_ms nin0)
    have EXms_10 := EXms_8.keep K10
    have sz10 := Nat.le_trans sz8 K10.1
    show own_Go p e below s _ _ _ (T10.setTop (mkF m 115 #[.val (.long ai), .second, .val (.int aops), .val (.int ab), .val (.ref da), .val (.ref ms), .val (.int (1 : Int32)), .val (.int d8)] [(.int d10)]))
    refine own_st (fun _ k => XS.istore X10.here hx rfl (hb hby at_115) rfl (l' := #[.val (.long ai), .second, .val (.int aops), .val (.int ab), .val (.ref da), .val (.ref ms), .val (.int (1 : Int32)), .val (.int d10)]) rfl k) ?_
    show own_Go p e below s _ _ _ (T10.setTop (mkF m 117 #[.val (.long ai), .second, .val (.int aops), .val (.int ab), .val (.ref da), .val (.ref ms), .val (.int (1 : Int32)), .val (.int d10)] []))
    refine own_st (fun _ k => XS.aload X10.here hx rfl (hb hby at_117) rfl rfl k) ?_
    show own_Go p e below s _ _ _ (T10.setTop (mkF m 119 #[.val (.long ai), .second, .val (.int aops), .val (.int ab), .val (.ref da), .val (.ref ms), .val (.int (1 : Int32)), .val (.int d10)] [(.ref ms)]))
    refine own_st (fun _ k => XS.iload X10.here hx rfl (hb hby at_119) rfl k) ?_
    show own_Go p e below s _ _ _ (T10.setTop (mkF m 121 #[.val (.long ai), .second, .val (.int aops), .val (.int ab), .val (.ref da), .val (.ref ms), .val (.int (1 : Int32)), .val (.int d10)] [(.int d10), (.ref ms)]))
    refine own_st (fun _ k => XS.iloadN X10.here hx rfl (hb hby at_121) rfl k) ?_
    show own_Go p e below s _ _ _ (T10.setTop (mkF m 122 #[.val (.long ai), .second, .val (.int aops), .val (.int ab), .val (.ref da), .val (.ref ms), .val (.int (1 : Int32)), .val (.int d10)] [(.int aops), (.int d10), (.ref ms)]))
    refine own_st (fun _ k => XS.bipush X10.here hx rfl (hb hby at_122) k) ?_
    show own_Go p e below s _ _ _ (T10.setTop (mkF m 124 #[.val (.long ai), .second, .val (.int aops), .val (.int ab), .val (.ref da), .val (.ref ms), .val (.int (1 : Int32)), .val (.int d10)] [(.int (8 : Int32)), (.int aops), (.int d10), (.ref ms)]))
    refine own_st (fun _ k => XT.iushr X10.here hx rfl (hb hby at_124) rfl k) ?_
    show own_Go p e below s _ _ _ (T10.setTop (mkF m 125 #[.val (.long ai), .second, .val (.int aops), .val (.int ab), .val (.ref da), .val (.ref ms), .val (.int (1 : Int32)), .val (.int d10)] [(.int (XT.ushr aops (8 : Int32))), (.int d10), (.ref ms)]))
    refine own_cS X10 hx hml hZ hown (hw _ (List.mem_of_getElem? (i := 21) rfl)) (hw _ (List.mem_of_getElem? (i := 22) rfl)) (hw _ (List.mem_of_getElem? (i := 23) rfl)) (hw _ (List.mem_of_getElem? (i := 24) rfl)) (by decide) (own_rm3 l Z a0 hw ms d10 (XT.ushr aops (8 : Int32)) ai da T10.heap n0 sz10 Fi10 Fd10 Fh10 EXms_10 fr_ms) (rfl : T10.heap = T10.heap) (by decide) (W := 0) (by decide) (g := (mkF m 125 #[.val (.long ai), .second, .val (.int aops), .val (.int ab), .val (.ref da), .val (.ref ms), .val (.int (1 : Int32)), .val (.int d10)] [(.int (XT.ushr aops (8 : Int32))), (.int d10), (.ref ms)])) rfl rfl own_pd3 (argsL := [(.ref ms), (.int d10), (.int (XT.ushr aops (8 : Int32)))]) (rest := []) rfl rfl rfl (by show 2 * 0 + _ ≤ _; exact Nat.le_of_eq rfl) (hb hby at_125) (by decide) (by decide) ?_
    intro T11 L11 v11 X11 hQ11
    obtain ⟨d11, rfl, Nc11, K11, Fi11, Fd11, Fh11⟩ := hQ11
    have N11 := Fr.app N10 Nc11
    have Vda_11 := Vda_10.keep K11 (ninS ne_da_ms nin0)
    have EXms_11 := EXms_10.keep K11
    have sz11 := Nat.le_trans sz10 K11.1
    show own_Go p e below s _ _ _ (T11.setTop (mkF m 128 #[.val (.long ai), .second, .val (.int aops), .val (.int ab), .val (.ref da), .val (.ref ms), .val (.int (1 : Int32)), .val (.int d10)] [(.int d11)]))
    refine own_st (fun _ k => XS.istore X11.here hx rfl (hb hby at_128) rfl (l' := #[.val (.long ai), .second, .val (.int aops), .val (.int ab), .val (.ref da), .val (.ref ms), .val (.int (1 : Int32)), .val (.int d11)]) rfl k) ?_
    show own_Go p e below s _ _ _ (T11.setTop (mkF m 130 #[.val (.long ai), .second, .val (.int aops), .val (.int ab), .val (.ref da), .val (.ref ms), .val (.int (1 : Int32)), .val (.int d11)] []))
    refine own_st (fun _ k => XS.iload X11.here hx rfl (hb hby at_130) rfl k) ?_
    show own_Go p e below s _ _ _ (T11.setTop (mkF m 132 #[.val (.long ai), .second, .val (.int aops), .val (.int ab), .val (.ref da), .val (.ref ms), .val (.int (1 : Int32)), .val (.int d11)] [(.int (1 : Int32))]))
    refine own_st (fun _ k => XS.ifNo X11.here hx rfl (hb hby at_132) rfl (by decide) k) ?_
    show own_Go p e below s _ _ _ (T11.setTop (mkF m 135 #[.val (.long ai), .second, .val (.int aops), .val (.int ab), .val (.ref da), .val (.ref ms), .val (.int (1 : Int32)), .val (.int d11)] []))
    refine own_st (fun _ k => XS.aload X11.here hx rfl (hb hby at_135) rfl rfl k) ?_
    show own_Go p e below s _ _ _ (T11.setTop (mkF m 137 #[.val (.long ai), .second, .val (.int aops), .val (.int ab), .val (.ref da), .val (.ref ms), .val (.int (1 : Int32)), .val (.int d11)] [(.ref ms)]))
    refine own_cV X11 hx hml hZ hown (hw _ (List.mem_of_getElem? (i := 14) rfl)) (hw _ (List.mem_of_getElem? (i := 15) rfl)) (hw _ (List.mem_of_getElem? (i := 17) rfl)) (hw _ (List.mem_of_getElem? (i := 16) rfl)) (hw _ (List.mem_of_getElem? (i := 3) rfl)) (hw _ (List.mem_of_getElem? (i := 18) rfl)) (by decide) (own_rm2 l Z a0 hw ms d11 T11.heap n0 sz11 Fh11) (rfl : T11.heap = T11.heap) EXms_11 (by decide) (W := 0) (by decide) (g := (mkF m 137 #[.val (.long ai), .second, .val (.int aops), .val (.int ab), .val (.ref da), .val (.ref ms), .val (.int (1 : Int32)), .val (.int d11)] [(.ref ms)])) rfl rfl own_pd2 (argsL := []) (rest := []) rfl rfl rfl (by show 2 * 0 + _ ≤ _; exact Nat.le_of_eq rfl) (hb hby at_137) (by decide) (by decide) ?_
    intro T12 L12 v12 X12 hQ12
    obtain ⟨rfl, eh12, le12⟩ := hQ12
    have N12 := own_nil N11 le12
    show own_Go p e below s _ _ _ (T12.setTop (mkF m 140 #[.val (.long ai), .second, .val (.int aops), .val (.int ab), .val (.ref da), .val (.ref ms), .val (.int (1 : Int32)), .val (.int d11)] [(.int (own_pos d11))]))
    refine own_st (fun _ k => XS.iload X12.here hx rfl (hb hby at_140) rfl k) ?_
    show own_Go p e below s _ _ _ (T12.setTop (mkF m 142 #[.val (.long ai), .second, .val (.int aops), .val (.int ab), .val (.ref da), .val (.ref ms), .val (.int (1 : Int32)), .val (.int d11)] [(.int d11), (.int (own_pos d11))]))
    have J160 : own_Go p e below s (fun v h' L => v = some (.int 1) ∧ Fr n0 L) room_1.cells room_1.slots (T12.setTop (mkF m 160 #[.val (.long ai), .second, .val (.int aops), .val (.int ab), .val (.ref da), .val (.ref ms), .val (.int (1 : Int32)), .val (.int d11)] [])) := by
      show own_Go p e below s _ _ _ (T12.setTop (mkF m 160 #[.val (.long ai), .second, .val (.int aops), .val (.int ab), .val (.ref da), .val (.ref ms), .val (.int (1 : Int32)), .val (.int d11)] []))
      refine own_st (fun _ k => XS.iload X12.here hx rfl (hb hby at_160) rfl k) ?_
      show own_Go p e below s _ _ _ (T12.setTop (mkF m 162 #[.val (.long ai), .second, .val (.int aops), .val (.int ab), .val (.ref da), .val (.ref ms), .val (.int (1 : Int32)), .val (.int d11)] [(.int (1 : Int32))]))
      refine own_st (fun _ k => XS.ifNo X12.here hx rfl (hb hby at_162) rfl (by decide) k) ?_
      show own_Go p e below s _ _ _ (T12.setTop (mkF m 165 #[.val (.long ai), .second, .val (.int aops), .val (.int ab), .val (.ref da), .val (.ref ms), .val (.int (1 : Int32)), .val (.int d11)] []))
      refine own_st (fun _ k => XS.aload X12.here hx rfl (hb hby at_165) rfl rfl k) ?_
      show own_Go p e below s _ _ _ (T12.setTop (mkF m 167 #[.val (.long ai), .second, .val (.int aops), .val (.int ab), .val (.ref da), .val (.ref ms), .val (.int (1 : Int32)), .val (.int d11)] [(.ref ms)]))
      refine own_cV X12 hx hml hZ hown (hw _ (List.mem_of_getElem? (i := 25) rfl)) (hw _ (List.mem_of_getElem? (i := 26) rfl)) (hw _ (List.mem_of_getElem? (i := 28) rfl)) (hw _ (List.mem_of_getElem? (i := 27) rfl)) (hw _ (List.mem_of_getElem? (i := 3) rfl)) (hw _ (List.mem_of_getElem? (i := 29) rfl)) (by decide) (own_rm5 l Z a0 hw ms ai T11.heap n0 sz11 Fi11) eh12 EXms_11 (by decide) (W := 0) (by decide) (g := (mkF m 167 #[.val (.long ai), .second, .val (.int aops), .val (.int ab), .val (.ref da), .val (.ref ms), .val (.int (1 : Int32)), .val (.int d11)] [(.ref ms)])) rfl rfl own_pd4 (argsL := []) (rest := []) rfl rfl rfl (by show 2 * 0 + _ ≤ _; exact Nat.le_of_eq rfl) (hb hby at_167) (by decide) (by decide) ?_
      intro T13 L13 v13 X13 hQ13
      obtain ⟨rfl, eh13, le13⟩ := hQ13
      have N13 := own_nil N12 le13
      show own_Go p e below s _ _ _ (T13.setTop (mkF m 170 #[.val (.long ai), .second, .val (.int aops), .val (.int ab), .val (.ref da), .val (.ref ms), .val (.int (1 : Int32)), .val (.int d11)] [(.long ai)]))
      refine own_st (fun _ k => XS.lloadN X13.here hx rfl (hb hby at_170) rfl k) ?_
      show own_Go p e below s _ _ _ (T13.setTop (mkF m 171 #[.val (.long ai), .second, .val (.int aops), .val (.int ab), .val (.ref da), .val (.ref ms), .val (.int (1 : Int32)), .val (.int d11)] [(.long ai), (.long ai)]))
      refine own_st (fun _ k => XT.lcmp X13.here hx rfl (hb hby at_171) rfl k) ?_
      show own_Go p e below s _ _ _ (T13.setTop (mkF m 172 #[.val (.long ai), .second, .val (.int aops), .val (.int ab), .val (.ref da), .val (.ref ms), .val (.int (1 : Int32)), .val (.int d11)] [(.int (XT.cmpL ai ai))]))
      refine own_st (fun _ k => XS.ifNo X13.here hx rfl (hb hby at_172) rfl ((if0 _ _).trans (teq (own_ce rfl)).2) k) ?_
      show own_Go p e below s _ _ _ (T13.setTop (mkF m 175 #[.val (.long ai), .second, .val (.int aops), .val (.int ab), .val (.ref da), .val (.ref ms), .val (.int (1 : Int32)), .val (.int d11)] []))
      refine own_st (fun _ k => XS.aload X13.here hx rfl (hb hby at_175) rfl rfl k) ?_
      show own_Go p e below s _ _ _ (T13.setTop (mkF m 177 #[.val (.long ai), .second, .val (.int aops), .val (.int ab), .val (.ref da), .val (.ref ms), .val (.int (1 : Int32)), .val (.int d11)] [(.ref ms)]))
      refine own_cV X13 hx hml hZ hown (hw _ (List.mem_of_getElem? (i := 30) rfl)) (hw _ (List.mem_of_getElem? (i := 31) rfl)) (hw _ (List.mem_of_getElem? (i := 33) rfl)) (hw _ (List.mem_of_getElem? (i := 32) rfl)) (hw _ (List.mem_of_getElem? (i := 3) rfl)) (hw _ (List.mem_of_getElem? (i := 34) rfl)) (by decide) (own_rm6 l Z a0 hw ms da T11.heap n0 sz11 Fd11) eh13 EXms_11 (by decide) (W := 0) (by decide) (g := (mkF m 177 #[.val (.long ai), .second, .val (.int aops), .val (.int ab), .val (.ref da), .val (.ref ms), .val (.int (1 : Int32)), .val (.int d11)] [(.ref ms)])) rfl rfl own_pd5 (argsL := []) (rest := []) rfl rfl rfl (by show 2 * 0 + _ ≤ _; exact Nat.le_of_eq rfl) (hb hby at_177) (by decide) (by decide) ?_
      intro T14 L14 v14 X14 hQ14
      obtain ⟨rfl, eh14, le14⟩ := hQ14
      have N14 := own_nil N13 le14
      show own_Go p e below s _ _ _ (T14.setTop (mkF m 180 #[.val (.long ai), .second, .val (.int aops), .val (.int ab), .val (.ref da), .val (.ref ms), .val (.int (1 : Int32)), .val (.int d11)] [(.ref da)]))
      refine own_st (fun _ k => XS.aload X14.here hx rfl (hb hby at_180) rfl rfl k) ?_
      show own_Go p e below s _ _ _ (T14.setTop (mkF m 182 #[.val (.long ai), .second, .val (.int aops), .val (.int ab), .val (.ref da), .val (.ref ms), .val (.int (1 : Int32)), .val (.int d11)] [(.ref da), (.ref da)]))
      refine own_st (fun _ k => Jvm.RoadKit.acmp (g := (mkF m 182 #[.val (.long ai), .second, .val (.int aops), .val (.int ab), .val (.ref da), .val (.ref ms), .val (.int (1 : Int32)), .val (.int d11)] [(.ref da), (.ref da)])) X14 hx rfl rfl rfl (pc0 := 182) (pc' := 185) (same := true) rfl (hb hby at_182) rfl (decide_eq_true rfl) (by decide) (by decide) k) ?_
      show own_Go p e below s _ _ _ (T14.setTop (mkF m 185 #[.val (.long ai), .second, .val (.int aops), .val (.int ab), .val (.ref da), .val (.ref ms), .val (.int (1 : Int32)), .val (.int d11)] []))
      refine own_st (fun _ k => XS.iconst X14.here hx rfl (hb hby at_185) k) ?_
      show own_Go p e below s _ _ _ (T14.setTop (mkF m 186 #[.val (.long ai), .second, .val (.int aops), .val (.int ab), .val (.ref da), .val (.ref ms), .val (.int (1 : Int32)), .val (.int d11)] [(.int (1 : Int32))]))
      refine own_st (fun _ k => XS.goto X14.here hx rfl (pc0 := 186) (pc' := 190) rfl (hb hby at_186) (by decide) (by decide) k) ?_
      show own_Go p e below s _ _ _ (T14.setTop (mkF m 190 #[.val (.long ai), .second, .val (.int aops), .val (.int ab), .val (.ref da), .val (.ref ms), .val (.int (1 : Int32)), .val (.int d11)] [(.int (1 : Int32))]))
      refine own_st (fun _ k => XS.istore X14.here hx rfl (hb hby at_190) rfl (l' := #[.val (.long ai), .second, .val (.int aops), .val (.int ab), .val (.ref da), .val (.ref ms), .val (.int (1 : Int32)), .val (.int d11)]) rfl k) ?_
      show own_Go p e below s _ _ _ (T14.setTop (mkF m 192 #[.val (.long ai), .second, .val (.int aops), .val (.int ab), .val (.ref da), .val (.ref ms), .val (.int (1 : Int32)), .val (.int d11)] []))
      refine own_st (fun _ k => XS.iload X14.here hx rfl (hb hby at_192) rfl k) ?_
      show own_Go p e below s _ _ _ (T14.setTop (mkF m 194 #[.val (.long ai), .second, .val (.int aops), .val (.int ab), .val (.ref da), .val (.ref ms), .val (.int (1 : Int32)), .val (.int d11)] [(.int (1 : Int32))]))
      exact own_endN X14 hx hlk (t := .boolean) hret (by simp) (hb hby at_194) (w := (1 : Int32)) (by decide) ⟨rfl, N14⟩ (by decide) (by decide)
    show own_Go p e below s _ _ _ (T12.setTop (mkF m 142 #[.val (.long ai), .second, .val (.int aops), .val (.int ab), .val (.ref da), .val (.ref ms), .val (.int (1 : Int32)), .val (.int d11)] [(.int d11), (.int (own_pos d11))]))
    rcases Classical.em ((0 : Int32) < d11) with c160 | c160
    · show own_Go p e below s _ _ _ (T12.setTop (mkF m 142 #[.val (.long ai), .second, .val (.int aops), .val (.int ab), .val (.ref da), .val (.ref ms), .val (.int (1 : Int32)), .val (.int d11)] [(.int d11), (.int (own_pos d11))]))
      refine own_st (fun _ k => XS.ifNo X12.here hx rfl (hb hby at_142) rfl ((if0 _ _).trans (tlt c160).2.2.2) k) ?_
      show own_Go p e below s _ _ _ (T12.setTop (mkF m 145 #[.val (.long ai), .second, .val (.int aops), .val (.int ab), .val (.ref da), .val (.ref ms), .val (.int (1 : Int32)), .val (.int d11)] [(.int (own_pos d11))]))
      refine own_st (fun _ k => XS.iconst X12.here hx rfl (hb hby at_145) k) ?_
      show own_Go p e below s _ _ _ (T12.setTop (mkF m 146 #[.val (.long ai), .second, .val (.int aops), .val (.int ab), .val (.ref da), .val (.ref ms), .val (.int (1 : Int32)), .val (.int d11)] [(.int (1 : Int32)), (.int (own_pos d11))]))
      refine own_st (fun _ k => XS.goto X12.here hx rfl (pc0 := 146) (pc' := 150) rfl (hb hby at_146) (by decide) (by decide) k) ?_
      show own_Go p e below s _ _ _ (T12.setTop (mkF m 150 #[.val (.long ai), .second, .val (.int aops), .val (.int ab), .val (.ref da), .val (.ref ms), .val (.int (1 : Int32)), .val (.int d11)] [(.int (1 : Int32)), (.int (own_pos d11))]))
      refine own_st (fun _ k => XS.icmpNo X12.here hx rfl (hb hby at_150) rfl (teq (own_pos1 c160)).2 k) ?_
      show own_Go p e below s _ _ _ (T12.setTop (mkF m 153 #[.val (.long ai), .second, .val (.int aops), .val (.int ab), .val (.ref da), .val (.ref ms), .val (.int (1 : Int32)), .val (.int d11)] []))
      refine own_st (fun _ k => XS.iconst X12.here hx rfl (hb hby at_153) k) ?_
      show own_Go p e below s _ _ _ (T12.setTop (mkF m 154 #[.val (.long ai), .second, .val (.int aops), .val (.int ab), .val (.ref da), .val (.ref ms), .val (.int (1 : Int32)), .val (.int d11)] [(.int (1 : Int32))]))
      refine own_st (fun _ k => XS.goto X12.here hx rfl (pc0 := 154) (pc' := 158) rfl (hb hby at_154) (by decide) (by decide) k) ?_
      show own_Go p e below s _ _ _ (T12.setTop (mkF m 158 #[.val (.long ai), .second, .val (.int aops), .val (.int ab), .val (.ref da), .val (.ref ms), .val (.int (1 : Int32)), .val (.int d11)] [(.int (1 : Int32))]))
      refine own_st (fun _ k => XS.istore X12.here hx rfl (hb hby at_158) rfl (l' := #[.val (.long ai), .second, .val (.int aops), .val (.int ab), .val (.ref da), .val (.ref ms), .val (.int (1 : Int32)), .val (.int d11)]) rfl k) ?_
      show own_Go p e below s _ _ _ (T12.setTop (mkF m 160 #[.val (.long ai), .second, .val (.int aops), .val (.int ab), .val (.ref da), .val (.ref ms), .val (.int (1 : Int32)), .val (.int d11)] []))
      exact J160
    · show own_Go p e below s _ _ _ (T12.setTop (mkF m 142 #[.val (.long ai), .second, .val (.int aops), .val (.int ab), .val (.ref da), .val (.ref ms), .val (.int (1 : Int32)), .val (.int d11)] [(.int d11), (.int (own_pos d11))]))
      refine own_st (fun _ k => XS.ifYes X12.here hx rfl (pc0 := 142) (pc' := 149) rfl (hb hby at_142) rfl ((if0 _ _).trans (flt c160).2.2.2) (by decide) (by decide) k) ?_
      show own_Go p e below s _ _ _ (T12.setTop (mkF m 149 #[.val (.long ai), .second, .val (.int aops), .val (.int ab), .val (.ref da), .val (.ref ms), .val (.int (1 : Int32)), .val (.int d11)] [(.int (own_pos d11))]))
      refine own_st (fun _ k => XS.iconst X12.here hx rfl (hb hby at_149) k) ?_
      show own_Go p e below s _ _ _ (T12.setTop (mkF m 150 #[.val (.long ai), .second, .val (.int aops), .val (.int ab), .val (.ref da), .val (.ref ms), .val (.int (1 : Int32)), .val (.int d11)] [(.int (0 : Int32)), (.int (own_pos d11))]))
      refine own_st (fun _ k => XS.icmpNo X12.here hx rfl (hb hby at_150) rfl (teq (own_pos0 c160)).2 k) ?_
      show own_Go p e below s _ _ _ (T12.setTop (mkF m 153 #[.val (.long ai), .second, .val (.int aops), .val (.int ab), .val (.ref da), .val (.ref ms), .val (.int (1 : Int32)), .val (.int d11)] []))
      refine own_st (fun _ k => XS.iconst X12.here hx rfl (hb hby at_153) k) ?_
      show own_Go p e below s _ _ _ (T12.setTop (mkF m 154 #[.val (.long ai), .second, .val (.int aops), .val (.int ab), .val (.ref da), .val (.ref ms), .val (.int (1 : Int32)), .val (.int d11)] [(.int (1 : Int32))]))
      refine own_st (fun _ k => XS.goto X12.here hx rfl (pc0 := 154) (pc' := 158) rfl (hb hby at_154) (by decide) (by decide) k) ?_
      show own_Go p e below s _ _ _ (T12.setTop (mkF m 158 #[.val (.long ai), .second, .val (.int aops), .val (.int ab), .val (.ref da), .val (.ref ms), .val (.int (1 : Int32)), .val (.int d11)] [(.int (1 : Int32))]))
      refine own_st (fun _ k => XS.istore X12.here hx rfl (hb hby at_158) rfl (l' := #[.val (.long ai), .second, .val (.int aops), .val (.int ab), .val (.ref da), .val (.ref ms), .val (.int (1 : Int32)), .val (.int d11)]) rfl k) ?_
      show own_Go p e below s _ _ _ (T12.setTop (mkF m 160 #[.val (.long ai), .second, .val (.int aops), .val (.int ab), .val (.ref da), .val (.ref ms), .val (.int (1 : Int32)), .val (.int d11)] []))
      exact J160
  show own_Go p e below s _ _ _ (T9.setTop (mkF m 86 #[.val (.long ai), .second, .val (.int aops), .val (.int ab), .val (.ref da), .val (.ref ms), .val (.int (1 : Int32)), .val (.int d8)] [(.int d8), (.int (own_pos d8))]))
  rcases Classical.em ((0 : Int32) < d8) with c104 | c104
  · show own_Go p e below s _ _ _ (T9.setTop (mkF m 86 #[.val (.long ai), .second, .val (.int aops), .val (.int ab), .val (.ref da), .val (.ref ms), .val (.int (1 : Int32)), .val (.int d8)] [(.int d8), (.int (own_pos d8))]))
    refine own_st (fun _ k => XS.ifNo X9.here hx rfl (hb hby at_86) rfl ((if0 _ _).trans (tlt c104).2.2.2) k) ?_
    show own_Go p e below s _ _ _ (T9.setTop (mkF m 89 #[.val (.long ai), .second, .val (.int aops), .val (.int ab), .val (.ref da), .val (.ref ms), .val (.int (1 : Int32)), .val (.int d8)] [(.int (own_pos d8))]))
    refine own_st (fun _ k => XS.iconst X9.here hx rfl (hb hby at_89) k) ?_
    show own_Go p e below s _ _ _ (T9.setTop (mkF m 90 #[.val (.long ai), .second, .val (.int aops), .val (.int ab), .val (.ref da), .val (.ref ms), .val (.int (1 : Int32)), .val (.int d8)] [(.int (1 : Int32)), (.int (own_pos d8))]))
    refine own_st (fun _ k => XS.goto X9.here hx rfl (pc0 := 90) (pc' := 94) rfl (hb hby at_90) (by decide) (by decide) k) ?_
    show own_Go p e below s _ _ _ (T9.setTop (mkF m 94 #[.val (.long ai), .second, .val (.int aops), .val (.int ab), .val (.ref da), .val (.ref ms), .val (.int (1 : Int32)), .val (.int d8)] [(.int (1 : Int32)), (.int (own_pos d8))]))
    refine own_st (fun _ k => XS.icmpNo X9.here hx rfl (hb hby at_94) rfl (teq (own_pos1 c104)).2 k) ?_
    show own_Go p e below s _ _ _ (T9.setTop (mkF m 97 #[.val (.long ai), .second, .val (.int aops), .val (.int ab), .val (.ref da), .val (.ref ms), .val (.int (1 : Int32)), .val (.int d8)] []))
    refine own_st (fun _ k => XS.iconst X9.here hx rfl (hb hby at_97) k) ?_
    show own_Go p e below s _ _ _ (T9.setTop (mkF m 98 #[.val (.long ai), .second, .val (.int aops), .val (.int ab), .val (.ref da), .val (.ref ms), .val (.int (1 : Int32)), .val (.int d8)] [(.int (1 : Int32))]))
    refine own_st (fun _ k => XS.goto X9.here hx rfl (pc0 := 98) (pc' := 102) rfl (hb hby at_98) (by decide) (by decide) k) ?_
    show own_Go p e below s _ _ _ (T9.setTop (mkF m 102 #[.val (.long ai), .second, .val (.int aops), .val (.int ab), .val (.ref da), .val (.ref ms), .val (.int (1 : Int32)), .val (.int d8)] [(.int (1 : Int32))]))
    refine own_st (fun _ k => XS.istore X9.here hx rfl (hb hby at_102) rfl (l' := #[.val (.long ai), .second, .val (.int aops), .val (.int ab), .val (.ref da), .val (.ref ms), .val (.int (1 : Int32)), .val (.int d8)]) rfl k) ?_
    show own_Go p e below s _ _ _ (T9.setTop (mkF m 104 #[.val (.long ai), .second, .val (.int aops), .val (.int ab), .val (.ref da), .val (.ref ms), .val (.int (1 : Int32)), .val (.int d8)] []))
    exact J104
  · show own_Go p e below s _ _ _ (T9.setTop (mkF m 86 #[.val (.long ai), .second, .val (.int aops), .val (.int ab), .val (.ref da), .val (.ref ms), .val (.int (1 : Int32)), .val (.int d8)] [(.int d8), (.int (own_pos d8))]))
    refine own_st (fun _ k => XS.ifYes X9.here hx rfl (pc0 := 86) (pc' := 93) rfl (hb hby at_86) rfl ((if0 _ _).trans (flt c104).2.2.2) (by decide) (by decide) k) ?_
    show own_Go p e below s _ _ _ (T9.setTop (mkF m 93 #[.val (.long ai), .second, .val (.int aops), .val (.int ab), .val (.ref da), .val (.ref ms), .val (.int (1 : Int32)), .val (.int d8)] [(.int (own_pos d8))]))
    refine own_st (fun _ k => XS.iconst X9.here hx rfl (hb hby at_93) k) ?_
    show own_Go p e below s _ _ _ (T9.setTop (mkF m 94 #[.val (.long ai), .second, .val (.int aops), .val (.int ab), .val (.ref da), .val (.ref ms), .val (.int (1 : Int32)), .val (.int d8)] [(.int (0 : Int32)), (.int (own_pos d8))]))
    refine own_st (fun _ k => XS.icmpNo X9.here hx rfl (hb hby at_94) rfl (teq (own_pos0 c104)).2 k) ?_
    show own_Go p e below s _ _ _ (T9.setTop (mkF m 97 #[.val (.long ai), .second, .val (.int aops), .val (.int ab), .val (.ref da), .val (.ref ms), .val (.int (1 : Int32)), .val (.int d8)] []))
    refine own_st (fun _ k => XS.iconst X9.here hx rfl (hb hby at_97) k) ?_
    show own_Go p e below s _ _ _ (T9.setTop (mkF m 98 #[.val (.long ai), .second, .val (.int aops), .val (.int ab), .val (.ref da), .val (.ref ms), .val (.int (1 : Int32)), .val (.int d8)] [(.int (1 : Int32))]))
    refine own_st (fun _ k => XS.goto X9.here hx rfl (pc0 := 98) (pc' := 102) rfl (hb hby at_98) (by decide) (by decide) k) ?_
    show own_Go p e below s _ _ _ (T9.setTop (mkF m 102 #[.val (.long ai), .second, .val (.int aops), .val (.int ab), .val (.ref da), .val (.ref ms), .val (.int (1 : Int32)), .val (.int d8)] [(.int (1 : Int32))]))
    refine own_st (fun _ k => XS.istore X9.here hx rfl (hb hby at_102) rfl (l' := #[.val (.long ai), .second, .val (.int aops), .val (.int ab), .val (.ref da), .val (.ref ms), .val (.int (1 : Int32)), .val (.int d8)]) rfl k) ?_
    show own_Go p e below s _ _ _ (T9.setTop (mkF m 104 #[.val (.long ai), .second, .val (.int aops), .val (.int ab), .val (.ref da), .val (.ref ms), .val (.int (1 : Int32)), .val (.int d8)] []))
    exact J104
set_option maxRecDepth 65536 in
set_option maxHeartbeats 40000000 in
theorem own_comes {Post : Tables → Env → Array Value → State → Outcome → State → Prop} (hpost : ∀ tb e args s v u, (limb_1_1.after args s (.returned v) u = true ∧ limb_1_2.after args s (.returned v) u = true ∧ True) → FrameEnd s (.returned v) u (Jvm.fieldLocs frame_1_writes args s ++ Jvm.arrayLocs frame_1_arrays args s ++ Jvm.staticLocs frame_1_statics s) 16 128 → Post tb e args s (.returned v) u) :
    ArmFor flags0 classFile x code maxLocals ret World_1 tables_1 room_1 Calls_1 rest_1 Pre_1 Post := by
  intro l hfl _ _ p e ha hc hk s m args below hf hA hF happ hP
  obtain ⟨hcalls, hrest, hpre⟩ := hP
  obtain ⟨-, -, -, hnamed, -, -, -, hat⟩ := (Spec.applies_iff hf).mp happ
  obtain ⟨hg, hn⟩ := and_e (Cond.before_iff.mp (show (Jvm.Cond.and given_1 narrow_1).before args s = true from hpre))
  obtain ⟨gc, r0⟩ := and_e hg
  obtain ⟨k0, r1⟩ := and_e r0
  obtain ⟨k1, r2⟩ := and_e r1
  obtain ⟨w0, w1, w2, rfl⟩ : ∃ w0 w1 w2 : Value, args = #[w0, w1, w2] := by
    have hs : args.size = 3 := by simpa [Cond.value, given_1] using gc
    obtain ⟨L⟩ := args
    match L, hs with
    | [w0, w1, w2], _ => exact ⟨w0, w1, w2, rfl⟩
  have hw := fun d (hd : d ∈ tables_1) => atoms_spec (ws := Jvm.Cond.code x code maxLocals ret :: tables_1) hat d (List.mem_cons_of_mem _ hd)
  obtain ⟨i0, ei0⟩ := isL_v k0
  obtain rfl : w0 = (.long i0) := Option.some.inj ei0
  obtain ⟨i1, ei1⟩ := is_v k1
  obtain rfl : w1 = (.int i1) := Option.some.inj ei1
  obtain ⟨i2, ei2⟩ := is_v r2
  obtain rfl : w2 = (.int i2) := Option.some.inj ei2
  obtain ⟨n, o, h1, h2, h3, _, L, rfl, ⟨rfl, N⟩, hq⟩ := own_rm0 l s _ hw i0 i1 i2 s.heap s.heap.size (Nat.le_refl _)  tables_1 p e ha hc hk s m _ below hf ((Spec.applies_iff_loose hf).mp happ).1 ⟨rfl, State.Warmed39.refl s, rfl⟩ trivial
  refine ⟨n, _, h1, h2, h3, hpost _ _ _ _ _ _ ⟨Cond.after_iff.mpr rfl, Cond.after_iff.mpr (eq_i res_at (Term.int_eval (1)) rfl), trivial⟩ ⟨hq.1, hq.2.1, (hq.2.2.sift fun y hy => Or.inr (N y hy)).mono (by decide) (by decide)⟩⟩
theorem main_1_1 : Claimed_1_1 := own_comes fun _ _ _ _ _ _ h hF => ⟨h.1, hF⟩
theorem main_1_2 : Claimed_1_2 := own_comes fun _ _ _ _ _ _ h hF => ⟨h.2.1, hF⟩
end Jvm.Pilot.@@N@@
namespace Jvm.Pilot.@@N@@
open Jvm Jvm.ClassFile Sem Op Lib Jvm.Free Jvm.Stand Jvm.Pilot.@@N@@.Jvm.D
/-! MADE BY PROGRAM (witnessworld.py) out of the Statement's table words and the real class files: 9 classes; the members and pool entries that the words name. The judged class is class 1, her method 2. -/
namespace start1
open Jvm.ClassFile
def u (s : String) : CpInfo := .utf8 (stringToUtf16 s)
/-- a pool by its gaps: so many unusable entries, then the entry; so many at the end -/
def gap : Nat → List CpInfo → List CpInfo
  | 0, r => r
  | n + 1, r => .unusable :: gap n r
def poolList (es : List (Nat × CpInfo)) (last : Nat) : List CpInfo := es.foldr (fun e r => gap e.1 (e.2 :: r)) (gap last [])
def pool (es : List (Nat × CpInfo)) (last : Nat) : Array CpInfo := ⟨poolList es last⟩
def fileOf (pool : Array CpInfo) (this : Nat) (attrs : Array Attribute := #[]) (ms : Array MethodInfo := #[]) (fl : Nat := 33) (sup : Nat := 0) (ifs : Array Nat := #[]) (fds : Array FieldInfo := #[]) : ClassFile where
  minorVersion := 0
  majorVersion := 65
  constantPool := pool
  accessFlags := fl
  thisClass := this
  superClass := sup
  interfaces := ifs
  fields := fds
  methods := ms
  attributes := attrs
def plain (name : String) (sup : Option ClassId) : Class where
  name := name
  kind := .ordinary
  loader := none
  accessFlags := 33
  super := sup
  interfaces := #[]
  cf := none
  fields := #[]
  methods := #[]
  instanceTypes := #[]
  staticTypes := #[]
  resolved := #[]
  callSites := []
  init := .initialized
  statics := none
  mirror := none

def pool0 : Array CpInfo := pool [(5, u "<init>"), (0, u "()V"), (1, .class_ 10), (1, u "java/lang/Object")] 113

def k0c0 : Code := { maxStack := 0, maxLocals := 1, code := object_method_1_code, exceptionTable := #[], attributes := #[] }
def k0m0 : Method := { name := "<init>", desc := "()V", sig := { parameters := [], returnType := none }, accessFlags := 1, code := some k0c0 }
/-- java/lang/Object -/
def k0 : Class := { plain "java/lang/Object" none with
  accessFlags := 33
  interfaces := #[]
  cf := some (fileOf pool0 8 #[] #[{ accessFlags := 1, nameIndex := 5, descriptorIndex := 6, attributes := #[] }] 33 0 #[] #[])
  fields := #[]
  methods := #[k0m0]
  instanceTypes := #[]
  staticTypes := #[]
  resolved := Array.replicate 124 none
  statics := none }

def pool1 : Array CpInfo := pool [(2, .class_ 4), (1, u "java/lang/Object"), (0, u "<init>"), (0, u "()V"), (0, .methodref 8 9), (0, .class_ 10), (0, .nameAndType 11 6), (0, u "com/example/prudent_queue/prudentqueue/queue/Message"), (0, u "hold"), (0, .methodref 8 13), (0, .nameAndType 14 6), (0, u "letGo"), (0, .methodref 8 16), (0, .nameAndType 5 17), (0, u "(J[B)V"), (0, .methodref 8 19), (0, .nameAndType 20 21), (0, u "isHeld"), (0, u "()Z"), (0, .methodref 23 24), (0, .class_ 25), (0, .nameAndType 26 27), (0, u "com/example/prudent_queue/prudentqueue/queue/MessageIsHeldPinLaw"), (0, u "step"), (0, u "(Lcom/example/prudent_queue/prudentqueue/queue/Message;II)I"), (0, .methodref 8 29), (0, .nameAndType 30 31), (0, u "getId"), (0, u "()J"), (0, .methodref 8 33), (0, .nameAndType 34 35), (0, u "getData"), (0, u "()[B"), (3, u "law"), (0, u "(JII)Z")] 4

def k1m0 : Method := { name := "<init>", desc := "()V", sig := { parameters := [], returnType := none }, accessFlags := 1, code := none }
def k1c1 : Code := { maxStack := 2, maxLocals := 4, code := method_2_code, exceptionTable := #[], attributes := #[] }
def k1m1 : Method := { name := "step", desc := "(Lcom/example/prudent_queue/prudentqueue/queue/Message;II)I", sig := { parameters := [(.object "com/example/prudent_queue/prudentqueue/queue/Message"), .int, .int], returnType := some .int }, accessFlags := 10, code := some k1c1 }
def k1c2 : Code := { maxStack := 5, maxLocals := 8, code := code, exceptionTable := #[], attributes := #[] }
def k1m2 : Method := { name := "law", desc := "(JII)Z", sig := { parameters := [.long, .int, .int], returnType := some .boolean }, accessFlags := 9, code := some k1c2 }
/-- com/example/prudent_queue/prudentqueue/queue/MessageIsHeldPinLaw -/
def k1 : Class := { plain "com/example/prudent_queue/prudentqueue/queue/MessageIsHeldPinLaw" (some 0) with
  accessFlags := 49
  interfaces := #[]
  cf := some (fileOf pool1 23 #[] #[{ accessFlags := 1, nameIndex := 5, descriptorIndex := 6, attributes := #[] }, { accessFlags := 10, nameIndex := 26, descriptorIndex := 27, attributes := #[] }, { accessFlags := 9, nameIndex := 39, descriptorIndex := 40, attributes := #[] }] 49 2 #[] #[])
  fields := #[]
  methods := #[k1m0, k1m1, k1m2]
  instanceTypes := #[]
  staticTypes := #[]
  resolved := Array.replicate 45 none
  statics := none }

def pool2 : Array CpInfo := pool [(1, .methodref 2 3), (0, .class_ 4), (0, .nameAndType 5 6), (0, u "java/lang/Object"), (0, u "<init>"), (0, u "()V"), (0, .fieldref 8 9), (0, .class_ 10), (0, .nameAndType 11 12), (0, u "com/example/prudent_queue/prudentqueue/queue/Message"), (0, u "id"), (0, u "J"), (0, .fieldref 8 14), (0, .nameAndType 15 16), (0, u "data"), (0, u "[B"), (0, .fieldref 8 18), (0, .nameAndType 19 20), (0, u "holders"), (0, u "I"), (0, u "(J[B)V"), (2, u "getId"), (0, u "()J"), (0, u "getData"), (0, u "()[B"), (0, u "hold"), (0, u "letGo"), (0, u "isHeld"), (0, u "()Z")] 3

def k2c0 : Code := { maxStack := 3, maxLocals := 4, code := prog_26_method_1_code, exceptionTable := #[], attributes := #[] }
def k2m0 : Method := { name := "<init>", desc := "(J[B)V", sig := { parameters := [.long, (.array .byte)], returnType := none }, accessFlags := 0, code := some k2c0 }
def k2c1 : Code := { maxStack := 2, maxLocals := 1, code := prog_26_method_2_code, exceptionTable := #[], attributes := #[] }
def k2m1 : Method := { name := "getId", desc := "()J", sig := { parameters := [], returnType := some .long }, accessFlags := 0, code := some k2c1 }
def k2c2 : Code := { maxStack := 1, maxLocals := 1, code := prog_26_method_3_code, exceptionTable := #[], attributes := #[] }
def k2m2 : Method := { name := "getData", desc := "()[B", sig := { parameters := [], returnType := some (.array .byte) }, accessFlags := 0, code := some k2c2 }
def k2c3 : Code := { maxStack := 3, maxLocals := 1, code := prog_26_method_4_code, exceptionTable := #[], attributes := #[] }
def k2m3 : Method := { name := "hold", desc := "()V", sig := { parameters := [], returnType := none }, accessFlags := 0, code := some k2c3 }
def k2c4 : Code := { maxStack := 3, maxLocals := 1, code := prog_26_method_5_code, exceptionTable := #[], attributes := #[] }
def k2m4 : Method := { name := "letGo", desc := "()V", sig := { parameters := [], returnType := none }, accessFlags := 0, code := some k2c4 }
def k2c5 : Code := { maxStack := 1, maxLocals := 1, code := prog_26_method_6_code, exceptionTable := #[], attributes := #[] }
def k2m5 : Method := { name := "isHeld", desc := "()Z", sig := { parameters := [], returnType := some .boolean }, accessFlags := 0, code := some k2c5 }
/-- com/example/prudent_queue/prudentqueue/queue/Message -/
def k2 : Class := { plain "com/example/prudent_queue/prudentqueue/queue/Message" (some 0) with
  accessFlags := 48
  interfaces := #[]
  cf := some (fileOf pool2 8 #[] #[{ accessFlags := 0, nameIndex := 5, descriptorIndex := 21, attributes := #[] }, { accessFlags := 0, nameIndex := 24, descriptorIndex := 25, attributes := #[] }, { accessFlags := 0, nameIndex := 26, descriptorIndex := 27, attributes := #[] }, { accessFlags := 0, nameIndex := 28, descriptorIndex := 6, attributes := #[] }, { accessFlags := 0, nameIndex := 29, descriptorIndex := 6, attributes := #[] }, { accessFlags := 0, nameIndex := 30, descriptorIndex := 31, attributes := #[] }] 48 2 #[] #[{ accessFlags := 18, nameIndex := 11, descriptorIndex := 12, attributes := #[] }, { accessFlags := 18, nameIndex := 15, descriptorIndex := 16, attributes := #[] }, { accessFlags := 2, nameIndex := 19, descriptorIndex := 20, attributes := #[] }])
  fields := #[{ name := "id", type := .long, accessFlags := 18, slot := 0, constantValue := 0 }, { name := "data", type := (.array .byte), accessFlags := 18, slot := 1, constantValue := 0 }, { name := "holders", type := .int, accessFlags := 2, slot := 2, constantValue := 0 }]
  methods := #[k2m0, k2m1, k2m2, k2m3, k2m4, k2m5]
  instanceTypes := #[.long, (.array .byte), .int]
  staticTypes := #[]
  resolved := Array.replicate 35 none
  statics := none }

def pool3 : Array CpInfo := pool [(1, u "java/lang/Cloneable"), (0, .class_ 1), (0, u "java/lang/Object"), (0, .class_ 3)] 3

/-- java/lang/Cloneable -/
def k3 : Class := { plain "java/lang/Cloneable" (some 0) with
  accessFlags := 1537
  interfaces := #[]
  cf := some (fileOf pool3 2 #[] #[] 1537 4 #[] #[])
  fields := #[]
  methods := #[]
  instanceTypes := #[]
  staticTypes := #[]
  resolved := Array.replicate 8 none
  statics := none }

def pool4 : Array CpInfo := pool [(1, u "java/io/Serializable"), (0, .class_ 1), (0, u "java/lang/Object"), (0, .class_ 3)] 3

/-- java/io/Serializable -/
def k4 : Class := { plain "java/io/Serializable" (some 0) with
  accessFlags := 1537
  interfaces := #[]
  cf := some (fileOf pool4 2 #[] #[] 1537 4 #[] #[])
  fields := #[]
  methods := #[]
  instanceTypes := #[]
  staticTypes := #[]
  resolved := Array.replicate 8 none
  statics := none }

/-- the primitive byte -/
def k5 : Class := { plain "byte" none with kind := .primitive 'B', accessFlags := 0x411 }
/-- [B -/
def k6 : Class := { plain "[B" (some 0) with kind := .array 5 .byte, interfaces := #[3, 4], accessFlags := 1041 }

/-- the primitive int -/
def k7 : Class := { plain "int" none with kind := .primitive 'I', accessFlags := 0x411 }
/-- [I -/
def k8 : Class := { plain "[I" (some 0) with kind := .array 7 .int, interfaces := #[3, 4], accessFlags := 1041 }

def heap : Heap := #[]
def classes : Array Class := #[k0, k1, k2, k3, k4, k5, k6, k7, k8]
def interned : List (Array UInt16 × Addr) := []
def slotsUsed : Nat := 0
def theMethod : MethodId := ⟨1, 2⟩
def args0 : Array Value := #[.long 5, .int 5, .int 4]
def aboutOver (below : List Frame) : State where
  vm := { classes := classes, interned := interned.toArray }
  heap := heap
  slotsUsed := slotsUsed
  threads := #[{ frames := .invoking theMethod args0 :: below }]
def below0 : List Frame := [.native { method := ⟨0, 0⟩, args := #[] }]
def about1 : State := aboutOver below0
def p0 : Program := .bare "" "" ""
def e0 : Env := launch0.env 0 0 0
theorem w_frames : about1.frames = Frame.invoking theMethod args0 :: below0 := rfl
set_option maxRecDepth 65536 in
theorem w_args : argsFit about1.vm theMethod args0 = true := by decide +kernel
set_option maxRecDepth 65536 in
theorem w_heap : heapFits about1 = true := by decide +kernel
set_option maxRecDepth 65536 in
theorem w_runnable : about1.curStatus? = some .runnable := by decide +kernel
set_option maxRecDepth 65536 in
theorem w_alone : about1.alone = true := by decide +kernel
set_option maxRecDepth 65536 in
theorem w_named : about1.methodNamed? x = some theMethod := by decide +kernel
set_option maxRecDepth 65536 in
theorem w_hears : about1.hears theMethod below0 = true := by decide +kernel
set_option maxRecDepth 65536 in
theorem w_ripe : about1.ripe theMethod args0 below0 = true := by decide +kernel
theorem w_running : about1.status = .running := rfl
set_option maxRecDepth 65536 in
theorem w_room : about1.hasRoom e0.platform room_1 = true :=
  launch0.hasRoom_least _ room_1 (by decide +kernel) (by decide +kernel) (by decide +kernel) (by decide +kernel) (by decide +kernel) (by decide +kernel)
theorem allAtoms_all (ts : List Jvm.Cond) (a : Array Jvm.Value) (st : Jvm.State) : (allAtoms ts).before a st = ts.all (fun c => c.before a st) := by
  induction ts with
  | nil => rfl
  | cons c t ih =>
    show (Jvm.Cond.and c (allAtoms t)).before a st = _
    rw [Jvm.Cond.before_and, ih, List.all_cons]
def words1 : List Jvm.Cond := Jvm.Cond.code x code maxLocals ret :: tables_1
/-- a 'code' word, met by the world's own term for the bytes: nothing is compared byte by byte -/
theorem code_word {y : MethodName} {bytes : ByteArray} {mx : Nat} {rt : Option FieldType} {a : Array Value} {s : State} {m : MethodId} {meth : Method} {c : Code} (h1 : s.methodNamed? y = some m) (h2 : s.vm.method? m = some meth) (h3 : meth.code = some c) (h4 : c.code = bytes)
    (h5 : (c.maxLocals == mx && c.exceptionTable.isEmpty && decide (c.maxStack ≤ mostOperands) && decide (meth.sig.returnType = rt) && !meth.locks && decide (parseMethodDescriptor y.desc = some meth.sig)) = true) : (Jvm.Cond.code y bytes mx rt).before a s = true := by
  simp only [Bool.and_eq_true, beq_iff_eq, Bool.not_eq_true', decide_eq_true_eq] at h5
  obtain ⟨⟨⟨⟨⟨g1, g2⟩, g3⟩, g4⟩, g5⟩, g6⟩ := h5
  simp [Cond.before, Cond.holds, Cond.value, h1, h2, h3, h4, g1, g2, g3, g4, g5, g6]
def isCode : Jvm.Cond → Bool
  | .code _ _ _ _ => true
  | _ => false
theorem all_split {L : List Jvm.Cond} {P : Jvm.Cond → Bool} (h1 : L.all (fun c => isCode c || P c) = true) (h2 : ∀ c ∈ L.filter isCode, P c = true) : L.all P = true := by
  refine List.all_eq_true.mpr fun c hc => ?_
  have h := List.all_eq_true.mp h1 c hc
  rcases Bool.eq_false_or_eq_true (isCode c) with hi | hi
  · exact h2 c (List.mem_filter.mpr ⟨hc, hi⟩)
  · simpa [hi] using h
set_option maxRecDepth 65536 in
theorem w_c0 : (Jvm.Cond.code x code maxLocals ret).before args0 about1 = true := code_word (m := ⟨1, 2⟩) (meth := k1m2) (c := k1c2) (by decide +kernel) rfl rfl rfl (by decide +kernel)
set_option maxRecDepth 65536 in
theorem w_c1 : (Jvm.Cond.code ({ cls := "com/example/prudent_queue/prudentqueue/queue/Message", name := "<init>", desc := "(J[B)V" } : Jvm.MethodName) prog_26_method_1_code (4 : Nat) (Option.none : Option Jvm.ClassFile.FieldType)).before args0 about1 = true := code_word (m := ⟨2, 0⟩) (meth := k2m0) (c := k2c0) (by decide +kernel) rfl rfl rfl (by decide +kernel)
set_option maxRecDepth 65536 in
theorem w_c2 : (Jvm.Cond.code ({ cls := "java/lang/Object", name := "<init>", desc := "()V" } : Jvm.MethodName) object_method_1_code (1 : Nat) (Option.none : Option Jvm.ClassFile.FieldType)).before args0 about1 = true := code_word (m := ⟨0, 0⟩) (meth := k0m0) (c := k0c0) (by decide +kernel) rfl rfl rfl (by decide +kernel)
set_option maxRecDepth 65536 in
theorem w_c3 : (Jvm.Cond.code ({ cls := "com/example/prudent_queue/prudentqueue/queue/Message", name := "isHeld", desc := "()Z" } : Jvm.MethodName) prog_26_method_6_code (1 : Nat) (Option.some Jvm.ClassFile.FieldType.boolean)).before args0 about1 = true := code_word (m := ⟨2, 5⟩) (meth := k2m5) (c := k2c5) (by decide +kernel) rfl rfl rfl (by decide +kernel)
set_option maxRecDepth 65536 in
theorem w_c4 : (Jvm.Cond.code ({ cls := "com/example/prudent_queue/prudentqueue/queue/MessageIsHeldPinLaw", name := "step", desc := "(Lcom/example/prudent_queue/prudentqueue/queue/Message;II)I" } : Jvm.MethodName) method_2_code (4 : Nat) (Option.some Jvm.ClassFile.FieldType.int)).before args0 about1 = true := code_word (m := ⟨1, 1⟩) (meth := k1m1) (c := k1c1) (by decide +kernel) rfl rfl rfl (by decide +kernel)
set_option maxRecDepth 65536 in
theorem w_c5 : (Jvm.Cond.code ({ cls := "com/example/prudent_queue/prudentqueue/queue/Message", name := "getId", desc := "()J" } : Jvm.MethodName) prog_26_method_2_code (1 : Nat) (Option.some Jvm.ClassFile.FieldType.long)).before args0 about1 = true := code_word (m := ⟨2, 1⟩) (meth := k2m1) (c := k2c1) (by decide +kernel) rfl rfl rfl (by decide +kernel)
set_option maxRecDepth 65536 in
theorem w_c6 : (Jvm.Cond.code ({ cls := "com/example/prudent_queue/prudentqueue/queue/Message", name := "getData", desc := "()[B" } : Jvm.MethodName) prog_26_method_3_code (1 : Nat) (Option.some (Jvm.ClassFile.FieldType.array Jvm.ClassFile.FieldType.byte))).before args0 about1 = true := code_word (m := ⟨2, 2⟩) (meth := k2m2) (c := k2c2) (by decide +kernel) rfl rfl rfl (by decide +kernel)
set_option maxRecDepth 65536 in
theorem w_c7 : (Jvm.Cond.code ({ cls := "com/example/prudent_queue/prudentqueue/queue/Message", name := "hold", desc := "()V" } : Jvm.MethodName) prog_26_method_4_code (1 : Nat) (Option.none : Option Jvm.ClassFile.FieldType)).before args0 about1 = true := code_word (m := ⟨2, 3⟩) (meth := k2m3) (c := k2c3) (by decide +kernel) rfl rfl rfl (by decide +kernel)
set_option maxRecDepth 65536 in
theorem w_c8 : (Jvm.Cond.code ({ cls := "com/example/prudent_queue/prudentqueue/queue/Message", name := "letGo", desc := "()V" } : Jvm.MethodName) prog_26_method_5_code (1 : Nat) (Option.none : Option Jvm.ClassFile.FieldType)).before args0 about1 = true := code_word (m := ⟨2, 4⟩) (meth := k2m4) (c := k2c4) (by decide +kernel) rfl rfl rfl (by decide +kernel)
def codes1 : List Jvm.Cond := [Jvm.Cond.code x code maxLocals ret, Jvm.Cond.code ({ cls := "com/example/prudent_queue/prudentqueue/queue/Message", name := "<init>", desc := "(J[B)V" } : Jvm.MethodName) prog_26_method_1_code (4 : Nat) (Option.none : Option Jvm.ClassFile.FieldType), Jvm.Cond.code ({ cls := "java/lang/Object", name := "<init>", desc := "()V" } : Jvm.MethodName) object_method_1_code (1 : Nat) (Option.none : Option Jvm.ClassFile.FieldType), Jvm.Cond.code ({ cls := "com/example/prudent_queue/prudentqueue/queue/Message", name := "isHeld", desc := "()Z" } : Jvm.MethodName) prog_26_method_6_code (1 : Nat) (Option.some Jvm.ClassFile.FieldType.boolean), Jvm.Cond.code ({ cls := "com/example/prudent_queue/prudentqueue/queue/MessageIsHeldPinLaw", name := "step", desc := "(Lcom/example/prudent_queue/prudentqueue/queue/Message;II)I" } : Jvm.MethodName) method_2_code (4 : Nat) (Option.some Jvm.ClassFile.FieldType.int), Jvm.Cond.code ({ cls := "com/example/prudent_queue/prudentqueue/queue/Message", name := "getId", desc := "()J" } : Jvm.MethodName) prog_26_method_2_code (1 : Nat) (Option.some Jvm.ClassFile.FieldType.long), Jvm.Cond.code ({ cls := "com/example/prudent_queue/prudentqueue/queue/Message", name := "getData", desc := "()[B" } : Jvm.MethodName) prog_26_method_3_code (1 : Nat) (Option.some (Jvm.ClassFile.FieldType.array Jvm.ClassFile.FieldType.byte)), Jvm.Cond.code ({ cls := "com/example/prudent_queue/prudentqueue/queue/Message", name := "hold", desc := "()V" } : Jvm.MethodName) prog_26_method_4_code (1 : Nat) (Option.none : Option Jvm.ClassFile.FieldType), Jvm.Cond.code ({ cls := "com/example/prudent_queue/prudentqueue/queue/Message", name := "letGo", desc := "()V" } : Jvm.MethodName) prog_26_method_5_code (1 : Nat) (Option.none : Option Jvm.ClassFile.FieldType)]
set_option maxRecDepth 65536 in
theorem codes_eq : words1.filter isCode = codes1 := rfl
theorem w_codes : ∀ c ∈ words1.filter isCode, c.before args0 about1 = true := by
  rw [codes_eq]
  intro c hc
  simp only [codes1, List.mem_cons, List.not_mem_nil, or_false] at hc
  rcases hc with rfl | rfl | rfl | rfl | rfl | rfl | rfl | rfl | rfl
  · exact w_c0
  · exact w_c1
  · exact w_c2
  · exact w_c3
  · exact w_c4
  · exact w_c5
  · exact w_c6
  · exact w_c7
  · exact w_c8
set_option maxRecDepth 65536 in
theorem w_t1 : (words1.take 24).all (fun c => isCode c || c.before args0 about1) = true := by decide +kernel
set_option maxRecDepth 65536 in
theorem w_t2 : (words1.drop 24).all (fun c => isCode c || c.before args0 about1) = true := by decide +kernel
theorem w_tables : (allAtoms (Jvm.Cond.code x code maxLocals ret :: tables_1)).before args0 about1 = true := by
  rw [allAtoms_all]
  show words1.all (fun c => c.before args0 about1) = true
  refine all_split ?_ w_codes
  rw [← List.take_append_drop 24 words1, List.all_append, w_t1, w_t2]
  rfl
set_option maxRecDepth 65536 in
theorem w_case : (Jvm.Cond.and given_1 narrow_1).before args0 about1 = true := by decide +kernel
theorem w_applies : (headSpec (Jvm.Cond.code x code maxLocals ret :: tables_1) room_1).applies x e0.platform about1 = true :=
  (Spec.applies_iff w_frames).mpr ⟨w_running, w_runnable, w_alone, w_named, w_hears, w_ripe, w_room, w_tables⟩
theorem atStart : AtStart classFile x code maxLocals ret World_1 tables_1 room_1 Calls_1 rest_1 Pre_1 launch0 p0 e0 about1 theMethod args0 below0 :=
  ⟨lists_1, trivial, launch0.admits_env _ _ _, launch0.least_env, fairChoices_fair.cas, fairChoices_fair.clock, w_frames, w_args, w_heap, w_applies, trivial, trivial, w_case⟩
end start1
theorem witness_1 : WitnessClaimed_1 := ⟨start1.p0, start1.e0, start1.about1, start1.theMethod, start1.args0, start1.below0, start1.atStart⟩
end Jvm.Pilot.@@N@@
