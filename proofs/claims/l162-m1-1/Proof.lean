import JvmDerived
import JvmDerived.Pilot.@@N@@Statement
import JvmDerived.Pilot.@@N@@Code
set_option linter.unusedVariables false
set_option linter.unusedSimpArgs false
namespace Jvm.Pilot.@@N@@
open Jvm Jvm.ClassFile Sem Op Lib Jvm.Free Jvm.Stand Jvm.LawKit Jvm.RoadKit Bundle Jvm.Pilot.@@N@@.Jvm.D
section OwnKit
variable {p : Program} {l : Launch} {e : Env} {R : Room} {s : State} {m : MethodId} {args : Array Value} {below : List Frame} {meth : Method} {c : Code} {T : State} {locs : List Loc} {cells slots : Nat} {Z : State} {a0 : Array Value} {h h' : Heap}
/-- what a body leaves: its value, the heap, the places written -/
abbrev own_P := Option Value → Heap → List Loc → Prop
/-- from here the run comes back, and leaves P -/
def own_Go (p : Program) (e : Env) (below : List Frame) (s : State) (P : own_P) (kc ks : Nat) (A : State) : Prop :=
  ∃ s₂ o, Steps p.tables e below A s₂ ∧ s₂.status = .running ∧ Ended s₂ below o ∧ ∃ v L, o = Outcome.returned v ∧ P v s₂.heap L ∧ FrameEnd s o s₂ L kc ks
theorem own_st {P : own_P} {kc ks : Nat} {A B : State} (hs : ∀ t, Steps p.tables e below B t → Steps p.tables e below A t) (k : own_Go p e below s P kc ks B) : own_Go p e below s P kc ks A := by
  obtain ⟨s₂, o, h1, h2⟩ := k
  exact ⟨s₂, o, hs _ h1, h2⟩
theorem own_stT {P : own_P} {kc ks : Nat} {A B : State} (hs : Steps p.tables e below A B) (k : own_Go p e below s P kc ks B) : own_Go p e below s P kc ks A := by
  obtain ⟨s₂, o, h1, h2⟩ := k
  exact ⟨s₂, o, hs.trans h1, h2⟩
theorem own_end (X : Stand p l e R s m args below meth c T locs cells slots) (hx : p.tables.exec = Jvm.exec) (hlk : meth.locks = false) {P : own_P} {kc ks : Nat} {pc : Nat} {Ls : Array Slot} {w : Value} {t : FieldType} {i : Instr} {rest : List Value} (hret : meth.sig.returnType = some t) (hn : narrow t w = w)
    (hi : (i = .ireturn ∧ (t = .int ∨ t = .boolean ∨ t = .byte ∨ t = .char ∨ t = .short) ∧ ∃ z, w = .int z) ∨ (i = .lreturn ∧ t = .long ∧ ∃ z, w = .long z) ∨ (i = .dreturn ∧ t = .double ∧ ∃ z, w = .double z) ∨ (i = .freturn ∧ t = .float ∧ ∃ z, w = .float z) ∨ (i = .areturn ∧ t.isReference = true ∧ w.isRef = true))
    (hd : decode c.code pc = .ok (i, 1)) (hP : P (some w) T.heap locs) (hc : cells ≤ kc) (hs : slots ≤ ks) : own_Go p e below s P kc ks (T.setTop (mkF m pc Ls (w :: rest))) := by
  obtain ⟨fs, hr, hrun, hended, hW, hsame⟩ := X.leave (v := some w) (fun h => by rw [hret] at h; cases h) hlk
  exact ⟨_, _, retOut X hx hret hn hi hd hr, hrun, hended, _, _, rfl, hP, ⟨_, rfl⟩, hW, hsame.mono hc hs⟩
theorem own_endI (X : Stand p l e R s m args below meth c T locs cells slots) (hx : p.tables.exec = Jvm.exec) (hlk : meth.locks = false) {P : own_P} {kc ks : Nat} {pc : Nat} {Ls : Array Slot} {z : Int32} {rest : List Value} (hret : meth.sig.returnType = some .int)
    (hd : decode c.code pc = .ok (.ireturn, 1)) (hP : P (some (.int z)) T.heap locs) (hc : cells ≤ kc) (hs : slots ≤ ks) : own_Go p e below s P kc ks (T.setTop (mkF m pc Ls (.int z :: rest))) :=
  own_end X hx hlk hret rfl (Or.inl ⟨rfl, Or.inl rfl, z, rfl⟩) hd hP hc hs
theorem own_endJ (X : Stand p l e R s m args below meth c T locs cells slots) (hx : p.tables.exec = Jvm.exec) (hlk : meth.locks = false) {P : own_P} {kc ks : Nat} {pc : Nat} {Ls : Array Slot} {z : Int64} {rest : List Value} (hret : meth.sig.returnType = some .long)
    (hd : decode c.code pc = .ok (.lreturn, 1)) (hP : P (some (.long z)) T.heap locs) (hc : cells ≤ kc) (hs : slots ≤ ks) : own_Go p e below s P kc ks (T.setTop (mkF m pc Ls (.long z :: rest))) :=
  own_end X hx hlk hret rfl (Or.inr (Or.inl ⟨rfl, rfl, z, rfl⟩)) hd hP hc hs
theorem own_endA (X : Stand p l e R s m args below meth c T locs cells slots) (hx : p.tables.exec = Jvm.exec) (hlk : meth.locks = false) {P : own_P} {kc ks : Nat} {pc : Nat} {Ls : Array Slot} {a : Addr} {t : FieldType} {rest : List Value} (hret : meth.sig.returnType = some t) (ht : t.isReference = true) (hn : narrow t (.ref a) = .ref a)
    (hd : decode c.code pc = .ok (.areturn, 1)) (hP : P (some (.ref a)) T.heap locs) (hc : cells ≤ kc) (hs : slots ≤ ks) : own_Go p e below s P kc ks (T.setTop (mkF m pc Ls (.ref a :: rest))) :=
  own_end X hx hlk hret hn (Or.inr (Or.inr (Or.inr (Or.inr ⟨rfl, ht, rfl⟩)))) hd hP hc hs
/-- a boolean, byte, char, short comes back narrowed -/
theorem own_endN (X : Stand p l e R s m args below meth c T locs cells slots) (hx : p.tables.exec = Jvm.exec) (hlk : meth.locks = false) {P : own_P} {kc ks : Nat} {pc : Nat} {Ls : Array Slot} {z : Int32} {t : FieldType} {rest : List Value} (hret : meth.sig.returnType = some t) (ht : t = .boolean ∨ t = .byte ∨ t = .char ∨ t = .short)
    (hd : decode c.code pc = .ok (.ireturn, 1)) {w : Int32} (hz : nar t z = w) (hP : P (some (.int w)) T.heap locs) (hc : cells ≤ kc) (hs : slots ≤ ks) : own_Go p e below s P kc ks (T.setTop (mkF m pc Ls (.int z :: rest))) := by
  subst hz
  obtain ⟨fs, hr, hrun, hended, hW, hsame⟩ := X.leave (v := some (.int (nar t z))) (fun h => by rw [hret] at h; cases h) hlk
  exact ⟨_, _, retN X hx hret ht hd hr, hrun, hended, _, _, rfl, hP, ⟨_, rfl⟩, hW, hsame.mono hc hs⟩
theorem own_endV (X : Stand p l e R s m args below meth c T locs cells slots) (hx : p.tables.exec = Jvm.exec) (hlk : meth.locks = false) {P : own_P} {kc ks : Nat} {pc : Nat} {Ls : Array Slot} (hret : meth.sig.returnType = none)
    (hd : decode c.code pc = .ok (.return_, 1)) (hP : P none T.heap locs) (hc : cells ≤ kc) (hs : slots ≤ ks) : own_Go p e below s P kc ks (T.setTop (mkF m pc Ls [])) := by
  obtain ⟨fs, hr, hrun, hended, hW, hsame⟩ := X.leave (v := none) (fun _ => rfl) hlk
  exact ⟨_, _, X.returnOut hx hret hd hr, hrun, hended, _, _, rfl, hP, ⟨_, rfl⟩, hW, hsame.mono hc hs⟩
/-- a body's contract -/
def own_Met (l : Launch) (Z : State) (y : MethodName) (bytes : ByteArray) (maxL : Nat) (ret : Option FieldType) (rm : Room) (as : Array Value) (h : Heap) (Q : own_P) : Prop :=
  ∀ ws : List Jvm.Cond, MetFree l y (head1 (Jvm.Cond.code y bytes maxL ret :: ws) rm) (fun a U => a = as ∧ Z.Warmed39 U.vm ∧ U.heap = h) (fun _ _ _ _ _ => True) (fun _ U o U' => ∃ v L, o = .returned v ∧ Q v U'.heap L ∧ FrameEnd U o U' L rm.cells rm.slots)
theorem own_in {y : MethodName} {bytes : ByteArray} {maxL : Nat} {ret : Option FieldType} {rm : Room} {as : Array Value} {Q : own_P} (pn : plainFor y = true)
    (body : ∀ (p : Program) (e : Env) (s : State) (m : MethodId) (below : List Frame) (meth : Method) (c : Code) (s₁ : State), p.tables.exec = Jvm.exec → c.code = bytes → c.maxLocals = maxL → s.vm.findClass y.cls = some m.cls → meth.name = y.name → meth.locks = false → meth.sig.returnType = ret → Z.Warmed39 s.vm →
      Stand p l e rm s m as below meth c s₁ [] 0 0 → s₁.heap = h → own_Go p e below s Q rm.cells rm.slots (s₁.setTop (entryFrame m as maxL))) : own_Met l Z y bytes maxL ret rm as h Q := by
  intro ws
  refine MetFree.of_bodySF pn hisR ?_
  intro p e s m args below meth c s₁ Bd hml hP hK
  obtain ⟨rfl, hZ, hh⟩ := hP
  exact body p e s m below meth c s₁ Bd.exec Bd.bytes hml (findClass_of_methodNamed Bd.named) (name_of_methodNamed Bd.named Bd.method).1 (BodyLoose.notSynchronized Bd) Bd.returns hZ (Stand.of_body Bd) (by rw [← hh, Bd.state]; rfl)
theorem own_ef {tbp : Program} {P : own_P} {kc ks : Nat} {g g' : JFrame} (q : g = g') (k : own_Go tbp e below s P kc ks (T.setTop g')) : own_Go tbp e below s P kc ks (T.setTop g) := q ▸ k
/-- a static call by its contract -/
theorem own_cS (X : Stand p l e R s m args below meth c T locs cells slots) (hx : p.tables.exec = Jvm.exec) {ml : Nat} (hml : c.maxLocals = ml) (hZ : Z.Warmed39 s.vm) {own : String} {index : Nat} {y : MethodName} {bytes : ByteArray} {maxL : Nat} {ret : Option FieldType} {rm : Room} {as : Array Value} {Q : own_P}
    (hown : s.vm.findClass own = some m.cls) (w1 : (Jvm.Cond.methodLink own index y).before a0 Z = true) (w2 : (Jvm.Cond.static y).before a0 Z = true) (w3 : (Jvm.Cond.initialized y.cls).before a0 Z = true) (w4 : (Jvm.Cond.code y bytes maxL ret).before a0 Z = true)
    (hy : y.cls ≠ "java/lang/invoke/MethodHandle" ∧ y.cls ≠ "java/lang/invoke/VarHandle") (hM : own_Met l Z y bytes maxL ret rm as h Q) (eT : T.heap = h) (hf : rm.frames + 1 ≤ R.frames) {W : Nat} (hl : W + (maxL + 11) + rm.locals ≤ R.locals)
    {g : JFrame} (hg : g.method = m) (hsize : g.locals.size = ml) {ps : List FieldType} {r : Option FieldType} (hpd : parseMethodDescriptor y.desc = some ⟨ps, r⟩) {argsL rest : List Value} (hlen : argsL.length = ps.length) (has : argsL.toArray = as) (hst : g.stack = argsL.reverse ++ rest)
    (hW : 2 * g.monitorRoom + (rest.map fun v => v.category).sum ≤ W) (hd : decode c.code g.pc = .ok (.invokestatic index, 3)) (hc : cells + rm.cells ≤ R.cells) (hs : slots + rm.slots ≤ R.slots) {P : own_P} {kc ks : Nat}
    (k : ∀ T' L v, Stand p l e R s m args below meth c T' (locs ++ L) (cells + rm.cells) (slots + rm.slots) → Q v T'.heap L → own_Go p e below s P kc ks (T'.setTop { g with pc := g.pc + 3, stack := v.toList ++ rest })) : own_Go p e below s P kc ks (T.setTop g) := by
  obtain ⟨v, vm, ⟨T', L', k', n'⟩, -, X', ⟨L, hQ, hl', hk', hn'⟩, st⟩ := Jvm.LawKit.callS X hx (y := y) hown (mvT hZ w1) (mvT hZ w2) (mvT hZ w3) (mvT hZ w4) hy (backOf (W := W) (hM []) hZ w4 w3 hf hl) hg (hsize.trans hml.symm) (argsL := argsL) (rest := rest) (lenOf hpd hlen) hst hW hd (fun _ _ => ⟨has, eT, hc, hs⟩)
  dsimp only [Pt.U, Pt.locs, Pt.cells, Pt.slots] at X' hl' hk' hn' st hQ
  subst hl' hk' hn'
  exact own_st st (k T' L v X' hQ)
/-- an instance method by its contract -/
theorem own_cV (X : Stand p l e R s m args below meth c T locs cells slots) (hx : p.tables.exec = Jvm.exec) {ml : Nat} (hml : c.maxLocals = ml) (hZ : Z.Warmed39 s.vm) {own C : String} {index : Nat} {y : MethodName} {bytes : ByteArray} {maxL : Nat} {ret : Option FieldType} {rm : Room} {as : Array Value} {Q : own_P}
    (hown : s.vm.findClass own = some m.cls) (w1 : (Jvm.Cond.methodLink own index y).before a0 Z = true) (w2 : (Jvm.Cond.declares y).before a0 Z = true) (w5 : (Jvm.Cond.selects C y y).before a0 Z = true) (w6 : (Jvm.Cond.instanceMethod y).before a0 Z = true) (w3 : (Jvm.Cond.initialized y.cls).before a0 Z = true) (w4 : (Jvm.Cond.code y bytes maxL ret).before a0 Z = true)
    (hy : y.cls ≠ "java/lang/invoke/MethodHandle" ∧ y.cls ≠ "java/lang/invoke/VarHandle") (hM : own_Met l Z y bytes maxL ret rm as h Q) (eT : T.heap = h) {b : Addr} (EX : Exa Z h b C) (hf : rm.frames + 1 ≤ R.frames) {W : Nat} (hl : W + (maxL + 11) + rm.locals ≤ R.locals)
    {g : JFrame} (hg : g.method = m) (hsize : g.locals.size = ml) {ps : List FieldType} {r : Option FieldType} (hpd : parseMethodDescriptor y.desc = some ⟨ps, r⟩) {argsL rest : List Value} (hlen : argsL.length = ps.length) (has : (.ref b :: argsL).toArray = as) (hst : g.stack = argsL.reverse ++ .ref b :: rest)
    (hW : 2 * g.monitorRoom + (rest.map fun v => v.category).sum ≤ W) (hd : decode c.code g.pc = .ok (.invokevirtual index, 3)) (hc : cells + rm.cells ≤ R.cells) (hs : slots + rm.slots ≤ R.slots) {P : own_P} {kc ks : Nat}
    (k : ∀ T' L v, Stand p l e R s m args below meth c T' (locs ++ L) (cells + rm.cells) (slots + rm.slots) → Q v T'.heap L → own_Go p e below s P kc ks (T'.setTop { g with pc := g.pc + 3, stack := v.toList ++ rest })) : own_Go p e below s P kc ks (T.setTop g) := by
  obtain ⟨cq, kq, qa, qb, qc⟩ := isOf hZ eT EX
  obtain ⟨v, vm, ⟨T', L', k', n'⟩, -, X', ⟨L, hQ, hl', hk', hn'⟩, st⟩ := X.virtualBack hx (y := y) (z := y) hown (mvT hZ w1) (mvT hZ w2) (notFace_of_selects (args := #[]) (mvT hZ w5)) (mvT hZ w5) (mvT hZ w6) hy (backOf (W := W) (hM []) hZ w4 w3 hf hl) qa qc hg (hsize.trans hml.symm) (Steps.refl _) (argsL := argsL) (rest := rest) (lenOf hpd hlen) hst hW hd (fun _ _ => ⟨has, eT, hc, hs⟩)
  dsimp only [Pt.U, Pt.locs, Pt.cells, Pt.slots] at X' hl' hk' hn' st hQ
  subst hl' hk' hn'
  exact own_stT st (k T' L v X' hQ)
/-- a private method by its contract -/
theorem own_cP (X : Stand p l e R s m args below meth c T locs cells slots) (hx : p.tables.exec = Jvm.exec) {ml : Nat} (hml : c.maxLocals = ml) (hZ : Z.Warmed39 s.vm) {own C : String} {index nn : Nat} {y : MethodName} {bytes : ByteArray} {maxL : Nat} {ret : Option FieldType} {rm : Room} {as : Array Value} {Q : own_P}
    (hown : s.vm.findClass own = some m.cls) (w1 : (Jvm.Cond.methodLink own index y).before a0 Z = true) (w2 : (Jvm.Cond.instanceMethod y).before a0 Z = true) (w5 : (Jvm.Cond.privateMethod y).before a0 Z = true) (wi : (Jvm.Cond.instantiable y.cls nn).before a0 Z = true) (w3 : (Jvm.Cond.initialized y.cls).before a0 Z = true) (w4 : (Jvm.Cond.code y bytes maxL ret).before a0 Z = true)
    (hy : y.cls ≠ "java/lang/invoke/MethodHandle" ∧ y.cls ≠ "java/lang/invoke/VarHandle") (hM : own_Met l Z y bytes maxL ret rm as h Q) (eT : T.heap = h) {b : Addr} (EX : Exa Z h b C) (hf : rm.frames + 1 ≤ R.frames) {W : Nat} (hl : W + (maxL + 11) + rm.locals ≤ R.locals)
    {g : JFrame} (hg : g.method = m) (hsize : g.locals.size = ml) {ps : List FieldType} {r : Option FieldType} (hpd : parseMethodDescriptor y.desc = some ⟨ps, r⟩) {argsL rest : List Value} (hlen : argsL.length = ps.length) (has : (.ref b :: argsL).toArray = as) (hst : g.stack = argsL.reverse ++ .ref b :: rest)
    (hW : 2 * g.monitorRoom + (rest.map fun v => v.category).sum ≤ W) (hd : decode c.code g.pc = .ok (.invokevirtual index, 3)) (hc : cells + rm.cells ≤ R.cells) (hs : slots + rm.slots ≤ R.slots) {P : own_P} {kc ks : Nat}
    (k : ∀ T' L v, Stand p l e R s m args below meth c T' (locs ++ L) (cells + rm.cells) (slots + rm.slots) → Q v T'.heap L → own_Go p e below s P kc ks (T'.setTop { g with pc := g.pc + 3, stack := v.toList ++ rest })) : own_Go p e below s P kc ks (T.setTop g) := by
  obtain ⟨cq, q1, q2⟩ := EX.cell
  have hpriv : s.PrivateAt y := Cond.privateMethod_at (mvP hZ w5 (args := #[]))
  have hsel : (Jvm.Cond.selects y.cls y y).before args s = true := by
    have wi' : (Jvm.Cond.instantiable y.cls nn).before args s = true := mvT hZ wi
    obtain ⟨c2, k2, f1, f2, f3, f4, -⟩ := Cond.instantiable_spec wi'
    exact selects_self_of_private f1 f2 (Bool.or_eq_false_iff.mp f4).1 hpriv (mvT hZ w2) hy
  obtain ⟨v, vm, ⟨T', L', k', n'⟩, -, X', ⟨L, hQ, hl', hk', hn'⟩, st⟩ := X.privateBack hx (y := y) hown (mvT hZ w1) (mvT hZ w2) hsel hpriv (mvT hZ w4) hy (backOf (W := W) (hM []) hZ w4 w3 hf hl) hg (hsize.trans hml.symm) (Steps.refl _) (a := b) (by rw [eT]; exact q1) q2 (argsL := argsL) (rest := rest) (lenOf hpd hlen) hst hW hd (fun _ _ => ⟨has, eT, hc, hs⟩)
  dsimp only [Pt.U, Pt.locs, Pt.cells, Pt.slots] at X' hl' hk' hn' st hQ
  subst hl' hk' hn'
  exact own_stT st (k T' L v X' hQ)
/-- a constructor by its contract -/
theorem own_cN (X : Stand p l e R s m args below meth c T locs cells slots) (hx : p.tables.exec = Jvm.exec) {ml : Nat} (hml : c.maxLocals = ml) (hZ : Z.Warmed39 s.vm) {own : String} {index : Nat} {y : MethodName} {bytes : ByteArray} {maxL : Nat} {rm : Room} {as : Array Value} {Q : own_P} (hy1 : y.name = "<init>")
    (hown : s.vm.findClass own = some m.cls) (w1 : (Jvm.Cond.methodLink own index y).before a0 Z = true) (w2 : (Jvm.Cond.instanceMethod y).before a0 Z = true) (w3 : (Jvm.Cond.initialized y.cls).before a0 Z = true) (w4 : (Jvm.Cond.code y bytes maxL none).before a0 Z = true)
    (hy : y.cls ≠ "java/lang/invoke/MethodHandle" ∧ y.cls ≠ "java/lang/invoke/VarHandle") (hM : own_Met l Z y bytes maxL none rm as h Q) (eT : T.heap = h) (hf : rm.frames + 1 ≤ R.frames) {W : Nat} (hl : W + (maxL + 11) + rm.locals ≤ R.locals)
    {g : JFrame} (hg : g.method = m) (hsize : g.locals.size = ml) {ps : List FieldType} {r : Option FieldType} (hpd : parseMethodDescriptor y.desc = some ⟨ps, r⟩) {b : Addr} {argsL rest : List Value} (hlen : argsL.length = ps.length) (has : (.ref b :: argsL).toArray = as) (hst : g.stack = argsL.reverse ++ .ref b :: rest)
    (hW : 2 * g.monitorRoom + (rest.map fun v => v.category).sum ≤ W) (hd : decode c.code g.pc = .ok (.invokespecial index, 3)) (hc : cells + rm.cells ≤ R.cells) (hs : slots + rm.slots ≤ R.slots) {P : own_P} {kc ks : Nat}
    (k : ∀ T' L v, Stand p l e R s m args below meth c T' (locs ++ L) (cells + rm.cells) (slots + rm.slots) → Q v T'.heap L → own_Go p e below s P kc ks (T'.setTop { g with pc := g.pc + 3, stack := v.toList ++ rest })) : own_Go p e below s P kc ks (T.setTop g) := by
  obtain ⟨v, vm, ⟨T', L', k', n'⟩, -, X', ⟨L, hQ, hl', hk', hn'⟩, st⟩ := X.specialBack hx (y := y) hy1 hown (mvT hZ w1) (mvT hZ w2) (mvT hZ w4) hy (backOf (W := W) (hM []) hZ w4 w3 hf hl) hg (hsize.trans hml.symm) (Steps.refl _) (a := b) (argsL := argsL) (rest := rest) (lenOf hpd hlen) hst hW hd (fun _ _ => ⟨has, eT, hc, hs⟩)
  dsimp only [Pt.U, Pt.locs, Pt.cells, Pt.slots] at X' hl' hk' hn' st hQ
  subst hl' hk' hn'
  exact own_stT st (k T' L v X' hQ)
/-- an array of n places: place j holds f j -/
def own_Av (Z : State) (h : Heap) (a : Addr) (ty : FieldType) (n : Nat) (f : Nat → Value) : Prop :=
  n < 2147483648 ∧ ∃ cl : Cell, Arr Z h a cl ty ∧ cl.slots.size = n ∧ ∀ j, j < n → cl.slots[j]? = some (f j)
theorem own_Av.lt {a : Addr} {ty : FieldType} {n : Nat} {f : Nat → Value} (V : own_Av Z h a ty n f) : a < h.size := by
  obtain ⟨-, cl, A, -⟩ := V
  exact A.lt
theorem own_Av.ext {a : Addr} {ty : FieldType} {n : Nat} {f : Nat → Value} (V : own_Av Z h a ty n f) (E : Ext h h') : own_Av Z h' a ty n f := by
  obtain ⟨hn, cl, A, r⟩ := V
  exact ⟨hn, cl, A.ext E, r⟩
theorem own_Av.other {a b : Addr} {ty : FieldType} {n sl : Nat} {f : Nat → Value} {v : Value} (V : own_Av Z h b ty n f) (W : Wr h h' a sl v) (q : b ≠ a) : own_Av Z h' b ty n f := by
  obtain ⟨hn, cl, A, r⟩ := V
  exact ⟨hn, cl, A.other W q, r⟩
theorem own_Av.keep {a : Addr} {ty : FieldType} {n : Nat} {f : Nat → Value} {ws : List Addr} (V : own_Av Z h a ty n f) (K : Keep h h' ws) (q : a ∉ ws) : own_Av Z h' a ty n f := by
  obtain ⟨hn, cl, A, r⟩ := V
  exact ⟨hn, cl, ⟨K.2.1 a cl A.1 q, A.2⟩, r⟩
theorem own_Av.congr {a : Addr} {ty : FieldType} {n : Nat} {f g : Nat → Value} (V : own_Av Z h a ty n f) (q : ∀ j, j < n → f j = g j) : own_Av Z h a ty n g := by
  obtain ⟨hn, cl, A, r1, r2⟩ := V
  exact ⟨hn, cl, A, r1, fun j hj => by rw [r2 j hj, q j hj]⟩
theorem own_Av.same {a : Addr} {ty : FieldType} {n i : Nat} {f : Nat → Value} {v : Value} (V : own_Av Z h a ty n f) (W : Wr h h' a i v) : own_Av Z h' a ty n (fun j => if j = i then v else f j) := by
  obtain ⟨hn, cl, A, r1, r2⟩ := V
  refine ⟨hn, cl.setSlot i v, A.same W, by rw [sz_set, r1], fun j hj => ?_⟩
  have hj' : j < cl.slots.size := by rw [r1]; exact hj
  by_cases q : j = i
  · subst q
    simp [Cell.setSlot, hj']
  · have q' : ¬ i = j := fun u => q u.symm
    simp only [Cell.setSlot, if_neg q]
    rw [Array.getElem?_setIfInBounds_ne q']
    exact r2 j hj
theorem own_Av.new {a : Addr} {ty : FieldType} {k : ClassId} {z : Int32} {n : Nat} (A : Arr Z h a (newA k ty z) ty) (hz : z.toInt = n) : own_Av Z h a ty n (fun _ => defaultValue ty) := by
  have h1 : z.toNatClampNeg = n := by
    show z.toInt.toNat = n
    rw [hz]; rfl
  have h2 : z.toInt < 2147483648 := Int32.toInt_lt z
  refine ⟨by omega, _, A, by rw [sz_new, h1], fun j hj => ?_⟩
  simp [newA, h1, hj]
theorem own_ix {j : Int32} {i n : Nat} (hj : j.toInt = i) (hi : i < n) : ¬ (j < 0 ∨ n ≤ j.toNatClampNeg) ∧ j.toNatClampNeg = i := by
  have h1 : j.toNatClampNeg = i := by
    show j.toInt.toNat = i
    rw [hj]; rfl
  refine ⟨?_, h1⟩
  rintro (q | q)
  · rw [Int32.lt_iff_toInt_lt, hj] at q
    have : (0 : Int32).toInt = 0 := by decide
    omega
  · omega
theorem own_ldI (X : Stand p l e R s m args below meth c T locs cells slots) (hx : p.tables.exec = Jvm.exec) (hZ : Z.Warmed39 s.vm) (eT : T.heap = h) {a : Addr} {n : Nat} {f : Nat → Value} (V : own_Av Z h a .int n f) {j : Int32} {i : Nat} (hj : j.toInt = i) (hi : i < n) {v : Value} (hv : f i = v)
    {g : JFrame} (hg : g.method = m) {rest : List Value} (hs : g.stack = .int j :: .ref a :: rest) (hd : decode c.code g.pc = .ok (.iaload, 1)) :
    ∀ t, Steps p.tables e below (T.setTop { g with pc := g.pc + 1, stack := v :: rest }) t → Steps p.tables e below (T.setTop g) t := by
  obtain ⟨-, cl, A, r1, r2⟩ := V
  obtain ⟨q1, q2⟩ := own_ix hj (n := cl.slots.size) (by rw [r1]; exact hi)
  exact X.iaload hx (by rw [eT]; exact A.1) (State.isArrayOf_alike hZ.alike A.2.1) A.2.2 q1 (by rw [q2, r2 i hi, hv]) hg hs hd
theorem own_ldB (X : Stand p l e R s m args below meth c T locs cells slots) (hx : p.tables.exec = Jvm.exec) (hZ : Z.Warmed39 s.vm) (eT : T.heap = h) {a : Addr} {n : Nat} {f : Nat → Value} (V : own_Av Z h a .byte n f) {j : Int32} {i : Nat} (hj : j.toInt = i) (hi : i < n) {v : Value} (hv : f i = v)
    {g : JFrame} (hg : g.method = m) {rest : List Value} (hs : g.stack = .int j :: .ref a :: rest) (hd : decode c.code g.pc = .ok (.baload, 1)) :
    ∀ t, Steps p.tables e below (T.setTop { g with pc := g.pc + 1, stack := v :: rest }) t → Steps p.tables e below (T.setTop g) t := by
  obtain ⟨-, cl, A, r1, r2⟩ := V
  obtain ⟨q1, q2⟩ := own_ix hj (n := cl.slots.size) (by rw [r1]; exact hi)
  exact X.baloadBytes hx (by rw [eT]; exact A.1) (State.isArrayOf_alike hZ.alike A.2.1) A.2.2 q1 (by rw [q2, r2 i hi, hv]) hg hs hd
theorem own_ldJ (X : Stand p l e R s m args below meth c T locs cells slots) (hx : p.tables.exec = Jvm.exec) (hZ : Z.Warmed39 s.vm) (eT : T.heap = h) {a : Addr} {n : Nat} {f : Nat → Value} (V : own_Av Z h a .long n f) {j : Int32} {i : Nat} (hj : j.toInt = i) (hi : i < n) {v : Value} (hv : f i = v)
    {g : JFrame} (hg : g.method = m) {rest : List Value} (hs : g.stack = .int j :: .ref a :: rest) (hd : decode c.code g.pc = .ok (.laload, 1)) :
    ∀ t, Steps p.tables e below (T.setTop { g with pc := g.pc + 1, stack := v :: rest }) t → Steps p.tables e below (T.setTop g) t := by
  obtain ⟨-, cl, A, r1, r2⟩ := V
  obtain ⟨q1, q2⟩ := own_ix hj (n := cl.slots.size) (by rw [r1]; exact hi)
  exact X.laload hx (by rw [eT]; exact A.1) (State.isArrayOf_alike hZ.alike A.2.1) A.2.2 q1 (by rw [q2, r2 i hi, hv]) hg hs hd
theorem own_len (X : Stand p l e R s m args below meth c T locs cells slots) (hx : p.tables.exec = Jvm.exec) (hZ : Z.Warmed39 s.vm) (eT : T.heap = h) {a : Addr} {ty : FieldType} {n : Nat} {f : Nat → Value} (V : own_Av Z h a ty n f) {z : Int32} (hz : z.toInt = n)
    {g : JFrame} (hg : g.method = m) {rest : List Value} (hs : g.stack = .ref a :: rest) (hd : decode c.code g.pc = .ok (.arraylength, 1)) :
    ∀ t, Steps p.tables e below (T.setTop { g with pc := g.pc + 1, stack := .int z :: rest }) t → Steps p.tables e below (T.setTop g) t := by
  obtain ⟨hn, cl, A, r1, r2⟩ := V
  have q : cl.slots.size.toInt32 = z := by
    rw [r1]
    apply Int32.toInt_inj.mp
    rw [hz]
    show (Int32.ofNat n).toInt = n
    rw [Int32.toInt_ofNat_of_lt (by omega)]
  intro t ht
  refine X.arraylength hx (by rw [eT]; exact A.1) (State.isArrayOf_alike hZ.alike A.2.1) hg hs hd t ?_
  rw [q]
  exact ht
theorem own_stI (X : Stand p l e R s m args below meth c T locs cells slots) (hx : p.tables.exec = Jvm.exec) (hZ : Z.Warmed39 s.vm) (eT : T.heap = h) {a : Addr} {n : Nat} {f : Nat → Int32} (V : own_Av Z h a .int n (fun t => .int (f t))) {j x : Int32} {i : Nat} (hj : j.toInt = i) (hi : i < n)
    {g : JFrame} (hg : g.method = m) {rest : List Value} (hs : g.stack = .int x :: .int j :: .ref a :: rest) (hd : decode c.code g.pc = .ok (.iastore, 1)) :
    ∃ T' h', Stand p l e R s m args below meth c T' (locs ++ [⟨a, i⟩]) cells slots ∧ T'.heap = h' ∧ Wr h h' a i (.int x) ∧ own_Av Z h' a .int n (fun t => .int (if t = i then x else f t)) ∧
      ∀ t, Steps p.tables e below (T'.setTop { g with pc := g.pc + 1, stack := rest }) t → Steps p.tables e below (T.setTop g) t := by
  have V' := V
  obtain ⟨-, cl, A, r1, r2⟩ := V
  obtain ⟨q1, q2⟩ := own_ix hj (n := cl.slots.size) (by rw [r1]; exact hi)
  obtain ⟨T', h', X', e', W', st⟩ := stI X hx hZ eT A q1 hg hs hd
  rw [q2] at X' W'
  exact ⟨T', h', X', e', W', (V'.same W').congr (fun j _ => by by_cases q : j = i <;> simp [q]), st⟩
theorem own_stB (X : Stand p l e R s m args below meth c T locs cells slots) (hx : p.tables.exec = Jvm.exec) (hZ : Z.Warmed39 s.vm) (eT : T.heap = h) {a : Addr} {n : Nat} {f : Nat → Int32} (V : own_Av Z h a .byte n (fun t => .int (f t))) {j x : Int32} {i : Nat} (hj : j.toInt = i) (hi : i < n)
    {g : JFrame} (hg : g.method = m) {rest : List Value} (hs : g.stack = .int x :: .int j :: .ref a :: rest) (hd : decode c.code g.pc = .ok (.bastore, 1)) :
    ∃ T' h', Stand p l e R s m args below meth c T' (locs ++ [⟨a, i⟩]) cells slots ∧ T'.heap = h' ∧ Wr h h' a i (.int (nar .byte x)) ∧ own_Av Z h' a .byte n (fun t => .int (if t = i then (nar .byte x) else f t)) ∧
      ∀ t, Steps p.tables e below (T'.setTop { g with pc := g.pc + 1, stack := rest }) t → Steps p.tables e below (T.setTop g) t := by
  have V' := V
  obtain ⟨-, cl, A, r1, r2⟩ := V
  obtain ⟨q1, q2⟩ := own_ix hj (n := cl.slots.size) (by rw [r1]; exact hi)
  obtain ⟨T', h', X', e', W', st⟩ := stB X hx hZ eT A q1 hg hs hd
  rw [q2] at X' W'
  exact ⟨T', h', X', e', W', (V'.same W').congr (fun j _ => by by_cases q : j = i <;> simp [q]), st⟩
theorem own_stJ (X : Stand p l e R s m args below meth c T locs cells slots) (hx : p.tables.exec = Jvm.exec) (hZ : Z.Warmed39 s.vm) (eT : T.heap = h) {a : Addr} {n : Nat} {f : Nat → Int64} (V : own_Av Z h a .long n (fun t => .long (f t))) {j : Int32} {x : Int64} {i : Nat} (hj : j.toInt = i) (hi : i < n)
    {g : JFrame} (hg : g.method = m) {rest : List Value} (hs : g.stack = .long x :: .int j :: .ref a :: rest) (hd : decode c.code g.pc = .ok (.lastore, 1)) :
    ∃ T' h', Stand p l e R s m args below meth c T' (locs ++ [⟨a, i⟩]) cells slots ∧ T'.heap = h' ∧ Wr h h' a i (.long x) ∧ own_Av Z h' a .long n (fun t => .long (if t = i then x else f t)) ∧
      ∀ t, Steps p.tables e below (T'.setTop { g with pc := g.pc + 1, stack := rest }) t → Steps p.tables e below (T.setTop g) t := by
  have V' := V
  obtain ⟨-, cl, A, r1, r2⟩ := V
  obtain ⟨q1, q2⟩ := own_ix hj (n := cl.slots.size) (by rw [r1]; exact hi)
  obtain ⟨T', h', X', e', W', st⟩ := stJ X hx hZ eT A q1 hg hs hd
  rw [q2] at X' W'
  exact ⟨T', h', X', e', W', (V'.same W').congr (fun j _ => by by_cases q : j = i <;> simp [q]), st⟩
/-- newarray: b is the fresh array's address -/
theorem own_newA (X : Stand p l e R s m args below meth c T locs cells slots) (hx : p.tables.exec = Jvm.exec) (hZ : Z.Warmed39 s.vm) {aty : ArrayType} (w : (Jvm.Cond.arrayClass (newarray.typeOf aty)).before a0 Z = true) (eT : T.heap = h) {g : JFrame} (hg : g.method = m) (hd : decode c.code g.pc = .ok (.newarray aty, 2)) {z : Int32} {rest : List Value} (hs : g.stack = .int z :: rest)
    {n cap : Nat} (hz : z.toInt = n) (hcap : n ≤ cap) (hb : cap * 8 ≤ 536870912) (hc : cells + 1 ≤ R.cells) (hl : slots + cap ≤ R.slots) :
    ∃ T' h' b, b = h.size ∧ Stand p l e R s m args below meth c T' locs (cells + 1) (slots + cap) ∧ T'.heap = h' ∧ Ext h h' ∧ own_Av Z h' b (newarray.typeOf aty) n (fun _ => defaultValue (newarray.typeOf aty)) ∧
      ∀ t, Steps p.tables e below (T'.setTop { g with pc := g.pc + 2, stack := .ref b :: rest }) t → Steps p.tables e below (T.setTop g) t := by
  have h1 : z.toNatClampNeg = n := by
    show z.toInt.toNat = n
    rw [hz]; rfl
  have h2 : ¬ z < 0 := by
    rw [Int32.lt_iff_toInt_lt, hz]
    have : (0 : Int32).toInt = 0 := by decide
    omega
  obtain ⟨T', h', cA, X', e', E', A', st⟩ := newP X hx hZ w eT hg hd hs h2 (cap := cap) (by omega) hb hc hl
  exact ⟨T', h', h.size, rfl, X', e', E', own_Av.new A' hz, st⟩
theorem own_nil {k : Nat} {L : List Loc} (N : Fr k L) {L' : List Loc} (q : L' = []) : Fr k (L ++ L') := by
  subst q
  rw [List.append_nil]
  exact N
/-- the walk's end, carried to the sheet -/
theorem own_cast {P : own_P} {kc ks : Nat} {A B : State} (q : A = B) (k : own_Go p e below s P kc ks B) : own_Go p e below s P kc ks A := q ▸ k
theorem own_bm {x : Int} (h1 : -2147483648 ≤ x) (h2 : x < 2147483648) : x.bmod (2 ^ 32) = x := by
  rw [Int.bmod_def]
  split <;> omega
theorem own_addN {a b : Int32} {i k : Nat} (ha : a.toInt = i) (hb : b.toInt = k) (hlt : i + k < 2147483648) : (a + b).toInt = ((i + k : Nat) : Int) := by
  rw [Int32.toInt_add, ha, hb, own_bm (by omega) (by omega)]
  omega
theorem own_add {a b : Int32} (h1 : -2147483648 ≤ a.toInt + b.toInt) (h2 : a.toInt + b.toInt < 2147483648) : (a + b).toInt = a.toInt + b.toInt := by
  rw [Int32.toInt_add, own_bm h1 h2]
theorem own_sub {a b : Int32} (h1 : -2147483648 ≤ a.toInt - b.toInt) (h2 : a.toInt - b.toInt < 2147483648) : (a - b).toInt = a.toInt - b.toInt := by
  rw [Int32.toInt_sub, own_bm h1 h2]
theorem own_mask (z K : Int32) {k : Nat} (hK : K.toInt = k) : ∃ i : Nat, (z &&& K).toInt = i ∧ i ≤ k := by
  have hk : K.toBitVec.toInt = k := hK
  have h1 : K.toBitVec.toNat = k := by
    rw [BitVec.toInt_eq_toNat_cond] at hk
    have := K.toBitVec.isLt
    split at hk <;> omega
  have h2 : 2 * K.toBitVec.toNat < 2 ^ 32 := by
    rw [BitVec.toInt_eq_toNat_cond] at hk
    have := K.toBitVec.isLt
    split at hk <;> omega
  have h3 : (z &&& K).toBitVec.toNat ≤ k := by
    show (z.toBitVec &&& K.toBitVec).toNat ≤ k
    rw [BitVec.toNat_and, ← h1]
    exact Nat.and_le_right
  refine ⟨(z &&& K).toBitVec.toNat, ?_, h3⟩
  show (z &&& K).toBitVec.toInt = _
  rw [BitVec.toInt_eq_toNat_cond, if_pos (by omega)]
theorem own_lt32 {a b : Int32} : a < b ↔ a.toInt < b.toInt := Int32.lt_iff_toInt_lt
theorem own_rem {a b : Int32} (ha : 0 ≤ a.toInt) (hb : 0 < b.toInt) : (a % b).toInt = a.toInt % b.toInt := by
  rw [Int32.toInt_mod]
  exact Int.tmod_eq_emod_of_nonneg ha
end OwnKit
def own_xc (n : Int) : Int32 := if n = 9 ∨ n = 10 ∨ n = 13 ∨ (32 ≤ n ∧ n ≤ 55295) ∨ (57344 ≤ n ∧ n ≤ 65533) ∨ (65536 ≤ n ∧ n ≤ 1114111) then 1 else 0
theorem own_x1 {n : Int} (h : n = 9 ∨ n = 10 ∨ n = 13 ∨ (32 ≤ n ∧ n ≤ 55295) ∨ (57344 ≤ n ∧ n ≤ 65533) ∨ (65536 ≤ n ∧ n ≤ 1114111)) : some (Value.int 1) = some (Value.int (own_xc n)) := by
  unfold own_xc
  rw [if_pos h]
theorem own_x0 {n : Int} (h : ¬ (n = 9 ∨ n = 10 ∨ n = 13 ∨ (32 ≤ n ∧ n ≤ 55295) ∨ (57344 ≤ n ∧ n ≤ 65533) ∨ (65536 ≤ n ∧ n ≤ 1114111))) : some (Value.int 0) = some (Value.int (own_xc n)) := by
  unfold own_xc
  rw [if_neg h]
theorem own_m15 (z : Int32) : ∃ i : Nat, (z &&& 15).toInt = i ∧ i < 16 := by
  have h : (z &&& 15).toBitVec.toNat ≤ 15 := by
    show (z.toBitVec &&& 15#32).toNat ≤ 15
    rw [BitVec.toNat_and]
    exact Nat.and_le_right
  refine ⟨(z &&& 15).toBitVec.toNat, ?_, by omega⟩
  show (z &&& 15).toBitVec.toInt = _
  rw [BitVec.toInt_eq_toNat_of_lt (by omega)]
theorem own_d0_0 : decode prog_243_method_8_code 0 = .ok (.iload_n 0, 1) := by decide +kernel
theorem own_d0_1 : decode prog_243_method_8_code 1 = .ok (.bipush 9, 2) := by decide +kernel
theorem own_d0_3 : decode prog_243_method_8_code 3 = .ok (.if_icmp .eq 51, 3) := by decide +kernel
theorem own_d0_6 : decode prog_243_method_8_code 6 = .ok (.iload_n 0, 1) := by decide +kernel
theorem own_d0_7 : decode prog_243_method_8_code 7 = .ok (.bipush 10, 2) := by decide +kernel
theorem own_d0_9 : decode prog_243_method_8_code 9 = .ok (.if_icmp .eq 45, 3) := by decide +kernel
theorem own_d0_12 : decode prog_243_method_8_code 12 = .ok (.iload_n 0, 1) := by decide +kernel
theorem own_d0_13 : decode prog_243_method_8_code 13 = .ok (.bipush 13, 2) := by decide +kernel
theorem own_d0_15 : decode prog_243_method_8_code 15 = .ok (.if_icmp .eq 39, 3) := by decide +kernel
theorem own_d0_18 : decode prog_243_method_8_code 18 = .ok (.iload_n 0, 1) := by decide +kernel
theorem own_d0_19 : decode prog_243_method_8_code 19 = .ok (.bipush 32, 2) := by decide +kernel
theorem own_d0_21 : decode prog_243_method_8_code 21 = .ok (.if_icmp .lt 9, 3) := by decide +kernel
theorem own_d0_24 : decode prog_243_method_8_code 24 = .ok (.iload_n 0, 1) := by decide +kernel
theorem own_d0_25 : decode prog_243_method_8_code 25 = .ok (.ldc 76, 2) := by decide +kernel
theorem own_d0_27 : decode prog_243_method_8_code 27 = .ok (.if_icmp .le 27, 3) := by decide +kernel
theorem own_d0_30 : decode prog_243_method_8_code 30 = .ok (.iload_n 0, 1) := by decide +kernel
theorem own_d0_31 : decode prog_243_method_8_code 31 = .ok (.ldc 77, 2) := by decide +kernel
theorem own_d0_33 : decode prog_243_method_8_code 33 = .ok (.if_icmp .lt 9, 3) := by decide +kernel
theorem own_d0_36 : decode prog_243_method_8_code 36 = .ok (.iload_n 0, 1) := by decide +kernel
theorem own_d0_37 : decode prog_243_method_8_code 37 = .ok (.ldc 78, 2) := by decide +kernel
theorem own_d0_39 : decode prog_243_method_8_code 39 = .ok (.if_icmp .le 15, 3) := by decide +kernel
theorem own_d0_42 : decode prog_243_method_8_code 42 = .ok (.iload_n 0, 1) := by decide +kernel
theorem own_d0_43 : decode prog_243_method_8_code 43 = .ok (.ldc 79, 2) := by decide +kernel
theorem own_d0_45 : decode prog_243_method_8_code 45 = .ok (.if_icmp .lt 13, 3) := by decide +kernel
theorem own_d0_48 : decode prog_243_method_8_code 48 = .ok (.iload_n 0, 1) := by decide +kernel
theorem own_d0_49 : decode prog_243_method_8_code 49 = .ok (.ldc 80, 2) := by decide +kernel
theorem own_d0_51 : decode prog_243_method_8_code 51 = .ok (.if_icmp .gt 7, 3) := by decide +kernel
theorem own_d0_54 : decode prog_243_method_8_code 54 = .ok (.iconst 1, 1) := by decide +kernel
theorem own_d0_55 : decode prog_243_method_8_code 55 = .ok (.goto 4, 3) := by decide +kernel
theorem own_d0_58 : decode prog_243_method_8_code 58 = .ok (.iconst 0, 1) := by decide +kernel
theorem own_d0_59 : decode prog_243_method_8_code 59 = .ok (.ireturn, 1) := by decide +kernel
theorem own_pn0 : plainFor (⟨"com/example/libflwor/libflwor/xdm/XmlCharacters", "isXmlChar", "(I)Z"⟩ : MethodName) = true := by first | exact plainFor_of_name (show plainName "com/example/libflwor/libflwor/xdm/XmlCharacters" = true by first | (simp [plainName, overriddenIn]; done) | decide +kernel) | decide +kernel
theorem own_ef0 (m : MethodId) (x0 : Int32) : entryFrame m #[(.int x0)] 1 = mkF m 0 #[.val (.int x0)] [] := by first | (simp [entryFrame, mkF, argsToLocals, Value.category]; done) | rfl
set_option maxRecDepth 65536 in
set_option maxHeartbeats 40000000 in
theorem own_rm1 (l : Launch) (Z : State) (a0 : Array Value) (hw : ∀ d ∈ tables_1, d.before a0 Z = true) (a1 : Int32) (h0 : Heap) (n0 : Nat) (Z0 : n0 ≤ h0.size)  :
    own_Met l Z (⟨"com/example/libflwor/libflwor/xdm/XmlCharacters", "isXmlChar", "(I)Z"⟩ : MethodName) prog_243_method_8_code 1 (some .boolean) ({ frames := 0, cells := 0, slots := 0, locals := 0 } : Room) #[(.int a1)] h0 (fun v h' L => v = some (.int (own_xc (a1).toInt)) ∧ h' = h0 ∧ L = []) := by
  refine own_in own_pn0 ?_
  intro p e s m below meth c s₁ hx hby hml hown hnm hlk hret hZ X0 e0
  have N0 := Fr.nil n0
  refine own_ef (own_ef0 m a1) ?_
  show own_Go p e below s _ _ _ (s₁.setTop (mkF m 0 #[.val (.int a1)] []))
  refine own_st (fun _ k => XS.iloadN X0.here hx rfl (hb hby own_d0_0) rfl k) ?_
  show own_Go p e below s _ _ _ (s₁.setTop (mkF m 1 #[.val (.int a1)] [(.int a1)]))
  refine own_st (fun _ k => XS.bipush X0.here hx rfl (hb hby own_d0_1) k) ?_
  show own_Go p e below s _ _ _ (s₁.setTop (mkF m 3 #[.val (.int a1)] [(.int (9 : Int32)), (.int a1)]))
  rcases Classical.em (a1 = (9 : Int32)) with cc1 | cc1
  · have icc1 : ((a1).toInt : Int) = 9 := congrArg Int32.toInt cc1
    show own_Go p e below s _ _ _ (s₁.setTop (mkF m 3 #[.val (.int a1)] [(.int (9 : Int32)), (.int a1)]))
    refine own_st (fun _ k => XS.icmpYes X0.here hx rfl (pc0 := 3) (pc' := 54) rfl (hb hby own_d0_3) rfl (teq cc1).1 (by decide) (by decide) k) ?_
    show own_Go p e below s _ _ _ (s₁.setTop (mkF m 54 #[.val (.int a1)] []))
    refine own_st (fun _ k => XS.iconst X0.here hx rfl (hb hby own_d0_54) k) ?_
    show own_Go p e below s _ _ _ (s₁.setTop (mkF m 55 #[.val (.int a1)] [(.int (1 : Int32))]))
    refine own_st (fun _ k => XS.goto X0.here hx rfl (pc0 := 55) (pc' := 59) rfl (hb hby own_d0_55) (by decide) (by decide) k) ?_
    show own_Go p e below s _ _ _ (s₁.setTop (mkF m 59 #[.val (.int a1)] [(.int (1 : Int32))]))
    exact own_endN X0 hx hlk (t := .boolean) hret (by simp) (hb hby own_d0_59) (w := (1 : Int32)) (by decide) ⟨own_x1 (by omega), e0, rfl⟩ (by decide) (by decide)
  · have icc1 : ¬ (((a1).toInt : Int) = 9) := fun u => cc1 (Int32.toInt_inj.mp u)
    show own_Go p e below s _ _ _ (s₁.setTop (mkF m 3 #[.val (.int a1)] [(.int (9 : Int32)), (.int a1)]))
    refine own_st (fun _ k => XS.icmpNo X0.here hx rfl (hb hby own_d0_3) rfl (feq cc1).1 k) ?_
    show own_Go p e below s _ _ _ (s₁.setTop (mkF m 6 #[.val (.int a1)] []))
    refine own_st (fun _ k => XS.iloadN X0.here hx rfl (hb hby own_d0_6) rfl k) ?_
    show own_Go p e below s _ _ _ (s₁.setTop (mkF m 7 #[.val (.int a1)] [(.int a1)]))
    refine own_st (fun _ k => XS.bipush X0.here hx rfl (hb hby own_d0_7) k) ?_
    show own_Go p e below s _ _ _ (s₁.setTop (mkF m 9 #[.val (.int a1)] [(.int (10 : Int32)), (.int a1)]))
    rcases Classical.em (a1 = (10 : Int32)) with cc2 | cc2
    · have icc2 : ((a1).toInt : Int) = 10 := congrArg Int32.toInt cc2
      show own_Go p e below s _ _ _ (s₁.setTop (mkF m 9 #[.val (.int a1)] [(.int (10 : Int32)), (.int a1)]))
      refine own_st (fun _ k => XS.icmpYes X0.here hx rfl (pc0 := 9) (pc' := 54) rfl (hb hby own_d0_9) rfl (teq cc2).1 (by decide) (by decide) k) ?_
      show own_Go p e below s _ _ _ (s₁.setTop (mkF m 54 #[.val (.int a1)] []))
      refine own_st (fun _ k => XS.iconst X0.here hx rfl (hb hby own_d0_54) k) ?_
      show own_Go p e below s _ _ _ (s₁.setTop (mkF m 55 #[.val (.int a1)] [(.int (1 : Int32))]))
      refine own_st (fun _ k => XS.goto X0.here hx rfl (pc0 := 55) (pc' := 59) rfl (hb hby own_d0_55) (by decide) (by decide) k) ?_
      show own_Go p e below s _ _ _ (s₁.setTop (mkF m 59 #[.val (.int a1)] [(.int (1 : Int32))]))
      exact own_endN X0 hx hlk (t := .boolean) hret (by simp) (hb hby own_d0_59) (w := (1 : Int32)) (by decide) ⟨own_x1 (by omega), e0, rfl⟩ (by decide) (by decide)
    · have icc2 : ¬ (((a1).toInt : Int) = 10) := fun u => cc2 (Int32.toInt_inj.mp u)
      show own_Go p e below s _ _ _ (s₁.setTop (mkF m 9 #[.val (.int a1)] [(.int (10 : Int32)), (.int a1)]))
      refine own_st (fun _ k => XS.icmpNo X0.here hx rfl (hb hby own_d0_9) rfl (feq cc2).1 k) ?_
      show own_Go p e below s _ _ _ (s₁.setTop (mkF m 12 #[.val (.int a1)] []))
      refine own_st (fun _ k => XS.iloadN X0.here hx rfl (hb hby own_d0_12) rfl k) ?_
      show own_Go p e below s _ _ _ (s₁.setTop (mkF m 13 #[.val (.int a1)] [(.int a1)]))
      refine own_st (fun _ k => XS.bipush X0.here hx rfl (hb hby own_d0_13) k) ?_
      show own_Go p e below s _ _ _ (s₁.setTop (mkF m 15 #[.val (.int a1)] [(.int (13 : Int32)), (.int a1)]))
      rcases Classical.em (a1 = (13 : Int32)) with cc3 | cc3
      · have icc3 : ((a1).toInt : Int) = 13 := congrArg Int32.toInt cc3
        show own_Go p e below s _ _ _ (s₁.setTop (mkF m 15 #[.val (.int a1)] [(.int (13 : Int32)), (.int a1)]))
        refine own_st (fun _ k => XS.icmpYes X0.here hx rfl (pc0 := 15) (pc' := 54) rfl (hb hby own_d0_15) rfl (teq cc3).1 (by decide) (by decide) k) ?_
        show own_Go p e below s _ _ _ (s₁.setTop (mkF m 54 #[.val (.int a1)] []))
        refine own_st (fun _ k => XS.iconst X0.here hx rfl (hb hby own_d0_54) k) ?_
        show own_Go p e below s _ _ _ (s₁.setTop (mkF m 55 #[.val (.int a1)] [(.int (1 : Int32))]))
        refine own_st (fun _ k => XS.goto X0.here hx rfl (pc0 := 55) (pc' := 59) rfl (hb hby own_d0_55) (by decide) (by decide) k) ?_
        show own_Go p e below s _ _ _ (s₁.setTop (mkF m 59 #[.val (.int a1)] [(.int (1 : Int32))]))
        exact own_endN X0 hx hlk (t := .boolean) hret (by simp) (hb hby own_d0_59) (w := (1 : Int32)) (by decide) ⟨own_x1 (by omega), e0, rfl⟩ (by decide) (by decide)
      · have icc3 : ¬ (((a1).toInt : Int) = 13) := fun u => cc3 (Int32.toInt_inj.mp u)
        show own_Go p e below s _ _ _ (s₁.setTop (mkF m 15 #[.val (.int a1)] [(.int (13 : Int32)), (.int a1)]))
        refine own_st (fun _ k => XS.icmpNo X0.here hx rfl (hb hby own_d0_15) rfl (feq cc3).1 k) ?_
        show own_Go p e below s _ _ _ (s₁.setTop (mkF m 18 #[.val (.int a1)] []))
        refine own_st (fun _ k => XS.iloadN X0.here hx rfl (hb hby own_d0_18) rfl k) ?_
        show own_Go p e below s _ _ _ (s₁.setTop (mkF m 19 #[.val (.int a1)] [(.int a1)]))
        refine own_st (fun _ k => XS.bipush X0.here hx rfl (hb hby own_d0_19) k) ?_
        show own_Go p e below s _ _ _ (s₁.setTop (mkF m 21 #[.val (.int a1)] [(.int (32 : Int32)), (.int a1)]))
        rcases Classical.em (a1 < (32 : Int32)) with cc4 | cc4
        · have icc4 : ((a1).toInt : Int) < 32 := Int32.lt_iff_toInt_lt.mp cc4
          show own_Go p e below s _ _ _ (s₁.setTop (mkF m 21 #[.val (.int a1)] [(.int (32 : Int32)), (.int a1)]))
          refine own_st (fun _ k => XS.icmpYes X0.here hx rfl (pc0 := 21) (pc' := 30) rfl (hb hby own_d0_21) rfl (tlt cc4).1 (by decide) (by decide) k) ?_
          show own_Go p e below s _ _ _ (s₁.setTop (mkF m 30 #[.val (.int a1)] []))
          refine own_st (fun _ k => XS.iloadN X0.here hx rfl (hb hby own_d0_30) rfl k) ?_
          show own_Go p e below s _ _ _ (s₁.setTop (mkF m 31 #[.val (.int a1)] [(.int a1)]))
          refine own_st (fun _ k => X0.ldcInt hx hown (mvT hZ (hw _ (List.mem_of_getElem? (i := 16) rfl))) (g := (mkF m 31 #[.val (.int a1)] [(.int a1)])) rfl (hb hby own_d0_31) _ k) ?_
          show own_Go p e below s _ _ _ (s₁.setTop (mkF m 33 #[.val (.int a1)] [(.int (57344 : Int32)), (.int a1)]))
          rcases Classical.em (a1 < (57344 : Int32)) with cc5 | cc5
          · have icc5 : ((a1).toInt : Int) < 57344 := Int32.lt_iff_toInt_lt.mp cc5
            show own_Go p e below s _ _ _ (s₁.setTop (mkF m 33 #[.val (.int a1)] [(.int (57344 : Int32)), (.int a1)]))
            refine own_st (fun _ k => XS.icmpYes X0.here hx rfl (pc0 := 33) (pc' := 42) rfl (hb hby own_d0_33) rfl (tlt cc5).1 (by decide) (by decide) k) ?_
            show own_Go p e below s _ _ _ (s₁.setTop (mkF m 42 #[.val (.int a1)] []))
            refine own_st (fun _ k => XS.iloadN X0.here hx rfl (hb hby own_d0_42) rfl k) ?_
            show own_Go p e below s _ _ _ (s₁.setTop (mkF m 43 #[.val (.int a1)] [(.int a1)]))
            refine own_st (fun _ k => X0.ldcInt hx hown (mvT hZ (hw _ (List.mem_of_getElem? (i := 17) rfl))) (g := (mkF m 43 #[.val (.int a1)] [(.int a1)])) rfl (hb hby own_d0_43) _ k) ?_
            show own_Go p e below s _ _ _ (s₁.setTop (mkF m 45 #[.val (.int a1)] [(.int (65536 : Int32)), (.int a1)]))
            rcases Classical.em (a1 < (65536 : Int32)) with cc6 | cc6
            · have icc6 : ((a1).toInt : Int) < 65536 := Int32.lt_iff_toInt_lt.mp cc6
              show own_Go p e below s _ _ _ (s₁.setTop (mkF m 45 #[.val (.int a1)] [(.int (65536 : Int32)), (.int a1)]))
              refine own_st (fun _ k => XS.icmpYes X0.here hx rfl (pc0 := 45) (pc' := 58) rfl (hb hby own_d0_45) rfl (tlt cc6).1 (by decide) (by decide) k) ?_
              show own_Go p e below s _ _ _ (s₁.setTop (mkF m 58 #[.val (.int a1)] []))
              refine own_st (fun _ k => XS.iconst X0.here hx rfl (hb hby own_d0_58) k) ?_
              show own_Go p e below s _ _ _ (s₁.setTop (mkF m 59 #[.val (.int a1)] [(.int (0 : Int32))]))
              exact own_endN X0 hx hlk (t := .boolean) hret (by simp) (hb hby own_d0_59) (w := (0 : Int32)) (by decide) ⟨own_x0 (by omega), e0, rfl⟩ (by decide) (by decide)
            · have icc6 : ¬ (((a1).toInt : Int) < 65536) := fun u => cc6 (Int32.lt_iff_toInt_lt.mpr u)
              show own_Go p e below s _ _ _ (s₁.setTop (mkF m 45 #[.val (.int a1)] [(.int (65536 : Int32)), (.int a1)]))
              refine own_st (fun _ k => XS.icmpNo X0.here hx rfl (hb hby own_d0_45) rfl (flt cc6).1 k) ?_
              show own_Go p e below s _ _ _ (s₁.setTop (mkF m 48 #[.val (.int a1)] []))
              refine own_st (fun _ k => XS.iloadN X0.here hx rfl (hb hby own_d0_48) rfl k) ?_
              show own_Go p e below s _ _ _ (s₁.setTop (mkF m 49 #[.val (.int a1)] [(.int a1)]))
              refine own_st (fun _ k => X0.ldcInt hx hown (mvT hZ (hw _ (List.mem_of_getElem? (i := 24) rfl))) (g := (mkF m 49 #[.val (.int a1)] [(.int a1)])) rfl (hb hby own_d0_49) _ k) ?_
              show own_Go p e below s _ _ _ (s₁.setTop (mkF m 51 #[.val (.int a1)] [(.int (1114111 : Int32)), (.int a1)]))
              rcases Classical.em ((1114111 : Int32) < a1) with cc7 | cc7
              · have icc7 : (1114111 : Int) < (a1).toInt := Int32.lt_iff_toInt_lt.mp cc7
                show own_Go p e below s _ _ _ (s₁.setTop (mkF m 51 #[.val (.int a1)] [(.int (1114111 : Int32)), (.int a1)]))
                refine own_st (fun _ k => XS.icmpYes X0.here hx rfl (pc0 := 51) (pc' := 58) rfl (hb hby own_d0_51) rfl (tlt cc7).2.2.1 (by decide) (by decide) k) ?_
                show own_Go p e below s _ _ _ (s₁.setTop (mkF m 58 #[.val (.int a1)] []))
                refine own_st (fun _ k => XS.iconst X0.here hx rfl (hb hby own_d0_58) k) ?_
                show own_Go p e below s _ _ _ (s₁.setTop (mkF m 59 #[.val (.int a1)] [(.int (0 : Int32))]))
                exact own_endN X0 hx hlk (t := .boolean) hret (by simp) (hb hby own_d0_59) (w := (0 : Int32)) (by decide) ⟨own_x0 (by omega), e0, rfl⟩ (by decide) (by decide)
              · have icc7 : ¬ ((1114111 : Int) < (a1).toInt) := fun u => cc7 (Int32.lt_iff_toInt_lt.mpr u)
                show own_Go p e below s _ _ _ (s₁.setTop (mkF m 51 #[.val (.int a1)] [(.int (1114111 : Int32)), (.int a1)]))
                refine own_st (fun _ k => XS.icmpNo X0.here hx rfl (hb hby own_d0_51) rfl (flt cc7).2.2.1 k) ?_
                show own_Go p e below s _ _ _ (s₁.setTop (mkF m 54 #[.val (.int a1)] []))
                refine own_st (fun _ k => XS.iconst X0.here hx rfl (hb hby own_d0_54) k) ?_
                show own_Go p e below s _ _ _ (s₁.setTop (mkF m 55 #[.val (.int a1)] [(.int (1 : Int32))]))
                refine own_st (fun _ k => XS.goto X0.here hx rfl (pc0 := 55) (pc' := 59) rfl (hb hby own_d0_55) (by decide) (by decide) k) ?_
                show own_Go p e below s _ _ _ (s₁.setTop (mkF m 59 #[.val (.int a1)] [(.int (1 : Int32))]))
                exact own_endN X0 hx hlk (t := .boolean) hret (by simp) (hb hby own_d0_59) (w := (1 : Int32)) (by decide) ⟨own_x1 (by omega), e0, rfl⟩ (by decide) (by decide)
          · have icc5 : ¬ (((a1).toInt : Int) < 57344) := fun u => cc5 (Int32.lt_iff_toInt_lt.mpr u)
            show own_Go p e below s _ _ _ (s₁.setTop (mkF m 33 #[.val (.int a1)] [(.int (57344 : Int32)), (.int a1)]))
            refine own_st (fun _ k => XS.icmpNo X0.here hx rfl (hb hby own_d0_33) rfl (flt cc5).1 k) ?_
            show own_Go p e below s _ _ _ (s₁.setTop (mkF m 36 #[.val (.int a1)] []))
            refine own_st (fun _ k => XS.iloadN X0.here hx rfl (hb hby own_d0_36) rfl k) ?_
            show own_Go p e below s _ _ _ (s₁.setTop (mkF m 37 #[.val (.int a1)] [(.int a1)]))
            refine own_st (fun _ k => X0.ldcInt hx hown (mvT hZ (hw _ (List.mem_of_getElem? (i := 23) rfl))) (g := (mkF m 37 #[.val (.int a1)] [(.int a1)])) rfl (hb hby own_d0_37) _ k) ?_
            show own_Go p e below s _ _ _ (s₁.setTop (mkF m 39 #[.val (.int a1)] [(.int (65533 : Int32)), (.int a1)]))
            rcases Classical.em ((65533 : Int32) < a1) with cc8 | cc8
            · have icc8 : (65533 : Int) < (a1).toInt := Int32.lt_iff_toInt_lt.mp cc8
              show own_Go p e below s _ _ _ (s₁.setTop (mkF m 39 #[.val (.int a1)] [(.int (65533 : Int32)), (.int a1)]))
              refine own_st (fun _ k => XS.icmpNo X0.here hx rfl (hb hby own_d0_39) rfl (tlt cc8).2.2.2 k) ?_
              show own_Go p e below s _ _ _ (s₁.setTop (mkF m 42 #[.val (.int a1)] []))
              refine own_st (fun _ k => XS.iloadN X0.here hx rfl (hb hby own_d0_42) rfl k) ?_
              show own_Go p e below s _ _ _ (s₁.setTop (mkF m 43 #[.val (.int a1)] [(.int a1)]))
              refine own_st (fun _ k => X0.ldcInt hx hown (mvT hZ (hw _ (List.mem_of_getElem? (i := 17) rfl))) (g := (mkF m 43 #[.val (.int a1)] [(.int a1)])) rfl (hb hby own_d0_43) _ k) ?_
              show own_Go p e below s _ _ _ (s₁.setTop (mkF m 45 #[.val (.int a1)] [(.int (65536 : Int32)), (.int a1)]))
              rcases Classical.em (a1 < (65536 : Int32)) with cc9 | cc9
              · have icc9 : ((a1).toInt : Int) < 65536 := Int32.lt_iff_toInt_lt.mp cc9
                show own_Go p e below s _ _ _ (s₁.setTop (mkF m 45 #[.val (.int a1)] [(.int (65536 : Int32)), (.int a1)]))
                refine own_st (fun _ k => XS.icmpYes X0.here hx rfl (pc0 := 45) (pc' := 58) rfl (hb hby own_d0_45) rfl (tlt cc9).1 (by decide) (by decide) k) ?_
                show own_Go p e below s _ _ _ (s₁.setTop (mkF m 58 #[.val (.int a1)] []))
                refine own_st (fun _ k => XS.iconst X0.here hx rfl (hb hby own_d0_58) k) ?_
                show own_Go p e below s _ _ _ (s₁.setTop (mkF m 59 #[.val (.int a1)] [(.int (0 : Int32))]))
                exact own_endN X0 hx hlk (t := .boolean) hret (by simp) (hb hby own_d0_59) (w := (0 : Int32)) (by decide) ⟨own_x0 (by omega), e0, rfl⟩ (by decide) (by decide)
              · have icc9 : ¬ (((a1).toInt : Int) < 65536) := fun u => cc9 (Int32.lt_iff_toInt_lt.mpr u)
                show own_Go p e below s _ _ _ (s₁.setTop (mkF m 45 #[.val (.int a1)] [(.int (65536 : Int32)), (.int a1)]))
                refine own_st (fun _ k => XS.icmpNo X0.here hx rfl (hb hby own_d0_45) rfl (flt cc9).1 k) ?_
                show own_Go p e below s _ _ _ (s₁.setTop (mkF m 48 #[.val (.int a1)] []))
                refine own_st (fun _ k => XS.iloadN X0.here hx rfl (hb hby own_d0_48) rfl k) ?_
                show own_Go p e below s _ _ _ (s₁.setTop (mkF m 49 #[.val (.int a1)] [(.int a1)]))
                refine own_st (fun _ k => X0.ldcInt hx hown (mvT hZ (hw _ (List.mem_of_getElem? (i := 24) rfl))) (g := (mkF m 49 #[.val (.int a1)] [(.int a1)])) rfl (hb hby own_d0_49) _ k) ?_
                show own_Go p e below s _ _ _ (s₁.setTop (mkF m 51 #[.val (.int a1)] [(.int (1114111 : Int32)), (.int a1)]))
                rcases Classical.em ((1114111 : Int32) < a1) with cc10 | cc10
                · have icc10 : (1114111 : Int) < (a1).toInt := Int32.lt_iff_toInt_lt.mp cc10
                  show own_Go p e below s _ _ _ (s₁.setTop (mkF m 51 #[.val (.int a1)] [(.int (1114111 : Int32)), (.int a1)]))
                  refine own_st (fun _ k => XS.icmpYes X0.here hx rfl (pc0 := 51) (pc' := 58) rfl (hb hby own_d0_51) rfl (tlt cc10).2.2.1 (by decide) (by decide) k) ?_
                  show own_Go p e below s _ _ _ (s₁.setTop (mkF m 58 #[.val (.int a1)] []))
                  refine own_st (fun _ k => XS.iconst X0.here hx rfl (hb hby own_d0_58) k) ?_
                  show own_Go p e below s _ _ _ (s₁.setTop (mkF m 59 #[.val (.int a1)] [(.int (0 : Int32))]))
                  exact own_endN X0 hx hlk (t := .boolean) hret (by simp) (hb hby own_d0_59) (w := (0 : Int32)) (by decide) ⟨own_x0 (by omega), e0, rfl⟩ (by decide) (by decide)
                · have icc10 : ¬ ((1114111 : Int) < (a1).toInt) := fun u => cc10 (Int32.lt_iff_toInt_lt.mpr u)
                  show own_Go p e below s _ _ _ (s₁.setTop (mkF m 51 #[.val (.int a1)] [(.int (1114111 : Int32)), (.int a1)]))
                  refine own_st (fun _ k => XS.icmpNo X0.here hx rfl (hb hby own_d0_51) rfl (flt cc10).2.2.1 k) ?_
                  show own_Go p e below s _ _ _ (s₁.setTop (mkF m 54 #[.val (.int a1)] []))
                  refine own_st (fun _ k => XS.iconst X0.here hx rfl (hb hby own_d0_54) k) ?_
                  show own_Go p e below s _ _ _ (s₁.setTop (mkF m 55 #[.val (.int a1)] [(.int (1 : Int32))]))
                  refine own_st (fun _ k => XS.goto X0.here hx rfl (pc0 := 55) (pc' := 59) rfl (hb hby own_d0_55) (by decide) (by decide) k) ?_
                  show own_Go p e below s _ _ _ (s₁.setTop (mkF m 59 #[.val (.int a1)] [(.int (1 : Int32))]))
                  exact own_endN X0 hx hlk (t := .boolean) hret (by simp) (hb hby own_d0_59) (w := (1 : Int32)) (by decide) ⟨own_x1 (by omega), e0, rfl⟩ (by decide) (by decide)
            · have icc8 : ¬ ((65533 : Int) < (a1).toInt) := fun u => cc8 (Int32.lt_iff_toInt_lt.mpr u)
              show own_Go p e below s _ _ _ (s₁.setTop (mkF m 39 #[.val (.int a1)] [(.int (65533 : Int32)), (.int a1)]))
              refine own_st (fun _ k => XS.icmpYes X0.here hx rfl (pc0 := 39) (pc' := 54) rfl (hb hby own_d0_39) rfl (flt cc8).2.2.2 (by decide) (by decide) k) ?_
              show own_Go p e below s _ _ _ (s₁.setTop (mkF m 54 #[.val (.int a1)] []))
              refine own_st (fun _ k => XS.iconst X0.here hx rfl (hb hby own_d0_54) k) ?_
              show own_Go p e below s _ _ _ (s₁.setTop (mkF m 55 #[.val (.int a1)] [(.int (1 : Int32))]))
              refine own_st (fun _ k => XS.goto X0.here hx rfl (pc0 := 55) (pc' := 59) rfl (hb hby own_d0_55) (by decide) (by decide) k) ?_
              show own_Go p e below s _ _ _ (s₁.setTop (mkF m 59 #[.val (.int a1)] [(.int (1 : Int32))]))
              exact own_endN X0 hx hlk (t := .boolean) hret (by simp) (hb hby own_d0_59) (w := (1 : Int32)) (by decide) ⟨own_x1 (by omega), e0, rfl⟩ (by decide) (by decide)
        · have icc4 : ¬ (((a1).toInt : Int) < 32) := fun u => cc4 (Int32.lt_iff_toInt_lt.mpr u)
          show own_Go p e below s _ _ _ (s₁.setTop (mkF m 21 #[.val (.int a1)] [(.int (32 : Int32)), (.int a1)]))
          refine own_st (fun _ k => XS.icmpNo X0.here hx rfl (hb hby own_d0_21) rfl (flt cc4).1 k) ?_
          show own_Go p e below s _ _ _ (s₁.setTop (mkF m 24 #[.val (.int a1)] []))
          refine own_st (fun _ k => XS.iloadN X0.here hx rfl (hb hby own_d0_24) rfl k) ?_
          show own_Go p e below s _ _ _ (s₁.setTop (mkF m 25 #[.val (.int a1)] [(.int a1)]))
          refine own_st (fun _ k => X0.ldcInt hx hown (mvT hZ (hw _ (List.mem_of_getElem? (i := 22) rfl))) (g := (mkF m 25 #[.val (.int a1)] [(.int a1)])) rfl (hb hby own_d0_25) _ k) ?_
          show own_Go p e below s _ _ _ (s₁.setTop (mkF m 27 #[.val (.int a1)] [(.int (55295 : Int32)), (.int a1)]))
          rcases Classical.em ((55295 : Int32) < a1) with cc11 | cc11
          · have icc11 : (55295 : Int) < (a1).toInt := Int32.lt_iff_toInt_lt.mp cc11
            show own_Go p e below s _ _ _ (s₁.setTop (mkF m 27 #[.val (.int a1)] [(.int (55295 : Int32)), (.int a1)]))
            refine own_st (fun _ k => XS.icmpNo X0.here hx rfl (hb hby own_d0_27) rfl (tlt cc11).2.2.2 k) ?_
            show own_Go p e below s _ _ _ (s₁.setTop (mkF m 30 #[.val (.int a1)] []))
            refine own_st (fun _ k => XS.iloadN X0.here hx rfl (hb hby own_d0_30) rfl k) ?_
            show own_Go p e below s _ _ _ (s₁.setTop (mkF m 31 #[.val (.int a1)] [(.int a1)]))
            refine own_st (fun _ k => X0.ldcInt hx hown (mvT hZ (hw _ (List.mem_of_getElem? (i := 16) rfl))) (g := (mkF m 31 #[.val (.int a1)] [(.int a1)])) rfl (hb hby own_d0_31) _ k) ?_
            show own_Go p e below s _ _ _ (s₁.setTop (mkF m 33 #[.val (.int a1)] [(.int (57344 : Int32)), (.int a1)]))
            rcases Classical.em (a1 < (57344 : Int32)) with cc12 | cc12
            · have icc12 : ((a1).toInt : Int) < 57344 := Int32.lt_iff_toInt_lt.mp cc12
              show own_Go p e below s _ _ _ (s₁.setTop (mkF m 33 #[.val (.int a1)] [(.int (57344 : Int32)), (.int a1)]))
              refine own_st (fun _ k => XS.icmpYes X0.here hx rfl (pc0 := 33) (pc' := 42) rfl (hb hby own_d0_33) rfl (tlt cc12).1 (by decide) (by decide) k) ?_
              show own_Go p e below s _ _ _ (s₁.setTop (mkF m 42 #[.val (.int a1)] []))
              refine own_st (fun _ k => XS.iloadN X0.here hx rfl (hb hby own_d0_42) rfl k) ?_
              show own_Go p e below s _ _ _ (s₁.setTop (mkF m 43 #[.val (.int a1)] [(.int a1)]))
              refine own_st (fun _ k => X0.ldcInt hx hown (mvT hZ (hw _ (List.mem_of_getElem? (i := 17) rfl))) (g := (mkF m 43 #[.val (.int a1)] [(.int a1)])) rfl (hb hby own_d0_43) _ k) ?_
              show own_Go p e below s _ _ _ (s₁.setTop (mkF m 45 #[.val (.int a1)] [(.int (65536 : Int32)), (.int a1)]))
              rcases Classical.em (a1 < (65536 : Int32)) with cc13 | cc13
              · have icc13 : ((a1).toInt : Int) < 65536 := Int32.lt_iff_toInt_lt.mp cc13
                show own_Go p e below s _ _ _ (s₁.setTop (mkF m 45 #[.val (.int a1)] [(.int (65536 : Int32)), (.int a1)]))
                refine own_st (fun _ k => XS.icmpYes X0.here hx rfl (pc0 := 45) (pc' := 58) rfl (hb hby own_d0_45) rfl (tlt cc13).1 (by decide) (by decide) k) ?_
                show own_Go p e below s _ _ _ (s₁.setTop (mkF m 58 #[.val (.int a1)] []))
                refine own_st (fun _ k => XS.iconst X0.here hx rfl (hb hby own_d0_58) k) ?_
                show own_Go p e below s _ _ _ (s₁.setTop (mkF m 59 #[.val (.int a1)] [(.int (0 : Int32))]))
                exact own_endN X0 hx hlk (t := .boolean) hret (by simp) (hb hby own_d0_59) (w := (0 : Int32)) (by decide) ⟨own_x0 (by omega), e0, rfl⟩ (by decide) (by decide)
              · have icc13 : ¬ (((a1).toInt : Int) < 65536) := fun u => cc13 (Int32.lt_iff_toInt_lt.mpr u)
                show own_Go p e below s _ _ _ (s₁.setTop (mkF m 45 #[.val (.int a1)] [(.int (65536 : Int32)), (.int a1)]))
                refine own_st (fun _ k => XS.icmpNo X0.here hx rfl (hb hby own_d0_45) rfl (flt cc13).1 k) ?_
                show own_Go p e below s _ _ _ (s₁.setTop (mkF m 48 #[.val (.int a1)] []))
                refine own_st (fun _ k => XS.iloadN X0.here hx rfl (hb hby own_d0_48) rfl k) ?_
                show own_Go p e below s _ _ _ (s₁.setTop (mkF m 49 #[.val (.int a1)] [(.int a1)]))
                refine own_st (fun _ k => X0.ldcInt hx hown (mvT hZ (hw _ (List.mem_of_getElem? (i := 24) rfl))) (g := (mkF m 49 #[.val (.int a1)] [(.int a1)])) rfl (hb hby own_d0_49) _ k) ?_
                show own_Go p e below s _ _ _ (s₁.setTop (mkF m 51 #[.val (.int a1)] [(.int (1114111 : Int32)), (.int a1)]))
                rcases Classical.em ((1114111 : Int32) < a1) with cc14 | cc14
                · have icc14 : (1114111 : Int) < (a1).toInt := Int32.lt_iff_toInt_lt.mp cc14
                  show own_Go p e below s _ _ _ (s₁.setTop (mkF m 51 #[.val (.int a1)] [(.int (1114111 : Int32)), (.int a1)]))
                  refine own_st (fun _ k => XS.icmpYes X0.here hx rfl (pc0 := 51) (pc' := 58) rfl (hb hby own_d0_51) rfl (tlt cc14).2.2.1 (by decide) (by decide) k) ?_
                  show own_Go p e below s _ _ _ (s₁.setTop (mkF m 58 #[.val (.int a1)] []))
                  refine own_st (fun _ k => XS.iconst X0.here hx rfl (hb hby own_d0_58) k) ?_
                  show own_Go p e below s _ _ _ (s₁.setTop (mkF m 59 #[.val (.int a1)] [(.int (0 : Int32))]))
                  exact own_endN X0 hx hlk (t := .boolean) hret (by simp) (hb hby own_d0_59) (w := (0 : Int32)) (by decide) ⟨own_x0 (by omega), e0, rfl⟩ (by decide) (by decide)
                · have icc14 : ¬ ((1114111 : Int) < (a1).toInt) := fun u => cc14 (Int32.lt_iff_toInt_lt.mpr u)
                  show own_Go p e below s _ _ _ (s₁.setTop (mkF m 51 #[.val (.int a1)] [(.int (1114111 : Int32)), (.int a1)]))
                  refine own_st (fun _ k => XS.icmpNo X0.here hx rfl (hb hby own_d0_51) rfl (flt cc14).2.2.1 k) ?_
                  show own_Go p e below s _ _ _ (s₁.setTop (mkF m 54 #[.val (.int a1)] []))
                  refine own_st (fun _ k => XS.iconst X0.here hx rfl (hb hby own_d0_54) k) ?_
                  show own_Go p e below s _ _ _ (s₁.setTop (mkF m 55 #[.val (.int a1)] [(.int (1 : Int32))]))
                  refine own_st (fun _ k => XS.goto X0.here hx rfl (pc0 := 55) (pc' := 59) rfl (hb hby own_d0_55) (by decide) (by decide) k) ?_
                  show own_Go p e below s _ _ _ (s₁.setTop (mkF m 59 #[.val (.int a1)] [(.int (1 : Int32))]))
                  exact own_endN X0 hx hlk (t := .boolean) hret (by simp) (hb hby own_d0_59) (w := (1 : Int32)) (by decide) ⟨own_x1 (by omega), e0, rfl⟩ (by decide) (by decide)
            · have icc12 : ¬ (((a1).toInt : Int) < 57344) := fun u => cc12 (Int32.lt_iff_toInt_lt.mpr u)
              show own_Go p e below s _ _ _ (s₁.setTop (mkF m 33 #[.val (.int a1)] [(.int (57344 : Int32)), (.int a1)]))
              refine own_st (fun _ k => XS.icmpNo X0.here hx rfl (hb hby own_d0_33) rfl (flt cc12).1 k) ?_
              show own_Go p e below s _ _ _ (s₁.setTop (mkF m 36 #[.val (.int a1)] []))
              refine own_st (fun _ k => XS.iloadN X0.here hx rfl (hb hby own_d0_36) rfl k) ?_
              show own_Go p e below s _ _ _ (s₁.setTop (mkF m 37 #[.val (.int a1)] [(.int a1)]))
              refine own_st (fun _ k => X0.ldcInt hx hown (mvT hZ (hw _ (List.mem_of_getElem? (i := 23) rfl))) (g := (mkF m 37 #[.val (.int a1)] [(.int a1)])) rfl (hb hby own_d0_37) _ k) ?_
              show own_Go p e below s _ _ _ (s₁.setTop (mkF m 39 #[.val (.int a1)] [(.int (65533 : Int32)), (.int a1)]))
              rcases Classical.em ((65533 : Int32) < a1) with cc15 | cc15
              · have icc15 : (65533 : Int) < (a1).toInt := Int32.lt_iff_toInt_lt.mp cc15
                show own_Go p e below s _ _ _ (s₁.setTop (mkF m 39 #[.val (.int a1)] [(.int (65533 : Int32)), (.int a1)]))
                refine own_st (fun _ k => XS.icmpNo X0.here hx rfl (hb hby own_d0_39) rfl (tlt cc15).2.2.2 k) ?_
                show own_Go p e below s _ _ _ (s₁.setTop (mkF m 42 #[.val (.int a1)] []))
                refine own_st (fun _ k => XS.iloadN X0.here hx rfl (hb hby own_d0_42) rfl k) ?_
                show own_Go p e below s _ _ _ (s₁.setTop (mkF m 43 #[.val (.int a1)] [(.int a1)]))
                refine own_st (fun _ k => X0.ldcInt hx hown (mvT hZ (hw _ (List.mem_of_getElem? (i := 17) rfl))) (g := (mkF m 43 #[.val (.int a1)] [(.int a1)])) rfl (hb hby own_d0_43) _ k) ?_
                show own_Go p e below s _ _ _ (s₁.setTop (mkF m 45 #[.val (.int a1)] [(.int (65536 : Int32)), (.int a1)]))
                rcases Classical.em (a1 < (65536 : Int32)) with cc16 | cc16
                · have icc16 : ((a1).toInt : Int) < 65536 := Int32.lt_iff_toInt_lt.mp cc16
                  show own_Go p e below s _ _ _ (s₁.setTop (mkF m 45 #[.val (.int a1)] [(.int (65536 : Int32)), (.int a1)]))
                  refine own_st (fun _ k => XS.icmpYes X0.here hx rfl (pc0 := 45) (pc' := 58) rfl (hb hby own_d0_45) rfl (tlt cc16).1 (by decide) (by decide) k) ?_
                  show own_Go p e below s _ _ _ (s₁.setTop (mkF m 58 #[.val (.int a1)] []))
                  refine own_st (fun _ k => XS.iconst X0.here hx rfl (hb hby own_d0_58) k) ?_
                  show own_Go p e below s _ _ _ (s₁.setTop (mkF m 59 #[.val (.int a1)] [(.int (0 : Int32))]))
                  exact own_endN X0 hx hlk (t := .boolean) hret (by simp) (hb hby own_d0_59) (w := (0 : Int32)) (by decide) ⟨own_x0 (by omega), e0, rfl⟩ (by decide) (by decide)
                · have icc16 : ¬ (((a1).toInt : Int) < 65536) := fun u => cc16 (Int32.lt_iff_toInt_lt.mpr u)
                  show own_Go p e below s _ _ _ (s₁.setTop (mkF m 45 #[.val (.int a1)] [(.int (65536 : Int32)), (.int a1)]))
                  refine own_st (fun _ k => XS.icmpNo X0.here hx rfl (hb hby own_d0_45) rfl (flt cc16).1 k) ?_
                  show own_Go p e below s _ _ _ (s₁.setTop (mkF m 48 #[.val (.int a1)] []))
                  refine own_st (fun _ k => XS.iloadN X0.here hx rfl (hb hby own_d0_48) rfl k) ?_
                  show own_Go p e below s _ _ _ (s₁.setTop (mkF m 49 #[.val (.int a1)] [(.int a1)]))
                  refine own_st (fun _ k => X0.ldcInt hx hown (mvT hZ (hw _ (List.mem_of_getElem? (i := 24) rfl))) (g := (mkF m 49 #[.val (.int a1)] [(.int a1)])) rfl (hb hby own_d0_49) _ k) ?_
                  show own_Go p e below s _ _ _ (s₁.setTop (mkF m 51 #[.val (.int a1)] [(.int (1114111 : Int32)), (.int a1)]))
                  rcases Classical.em ((1114111 : Int32) < a1) with cc17 | cc17
                  · have icc17 : (1114111 : Int) < (a1).toInt := Int32.lt_iff_toInt_lt.mp cc17
                    show own_Go p e below s _ _ _ (s₁.setTop (mkF m 51 #[.val (.int a1)] [(.int (1114111 : Int32)), (.int a1)]))
                    refine own_st (fun _ k => XS.icmpYes X0.here hx rfl (pc0 := 51) (pc' := 58) rfl (hb hby own_d0_51) rfl (tlt cc17).2.2.1 (by decide) (by decide) k) ?_
                    show own_Go p e below s _ _ _ (s₁.setTop (mkF m 58 #[.val (.int a1)] []))
                    refine own_st (fun _ k => XS.iconst X0.here hx rfl (hb hby own_d0_58) k) ?_
                    show own_Go p e below s _ _ _ (s₁.setTop (mkF m 59 #[.val (.int a1)] [(.int (0 : Int32))]))
                    exact own_endN X0 hx hlk (t := .boolean) hret (by simp) (hb hby own_d0_59) (w := (0 : Int32)) (by decide) ⟨own_x0 (by omega), e0, rfl⟩ (by decide) (by decide)
                  · have icc17 : ¬ ((1114111 : Int) < (a1).toInt) := fun u => cc17 (Int32.lt_iff_toInt_lt.mpr u)
                    show own_Go p e below s _ _ _ (s₁.setTop (mkF m 51 #[.val (.int a1)] [(.int (1114111 : Int32)), (.int a1)]))
                    refine own_st (fun _ k => XS.icmpNo X0.here hx rfl (hb hby own_d0_51) rfl (flt cc17).2.2.1 k) ?_
                    show own_Go p e below s _ _ _ (s₁.setTop (mkF m 54 #[.val (.int a1)] []))
                    refine own_st (fun _ k => XS.iconst X0.here hx rfl (hb hby own_d0_54) k) ?_
                    show own_Go p e below s _ _ _ (s₁.setTop (mkF m 55 #[.val (.int a1)] [(.int (1 : Int32))]))
                    refine own_st (fun _ k => XS.goto X0.here hx rfl (pc0 := 55) (pc' := 59) rfl (hb hby own_d0_55) (by decide) (by decide) k) ?_
                    show own_Go p e below s _ _ _ (s₁.setTop (mkF m 59 #[.val (.int a1)] [(.int (1 : Int32))]))
                    exact own_endN X0 hx hlk (t := .boolean) hret (by simp) (hb hby own_d0_59) (w := (1 : Int32)) (by decide) ⟨own_x1 (by omega), e0, rfl⟩ (by decide) (by decide)
              · have icc15 : ¬ ((65533 : Int) < (a1).toInt) := fun u => cc15 (Int32.lt_iff_toInt_lt.mpr u)
                show own_Go p e below s _ _ _ (s₁.setTop (mkF m 39 #[.val (.int a1)] [(.int (65533 : Int32)), (.int a1)]))
                refine own_st (fun _ k => XS.icmpYes X0.here hx rfl (pc0 := 39) (pc' := 54) rfl (hb hby own_d0_39) rfl (flt cc15).2.2.2 (by decide) (by decide) k) ?_
                show own_Go p e below s _ _ _ (s₁.setTop (mkF m 54 #[.val (.int a1)] []))
                refine own_st (fun _ k => XS.iconst X0.here hx rfl (hb hby own_d0_54) k) ?_
                show own_Go p e below s _ _ _ (s₁.setTop (mkF m 55 #[.val (.int a1)] [(.int (1 : Int32))]))
                refine own_st (fun _ k => XS.goto X0.here hx rfl (pc0 := 55) (pc' := 59) rfl (hb hby own_d0_55) (by decide) (by decide) k) ?_
                show own_Go p e below s _ _ _ (s₁.setTop (mkF m 59 #[.val (.int a1)] [(.int (1 : Int32))]))
                exact own_endN X0 hx hlk (t := .boolean) hret (by simp) (hb hby own_d0_59) (w := (1 : Int32)) (by decide) ⟨own_x1 (by omega), e0, rfl⟩ (by decide) (by decide)
          · have icc11 : ¬ ((55295 : Int) < (a1).toInt) := fun u => cc11 (Int32.lt_iff_toInt_lt.mpr u)
            show own_Go p e below s _ _ _ (s₁.setTop (mkF m 27 #[.val (.int a1)] [(.int (55295 : Int32)), (.int a1)]))
            refine own_st (fun _ k => XS.icmpYes X0.here hx rfl (pc0 := 27) (pc' := 54) rfl (hb hby own_d0_27) rfl (flt cc11).2.2.2 (by decide) (by decide) k) ?_
            show own_Go p e below s _ _ _ (s₁.setTop (mkF m 54 #[.val (.int a1)] []))
            refine own_st (fun _ k => XS.iconst X0.here hx rfl (hb hby own_d0_54) k) ?_
            show own_Go p e below s _ _ _ (s₁.setTop (mkF m 55 #[.val (.int a1)] [(.int (1 : Int32))]))
            refine own_st (fun _ k => XS.goto X0.here hx rfl (pc0 := 55) (pc' := 59) rfl (hb hby own_d0_55) (by decide) (by decide) k) ?_
            show own_Go p e below s _ _ _ (s₁.setTop (mkF m 59 #[.val (.int a1)] [(.int (1 : Int32))]))
            exact own_endN X0 hx hlk (t := .boolean) hret (by simp) (hb hby own_d0_59) (w := (1 : Int32)) (by decide) ⟨own_x1 (by omega), e0, rfl⟩ (by decide) (by decide)
theorem own_d1_0 : decode method_2_code 0 = .ok (.iload_n 0, 1) := by decide +kernel
theorem own_d1_1 : decode method_2_code 1 = .ok (.ifCond .lt 9, 3) := by decide +kernel
theorem own_d1_4 : decode method_2_code 4 = .ok (.iload_n 0, 1) := by decide +kernel
theorem own_d1_5 : decode method_2_code 5 = .ok (.ldc 7, 2) := by decide +kernel
theorem own_d1_7 : decode method_2_code 7 = .ok (.if_icmp .le 5, 3) := by decide +kernel
theorem own_d1_10 : decode method_2_code 10 = .ok (.iconst 0, 1) := by decide +kernel
theorem own_d1_11 : decode method_2_code 11 = .ok (.ireturn, 1) := by decide +kernel
theorem own_d1_12 : decode method_2_code 12 = .ok (.iload_n 0, 1) := by decide +kernel
theorem own_d1_13 : decode method_2_code 13 = .ok (.bipush 32, 2) := by decide +kernel
theorem own_d1_15 : decode method_2_code 15 = .ok (.if_icmp .ge 27, 3) := by decide +kernel
theorem own_d1_18 : decode method_2_code 18 = .ok (.iload_n 0, 1) := by decide +kernel
theorem own_d1_19 : decode method_2_code 19 = .ok (.bipush 9, 2) := by decide +kernel
theorem own_d1_21 : decode method_2_code 21 = .ok (.if_icmp .eq 15, 3) := by decide +kernel
theorem own_d1_24 : decode method_2_code 24 = .ok (.iload_n 0, 1) := by decide +kernel
theorem own_d1_25 : decode method_2_code 25 = .ok (.bipush 10, 2) := by decide +kernel
theorem own_d1_27 : decode method_2_code 27 = .ok (.if_icmp .eq 9, 3) := by decide +kernel
theorem own_d1_30 : decode method_2_code 30 = .ok (.iload_n 0, 1) := by decide +kernel
theorem own_d1_31 : decode method_2_code 31 = .ok (.bipush 13, 2) := by decide +kernel
theorem own_d1_33 : decode method_2_code 33 = .ok (.if_icmp .ne 7, 3) := by decide +kernel
theorem own_d1_36 : decode method_2_code 36 = .ok (.iconst 1, 1) := by decide +kernel
theorem own_d1_37 : decode method_2_code 37 = .ok (.goto 4, 3) := by decide +kernel
theorem own_d1_40 : decode method_2_code 40 = .ok (.iconst 0, 1) := by decide +kernel
theorem own_d1_41 : decode method_2_code 41 = .ok (.ireturn, 1) := by decide +kernel
theorem own_d1_42 : decode method_2_code 42 = .ok (.iload_n 0, 1) := by decide +kernel
theorem own_d1_43 : decode method_2_code 43 = .ok (.ldc 8, 2) := by decide +kernel
theorem own_d1_45 : decode method_2_code 45 = .ok (.if_icmp .lt 11, 3) := by decide +kernel
theorem own_d1_48 : decode method_2_code 48 = .ok (.iload_n 0, 1) := by decide +kernel
theorem own_d1_49 : decode method_2_code 49 = .ok (.ldc 9, 2) := by decide +kernel
theorem own_d1_51 : decode method_2_code 51 = .ok (.if_icmp .gt 5, 3) := by decide +kernel
theorem own_d1_54 : decode method_2_code 54 = .ok (.iconst 0, 1) := by decide +kernel
theorem own_d1_55 : decode method_2_code 55 = .ok (.ireturn, 1) := by decide +kernel
theorem own_d1_56 : decode method_2_code 56 = .ok (.iload_n 0, 1) := by decide +kernel
theorem own_d1_57 : decode method_2_code 57 = .ok (.ldc 10, 2) := by decide +kernel
theorem own_d1_59 : decode method_2_code 59 = .ok (.if_icmp .eq 9, 3) := by decide +kernel
theorem own_d1_62 : decode method_2_code 62 = .ok (.iload_n 0, 1) := by decide +kernel
theorem own_d1_63 : decode method_2_code 63 = .ok (.ldc 11, 2) := by decide +kernel
theorem own_d1_65 : decode method_2_code 65 = .ok (.if_icmp .ne 5, 3) := by decide +kernel
theorem own_d1_68 : decode method_2_code 68 = .ok (.iconst 0, 1) := by decide +kernel
theorem own_d1_69 : decode method_2_code 69 = .ok (.ireturn, 1) := by decide +kernel
theorem own_d1_70 : decode method_2_code 70 = .ok (.iconst 1, 1) := by decide +kernel
theorem own_d1_71 : decode method_2_code 71 = .ok (.ireturn, 1) := by decide +kernel
theorem own_pn1 : plainFor (⟨"com/example/libflwor/libflwor/xdm/XmlCharactersIsXmlCharPinLaw", "ref", "(I)Z"⟩ : MethodName) = true := by first | exact plainFor_of_name (show plainName "com/example/libflwor/libflwor/xdm/XmlCharactersIsXmlCharPinLaw" = true by first | (simp [plainName, overriddenIn]; done) | decide +kernel) | decide +kernel
theorem own_ef1 (m : MethodId) (x0 : Int32) : entryFrame m #[(.int x0)] 1 = mkF m 0 #[.val (.int x0)] [] := by first | (simp [entryFrame, mkF, argsToLocals, Value.category]; done) | rfl
set_option maxRecDepth 65536 in
set_option maxHeartbeats 40000000 in
theorem own_rm2 (l : Launch) (Z : State) (a0 : Array Value) (hw : ∀ d ∈ tables_1, d.before a0 Z = true) (a1 : Int32) (h0 : Heap) (n0 : Nat) (Z0 : n0 ≤ h0.size)  :
    own_Met l Z (⟨"com/example/libflwor/libflwor/xdm/XmlCharactersIsXmlCharPinLaw", "ref", "(I)Z"⟩ : MethodName) method_2_code 1 (some .boolean) ({ frames := 0, cells := 0, slots := 0, locals := 0 } : Room) #[(.int a1)] h0 (fun v h' L => v = some (.int (own_xc (a1).toInt)) ∧ h' = h0 ∧ L = []) := by
  refine own_in own_pn1 ?_
  intro p e s m below meth c s₁ hx hby hml hown hnm hlk hret hZ X0 e0
  have N0 := Fr.nil n0
  refine own_ef (own_ef1 m a1) ?_
  show own_Go p e below s _ _ _ (s₁.setTop (mkF m 0 #[.val (.int a1)] []))
  refine own_st (fun _ k => XS.iloadN X0.here hx rfl (hb hby own_d1_0) rfl k) ?_
  show own_Go p e below s _ _ _ (s₁.setTop (mkF m 1 #[.val (.int a1)] [(.int a1)]))
  rcases Classical.em (a1 < (0 : Int32)) with cc1 | cc1
  · have icc1 : ((a1).toInt : Int) < 0 := Int32.lt_iff_toInt_lt.mp cc1
    show own_Go p e below s _ _ _ (s₁.setTop (mkF m 1 #[.val (.int a1)] [(.int a1)]))
    refine own_st (fun _ k => XS.ifYes X0.here hx rfl (pc0 := 1) (pc' := 10) rfl (hb hby own_d1_1) rfl ((if0 _ _).trans (tlt cc1).1) (by decide) (by decide) k) ?_
    show own_Go p e below s _ _ _ (s₁.setTop (mkF m 10 #[.val (.int a1)] []))
    refine own_st (fun _ k => XS.iconst X0.here hx rfl (hb hby own_d1_10) k) ?_
    show own_Go p e below s _ _ _ (s₁.setTop (mkF m 11 #[.val (.int a1)] [(.int (0 : Int32))]))
    exact own_endN X0 hx hlk (t := .boolean) hret (by simp) (hb hby own_d1_11) (w := (0 : Int32)) (by decide) ⟨own_x0 (by omega), e0, rfl⟩ (by decide) (by decide)
  · have icc1 : ¬ (((a1).toInt : Int) < 0) := fun u => cc1 (Int32.lt_iff_toInt_lt.mpr u)
    show own_Go p e below s _ _ _ (s₁.setTop (mkF m 1 #[.val (.int a1)] [(.int a1)]))
    refine own_st (fun _ k => XS.ifNo X0.here hx rfl (hb hby own_d1_1) rfl ((if0 _ _).trans (flt cc1).1) k) ?_
    show own_Go p e below s _ _ _ (s₁.setTop (mkF m 4 #[.val (.int a1)] []))
    refine own_st (fun _ k => XS.iloadN X0.here hx rfl (hb hby own_d1_4) rfl k) ?_
    show own_Go p e below s _ _ _ (s₁.setTop (mkF m 5 #[.val (.int a1)] [(.int a1)]))
    refine own_st (fun _ k => X0.ldcInt hx hown (mvT hZ (hw _ (List.mem_of_getElem? (i := 8) rfl))) (g := (mkF m 5 #[.val (.int a1)] [(.int a1)])) rfl (hb hby own_d1_5) _ k) ?_
    show own_Go p e below s _ _ _ (s₁.setTop (mkF m 7 #[.val (.int a1)] [(.int (1114111 : Int32)), (.int a1)]))
    rcases Classical.em ((1114111 : Int32) < a1) with cc2 | cc2
    · have icc2 : (1114111 : Int) < (a1).toInt := Int32.lt_iff_toInt_lt.mp cc2
      show own_Go p e below s _ _ _ (s₁.setTop (mkF m 7 #[.val (.int a1)] [(.int (1114111 : Int32)), (.int a1)]))
      refine own_st (fun _ k => XS.icmpNo X0.here hx rfl (hb hby own_d1_7) rfl (tlt cc2).2.2.2 k) ?_
      show own_Go p e below s _ _ _ (s₁.setTop (mkF m 10 #[.val (.int a1)] []))
      refine own_st (fun _ k => XS.iconst X0.here hx rfl (hb hby own_d1_10) k) ?_
      show own_Go p e below s _ _ _ (s₁.setTop (mkF m 11 #[.val (.int a1)] [(.int (0 : Int32))]))
      exact own_endN X0 hx hlk (t := .boolean) hret (by simp) (hb hby own_d1_11) (w := (0 : Int32)) (by decide) ⟨own_x0 (by omega), e0, rfl⟩ (by decide) (by decide)
    · have icc2 : ¬ ((1114111 : Int) < (a1).toInt) := fun u => cc2 (Int32.lt_iff_toInt_lt.mpr u)
      show own_Go p e below s _ _ _ (s₁.setTop (mkF m 7 #[.val (.int a1)] [(.int (1114111 : Int32)), (.int a1)]))
      refine own_st (fun _ k => XS.icmpYes X0.here hx rfl (pc0 := 7) (pc' := 12) rfl (hb hby own_d1_7) rfl (flt cc2).2.2.2 (by decide) (by decide) k) ?_
      show own_Go p e below s _ _ _ (s₁.setTop (mkF m 12 #[.val (.int a1)] []))
      refine own_st (fun _ k => XS.iloadN X0.here hx rfl (hb hby own_d1_12) rfl k) ?_
      show own_Go p e below s _ _ _ (s₁.setTop (mkF m 13 #[.val (.int a1)] [(.int a1)]))
      refine own_st (fun _ k => XS.bipush X0.here hx rfl (hb hby own_d1_13) k) ?_
      show own_Go p e below s _ _ _ (s₁.setTop (mkF m 15 #[.val (.int a1)] [(.int (32 : Int32)), (.int a1)]))
      rcases Classical.em (a1 < (32 : Int32)) with cc3 | cc3
      · have icc3 : ((a1).toInt : Int) < 32 := Int32.lt_iff_toInt_lt.mp cc3
        show own_Go p e below s _ _ _ (s₁.setTop (mkF m 15 #[.val (.int a1)] [(.int (32 : Int32)), (.int a1)]))
        refine own_st (fun _ k => XS.icmpNo X0.here hx rfl (hb hby own_d1_15) rfl (tlt cc3).2.1 k) ?_
        show own_Go p e below s _ _ _ (s₁.setTop (mkF m 18 #[.val (.int a1)] []))
        refine own_st (fun _ k => XS.iloadN X0.here hx rfl (hb hby own_d1_18) rfl k) ?_
        show own_Go p e below s _ _ _ (s₁.setTop (mkF m 19 #[.val (.int a1)] [(.int a1)]))
        refine own_st (fun _ k => XS.bipush X0.here hx rfl (hb hby own_d1_19) k) ?_
        show own_Go p e below s _ _ _ (s₁.setTop (mkF m 21 #[.val (.int a1)] [(.int (9 : Int32)), (.int a1)]))
        rcases Classical.em (a1 = (9 : Int32)) with cc10 | cc10
        · have icc10 : ((a1).toInt : Int) = 9 := congrArg Int32.toInt cc10
          show own_Go p e below s _ _ _ (s₁.setTop (mkF m 21 #[.val (.int a1)] [(.int (9 : Int32)), (.int a1)]))
          refine own_st (fun _ k => XS.icmpYes X0.here hx rfl (pc0 := 21) (pc' := 36) rfl (hb hby own_d1_21) rfl (teq cc10).1 (by decide) (by decide) k) ?_
          show own_Go p e below s _ _ _ (s₁.setTop (mkF m 36 #[.val (.int a1)] []))
          refine own_st (fun _ k => XS.iconst X0.here hx rfl (hb hby own_d1_36) k) ?_
          show own_Go p e below s _ _ _ (s₁.setTop (mkF m 37 #[.val (.int a1)] [(.int (1 : Int32))]))
          refine own_st (fun _ k => XS.goto X0.here hx rfl (pc0 := 37) (pc' := 41) rfl (hb hby own_d1_37) (by decide) (by decide) k) ?_
          show own_Go p e below s _ _ _ (s₁.setTop (mkF m 41 #[.val (.int a1)] [(.int (1 : Int32))]))
          exact own_endN X0 hx hlk (t := .boolean) hret (by simp) (hb hby own_d1_41) (w := (1 : Int32)) (by decide) ⟨own_x1 (by omega), e0, rfl⟩ (by decide) (by decide)
        · have icc10 : ¬ (((a1).toInt : Int) = 9) := fun u => cc10 (Int32.toInt_inj.mp u)
          show own_Go p e below s _ _ _ (s₁.setTop (mkF m 21 #[.val (.int a1)] [(.int (9 : Int32)), (.int a1)]))
          refine own_st (fun _ k => XS.icmpNo X0.here hx rfl (hb hby own_d1_21) rfl (feq cc10).1 k) ?_
          show own_Go p e below s _ _ _ (s₁.setTop (mkF m 24 #[.val (.int a1)] []))
          refine own_st (fun _ k => XS.iloadN X0.here hx rfl (hb hby own_d1_24) rfl k) ?_
          show own_Go p e below s _ _ _ (s₁.setTop (mkF m 25 #[.val (.int a1)] [(.int a1)]))
          refine own_st (fun _ k => XS.bipush X0.here hx rfl (hb hby own_d1_25) k) ?_
          show own_Go p e below s _ _ _ (s₁.setTop (mkF m 27 #[.val (.int a1)] [(.int (10 : Int32)), (.int a1)]))
          rcases Classical.em (a1 = (10 : Int32)) with cc11 | cc11
          · have icc11 : ((a1).toInt : Int) = 10 := congrArg Int32.toInt cc11
            show own_Go p e below s _ _ _ (s₁.setTop (mkF m 27 #[.val (.int a1)] [(.int (10 : Int32)), (.int a1)]))
            refine own_st (fun _ k => XS.icmpYes X0.here hx rfl (pc0 := 27) (pc' := 36) rfl (hb hby own_d1_27) rfl (teq cc11).1 (by decide) (by decide) k) ?_
            show own_Go p e below s _ _ _ (s₁.setTop (mkF m 36 #[.val (.int a1)] []))
            refine own_st (fun _ k => XS.iconst X0.here hx rfl (hb hby own_d1_36) k) ?_
            show own_Go p e below s _ _ _ (s₁.setTop (mkF m 37 #[.val (.int a1)] [(.int (1 : Int32))]))
            refine own_st (fun _ k => XS.goto X0.here hx rfl (pc0 := 37) (pc' := 41) rfl (hb hby own_d1_37) (by decide) (by decide) k) ?_
            show own_Go p e below s _ _ _ (s₁.setTop (mkF m 41 #[.val (.int a1)] [(.int (1 : Int32))]))
            exact own_endN X0 hx hlk (t := .boolean) hret (by simp) (hb hby own_d1_41) (w := (1 : Int32)) (by decide) ⟨own_x1 (by omega), e0, rfl⟩ (by decide) (by decide)
          · have icc11 : ¬ (((a1).toInt : Int) = 10) := fun u => cc11 (Int32.toInt_inj.mp u)
            show own_Go p e below s _ _ _ (s₁.setTop (mkF m 27 #[.val (.int a1)] [(.int (10 : Int32)), (.int a1)]))
            refine own_st (fun _ k => XS.icmpNo X0.here hx rfl (hb hby own_d1_27) rfl (feq cc11).1 k) ?_
            show own_Go p e below s _ _ _ (s₁.setTop (mkF m 30 #[.val (.int a1)] []))
            refine own_st (fun _ k => XS.iloadN X0.here hx rfl (hb hby own_d1_30) rfl k) ?_
            show own_Go p e below s _ _ _ (s₁.setTop (mkF m 31 #[.val (.int a1)] [(.int a1)]))
            refine own_st (fun _ k => XS.bipush X0.here hx rfl (hb hby own_d1_31) k) ?_
            show own_Go p e below s _ _ _ (s₁.setTop (mkF m 33 #[.val (.int a1)] [(.int (13 : Int32)), (.int a1)]))
            rcases Classical.em (a1 = (13 : Int32)) with cc12 | cc12
            · have icc12 : ((a1).toInt : Int) = 13 := congrArg Int32.toInt cc12
              show own_Go p e below s _ _ _ (s₁.setTop (mkF m 33 #[.val (.int a1)] [(.int (13 : Int32)), (.int a1)]))
              refine own_st (fun _ k => XS.icmpNo X0.here hx rfl (hb hby own_d1_33) rfl (teq cc12).2 k) ?_
              show own_Go p e below s _ _ _ (s₁.setTop (mkF m 36 #[.val (.int a1)] []))
              refine own_st (fun _ k => XS.iconst X0.here hx rfl (hb hby own_d1_36) k) ?_
              show own_Go p e below s _ _ _ (s₁.setTop (mkF m 37 #[.val (.int a1)] [(.int (1 : Int32))]))
              refine own_st (fun _ k => XS.goto X0.here hx rfl (pc0 := 37) (pc' := 41) rfl (hb hby own_d1_37) (by decide) (by decide) k) ?_
              show own_Go p e below s _ _ _ (s₁.setTop (mkF m 41 #[.val (.int a1)] [(.int (1 : Int32))]))
              exact own_endN X0 hx hlk (t := .boolean) hret (by simp) (hb hby own_d1_41) (w := (1 : Int32)) (by decide) ⟨own_x1 (by omega), e0, rfl⟩ (by decide) (by decide)
            · have icc12 : ¬ (((a1).toInt : Int) = 13) := fun u => cc12 (Int32.toInt_inj.mp u)
              show own_Go p e below s _ _ _ (s₁.setTop (mkF m 33 #[.val (.int a1)] [(.int (13 : Int32)), (.int a1)]))
              refine own_st (fun _ k => XS.icmpYes X0.here hx rfl (pc0 := 33) (pc' := 40) rfl (hb hby own_d1_33) rfl (feq cc12).2 (by decide) (by decide) k) ?_
              show own_Go p e below s _ _ _ (s₁.setTop (mkF m 40 #[.val (.int a1)] []))
              refine own_st (fun _ k => XS.iconst X0.here hx rfl (hb hby own_d1_40) k) ?_
              show own_Go p e below s _ _ _ (s₁.setTop (mkF m 41 #[.val (.int a1)] [(.int (0 : Int32))]))
              exact own_endN X0 hx hlk (t := .boolean) hret (by simp) (hb hby own_d1_41) (w := (0 : Int32)) (by decide) ⟨own_x0 (by omega), e0, rfl⟩ (by decide) (by decide)
      · have icc3 : ¬ (((a1).toInt : Int) < 32) := fun u => cc3 (Int32.lt_iff_toInt_lt.mpr u)
        show own_Go p e below s _ _ _ (s₁.setTop (mkF m 15 #[.val (.int a1)] [(.int (32 : Int32)), (.int a1)]))
        refine own_st (fun _ k => XS.icmpYes X0.here hx rfl (pc0 := 15) (pc' := 42) rfl (hb hby own_d1_15) rfl (flt cc3).2.1 (by decide) (by decide) k) ?_
        show own_Go p e below s _ _ _ (s₁.setTop (mkF m 42 #[.val (.int a1)] []))
        refine own_st (fun _ k => XS.iloadN X0.here hx rfl (hb hby own_d1_42) rfl k) ?_
        show own_Go p e below s _ _ _ (s₁.setTop (mkF m 43 #[.val (.int a1)] [(.int a1)]))
        refine own_st (fun _ k => X0.ldcInt hx hown (mvT hZ (hw _ (List.mem_of_getElem? (i := 2) rfl))) (g := (mkF m 43 #[.val (.int a1)] [(.int a1)])) rfl (hb hby own_d1_43) _ k) ?_
        show own_Go p e below s _ _ _ (s₁.setTop (mkF m 45 #[.val (.int a1)] [(.int (55296 : Int32)), (.int a1)]))
        rcases Classical.em (a1 < (55296 : Int32)) with cc4 | cc4
        · have icc4 : ((a1).toInt : Int) < 55296 := Int32.lt_iff_toInt_lt.mp cc4
          show own_Go p e below s _ _ _ (s₁.setTop (mkF m 45 #[.val (.int a1)] [(.int (55296 : Int32)), (.int a1)]))
          refine own_st (fun _ k => XS.icmpYes X0.here hx rfl (pc0 := 45) (pc' := 56) rfl (hb hby own_d1_45) rfl (tlt cc4).1 (by decide) (by decide) k) ?_
          show own_Go p e below s _ _ _ (s₁.setTop (mkF m 56 #[.val (.int a1)] []))
          refine own_st (fun _ k => XS.iloadN X0.here hx rfl (hb hby own_d1_56) rfl k) ?_
          show own_Go p e below s _ _ _ (s₁.setTop (mkF m 57 #[.val (.int a1)] [(.int a1)]))
          refine own_st (fun _ k => X0.ldcInt hx hown (mvT hZ (hw _ (List.mem_of_getElem? (i := 6) rfl))) (g := (mkF m 57 #[.val (.int a1)] [(.int a1)])) rfl (hb hby own_d1_57) _ k) ?_
          show own_Go p e below s _ _ _ (s₁.setTop (mkF m 59 #[.val (.int a1)] [(.int (65534 : Int32)), (.int a1)]))
          rcases Classical.em (a1 = (65534 : Int32)) with cc5 | cc5
          · have icc5 : ((a1).toInt : Int) = 65534 := congrArg Int32.toInt cc5
            show own_Go p e below s _ _ _ (s₁.setTop (mkF m 59 #[.val (.int a1)] [(.int (65534 : Int32)), (.int a1)]))
            refine own_st (fun _ k => XS.icmpYes X0.here hx rfl (pc0 := 59) (pc' := 68) rfl (hb hby own_d1_59) rfl (teq cc5).1 (by decide) (by decide) k) ?_
            show own_Go p e below s _ _ _ (s₁.setTop (mkF m 68 #[.val (.int a1)] []))
            refine own_st (fun _ k => XS.iconst X0.here hx rfl (hb hby own_d1_68) k) ?_
            show own_Go p e below s _ _ _ (s₁.setTop (mkF m 69 #[.val (.int a1)] [(.int (0 : Int32))]))
            exact own_endN X0 hx hlk (t := .boolean) hret (by simp) (hb hby own_d1_69) (w := (0 : Int32)) (by decide) ⟨own_x0 (by omega), e0, rfl⟩ (by decide) (by decide)
          · have icc5 : ¬ (((a1).toInt : Int) = 65534) := fun u => cc5 (Int32.toInt_inj.mp u)
            show own_Go p e below s _ _ _ (s₁.setTop (mkF m 59 #[.val (.int a1)] [(.int (65534 : Int32)), (.int a1)]))
            refine own_st (fun _ k => XS.icmpNo X0.here hx rfl (hb hby own_d1_59) rfl (feq cc5).1 k) ?_
            show own_Go p e below s _ _ _ (s₁.setTop (mkF m 62 #[.val (.int a1)] []))
            refine own_st (fun _ k => XS.iloadN X0.here hx rfl (hb hby own_d1_62) rfl k) ?_
            show own_Go p e below s _ _ _ (s₁.setTop (mkF m 63 #[.val (.int a1)] [(.int a1)]))
            refine own_st (fun _ k => X0.ldcInt hx hown (mvT hZ (hw _ (List.mem_of_getElem? (i := 25) rfl))) (g := (mkF m 63 #[.val (.int a1)] [(.int a1)])) rfl (hb hby own_d1_63) _ k) ?_
            show own_Go p e below s _ _ _ (s₁.setTop (mkF m 65 #[.val (.int a1)] [(.int (65535 : Int32)), (.int a1)]))
            rcases Classical.em (a1 = (65535 : Int32)) with cc6 | cc6
            · have icc6 : ((a1).toInt : Int) = 65535 := congrArg Int32.toInt cc6
              show own_Go p e below s _ _ _ (s₁.setTop (mkF m 65 #[.val (.int a1)] [(.int (65535 : Int32)), (.int a1)]))
              refine own_st (fun _ k => XS.icmpNo X0.here hx rfl (hb hby own_d1_65) rfl (teq cc6).2 k) ?_
              show own_Go p e below s _ _ _ (s₁.setTop (mkF m 68 #[.val (.int a1)] []))
              refine own_st (fun _ k => XS.iconst X0.here hx rfl (hb hby own_d1_68) k) ?_
              show own_Go p e below s _ _ _ (s₁.setTop (mkF m 69 #[.val (.int a1)] [(.int (0 : Int32))]))
              exact own_endN X0 hx hlk (t := .boolean) hret (by simp) (hb hby own_d1_69) (w := (0 : Int32)) (by decide) ⟨own_x0 (by omega), e0, rfl⟩ (by decide) (by decide)
            · have icc6 : ¬ (((a1).toInt : Int) = 65535) := fun u => cc6 (Int32.toInt_inj.mp u)
              show own_Go p e below s _ _ _ (s₁.setTop (mkF m 65 #[.val (.int a1)] [(.int (65535 : Int32)), (.int a1)]))
              refine own_st (fun _ k => XS.icmpYes X0.here hx rfl (pc0 := 65) (pc' := 70) rfl (hb hby own_d1_65) rfl (feq cc6).2 (by decide) (by decide) k) ?_
              show own_Go p e below s _ _ _ (s₁.setTop (mkF m 70 #[.val (.int a1)] []))
              refine own_st (fun _ k => XS.iconst X0.here hx rfl (hb hby own_d1_70) k) ?_
              show own_Go p e below s _ _ _ (s₁.setTop (mkF m 71 #[.val (.int a1)] [(.int (1 : Int32))]))
              exact own_endN X0 hx hlk (t := .boolean) hret (by simp) (hb hby own_d1_71) (w := (1 : Int32)) (by decide) ⟨own_x1 (by omega), e0, rfl⟩ (by decide) (by decide)
        · have icc4 : ¬ (((a1).toInt : Int) < 55296) := fun u => cc4 (Int32.lt_iff_toInt_lt.mpr u)
          show own_Go p e below s _ _ _ (s₁.setTop (mkF m 45 #[.val (.int a1)] [(.int (55296 : Int32)), (.int a1)]))
          refine own_st (fun _ k => XS.icmpNo X0.here hx rfl (hb hby own_d1_45) rfl (flt cc4).1 k) ?_
          show own_Go p e below s _ _ _ (s₁.setTop (mkF m 48 #[.val (.int a1)] []))
          refine own_st (fun _ k => XS.iloadN X0.here hx rfl (hb hby own_d1_48) rfl k) ?_
          show own_Go p e below s _ _ _ (s₁.setTop (mkF m 49 #[.val (.int a1)] [(.int a1)]))
          refine own_st (fun _ k => X0.ldcInt hx hown (mvT hZ (hw _ (List.mem_of_getElem? (i := 3) rfl))) (g := (mkF m 49 #[.val (.int a1)] [(.int a1)])) rfl (hb hby own_d1_49) _ k) ?_
          show own_Go p e below s _ _ _ (s₁.setTop (mkF m 51 #[.val (.int a1)] [(.int (57343 : Int32)), (.int a1)]))
          rcases Classical.em ((57343 : Int32) < a1) with cc7 | cc7
          · have icc7 : (57343 : Int) < (a1).toInt := Int32.lt_iff_toInt_lt.mp cc7
            show own_Go p e below s _ _ _ (s₁.setTop (mkF m 51 #[.val (.int a1)] [(.int (57343 : Int32)), (.int a1)]))
            refine own_st (fun _ k => XS.icmpYes X0.here hx rfl (pc0 := 51) (pc' := 56) rfl (hb hby own_d1_51) rfl (tlt cc7).2.2.1 (by decide) (by decide) k) ?_
            show own_Go p e below s _ _ _ (s₁.setTop (mkF m 56 #[.val (.int a1)] []))
            refine own_st (fun _ k => XS.iloadN X0.here hx rfl (hb hby own_d1_56) rfl k) ?_
            show own_Go p e below s _ _ _ (s₁.setTop (mkF m 57 #[.val (.int a1)] [(.int a1)]))
            refine own_st (fun _ k => X0.ldcInt hx hown (mvT hZ (hw _ (List.mem_of_getElem? (i := 6) rfl))) (g := (mkF m 57 #[.val (.int a1)] [(.int a1)])) rfl (hb hby own_d1_57) _ k) ?_
            show own_Go p e below s _ _ _ (s₁.setTop (mkF m 59 #[.val (.int a1)] [(.int (65534 : Int32)), (.int a1)]))
            rcases Classical.em (a1 = (65534 : Int32)) with cc8 | cc8
            · have icc8 : ((a1).toInt : Int) = 65534 := congrArg Int32.toInt cc8
              show own_Go p e below s _ _ _ (s₁.setTop (mkF m 59 #[.val (.int a1)] [(.int (65534 : Int32)), (.int a1)]))
              refine own_st (fun _ k => XS.icmpYes X0.here hx rfl (pc0 := 59) (pc' := 68) rfl (hb hby own_d1_59) rfl (teq cc8).1 (by decide) (by decide) k) ?_
              show own_Go p e below s _ _ _ (s₁.setTop (mkF m 68 #[.val (.int a1)] []))
              refine own_st (fun _ k => XS.iconst X0.here hx rfl (hb hby own_d1_68) k) ?_
              show own_Go p e below s _ _ _ (s₁.setTop (mkF m 69 #[.val (.int a1)] [(.int (0 : Int32))]))
              exact own_endN X0 hx hlk (t := .boolean) hret (by simp) (hb hby own_d1_69) (w := (0 : Int32)) (by decide) ⟨own_x0 (by omega), e0, rfl⟩ (by decide) (by decide)
            · have icc8 : ¬ (((a1).toInt : Int) = 65534) := fun u => cc8 (Int32.toInt_inj.mp u)
              show own_Go p e below s _ _ _ (s₁.setTop (mkF m 59 #[.val (.int a1)] [(.int (65534 : Int32)), (.int a1)]))
              refine own_st (fun _ k => XS.icmpNo X0.here hx rfl (hb hby own_d1_59) rfl (feq cc8).1 k) ?_
              show own_Go p e below s _ _ _ (s₁.setTop (mkF m 62 #[.val (.int a1)] []))
              refine own_st (fun _ k => XS.iloadN X0.here hx rfl (hb hby own_d1_62) rfl k) ?_
              show own_Go p e below s _ _ _ (s₁.setTop (mkF m 63 #[.val (.int a1)] [(.int a1)]))
              refine own_st (fun _ k => X0.ldcInt hx hown (mvT hZ (hw _ (List.mem_of_getElem? (i := 25) rfl))) (g := (mkF m 63 #[.val (.int a1)] [(.int a1)])) rfl (hb hby own_d1_63) _ k) ?_
              show own_Go p e below s _ _ _ (s₁.setTop (mkF m 65 #[.val (.int a1)] [(.int (65535 : Int32)), (.int a1)]))
              rcases Classical.em (a1 = (65535 : Int32)) with cc9 | cc9
              · have icc9 : ((a1).toInt : Int) = 65535 := congrArg Int32.toInt cc9
                show own_Go p e below s _ _ _ (s₁.setTop (mkF m 65 #[.val (.int a1)] [(.int (65535 : Int32)), (.int a1)]))
                refine own_st (fun _ k => XS.icmpNo X0.here hx rfl (hb hby own_d1_65) rfl (teq cc9).2 k) ?_
                show own_Go p e below s _ _ _ (s₁.setTop (mkF m 68 #[.val (.int a1)] []))
                refine own_st (fun _ k => XS.iconst X0.here hx rfl (hb hby own_d1_68) k) ?_
                show own_Go p e below s _ _ _ (s₁.setTop (mkF m 69 #[.val (.int a1)] [(.int (0 : Int32))]))
                exact own_endN X0 hx hlk (t := .boolean) hret (by simp) (hb hby own_d1_69) (w := (0 : Int32)) (by decide) ⟨own_x0 (by omega), e0, rfl⟩ (by decide) (by decide)
              · have icc9 : ¬ (((a1).toInt : Int) = 65535) := fun u => cc9 (Int32.toInt_inj.mp u)
                show own_Go p e below s _ _ _ (s₁.setTop (mkF m 65 #[.val (.int a1)] [(.int (65535 : Int32)), (.int a1)]))
                refine own_st (fun _ k => XS.icmpYes X0.here hx rfl (pc0 := 65) (pc' := 70) rfl (hb hby own_d1_65) rfl (feq cc9).2 (by decide) (by decide) k) ?_
                show own_Go p e below s _ _ _ (s₁.setTop (mkF m 70 #[.val (.int a1)] []))
                refine own_st (fun _ k => XS.iconst X0.here hx rfl (hb hby own_d1_70) k) ?_
                show own_Go p e below s _ _ _ (s₁.setTop (mkF m 71 #[.val (.int a1)] [(.int (1 : Int32))]))
                exact own_endN X0 hx hlk (t := .boolean) hret (by simp) (hb hby own_d1_71) (w := (1 : Int32)) (by decide) ⟨own_x1 (by omega), e0, rfl⟩ (by decide) (by decide)
          · have icc7 : ¬ ((57343 : Int) < (a1).toInt) := fun u => cc7 (Int32.lt_iff_toInt_lt.mpr u)
            show own_Go p e below s _ _ _ (s₁.setTop (mkF m 51 #[.val (.int a1)] [(.int (57343 : Int32)), (.int a1)]))
            refine own_st (fun _ k => XS.icmpNo X0.here hx rfl (hb hby own_d1_51) rfl (flt cc7).2.2.1 k) ?_
            show own_Go p e below s _ _ _ (s₁.setTop (mkF m 54 #[.val (.int a1)] []))
            refine own_st (fun _ k => XS.iconst X0.here hx rfl (hb hby own_d1_54) k) ?_
            show own_Go p e below s _ _ _ (s₁.setTop (mkF m 55 #[.val (.int a1)] [(.int (0 : Int32))]))
            exact own_endN X0 hx hlk (t := .boolean) hret (by simp) (hb hby own_d1_55) (w := (0 : Int32)) (by decide) ⟨own_x0 (by omega), e0, rfl⟩ (by decide) (by decide)
theorem own_pd0 : parseMethodDescriptor "(I)Z" = some ⟨[.int], some .boolean⟩ := by decide +kernel
theorem own_pn2 : plainFor x = true := by first | exact plainFor_of_name (show plainName "com/example/libflwor/libflwor/xdm/XmlCharactersIsXmlCharPinLaw" = true by first | (simp [plainName, overriddenIn]; done) | decide +kernel) | decide +kernel
theorem own_ef2 (m : MethodId) (x0 : Int32) (x1 : Int32) (x2 : Int32) : entryFrame m #[(.int x0), (.int x1), (.int x2)] maxLocals = mkF m 0 #[.val (.int x0), .val (.int x1), .val (.int x2), .unset, .unset, .unset, .unset] [] := by first | (simp [entryFrame, mkF, argsToLocals, Value.category, maxLocals]; done) | rfl
set_option maxRecDepth 65536 in
set_option maxHeartbeats 40000000 in
theorem own_rm0 (l : Launch) (Z : State) (a0 : Array Value) (hw : ∀ d ∈ tables_1, d.before a0 Z = true) (raw sel off : Int32) (h0 : Heap) (n0 : Nat) (Z0 : n0 ≤ h0.size)  :
    own_Met l Z x code maxLocals ret room_1 #[(.int raw), (.int sel), (.int off)] h0 (fun v h' L => v = some (.int 1) ∧ Fr n0 L) := by
  refine own_in own_pn2 ?_
  intro p e s m below meth c s₁ hx hby hml hown hnm hlk hret hZ X0 e0
  have N0 := Fr.nil n0
  refine own_ef (own_ef2 m raw sel off) ?_
  show own_Go p e below s _ _ _ (s₁.setTop (mkF m 0 #[.val (.int raw), .val (.int sel), .val (.int off), .unset, .unset, .unset, .unset] []))
  refine own_st (fun _ k => XS.bipush X0.here hx rfl (hb hby at_0) k) ?_
  show own_Go p e below s _ _ _ (s₁.setTop (mkF m 2 #[.val (.int raw), .val (.int sel), .val (.int off), .unset, .unset, .unset, .unset] [(.int (16 : Int32))]))
  obtain ⟨T1, h1, ed, g1, X1, e1, E1, Ved, st1⟩ := own_newA X0 hx hZ (hw _ (List.mem_of_getElem? (i := 0) rfl)) e0 (g := (mkF m 2 #[.val (.int raw), .val (.int sel), .val (.int off), .unset, .unset, .unset, .unset] [(.int (16 : Int32))])) rfl (hb hby at_2) rfl (n := 16) (cap := 16) (by decide) (by decide) (by decide) (by decide) (by decide)
  replace Ved : own_Av Z h1 ed .int 16 (fun _ => .int 0) := Ved
  have fr_ed : n0 ≤ ed := Nat.le_trans Z0 (Nat.le_of_eq g1.symm)
  have sz1 := Nat.le_trans Z0 E1.1
  refine own_st st1 ?_
  show own_Go p e below s _ _ _ (T1.setTop (mkF m 4 #[.val (.int raw), .val (.int sel), .val (.int off), .unset, .unset, .unset, .unset] [(.ref ed)]))
  refine own_st (fun _ k => XS.dup X1.here hx rfl (hb hby at_4) rfl rfl k) ?_
  show own_Go p e below s _ _ _ (T1.setTop (mkF m 5 #[.val (.int raw), .val (.int sel), .val (.int off), .unset, .unset, .unset, .unset] [(.ref ed), (.ref ed)]))
  refine own_st (fun _ k => XS.iconst X1.here hx rfl (hb hby at_5) k) ?_
  show own_Go p e below s _ _ _ (T1.setTop (mkF m 6 #[.val (.int raw), .val (.int sel), .val (.int off), .unset, .unset, .unset, .unset] [(.int (0 : Int32)), (.ref ed), (.ref ed)]))
  refine own_st (fun _ k => XS.iconst X1.here hx rfl (hb hby at_6) k) ?_
  show own_Go p e below s _ _ _ (T1.setTop (mkF m 7 #[.val (.int raw), .val (.int sel), .val (.int off), .unset, .unset, .unset, .unset] [(.int (0 : Int32)), (.int (0 : Int32)), (.ref ed), (.ref ed)]))
  obtain ⟨T2, h2, X2, e2, W2, Ved_2, st2⟩ := own_stI X1 hx hZ e1 Ved (i := 0) (by decide) (by decide) (g := (mkF m 7 #[.val (.int raw), .val (.int sel), .val (.int off), .unset, .unset, .unset, .unset] [(.int (0 : Int32)), (.int (0 : Int32)), (.ref ed), (.ref ed)])) rfl rfl (hb hby at_7)
  have sz2 := Nat.le_trans sz1 (Keep.of_wr W2).1
  have N2 := Fr.snoc X2 N0 fr_ed
  refine own_st st2 ?_
  show own_Go p e below s _ _ _ (T2.setTop (mkF m 8 #[.val (.int raw), .val (.int sel), .val (.int off), .unset, .unset, .unset, .unset] [(.ref ed)]))
  refine own_st (fun _ k => XS.dup X2.here hx rfl (hb hby at_8) rfl rfl k) ?_
  show own_Go p e below s _ _ _ (T2.setTop (mkF m 9 #[.val (.int raw), .val (.int sel), .val (.int off), .unset, .unset, .unset, .unset] [(.ref ed), (.ref ed)]))
  refine own_st (fun _ k => XS.iconst X2.here hx rfl (hb hby at_9) k) ?_
  show own_Go p e below s _ _ _ (T2.setTop (mkF m 10 #[.val (.int raw), .val (.int sel), .val (.int off), .unset, .unset, .unset, .unset] [(.int (1 : Int32)), (.ref ed), (.ref ed)]))
  refine own_st (fun _ k => XS.bipush X2.here hx rfl (hb hby at_10) k) ?_
  show own_Go p e below s _ _ _ (T2.setTop (mkF m 12 #[.val (.int raw), .val (.int sel), .val (.int off), .unset, .unset, .unset, .unset] [(.int (9 : Int32)), (.int (1 : Int32)), (.ref ed), (.ref ed)]))
  obtain ⟨T3, h3, X3, e3, W3, Ved_3, st3⟩ := own_stI X2 hx hZ e2 Ved_2 (i := 1) (by decide) (by decide) (g := (mkF m 12 #[.val (.int raw), .val (.int sel), .val (.int off), .unset, .unset, .unset, .unset] [(.int (9 : Int32)), (.int (1 : Int32)), (.ref ed), (.ref ed)])) rfl rfl (hb hby at_12)
  have sz3 := Nat.le_trans sz2 (Keep.of_wr W3).1
  have N3 := Fr.snoc X3 N2 fr_ed
  refine own_st st3 ?_
  show own_Go p e below s _ _ _ (T3.setTop (mkF m 13 #[.val (.int raw), .val (.int sel), .val (.int off), .unset, .unset, .unset, .unset] [(.ref ed)]))
  refine own_st (fun _ k => XS.dup X3.here hx rfl (hb hby at_13) rfl rfl k) ?_
  show own_Go p e below s _ _ _ (T3.setTop (mkF m 14 #[.val (.int raw), .val (.int sel), .val (.int off), .unset, .unset, .unset, .unset] [(.ref ed), (.ref ed)]))
  refine own_st (fun _ k => XS.iconst X3.here hx rfl (hb hby at_14) k) ?_
  show own_Go p e below s _ _ _ (T3.setTop (mkF m 15 #[.val (.int raw), .val (.int sel), .val (.int off), .unset, .unset, .unset, .unset] [(.int (2 : Int32)), (.ref ed), (.ref ed)]))
  refine own_st (fun _ k => XS.bipush X3.here hx rfl (hb hby at_15) k) ?_
  show own_Go p e below s _ _ _ (T3.setTop (mkF m 17 #[.val (.int raw), .val (.int sel), .val (.int off), .unset, .unset, .unset, .unset] [(.int (10 : Int32)), (.int (2 : Int32)), (.ref ed), (.ref ed)]))
  obtain ⟨T4, h4, X4, e4, W4, Ved_4, st4⟩ := own_stI X3 hx hZ e3 Ved_3 (i := 2) (by decide) (by decide) (g := (mkF m 17 #[.val (.int raw), .val (.int sel), .val (.int off), .unset, .unset, .unset, .unset] [(.int (10 : Int32)), (.int (2 : Int32)), (.ref ed), (.ref ed)])) rfl rfl (hb hby at_17)
  have sz4 := Nat.le_trans sz3 (Keep.of_wr W4).1
  have N4 := Fr.snoc X4 N3 fr_ed
  refine own_st st4 ?_
  show own_Go p e below s _ _ _ (T4.setTop (mkF m 18 #[.val (.int raw), .val (.int sel), .val (.int off), .unset, .unset, .unset, .unset] [(.ref ed)]))
  refine own_st (fun _ k => XS.dup X4.here hx rfl (hb hby at_18) rfl rfl k) ?_
  show own_Go p e below s _ _ _ (T4.setTop (mkF m 19 #[.val (.int raw), .val (.int sel), .val (.int off), .unset, .unset, .unset, .unset] [(.ref ed), (.ref ed)]))
  refine own_st (fun _ k => XS.iconst X4.here hx rfl (hb hby at_19) k) ?_
  show own_Go p e below s _ _ _ (T4.setTop (mkF m 20 #[.val (.int raw), .val (.int sel), .val (.int off), .unset, .unset, .unset, .unset] [(.int (3 : Int32)), (.ref ed), (.ref ed)]))
  refine own_st (fun _ k => XS.bipush X4.here hx rfl (hb hby at_20) k) ?_
  show own_Go p e below s _ _ _ (T4.setTop (mkF m 22 #[.val (.int raw), .val (.int sel), .val (.int off), .unset, .unset, .unset, .unset] [(.int (13 : Int32)), (.int (3 : Int32)), (.ref ed), (.ref ed)]))
  obtain ⟨T5, h5, X5, e5, W5, Ved_5, st5⟩ := own_stI X4 hx hZ e4 Ved_4 (i := 3) (by decide) (by decide) (g := (mkF m 22 #[.val (.int raw), .val (.int sel), .val (.int off), .unset, .unset, .unset, .unset] [(.int (13 : Int32)), (.int (3 : Int32)), (.ref ed), (.ref ed)])) rfl rfl (hb hby at_22)
  have sz5 := Nat.le_trans sz4 (Keep.of_wr W5).1
  have N5 := Fr.snoc X5 N4 fr_ed
  refine own_st st5 ?_
  show own_Go p e below s _ _ _ (T5.setTop (mkF m 23 #[.val (.int raw), .val (.int sel), .val (.int off), .unset, .unset, .unset, .unset] [(.ref ed)]))
  refine own_st (fun _ k => XS.dup X5.here hx rfl (hb hby at_23) rfl rfl k) ?_
  show own_Go p e below s _ _ _ (T5.setTop (mkF m 24 #[.val (.int raw), .val (.int sel), .val (.int off), .unset, .unset, .unset, .unset] [(.ref ed), (.ref ed)]))
  refine own_st (fun _ k => XS.iconst X5.here hx rfl (hb hby at_24) k) ?_
  show own_Go p e below s _ _ _ (T5.setTop (mkF m 25 #[.val (.int raw), .val (.int sel), .val (.int off), .unset, .unset, .unset, .unset] [(.int (4 : Int32)), (.ref ed), (.ref ed)]))
  refine own_st (fun _ k => XS.bipush X5.here hx rfl (hb hby at_25) k) ?_
  show own_Go p e below s _ _ _ (T5.setTop (mkF m 27 #[.val (.int raw), .val (.int sel), .val (.int off), .unset, .unset, .unset, .unset] [(.int (32 : Int32)), (.int (4 : Int32)), (.ref ed), (.ref ed)]))
  obtain ⟨T6, h6, X6, e6, W6, Ved_6, st6⟩ := own_stI X5 hx hZ e5 Ved_5 (i := 4) (by decide) (by decide) (g := (mkF m 27 #[.val (.int raw), .val (.int sel), .val (.int off), .unset, .unset, .unset, .unset] [(.int (32 : Int32)), (.int (4 : Int32)), (.ref ed), (.ref ed)])) rfl rfl (hb hby at_27)
  have sz6 := Nat.le_trans sz5 (Keep.of_wr W6).1
  have N6 := Fr.snoc X6 N5 fr_ed
  refine own_st st6 ?_
  show own_Go p e below s _ _ _ (T6.setTop (mkF m 28 #[.val (.int raw), .val (.int sel), .val (.int off), .unset, .unset, .unset, .unset] [(.ref ed)]))
  refine own_st (fun _ k => XS.dup X6.here hx rfl (hb hby at_28) rfl rfl k) ?_
  show own_Go p e below s _ _ _ (T6.setTop (mkF m 29 #[.val (.int raw), .val (.int sel), .val (.int off), .unset, .unset, .unset, .unset] [(.ref ed), (.ref ed)]))
  refine own_st (fun _ k => XS.iconst X6.here hx rfl (hb hby at_29) k) ?_
  show own_Go p e below s _ _ _ (T6.setTop (mkF m 30 #[.val (.int raw), .val (.int sel), .val (.int off), .unset, .unset, .unset, .unset] [(.int (5 : Int32)), (.ref ed), (.ref ed)]))
  refine own_st (fun _ k => X6.ldcInt hx hown (mvT hZ (hw _ (List.mem_of_getElem? (i := 1) rfl))) (g := (mkF m 30 #[.val (.int raw), .val (.int sel), .val (.int off), .unset, .unset, .unset, .unset] [(.int (5 : Int32)), (.ref ed), (.ref ed)])) rfl (hb hby at_30) _ k) ?_
  show own_Go p e below s _ _ _ (T6.setTop (mkF m 32 #[.val (.int raw), .val (.int sel), .val (.int off), .unset, .unset, .unset, .unset] [(.int (55295 : Int32)), (.int (5 : Int32)), (.ref ed), (.ref ed)]))
  obtain ⟨T7, h7, X7, e7, W7, Ved_7, st7⟩ := own_stI X6 hx hZ e6 Ved_6 (i := 5) (by decide) (by decide) (g := (mkF m 32 #[.val (.int raw), .val (.int sel), .val (.int off), .unset, .unset, .unset, .unset] [(.int (55295 : Int32)), (.int (5 : Int32)), (.ref ed), (.ref ed)])) rfl rfl (hb hby at_32)
  have sz7 := Nat.le_trans sz6 (Keep.of_wr W7).1
  have N7 := Fr.snoc X7 N6 fr_ed
  refine own_st st7 ?_
  show own_Go p e below s _ _ _ (T7.setTop (mkF m 33 #[.val (.int raw), .val (.int sel), .val (.int off), .unset, .unset, .unset, .unset] [(.ref ed)]))
  refine own_st (fun _ k => XS.dup X7.here hx rfl (hb hby at_33) rfl rfl k) ?_
  show own_Go p e below s _ _ _ (T7.setTop (mkF m 34 #[.val (.int raw), .val (.int sel), .val (.int off), .unset, .unset, .unset, .unset] [(.ref ed), (.ref ed)]))
  refine own_st (fun _ k => XS.bipush X7.here hx rfl (hb hby at_34) k) ?_
  show own_Go p e below s _ _ _ (T7.setTop (mkF m 36 #[.val (.int raw), .val (.int sel), .val (.int off), .unset, .unset, .unset, .unset] [(.int (6 : Int32)), (.ref ed), (.ref ed)]))
  refine own_st (fun _ k => X7.ldcInt hx hown (mvT hZ (hw _ (List.mem_of_getElem? (i := 2) rfl))) (g := (mkF m 36 #[.val (.int raw), .val (.int sel), .val (.int off), .unset, .unset, .unset, .unset] [(.int (6 : Int32)), (.ref ed), (.ref ed)])) rfl (hb hby at_36) _ k) ?_
  show own_Go p e below s _ _ _ (T7.setTop (mkF m 38 #[.val (.int raw), .val (.int sel), .val (.int off), .unset, .unset, .unset, .unset] [(.int (55296 : Int32)), (.int (6 : Int32)), (.ref ed), (.ref ed)]))
  obtain ⟨T8, h8, X8, e8, W8, Ved_8, st8⟩ := own_stI X7 hx hZ e7 Ved_7 (i := 6) (by decide) (by decide) (g := (mkF m 38 #[.val (.int raw), .val (.int sel), .val (.int off), .unset, .unset, .unset, .unset] [(.int (55296 : Int32)), (.int (6 : Int32)), (.ref ed), (.ref ed)])) rfl rfl (hb hby at_38)
  have sz8 := Nat.le_trans sz7 (Keep.of_wr W8).1
  have N8 := Fr.snoc X8 N7 fr_ed
  refine own_st st8 ?_
  show own_Go p e below s _ _ _ (T8.setTop (mkF m 39 #[.val (.int raw), .val (.int sel), .val (.int off), .unset, .unset, .unset, .unset] [(.ref ed)]))
  refine own_st (fun _ k => XS.dup X8.here hx rfl (hb hby at_39) rfl rfl k) ?_
  show own_Go p e below s _ _ _ (T8.setTop (mkF m 40 #[.val (.int raw), .val (.int sel), .val (.int off), .unset, .unset, .unset, .unset] [(.ref ed), (.ref ed)]))
  refine own_st (fun _ k => XS.bipush X8.here hx rfl (hb hby at_40) k) ?_
  show own_Go p e below s _ _ _ (T8.setTop (mkF m 42 #[.val (.int raw), .val (.int sel), .val (.int off), .unset, .unset, .unset, .unset] [(.int (7 : Int32)), (.ref ed), (.ref ed)]))
  refine own_st (fun _ k => X8.ldcInt hx hown (mvT hZ (hw _ (List.mem_of_getElem? (i := 3) rfl))) (g := (mkF m 42 #[.val (.int raw), .val (.int sel), .val (.int off), .unset, .unset, .unset, .unset] [(.int (7 : Int32)), (.ref ed), (.ref ed)])) rfl (hb hby at_42) _ k) ?_
  show own_Go p e below s _ _ _ (T8.setTop (mkF m 44 #[.val (.int raw), .val (.int sel), .val (.int off), .unset, .unset, .unset, .unset] [(.int (57343 : Int32)), (.int (7 : Int32)), (.ref ed), (.ref ed)]))
  obtain ⟨T9, h9, X9, e9, W9, Ved_9, st9⟩ := own_stI X8 hx hZ e8 Ved_8 (i := 7) (by decide) (by decide) (g := (mkF m 44 #[.val (.int raw), .val (.int sel), .val (.int off), .unset, .unset, .unset, .unset] [(.int (57343 : Int32)), (.int (7 : Int32)), (.ref ed), (.ref ed)])) rfl rfl (hb hby at_44)
  have sz9 := Nat.le_trans sz8 (Keep.of_wr W9).1
  have N9 := Fr.snoc X9 N8 fr_ed
  refine own_st st9 ?_
  show own_Go p e below s _ _ _ (T9.setTop (mkF m 45 #[.val (.int raw), .val (.int sel), .val (.int off), .unset, .unset, .unset, .unset] [(.ref ed)]))
  refine own_st (fun _ k => XS.dup X9.here hx rfl (hb hby at_45) rfl rfl k) ?_
  show own_Go p e below s _ _ _ (T9.setTop (mkF m 46 #[.val (.int raw), .val (.int sel), .val (.int off), .unset, .unset, .unset, .unset] [(.ref ed), (.ref ed)]))
  refine own_st (fun _ k => XS.bipush X9.here hx rfl (hb hby at_46) k) ?_
  show own_Go p e below s _ _ _ (T9.setTop (mkF m 48 #[.val (.int raw), .val (.int sel), .val (.int off), .unset, .unset, .unset, .unset] [(.int (8 : Int32)), (.ref ed), (.ref ed)]))
  refine own_st (fun _ k => X9.ldcInt hx hown (mvT hZ (hw _ (List.mem_of_getElem? (i := 4) rfl))) (g := (mkF m 48 #[.val (.int raw), .val (.int sel), .val (.int off), .unset, .unset, .unset, .unset] [(.int (8 : Int32)), (.ref ed), (.ref ed)])) rfl (hb hby at_48) _ k) ?_
  show own_Go p e below s _ _ _ (T9.setTop (mkF m 50 #[.val (.int raw), .val (.int sel), .val (.int off), .unset, .unset, .unset, .unset] [(.int (57344 : Int32)), (.int (8 : Int32)), (.ref ed), (.ref ed)]))
  obtain ⟨T10, h10, X10, e10, W10, Ved_10, st10⟩ := own_stI X9 hx hZ e9 Ved_9 (i := 8) (by decide) (by decide) (g := (mkF m 50 #[.val (.int raw), .val (.int sel), .val (.int off), .unset, .unset, .unset, .unset] [(.int (57344 : Int32)), (.int (8 : Int32)), (.ref ed), (.ref ed)])) rfl rfl (hb hby at_50)
  have sz10 := Nat.le_trans sz9 (Keep.of_wr W10).1
  have N10 := Fr.snoc X10 N9 fr_ed
  refine own_st st10 ?_
  show own_Go p e below s _ _ _ (T10.setTop (mkF m 51 #[.val (.int raw), .val (.int sel), .val (.int off), .unset, .unset, .unset, .unset] [(.ref ed)]))
  refine own_st (fun _ k => XS.dup X10.here hx rfl (hb hby at_51) rfl rfl k) ?_
  show own_Go p e below s _ _ _ (T10.setTop (mkF m 52 #[.val (.int raw), .val (.int sel), .val (.int off), .unset, .unset, .unset, .unset] [(.ref ed), (.ref ed)]))
  refine own_st (fun _ k => XS.bipush X10.here hx rfl (hb hby at_52) k) ?_
  show own_Go p e below s _ _ _ (T10.setTop (mkF m 54 #[.val (.int raw), .val (.int sel), .val (.int off), .unset, .unset, .unset, .unset] [(.int (9 : Int32)), (.ref ed), (.ref ed)]))
  refine own_st (fun _ k => X10.ldcInt hx hown (mvT hZ (hw _ (List.mem_of_getElem? (i := 5) rfl))) (g := (mkF m 54 #[.val (.int raw), .val (.int sel), .val (.int off), .unset, .unset, .unset, .unset] [(.int (9 : Int32)), (.ref ed), (.ref ed)])) rfl (hb hby at_54) _ k) ?_
  show own_Go p e below s _ _ _ (T10.setTop (mkF m 56 #[.val (.int raw), .val (.int sel), .val (.int off), .unset, .unset, .unset, .unset] [(.int (65533 : Int32)), (.int (9 : Int32)), (.ref ed), (.ref ed)]))
  obtain ⟨T11, h11, X11, e11, W11, Ved_11, st11⟩ := own_stI X10 hx hZ e10 Ved_10 (i := 9) (by decide) (by decide) (g := (mkF m 56 #[.val (.int raw), .val (.int sel), .val (.int off), .unset, .unset, .unset, .unset] [(.int (65533 : Int32)), (.int (9 : Int32)), (.ref ed), (.ref ed)])) rfl rfl (hb hby at_56)
  have sz11 := Nat.le_trans sz10 (Keep.of_wr W11).1
  have N11 := Fr.snoc X11 N10 fr_ed
  refine own_st st11 ?_
  show own_Go p e below s _ _ _ (T11.setTop (mkF m 57 #[.val (.int raw), .val (.int sel), .val (.int off), .unset, .unset, .unset, .unset] [(.ref ed)]))
  refine own_st (fun _ k => XS.dup X11.here hx rfl (hb hby at_57) rfl rfl k) ?_
  show own_Go p e below s _ _ _ (T11.setTop (mkF m 58 #[.val (.int raw), .val (.int sel), .val (.int off), .unset, .unset, .unset, .unset] [(.ref ed), (.ref ed)]))
  refine own_st (fun _ k => XS.bipush X11.here hx rfl (hb hby at_58) k) ?_
  show own_Go p e below s _ _ _ (T11.setTop (mkF m 60 #[.val (.int raw), .val (.int sel), .val (.int off), .unset, .unset, .unset, .unset] [(.int (10 : Int32)), (.ref ed), (.ref ed)]))
  refine own_st (fun _ k => X11.ldcInt hx hown (mvT hZ (hw _ (List.mem_of_getElem? (i := 6) rfl))) (g := (mkF m 60 #[.val (.int raw), .val (.int sel), .val (.int off), .unset, .unset, .unset, .unset] [(.int (10 : Int32)), (.ref ed), (.ref ed)])) rfl (hb hby at_60) _ k) ?_
  show own_Go p e below s _ _ _ (T11.setTop (mkF m 62 #[.val (.int raw), .val (.int sel), .val (.int off), .unset, .unset, .unset, .unset] [(.int (65534 : Int32)), (.int (10 : Int32)), (.ref ed), (.ref ed)]))
  obtain ⟨T12, h12, X12, e12, W12, Ved_12, st12⟩ := own_stI X11 hx hZ e11 Ved_11 (i := 10) (by decide) (by decide) (g := (mkF m 62 #[.val (.int raw), .val (.int sel), .val (.int off), .unset, .unset, .unset, .unset] [(.int (65534 : Int32)), (.int (10 : Int32)), (.ref ed), (.ref ed)])) rfl rfl (hb hby at_62)
  have sz12 := Nat.le_trans sz11 (Keep.of_wr W12).1
  have N12 := Fr.snoc X12 N11 fr_ed
  refine own_st st12 ?_
  show own_Go p e below s _ _ _ (T12.setTop (mkF m 63 #[.val (.int raw), .val (.int sel), .val (.int off), .unset, .unset, .unset, .unset] [(.ref ed)]))
  refine own_st (fun _ k => XS.dup X12.here hx rfl (hb hby at_63) rfl rfl k) ?_
  show own_Go p e below s _ _ _ (T12.setTop (mkF m 64 #[.val (.int raw), .val (.int sel), .val (.int off), .unset, .unset, .unset, .unset] [(.ref ed), (.ref ed)]))
  refine own_st (fun _ k => XS.bipush X12.here hx rfl (hb hby at_64) k) ?_
  show own_Go p e below s _ _ _ (T12.setTop (mkF m 66 #[.val (.int raw), .val (.int sel), .val (.int off), .unset, .unset, .unset, .unset] [(.int (11 : Int32)), (.ref ed), (.ref ed)]))
  refine own_st (fun _ k => X12.ldcInt hx hown (mvT hZ (hw _ (List.mem_of_getElem? (i := 7) rfl))) (g := (mkF m 66 #[.val (.int raw), .val (.int sel), .val (.int off), .unset, .unset, .unset, .unset] [(.int (11 : Int32)), (.ref ed), (.ref ed)])) rfl (hb hby at_66) _ k) ?_
  show own_Go p e below s _ _ _ (T12.setTop (mkF m 68 #[.val (.int raw), .val (.int sel), .val (.int off), .unset, .unset, .unset, .unset] [(.int (65536 : Int32)), (.int (11 : Int32)), (.ref ed), (.ref ed)]))
  obtain ⟨T13, h13, X13, e13, W13, Ved_13, st13⟩ := own_stI X12 hx hZ e12 Ved_12 (i := 11) (by decide) (by decide) (g := (mkF m 68 #[.val (.int raw), .val (.int sel), .val (.int off), .unset, .unset, .unset, .unset] [(.int (65536 : Int32)), (.int (11 : Int32)), (.ref ed), (.ref ed)])) rfl rfl (hb hby at_68)
  have sz13 := Nat.le_trans sz12 (Keep.of_wr W13).1
  have N13 := Fr.snoc X13 N12 fr_ed
  refine own_st st13 ?_
  show own_Go p e below s _ _ _ (T13.setTop (mkF m 69 #[.val (.int raw), .val (.int sel), .val (.int off), .unset, .unset, .unset, .unset] [(.ref ed)]))
  refine own_st (fun _ k => XS.dup X13.here hx rfl (hb hby at_69) rfl rfl k) ?_
  show own_Go p e below s _ _ _ (T13.setTop (mkF m 70 #[.val (.int raw), .val (.int sel), .val (.int off), .unset, .unset, .unset, .unset] [(.ref ed), (.ref ed)]))
  refine own_st (fun _ k => XS.bipush X13.here hx rfl (hb hby at_70) k) ?_
  show own_Go p e below s _ _ _ (T13.setTop (mkF m 72 #[.val (.int raw), .val (.int sel), .val (.int off), .unset, .unset, .unset, .unset] [(.int (12 : Int32)), (.ref ed), (.ref ed)]))
  refine own_st (fun _ k => X13.ldcInt hx hown (mvT hZ (hw _ (List.mem_of_getElem? (i := 8) rfl))) (g := (mkF m 72 #[.val (.int raw), .val (.int sel), .val (.int off), .unset, .unset, .unset, .unset] [(.int (12 : Int32)), (.ref ed), (.ref ed)])) rfl (hb hby at_72) _ k) ?_
  show own_Go p e below s _ _ _ (T13.setTop (mkF m 74 #[.val (.int raw), .val (.int sel), .val (.int off), .unset, .unset, .unset, .unset] [(.int (1114111 : Int32)), (.int (12 : Int32)), (.ref ed), (.ref ed)]))
  obtain ⟨T14, h14, X14, e14, W14, Ved_14, st14⟩ := own_stI X13 hx hZ e13 Ved_13 (i := 12) (by decide) (by decide) (g := (mkF m 74 #[.val (.int raw), .val (.int sel), .val (.int off), .unset, .unset, .unset, .unset] [(.int (1114111 : Int32)), (.int (12 : Int32)), (.ref ed), (.ref ed)])) rfl rfl (hb hby at_74)
  have sz14 := Nat.le_trans sz13 (Keep.of_wr W14).1
  have N14 := Fr.snoc X14 N13 fr_ed
  refine own_st st14 ?_
  show own_Go p e below s _ _ _ (T14.setTop (mkF m 75 #[.val (.int raw), .val (.int sel), .val (.int off), .unset, .unset, .unset, .unset] [(.ref ed)]))
  refine own_st (fun _ k => XS.dup X14.here hx rfl (hb hby at_75) rfl rfl k) ?_
  show own_Go p e below s _ _ _ (T14.setTop (mkF m 76 #[.val (.int raw), .val (.int sel), .val (.int off), .unset, .unset, .unset, .unset] [(.ref ed), (.ref ed)]))
  refine own_st (fun _ k => XS.bipush X14.here hx rfl (hb hby at_76) k) ?_
  show own_Go p e below s _ _ _ (T14.setTop (mkF m 78 #[.val (.int raw), .val (.int sel), .val (.int off), .unset, .unset, .unset, .unset] [(.int (13 : Int32)), (.ref ed), (.ref ed)]))
  refine own_st (fun _ k => X14.ldcInt hx hown (mvT hZ (hw _ (List.mem_of_getElem? (i := 9) rfl))) (g := (mkF m 78 #[.val (.int raw), .val (.int sel), .val (.int off), .unset, .unset, .unset, .unset] [(.int (13 : Int32)), (.ref ed), (.ref ed)])) rfl (hb hby at_78) _ k) ?_
  show own_Go p e below s _ _ _ (T14.setTop (mkF m 80 #[.val (.int raw), .val (.int sel), .val (.int off), .unset, .unset, .unset, .unset] [(.int (1114112 : Int32)), (.int (13 : Int32)), (.ref ed), (.ref ed)]))
  obtain ⟨T15, h15, X15, e15, W15, Ved_15, st15⟩ := own_stI X14 hx hZ e14 Ved_14 (i := 13) (by decide) (by decide) (g := (mkF m 80 #[.val (.int raw), .val (.int sel), .val (.int off), .unset, .unset, .unset, .unset] [(.int (1114112 : Int32)), (.int (13 : Int32)), (.ref ed), (.ref ed)])) rfl rfl (hb hby at_80)
  have sz15 := Nat.le_trans sz14 (Keep.of_wr W15).1
  have N15 := Fr.snoc X15 N14 fr_ed
  refine own_st st15 ?_
  show own_Go p e below s _ _ _ (T15.setTop (mkF m 81 #[.val (.int raw), .val (.int sel), .val (.int off), .unset, .unset, .unset, .unset] [(.ref ed)]))
  refine own_st (fun _ k => XS.dup X15.here hx rfl (hb hby at_81) rfl rfl k) ?_
  show own_Go p e below s _ _ _ (T15.setTop (mkF m 82 #[.val (.int raw), .val (.int sel), .val (.int off), .unset, .unset, .unset, .unset] [(.ref ed), (.ref ed)]))
  refine own_st (fun _ k => XS.bipush X15.here hx rfl (hb hby at_82) k) ?_
  show own_Go p e below s _ _ _ (T15.setTop (mkF m 84 #[.val (.int raw), .val (.int sel), .val (.int off), .unset, .unset, .unset, .unset] [(.int (14 : Int32)), (.ref ed), (.ref ed)]))
  refine own_st (fun _ k => X15.ldcInt hx hown (mvT hZ (hw _ (List.mem_of_getElem? (i := 10) rfl))) (g := (mkF m 84 #[.val (.int raw), .val (.int sel), .val (.int off), .unset, .unset, .unset, .unset] [(.int (14 : Int32)), (.ref ed), (.ref ed)])) rfl (hb hby at_84) _ k) ?_
  show own_Go p e below s _ _ _ (T15.setTop (mkF m 86 #[.val (.int raw), .val (.int sel), .val (.int off), .unset, .unset, .unset, .unset] [(.int (-2147483648 : Int32)), (.int (14 : Int32)), (.ref ed), (.ref ed)]))
  obtain ⟨T16, h16, X16, e16, W16, Ved_16, st16⟩ := own_stI X15 hx hZ e15 Ved_15 (i := 14) (by decide) (by decide) (g := (mkF m 86 #[.val (.int raw), .val (.int sel), .val (.int off), .unset, .unset, .unset, .unset] [(.int (-2147483648 : Int32)), (.int (14 : Int32)), (.ref ed), (.ref ed)])) rfl rfl (hb hby at_86)
  have sz16 := Nat.le_trans sz15 (Keep.of_wr W16).1
  have N16 := Fr.snoc X16 N15 fr_ed
  refine own_st st16 ?_
  show own_Go p e below s _ _ _ (T16.setTop (mkF m 87 #[.val (.int raw), .val (.int sel), .val (.int off), .unset, .unset, .unset, .unset] [(.ref ed)]))
  refine own_st (fun _ k => XS.dup X16.here hx rfl (hb hby at_87) rfl rfl k) ?_
  show own_Go p e below s _ _ _ (T16.setTop (mkF m 88 #[.val (.int raw), .val (.int sel), .val (.int off), .unset, .unset, .unset, .unset] [(.ref ed), (.ref ed)]))
  refine own_st (fun _ k => XS.bipush X16.here hx rfl (hb hby at_88) k) ?_
  show own_Go p e below s _ _ _ (T16.setTop (mkF m 90 #[.val (.int raw), .val (.int sel), .val (.int off), .unset, .unset, .unset, .unset] [(.int (15 : Int32)), (.ref ed), (.ref ed)]))
  refine own_st (fun _ k => X16.ldcInt hx hown (mvT hZ (hw _ (List.mem_of_getElem? (i := 11) rfl))) (g := (mkF m 90 #[.val (.int raw), .val (.int sel), .val (.int off), .unset, .unset, .unset, .unset] [(.int (15 : Int32)), (.ref ed), (.ref ed)])) rfl (hb hby at_90) _ k) ?_
  show own_Go p e below s _ _ _ (T16.setTop (mkF m 92 #[.val (.int raw), .val (.int sel), .val (.int off), .unset, .unset, .unset, .unset] [(.int (2147483647 : Int32)), (.int (15 : Int32)), (.ref ed), (.ref ed)]))
  obtain ⟨T17, h17, X17, e17, W17, Ved_17, st17⟩ := own_stI X16 hx hZ e16 Ved_16 (i := 15) (by decide) (by decide) (g := (mkF m 92 #[.val (.int raw), .val (.int sel), .val (.int off), .unset, .unset, .unset, .unset] [(.int (2147483647 : Int32)), (.int (15 : Int32)), (.ref ed), (.ref ed)])) rfl rfl (hb hby at_92)
  have sz17 := Nat.le_trans sz16 (Keep.of_wr W17).1
  have N17 := Fr.snoc X17 N16 fr_ed
  refine own_st st17 ?_
  show own_Go p e below s _ _ _ (T17.setTop (mkF m 93 #[.val (.int raw), .val (.int sel), .val (.int off), .unset, .unset, .unset, .unset] [(.ref ed)]))
  refine own_st (fun _ k => XS.astoreN X17.here hx rfl (hb hby at_93) rfl rfl (l' := #[.val (.int raw), .val (.int sel), .val (.int off), .val (.ref ed), .unset, .unset, .unset]) rfl k) ?_
  show own_Go p e below s _ _ _ (T17.setTop (mkF m 94 #[.val (.int raw), .val (.int sel), .val (.int off), .val (.ref ed), .unset, .unset, .unset] []))
  refine own_st (fun _ k => XS.aloadN X17.here hx rfl (hb hby at_94) rfl rfl k) ?_
  show own_Go p e below s _ _ _ (T17.setTop (mkF m 95 #[.val (.int raw), .val (.int sel), .val (.int off), .val (.ref ed), .unset, .unset, .unset] [(.ref ed)]))
  refine own_st (fun _ k => XS.iloadN X17.here hx rfl (hb hby at_95) rfl k) ?_
  show own_Go p e below s _ _ _ (T17.setTop (mkF m 96 #[.val (.int raw), .val (.int sel), .val (.int off), .val (.ref ed), .unset, .unset, .unset] [(.int sel), (.ref ed)]))
  refine own_st (fun _ k => XS.bipush X17.here hx rfl (hb hby at_96) k) ?_
  show own_Go p e below s _ _ _ (T17.setTop (mkF m 98 #[.val (.int raw), .val (.int sel), .val (.int off), .val (.ref ed), .unset, .unset, .unset] [(.int (15 : Int32)), (.int sel), (.ref ed)]))
  refine own_st (fun _ k => XS.iand X17.here hx rfl (hb hby at_98) rfl k) ?_
  show own_Go p e below s _ _ _ (T17.setTop (mkF m 99 #[.val (.int raw), .val (.int sel), .val (.int off), .val (.ref ed), .unset, .unset, .unset] [(.int (sel &&& (15 : Int32))), (.ref ed)]))
  obtain ⟨ix, hix, hlt⟩ := own_m15 sel
  obtain ⟨fv, Ved_17⟩ : ∃ f : Nat → Int32, own_Av Z h17 ed .int 16 (fun t => .int (f t)) := ⟨_, Ved_17⟩
  refine own_st (own_ldI X17 hx hZ e17 Ved_17 (i := ix) hix hlt (v := (.int (fv ix))) rfl (g := (mkF m 99 #[.val (.int raw), .val (.int sel), .val (.int off), .val (.ref ed), .unset, .unset, .unset] [(.int (sel &&& (15 : Int32))), (.ref ed)])) rfl rfl (hb hby at_99)) ?_
  show own_Go p e below s _ _ _ (T17.setTop (mkF m 100 #[.val (.int raw), .val (.int sel), .val (.int off), .val (.ref ed), .unset, .unset, .unset] [(.int (fv ix))]))
  refine own_st (fun _ k => XS.iloadN X17.here hx rfl (hb hby at_100) rfl k) ?_
  show own_Go p e below s _ _ _ (T17.setTop (mkF m 101 #[.val (.int raw), .val (.int sel), .val (.int off), .val (.ref ed), .unset, .unset, .unset] [(.int off), (.int (fv ix))]))
  refine own_st (fun _ k => XS.bipush X17.here hx rfl (hb hby at_101) k) ?_
  show own_Go p e below s _ _ _ (T17.setTop (mkF m 103 #[.val (.int raw), .val (.int sel), .val (.int off), .val (.ref ed), .unset, .unset, .unset] [(.int (7 : Int32)), (.int off), (.int (fv ix))]))
  refine own_st (fun _ k => XS.iand X17.here hx rfl (hb hby at_103) rfl k) ?_
  show own_Go p e below s _ _ _ (T17.setTop (mkF m 104 #[.val (.int raw), .val (.int sel), .val (.int off), .val (.ref ed), .unset, .unset, .unset] [(.int (off &&& (7 : Int32))), (.int (fv ix))]))
  refine own_st (fun _ k => XS.iconst X17.here hx rfl (hb hby at_104) k) ?_
  show own_Go p e below s _ _ _ (T17.setTop (mkF m 105 #[.val (.int raw), .val (.int sel), .val (.int off), .val (.ref ed), .unset, .unset, .unset] [(.int (4 : Int32)), (.int (off &&& (7 : Int32))), (.int (fv ix))]))
  refine own_st (fun _ k => XS.isub X17.here hx rfl (hb hby at_105) rfl k) ?_
  show own_Go p e below s _ _ _ (T17.setTop (mkF m 106 #[.val (.int raw), .val (.int sel), .val (.int off), .val (.ref ed), .unset, .unset, .unset] [(.int ((off &&& (7 : Int32)) - (4 : Int32))), (.int (fv ix))]))
  refine own_st (fun _ k => XS.iadd X17.here hx rfl (hb hby at_106) rfl k) ?_
  show own_Go p e below s _ _ _ (T17.setTop (mkF m 107 #[.val (.int raw), .val (.int sel), .val (.int off), .val (.ref ed), .unset, .unset, .unset] [(.int ((fv ix) + ((off &&& (7 : Int32)) - (4 : Int32))))]))
  refine own_st (fun _ k => XS.istore X17.here hx rfl (hb hby at_107) rfl (l' := #[.val (.int raw), .val (.int sel), .val (.int off), .val (.ref ed), .val (.int ((fv ix) + ((off &&& (7 : Int32)) - (4 : Int32)))), .unset, .unset]) rfl k) ?_
  show own_Go p e below s _ _ _ (T17.setTop (mkF m 109 #[.val (.int raw), .val (.int sel), .val (.int off), .val (.ref ed), .val (.int ((fv ix) + ((off &&& (7 : Int32)) - (4 : Int32)))), .unset, .unset] []))
  refine own_st (fun _ k => XS.iloadN X17.here hx rfl (hb hby at_109) rfl k) ?_
  show own_Go p e below s _ _ _ (T17.setTop (mkF m 110 #[.val (.int raw), .val (.int sel), .val (.int off), .val (.ref ed), .val (.int ((fv ix) + ((off &&& (7 : Int32)) - (4 : Int32)))), .unset, .unset] [(.int raw)]))
  refine own_cS X17 hx hml hZ hown (hw _ (List.mem_of_getElem? (i := 12) rfl)) (hw _ (List.mem_of_getElem? (i := 13) rfl)) (hw _ (List.mem_of_getElem? (i := 14) rfl)) (hw _ (List.mem_of_getElem? (i := 15) rfl)) (by decide) (own_rm1 l Z a0 hw raw h17 n0 sz17) e17 (by decide) (W := 0) (by decide) (g := (mkF m 110 #[.val (.int raw), .val (.int sel), .val (.int off), .val (.ref ed), .val (.int ((fv ix) + ((off &&& (7 : Int32)) - (4 : Int32)))), .unset, .unset] [(.int raw)])) rfl rfl own_pd0 (argsL := [(.int raw)]) (rest := []) rfl rfl rfl (by show 2 * 0 + _ ≤ _; exact Nat.le_of_eq rfl) (hb hby at_110) (by decide) (by decide) ?_
  intro T18 L18 v18 X18 hQ18
  obtain ⟨rfl, eh18, le18⟩ := hQ18
  have N18 := own_nil N17 le18
  show own_Go p e below s _ _ _ (T18.setTop (mkF m 113 #[.val (.int raw), .val (.int sel), .val (.int off), .val (.ref ed), .val (.int ((fv ix) + ((off &&& (7 : Int32)) - (4 : Int32)))), .unset, .unset] [(.int (own_xc (raw).toInt))]))
  refine own_st (fun _ k => XS.iloadN X18.here hx rfl (hb hby at_113) rfl k) ?_
  show own_Go p e below s _ _ _ (T18.setTop (mkF m 114 #[.val (.int raw), .val (.int sel), .val (.int off), .val (.ref ed), .val (.int ((fv ix) + ((off &&& (7 : Int32)) - (4 : Int32)))), .unset, .unset] [(.int raw), (.int (own_xc (raw).toInt))]))
  refine own_cS X18 hx hml hZ hown (hw _ (List.mem_of_getElem? (i := 18) rfl)) (hw _ (List.mem_of_getElem? (i := 19) rfl)) (hw _ (List.mem_of_getElem? (i := 20) rfl)) (hw _ (List.mem_of_getElem? (i := 21) rfl)) (by decide) (own_rm2 l Z a0 hw raw h17 n0 sz17) eh18 (by decide) (W := 1) (by decide) (g := (mkF m 114 #[.val (.int raw), .val (.int sel), .val (.int off), .val (.ref ed), .val (.int ((fv ix) + ((off &&& (7 : Int32)) - (4 : Int32)))), .unset, .unset] [(.int raw), (.int (own_xc (raw).toInt))])) rfl rfl own_pd0 (argsL := [(.int raw)]) (rest := [(.int (own_xc (raw).toInt))]) rfl rfl rfl (by show 2 * 0 + _ ≤ _; exact Nat.le_of_eq rfl) (hb hby at_114) (by decide) (by decide) ?_
  intro T19 L19 v19 X19 hQ19
  obtain ⟨rfl, eh19, le19⟩ := hQ19
  have N19 := own_nil N18 le19
  show own_Go p e below s _ _ _ (T19.setTop (mkF m 117 #[.val (.int raw), .val (.int sel), .val (.int off), .val (.ref ed), .val (.int ((fv ix) + ((off &&& (7 : Int32)) - (4 : Int32)))), .unset, .unset] [(.int (own_xc (raw).toInt)), (.int (own_xc (raw).toInt))]))
  refine own_st (fun _ k => XS.icmpNo X19.here hx rfl (hb hby at_117) rfl (teq rfl).2 k) ?_
  show own_Go p e below s _ _ _ (T19.setTop (mkF m 120 #[.val (.int raw), .val (.int sel), .val (.int off), .val (.ref ed), .val (.int ((fv ix) + ((off &&& (7 : Int32)) - (4 : Int32)))), .unset, .unset] []))
  refine own_st (fun _ k => XS.iconst X19.here hx rfl (hb hby at_120) k) ?_
  show own_Go p e below s _ _ _ (T19.setTop (mkF m 121 #[.val (.int raw), .val (.int sel), .val (.int off), .val (.ref ed), .val (.int ((fv ix) + ((off &&& (7 : Int32)) - (4 : Int32)))), .unset, .unset] [(.int (1 : Int32))]))
  refine own_st (fun _ k => XS.goto X19.here hx rfl (pc0 := 121) (pc' := 125) rfl (hb hby at_121) (by decide) (by decide) k) ?_
  show own_Go p e below s _ _ _ (T19.setTop (mkF m 125 #[.val (.int raw), .val (.int sel), .val (.int off), .val (.ref ed), .val (.int ((fv ix) + ((off &&& (7 : Int32)) - (4 : Int32)))), .unset, .unset] [(.int (1 : Int32))]))
  refine own_st (fun _ k => XS.istore X19.here hx rfl (hb hby at_125) rfl (l' := #[.val (.int raw), .val (.int sel), .val (.int off), .val (.ref ed), .val (.int ((fv ix) + ((off &&& (7 : Int32)) - (4 : Int32)))), .val (.int (1 : Int32)), .unset]) rfl k) ?_
  show own_Go p e below s _ _ _ (T19.setTop (mkF m 127 #[.val (.int raw), .val (.int sel), .val (.int off), .val (.ref ed), .val (.int ((fv ix) + ((off &&& (7 : Int32)) - (4 : Int32)))), .val (.int (1 : Int32)), .unset] []))
  refine own_st (fun _ k => XS.iload X19.here hx rfl (hb hby at_127) rfl k) ?_
  show own_Go p e below s _ _ _ (T19.setTop (mkF m 129 #[.val (.int raw), .val (.int sel), .val (.int off), .val (.ref ed), .val (.int ((fv ix) + ((off &&& (7 : Int32)) - (4 : Int32)))), .val (.int (1 : Int32)), .unset] [(.int ((fv ix) + ((off &&& (7 : Int32)) - (4 : Int32))))]))
  refine own_cS X19 hx hml hZ hown (hw _ (List.mem_of_getElem? (i := 12) rfl)) (hw _ (List.mem_of_getElem? (i := 13) rfl)) (hw _ (List.mem_of_getElem? (i := 14) rfl)) (hw _ (List.mem_of_getElem? (i := 15) rfl)) (by decide) (own_rm1 l Z a0 hw ((fv ix) + ((off &&& (7 : Int32)) - (4 : Int32))) h17 n0 sz17) eh19 (by decide) (W := 0) (by decide) (g := (mkF m 129 #[.val (.int raw), .val (.int sel), .val (.int off), .val (.ref ed), .val (.int ((fv ix) + ((off &&& (7 : Int32)) - (4 : Int32)))), .val (.int (1 : Int32)), .unset] [(.int ((fv ix) + ((off &&& (7 : Int32)) - (4 : Int32))))])) rfl rfl own_pd0 (argsL := [(.int ((fv ix) + ((off &&& (7 : Int32)) - (4 : Int32))))]) (rest := []) rfl rfl rfl (by show 2 * 0 + _ ≤ _; exact Nat.le_of_eq rfl) (hb hby at_129) (by decide) (by decide) ?_
  intro T20 L20 v20 X20 hQ20
  obtain ⟨rfl, eh20, le20⟩ := hQ20
  have N20 := own_nil N19 le20
  show own_Go p e below s _ _ _ (T20.setTop (mkF m 132 #[.val (.int raw), .val (.int sel), .val (.int off), .val (.ref ed), .val (.int ((fv ix) + ((off &&& (7 : Int32)) - (4 : Int32)))), .val (.int (1 : Int32)), .unset] [(.int (own_xc (((fv ix) + ((off &&& (7 : Int32)) - (4 : Int32)))).toInt))]))
  refine own_st (fun _ k => XS.iload X20.here hx rfl (hb hby at_132) rfl k) ?_
  show own_Go p e below s _ _ _ (T20.setTop (mkF m 134 #[.val (.int raw), .val (.int sel), .val (.int off), .val (.ref ed), .val (.int ((fv ix) + ((off &&& (7 : Int32)) - (4 : Int32)))), .val (.int (1 : Int32)), .unset] [(.int ((fv ix) + ((off &&& (7 : Int32)) - (4 : Int32)))), (.int (own_xc (((fv ix) + ((off &&& (7 : Int32)) - (4 : Int32)))).toInt))]))
  refine own_cS X20 hx hml hZ hown (hw _ (List.mem_of_getElem? (i := 18) rfl)) (hw _ (List.mem_of_getElem? (i := 19) rfl)) (hw _ (List.mem_of_getElem? (i := 20) rfl)) (hw _ (List.mem_of_getElem? (i := 21) rfl)) (by decide) (own_rm2 l Z a0 hw ((fv ix) + ((off &&& (7 : Int32)) - (4 : Int32))) h17 n0 sz17) eh20 (by decide) (W := 1) (by decide) (g := (mkF m 134 #[.val (.int raw), .val (.int sel), .val (.int off), .val (.ref ed), .val (.int ((fv ix) + ((off &&& (7 : Int32)) - (4 : Int32)))), .val (.int (1 : Int32)), .unset] [(.int ((fv ix) + ((off &&& (7 : Int32)) - (4 : Int32)))), (.int (own_xc (((fv ix) + ((off &&& (7 : Int32)) - (4 : Int32)))).toInt))])) rfl rfl own_pd0 (argsL := [(.int ((fv ix) + ((off &&& (7 : Int32)) - (4 : Int32))))]) (rest := [(.int (own_xc (((fv ix) + ((off &&& (7 : Int32)) - (4 : Int32)))).toInt))]) rfl rfl rfl (by show 2 * 0 + _ ≤ _; exact Nat.le_of_eq rfl) (hb hby at_134) (by decide) (by decide) ?_
  intro T21 L21 v21 X21 hQ21
  obtain ⟨rfl, eh21, le21⟩ := hQ21
  have N21 := own_nil N20 le21
  show own_Go p e below s _ _ _ (T21.setTop (mkF m 137 #[.val (.int raw), .val (.int sel), .val (.int off), .val (.ref ed), .val (.int ((fv ix) + ((off &&& (7 : Int32)) - (4 : Int32)))), .val (.int (1 : Int32)), .unset] [(.int (own_xc (((fv ix) + ((off &&& (7 : Int32)) - (4 : Int32)))).toInt)), (.int (own_xc (((fv ix) + ((off &&& (7 : Int32)) - (4 : Int32)))).toInt))]))
  refine own_st (fun _ k => XS.icmpNo X21.here hx rfl (hb hby at_137) rfl (teq rfl).2 k) ?_
  show own_Go p e below s _ _ _ (T21.setTop (mkF m 140 #[.val (.int raw), .val (.int sel), .val (.int off), .val (.ref ed), .val (.int ((fv ix) + ((off &&& (7 : Int32)) - (4 : Int32)))), .val (.int (1 : Int32)), .unset] []))
  refine own_st (fun _ k => XS.iconst X21.here hx rfl (hb hby at_140) k) ?_
  show own_Go p e below s _ _ _ (T21.setTop (mkF m 141 #[.val (.int raw), .val (.int sel), .val (.int off), .val (.ref ed), .val (.int ((fv ix) + ((off &&& (7 : Int32)) - (4 : Int32)))), .val (.int (1 : Int32)), .unset] [(.int (1 : Int32))]))
  refine own_st (fun _ k => XS.goto X21.here hx rfl (pc0 := 141) (pc' := 145) rfl (hb hby at_141) (by decide) (by decide) k) ?_
  show own_Go p e below s _ _ _ (T21.setTop (mkF m 145 #[.val (.int raw), .val (.int sel), .val (.int off), .val (.ref ed), .val (.int ((fv ix) + ((off &&& (7 : Int32)) - (4 : Int32)))), .val (.int (1 : Int32)), .unset] [(.int (1 : Int32))]))
  refine own_st (fun _ k => XS.istore X21.here hx rfl (hb hby at_145) rfl (l' := #[.val (.int raw), .val (.int sel), .val (.int off), .val (.ref ed), .val (.int ((fv ix) + ((off &&& (7 : Int32)) - (4 : Int32)))), .val (.int (1 : Int32)), .val (.int (1 : Int32))]) rfl k) ?_
  show own_Go p e below s _ _ _ (T21.setTop (mkF m 147 #[.val (.int raw), .val (.int sel), .val (.int off), .val (.ref ed), .val (.int ((fv ix) + ((off &&& (7 : Int32)) - (4 : Int32)))), .val (.int (1 : Int32)), .val (.int (1 : Int32))] []))
  refine own_st (fun _ k => XS.iload X21.here hx rfl (hb hby at_147) rfl k) ?_
  show own_Go p e below s _ _ _ (T21.setTop (mkF m 149 #[.val (.int raw), .val (.int sel), .val (.int off), .val (.ref ed), .val (.int ((fv ix) + ((off &&& (7 : Int32)) - (4 : Int32)))), .val (.int (1 : Int32)), .val (.int (1 : Int32))] [(.int (1 : Int32))]))
  refine own_st (fun _ k => XS.ifNo X21.here hx rfl (hb hby at_149) rfl (by decide) k) ?_
  show own_Go p e below s _ _ _ (T21.setTop (mkF m 152 #[.val (.int raw), .val (.int sel), .val (.int off), .val (.ref ed), .val (.int ((fv ix) + ((off &&& (7 : Int32)) - (4 : Int32)))), .val (.int (1 : Int32)), .val (.int (1 : Int32))] []))
  refine own_st (fun _ k => XS.iload X21.here hx rfl (hb hby at_152) rfl k) ?_
  show own_Go p e below s _ _ _ (T21.setTop (mkF m 154 #[.val (.int raw), .val (.int sel), .val (.int off), .val (.ref ed), .val (.int ((fv ix) + ((off &&& (7 : Int32)) - (4 : Int32)))), .val (.int (1 : Int32)), .val (.int (1 : Int32))] [(.int (1 : Int32))]))
  refine own_st (fun _ k => XS.ifNo X21.here hx rfl (hb hby at_154) rfl (by decide) k) ?_
  show own_Go p e below s _ _ _ (T21.setTop (mkF m 157 #[.val (.int raw), .val (.int sel), .val (.int off), .val (.ref ed), .val (.int ((fv ix) + ((off &&& (7 : Int32)) - (4 : Int32)))), .val (.int (1 : Int32)), .val (.int (1 : Int32))] []))
  refine own_st (fun _ k => XS.iconst X21.here hx rfl (hb hby at_157) k) ?_
  show own_Go p e below s _ _ _ (T21.setTop (mkF m 158 #[.val (.int raw), .val (.int sel), .val (.int off), .val (.ref ed), .val (.int ((fv ix) + ((off &&& (7 : Int32)) - (4 : Int32)))), .val (.int (1 : Int32)), .val (.int (1 : Int32))] [(.int (1 : Int32))]))
  refine own_st (fun _ k => XS.goto X21.here hx rfl (pc0 := 158) (pc' := 162) rfl (hb hby at_158) (by decide) (by decide) k) ?_
  show own_Go p e below s _ _ _ (T21.setTop (mkF m 162 #[.val (.int raw), .val (.int sel), .val (.int off), .val (.ref ed), .val (.int ((fv ix) + ((off &&& (7 : Int32)) - (4 : Int32)))), .val (.int (1 : Int32)), .val (.int (1 : Int32))] [(.int (1 : Int32))]))
  exact own_endN X21 hx hlk (t := .boolean) hret (by simp) (hb hby at_162) (w := (1 : Int32)) (by decide) ⟨rfl, N21⟩ (by decide) (by decide)
set_option maxRecDepth 65536 in
set_option maxHeartbeats 40000000 in
theorem own_comes {Post : Tables → Env → Array Value → State → Outcome → State → Prop} (hpost : ∀ tb e args s v u, (limb_1_1.after args s (.returned v) u = true ∧ limb_1_2.after args s (.returned v) u = true ∧ True) → FrameEnd s (.returned v) u (Jvm.fieldLocs frame_1_writes args s ++ Jvm.arrayLocs frame_1_arrays args s ++ Jvm.staticLocs frame_1_statics s) 16 128 → Post tb e args s (.returned v) u) :
    ArmFor flags0 classFile x code maxLocals ret World_1 tables_1 room_1 Calls_1 rest_1 Pre_1 Post := by
  intro l hfl _ _ p e ha hc hk s m args below hf hA hF happ hP
  obtain ⟨hcalls, hrest, hpre⟩ := hP
  obtain ⟨-, -, -, hnamed, -, -, -, hat⟩ := (Spec.applies_iff hf).mp happ
  obtain ⟨hg, hn⟩ := and_e (Cond.before_iff.mp (show (Jvm.Cond.and given_1 narrow_1).before args s = true from hpre))
  obtain ⟨gc, r0⟩ := and_e hg
  obtain ⟨k0, r1⟩ := and_e r0
  obtain ⟨k1, r2⟩ := and_e r1
  obtain ⟨w0, w1, w2, rfl⟩ : ∃ w0 w1 w2 : Value, args = #[w0, w1, w2] := by
    have hs : args.size = 3 := by simpa [Cond.value, given_1] using gc
    obtain ⟨L⟩ := args
    match L, hs with
    | [w0, w1, w2], _ => exact ⟨w0, w1, w2, rfl⟩
  have hw := fun d (hd : d ∈ tables_1) => atoms_spec (ws := Jvm.Cond.code x code maxLocals ret :: tables_1) hat d (List.mem_cons_of_mem _ hd)
  obtain ⟨i0, ei0⟩ := is_v k0
  obtain rfl : w0 = (.int i0) := Option.some.inj ei0
  obtain ⟨i1, ei1⟩ := is_v k1
  obtain rfl : w1 = (.int i1) := Option.some.inj ei1
  obtain ⟨i2, ei2⟩ := is_v r2
  obtain rfl : w2 = (.int i2) := Option.some.inj ei2
  obtain ⟨n, o, h1, h2, h3, _, L, rfl, ⟨rfl, N⟩, hq⟩ := own_rm0 l s _ hw i0 i1 i2 s.heap s.heap.size (Nat.le_refl _)  tables_1 p e ha hc hk s m _ below hf ((Spec.applies_iff_loose hf).mp happ).1 ⟨rfl, State.Warmed39.refl s, rfl⟩ trivial
  refine ⟨n, _, h1, h2, h3, hpost _ _ _ _ _ _ ⟨Cond.after_iff.mpr rfl, Cond.after_iff.mpr (eq_i res_at (Term.int_eval (1)) rfl), trivial⟩ ⟨hq.1, hq.2.1, (hq.2.2.sift fun y hy => Or.inr (N y hy)).mono (by decide) (by decide)⟩⟩
theorem main_1_1 : Claimed_1_1 := own_comes fun _ _ _ _ _ _ h hF => ⟨h.1, hF⟩
theorem main_1_2 : Claimed_1_2 := own_comes fun _ _ _ _ _ _ h hF => ⟨h.2.1, hF⟩
end Jvm.Pilot.@@N@@
namespace Jvm.Pilot.@@N@@
open Jvm Jvm.ClassFile Sem Op Lib Jvm.Free Jvm.Stand Jvm.Pilot.@@N@@.Jvm.D
/-! MADE BY PROGRAM (witnessworld.py) out of the Statement's table words and the real class files: 9 classes; the members and pool entries that the words name. The judged class is class 1, her method 2. -/
namespace start1
open Jvm.ClassFile
def u (s : String) : CpInfo := .utf8 (stringToUtf16 s)
/-- a pool by its gaps: so many unusable entries, then the entry; so many at the end -/
def gap : Nat → List CpInfo → List CpInfo
  | 0, r => r
  | n + 1, r => .unusable :: gap n r
def poolList (es : List (Nat × CpInfo)) (last : Nat) : List CpInfo := es.foldr (fun e r => gap e.1 (e.2 :: r)) (gap last [])
def pool (es : List (Nat × CpInfo)) (last : Nat) : Array CpInfo := ⟨poolList es last⟩
def fileOf (pool : Array CpInfo) (this : Nat) (attrs : Array Attribute := #[]) (ms : Array MethodInfo := #[]) (fl : Nat := 33) (sup : Nat := 0) (ifs : Array Nat := #[]) (fds : Array FieldInfo := #[]) : ClassFile where
  minorVersion := 0
  majorVersion := 65
  constantPool := pool
  accessFlags := fl
  thisClass := this
  superClass := sup
  interfaces := ifs
  fields := fds
  methods := ms
  attributes := attrs
def plain (name : String) (sup : Option ClassId) : Class where
  name := name
  kind := .ordinary
  loader := none
  accessFlags := 33
  super := sup
  interfaces := #[]
  cf := none
  fields := #[]
  methods := #[]
  instanceTypes := #[]
  staticTypes := #[]
  resolved := #[]
  callSites := []
  init := .initialized
  statics := none
  mirror := none

def pool0 : Array CpInfo := pool [(5, u "<init>"), (0, u "()V"), (1, .class_ 10), (1, u "java/lang/Object")] 113

def k0m0 : Method := { name := "<init>", desc := "()V", sig := { parameters := [], returnType := none }, accessFlags := 1, code := none }
/-- java/lang/Object -/
def k0 : Class := { plain "java/lang/Object" none with
  accessFlags := 33
  interfaces := #[]
  cf := some (fileOf pool0 8 #[] #[{ accessFlags := 1, nameIndex := 5, descriptorIndex := 6, attributes := #[] }] 33 0 #[] #[])
  fields := #[]
  methods := #[k0m0]
  instanceTypes := #[]
  staticTypes := #[]
  resolved := Array.replicate 124 none
  statics := none }

def pool1 : Array CpInfo := pool [(2, .class_ 4), (1, u "java/lang/Object"), (0, u "<init>"), (0, u "()V"), (0, .integer 1114111), (0, .integer 55296), (0, .integer 57343), (0, .integer 65534), (0, .integer 65535), (0, .integer 55295), (0, .integer 57344), (0, .integer 65533), (0, .integer 65536), (0, .integer 1114112), (2, .integer 2147483648), (0, .integer 2147483647), (0, .methodref 22 23), (0, .class_ 24), (0, .nameAndType 25 26), (0, u "com/example/libflwor/libflwor/xdm/XmlCharacters"), (0, u "isXmlChar"), (0, u "(I)Z"), (0, .methodref 28 29), (0, .class_ 30), (0, .nameAndType 31 26), (0, u "com/example/libflwor/libflwor/xdm/XmlCharactersIsXmlCharPinLaw"), (0, u "ref"), (3, u "law"), (0, u "(III)Z")] 4

def k1m0 : Method := { name := "<init>", desc := "()V", sig := { parameters := [], returnType := none }, accessFlags := 2, code := none }
def k1c1 : Code := { maxStack := 2, maxLocals := 1, code := method_2_code, exceptionTable := #[], attributes := #[] }
def k1m1 : Method := { name := "ref", desc := "(I)Z", sig := { parameters := [.int], returnType := some .boolean }, accessFlags := 10, code := some k1c1 }
def k1c2 : Code := { maxStack := 4, maxLocals := 7, code := code, exceptionTable := #[], attributes := #[] }
def k1m2 : Method := { name := "law", desc := "(III)Z", sig := { parameters := [.int, .int, .int], returnType := some .boolean }, accessFlags := 9, code := some k1c2 }
/-- com/example/libflwor/libflwor/xdm/XmlCharactersIsXmlCharPinLaw -/
def k1 : Class := { plain "com/example/libflwor/libflwor/xdm/XmlCharactersIsXmlCharPinLaw" (some 0) with
  accessFlags := 49
  interfaces := #[]
  cf := some (fileOf pool1 28 #[] #[{ accessFlags := 2, nameIndex := 5, descriptorIndex := 6, attributes := #[] }, { accessFlags := 10, nameIndex := 31, descriptorIndex := 26, attributes := #[] }, { accessFlags := 9, nameIndex := 35, descriptorIndex := 36, attributes := #[] }] 49 2 #[] #[])
  fields := #[]
  methods := #[k1m0, k1m1, k1m2]
  instanceTypes := #[]
  staticTypes := #[]
  resolved := Array.replicate 41 none
  statics := none }

def pool2 : Array CpInfo := pool [(2, .class_ 4), (1, u "java/lang/Object"), (0, u "<init>"), (0, u "()V"), (0, .class_ 8), (0, u "com/example/libflwor/libflwor/xdm/XmlCharacters"), (21, u "(I)Z"), (45, .integer 55295), (0, .integer 57344), (0, .integer 65533), (0, .integer 65536), (0, .integer 1114111), (19, u "isXmlChar"), (3, u "WHITESPACE"), (0, u "Ljava/lang/String;")] 15

def k2m0 : Method := { name := "<init>", desc := "()V", sig := { parameters := [], returnType := none }, accessFlags := 2, code := none }
def k2c1 : Code := { maxStack := 2, maxLocals := 1, code := prog_243_method_8_code, exceptionTable := #[], attributes := #[] }
def k2m1 : Method := { name := "isXmlChar", desc := "(I)Z", sig := { parameters := [.int], returnType := some .boolean }, accessFlags := 9, code := some k2c1 }
/-- com/example/libflwor/libflwor/xdm/XmlCharacters -/
def k2 : Class := { plain "com/example/libflwor/libflwor/xdm/XmlCharacters" (some 0) with
  accessFlags := 33
  interfaces := #[]
  cf := some (fileOf pool2 7 #[] #[{ accessFlags := 2, nameIndex := 5, descriptorIndex := 6, attributes := #[] }, { accessFlags := 9, nameIndex := 100, descriptorIndex := 30, attributes := #[] }] 33 2 #[] #[{ accessFlags := 26, nameIndex := 104, descriptorIndex := 105, attributes := #[] }])
  fields := #[{ name := "WHITESPACE", type := (.object "java/lang/String"), accessFlags := 26, slot := 0, constantValue := 0 }]
  methods := #[k2m0, k2m1]
  instanceTypes := #[]
  staticTypes := #[(.object "java/lang/String")]
  resolved := Array.replicate 121 none
  statics := none }

def pool3 : Array CpInfo := pool [(1, u "java/lang/Cloneable"), (0, .class_ 1), (0, u "java/lang/Object"), (0, .class_ 3)] 3

/-- java/lang/Cloneable -/
def k3 : Class := { plain "java/lang/Cloneable" (some 0) with
  accessFlags := 1537
  interfaces := #[]
  cf := some (fileOf pool3 2 #[] #[] 1537 4 #[] #[])
  fields := #[]
  methods := #[]
  instanceTypes := #[]
  staticTypes := #[]
  resolved := Array.replicate 8 none
  statics := none }

def pool4 : Array CpInfo := pool [(1, u "java/io/Serializable"), (0, .class_ 1), (0, u "java/lang/Object"), (0, .class_ 3)] 3

/-- java/io/Serializable -/
def k4 : Class := { plain "java/io/Serializable" (some 0) with
  accessFlags := 1537
  interfaces := #[]
  cf := some (fileOf pool4 2 #[] #[] 1537 4 #[] #[])
  fields := #[]
  methods := #[]
  instanceTypes := #[]
  staticTypes := #[]
  resolved := Array.replicate 8 none
  statics := none }

/-- the primitive byte -/
def k5 : Class := { plain "byte" none with kind := .primitive 'B', accessFlags := 0x411 }
/-- [B -/
def k6 : Class := { plain "[B" (some 0) with kind := .array 5 .byte, interfaces := #[3, 4], accessFlags := 1041 }

/-- the primitive int -/
def k7 : Class := { plain "int" none with kind := .primitive 'I', accessFlags := 0x411 }
/-- [I -/
def k8 : Class := { plain "[I" (some 0) with kind := .array 7 .int, interfaces := #[3, 4], accessFlags := 1041 }

def heap : Heap := #[]
def classes : Array Class := #[k0, k1, k2, k3, k4, k5, k6, k7, k8]
def interned : List (Array UInt16 × Addr) := []
def slotsUsed : Nat := 0
def theMethod : MethodId := ⟨1, 2⟩
def args0 : Array Value := #[.int 65, .int 3, .int 5]
def aboutOver (below : List Frame) : State where
  vm := { classes := classes, interned := interned.toArray }
  heap := heap
  slotsUsed := slotsUsed
  threads := #[{ frames := .invoking theMethod args0 :: below }]
def below0 : List Frame := [.native { method := ⟨0, 0⟩, args := #[] }]
def about1 : State := aboutOver below0
def p0 : Program := .bare "" "" ""
def e0 : Env := launch0.env 0 0 0
theorem w_frames : about1.frames = Frame.invoking theMethod args0 :: below0 := rfl
set_option maxRecDepth 65536 in
theorem w_args : argsFit about1.vm theMethod args0 = true := by decide +kernel
set_option maxRecDepth 65536 in
theorem w_heap : heapFits about1 = true := by decide +kernel
set_option maxRecDepth 65536 in
theorem w_runnable : about1.curStatus? = some .runnable := by decide +kernel
set_option maxRecDepth 65536 in
theorem w_alone : about1.alone = true := by decide +kernel
set_option maxRecDepth 65536 in
theorem w_named : about1.methodNamed? x = some theMethod := by decide +kernel
set_option maxRecDepth 65536 in
theorem w_hears : about1.hears theMethod below0 = true := by decide +kernel
set_option maxRecDepth 65536 in
theorem w_ripe : about1.ripe theMethod args0 below0 = true := by decide +kernel
theorem w_running : about1.status = .running := rfl
set_option maxRecDepth 65536 in
theorem w_room : about1.hasRoom e0.platform room_1 = true :=
  launch0.hasRoom_least _ room_1 (by decide +kernel) (by decide +kernel) (by decide +kernel) (by decide +kernel) (by decide +kernel) (by decide +kernel)
theorem allAtoms_all (ts : List Jvm.Cond) (a : Array Jvm.Value) (st : Jvm.State) : (allAtoms ts).before a st = ts.all (fun c => c.before a st) := by
  induction ts with
  | nil => rfl
  | cons c t ih =>
    show (Jvm.Cond.and c (allAtoms t)).before a st = _
    rw [Jvm.Cond.before_and, ih, List.all_cons]
def words1 : List Jvm.Cond := Jvm.Cond.code x code maxLocals ret :: tables_1
/-- a 'code' word, met by the world's own term for the bytes: nothing is compared byte by byte -/
theorem code_word {y : MethodName} {bytes : ByteArray} {mx : Nat} {rt : Option FieldType} {a : Array Value} {s : State} {m : MethodId} {meth : Method} {c : Code} (h1 : s.methodNamed? y = some m) (h2 : s.vm.method? m = some meth) (h3 : meth.code = some c) (h4 : c.code = bytes)
    (h5 : (c.maxLocals == mx && c.exceptionTable.isEmpty && decide (c.maxStack ≤ mostOperands) && decide (meth.sig.returnType = rt) && !meth.locks && decide (parseMethodDescriptor y.desc = some meth.sig)) = true) : (Jvm.Cond.code y bytes mx rt).before a s = true := by
  simp only [Bool.and_eq_true, beq_iff_eq, Bool.not_eq_true', decide_eq_true_eq] at h5
  obtain ⟨⟨⟨⟨⟨g1, g2⟩, g3⟩, g4⟩, g5⟩, g6⟩ := h5
  simp [Cond.before, Cond.holds, Cond.value, h1, h2, h3, h4, g1, g2, g3, g4, g5, g6]
def isCode : Jvm.Cond → Bool
  | .code _ _ _ _ => true
  | _ => false
theorem all_split {L : List Jvm.Cond} {P : Jvm.Cond → Bool} (h1 : L.all (fun c => isCode c || P c) = true) (h2 : ∀ c ∈ L.filter isCode, P c = true) : L.all P = true := by
  refine List.all_eq_true.mpr fun c hc => ?_
  have h := List.all_eq_true.mp h1 c hc
  rcases Bool.eq_false_or_eq_true (isCode c) with hi | hi
  · exact h2 c (List.mem_filter.mpr ⟨hc, hi⟩)
  · simpa [hi] using h
set_option maxRecDepth 65536 in
theorem w_c0 : (Jvm.Cond.code x code maxLocals ret).before args0 about1 = true := code_word (m := ⟨1, 2⟩) (meth := k1m2) (c := k1c2) (by decide +kernel) rfl rfl rfl (by decide +kernel)
set_option maxRecDepth 65536 in
theorem w_c1 : (Jvm.Cond.code ({ cls := "com/example/libflwor/libflwor/xdm/XmlCharacters", name := "isXmlChar", desc := "(I)Z" } : Jvm.MethodName) prog_243_method_8_code (1 : Nat) (Option.some Jvm.ClassFile.FieldType.boolean)).before args0 about1 = true := code_word (m := ⟨2, 1⟩) (meth := k2m1) (c := k2c1) (by decide +kernel) rfl rfl rfl (by decide +kernel)
set_option maxRecDepth 65536 in
theorem w_c2 : (Jvm.Cond.code ({ cls := "com/example/libflwor/libflwor/xdm/XmlCharactersIsXmlCharPinLaw", name := "ref", desc := "(I)Z" } : Jvm.MethodName) method_2_code (1 : Nat) (Option.some Jvm.ClassFile.FieldType.boolean)).before args0 about1 = true := code_word (m := ⟨1, 1⟩) (meth := k1m1) (c := k1c1) (by decide +kernel) rfl rfl rfl (by decide +kernel)
def codes1 : List Jvm.Cond := [Jvm.Cond.code x code maxLocals ret, Jvm.Cond.code ({ cls := "com/example/libflwor/libflwor/xdm/XmlCharacters", name := "isXmlChar", desc := "(I)Z" } : Jvm.MethodName) prog_243_method_8_code (1 : Nat) (Option.some Jvm.ClassFile.FieldType.boolean), Jvm.Cond.code ({ cls := "com/example/libflwor/libflwor/xdm/XmlCharactersIsXmlCharPinLaw", name := "ref", desc := "(I)Z" } : Jvm.MethodName) method_2_code (1 : Nat) (Option.some Jvm.ClassFile.FieldType.boolean)]
set_option maxRecDepth 65536 in
theorem codes_eq : words1.filter isCode = codes1 := rfl
theorem w_codes : ∀ c ∈ words1.filter isCode, c.before args0 about1 = true := by
  rw [codes_eq]
  intro c hc
  simp only [codes1, List.mem_cons, List.not_mem_nil, or_false] at hc
  rcases hc with rfl | rfl | rfl
  · exact w_c0
  · exact w_c1
  · exact w_c2
set_option maxRecDepth 65536 in
theorem w_t1 : (words1.take 24).all (fun c => isCode c || c.before args0 about1) = true := by decide +kernel
set_option maxRecDepth 65536 in
theorem w_t2 : (words1.drop 24).all (fun c => isCode c || c.before args0 about1) = true := by decide +kernel
theorem w_tables : (allAtoms (Jvm.Cond.code x code maxLocals ret :: tables_1)).before args0 about1 = true := by
  rw [allAtoms_all]
  show words1.all (fun c => c.before args0 about1) = true
  refine all_split ?_ w_codes
  rw [← List.take_append_drop 24 words1, List.all_append, w_t1, w_t2]
  rfl
set_option maxRecDepth 65536 in
theorem w_case : (Jvm.Cond.and given_1 narrow_1).before args0 about1 = true := by decide +kernel
theorem w_applies : (headSpec (Jvm.Cond.code x code maxLocals ret :: tables_1) room_1).applies x e0.platform about1 = true :=
  (Spec.applies_iff w_frames).mpr ⟨w_running, w_runnable, w_alone, w_named, w_hears, w_ripe, w_room, w_tables⟩
theorem atStart : AtStart classFile x code maxLocals ret World_1 tables_1 room_1 Calls_1 rest_1 Pre_1 launch0 p0 e0 about1 theMethod args0 below0 :=
  ⟨lists_1, trivial, launch0.admits_env _ _ _, launch0.least_env, fairChoices_fair.cas, fairChoices_fair.clock, w_frames, w_args, w_heap, w_applies, trivial, trivial, w_case⟩
end start1
theorem witness_1 : WitnessClaimed_1 := ⟨start1.p0, start1.e0, start1.about1, start1.theMethod, start1.args0, start1.below0, start1.atStart⟩
end Jvm.Pilot.@@N@@
