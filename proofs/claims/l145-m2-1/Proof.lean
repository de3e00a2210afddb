import JvmDerived
import JvmDerived.Pilot.@@N@@Statement
import JvmDerived.Pilot.@@N@@Code
set_option linter.unusedVariables false
set_option linter.unusedSimpArgs false
namespace Jvm.Pilot.@@N@@
open Jvm Jvm.ClassFile Sem Op Lib Jvm.Free Jvm.Stand Jvm.LawKit Jvm.RoadKit Bundle Jvm.Pilot.@@N@@.Jvm.D
section OwnKit
variable {p : Program} {l : Launch} {e : Env} {R : Room} {s : State} {m : MethodId} {args : Array Value} {below : List Frame} {meth : Method} {c : Code} {T : State} {locs : List Loc} {cells slots : Nat} {Z : State} {a0 : Array Value} {h h' : Heap}
/-- what a body leaves: its value, the heap, the places written -/
abbrev own_P := Option Value → Heap → List Loc → Prop
/-- from here the run comes back, and leaves P -/
def own_Go (p : Program) (e : Env) (below : List Frame) (s : State) (P : own_P) (kc ks : Nat) (A : State) : Prop :=
  ∃ s₂ o, Steps p.tables e below A s₂ ∧ s₂.status = .running ∧ Ended s₂ below o ∧ ∃ v L, o = Outcome.returned v ∧ P v s₂.heap L ∧ FrameEnd s o s₂ L kc ks
theorem own_st {P : own_P} {kc ks : Nat} {A B : State} (hs : ∀ t, Steps p.tables e below B t → Steps p.tables e below A t) (k : own_Go p e below s P kc ks B) : own_Go p e below s P kc ks A := by
  obtain ⟨s₂, o, h1, h2⟩ := k
  exact ⟨s₂, o, hs _ h1, h2⟩
theorem own_stT {P : own_P} {kc ks : Nat} {A B : State} (hs : Steps p.tables e below A B) (k : own_Go p e below s P kc ks B) : own_Go p e below s P kc ks A := by
  obtain ⟨s₂, o, h1, h2⟩ := k
  exact ⟨s₂, o, hs.trans h1, h2⟩
theorem own_end (X : Stand p l e R s m args below meth c T locs cells slots) (hx : p.tables.exec = Jvm.exec) (hlk : meth.locks = false) {P : own_P} {kc ks : Nat} {pc : Nat} {Ls : Array Slot} {w : Value} {t : FieldType} {i : Instr} {rest : List Value} (hret : meth.sig.returnType = some t) (hn : narrow t w = w)
    (hi : (i = .ireturn ∧ (t = .int ∨ t = .boolean ∨ t = .byte ∨ t = .char ∨ t = .short) ∧ ∃ z, w = .int z) ∨ (i = .lreturn ∧ t = .long ∧ ∃ z, w = .long z) ∨ (i = .dreturn ∧ t = .double ∧ ∃ z, w = .double z) ∨ (i = .freturn ∧ t = .float ∧ ∃ z, w = .float z) ∨ (i = .areturn ∧ t.isReference = true ∧ w.isRef = true))
    (hd : decode c.code pc = .ok (i, 1)) (hP : P (some w) T.heap locs) (hc : cells ≤ kc) (hs : slots ≤ ks) : own_Go p e below s P kc ks (T.setTop (mkF m pc Ls (w :: rest))) := by
  obtain ⟨fs, hr, hrun, hended, hW, hsame⟩ := X.leave (v := some w) (fun h => by rw [hret] at h; cases h) hlk
  exact ⟨_, _, retOut X hx hret hn hi hd hr, hrun, hended, _, _, rfl, hP, ⟨_, rfl⟩, hW, hsame.mono hc hs⟩
theorem own_endI (X : Stand p l e R s m args below meth c T locs cells slots) (hx : p.tables.exec = Jvm.exec) (hlk : meth.locks = false) {P : own_P} {kc ks : Nat} {pc : Nat} {Ls : Array Slot} {z : Int32} {rest : List Value} (hret : meth.sig.returnType = some .int)
    (hd : decode c.code pc = .ok (.ireturn, 1)) (hP : P (some (.int z)) T.heap locs) (hc : cells ≤ kc) (hs : slots ≤ ks) : own_Go p e below s P kc ks (T.setTop (mkF m pc Ls (.int z :: rest))) :=
  own_end X hx hlk hret rfl (Or.inl ⟨rfl, Or.inl rfl, z, rfl⟩) hd hP hc hs
theorem own_endJ (X : Stand p l e R s m args below meth c T locs cells slots) (hx : p.tables.exec = Jvm.exec) (hlk : meth.locks = false) {P : own_P} {kc ks : Nat} {pc : Nat} {Ls : Array Slot} {z : Int64} {rest : List Value} (hret : meth.sig.returnType = some .long)
    (hd : decode c.code pc = .ok (.lreturn, 1)) (hP : P (some (.long z)) T.heap locs) (hc : cells ≤ kc) (hs : slots ≤ ks) : own_Go p e below s P kc ks (T.setTop (mkF m pc Ls (.long z :: rest))) :=
  own_end X hx hlk hret rfl (Or.inr (Or.inl ⟨rfl, rfl, z, rfl⟩)) hd hP hc hs
theorem own_endA (X : Stand p l e R s m args below meth c T locs cells slots) (hx : p.tables.exec = Jvm.exec) (hlk : meth.locks = false) {P : own_P} {kc ks : Nat} {pc : Nat} {Ls : Array Slot} {a : Addr} {t : FieldType} {rest : List Value} (hret : meth.sig.returnType = some t) (ht : t.isReference = true) (hn : narrow t (.ref a) = .ref a)
    (hd : decode c.code pc = .ok (.areturn, 1)) (hP : P (some (.ref a)) T.heap locs) (hc : cells ≤ kc) (hs : slots ≤ ks) : own_Go p e below s P kc ks (T.setTop (mkF m pc Ls (.ref a :: rest))) :=
  own_end X hx hlk hret hn (Or.inr (Or.inr (Or.inr (Or.inr ⟨rfl, ht, rfl⟩)))) hd hP hc hs
/-- a boolean, byte, char, short comes back narrowed -/
theorem own_endN (X : Stand p l e R s m args below meth c T locs cells slots) (hx : p.tables.exec = Jvm.exec) (hlk : meth.locks = false) {P : own_P} {kc ks : Nat} {pc : Nat} {Ls : Array Slot} {z : Int32} {t : FieldType} {rest : List Value} (hret : meth.sig.returnType = some t) (ht : t = .boolean ∨ t = .byte ∨ t = .char ∨ t = .short)
    (hd : decode c.code pc = .ok (.ireturn, 1)) {w : Int32} (hz : nar t z = w) (hP : P (some (.int w)) T.heap locs) (hc : cells ≤ kc) (hs : slots ≤ ks) : own_Go p e below s P kc ks (T.setTop (mkF m pc Ls (.int z :: rest))) := by
  subst hz
  obtain ⟨fs, hr, hrun, hended, hW, hsame⟩ := X.leave (v := some (.int (nar t z))) (fun h => by rw [hret] at h; cases h) hlk
  exact ⟨_, _, retN X hx hret ht hd hr, hrun, hended, _, _, rfl, hP, ⟨_, rfl⟩, hW, hsame.mono hc hs⟩
theorem own_endV (X : Stand p l e R s m args below meth c T locs cells slots) (hx : p.tables.exec = Jvm.exec) (hlk : meth.locks = false) {P : own_P} {kc ks : Nat} {pc : Nat} {Ls : Array Slot} (hret : meth.sig.returnType = none)
    (hd : decode c.code pc = .ok (.return_, 1)) (hP : P none T.heap locs) (hc : cells ≤ kc) (hs : slots ≤ ks) : own_Go p e below s P kc ks (T.setTop (mkF m pc Ls [])) := by
  obtain ⟨fs, hr, hrun, hended, hW, hsame⟩ := X.leave (v := none) (fun _ => rfl) hlk
  exact ⟨_, _, X.returnOut hx hret hd hr, hrun, hended, _, _, rfl, hP, ⟨_, rfl⟩, hW, hsame.mono hc hs⟩
/-- a body's contract -/
def own_Met (l : Launch) (Z : State) (y : MethodName) (bytes : ByteArray) (maxL : Nat) (ret : Option FieldType) (rm : Room) (as : Array Value) (h : Heap) (Q : own_P) : Prop :=
  ∀ ws : List Jvm.Cond, MetFree l y (head1 (Jvm.Cond.code y bytes maxL ret :: ws) rm) (fun a U => a = as ∧ Z.Warmed39 U.vm ∧ U.heap = h) (fun _ _ _ _ _ => True) (fun _ U o U' => ∃ v L, o = .returned v ∧ Q v U'.heap L ∧ FrameEnd U o U' L rm.cells rm.slots)
theorem own_in {y : MethodName} {bytes : ByteArray} {maxL : Nat} {ret : Option FieldType} {rm : Room} {as : Array Value} {Q : own_P} (pn : plainName y.cls = true)
    (body : ∀ (p : Program) (e : Env) (s : State) (m : MethodId) (below : List Frame) (meth : Method) (c : Code) (s₁ : State), p.tables.exec = Jvm.exec → c.code = bytes → c.maxLocals = maxL → s.vm.findClass y.cls = some m.cls → meth.name = y.name → meth.locks = false → meth.sig.returnType = ret → Z.Warmed39 s.vm →
      Stand p l e rm s m as below meth c s₁ [] 0 0 → s₁.heap = h → own_Go p e below s Q rm.cells rm.slots (s₁.setTop (entryFrame m as maxL))) : own_Met l Z y bytes maxL ret rm as h Q := by
  intro ws
  refine MetFree.of_bodySF (plainFor_of_name pn) hisR ?_
  intro p e s m args below meth c s₁ Bd hml hP hK
  obtain ⟨rfl, hZ, hh⟩ := hP
  exact body p e s m below meth c s₁ Bd.exec Bd.bytes hml (findClass_of_methodNamed Bd.named) (name_of_methodNamed Bd.named Bd.method).1 (BodyLoose.notSynchronized Bd) Bd.returns hZ (Stand.of_body Bd) (by rw [← hh, Bd.state]; rfl)
theorem own_ef {tbp : Program} {P : own_P} {kc ks : Nat} {g g' : JFrame} (q : g = g') (k : own_Go tbp e below s P kc ks (T.setTop g')) : own_Go tbp e below s P kc ks (T.setTop g) := q ▸ k
/-- a static call by its contract -/
theorem own_cS (X : Stand p l e R s m args below meth c T locs cells slots) (hx : p.tables.exec = Jvm.exec) {ml : Nat} (hml : c.maxLocals = ml) (hZ : Z.Warmed39 s.vm) {own : String} {index : Nat} {y : MethodName} {bytes : ByteArray} {maxL : Nat} {ret : Option FieldType} {rm : Room} {as : Array Value} {Q : own_P}
    (hown : s.vm.findClass own = some m.cls) (w1 : (Jvm.Cond.methodLink own index y).before a0 Z = true) (w2 : (Jvm.Cond.static y).before a0 Z = true) (w3 : (Jvm.Cond.initialized y.cls).before a0 Z = true) (w4 : (Jvm.Cond.code y bytes maxL ret).before a0 Z = true)
    (hy : y.cls ≠ "java/lang/invoke/MethodHandle" ∧ y.cls ≠ "java/lang/invoke/VarHandle") (hM : own_Met l Z y bytes maxL ret rm as h Q) (eT : T.heap = h) (hf : rm.frames + 1 ≤ R.frames) {W : Nat} (hl : W + (maxL + 11) + rm.locals ≤ R.locals)
    {g : JFrame} (hg : g.method = m) (hsize : g.locals.size = ml) {ps : List FieldType} {r : Option FieldType} (hpd : parseMethodDescriptor y.desc = some ⟨ps, r⟩) {argsL rest : List Value} (hlen : argsL.length = ps.length) (has : argsL.toArray = as) (hst : g.stack = argsL.reverse ++ rest)
    (hW : 2 * g.monitorRoom + (rest.map fun v => v.category).sum ≤ W) (hd : decode c.code g.pc = .ok (.invokestatic index, 3)) (hc : cells + rm.cells ≤ R.cells) (hs : slots + rm.slots ≤ R.slots) {P : own_P} {kc ks : Nat}
    (k : ∀ T' L v, Stand p l e R s m args below meth c T' (locs ++ L) (cells + rm.cells) (slots + rm.slots) → Q v T'.heap L → own_Go p e below s P kc ks (T'.setTop { g with pc := g.pc + 3, stack := v.toList ++ rest })) : own_Go p e below s P kc ks (T.setTop g) := by
  obtain ⟨v, vm, ⟨T', L', k', n'⟩, -, X', ⟨L, hQ, hl', hk', hn'⟩, st⟩ := Jvm.LawKit.callS X hx (y := y) hown (mvT hZ w1) (mvT hZ w2) (mvT hZ w3) (mvT hZ w4) hy (backOf (W := W) (hM []) hZ w4 w3 hf hl) hg (hsize.trans hml.symm) (argsL := argsL) (rest := rest) (lenOf hpd hlen) hst hW hd (fun _ _ => ⟨has, eT, hc, hs⟩)
  dsimp only [Pt.U, Pt.locs, Pt.cells, Pt.slots] at X' hl' hk' hn' st hQ
  subst hl' hk' hn'
  exact own_st st (k T' L v X' hQ)
/-- an instance method by its contract -/
theorem own_cV (X : Stand p l e R s m args below meth c T locs cells slots) (hx : p.tables.exec = Jvm.exec) {ml : Nat} (hml : c.maxLocals = ml) (hZ : Z.Warmed39 s.vm) {own C : String} {index : Nat} {y : MethodName} {bytes : ByteArray} {maxL : Nat} {ret : Option FieldType} {rm : Room} {as : Array Value} {Q : own_P}
    (hown : s.vm.findClass own = some m.cls) (w1 : (Jvm.Cond.methodLink own index y).before a0 Z = true) (w2 : (Jvm.Cond.declares y).before a0 Z = true) (w5 : (Jvm.Cond.selects C y y).before a0 Z = true) (w6 : (Jvm.Cond.instanceMethod y).before a0 Z = true) (w3 : (Jvm.Cond.initialized y.cls).before a0 Z = true) (w4 : (Jvm.Cond.code y bytes maxL ret).before a0 Z = true)
    (hy : y.cls ≠ "java/lang/invoke/MethodHandle" ∧ y.cls ≠ "java/lang/invoke/VarHandle") (hM : own_Met l Z y bytes maxL ret rm as h Q) (eT : T.heap = h) {b : Addr} (EX : Exa Z h b C) (hf : rm.frames + 1 ≤ R.frames) {W : Nat} (hl : W + (maxL + 11) + rm.locals ≤ R.locals)
    {g : JFrame} (hg : g.method = m) (hsize : g.locals.size = ml) {ps : List FieldType} {r : Option FieldType} (hpd : parseMethodDescriptor y.desc = some ⟨ps, r⟩) {argsL rest : List Value} (hlen : argsL.length = ps.length) (has : (.ref b :: argsL).toArray = as) (hst : g.stack = argsL.reverse ++ .ref b :: rest)
    (hW : 2 * g.monitorRoom + (rest.map fun v => v.category).sum ≤ W) (hd : decode c.code g.pc = .ok (.invokevirtual index, 3)) (hc : cells + rm.cells ≤ R.cells) (hs : slots + rm.slots ≤ R.slots) {P : own_P} {kc ks : Nat}
    (k : ∀ T' L v, Stand p l e R s m args below meth c T' (locs ++ L) (cells + rm.cells) (slots + rm.slots) → Q v T'.heap L → own_Go p e below s P kc ks (T'.setTop { g with pc := g.pc + 3, stack := v.toList ++ rest })) : own_Go p e below s P kc ks (T.setTop g) := by
  obtain ⟨cq, kq, qa, qb, qc⟩ := isOf hZ eT EX
  obtain ⟨v, vm, ⟨T', L', k', n'⟩, -, X', ⟨L, hQ, hl', hk', hn'⟩, st⟩ := X.virtualBack hx (y := y) (z := y) hown (mvT hZ w1) (mvT hZ w2) (notFace_of_selects (args := #[]) (mvT hZ w5)) (mvT hZ w5) (mvT hZ w6) hy (backOf (W := W) (hM []) hZ w4 w3 hf hl) qa qc hg (hsize.trans hml.symm) (Steps.refl _) (argsL := argsL) (rest := rest) (lenOf hpd hlen) hst hW hd (fun _ _ => ⟨has, eT, hc, hs⟩)
  dsimp only [Pt.U, Pt.locs, Pt.cells, Pt.slots] at X' hl' hk' hn' st hQ
  subst hl' hk' hn'
  exact own_stT st (k T' L v X' hQ)
/-- a private method by its contract -/
theorem own_cP (X : Stand p l e R s m args below meth c T locs cells slots) (hx : p.tables.exec = Jvm.exec) {ml : Nat} (hml : c.maxLocals = ml) (hZ : Z.Warmed39 s.vm) {own C : String} {index nn : Nat} {y : MethodName} {bytes : ByteArray} {maxL : Nat} {ret : Option FieldType} {rm : Room} {as : Array Value} {Q : own_P}
    (hown : s.vm.findClass own = some m.cls) (w1 : (Jvm.Cond.methodLink own index y).before a0 Z = true) (w2 : (Jvm.Cond.instanceMethod y).before a0 Z = true) (w5 : (Jvm.Cond.privateMethod y).before a0 Z = true) (wi : (Jvm.Cond.instantiable y.cls nn).before a0 Z = true) (w3 : (Jvm.Cond.initialized y.cls).before a0 Z = true) (w4 : (Jvm.Cond.code y bytes maxL ret).before a0 Z = true)
    (hy : y.cls ≠ "java/lang/invoke/MethodHandle" ∧ y.cls ≠ "java/lang/invoke/VarHandle") (hM : own_Met l Z y bytes maxL ret rm as h Q) (eT : T.heap = h) {b : Addr} (EX : Exa Z h b C) (hf : rm.frames + 1 ≤ R.frames) {W : Nat} (hl : W + (maxL + 11) + rm.locals ≤ R.locals)
    {g : JFrame} (hg : g.method = m) (hsize : g.locals.size = ml) {ps : List FieldType} {r : Option FieldType} (hpd : parseMethodDescriptor y.desc = some ⟨ps, r⟩) {argsL rest : List Value} (hlen : argsL.length = ps.length) (has : (.ref b :: argsL).toArray = as) (hst : g.stack = argsL.reverse ++ .ref b :: rest)
    (hW : 2 * g.monitorRoom + (rest.map fun v => v.category).sum ≤ W) (hd : decode c.code g.pc = .ok (.invokevirtual index, 3)) (hc : cells + rm.cells ≤ R.cells) (hs : slots + rm.slots ≤ R.slots) {P : own_P} {kc ks : Nat}
    (k : ∀ T' L v, Stand p l e R s m args below meth c T' (locs ++ L) (cells + rm.cells) (slots + rm.slots) → Q v T'.heap L → own_Go p e below s P kc ks (T'.setTop { g with pc := g.pc + 3, stack := v.toList ++ rest })) : own_Go p e below s P kc ks (T.setTop g) := by
  obtain ⟨cq, q1, q2⟩ := EX.cell
  have hpriv : s.PrivateAt y := Cond.privateMethod_at (mvP hZ w5 (args := #[]))
  have hsel : (Jvm.Cond.selects y.cls y y).before args s = true := by
    have wi' : (Jvm.Cond.instantiable y.cls nn).before args s = true := mvT hZ wi
    obtain ⟨c2, k2, f1, f2, f3, f4, -⟩ := Cond.instantiable_spec wi'
    exact selects_self_of_private f1 f2 (Bool.or_eq_false_iff.mp f4).1 hpriv (mvT hZ w2) hy
  obtain ⟨v, vm, ⟨T', L', k', n'⟩, -, X', ⟨L, hQ, hl', hk', hn'⟩, st⟩ := X.privateBack hx (y := y) hown (mvT hZ w1) (mvT hZ w2) hsel hpriv (mvT hZ w4) hy (backOf (W := W) (hM []) hZ w4 w3 hf hl) hg (hsize.trans hml.symm) (Steps.refl _) (a := b) (by rw [eT]; exact q1) q2 (argsL := argsL) (rest := rest) (lenOf hpd hlen) hst hW hd (fun _ _ => ⟨has, eT, hc, hs⟩)
  dsimp only [Pt.U, Pt.locs, Pt.cells, Pt.slots] at X' hl' hk' hn' st hQ
  subst hl' hk' hn'
  exact own_stT st (k T' L v X' hQ)
/-- a constructor by its contract -/
theorem own_cN (X : Stand p l e R s m args below meth c T locs cells slots) (hx : p.tables.exec = Jvm.exec) {ml : Nat} (hml : c.maxLocals = ml) (hZ : Z.Warmed39 s.vm) {own : String} {index : Nat} {y : MethodName} {bytes : ByteArray} {maxL : Nat} {rm : Room} {as : Array Value} {Q : own_P} (hy1 : y.name = "<init>")
    (hown : s.vm.findClass own = some m.cls) (w1 : (Jvm.Cond.methodLink own index y).before a0 Z = true) (w2 : (Jvm.Cond.instanceMethod y).before a0 Z = true) (w3 : (Jvm.Cond.initialized y.cls).before a0 Z = true) (w4 : (Jvm.Cond.code y bytes maxL none).before a0 Z = true)
    (hy : y.cls ≠ "java/lang/invoke/MethodHandle" ∧ y.cls ≠ "java/lang/invoke/VarHandle") (hM : own_Met l Z y bytes maxL none rm as h Q) (eT : T.heap = h) (hf : rm.frames + 1 ≤ R.frames) {W : Nat} (hl : W + (maxL + 11) + rm.locals ≤ R.locals)
    {g : JFrame} (hg : g.method = m) (hsize : g.locals.size = ml) {ps : List FieldType} {r : Option FieldType} (hpd : parseMethodDescriptor y.desc = some ⟨ps, r⟩) {b : Addr} {argsL rest : List Value} (hlen : argsL.length = ps.length) (has : (.ref b :: argsL).toArray = as) (hst : g.stack = argsL.reverse ++ .ref b :: rest)
    (hW : 2 * g.monitorRoom + (rest.map fun v => v.category).sum ≤ W) (hd : decode c.code g.pc = .ok (.invokespecial index, 3)) (hc : cells + rm.cells ≤ R.cells) (hs : slots + rm.slots ≤ R.slots) {P : own_P} {kc ks : Nat}
    (k : ∀ T' L v, Stand p l e R s m args below meth c T' (locs ++ L) (cells + rm.cells) (slots + rm.slots) → Q v T'.heap L → own_Go p e below s P kc ks (T'.setTop { g with pc := g.pc + 3, stack := v.toList ++ rest })) : own_Go p e below s P kc ks (T.setTop g) := by
  obtain ⟨v, vm, ⟨T', L', k', n'⟩, -, X', ⟨L, hQ, hl', hk', hn'⟩, st⟩ := X.specialBack hx (y := y) hy1 hown (mvT hZ w1) (mvT hZ w2) (mvT hZ w4) hy (backOf (W := W) (hM []) hZ w4 w3 hf hl) hg (hsize.trans hml.symm) (Steps.refl _) (a := b) (argsL := argsL) (rest := rest) (lenOf hpd hlen) hst hW hd (fun _ _ => ⟨has, eT, hc, hs⟩)
  dsimp only [Pt.U, Pt.locs, Pt.cells, Pt.slots] at X' hl' hk' hn' st hQ
  subst hl' hk' hn'
  exact own_stT st (k T' L v X' hQ)
/-- an array of n places: place j holds f j -/
def own_Av (Z : State) (h : Heap) (a : Addr) (ty : FieldType) (n : Nat) (f : Nat → Value) : Prop :=
  n < 2147483648 ∧ ∃ cl : Cell, Arr Z h a cl ty ∧ cl.slots.size = n ∧ ∀ j, j < n → cl.slots[j]? = some (f j)
theorem own_Av.lt {a : Addr} {ty : FieldType} {n : Nat} {f : Nat → Value} (V : own_Av Z h a ty n f) : a < h.size := by
  obtain ⟨-, cl, A, -⟩ := V
  exact A.lt
theorem own_Av.ext {a : Addr} {ty : FieldType} {n : Nat} {f : Nat → Value} (V : own_Av Z h a ty n f) (E : Ext h h') : own_Av Z h' a ty n f := by
  obtain ⟨hn, cl, A, r⟩ := V
  exact ⟨hn, cl, A.ext E, r⟩
theorem own_Av.other {a b : Addr} {ty : FieldType} {n sl : Nat} {f : Nat → Value} {v : Value} (V : own_Av Z h b ty n f) (W : Wr h h' a sl v) (q : b ≠ a) : own_Av Z h' b ty n f := by
  obtain ⟨hn, cl, A, r⟩ := V
  exact ⟨hn, cl, A.other W q, r⟩
theorem own_Av.keep {a : Addr} {ty : FieldType} {n : Nat} {f : Nat → Value} {ws : List Addr} (V : own_Av Z h a ty n f) (K : Keep h h' ws) (q : a ∉ ws) : own_Av Z h' a ty n f := by
  obtain ⟨hn, cl, A, r⟩ := V
  exact ⟨hn, cl, ⟨K.2.1 a cl A.1 q, A.2⟩, r⟩
theorem own_Av.congr {a : Addr} {ty : FieldType} {n : Nat} {f g : Nat → Value} (V : own_Av Z h a ty n f) (q : ∀ j, j < n → f j = g j) : own_Av Z h a ty n g := by
  obtain ⟨hn, cl, A, r1, r2⟩ := V
  exact ⟨hn, cl, A, r1, fun j hj => by rw [r2 j hj, q j hj]⟩
theorem own_Av.same {a : Addr} {ty : FieldType} {n i : Nat} {f : Nat → Value} {v : Value} (V : own_Av Z h a ty n f) (W : Wr h h' a i v) : own_Av Z h' a ty n (fun j => if j = i then v else f j) := by
  obtain ⟨hn, cl, A, r1, r2⟩ := V
  refine ⟨hn, cl.setSlot i v, A.same W, by rw [sz_set, r1], fun j hj => ?_⟩
  have hj' : j < cl.slots.size := by rw [r1]; exact hj
  by_cases q : j = i
  · subst q
    simp [Cell.setSlot, hj']
  · have q' : ¬ i = j := fun u => q u.symm
    simp only [Cell.setSlot, if_neg q]
    rw [Array.getElem?_setIfInBounds_ne q']
    exact r2 j hj
theorem own_Av.new {a : Addr} {ty : FieldType} {k : ClassId} {z : Int32} {n : Nat} (A : Arr Z h a (newA k ty z) ty) (hz : z.toInt = n) : own_Av Z h a ty n (fun _ => defaultValue ty) := by
  have h1 : z.toNatClampNeg = n := by
    show z.toInt.toNat = n
    rw [hz]; rfl
  have h2 : z.toInt < 2147483648 := Int32.toInt_lt z
  refine ⟨by omega, _, A, by rw [sz_new, h1], fun j hj => ?_⟩
  simp [newA, h1, hj]
theorem own_ix {j : Int32} {i n : Nat} (hj : j.toInt = i) (hi : i < n) : ¬ (j < 0 ∨ n ≤ j.toNatClampNeg) ∧ j.toNatClampNeg = i := by
  have h1 : j.toNatClampNeg = i := by
    show j.toInt.toNat = i
    rw [hj]; rfl
  refine ⟨?_, h1⟩
  rintro (q | q)
  · rw [Int32.lt_iff_toInt_lt, hj] at q
    have : (0 : Int32).toInt = 0 := by decide
    omega
  · omega
theorem own_ldI (X : Stand p l e R s m args below meth c T locs cells slots) (hx : p.tables.exec = Jvm.exec) (hZ : Z.Warmed39 s.vm) (eT : T.heap = h) {a : Addr} {n : Nat} {f : Nat → Value} (V : own_Av Z h a .int n f) {j : Int32} {i : Nat} (hj : j.toInt = i) (hi : i < n) {v : Value} (hv : f i = v)
    {g : JFrame} (hg : g.method = m) {rest : List Value} (hs : g.stack = .int j :: .ref a :: rest) (hd : decode c.code g.pc = .ok (.iaload, 1)) :
    ∀ t, Steps p.tables e below (T.setTop { g with pc := g.pc + 1, stack := v :: rest }) t → Steps p.tables e below (T.setTop g) t := by
  obtain ⟨-, cl, A, r1, r2⟩ := V
  obtain ⟨q1, q2⟩ := own_ix hj (n := cl.slots.size) (by rw [r1]; exact hi)
  exact X.iaload hx (by rw [eT]; exact A.1) (State.isArrayOf_alike hZ.alike A.2.1) A.2.2 q1 (by rw [q2, r2 i hi, hv]) hg hs hd
theorem own_ldB (X : Stand p l e R s m args below meth c T locs cells slots) (hx : p.tables.exec = Jvm.exec) (hZ : Z.Warmed39 s.vm) (eT : T.heap = h) {a : Addr} {n : Nat} {f : Nat → Value} (V : own_Av Z h a .byte n f) {j : Int32} {i : Nat} (hj : j.toInt = i) (hi : i < n) {v : Value} (hv : f i = v)
    {g : JFrame} (hg : g.method = m) {rest : List Value} (hs : g.stack = .int j :: .ref a :: rest) (hd : decode c.code g.pc = .ok (.baload, 1)) :
    ∀ t, Steps p.tables e below (T.setTop { g with pc := g.pc + 1, stack := v :: rest }) t → Steps p.tables e below (T.setTop g) t := by
  obtain ⟨-, cl, A, r1, r2⟩ := V
  obtain ⟨q1, q2⟩ := own_ix hj (n := cl.slots.size) (by rw [r1]; exact hi)
  exact X.baloadBytes hx (by rw [eT]; exact A.1) (State.isArrayOf_alike hZ.alike A.2.1) A.2.2 q1 (by rw [q2, r2 i hi, hv]) hg hs hd
theorem own_ldJ (X : Stand p l e R s m args below meth c T locs cells slots) (hx : p.tables.exec = Jvm.exec) (hZ : Z.Warmed39 s.vm) (eT : T.heap = h) {a : Addr} {n : Nat} {f : Nat → Value} (V : own_Av Z h a .long n f) {j : Int32} {i : Nat} (hj : j.toInt = i) (hi : i < n) {v : Value} (hv : f i = v)
    {g : JFrame} (hg : g.method = m) {rest : List Value} (hs : g.stack = .int j :: .ref a :: rest) (hd : decode c.code g.pc = .ok (.laload, 1)) :
    ∀ t, Steps p.tables e below (T.setTop { g with pc := g.pc + 1, stack := v :: rest }) t → Steps p.tables e below (T.setTop g) t := by
  obtain ⟨-, cl, A, r1, r2⟩ := V
  obtain ⟨q1, q2⟩ := own_ix hj (n := cl.slots.size) (by rw [r1]; exact hi)
  exact X.laload hx (by rw [eT]; exact A.1) (State.isArrayOf_alike hZ.alike A.2.1) A.2.2 q1 (by rw [q2, r2 i hi, hv]) hg hs hd
theorem own_len (X : Stand p l e R s m args below meth c T locs cells slots) (hx : p.tables.exec = Jvm.exec) (hZ : Z.Warmed39 s.vm) (eT : T.heap = h) {a : Addr} {ty : FieldType} {n : Nat} {f : Nat → Value} (V : own_Av Z h a ty n f) {z : Int32} (hz : z.toInt = n)
    {g : JFrame} (hg : g.method = m) {rest : List Value} (hs : g.stack = .ref a :: rest) (hd : decode c.code g.pc = .ok (.arraylength, 1)) :
    ∀ t, Steps p.tables e below (T.setTop { g with pc := g.pc + 1, stack := .int z :: rest }) t → Steps p.tables e below (T.setTop g) t := by
  obtain ⟨hn, cl, A, r1, r2⟩ := V
  have q : cl.slots.size.toInt32 = z := by
    rw [r1]
    apply Int32.toInt_inj.mp
    rw [hz]
    show (Int32.ofNat n).toInt = n
    rw [Int32.toInt_ofNat_of_lt (by omega)]
  intro t ht
  refine X.arraylength hx (by rw [eT]; exact A.1) (State.isArrayOf_alike hZ.alike A.2.1) hg hs hd t ?_
  rw [q]
  exact ht
theorem own_stI (X : Stand p l e R s m args below meth c T locs cells slots) (hx : p.tables.exec = Jvm.exec) (hZ : Z.Warmed39 s.vm) (eT : T.heap = h) {a : Addr} {n : Nat} {f : Nat → Int32} (V : own_Av Z h a .int n (fun t => .int (f t))) {j x : Int32} {i : Nat} (hj : j.toInt = i) (hi : i < n)
    {g : JFrame} (hg : g.method = m) {rest : List Value} (hs : g.stack = .int x :: .int j :: .ref a :: rest) (hd : decode c.code g.pc = .ok (.iastore, 1)) :
    ∃ T' h', Stand p l e R s m args below meth c T' (locs ++ [⟨a, i⟩]) cells slots ∧ T'.heap = h' ∧ Wr h h' a i (.int x) ∧ own_Av Z h' a .int n (fun t => .int (if t = i then x else f t)) ∧
      ∀ t, Steps p.tables e below (T'.setTop { g with pc := g.pc + 1, stack := rest }) t → Steps p.tables e below (T.setTop g) t := by
  have V' := V
  obtain ⟨-, cl, A, r1, r2⟩ := V
  obtain ⟨q1, q2⟩ := own_ix hj (n := cl.slots.size) (by rw [r1]; exact hi)
  obtain ⟨T', h', X', e', W', st⟩ := stI X hx hZ eT A q1 hg hs hd
  rw [q2] at X' W'
  exact ⟨T', h', X', e', W', (V'.same W').congr (fun j _ => by by_cases q : j = i <;> simp [q]), st⟩
theorem own_stB (X : Stand p l e R s m args below meth c T locs cells slots) (hx : p.tables.exec = Jvm.exec) (hZ : Z.Warmed39 s.vm) (eT : T.heap = h) {a : Addr} {n : Nat} {f : Nat → Int32} (V : own_Av Z h a .byte n (fun t => .int (f t))) {j x : Int32} {i : Nat} (hj : j.toInt = i) (hi : i < n)
    {g : JFrame} (hg : g.method = m) {rest : List Value} (hs : g.stack = .int x :: .int j :: .ref a :: rest) (hd : decode c.code g.pc = .ok (.bastore, 1)) :
    ∃ T' h', Stand p l e R s m args below meth c T' (locs ++ [⟨a, i⟩]) cells slots ∧ T'.heap = h' ∧ Wr h h' a i (.int (nar .byte x)) ∧ own_Av Z h' a .byte n (fun t => .int (if t = i then (nar .byte x) else f t)) ∧
      ∀ t, Steps p.tables e below (T'.setTop { g with pc := g.pc + 1, stack := rest }) t → Steps p.tables e below (T.setTop g) t := by
  have V' := V
  obtain ⟨-, cl, A, r1, r2⟩ := V
  obtain ⟨q1, q2⟩ := own_ix hj (n := cl.slots.size) (by rw [r1]; exact hi)
  obtain ⟨T', h', X', e', W', st⟩ := stB X hx hZ eT A q1 hg hs hd
  rw [q2] at X' W'
  exact ⟨T', h', X', e', W', (V'.same W').congr (fun j _ => by by_cases q : j = i <;> simp [q]), st⟩
theorem own_stJ (X : Stand p l e R s m args below meth c T locs cells slots) (hx : p.tables.exec = Jvm.exec) (hZ : Z.Warmed39 s.vm) (eT : T.heap = h) {a : Addr} {n : Nat} {f : Nat → Int64} (V : own_Av Z h a .long n (fun t => .long (f t))) {j : Int32} {x : Int64} {i : Nat} (hj : j.toInt = i) (hi : i < n)
    {g : JFrame} (hg : g.method = m) {rest : List Value} (hs : g.stack = .long x :: .int j :: .ref a :: rest) (hd : decode c.code g.pc = .ok (.lastore, 1)) :
    ∃ T' h', Stand p l e R s m args below meth c T' (locs ++ [⟨a, i⟩]) cells slots ∧ T'.heap = h' ∧ Wr h h' a i (.long x) ∧ own_Av Z h' a .long n (fun t => .long (if t = i then x else f t)) ∧
      ∀ t, Steps p.tables e below (T'.setTop { g with pc := g.pc + 1, stack := rest }) t → Steps p.tables e below (T.setTop g) t := by
  have V' := V
  obtain ⟨-, cl, A, r1, r2⟩ := V
  obtain ⟨q1, q2⟩ := own_ix hj (n := cl.slots.size) (by rw [r1]; exact hi)
  obtain ⟨T', h', X', e', W', st⟩ := stJ X hx hZ eT A q1 hg hs hd
  rw [q2] at X' W'
  exact ⟨T', h', X', e', W', (V'.same W').congr (fun j _ => by by_cases q : j = i <;> simp [q]), st⟩
/-- newarray: b is the fresh array's address -/
theorem own_newA (X : Stand p l e R s m args below meth c T locs cells slots) (hx : p.tables.exec = Jvm.exec) (hZ : Z.Warmed39 s.vm) {aty : ArrayType} (w : (Jvm.Cond.arrayClass (newarray.typeOf aty)).before a0 Z = true) (eT : T.heap = h) {g : JFrame} (hg : g.method = m) (hd : decode c.code g.pc = .ok (.newarray aty, 2)) {z : Int32} {rest : List Value} (hs : g.stack = .int z :: rest)
    {n cap : Nat} (hz : z.toInt = n) (hcap : n ≤ cap) (hb : cap * 8 ≤ 536870912) (hc : cells + 1 ≤ R.cells) (hl : slots + cap ≤ R.slots) :
    ∃ T' h' b, b = h.size ∧ Stand p l e R s m args below meth c T' locs (cells + 1) (slots + cap) ∧ T'.heap = h' ∧ Ext h h' ∧ own_Av Z h' b (newarray.typeOf aty) n (fun _ => defaultValue (newarray.typeOf aty)) ∧
      ∀ t, Steps p.tables e below (T'.setTop { g with pc := g.pc + 2, stack := .ref b :: rest }) t → Steps p.tables e below (T.setTop g) t := by
  have h1 : z.toNatClampNeg = n := by
    show z.toInt.toNat = n
    rw [hz]; rfl
  have h2 : ¬ z < 0 := by
    rw [Int32.lt_iff_toInt_lt, hz]
    have : (0 : Int32).toInt = 0 := by decide
    omega
  obtain ⟨T', h', cA, X', e', E', A', st⟩ := newP X hx hZ w eT hg hd hs h2 (cap := cap) (by omega) hb hc hl
  exact ⟨T', h', h.size, rfl, X', e', E', own_Av.new A' hz, st⟩
theorem own_nil {k : Nat} {L : List Loc} (N : Fr k L) {L' : List Loc} (q : L' = []) : Fr k (L ++ L') := by
  subst q
  rw [List.append_nil]
  exact N
/-- the walk's end, carried to the sheet -/
theorem own_cast {P : own_P} {kc ks : Nat} {A B : State} (q : A = B) (k : own_Go p e below s P kc ks B) : own_Go p e below s P kc ks A := q ▸ k
theorem own_bm {x : Int} (h1 : -2147483648 ≤ x) (h2 : x < 2147483648) : x.bmod (2 ^ 32) = x := by
  rw [Int.bmod_def]
  split <;> omega
theorem own_addN {a b : Int32} {i k : Nat} (ha : a.toInt = i) (hb : b.toInt = k) (hlt : i + k < 2147483648) : (a + b).toInt = ((i + k : Nat) : Int) := by
  rw [Int32.toInt_add, ha, hb, own_bm (by omega) (by omega)]
  omega
theorem own_add {a b : Int32} (h1 : -2147483648 ≤ a.toInt + b.toInt) (h2 : a.toInt + b.toInt < 2147483648) : (a + b).toInt = a.toInt + b.toInt := by
  rw [Int32.toInt_add, own_bm h1 h2]
theorem own_sub {a b : Int32} (h1 : -2147483648 ≤ a.toInt - b.toInt) (h2 : a.toInt - b.toInt < 2147483648) : (a - b).toInt = a.toInt - b.toInt := by
  rw [Int32.toInt_sub, own_bm h1 h2]
theorem own_mask (z K : Int32) {k : Nat} (hK : K.toInt = k) : ∃ i : Nat, (z &&& K).toInt = i ∧ i ≤ k := by
  have hk : K.toBitVec.toInt = k := hK
  have h1 : K.toBitVec.toNat = k := by
    rw [BitVec.toInt_eq_toNat_cond] at hk
    have := K.toBitVec.isLt
    split at hk <;> omega
  have h2 : 2 * K.toBitVec.toNat < 2 ^ 32 := by
    rw [BitVec.toInt_eq_toNat_cond] at hk
    have := K.toBitVec.isLt
    split at hk <;> omega
  have h3 : (z &&& K).toBitVec.toNat ≤ k := by
    show (z.toBitVec &&& K.toBitVec).toNat ≤ k
    rw [BitVec.toNat_and, ← h1]
    exact Nat.and_le_right
  refine ⟨(z &&& K).toBitVec.toNat, ?_, h3⟩
  show (z &&& K).toBitVec.toInt = _
  rw [BitVec.toInt_eq_toNat_cond, if_pos (by omega)]
theorem own_lt32 {a b : Int32} : a < b ↔ a.toInt < b.toInt := Int32.lt_iff_toInt_lt
theorem own_rem {a b : Int32} (ha : 0 ≤ a.toInt) (hb : 0 < b.toInt) : (a % b).toInt = a.toInt % b.toInt := by
  rw [Int32.toInt_mod]
  exact Int.tmod_eq_emod_of_nonneg ha
end OwnKit
def own_lt (a b : Int64) : Int64 := if a < b then 1 else 0
theorem own_cl {x y : Int64} : XT.cmpL x y < 0 ↔ x < y := by
  unfold XT.cmpL
  have h1 : ¬ ((1 : Int32) < 0) := by decide
  have h2 : ¬ ((0 : Int32) < 0) := by decide
  have h3 : ((-1 : Int32) < 0) := by decide
  by_cases q : y < x
  · rw [if_pos q]
    refine ⟨fun u => absurd u h1, fun u => ?_⟩
    rw [Int64.lt_iff_toInt_lt] at q u
    omega
  · rw [if_neg q]
    by_cases r : x = y
    · rw [if_pos r]
      refine ⟨fun u => absurd u h2, fun u => ?_⟩
      rw [r] at u
      rw [Int64.lt_iff_toInt_lt] at u
      omega
    · rw [if_neg r]
      refine ⟨fun _ => ?_, fun _ => h3⟩
      rw [Int64.lt_iff_toInt_lt] at q ⊢
      have r' : x.toInt ≠ y.toInt := fun u => r (Int64.toInt_inj.mp u)
      omega
theorem own_ce {x y : Int64} (h : x = y) : XT.cmpL x y = 0 := by
  subst h
  unfold XT.cmpL
  have q : ¬ x < x := by rw [Int64.lt_iff_toInt_lt]; omega
  rw [if_neg q, if_pos rfl]
theorem own_sh (z : BitVec 64) : z >>> 63 = if z.msb then 1#64 else 0#64 := by
  apply BitVec.eq_of_toNat_eq
  rw [BitVec.toNat_ushiftRight, Nat.shiftRight_eq_div_pow, BitVec.msb_eq_decide]
  have := z.isLt
  by_cases q : 2 ^ (64 - 1) ≤ z.toNat
  · simp only [q, decide_true, if_true]
    show z.toNat / 2 ^ 63 = 1
    omega
  · simp only [q, decide_false]
    show z.toNat / 2 ^ 63 = 0
    omega
theorem own_msb (a b : BitVec 64) : ((a - b) ^^^ ((a ^^^ b) &&& ((a - b) ^^^ a))).msb = decide (a.toInt < b.toInt) := by
  rw [BitVec.msb_xor, BitVec.msb_and, BitVec.msb_xor, BitVec.msb_xor]
  rw [BitVec.msb_eq_toInt, BitVec.msb_eq_toInt, BitVec.msb_eq_toInt, BitVec.toInt_sub]
  have h1 := BitVec.toInt_lt (x := a)
  have h2 := BitVec.le_toInt (x := a)
  have h3 := BitVec.toInt_lt (x := b)
  have h4 := BitVec.le_toInt (x := b)
  generalize a.toInt = x at *
  generalize b.toInt = y at *
  have hd : (x - y).bmod (2 ^ 64) < 0 ↔ (if x - y < -9223372036854775808 then False else if x - y < 0 then True else if x - y < 9223372036854775808 then False else True) := by
    rw [Int.bmod_def]
    split <;> split <;> (try split) <;> (try split) <;> simp <;> omega
  by_cases c1 : x < 0 <;> by_cases c2 : y < 0 <;> by_cases c3 : x < y <;> by_cases c4 : (x - y).bmod (2 ^ 64) < 0 <;> simp [c1, c2, c3, c4] <;> (rw [hd] at c4; split at c4 <;> (try split at c4) <;> (try split at c4) <;> first | omega | (simp at c4; done) | (simp at c4; omega))
theorem own_below (a b : Int64) : XT.ushrL ((a - b) ^^^ ((a ^^^ b) &&& ((a - b) ^^^ a))) (63 : Int32) = own_lt a b := by
  have h1 : ∀ z : Int64, (XT.ushrL z (63 : Int32)).toBitVec = z.toBitVec >>> 63 := fun z => rfl
  apply Int64.toBitVec_inj.mp
  rw [h1, own_sh]
  have h2 : ((a - b) ^^^ ((a ^^^ b) &&& ((a - b) ^^^ a))).toBitVec = (a.toBitVec - b.toBitVec) ^^^ ((a.toBitVec ^^^ b.toBitVec) &&& ((a.toBitVec - b.toBitVec) ^^^ a.toBitVec)) := rfl
  rw [h2, own_msb]
  unfold own_lt
  by_cases q : a < b
  · have q' : a.toBitVec.toInt < b.toBitVec.toInt := Int64.lt_iff_toInt_lt.mp q
    rw [if_pos q]
    simp only [q', decide_true, if_true]
    rfl
  · have q' : ¬ a.toBitVec.toInt < b.toBitVec.toInt := fun u => q (Int64.lt_iff_toInt_lt.mpr u)
    rw [if_neg q]
    simp only [q', decide_false]
    rfl
theorem own_l1 {a b : Int64} (q : a < b) : own_lt a b = 1 := if_pos q
theorem own_l0 {a b : Int64} (q : ¬ a < b) : own_lt a b = 0 := if_neg q
theorem own_d0_0 : decode prog_57_method_19_code 0 = .ok (.lload_n 0, 1) := by decide +kernel
theorem own_d0_1 : decode prog_57_method_19_code 1 = .ok (.lload_n 2, 1) := by decide +kernel
theorem own_d0_2 : decode prog_57_method_19_code 2 = .ok (.lsub, 1) := by decide +kernel
theorem own_d0_3 : decode prog_57_method_19_code 3 = .ok (.lstore 4, 2) := by decide +kernel
theorem own_d0_5 : decode prog_57_method_19_code 5 = .ok (.lload 4, 2) := by decide +kernel
theorem own_d0_7 : decode prog_57_method_19_code 7 = .ok (.lload_n 0, 1) := by decide +kernel
theorem own_d0_8 : decode prog_57_method_19_code 8 = .ok (.lload_n 2, 1) := by decide +kernel
theorem own_d0_9 : decode prog_57_method_19_code 9 = .ok (.lxor, 1) := by decide +kernel
theorem own_d0_10 : decode prog_57_method_19_code 10 = .ok (.lload 4, 2) := by decide +kernel
theorem own_d0_12 : decode prog_57_method_19_code 12 = .ok (.lload_n 0, 1) := by decide +kernel
theorem own_d0_13 : decode prog_57_method_19_code 13 = .ok (.lxor, 1) := by decide +kernel
theorem own_d0_14 : decode prog_57_method_19_code 14 = .ok (.land, 1) := by decide +kernel
theorem own_d0_15 : decode prog_57_method_19_code 15 = .ok (.lxor, 1) := by decide +kernel
theorem own_d0_16 : decode prog_57_method_19_code 16 = .ok (.bipush 63, 2) := by decide +kernel
theorem own_d0_18 : decode prog_57_method_19_code 18 = .ok (.lushr, 1) := by decide +kernel
theorem own_d0_19 : decode prog_57_method_19_code 19 = .ok (.lreturn, 1) := by decide +kernel
theorem own_pn0 : plainName "org/crestline/match/SkippingTraversal" = true := by first | (simp [plainName, overriddenIn]; done) | decide +kernel
theorem own_ef0 (m : MethodId) (x0 : Int64) (x1 : Int64) : entryFrame m #[(.long x0), (.long x1)] 6 = mkF m 0 #[.val (.long x0), .second, .val (.long x1), .second, .unset, .unset] [] := by first | (simp [entryFrame, mkF, argsToLocals, Value.category]; done) | rfl
set_option maxRecDepth 65536 in
set_option maxHeartbeats 40000000 in
theorem own_rm1 (l : Launch) (Z : State) (a0 : Array Value) (hw : ∀ d ∈ tables_1, d.before a0 Z = true) (q1 q2 : Int64) (h0 : Heap) (n0 : Nat) (Z0 : n0 ≤ h0.size)  :
    own_Met l Z (⟨"org/crestline/match/SkippingTraversal", "below", "(JJ)J"⟩ : MethodName) prog_57_method_19_code 6 (some .long) ({ frames := 0, cells := 0, slots := 0, locals := 0 } : Room) #[(.long q1), (.long q2)] h0 (fun v h' L => v = some (.long (own_lt q1 q2)) ∧ h' = h0 ∧ L = []) := by
  refine own_in own_pn0 ?_
  intro p e s m below meth c s₁ hx hby hml hown hnm hlk hret hZ X0 e0
  have N0 := Fr.nil n0
  refine own_ef (own_ef0 m q1 q2) ?_
  show own_Go p e below s _ _ _ (s₁.setTop (mkF m 0 #[.val (.long q1), .second, .val (.long q2), .second, .unset, .unset] []))
  refine own_st (fun _ k => XS.lloadN X0.here hx rfl (hb hby own_d0_0) rfl k) ?_
  show own_Go p e below s _ _ _ (s₁.setTop (mkF m 1 #[.val (.long q1), .second, .val (.long q2), .second, .unset, .unset] [(.long q1)]))
  refine own_st (fun _ k => XS.lloadN X0.here hx rfl (hb hby own_d0_1) rfl k) ?_
  show own_Go p e below s _ _ _ (s₁.setTop (mkF m 2 #[.val (.long q1), .second, .val (.long q2), .second, .unset, .unset] [(.long q2), (.long q1)]))
  refine own_st (fun _ k => XS.lsub X0.here hx rfl (hb hby own_d0_2) rfl k) ?_
  show own_Go p e below s _ _ _ (s₁.setTop (mkF m 3 #[.val (.long q1), .second, .val (.long q2), .second, .unset, .unset] [(.long (q1 - q2))]))
  refine own_st (fun _ k => XS.lstore X0.here hx rfl (hb hby own_d0_3) rfl (l' := #[.val (.long q1), .second, .val (.long q2), .second, .val (.long (q1 - q2)), .second]) rfl k) ?_
  show own_Go p e below s _ _ _ (s₁.setTop (mkF m 5 #[.val (.long q1), .second, .val (.long q2), .second, .val (.long (q1 - q2)), .second] []))
  refine own_st (fun _ k => XS.lload X0.here hx rfl (hb hby own_d0_5) rfl k) ?_
  show own_Go p e below s _ _ _ (s₁.setTop (mkF m 7 #[.val (.long q1), .second, .val (.long q2), .second, .val (.long (q1 - q2)), .second] [(.long (q1 - q2))]))
  refine own_st (fun _ k => XS.lloadN X0.here hx rfl (hb hby own_d0_7) rfl k) ?_
  show own_Go p e below s _ _ _ (s₁.setTop (mkF m 8 #[.val (.long q1), .second, .val (.long q2), .second, .val (.long (q1 - q2)), .second] [(.long q1), (.long (q1 - q2))]))
  refine own_st (fun _ k => XS.lloadN X0.here hx rfl (hb hby own_d0_8) rfl k) ?_
  show own_Go p e below s _ _ _ (s₁.setTop (mkF m 9 #[.val (.long q1), .second, .val (.long q2), .second, .val (.long (q1 - q2)), .second] [(.long q2), (.long q1), (.long (q1 - q2))]))
  refine own_st (fun _ k => XS.lxor X0.here hx rfl (hb hby own_d0_9) rfl k) ?_
  show own_Go p e below s _ _ _ (s₁.setTop (mkF m 10 #[.val (.long q1), .second, .val (.long q2), .second, .val (.long (q1 - q2)), .second] [(.long (q1 ^^^ q2)), (.long (q1 - q2))]))
  refine own_st (fun _ k => XS.lload X0.here hx rfl (hb hby own_d0_10) rfl k) ?_
  show own_Go p e below s _ _ _ (s₁.setTop (mkF m 12 #[.val (.long q1), .second, .val (.long q2), .second, .val (.long (q1 - q2)), .second] [(.long (q1 - q2)), (.long (q1 ^^^ q2)), (.long (q1 - q2))]))
  refine own_st (fun _ k => XS.lloadN X0.here hx rfl (hb hby own_d0_12) rfl k) ?_
  show own_Go p e below s _ _ _ (s₁.setTop (mkF m 13 #[.val (.long q1), .second, .val (.long q2), .second, .val (.long (q1 - q2)), .second] [(.long q1), (.long (q1 - q2)), (.long (q1 ^^^ q2)), (.long (q1 - q2))]))
  refine own_st (fun _ k => XS.lxor X0.here hx rfl (hb hby own_d0_13) rfl k) ?_
  show own_Go p e below s _ _ _ (s₁.setTop (mkF m 14 #[.val (.long q1), .second, .val (.long q2), .second, .val (.long (q1 - q2)), .second] [(.long ((q1 - q2) ^^^ q1)), (.long (q1 ^^^ q2)), (.long (q1 - q2))]))
  refine own_st (fun _ k => XS.land X0.here hx rfl (hb hby own_d0_14) rfl k) ?_
  show own_Go p e below s _ _ _ (s₁.setTop (mkF m 15 #[.val (.long q1), .second, .val (.long q2), .second, .val (.long (q1 - q2)), .second] [(.long ((q1 ^^^ q2) &&& ((q1 - q2) ^^^ q1))), (.long (q1 - q2))]))
  refine own_st (fun _ k => XS.lxor X0.here hx rfl (hb hby own_d0_15) rfl k) ?_
  show own_Go p e below s _ _ _ (s₁.setTop (mkF m 16 #[.val (.long q1), .second, .val (.long q2), .second, .val (.long (q1 - q2)), .second] [(.long ((q1 - q2) ^^^ ((q1 ^^^ q2) &&& ((q1 - q2) ^^^ q1))))]))
  refine own_st (fun _ k => XS.bipush X0.here hx rfl (hb hby own_d0_16) k) ?_
  show own_Go p e below s _ _ _ (s₁.setTop (mkF m 18 #[.val (.long q1), .second, .val (.long q2), .second, .val (.long (q1 - q2)), .second] [(.int (63 : Int32)), (.long ((q1 - q2) ^^^ ((q1 ^^^ q2) &&& ((q1 - q2) ^^^ q1))))]))
  refine own_st (fun _ k => XT.lushr X0.here hx rfl (hb hby own_d0_18) rfl k) ?_
  show own_Go p e below s _ _ _ (s₁.setTop (mkF m 19 #[.val (.long q1), .second, .val (.long q2), .second, .val (.long (q1 - q2)), .second] [(.long (XT.ushrL ((q1 - q2) ^^^ ((q1 ^^^ q2) &&& ((q1 - q2) ^^^ q1))) (63 : Int32)))]))
  exact own_endJ X0 hx hlk hret (hb hby own_d0_19) ⟨by rw [own_below], e0, rfl⟩ (by decide) (by decide)
theorem own_pd0 : parseMethodDescriptor "(JJ)J" = some ⟨[.long, .long], some .long⟩ := by decide +kernel
theorem own_pn1 : plainName "org/crestline/match/SkippingTraversalBelowPinLaw" = true := by first | (simp [plainName, overriddenIn]; done) | decide +kernel
theorem own_ef1 (m : MethodId) (x0 : Int64) (x1 : Int64) (x2 : Int32) : entryFrame m #[(.long x0), (.long x1), (.int x2)] maxLocals = mkF m 0 #[.val (.long x0), .second, .val (.long x1), .second, .val (.int x2), .unset, .unset, .unset, .unset, .unset, .unset, .unset, .unset, .unset, .unset, .unset] [] := by first | (simp [entryFrame, mkF, argsToLocals, Value.category, maxLocals]; done) | rfl
set_option maxRecDepth 65536 in
set_option maxHeartbeats 40000000 in
theorem own_rm0 (l : Launch) (Z : State) (a0 : Array Value) (hw : ∀ d ∈ tables_1, d.before a0 Z = true) (ax ay : Int64) (mode : Int32) (h0 : Heap) (n0 : Nat) (Z0 : n0 ≤ h0.size)  :
    own_Met l Z x code maxLocals ret room_1 #[(.long ax), (.long ay), (.int mode)] h0 (fun v h' L => v = some (.int 1) ∧ Fr n0 L) := by
  refine own_in own_pn1 ?_
  intro p e s m below meth c s₁ hx hby hml hown hnm hlk hret hZ X0 e0
  have N0 := Fr.nil n0
  refine own_ef (own_ef1 m ax ay mode) ?_
  show own_Go p e below s _ _ _ (s₁.setTop (mkF m 0 #[.val (.long ax), .second, .val (.long ay), .second, .val (.int mode), .unset, .unset, .unset, .unset, .unset, .unset, .unset, .unset, .unset, .unset, .unset] []))
  refine own_st (fun _ k => XS.iload X0.here hx rfl (hb hby at_0) rfl k) ?_
  show own_Go p e below s _ _ _ (s₁.setTop (mkF m 2 #[.val (.long ax), .second, .val (.long ay), .second, .val (.int mode), .unset, .unset, .unset, .unset, .unset, .unset, .unset, .unset, .unset, .unset, .unset] [(.int mode)]))
  refine own_st (fun _ k => XS.iconst X0.here hx rfl (hb hby at_2) k) ?_
  show own_Go p e below s _ _ _ (s₁.setTop (mkF m 3 #[.val (.long ax), .second, .val (.long ay), .second, .val (.int mode), .unset, .unset, .unset, .unset, .unset, .unset, .unset, .unset, .unset, .unset, .unset] [(.int (3 : Int32)), (.int mode)]))
  refine own_st (fun _ k => XS.iand X0.here hx rfl (hb hby at_3) rfl k) ?_
  show own_Go p e below s _ _ _ (s₁.setTop (mkF m 4 #[.val (.long ax), .second, .val (.long ay), .second, .val (.int mode), .unset, .unset, .unset, .unset, .unset, .unset, .unset, .unset, .unset, .unset, .unset] [(.int (mode &&& (3 : Int32)))]))
  refine own_st (fun _ k => XS.istore X0.here hx rfl (hb hby at_4) rfl (l' := #[.val (.long ax), .second, .val (.long ay), .second, .val (.int mode), .val (.int (mode &&& (3 : Int32))), .unset, .unset, .unset, .unset, .unset, .unset, .unset, .unset, .unset, .unset]) rfl k) ?_
  show own_Go p e below s _ _ _ (s₁.setTop (mkF m 6 #[.val (.long ax), .second, .val (.long ay), .second, .val (.int mode), .val (.int (mode &&& (3 : Int32))), .unset, .unset, .unset, .unset, .unset, .unset, .unset, .unset, .unset, .unset] []))
  refine own_st (fun _ k => XS.lloadN X0.here hx rfl (hb hby at_6) rfl k) ?_
  show own_Go p e below s _ _ _ (s₁.setTop (mkF m 7 #[.val (.long ax), .second, .val (.long ay), .second, .val (.int mode), .val (.int (mode &&& (3 : Int32))), .unset, .unset, .unset, .unset, .unset, .unset, .unset, .unset, .unset, .unset] [(.long ay)]))
  refine own_st (fun _ k => XS.lstore X0.here hx rfl (hb hby at_7) rfl (l' := #[.val (.long ax), .second, .val (.long ay), .second, .val (.int mode), .val (.int (mode &&& (3 : Int32))), .val (.long ay), .second, .unset, .unset, .unset, .unset, .unset, .unset, .unset, .unset]) rfl k) ?_
  show own_Go p e below s _ _ _ (s₁.setTop (mkF m 9 #[.val (.long ax), .second, .val (.long ay), .second, .val (.int mode), .val (.int (mode &&& (3 : Int32))), .val (.long ay), .second, .unset, .unset, .unset, .unset, .unset, .unset, .unset, .unset] []))
  refine own_st (fun _ k => XS.iload X0.here hx rfl (hb hby at_9) rfl k) ?_
  show own_Go p e below s _ _ _ (s₁.setTop (mkF m 11 #[.val (.long ax), .second, .val (.long ay), .second, .val (.int mode), .val (.int (mode &&& (3 : Int32))), .val (.long ay), .second, .unset, .unset, .unset, .unset, .unset, .unset, .unset, .unset] [(.int (mode &&& (3 : Int32)))]))
  refine own_st (fun _ k => XS.iconst X0.here hx rfl (hb hby at_11) k) ?_
  show own_Go p e below s _ _ _ (s₁.setTop (mkF m 12 #[.val (.long ax), .second, .val (.long ay), .second, .val (.int mode), .val (.int (mode &&& (3 : Int32))), .val (.long ay), .second, .unset, .unset, .unset, .unset, .unset, .unset, .unset, .unset] [(.int (1 : Int32)), (.int (mode &&& (3 : Int32)))]))
  have J : ∀ b : Int64, own_Go p e below s (fun v h' L => v = some (.int 1) ∧ Fr n0 L) room_1.cells room_1.slots (s₁.setTop (mkF m 48 #[.val (.long ax), .second, .val (.long ay), .second, .val (.int mode), .val (.int (mode &&& (3 : Int32))), .val (.long b), .second, .unset, .unset, .unset, .unset, .unset, .unset, .unset, .unset] [])) := by
    intro b
    show own_Go p e below s _ _ _ (s₁.setTop (mkF m 48 #[.val (.long ax), .second, .val (.long ay), .second, .val (.int mode), .val (.int (mode &&& (3 : Int32))), .val (.long b), .second, .unset, .unset, .unset, .unset, .unset, .unset, .unset, .unset] []))
    refine own_st (fun _ k => XS.lloadN X0.here hx rfl (hb hby at_48) rfl k) ?_
    show own_Go p e below s _ _ _ (s₁.setTop (mkF m 49 #[.val (.long ax), .second, .val (.long ay), .second, .val (.int mode), .val (.int (mode &&& (3 : Int32))), .val (.long b), .second, .unset, .unset, .unset, .unset, .unset, .unset, .unset, .unset] [(.long ax)]))
    refine own_st (fun _ k => XS.lload X0.here hx rfl (hb hby at_49) rfl k) ?_
    show own_Go p e below s _ _ _ (s₁.setTop (mkF m 51 #[.val (.long ax), .second, .val (.long ay), .second, .val (.int mode), .val (.int (mode &&& (3 : Int32))), .val (.long b), .second, .unset, .unset, .unset, .unset, .unset, .unset, .unset, .unset] [(.long b), (.long ax)]))
    refine own_cS X0 hx hml hZ hown (hw _ (List.mem_of_getElem? (i := 0) rfl)) (hw _ (List.mem_of_getElem? (i := 1) rfl)) (hw _ (List.mem_of_getElem? (i := 2) rfl)) (hw _ (List.mem_of_getElem? (i := 3) rfl)) (by decide) (own_rm1 l Z a0 hw ax b h0 n0 Z0) e0 (by decide) (W := 0) (by decide) (g := (mkF m 51 #[.val (.long ax), .second, .val (.long ay), .second, .val (.int mode), .val (.int (mode &&& (3 : Int32))), .val (.long b), .second, .unset, .unset, .unset, .unset, .unset, .unset, .unset, .unset] [(.long b), (.long ax)])) rfl rfl own_pd0 (argsL := [(.long ax), (.long b)]) (rest := []) rfl rfl rfl (by show 2 * 0 + _ ≤ _; exact Nat.le_of_eq rfl) (hb hby at_51) (by decide) (by decide) ?_
    intro T1 L1 v1 X1 hQ1
    obtain ⟨rfl, eh1, le1⟩ := hQ1
    have N1 := own_nil N0 le1
    show own_Go p e below s _ _ _ (T1.setTop (mkF m 54 #[.val (.long ax), .second, .val (.long ay), .second, .val (.int mode), .val (.int (mode &&& (3 : Int32))), .val (.long b), .second, .unset, .unset, .unset, .unset, .unset, .unset, .unset, .unset] [(.long (own_lt ax b))]))
    refine own_st (fun _ k => XS.lstore X1.here hx rfl (hb hby at_54) rfl (l' := #[.val (.long ax), .second, .val (.long ay), .second, .val (.int mode), .val (.int (mode &&& (3 : Int32))), .val (.long b), .second, .val (.long (own_lt ax b)), .second, .unset, .unset, .unset, .unset, .unset, .unset]) rfl k) ?_
    show own_Go p e below s _ _ _ (T1.setTop (mkF m 56 #[.val (.long ax), .second, .val (.long ay), .second, .val (.int mode), .val (.int (mode &&& (3 : Int32))), .val (.long b), .second, .val (.long (own_lt ax b)), .second, .unset, .unset, .unset, .unset, .unset, .unset] []))
    refine own_st (fun _ k => XS.lload X1.here hx rfl (hb hby at_56) rfl k) ?_
    show own_Go p e below s _ _ _ (T1.setTop (mkF m 58 #[.val (.long ax), .second, .val (.long ay), .second, .val (.int mode), .val (.int (mode &&& (3 : Int32))), .val (.long b), .second, .val (.long (own_lt ax b)), .second, .unset, .unset, .unset, .unset, .unset, .unset] [(.long b)]))
    refine own_st (fun _ k => XS.lloadN X1.here hx rfl (hb hby at_58) rfl k) ?_
    show own_Go p e below s _ _ _ (T1.setTop (mkF m 59 #[.val (.long ax), .second, .val (.long ay), .second, .val (.int mode), .val (.int (mode &&& (3 : Int32))), .val (.long b), .second, .val (.long (own_lt ax b)), .second, .unset, .unset, .unset, .unset, .unset, .unset] [(.long ax), (.long b)]))
    refine own_cS X1 hx hml hZ hown (hw _ (List.mem_of_getElem? (i := 0) rfl)) (hw _ (List.mem_of_getElem? (i := 1) rfl)) (hw _ (List.mem_of_getElem? (i := 2) rfl)) (hw _ (List.mem_of_getElem? (i := 3) rfl)) (by decide) (own_rm1 l Z a0 hw b ax h0 n0 Z0) eh1 (by decide) (W := 0) (by decide) (g := (mkF m 59 #[.val (.long ax), .second, .val (.long ay), .second, .val (.int mode), .val (.int (mode &&& (3 : Int32))), .val (.long b), .second, .val (.long (own_lt ax b)), .second, .unset, .unset, .unset, .unset, .unset, .unset] [(.long ax), (.long b)])) rfl rfl own_pd0 (argsL := [(.long b), (.long ax)]) (rest := []) rfl rfl rfl (by show 2 * 0 + _ ≤ _; exact Nat.le_of_eq rfl) (hb hby at_59) (by decide) (by decide) ?_
    intro T2 L2 v2 X2 hQ2
    obtain ⟨rfl, eh2, le2⟩ := hQ2
    have N2 := own_nil N1 le2
    show own_Go p e below s _ _ _ (T2.setTop (mkF m 62 #[.val (.long ax), .second, .val (.long ay), .second, .val (.int mode), .val (.int (mode &&& (3 : Int32))), .val (.long b), .second, .val (.long (own_lt ax b)), .second, .unset, .unset, .unset, .unset, .unset, .unset] [(.long (own_lt b ax))]))
    refine own_st (fun _ k => XS.lstore X2.here hx rfl (hb hby at_62) rfl (l' := #[.val (.long ax), .second, .val (.long ay), .second, .val (.int mode), .val (.int (mode &&& (3 : Int32))), .val (.long b), .second, .val (.long (own_lt ax b)), .second, .val (.long (own_lt b ax)), .second, .unset, .unset, .unset, .unset]) rfl k) ?_
    show own_Go p e below s _ _ _ (T2.setTop (mkF m 64 #[.val (.long ax), .second, .val (.long ay), .second, .val (.int mode), .val (.int (mode &&& (3 : Int32))), .val (.long b), .second, .val (.long (own_lt ax b)), .second, .val (.long (own_lt b ax)), .second, .unset, .unset, .unset, .unset] []))
    refine own_st (fun _ k => XS.lloadN X2.here hx rfl (hb hby at_64) rfl k) ?_
    show own_Go p e below s _ _ _ (T2.setTop (mkF m 65 #[.val (.long ax), .second, .val (.long ay), .second, .val (.int mode), .val (.int (mode &&& (3 : Int32))), .val (.long b), .second, .val (.long (own_lt ax b)), .second, .val (.long (own_lt b ax)), .second, .unset, .unset, .unset, .unset] [(.long ax)]))
    refine own_st (fun _ k => XS.lload X2.here hx rfl (hb hby at_65) rfl k) ?_
    show own_Go p e below s _ _ _ (T2.setTop (mkF m 67 #[.val (.long ax), .second, .val (.long ay), .second, .val (.int mode), .val (.int (mode &&& (3 : Int32))), .val (.long b), .second, .val (.long (own_lt ax b)), .second, .val (.long (own_lt b ax)), .second, .unset, .unset, .unset, .unset] [(.long b), (.long ax)]))
    refine own_st (fun _ k => XT.lcmp X2.here hx rfl (hb hby at_67) rfl k) ?_
    show own_Go p e below s _ _ _ (T2.setTop (mkF m 68 #[.val (.long ax), .second, .val (.long ay), .second, .val (.int mode), .val (.int (mode &&& (3 : Int32))), .val (.long b), .second, .val (.long (own_lt ax b)), .second, .val (.long (own_lt b ax)), .second, .unset, .unset, .unset, .unset] [(.int (XT.cmpL ax b))]))
    rcases Classical.em ((XT.cmpL ax b) < (0 : Int32)) with c1 | c1
    · show own_Go p e below s _ _ _ (T2.setTop (mkF m 68 #[.val (.long ax), .second, .val (.long ay), .second, .val (.int mode), .val (.int (mode &&& (3 : Int32))), .val (.long b), .second, .val (.long (own_lt ax b)), .second, .val (.long (own_lt b ax)), .second, .unset, .unset, .unset, .unset] [(.int (XT.cmpL ax b))]))
      refine own_st (fun _ k => XS.ifNo X2.here hx rfl (hb hby at_68) rfl ((if0 _ _).trans (tlt c1).2.1) k) ?_
      show own_Go p e below s _ _ _ (T2.setTop (mkF m 71 #[.val (.long ax), .second, .val (.long ay), .second, .val (.int mode), .val (.int (mode &&& (3 : Int32))), .val (.long b), .second, .val (.long (own_lt ax b)), .second, .val (.long (own_lt b ax)), .second, .unset, .unset, .unset, .unset] []))
      refine own_st (fun _ k => XS.lconst X2.here hx rfl (hb hby at_71) k) ?_
      show own_Go p e below s _ _ _ (T2.setTop (mkF m 72 #[.val (.long ax), .second, .val (.long ay), .second, .val (.int mode), .val (.int (mode &&& (3 : Int32))), .val (.long b), .second, .val (.long (own_lt ax b)), .second, .val (.long (own_lt b ax)), .second, .unset, .unset, .unset, .unset] [(.long (1 : Int64))]))
      refine own_st (fun _ k => XS.goto X2.here hx rfl (pc0 := 72) (pc' := 76) rfl (hb hby at_72) (by decide) (by decide) k) ?_
      show own_Go p e below s _ _ _ (T2.setTop (mkF m 76 #[.val (.long ax), .second, .val (.long ay), .second, .val (.int mode), .val (.int (mode &&& (3 : Int32))), .val (.long b), .second, .val (.long (own_lt ax b)), .second, .val (.long (own_lt b ax)), .second, .unset, .unset, .unset, .unset] [(.long (1 : Int64))]))
      refine own_st (fun _ k => XS.lstore X2.here hx rfl (hb hby at_76) rfl (l' := #[.val (.long ax), .second, .val (.long ay), .second, .val (.int mode), .val (.int (mode &&& (3 : Int32))), .val (.long b), .second, .val (.long (own_lt ax b)), .second, .val (.long (own_lt b ax)), .second, .val (.long (1 : Int64)), .second, .unset, .unset]) rfl k) ?_
      show own_Go p e below s _ _ _ (T2.setTop (mkF m 78 #[.val (.long ax), .second, .val (.long ay), .second, .val (.int mode), .val (.int (mode &&& (3 : Int32))), .val (.long b), .second, .val (.long (own_lt ax b)), .second, .val (.long (own_lt b ax)), .second, .val (.long (1 : Int64)), .second, .unset, .unset] []))
      refine own_st (fun _ k => XS.lload X2.here hx rfl (hb hby at_78) rfl k) ?_
      show own_Go p e below s _ _ _ (T2.setTop (mkF m 80 #[.val (.long ax), .second, .val (.long ay), .second, .val (.int mode), .val (.int (mode &&& (3 : Int32))), .val (.long b), .second, .val (.long (own_lt ax b)), .second, .val (.long (own_lt b ax)), .second, .val (.long (1 : Int64)), .second, .unset, .unset] [(.long b)]))
      refine own_st (fun _ k => XS.lloadN X2.here hx rfl (hb hby at_80) rfl k) ?_
      show own_Go p e below s _ _ _ (T2.setTop (mkF m 81 #[.val (.long ax), .second, .val (.long ay), .second, .val (.int mode), .val (.int (mode &&& (3 : Int32))), .val (.long b), .second, .val (.long (own_lt ax b)), .second, .val (.long (own_lt b ax)), .second, .val (.long (1 : Int64)), .second, .unset, .unset] [(.long ax), (.long b)]))
      refine own_st (fun _ k => XT.lcmp X2.here hx rfl (hb hby at_81) rfl k) ?_
      show own_Go p e below s _ _ _ (T2.setTop (mkF m 82 #[.val (.long ax), .second, .val (.long ay), .second, .val (.int mode), .val (.int (mode &&& (3 : Int32))), .val (.long b), .second, .val (.long (own_lt ax b)), .second, .val (.long (own_lt b ax)), .second, .val (.long (1 : Int64)), .second, .unset, .unset] [(.int (XT.cmpL b ax))]))
      rcases Classical.em ((XT.cmpL b ax) < (0 : Int32)) with c2 | c2
      · show own_Go p e below s _ _ _ (T2.setTop (mkF m 82 #[.val (.long ax), .second, .val (.long ay), .second, .val (.int mode), .val (.int (mode &&& (3 : Int32))), .val (.long b), .second, .val (.long (own_lt ax b)), .second, .val (.long (own_lt b ax)), .second, .val (.long (1 : Int64)), .second, .unset, .unset] [(.int (XT.cmpL b ax))]))
        refine own_st (fun _ k => XS.ifNo X2.here hx rfl (hb hby at_82) rfl ((if0 _ _).trans (tlt c2).2.1) k) ?_
        show own_Go p e below s _ _ _ (T2.setTop (mkF m 85 #[.val (.long ax), .second, .val (.long ay), .second, .val (.int mode), .val (.int (mode &&& (3 : Int32))), .val (.long b), .second, .val (.long (own_lt ax b)), .second, .val (.long (own_lt b ax)), .second, .val (.long (1 : Int64)), .second, .unset, .unset] []))
        exact absurd (own_cl.mp c1) (by have := own_cl.mp c2; rw [Int64.lt_iff_toInt_lt] at *; omega)
      · show own_Go p e below s _ _ _ (T2.setTop (mkF m 82 #[.val (.long ax), .second, .val (.long ay), .second, .val (.int mode), .val (.int (mode &&& (3 : Int32))), .val (.long b), .second, .val (.long (own_lt ax b)), .second, .val (.long (own_lt b ax)), .second, .val (.long (1 : Int64)), .second, .unset, .unset] [(.int (XT.cmpL b ax))]))
        refine own_st (fun _ k => XS.ifYes X2.here hx rfl (pc0 := 82) (pc' := 89) rfl (hb hby at_82) rfl ((if0 _ _).trans (flt c2).2.1) (by decide) (by decide) k) ?_
        show own_Go p e below s _ _ _ (T2.setTop (mkF m 89 #[.val (.long ax), .second, .val (.long ay), .second, .val (.int mode), .val (.int (mode &&& (3 : Int32))), .val (.long b), .second, .val (.long (own_lt ax b)), .second, .val (.long (own_lt b ax)), .second, .val (.long (1 : Int64)), .second, .unset, .unset] []))
        refine own_st (fun _ k => XS.lconst X2.here hx rfl (hb hby at_89) k) ?_
        show own_Go p e below s _ _ _ (T2.setTop (mkF m 90 #[.val (.long ax), .second, .val (.long ay), .second, .val (.int mode), .val (.int (mode &&& (3 : Int32))), .val (.long b), .second, .val (.long (own_lt ax b)), .second, .val (.long (own_lt b ax)), .second, .val (.long (1 : Int64)), .second, .unset, .unset] [(.long (0 : Int64))]))
        refine own_st (fun _ k => XS.lstore X2.here hx rfl (hb hby at_90) rfl (l' := #[.val (.long ax), .second, .val (.long ay), .second, .val (.int mode), .val (.int (mode &&& (3 : Int32))), .val (.long b), .second, .val (.long (own_lt ax b)), .second, .val (.long (own_lt b ax)), .second, .val (.long (1 : Int64)), .second, .val (.long (0 : Int64)), .second]) rfl k) ?_
        show own_Go p e below s _ _ _ (T2.setTop (mkF m 92 #[.val (.long ax), .second, .val (.long ay), .second, .val (.int mode), .val (.int (mode &&& (3 : Int32))), .val (.long b), .second, .val (.long (own_lt ax b)), .second, .val (.long (own_lt b ax)), .second, .val (.long (1 : Int64)), .second, .val (.long (0 : Int64)), .second] []))
        refine own_st (fun _ k => XS.lload X2.here hx rfl (hb hby at_92) rfl k) ?_
        show own_Go p e below s _ _ _ (T2.setTop (mkF m 94 #[.val (.long ax), .second, .val (.long ay), .second, .val (.int mode), .val (.int (mode &&& (3 : Int32))), .val (.long b), .second, .val (.long (own_lt ax b)), .second, .val (.long (own_lt b ax)), .second, .val (.long (1 : Int64)), .second, .val (.long (0 : Int64)), .second] [(.long (own_lt ax b))]))
        refine own_st (fun _ k => XS.lload X2.here hx rfl (hb hby at_94) rfl k) ?_
        show own_Go p e below s _ _ _ (T2.setTop (mkF m 96 #[.val (.long ax), .second, .val (.long ay), .second, .val (.int mode), .val (.int (mode &&& (3 : Int32))), .val (.long b), .second, .val (.long (own_lt ax b)), .second, .val (.long (own_lt b ax)), .second, .val (.long (1 : Int64)), .second, .val (.long (0 : Int64)), .second] [(.long (1 : Int64)), (.long (own_lt ax b))]))
        refine own_st (fun _ k => XT.lcmp X2.here hx rfl (hb hby at_96) rfl k) ?_
        show own_Go p e below s _ _ _ (T2.setTop (mkF m 97 #[.val (.long ax), .second, .val (.long ay), .second, .val (.int mode), .val (.int (mode &&& (3 : Int32))), .val (.long b), .second, .val (.long (own_lt ax b)), .second, .val (.long (own_lt b ax)), .second, .val (.long (1 : Int64)), .second, .val (.long (0 : Int64)), .second] [(.int (XT.cmpL (own_lt ax b) (1 : Int64)))]))
        refine own_st (fun _ k => XS.ifNo X2.here hx rfl (hb hby at_97) rfl ((if0 _ _).trans (teq (own_ce (own_l1 (own_cl.mp c1)))).2) k) ?_
        show own_Go p e below s _ _ _ (T2.setTop (mkF m 100 #[.val (.long ax), .second, .val (.long ay), .second, .val (.int mode), .val (.int (mode &&& (3 : Int32))), .val (.long b), .second, .val (.long (own_lt ax b)), .second, .val (.long (own_lt b ax)), .second, .val (.long (1 : Int64)), .second, .val (.long (0 : Int64)), .second] []))
        refine own_st (fun _ k => XS.lload X2.here hx rfl (hb hby at_100) rfl k) ?_
        show own_Go p e below s _ _ _ (T2.setTop (mkF m 102 #[.val (.long ax), .second, .val (.long ay), .second, .val (.int mode), .val (.int (mode &&& (3 : Int32))), .val (.long b), .second, .val (.long (own_lt ax b)), .second, .val (.long (own_lt b ax)), .second, .val (.long (1 : Int64)), .second, .val (.long (0 : Int64)), .second] [(.long (own_lt b ax))]))
        refine own_st (fun _ k => XS.lload X2.here hx rfl (hb hby at_102) rfl k) ?_
        show own_Go p e below s _ _ _ (T2.setTop (mkF m 104 #[.val (.long ax), .second, .val (.long ay), .second, .val (.int mode), .val (.int (mode &&& (3 : Int32))), .val (.long b), .second, .val (.long (own_lt ax b)), .second, .val (.long (own_lt b ax)), .second, .val (.long (1 : Int64)), .second, .val (.long (0 : Int64)), .second] [(.long (0 : Int64)), (.long (own_lt b ax))]))
        refine own_st (fun _ k => XT.lcmp X2.here hx rfl (hb hby at_104) rfl k) ?_
        show own_Go p e below s _ _ _ (T2.setTop (mkF m 105 #[.val (.long ax), .second, .val (.long ay), .second, .val (.int mode), .val (.int (mode &&& (3 : Int32))), .val (.long b), .second, .val (.long (own_lt ax b)), .second, .val (.long (own_lt b ax)), .second, .val (.long (1 : Int64)), .second, .val (.long (0 : Int64)), .second] [(.int (XT.cmpL (own_lt b ax) (0 : Int64)))]))
        refine own_st (fun _ k => XS.ifNo X2.here hx rfl (hb hby at_105) rfl ((if0 _ _).trans (teq (own_ce (own_l0 fun u => c2 (own_cl.mpr u)))).2) k) ?_
        show own_Go p e below s _ _ _ (T2.setTop (mkF m 108 #[.val (.long ax), .second, .val (.long ay), .second, .val (.int mode), .val (.int (mode &&& (3 : Int32))), .val (.long b), .second, .val (.long (own_lt ax b)), .second, .val (.long (own_lt b ax)), .second, .val (.long (1 : Int64)), .second, .val (.long (0 : Int64)), .second] []))
        refine own_st (fun _ k => XS.iconst X2.here hx rfl (hb hby at_108) k) ?_
        show own_Go p e below s _ _ _ (T2.setTop (mkF m 109 #[.val (.long ax), .second, .val (.long ay), .second, .val (.int mode), .val (.int (mode &&& (3 : Int32))), .val (.long b), .second, .val (.long (own_lt ax b)), .second, .val (.long (own_lt b ax)), .second, .val (.long (1 : Int64)), .second, .val (.long (0 : Int64)), .second] [(.int (1 : Int32))]))
        refine own_st (fun _ k => XS.goto X2.here hx rfl (pc0 := 109) (pc' := 113) rfl (hb hby at_109) (by decide) (by decide) k) ?_
        show own_Go p e below s _ _ _ (T2.setTop (mkF m 113 #[.val (.long ax), .second, .val (.long ay), .second, .val (.int mode), .val (.int (mode &&& (3 : Int32))), .val (.long b), .second, .val (.long (own_lt ax b)), .second, .val (.long (own_lt b ax)), .second, .val (.long (1 : Int64)), .second, .val (.long (0 : Int64)), .second] [(.int (1 : Int32))]))
        exact own_endN X2 hx hlk (t := .boolean) hret (by simp) (hb hby at_113) rfl ⟨rfl, N2⟩ (by decide) (by decide)
    · show own_Go p e below s _ _ _ (T2.setTop (mkF m 68 #[.val (.long ax), .second, .val (.long ay), .second, .val (.int mode), .val (.int (mode &&& (3 : Int32))), .val (.long b), .second, .val (.long (own_lt ax b)), .second, .val (.long (own_lt b ax)), .second, .unset, .unset, .unset, .unset] [(.int (XT.cmpL ax b))]))
      refine own_st (fun _ k => XS.ifYes X2.here hx rfl (pc0 := 68) (pc' := 75) rfl (hb hby at_68) rfl ((if0 _ _).trans (flt c1).2.1) (by decide) (by decide) k) ?_
      show own_Go p e below s _ _ _ (T2.setTop (mkF m 75 #[.val (.long ax), .second, .val (.long ay), .second, .val (.int mode), .val (.int (mode &&& (3 : Int32))), .val (.long b), .second, .val (.long (own_lt ax b)), .second, .val (.long (own_lt b ax)), .second, .unset, .unset, .unset, .unset] []))
      refine own_st (fun _ k => XS.lconst X2.here hx rfl (hb hby at_75) k) ?_
      show own_Go p e below s _ _ _ (T2.setTop (mkF m 76 #[.val (.long ax), .second, .val (.long ay), .second, .val (.int mode), .val (.int (mode &&& (3 : Int32))), .val (.long b), .second, .val (.long (own_lt ax b)), .second, .val (.long (own_lt b ax)), .second, .unset, .unset, .unset, .unset] [(.long (0 : Int64))]))
      refine own_st (fun _ k => XS.lstore X2.here hx rfl (hb hby at_76) rfl (l' := #[.val (.long ax), .second, .val (.long ay), .second, .val (.int mode), .val (.int (mode &&& (3 : Int32))), .val (.long b), .second, .val (.long (own_lt ax b)), .second, .val (.long (own_lt b ax)), .second, .val (.long (0 : Int64)), .second, .unset, .unset]) rfl k) ?_
      show own_Go p e below s _ _ _ (T2.setTop (mkF m 78 #[.val (.long ax), .second, .val (.long ay), .second, .val (.int mode), .val (.int (mode &&& (3 : Int32))), .val (.long b), .second, .val (.long (own_lt ax b)), .second, .val (.long (own_lt b ax)), .second, .val (.long (0 : Int64)), .second, .unset, .unset] []))
      refine own_st (fun _ k => XS.lload X2.here hx rfl (hb hby at_78) rfl k) ?_
      show own_Go p e below s _ _ _ (T2.setTop (mkF m 80 #[.val (.long ax), .second, .val (.long ay), .second, .val (.int mode), .val (.int (mode &&& (3 : Int32))), .val (.long b), .second, .val (.long (own_lt ax b)), .second, .val (.long (own_lt b ax)), .second, .val (.long (0 : Int64)), .second, .unset, .unset] [(.long b)]))
      refine own_st (fun _ k => XS.lloadN X2.here hx rfl (hb hby at_80) rfl k) ?_
      show own_Go p e below s _ _ _ (T2.setTop (mkF m 81 #[.val (.long ax), .second, .val (.long ay), .second, .val (.int mode), .val (.int (mode &&& (3 : Int32))), .val (.long b), .second, .val (.long (own_lt ax b)), .second, .val (.long (own_lt b ax)), .second, .val (.long (0 : Int64)), .second, .unset, .unset] [(.long ax), (.long b)]))
      refine own_st (fun _ k => XT.lcmp X2.here hx rfl (hb hby at_81) rfl k) ?_
      show own_Go p e below s _ _ _ (T2.setTop (mkF m 82 #[.val (.long ax), .second, .val (.long ay), .second, .val (.int mode), .val (.int (mode &&& (3 : Int32))), .val (.long b), .second, .val (.long (own_lt ax b)), .second, .val (.long (own_lt b ax)), .second, .val (.long (0 : Int64)), .second, .unset, .unset] [(.int (XT.cmpL b ax))]))
      rcases Classical.em ((XT.cmpL b ax) < (0 : Int32)) with c2 | c2
      · show own_Go p e below s _ _ _ (T2.setTop (mkF m 82 #[.val (.long ax), .second, .val (.long ay), .second, .val (.int mode), .val (.int (mode &&& (3 : Int32))), .val (.long b), .second, .val (.long (own_lt ax b)), .second, .val (.long (own_lt b ax)), .second, .val (.long (0 : Int64)), .second, .unset, .unset] [(.int (XT.cmpL b ax))]))
        refine own_st (fun _ k => XS.ifNo X2.here hx rfl (hb hby at_82) rfl ((if0 _ _).trans (tlt c2).2.1) k) ?_
        show own_Go p e below s _ _ _ (T2.setTop (mkF m 85 #[.val (.long ax), .second, .val (.long ay), .second, .val (.int mode), .val (.int (mode &&& (3 : Int32))), .val (.long b), .second, .val (.long (own_lt ax b)), .second, .val (.long (own_lt b ax)), .second, .val (.long (0 : Int64)), .second, .unset, .unset] []))
        refine own_st (fun _ k => XS.lconst X2.here hx rfl (hb hby at_85) k) ?_
        show own_Go p e below s _ _ _ (T2.setTop (mkF m 86 #[.val (.long ax), .second, .val (.long ay), .second, .val (.int mode), .val (.int (mode &&& (3 : Int32))), .val (.long b), .second, .val (.long (own_lt ax b)), .second, .val (.long (own_lt b ax)), .second, .val (.long (0 : Int64)), .second, .unset, .unset] [(.long (1 : Int64))]))
        refine own_st (fun _ k => XS.goto X2.here hx rfl (pc0 := 86) (pc' := 90) rfl (hb hby at_86) (by decide) (by decide) k) ?_
        show own_Go p e below s _ _ _ (T2.setTop (mkF m 90 #[.val (.long ax), .second, .val (.long ay), .second, .val (.int mode), .val (.int (mode &&& (3 : Int32))), .val (.long b), .second, .val (.long (own_lt ax b)), .second, .val (.long (own_lt b ax)), .second, .val (.long (0 : Int64)), .second, .unset, .unset] [(.long (1 : Int64))]))
        refine own_st (fun _ k => XS.lstore X2.here hx rfl (hb hby at_90) rfl (l' := #[.val (.long ax), .second, .val (.long ay), .second, .val (.int mode), .val (.int (mode &&& (3 : Int32))), .val (.long b), .second, .val (.long (own_lt ax b)), .second, .val (.long (own_lt b ax)), .second, .val (.long (0 : Int64)), .second, .val (.long (1 : Int64)), .second]) rfl k) ?_
        show own_Go p e below s _ _ _ (T2.setTop (mkF m 92 #[.val (.long ax), .second, .val (.long ay), .second, .val (.int mode), .val (.int (mode &&& (3 : Int32))), .val (.long b), .second, .val (.long (own_lt ax b)), .second, .val (.long (own_lt b ax)), .second, .val (.long (0 : Int64)), .second, .val (.long (1 : Int64)), .second] []))
        refine own_st (fun _ k => XS.lload X2.here hx rfl (hb hby at_92) rfl k) ?_
        show own_Go p e below s _ _ _ (T2.setTop (mkF m 94 #[.val (.long ax), .second, .val (.long ay), .second, .val (.int mode), .val (.int (mode &&& (3 : Int32))), .val (.long b), .second, .val (.long (own_lt ax b)), .second, .val (.long (own_lt b ax)), .second, .val (.long (0 : Int64)), .second, .val (.long (1 : Int64)), .second] [(.long (own_lt ax b))]))
        refine own_st (fun _ k => XS.lload X2.here hx rfl (hb hby at_94) rfl k) ?_
        show own_Go p e below s _ _ _ (T2.setTop (mkF m 96 #[.val (.long ax), .second, .val (.long ay), .second, .val (.int mode), .val (.int (mode &&& (3 : Int32))), .val (.long b), .second, .val (.long (own_lt ax b)), .second, .val (.long (own_lt b ax)), .second, .val (.long (0 : Int64)), .second, .val (.long (1 : Int64)), .second] [(.long (0 : Int64)), (.long (own_lt ax b))]))
        refine own_st (fun _ k => XT.lcmp X2.here hx rfl (hb hby at_96) rfl k) ?_
        show own_Go p e below s _ _ _ (T2.setTop (mkF m 97 #[.val (.long ax), .second, .val (.long ay), .second, .val (.int mode), .val (.int (mode &&& (3 : Int32))), .val (.long b), .second, .val (.long (own_lt ax b)), .second, .val (.long (own_lt b ax)), .second, .val (.long (0 : Int64)), .second, .val (.long (1 : Int64)), .second] [(.int (XT.cmpL (own_lt ax b) (0 : Int64)))]))
        refine own_st (fun _ k => XS.ifNo X2.here hx rfl (hb hby at_97) rfl ((if0 _ _).trans (teq (own_ce (own_l0 fun u => c1 (own_cl.mpr u)))).2) k) ?_
        show own_Go p e below s _ _ _ (T2.setTop (mkF m 100 #[.val (.long ax), .second, .val (.long ay), .second, .val (.int mode), .val (.int (mode &&& (3 : Int32))), .val (.long b), .second, .val (.long (own_lt ax b)), .second, .val (.long (own_lt b ax)), .second, .val (.long (0 : Int64)), .second, .val (.long (1 : Int64)), .second] []))
        refine own_st (fun _ k => XS.lload X2.here hx rfl (hb hby at_100) rfl k) ?_
        show own_Go p e below s _ _ _ (T2.setTop (mkF m 102 #[.val (.long ax), .second, .val (.long ay), .second, .val (.int mode), .val (.int (mode &&& (3 : Int32))), .val (.long b), .second, .val (.long (own_lt ax b)), .second, .val (.long (own_lt b ax)), .second, .val (.long (0 : Int64)), .second, .val (.long (1 : Int64)), .second] [(.long (own_lt b ax))]))
        refine own_st (fun _ k => XS.lload X2.here hx rfl (hb hby at_102) rfl k) ?_
        show own_Go p e below s _ _ _ (T2.setTop (mkF m 104 #[.val (.long ax), .second, .val (.long ay), .second, .val (.int mode), .val (.int (mode &&& (3 : Int32))), .val (.long b), .second, .val (.long (own_lt ax b)), .second, .val (.long (own_lt b ax)), .second, .val (.long (0 : Int64)), .second, .val (.long (1 : Int64)), .second] [(.long (1 : Int64)), (.long (own_lt b ax))]))
        refine own_st (fun _ k => XT.lcmp X2.here hx rfl (hb hby at_104) rfl k) ?_
        show own_Go p e below s _ _ _ (T2.setTop (mkF m 105 #[.val (.long ax), .second, .val (.long ay), .second, .val (.int mode), .val (.int (mode &&& (3 : Int32))), .val (.long b), .second, .val (.long (own_lt ax b)), .second, .val (.long (own_lt b ax)), .second, .val (.long (0 : Int64)), .second, .val (.long (1 : Int64)), .second] [(.int (XT.cmpL (own_lt b ax) (1 : Int64)))]))
        refine own_st (fun _ k => XS.ifNo X2.here hx rfl (hb hby at_105) rfl ((if0 _ _).trans (teq (own_ce (own_l1 (own_cl.mp c2)))).2) k) ?_
        show own_Go p e below s _ _ _ (T2.setTop (mkF m 108 #[.val (.long ax), .second, .val (.long ay), .second, .val (.int mode), .val (.int (mode &&& (3 : Int32))), .val (.long b), .second, .val (.long (own_lt ax b)), .second, .val (.long (own_lt b ax)), .second, .val (.long (0 : Int64)), .second, .val (.long (1 : Int64)), .second] []))
        refine own_st (fun _ k => XS.iconst X2.here hx rfl (hb hby at_108) k) ?_
        show own_Go p e below s _ _ _ (T2.setTop (mkF m 109 #[.val (.long ax), .second, .val (.long ay), .second, .val (.int mode), .val (.int (mode &&& (3 : Int32))), .val (.long b), .second, .val (.long (own_lt ax b)), .second, .val (.long (own_lt b ax)), .second, .val (.long (0 : Int64)), .second, .val (.long (1 : Int64)), .second] [(.int (1 : Int32))]))
        refine own_st (fun _ k => XS.goto X2.here hx rfl (pc0 := 109) (pc' := 113) rfl (hb hby at_109) (by decide) (by decide) k) ?_
        show own_Go p e below s _ _ _ (T2.setTop (mkF m 113 #[.val (.long ax), .second, .val (.long ay), .second, .val (.int mode), .val (.int (mode &&& (3 : Int32))), .val (.long b), .second, .val (.long (own_lt ax b)), .second, .val (.long (own_lt b ax)), .second, .val (.long (0 : Int64)), .second, .val (.long (1 : Int64)), .second] [(.int (1 : Int32))]))
        exact own_endN X2 hx hlk (t := .boolean) hret (by simp) (hb hby at_113) rfl ⟨rfl, N2⟩ (by decide) (by decide)
      · show own_Go p e below s _ _ _ (T2.setTop (mkF m 82 #[.val (.long ax), .second, .val (.long ay), .second, .val (.int mode), .val (.int (mode &&& (3 : Int32))), .val (.long b), .second, .val (.long (own_lt ax b)), .second, .val (.long (own_lt b ax)), .second, .val (.long (0 : Int64)), .second, .unset, .unset] [(.int (XT.cmpL b ax))]))
        refine own_st (fun _ k => XS.ifYes X2.here hx rfl (pc0 := 82) (pc' := 89) rfl (hb hby at_82) rfl ((if0 _ _).trans (flt c2).2.1) (by decide) (by decide) k) ?_
        show own_Go p e below s _ _ _ (T2.setTop (mkF m 89 #[.val (.long ax), .second, .val (.long ay), .second, .val (.int mode), .val (.int (mode &&& (3 : Int32))), .val (.long b), .second, .val (.long (own_lt ax b)), .second, .val (.long (own_lt b ax)), .second, .val (.long (0 : Int64)), .second, .unset, .unset] []))
        refine own_st (fun _ k => XS.lconst X2.here hx rfl (hb hby at_89) k) ?_
        show own_Go p e below s _ _ _ (T2.setTop (mkF m 90 #[.val (.long ax), .second, .val (.long ay), .second, .val (.int mode), .val (.int (mode &&& (3 : Int32))), .val (.long b), .second, .val (.long (own_lt ax b)), .second, .val (.long (own_lt b ax)), .second, .val (.long (0 : Int64)), .second, .unset, .unset] [(.long (0 : Int64))]))
        refine own_st (fun _ k => XS.lstore X2.here hx rfl (hb hby at_90) rfl (l' := #[.val (.long ax), .second, .val (.long ay), .second, .val (.int mode), .val (.int (mode &&& (3 : Int32))), .val (.long b), .second, .val (.long (own_lt ax b)), .second, .val (.long (own_lt b ax)), .second, .val (.long (0 : Int64)), .second, .val (.long (0 : Int64)), .second]) rfl k) ?_
        show own_Go p e below s _ _ _ (T2.setTop (mkF m 92 #[.val (.long ax), .second, .val (.long ay), .second, .val (.int mode), .val (.int (mode &&& (3 : Int32))), .val (.long b), .second, .val (.long (own_lt ax b)), .second, .val (.long (own_lt b ax)), .second, .val (.long (0 : Int64)), .second, .val (.long (0 : Int64)), .second] []))
        refine own_st (fun _ k => XS.lload X2.here hx rfl (hb hby at_92) rfl k) ?_
        show own_Go p e below s _ _ _ (T2.setTop (mkF m 94 #[.val (.long ax), .second, .val (.long ay), .second, .val (.int mode), .val (.int (mode &&& (3 : Int32))), .val (.long b), .second, .val (.long (own_lt ax b)), .second, .val (.long (own_lt b ax)), .second, .val (.long (0 : Int64)), .second, .val (.long (0 : Int64)), .second] [(.long (own_lt ax b))]))
        refine own_st (fun _ k => XS.lload X2.here hx rfl (hb hby at_94) rfl k) ?_
        show own_Go p e below s _ _ _ (T2.setTop (mkF m 96 #[.val (.long ax), .second, .val (.long ay), .second, .val (.int mode), .val (.int (mode &&& (3 : Int32))), .val (.long b), .second, .val (.long (own_lt ax b)), .second, .val (.long (own_lt b ax)), .second, .val (.long (0 : Int64)), .second, .val (.long (0 : Int64)), .second] [(.long (0 : Int64)), (.long (own_lt ax b))]))
        refine own_st (fun _ k => XT.lcmp X2.here hx rfl (hb hby at_96) rfl k) ?_
        show own_Go p e below s _ _ _ (T2.setTop (mkF m 97 #[.val (.long ax), .second, .val (.long ay), .second, .val (.int mode), .val (.int (mode &&& (3 : Int32))), .val (.long b), .second, .val (.long (own_lt ax b)), .second, .val (.long (own_lt b ax)), .second, .val (.long (0 : Int64)), .second, .val (.long (0 : Int64)), .second] [(.int (XT.cmpL (own_lt ax b) (0 : Int64)))]))
        refine own_st (fun _ k => XS.ifNo X2.here hx rfl (hb hby at_97) rfl ((if0 _ _).trans (teq (own_ce (own_l0 fun u => c1 (own_cl.mpr u)))).2) k) ?_
        show own_Go p e below s _ _ _ (T2.setTop (mkF m 100 #[.val (.long ax), .second, .val (.long ay), .second, .val (.int mode), .val (.int (mode &&& (3 : Int32))), .val (.long b), .second, .val (.long (own_lt ax b)), .second, .val (.long (own_lt b ax)), .second, .val (.long (0 : Int64)), .second, .val (.long (0 : Int64)), .second] []))
        refine own_st (fun _ k => XS.lload X2.here hx rfl (hb hby at_100) rfl k) ?_
        show own_Go p e below s _ _ _ (T2.setTop (mkF m 102 #[.val (.long ax), .second, .val (.long ay), .second, .val (.int mode), .val (.int (mode &&& (3 : Int32))), .val (.long b), .second, .val (.long (own_lt ax b)), .second, .val (.long (own_lt b ax)), .second, .val (.long (0 : Int64)), .second, .val (.long (0 : Int64)), .second] [(.long (own_lt b ax))]))
        refine own_st (fun _ k => XS.lload X2.here hx rfl (hb hby at_102) rfl k) ?_
        show own_Go p e below s _ _ _ (T2.setTop (mkF m 104 #[.val (.long ax), .second, .val (.long ay), .second, .val (.int mode), .val (.int (mode &&& (3 : Int32))), .val (.long b), .second, .val (.long (own_lt ax b)), .second, .val (.long (own_lt b ax)), .second, .val (.long (0 : Int64)), .second, .val (.long (0 : Int64)), .second] [(.long (0 : Int64)), (.long (own_lt b ax))]))
        refine own_st (fun _ k => XT.lcmp X2.here hx rfl (hb hby at_104) rfl k) ?_
        show own_Go p e below s _ _ _ (T2.setTop (mkF m 105 #[.val (.long ax), .second, .val (.long ay), .second, .val (.int mode), .val (.int (mode &&& (3 : Int32))), .val (.long b), .second, .val (.long (own_lt ax b)), .second, .val (.long (own_lt b ax)), .second, .val (.long (0 : Int64)), .second, .val (.long (0 : Int64)), .second] [(.int (XT.cmpL (own_lt b ax) (0 : Int64)))]))
        refine own_st (fun _ k => XS.ifNo X2.here hx rfl (hb hby at_105) rfl ((if0 _ _).trans (teq (own_ce (own_l0 fun u => c2 (own_cl.mpr u)))).2) k) ?_
        show own_Go p e below s _ _ _ (T2.setTop (mkF m 108 #[.val (.long ax), .second, .val (.long ay), .second, .val (.int mode), .val (.int (mode &&& (3 : Int32))), .val (.long b), .second, .val (.long (own_lt ax b)), .second, .val (.long (own_lt b ax)), .second, .val (.long (0 : Int64)), .second, .val (.long (0 : Int64)), .second] []))
        refine own_st (fun _ k => XS.iconst X2.here hx rfl (hb hby at_108) k) ?_
        show own_Go p e below s _ _ _ (T2.setTop (mkF m 109 #[.val (.long ax), .second, .val (.long ay), .second, .val (.int mode), .val (.int (mode &&& (3 : Int32))), .val (.long b), .second, .val (.long (own_lt ax b)), .second, .val (.long (own_lt b ax)), .second, .val (.long (0 : Int64)), .second, .val (.long (0 : Int64)), .second] [(.int (1 : Int32))]))
        refine own_st (fun _ k => XS.goto X2.here hx rfl (pc0 := 109) (pc' := 113) rfl (hb hby at_109) (by decide) (by decide) k) ?_
        show own_Go p e below s _ _ _ (T2.setTop (mkF m 113 #[.val (.long ax), .second, .val (.long ay), .second, .val (.int mode), .val (.int (mode &&& (3 : Int32))), .val (.long b), .second, .val (.long (own_lt ax b)), .second, .val (.long (own_lt b ax)), .second, .val (.long (0 : Int64)), .second, .val (.long (0 : Int64)), .second] [(.int (1 : Int32))]))
        exact own_endN X2 hx hlk (t := .boolean) hret (by simp) (hb hby at_113) rfl ⟨rfl, N2⟩ (by decide) (by decide)
  show own_Go p e below s _ _ _ (s₁.setTop (mkF m 12 #[.val (.long ax), .second, .val (.long ay), .second, .val (.int mode), .val (.int (mode &&& (3 : Int32))), .val (.long ay), .second, .unset, .unset, .unset, .unset, .unset, .unset, .unset, .unset] [(.int (1 : Int32)), (.int (mode &&& (3 : Int32)))]))
  rcases Classical.em ((mode &&& (3 : Int32)) = (1 : Int32)) with m1 | m1
  · show own_Go p e below s _ _ _ (s₁.setTop (mkF m 12 #[.val (.long ax), .second, .val (.long ay), .second, .val (.int mode), .val (.int (mode &&& (3 : Int32))), .val (.long ay), .second, .unset, .unset, .unset, .unset, .unset, .unset, .unset, .unset] [(.int (1 : Int32)), (.int (mode &&& (3 : Int32)))]))
    refine own_st (fun _ k => XS.icmpNo X0.here hx rfl (hb hby at_12) rfl (teq m1).2 k) ?_
    show own_Go p e below s _ _ _ (s₁.setTop (mkF m 15 #[.val (.long ax), .second, .val (.long ay), .second, .val (.int mode), .val (.int (mode &&& (3 : Int32))), .val (.long ay), .second, .unset, .unset, .unset, .unset, .unset, .unset, .unset, .unset] []))
    refine own_st (fun _ k => XS.lloadN X0.here hx rfl (hb hby at_15) rfl k) ?_
    show own_Go p e below s _ _ _ (s₁.setTop (mkF m 16 #[.val (.long ax), .second, .val (.long ay), .second, .val (.int mode), .val (.int (mode &&& (3 : Int32))), .val (.long ay), .second, .unset, .unset, .unset, .unset, .unset, .unset, .unset, .unset] [(.long ax)]))
    refine own_st (fun _ k => XS.lstore X0.here hx rfl (hb hby at_16) rfl (l' := #[.val (.long ax), .second, .val (.long ay), .second, .val (.int mode), .val (.int (mode &&& (3 : Int32))), .val (.long ax), .second, .unset, .unset, .unset, .unset, .unset, .unset, .unset, .unset]) rfl k) ?_
    show own_Go p e below s _ _ _ (s₁.setTop (mkF m 18 #[.val (.long ax), .second, .val (.long ay), .second, .val (.int mode), .val (.int (mode &&& (3 : Int32))), .val (.long ax), .second, .unset, .unset, .unset, .unset, .unset, .unset, .unset, .unset] []))
    refine own_st (fun _ k => XS.goto X0.here hx rfl (pc0 := 18) (pc' := 48) rfl (hb hby at_18) (by decide) (by decide) k) ?_
    show own_Go p e below s _ _ _ (s₁.setTop (mkF m 48 #[.val (.long ax), .second, .val (.long ay), .second, .val (.int mode), .val (.int (mode &&& (3 : Int32))), .val (.long ax), .second, .unset, .unset, .unset, .unset, .unset, .unset, .unset, .unset] []))
    exact J _
  · show own_Go p e below s _ _ _ (s₁.setTop (mkF m 12 #[.val (.long ax), .second, .val (.long ay), .second, .val (.int mode), .val (.int (mode &&& (3 : Int32))), .val (.long ay), .second, .unset, .unset, .unset, .unset, .unset, .unset, .unset, .unset] [(.int (1 : Int32)), (.int (mode &&& (3 : Int32)))]))
    refine own_st (fun _ k => XS.icmpYes X0.here hx rfl (pc0 := 12) (pc' := 21) rfl (hb hby at_12) rfl (feq m1).2 (by decide) (by decide) k) ?_
    show own_Go p e below s _ _ _ (s₁.setTop (mkF m 21 #[.val (.long ax), .second, .val (.long ay), .second, .val (.int mode), .val (.int (mode &&& (3 : Int32))), .val (.long ay), .second, .unset, .unset, .unset, .unset, .unset, .unset, .unset, .unset] []))
    refine own_st (fun _ k => XS.iload X0.here hx rfl (hb hby at_21) rfl k) ?_
    show own_Go p e below s _ _ _ (s₁.setTop (mkF m 23 #[.val (.long ax), .second, .val (.long ay), .second, .val (.int mode), .val (.int (mode &&& (3 : Int32))), .val (.long ay), .second, .unset, .unset, .unset, .unset, .unset, .unset, .unset, .unset] [(.int (mode &&& (3 : Int32)))]))
    refine own_st (fun _ k => XS.iconst X0.here hx rfl (hb hby at_23) k) ?_
    show own_Go p e below s _ _ _ (s₁.setTop (mkF m 24 #[.val (.long ax), .second, .val (.long ay), .second, .val (.int mode), .val (.int (mode &&& (3 : Int32))), .val (.long ay), .second, .unset, .unset, .unset, .unset, .unset, .unset, .unset, .unset] [(.int (2 : Int32)), (.int (mode &&& (3 : Int32)))]))
    rcases Classical.em ((mode &&& (3 : Int32)) = (2 : Int32)) with m2 | m2
    · show own_Go p e below s _ _ _ (s₁.setTop (mkF m 24 #[.val (.long ax), .second, .val (.long ay), .second, .val (.int mode), .val (.int (mode &&& (3 : Int32))), .val (.long ay), .second, .unset, .unset, .unset, .unset, .unset, .unset, .unset, .unset] [(.int (2 : Int32)), (.int (mode &&& (3 : Int32)))]))
      refine own_st (fun _ k => XS.icmpNo X0.here hx rfl (hb hby at_24) rfl (teq m2).2 k) ?_
      show own_Go p e below s _ _ _ (s₁.setTop (mkF m 27 #[.val (.long ax), .second, .val (.long ay), .second, .val (.int mode), .val (.int (mode &&& (3 : Int32))), .val (.long ay), .second, .unset, .unset, .unset, .unset, .unset, .unset, .unset, .unset] []))
      refine own_st (fun _ k => XS.lloadN X0.here hx rfl (hb hby at_27) rfl k) ?_
      show own_Go p e below s _ _ _ (s₁.setTop (mkF m 28 #[.val (.long ax), .second, .val (.long ay), .second, .val (.int mode), .val (.int (mode &&& (3 : Int32))), .val (.long ay), .second, .unset, .unset, .unset, .unset, .unset, .unset, .unset, .unset] [(.long ax)]))
      refine own_st (fun _ k => XS.lconst X0.here hx rfl (hb hby at_28) k) ?_
      show own_Go p e below s _ _ _ (s₁.setTop (mkF m 29 #[.val (.long ax), .second, .val (.long ay), .second, .val (.int mode), .val (.int (mode &&& (3 : Int32))), .val (.long ay), .second, .unset, .unset, .unset, .unset, .unset, .unset, .unset, .unset] [(.long (1 : Int64)), (.long ax)]))
      refine own_st (fun _ k => XS.ladd X0.here hx rfl (hb hby at_29) rfl k) ?_
      show own_Go p e below s _ _ _ (s₁.setTop (mkF m 30 #[.val (.long ax), .second, .val (.long ay), .second, .val (.int mode), .val (.int (mode &&& (3 : Int32))), .val (.long ay), .second, .unset, .unset, .unset, .unset, .unset, .unset, .unset, .unset] [(.long (ax + (1 : Int64)))]))
      refine own_st (fun _ k => XS.lstore X0.here hx rfl (hb hby at_30) rfl (l' := #[.val (.long ax), .second, .val (.long ay), .second, .val (.int mode), .val (.int (mode &&& (3 : Int32))), .val (.long (ax + (1 : Int64))), .second, .unset, .unset, .unset, .unset, .unset, .unset, .unset, .unset]) rfl k) ?_
      show own_Go p e below s _ _ _ (s₁.setTop (mkF m 32 #[.val (.long ax), .second, .val (.long ay), .second, .val (.int mode), .val (.int (mode &&& (3 : Int32))), .val (.long (ax + (1 : Int64))), .second, .unset, .unset, .unset, .unset, .unset, .unset, .unset, .unset] []))
      refine own_st (fun _ k => XS.goto X0.here hx rfl (pc0 := 32) (pc' := 48) rfl (hb hby at_32) (by decide) (by decide) k) ?_
      show own_Go p e below s _ _ _ (s₁.setTop (mkF m 48 #[.val (.long ax), .second, .val (.long ay), .second, .val (.int mode), .val (.int (mode &&& (3 : Int32))), .val (.long (ax + (1 : Int64))), .second, .unset, .unset, .unset, .unset, .unset, .unset, .unset, .unset] []))
      exact J _
    · show own_Go p e below s _ _ _ (s₁.setTop (mkF m 24 #[.val (.long ax), .second, .val (.long ay), .second, .val (.int mode), .val (.int (mode &&& (3 : Int32))), .val (.long ay), .second, .unset, .unset, .unset, .unset, .unset, .unset, .unset, .unset] [(.int (2 : Int32)), (.int (mode &&& (3 : Int32)))]))
      refine own_st (fun _ k => XS.icmpYes X0.here hx rfl (pc0 := 24) (pc' := 35) rfl (hb hby at_24) rfl (feq m2).2 (by decide) (by decide) k) ?_
      show own_Go p e below s _ _ _ (s₁.setTop (mkF m 35 #[.val (.long ax), .second, .val (.long ay), .second, .val (.int mode), .val (.int (mode &&& (3 : Int32))), .val (.long ay), .second, .unset, .unset, .unset, .unset, .unset, .unset, .unset, .unset] []))
      refine own_st (fun _ k => XS.iload X0.here hx rfl (hb hby at_35) rfl k) ?_
      show own_Go p e below s _ _ _ (s₁.setTop (mkF m 37 #[.val (.long ax), .second, .val (.long ay), .second, .val (.int mode), .val (.int (mode &&& (3 : Int32))), .val (.long ay), .second, .unset, .unset, .unset, .unset, .unset, .unset, .unset, .unset] [(.int (mode &&& (3 : Int32)))]))
      refine own_st (fun _ k => XS.iconst X0.here hx rfl (hb hby at_37) k) ?_
      show own_Go p e below s _ _ _ (s₁.setTop (mkF m 38 #[.val (.long ax), .second, .val (.long ay), .second, .val (.int mode), .val (.int (mode &&& (3 : Int32))), .val (.long ay), .second, .unset, .unset, .unset, .unset, .unset, .unset, .unset, .unset] [(.int (3 : Int32)), (.int (mode &&& (3 : Int32)))]))
      rcases Classical.em ((mode &&& (3 : Int32)) = (3 : Int32)) with m3 | m3
      · show own_Go p e below s _ _ _ (s₁.setTop (mkF m 38 #[.val (.long ax), .second, .val (.long ay), .second, .val (.int mode), .val (.int (mode &&& (3 : Int32))), .val (.long ay), .second, .unset, .unset, .unset, .unset, .unset, .unset, .unset, .unset] [(.int (3 : Int32)), (.int (mode &&& (3 : Int32)))]))
        refine own_st (fun _ k => XS.icmpNo X0.here hx rfl (hb hby at_38) rfl (teq m3).2 k) ?_
        show own_Go p e below s _ _ _ (s₁.setTop (mkF m 41 #[.val (.long ax), .second, .val (.long ay), .second, .val (.int mode), .val (.int (mode &&& (3 : Int32))), .val (.long ay), .second, .unset, .unset, .unset, .unset, .unset, .unset, .unset, .unset] []))
        refine own_st (fun _ k => XS.lloadN X0.here hx rfl (hb hby at_41) rfl k) ?_
        show own_Go p e below s _ _ _ (s₁.setTop (mkF m 42 #[.val (.long ax), .second, .val (.long ay), .second, .val (.int mode), .val (.int (mode &&& (3 : Int32))), .val (.long ay), .second, .unset, .unset, .unset, .unset, .unset, .unset, .unset, .unset] [(.long ax)]))
        refine own_st (fun _ k => X0.ldc2Long hx hown (mvT hZ (hw _ (List.mem_of_getElem? (i := 4) rfl))) (g := (mkF m 42 #[.val (.long ax), .second, .val (.long ay), .second, .val (.int mode), .val (.int (mode &&& (3 : Int32))), .val (.long ay), .second, .unset, .unset, .unset, .unset, .unset, .unset, .unset, .unset] [(.long ax)])) rfl (hb hby at_42) _ k) ?_
        show own_Go p e below s _ _ _ (s₁.setTop (mkF m 45 #[.val (.long ax), .second, .val (.long ay), .second, .val (.int mode), .val (.int (mode &&& (3 : Int32))), .val (.long ay), .second, .unset, .unset, .unset, .unset, .unset, .unset, .unset, .unset] [(.long (-9223372036854775808 : Int64)), (.long ax)]))
        refine own_st (fun _ k => XS.lxor X0.here hx rfl (hb hby at_45) rfl k) ?_
        show own_Go p e below s _ _ _ (s₁.setTop (mkF m 46 #[.val (.long ax), .second, .val (.long ay), .second, .val (.int mode), .val (.int (mode &&& (3 : Int32))), .val (.long ay), .second, .unset, .unset, .unset, .unset, .unset, .unset, .unset, .unset] [(.long (ax ^^^ (-9223372036854775808 : Int64)))]))
        refine own_st (fun _ k => XS.lstore X0.here hx rfl (hb hby at_46) rfl (l' := #[.val (.long ax), .second, .val (.long ay), .second, .val (.int mode), .val (.int (mode &&& (3 : Int32))), .val (.long (ax ^^^ (-9223372036854775808 : Int64))), .second, .unset, .unset, .unset, .unset, .unset, .unset, .unset, .unset]) rfl k) ?_
        show own_Go p e below s _ _ _ (s₁.setTop (mkF m 48 #[.val (.long ax), .second, .val (.long ay), .second, .val (.int mode), .val (.int (mode &&& (3 : Int32))), .val (.long (ax ^^^ (-9223372036854775808 : Int64))), .second, .unset, .unset, .unset, .unset, .unset, .unset, .unset, .unset] []))
        exact J _
      · show own_Go p e below s _ _ _ (s₁.setTop (mkF m 38 #[.val (.long ax), .second, .val (.long ay), .second, .val (.int mode), .val (.int (mode &&& (3 : Int32))), .val (.long ay), .second, .unset, .unset, .unset, .unset, .unset, .unset, .unset, .unset] [(.int (3 : Int32)), (.int (mode &&& (3 : Int32)))]))
        refine own_st (fun _ k => XS.icmpYes X0.here hx rfl (pc0 := 38) (pc' := 48) rfl (hb hby at_38) rfl (feq m3).2 (by decide) (by decide) k) ?_
        show own_Go p e below s _ _ _ (s₁.setTop (mkF m 48 #[.val (.long ax), .second, .val (.long ay), .second, .val (.int mode), .val (.int (mode &&& (3 : Int32))), .val (.long ay), .second, .unset, .unset, .unset, .unset, .unset, .unset, .unset, .unset] []))
        exact J _
set_option maxRecDepth 65536 in
set_option maxHeartbeats 40000000 in
theorem own_comes {Post : Tables → Env → Array Value → State → Outcome → State → Prop} (hpost : ∀ tb e args s v u, (limb_1_1.after args s (.returned v) u = true ∧ limb_1_2.after args s (.returned v) u = true ∧ True) → FrameEnd s (.returned v) u (Jvm.fieldLocs frame_1_writes args s ++ Jvm.arrayLocs frame_1_arrays args s ++ Jvm.staticLocs frame_1_statics s) 0 0 → Post tb e args s (.returned v) u) :
    ArmFor flags0 classFile x code maxLocals ret World_1 tables_1 room_1 Calls_1 rest_1 Pre_1 Post := by
  intro l hfl _ _ p e ha hc hk s m args below hf hA hF happ hP
  obtain ⟨hcalls, hrest, hpre⟩ := hP
  obtain ⟨-, -, -, hnamed, -, -, -, hat⟩ := (Spec.applies_iff hf).mp happ
  obtain ⟨hg, hn⟩ := and_e (Cond.before_iff.mp (show (Jvm.Cond.and given_1 narrow_1).before args s = true from hpre))
  obtain ⟨gc, r0⟩ := and_e hg
  obtain ⟨k0, r1⟩ := and_e r0
  obtain ⟨k1, r2⟩ := and_e r1
  obtain ⟨w0, w1, w2, rfl⟩ : ∃ w0 w1 w2 : Value, args = #[w0, w1, w2] := by
    have hs : args.size = 3 := by simpa [Cond.value, given_1] using gc
    obtain ⟨L⟩ := args
    match L, hs with
    | [w0, w1, w2], _ => exact ⟨w0, w1, w2, rfl⟩
  have hw := fun d (hd : d ∈ tables_1) => atoms_spec (ws := Jvm.Cond.code x code maxLocals ret :: tables_1) hat d (List.mem_cons_of_mem _ hd)
  obtain ⟨i0, ei0⟩ := isL_v k0
  obtain rfl : w0 = (.long i0) := Option.some.inj ei0
  obtain ⟨i1, ei1⟩ := isL_v k1
  obtain rfl : w1 = (.long i1) := Option.some.inj ei1
  obtain ⟨i2, ei2⟩ := is_v r2
  obtain rfl : w2 = (.int i2) := Option.some.inj ei2
  obtain ⟨n, o, h1, h2, h3, _, L, rfl, ⟨rfl, N⟩, hq⟩ := own_rm0 l s _ hw i0 i1 i2 s.heap s.heap.size (Nat.le_refl _)  tables_1 p e ha hc hk s m _ below hf ((Spec.applies_iff_loose hf).mp happ).1 ⟨rfl, State.Warmed39.refl s, rfl⟩ trivial
  refine ⟨n, _, h1, h2, h3, hpost _ _ _ _ _ _ ⟨Cond.after_iff.mpr rfl, Cond.after_iff.mpr (eq_i res_at (Term.int_eval (1)) rfl), trivial⟩ ⟨hq.1, hq.2.1, (hq.2.2.sift fun y hy => Or.inr (N y hy)).mono (by decide) (by decide)⟩⟩
theorem main_1_1 : Claimed_1_1 := own_comes fun _ _ _ _ _ _ h hF => ⟨h.1, hF⟩
theorem main_1_2 : Claimed_1_2 := own_comes fun _ _ _ _ _ _ h hF => ⟨h.2.1, hF⟩
end Jvm.Pilot.@@N@@
namespace Jvm.Pilot.@@N@@
open Jvm Jvm.ClassFile Sem Op Lib Jvm.Free Jvm.Stand Jvm.Pilot.@@N@@.Jvm.D
/-! MADE BY PROGRAM (witnessworld.py) out of the Statement's table words and the real class files: 10 classes; the members and pool entries that the words name. The judged class is class 1, her method 1. -/
namespace start1
open Jvm.ClassFile
def u (s : String) : CpInfo := .utf8 (stringToUtf16 s)
/-- a pool by its gaps: so many unusable entries, then the entry; so many at the end -/
def gap : Nat → List CpInfo → List CpInfo
  | 0, r => r
  | n + 1, r => .unusable :: gap n r
def poolList (es : List (Nat × CpInfo)) (last : Nat) : List CpInfo := es.foldr (fun e r => gap e.1 (e.2 :: r)) (gap last [])
def pool (es : List (Nat × CpInfo)) (last : Nat) : Array CpInfo := ⟨poolList es last⟩
def fileOf (pool : Array CpInfo) (this : Nat) (attrs : Array Attribute := #[]) (ms : Array MethodInfo := #[]) (fl : Nat := 33) (sup : Nat := 0) (ifs : Array Nat := #[]) (fds : Array FieldInfo := #[]) : ClassFile where
  minorVersion := 0
  majorVersion := 65
  constantPool := pool
  accessFlags := fl
  thisClass := this
  superClass := sup
  interfaces := ifs
  fields := fds
  methods := ms
  attributes := attrs
def plain (name : String) (sup : Option ClassId) : Class where
  name := name
  kind := .ordinary
  loader := none
  accessFlags := 33
  super := sup
  interfaces := #[]
  cf := none
  fields := #[]
  methods := #[]
  instanceTypes := #[]
  staticTypes := #[]
  resolved := #[]
  callSites := []
  init := .initialized
  statics := none
  mirror := none

def pool0 : Array CpInfo := pool [(5, u "<init>"), (0, u "()V"), (1, .class_ 10), (1, u "java/lang/Object")] 113

def k0m0 : Method := { name := "<init>", desc := "()V", sig := { parameters := [], returnType := none }, accessFlags := 1, code := none }
/-- java/lang/Object -/
def k0 : Class := { plain "java/lang/Object" none with
  accessFlags := 33
  interfaces := #[]
  cf := some (fileOf pool0 8 #[] #[{ accessFlags := 1, nameIndex := 5, descriptorIndex := 6, attributes := #[] }] 33 0 #[] #[])
  fields := #[]
  methods := #[k0m0]
  instanceTypes := #[]
  staticTypes := #[]
  resolved := Array.replicate 124 none
  statics := none }

def pool1 : Array CpInfo := pool [(2, .class_ 4), (1, u "java/lang/Object"), (0, u "<init>"), (0, u "()V"), (2, .long 9223372036854775808), (1, .methodref 12 13), (0, .class_ 14), (0, .nameAndType 15 16), (0, u "org/crestline/match/SkippingTraversal"), (0, u "below"), (0, u "(JJ)J"), (0, .class_ 18), (0, u "org/crestline/match/SkippingTraversalBelowPinLaw"), (2, u "law"), (0, u "(JJI)Z")] 3

def k1m0 : Method := { name := "<init>", desc := "()V", sig := { parameters := [], returnType := none }, accessFlags := 1, code := none }
def k1c1 : Code := { maxStack := 4, maxLocals := 16, code := code, exceptionTable := #[], attributes := #[] }
def k1m1 : Method := { name := "law", desc := "(JJI)Z", sig := { parameters := [.long, .long, .int], returnType := some .boolean }, accessFlags := 9, code := some k1c1 }
/-- org/crestline/match/SkippingTraversalBelowPinLaw -/
def k1 : Class := { plain "org/crestline/match/SkippingTraversalBelowPinLaw" (some 0) with
  accessFlags := 49
  interfaces := #[]
  cf := some (fileOf pool1 17 #[] #[{ accessFlags := 1, nameIndex := 5, descriptorIndex := 6, attributes := #[] }, { accessFlags := 9, nameIndex := 21, descriptorIndex := 22, attributes := #[] }] 49 2 #[] #[])
  fields := #[]
  methods := #[k1m0, k1m1]
  instanceTypes := #[]
  staticTypes := #[]
  resolved := Array.replicate 26 none
  statics := none }

def pool2 : Array CpInfo := pool [(1, .class_ 2), (0, u "org/crestline/match/Traversal"), (0, .class_ 4), (0, u "java/lang/Object"), (5, .class_ 11), (0, u "org/crestline/match/Traversal$Query"), (0, .class_ 13), (0, u "org/crestline/match/Traversal$Related"), (0, .class_ 15), (0, u "org/crestline/match/Traversal$Work")] 4

/-- org/crestline/match/Traversal -/
def k2 : Class := { plain "org/crestline/match/Traversal" (some 0) with
  accessFlags := 1536
  interfaces := #[]
  cf := some (fileOf pool2 1 #[.nestMembers #[10, 12, 14]] #[] 1536 3 #[] #[])
  fields := #[]
  methods := #[]
  instanceTypes := #[]
  staticTypes := #[]
  resolved := Array.replicate 20 none
  statics := none }

def pool3 : Array CpInfo := pool [(2, .class_ 4), (1, u "java/lang/Object"), (0, u "<init>"), (0, u "()V"), (1, .class_ 10), (1, u "org/crestline/match/SkippingTraversal"), (0, u "maxima"), (0, u "[D"), (5, u "lead"), (0, u "Lorg/crestline/match/LeadList;"), (2, u "marks"), (0, u "[J"), (2, u "shared"), (2, u "denseHeld"), (2, u "notLone"), (2, u "notLoneRoom"), (5, u "denseStories"), (0, u "Lorg/crestline/match/DenseStories;"), (5, u "reported"), (0, u "Lorg/crestline/match/Reported;"), (2, u "places"), (0, u "[I"), (5, u "examined"), (0, u "Lorg/crestline/match/ExaminedPostings;"), (4, u "lists"), (0, u "[Lorg/crestline/index/PostingList;"), (6, u "sharedStops"), (0, u "Lorg/crestline/match/ListCursors$Stops;"), (37, u "denseWords"), (0, u "I"), (119, u "(JJ)J"), (2, u "below"), (84, .class_ 322), (0, u "org/crestline/match/Traversal")] 41

def k3m0 : Method := { name := "<init>", desc := "()V", sig := { parameters := [], returnType := none }, accessFlags := 0, code := none }
def k3c1 : Code := { maxStack := 8, maxLocals := 6, code := prog_57_method_19_code, exceptionTable := #[], attributes := #[] }
def k3m1 : Method := { name := "below", desc := "(JJ)J", sig := { parameters := [.long, .long], returnType := some .long }, accessFlags := 8, code := some k3c1 }
/-- org/crestline/match/SkippingTraversal -/
def k3 : Class := { plain "org/crestline/match/SkippingTraversal" (some 0) with
  accessFlags := 1056
  interfaces := #[2]
  cf := some (fileOf pool3 8 #[] #[{ accessFlags := 0, nameIndex := 5, descriptorIndex := 6, attributes := #[] }, { accessFlags := 8, nameIndex := 236, descriptorIndex := 233, attributes := #[] }] 1056 2 #[321] #[{ accessFlags := 2, nameIndex := 11, descriptorIndex := 12, attributes := #[] }, { accessFlags := 18, nameIndex := 18, descriptorIndex := 19, attributes := #[] }, { accessFlags := 2, nameIndex := 22, descriptorIndex := 23, attributes := #[] }, { accessFlags := 2, nameIndex := 26, descriptorIndex := 23, attributes := #[] }, { accessFlags := 2, nameIndex := 29, descriptorIndex := 23, attributes := #[] }, { accessFlags := 2, nameIndex := 112, descriptorIndex := 113, attributes := #[] }, { accessFlags := 2, nameIndex := 32, descriptorIndex := 23, attributes := #[] }, { accessFlags := 2, nameIndex := 35, descriptorIndex := 23, attributes := #[] }, { accessFlags := 18, nameIndex := 41, descriptorIndex := 42, attributes := #[] }, { accessFlags := 18, nameIndex := 48, descriptorIndex := 49, attributes := #[] }, { accessFlags := 2, nameIndex := 52, descriptorIndex := 53, attributes := #[] }, { accessFlags := 18, nameIndex := 59, descriptorIndex := 60, attributes := #[] }, { accessFlags := 2, nameIndex := 65, descriptorIndex := 66, attributes := #[] }, { accessFlags := 18, nameIndex := 73, descriptorIndex := 74, attributes := #[] }])
  fields := #[{ name := "maxima", type := (.array .double), accessFlags := 2, slot := 0, constantValue := 0 }, { name := "lead", type := (.object "org/crestline/match/LeadList"), accessFlags := 18, slot := 1, constantValue := 0 }, { name := "marks", type := (.array .long), accessFlags := 2, slot := 2, constantValue := 0 }, { name := "shared", type := (.array .long), accessFlags := 2, slot := 3, constantValue := 0 }, { name := "denseHeld", type := (.array .long), accessFlags := 2, slot := 4, constantValue := 0 }, { name := "denseWords", type := .int, accessFlags := 2, slot := 5, constantValue := 0 }, { name := "notLone", type := (.array .long), accessFlags := 2, slot := 6, constantValue := 0 }, { name := "notLoneRoom", type := (.array .long), accessFlags := 2, slot := 7, constantValue := 0 }, { name := "denseStories", type := (.object "org/crestline/match/DenseStories"), accessFlags := 18, slot := 8, constantValue := 0 }, { name := "reported", type := (.object "org/crestline/match/Reported"), accessFlags := 18, slot := 9, constantValue := 0 }, { name := "places", type := (.array .int), accessFlags := 2, slot := 10, constantValue := 0 }, { name := "examined", type := (.object "org/crestline/match/ExaminedPostings"), accessFlags := 18, slot := 11, constantValue := 0 }, { name := "lists", type := (.array (.object "org/crestline/index/PostingList")), accessFlags := 2, slot := 12, constantValue := 0 }, { name := "sharedStops", type := (.object "org/crestline/match/ListCursors$Stops"), accessFlags := 18, slot := 13, constantValue := 0 }]
  methods := #[k3m0, k3m1]
  instanceTypes := #[(.array .double), (.object "org/crestline/match/LeadList"), (.array .long), (.array .long), (.array .long), .int, (.array .long), (.array .long), (.object "org/crestline/match/DenseStories"), (.object "org/crestline/match/Reported"), (.array .int), (.object "org/crestline/match/ExaminedPostings"), (.array (.object "org/crestline/index/PostingList")), (.object "org/crestline/match/ListCursors$Stops")]
  staticTypes := #[]
  resolved := Array.replicate 364 none
  statics := none }

def pool4 : Array CpInfo := pool [(1, u "java/lang/Cloneable"), (0, .class_ 1), (0, u "java/lang/Object"), (0, .class_ 3)] 3

/-- java/lang/Cloneable -/
def k4 : Class := { plain "java/lang/Cloneable" (some 0) with
  accessFlags := 1537
  interfaces := #[]
  cf := some (fileOf pool4 2 #[] #[] 1537 4 #[] #[])
  fields := #[]
  methods := #[]
  instanceTypes := #[]
  staticTypes := #[]
  resolved := Array.replicate 8 none
  statics := none }

def pool5 : Array CpInfo := pool [(1, u "java/io/Serializable"), (0, .class_ 1), (0, u "java/lang/Object"), (0, .class_ 3)] 3

/-- java/io/Serializable -/
def k5 : Class := { plain "java/io/Serializable" (some 0) with
  accessFlags := 1537
  interfaces := #[]
  cf := some (fileOf pool5 2 #[] #[] 1537 4 #[] #[])
  fields := #[]
  methods := #[]
  instanceTypes := #[]
  staticTypes := #[]
  resolved := Array.replicate 8 none
  statics := none }

/-- the primitive byte -/
def k6 : Class := { plain "byte" none with kind := .primitive 'B', accessFlags := 0x411 }
/-- [B -/
def k7 : Class := { plain "[B" (some 0) with kind := .array 6 .byte, interfaces := #[4, 5], accessFlags := 1041 }

/-- the primitive int -/
def k8 : Class := { plain "int" none with kind := .primitive 'I', accessFlags := 0x411 }
/-- [I -/
def k9 : Class := { plain "[I" (some 0) with kind := .array 8 .int, interfaces := #[4, 5], accessFlags := 1041 }

def heap : Heap := #[]
def classes : Array Class := #[k0, k1, k2, k3, k4, k5, k6, k7, k8, k9]
def interned : List (Array UInt16 × Addr) := []
def slotsUsed : Nat := 0
def theMethod : MethodId := ⟨1, 1⟩
def args0 : Array Value := #[.long 5, .long 7, .int 1]
def aboutOver (below : List Frame) : State where
  vm := { classes := classes, interned := interned.toArray }
  heap := heap
  slotsUsed := slotsUsed
  threads := #[{ frames := .invoking theMethod args0 :: below }]
def below0 : List Frame := [.native { method := ⟨0, 0⟩, args := #[] }]
def about1 : State := aboutOver below0
def p0 : Program := .bare "" "" ""
def e0 : Env := launch0.env 0 0 0
theorem w_frames : about1.frames = Frame.invoking theMethod args0 :: below0 := rfl
set_option maxRecDepth 65536 in
theorem w_args : argsFit about1.vm theMethod args0 = true := by decide +kernel
set_option maxRecDepth 65536 in
theorem w_heap : heapFits about1 = true := by decide +kernel
set_option maxRecDepth 65536 in
theorem w_runnable : about1.curStatus? = some .runnable := by decide +kernel
set_option maxRecDepth 65536 in
theorem w_alone : about1.alone = true := by decide +kernel
set_option maxRecDepth 65536 in
theorem w_named : about1.methodNamed? x = some theMethod := by decide +kernel
set_option maxRecDepth 65536 in
theorem w_hears : about1.hears theMethod below0 = true := by decide +kernel
set_option maxRecDepth 65536 in
theorem w_ripe : about1.ripe theMethod args0 below0 = true := by decide +kernel
theorem w_running : about1.status = .running := rfl
set_option maxRecDepth 65536 in
theorem w_room : about1.hasRoom e0.platform room_1 = true :=
  launch0.hasRoom_least _ room_1 (by decide +kernel) (by decide +kernel) (by decide +kernel) (by decide +kernel) (by decide +kernel) (by decide +kernel)
theorem allAtoms_all (ts : List Jvm.Cond) (a : Array Jvm.Value) (st : Jvm.State) : (allAtoms ts).before a st = ts.all (fun c => c.before a st) := by
  induction ts with
  | nil => rfl
  | cons c t ih =>
    show (Jvm.Cond.and c (allAtoms t)).before a st = _
    rw [Jvm.Cond.before_and, ih, List.all_cons]
def words1 : List Jvm.Cond := Jvm.Cond.code x code maxLocals ret :: tables_1
/-- a 'code' word, met by the world's own term for the bytes: nothing is compared byte by byte -/
theorem code_word {y : MethodName} {bytes : ByteArray} {mx : Nat} {rt : Option FieldType} {a : Array Value} {s : State} {m : MethodId} {meth : Method} {c : Code} (h1 : s.methodNamed? y = some m) (h2 : s.vm.method? m = some meth) (h3 : meth.code = some c) (h4 : c.code = bytes)
    (h5 : (c.maxLocals == mx && c.exceptionTable.isEmpty && decide (c.maxStack ≤ mostOperands) && decide (meth.sig.returnType = rt) && !meth.locks && decide (parseMethodDescriptor y.desc = some meth.sig)) = true) : (Jvm.Cond.code y bytes mx rt).before a s = true := by
  simp only [Bool.and_eq_true, beq_iff_eq, Bool.not_eq_true', decide_eq_true_eq] at h5
  obtain ⟨⟨⟨⟨⟨g1, g2⟩, g3⟩, g4⟩, g5⟩, g6⟩ := h5
  simp [Cond.before, Cond.holds, Cond.value, h1, h2, h3, h4, g1, g2, g3, g4, g5, g6]
def isCode : Jvm.Cond → Bool
  | .code _ _ _ _ => true
  | _ => false
theorem all_split {L : List Jvm.Cond} {P : Jvm.Cond → Bool} (h1 : L.all (fun c => isCode c || P c) = true) (h2 : ∀ c ∈ L.filter isCode, P c = true) : L.all P = true := by
  refine List.all_eq_true.mpr fun c hc => ?_
  have h := List.all_eq_true.mp h1 c hc
  rcases Bool.eq_false_or_eq_true (isCode c) with hi | hi
  · exact h2 c (List.mem_filter.mpr ⟨hc, hi⟩)
  · simpa [hi] using h
set_option maxRecDepth 65536 in
theorem w_c0 : (Jvm.Cond.code x code maxLocals ret).before args0 about1 = true := code_word (m := ⟨1, 1⟩) (meth := k1m1) (c := k1c1) (by decide +kernel) rfl rfl rfl (by decide +kernel)
set_option maxRecDepth 65536 in
theorem w_c1 : (Jvm.Cond.code ({ cls := "org/crestline/match/SkippingTraversal", name := "below", desc := "(JJ)J" } : Jvm.MethodName) prog_57_method_19_code (6 : Nat) (Option.some Jvm.ClassFile.FieldType.long)).before args0 about1 = true := code_word (m := ⟨3, 1⟩) (meth := k3m1) (c := k3c1) (by decide +kernel) rfl rfl rfl (by decide +kernel)
def codes1 : List Jvm.Cond := [Jvm.Cond.code x code maxLocals ret, Jvm.Cond.code ({ cls := "org/crestline/match/SkippingTraversal", name := "below", desc := "(JJ)J" } : Jvm.MethodName) prog_57_method_19_code (6 : Nat) (Option.some Jvm.ClassFile.FieldType.long)]
set_option maxRecDepth 65536 in
theorem codes_eq : words1.filter isCode = codes1 := rfl
theorem w_codes : ∀ c ∈ words1.filter isCode, c.before args0 about1 = true := by
  rw [codes_eq]
  intro c hc
  simp only [codes1, List.mem_cons, List.not_mem_nil, or_false] at hc
  rcases hc with rfl | rfl
  · exact w_c0
  · exact w_c1
set_option maxRecDepth 65536 in
theorem w_t1 : words1.all (fun c => isCode c || c.before args0 about1) = true := by decide +kernel
theorem w_tables : (allAtoms (Jvm.Cond.code x code maxLocals ret :: tables_1)).before args0 about1 = true := by
  rw [allAtoms_all]
  show words1.all (fun c => c.before args0 about1) = true
  refine all_split ?_ w_codes
  rw [w_t1]
set_option maxRecDepth 65536 in
theorem w_case : (Jvm.Cond.and given_1 narrow_1).before args0 about1 = true := by decide +kernel
theorem w_applies : (headSpec (Jvm.Cond.code x code maxLocals ret :: tables_1) room_1).applies x e0.platform about1 = true :=
  (Spec.applies_iff w_frames).mpr ⟨w_running, w_runnable, w_alone, w_named, w_hears, w_ripe, w_room, w_tables⟩
theorem atStart : AtStart classFile x code maxLocals ret World_1 tables_1 room_1 Calls_1 rest_1 Pre_1 launch0 p0 e0 about1 theMethod args0 below0 :=
  ⟨lists_1, trivial, launch0.admits_env _ _ _, launch0.least_env, fairChoices_fair.cas, fairChoices_fair.clock, w_frames, w_args, w_heap, w_applies, trivial, trivial, w_case⟩
end start1
theorem witness_1 : WitnessClaimed_1 := ⟨start1.p0, start1.e0, start1.about1, start1.theMethod, start1.args0, start1.below0, start1.atStart⟩
end Jvm.Pilot.@@N@@
