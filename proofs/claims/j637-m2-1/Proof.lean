import JvmDerived
import JvmDerived.Pilot.@@N@@Statement
import JvmDerived.Pilot.@@N@@Code
set_option linter.unusedVariables false
set_option linter.unusedSimpArgs false
namespace Jvm.OwnKit
open Sem ClassFile Op Lib Jvm.Stand Jvm.Free Jvm.LawKit Jvm.RoadKit
/-- from S on the body comes back, and F says how -/
def Run (p : Program) (e : Env) (below : List Frame) (F : Outcome → State → Prop) (S : State) : Prop :=
  ∃ s₂ o, Steps p.tables e below S s₂ ∧ s₂.status = .running ∧ Ended s₂ below o ∧ F o s₂
def Nar (s : State) (rm : Room) (Q : Option Value → Heap → List Loc → Prop) (o : Outcome) (t : State) : Prop := ∃ v L, o = .returned v ∧ Q v t.heap L ∧ FrameEnd s o t L rm.cells rm.slots
/-- a body's contract at these arguments and this heap -/
def Ctr (l : Launch) (Z : State) (y : MethodName) (bytes : ByteArray) (maxL : Nat) (ret : Option FieldType) (rm : Room) (as : Array Value) (h0 : Heap) (Q : Option Value → Heap → List Loc → Prop) : Prop :=
  ∀ ws : List Jvm.Cond, MetFree l y (head1 (Jvm.Cond.code y bytes maxL ret :: ws) rm) (fun a U => a = as ∧ Z.Warmed39 U.vm ∧ U.heap = h0) (fun _ _ _ _ _ => True) (fun _ U o U' => ∃ v L, o = .returned v ∧ Q v U'.heap L ∧ FrameEnd U o U' L rm.cells rm.slots)
theorem Ctr.body {l : Launch} {Z : State} {y : MethodName} {bytes : ByteArray} {maxL : Nat} {ret : Option FieldType} {rm : Room} {as : Array Value} {h0 : Heap} {Q : Option Value → Heap → List Loc → Prop} (hp : plainFor y = true)
    (body : ∀ (p : Program) (e : Env) (s : State) (m : MethodId) (below : List Frame) (meth : Method) (c : Code) (T : State), Stand p l e rm s m as below meth c T [] 0 0 → p.tables.exec = Jvm.exec → c.code = bytes → c.maxLocals = maxL → s.vm.findClass y.cls = some m.cls → meth.name = y.name → meth.sig.returnType = ret → meth.locks = false → Z.Warmed39 s.vm → T.heap = h0 → Run p e below (Nar s rm Q) (T.setTop (entryFrame m as maxL))) :
    Ctr l Z y bytes maxL ret rm as h0 Q := by
  intro ws
  refine MetFree.of_bodySF hp hisR ?_
  intro p e s m args below meth c s₁ Bd hml hP hK
  obtain ⟨rfl, hZ, hh⟩ := hP
  exact body p e s m below meth c s₁ (Stand.of_body Bd) Bd.exec Bd.bytes hml (findClass_of_methodNamed Bd.named) (name_of_methodNamed Bd.named Bd.method).1 Bd.returns (BodyLoose.notSynchronized Bd) hZ (by rw [← hh, Bd.state]; rfl)
section Walk
variable {p : Program} {l : Launch} {e : Env} {R : Room} {s : State} {m : MethodId} {args : Array Value} {below : List Frame} {meth : Method} {c : Code} {T : State} {locs : List Loc} {cells slots : Nat} {Z : State} {a0 : Array Value} {h h' h1 h2 : Heap} {Q : Option Value → Heap → List Loc → Prop} {F : Outcome → State → Prop}
theorem Run.via {S S' : State} (f : ∀ t, Steps p.tables e below S' t → Steps p.tables e below S t) (k : Run p e below F S') : Run p e below F S := by
  obtain ⟨s₂, o, q1, q2⟩ := k
  exact ⟨s₂, o, f _ q1, q2⟩
theorem Run.cast {g g' : JFrame} (q : g = g') (k : Run p e below F (T.setTop g')) : Run p e below F (T.setTop g) := q ▸ k
theorem Run.ret (X : Stand p l e R s m args below meth c T locs cells slots) (hx : p.tables.exec = Jvm.exec) (hlk : meth.locks = false) {pc : Nat} {Ls : Array Slot} {w : Value} {t : FieldType} {i : Instr} {rest : List Value} (hret : meth.sig.returnType = some t) (hd : decode c.code pc = .ok (i, 1)) (hn : narrow t w = w)
    (hi : (i = .ireturn ∧ (t = .int ∨ t = .boolean ∨ t = .byte ∨ t = .char ∨ t = .short) ∧ ∃ z, w = .int z) ∨ (i = .lreturn ∧ t = .long ∧ ∃ z, w = .long z) ∨ (i = .dreturn ∧ t = .double ∧ ∃ z, w = .double z) ∨ (i = .freturn ∧ t = .float ∧ ∃ z, w = .float z) ∨ (i = .areturn ∧ t.isReference = true ∧ w.isRef = true))
    (hc : cells ≤ R.cells) (hs : slots ≤ R.slots) (hq : Q (some w) T.heap locs) : Run p e below (Nar s R Q) (T.setTop (mkF m pc Ls (w :: rest))) := by
  obtain ⟨fs, hr, hrun, hended, hW, hsame⟩ := X.leave (v := some w) (fun q => by rw [hret] at q; cases q) hlk
  exact ⟨_, _, retOut X hx hret hn hi hd hr, hrun, hended, _, _, rfl, hq, ⟨_, rfl⟩, hW, hsame.mono hc hs⟩
theorem Run.retB (X : Stand p l e R s m args below meth c T locs cells slots) (hx : p.tables.exec = Jvm.exec) (hlk : meth.locks = false) {pc : Nat} {Ls : Array Slot} {z : Int32} {rest : List Value} (hret : meth.sig.returnType = some .boolean) (hd : decode c.code pc = .ok (.ireturn, 1)) (hn : narrow .boolean (.int z) = .int z)
    (hc : cells ≤ R.cells) (hs : slots ≤ R.slots) (hq : Q (some (.int z)) T.heap locs) : Run p e below (Nar s R Q) (T.setTop (mkF m pc Ls (.int z :: rest))) :=
  Run.ret X hx hlk hret hd hn (Or.inl ⟨rfl, Or.inr (Or.inl rfl), z, rfl⟩) hc hs hq
theorem Run.retI (X : Stand p l e R s m args below meth c T locs cells slots) (hx : p.tables.exec = Jvm.exec) (hlk : meth.locks = false) {pc : Nat} {Ls : Array Slot} {z : Int32} {rest : List Value} (hret : meth.sig.returnType = some .int) (hd : decode c.code pc = .ok (.ireturn, 1))
    (hc : cells ≤ R.cells) (hs : slots ≤ R.slots) (hq : Q (some (.int z)) T.heap locs) : Run p e below (Nar s R Q) (T.setTop (mkF m pc Ls (.int z :: rest))) :=
  Run.ret X hx hlk hret hd rfl (Or.inl ⟨rfl, Or.inl rfl, z, rfl⟩) hc hs hq
theorem narrow_ref {t : FieldType} {w : Value} (h : w.isRef = true) : narrow t w = w := by
  cases w <;> simp [Value.isRef] at h <;> cases t <;> rfl
theorem Run.retR (X : Stand p l e R s m args below meth c T locs cells slots) (hx : p.tables.exec = Jvm.exec) (hlk : meth.locks = false) {pc : Nat} {Ls : Array Slot} {w : Value} {t : FieldType} {rest : List Value} (hret : meth.sig.returnType = some t) (hd : decode c.code pc = .ok (.areturn, 1)) (ht : t.isReference = true) (hw : w.isRef = true)
    (hc : cells ≤ R.cells) (hs : slots ≤ R.slots) (hq : Q (some w) T.heap locs) : Run p e below (Nar s R Q) (T.setTop (mkF m pc Ls (w :: rest))) :=
  Run.ret X hx hlk hret hd (Jvm.OwnKit.narrow_ref hw) (Or.inr (Or.inr (Or.inr (Or.inr ⟨rfl, ht, hw⟩)))) hc hs hq
theorem Run.retV (X : Stand p l e R s m args below meth c T locs cells slots) (hx : p.tables.exec = Jvm.exec) (hlk : meth.locks = false) {pc : Nat} {Ls : Array Slot} (hret : meth.sig.returnType = none) (hd : decode c.code pc = .ok (.return_, 1))
    (hc : cells ≤ R.cells) (hs : slots ≤ R.slots) (hq : Q none T.heap locs) : Run p e below (Nar s R Q) (T.setTop (mkF m pc Ls [])) := by
  obtain ⟨fs, hr, hrun, hended, hW, hsame⟩ := X.leave (v := none) (fun _ => rfl) hlk
  exact ⟨_, _, X.returnOut hx hret hd hr, hrun, hended, _, _, rfl, hq, ⟨_, rfl⟩, hW, hsame.mono hc hs⟩
/-- a static callee by its contract -/
theorem callC (X : Stand p l e R s m args below meth c T locs cells slots) (hx : p.tables.exec = Jvm.exec) (hZ : Z.Warmed39 s.vm) {own : String} {index : Nat} {y : MethodName} {bytes : ByteArray} {maxL : Nat} {ret : Option FieldType} {rm : Room} {P : Option Value → Heap → List Loc → Prop} (hown : s.vm.findClass own = some m.cls)
    (w1 : (Cond.methodLink own index y).before a0 Z = true) (w2 : (Cond.static y).before a0 Z = true) (w3 : (Cond.initialized y.cls).before a0 Z = true) (w4 : (Cond.code y bytes maxL ret).before a0 Z = true) (hy : y.cls ≠ "java/lang/invoke/MethodHandle" ∧ y.cls ≠ "java/lang/invoke/VarHandle")
    (eT : T.heap = h) {argsL rest : List Value} (K : Ctr l Z y bytes maxL ret rm argsL.toArray h P) {g : JFrame} (hg : g.method = m) (hsize : g.locals.size = c.maxLocals) (hs : g.stack = argsL.reverse ++ rest) (hd : decode c.code g.pc = .ok (.invokestatic index, 3))
    (hlen : ∀ sig, parseMethodDescriptor y.desc = some sig → argsL.length = sig.parameters.length) {W : Nat} (hW : 2 * g.monitorRoom + (rest.map fun v => v.category).sum ≤ W) (hf : rm.frames + 1 ≤ R.frames) (hl : W + (maxL + 11) + rm.locals ≤ R.locals) (hc : cells + rm.cells ≤ R.cells) (hsl : slots + rm.slots ≤ R.slots) :
    ∃ (v : Option Value) (T' : State) (L : List Loc), Stand p l e R s m args below meth c T' (locs ++ L) (cells + rm.cells) (slots + rm.slots) ∧ P v T'.heap L ∧
      ∀ target, Steps p.tables e below (T'.setTop { g with pc := g.pc + 3, stack := v.toList ++ rest }) target → Steps p.tables e below (T.setTop g) target := by
  obtain ⟨v, vm₁, ⟨T', L', k', n'⟩, -, X', ⟨L, hQ, l1, l2, l3⟩, st⟩ := Jvm.LawKit.callS X hx (y := y) hown (mvT hZ w1) (mvT hZ w2) (mvT hZ w3) (mvT hZ w4) hy (backOf (W := W) (K []) hZ w4 w3 hf hl) (g := g) hg hsize (argsL := argsL) (rest := rest) hlen hs hW hd (fun _ _ => ⟨rfl, eT, hc, hsl⟩)
  dsimp only [Pt.U, Pt.locs, Pt.cells, Pt.slots] at X' l1 l2 l3 st hQ
  subst l1 l2 l3
  exact ⟨v, T', L, X', hQ, st⟩
/-- an instance method by its contract -/
theorem callV (X : Stand p l e R s m args below meth c T locs cells slots) (hx : p.tables.exec = Jvm.exec) (hZ : Z.Warmed39 s.vm) {own C : String} {index : Nat} {y : MethodName} {bytes : ByteArray} {maxL : Nat} {ret : Option FieldType} {rm : Room} {P : Option Value → Heap → List Loc → Prop} (hown : s.vm.findClass own = some m.cls)
    (w1 : (Cond.methodLink own index y).before a0 Z = true) (w2 : (Cond.declares y).before a0 Z = true) (w5 : (Cond.selects C y y).before a0 Z = true) (w6 : (Cond.instanceMethod y).before a0 Z = true) (w3 : (Cond.initialized y.cls).before a0 Z = true) (w4 : (Cond.code y bytes maxL ret).before a0 Z = true) (hy : y.cls ≠ "java/lang/invoke/MethodHandle" ∧ y.cls ≠ "java/lang/invoke/VarHandle")
    (eT : T.heap = h) {b : Addr} (E : Exa Z h b C) {argsL rest : List Value} (K : Ctr l Z y bytes maxL ret rm (.ref b :: argsL).toArray h P) {g : JFrame} (hg : g.method = m) (hsize : g.locals.size = c.maxLocals) (hs : g.stack = argsL.reverse ++ .ref b :: rest) (hd : decode c.code g.pc = .ok (.invokevirtual index, 3))
    (hlen : ∀ sig, parseMethodDescriptor y.desc = some sig → argsL.length = sig.parameters.length) {W : Nat} (hW : 2 * g.monitorRoom + (rest.map fun v => v.category).sum ≤ W) (hf : rm.frames + 1 ≤ R.frames) (hl : W + (maxL + 11) + rm.locals ≤ R.locals) (hc : cells + rm.cells ≤ R.cells) (hsl : slots + rm.slots ≤ R.slots) :
    ∃ (v : Option Value) (T' : State) (L : List Loc), Stand p l e R s m args below meth c T' (locs ++ L) (cells + rm.cells) (slots + rm.slots) ∧ P v T'.heap L ∧
      ∀ target, Steps p.tables e below (T'.setTop { g with pc := g.pc + 3, stack := v.toList ++ rest }) target → Steps p.tables e below (T.setTop g) target := by
  obtain ⟨cq, kq, qa, qb, qc⟩ := isOf hZ eT E
  obtain ⟨v, vm₁, ⟨T', L', k', n'⟩, -, X', ⟨L, hQ, l1, l2, l3⟩, st⟩ := X.virtualBack hx (y := y) (z := y) hown (mvT hZ w1) (mvT hZ w2) (notFace_of_selects (args := #[]) (mvT hZ w5)) (mvT hZ w5) (mvT hZ w6) hy (backOf (W := W) (K []) hZ w4 w3 hf hl) qa qc (g := g) hg hsize (Steps.refl _) (argsL := argsL) (rest := rest) hlen hs hW hd (fun _ _ => ⟨rfl, eT, hc, hsl⟩)
  dsimp only [Pt.U, Pt.locs, Pt.cells, Pt.slots] at X' l1 l2 l3 st hQ
  subst l1 l2 l3
  exact ⟨v, T', L, X', hQ, fun _ k => st.trans k⟩
/-- a constructor by its contract -/
theorem callN (X : Stand p l e R s m args below meth c T locs cells slots) (hx : p.tables.exec = Jvm.exec) (hZ : Z.Warmed39 s.vm) {own : String} {index : Nat} {y : MethodName} {bytes : ByteArray} {maxL : Nat} {rm : Room} {P : Option Value → Heap → List Loc → Prop} (hy1 : y.name = "<init>") (hown : s.vm.findClass own = some m.cls)
    (w1 : (Cond.methodLink own index y).before a0 Z = true) (w6 : (Cond.instanceMethod y).before a0 Z = true) (w3 : (Cond.initialized y.cls).before a0 Z = true) (w4 : (Cond.code y bytes maxL none).before a0 Z = true) (hy : y.cls ≠ "java/lang/invoke/MethodHandle" ∧ y.cls ≠ "java/lang/invoke/VarHandle")
    (eT : T.heap = h) {b : Addr} {argsL rest : List Value} (K : Ctr l Z y bytes maxL none rm (.ref b :: argsL).toArray h P) {g : JFrame} (hg : g.method = m) (hsize : g.locals.size = c.maxLocals) (hs : g.stack = argsL.reverse ++ .ref b :: rest) (hd : decode c.code g.pc = .ok (.invokespecial index, 3))
    (hlen : ∀ sig, parseMethodDescriptor y.desc = some sig → argsL.length = sig.parameters.length) {W : Nat} (hW : 2 * g.monitorRoom + (rest.map fun v => v.category).sum ≤ W) (hf : rm.frames + 1 ≤ R.frames) (hl : W + (maxL + 11) + rm.locals ≤ R.locals) (hc : cells + rm.cells ≤ R.cells) (hsl : slots + rm.slots ≤ R.slots) :
    ∃ (v : Option Value) (T' : State) (L : List Loc), Stand p l e R s m args below meth c T' (locs ++ L) (cells + rm.cells) (slots + rm.slots) ∧ P v T'.heap L ∧
      ∀ target, Steps p.tables e below (T'.setTop { g with pc := g.pc + 3, stack := v.toList ++ rest }) target → Steps p.tables e below (T.setTop g) target := by
  obtain ⟨v, vm₁, ⟨T', L', k', n'⟩, -, X', ⟨L, hQ, l1, l2, l3⟩, st⟩ := X.specialBack hx (y := y) hy1 hown (mvT hZ w1) (mvT hZ w6) (mvT hZ w4) hy (backOf (W := W) (K []) hZ w4 w3 hf hl) (g := g) hg hsize (Steps.refl _) (a := b) (argsL := argsL) (rest := rest) hlen hs hW hd (fun _ _ => ⟨rfl, eT, hc, hsl⟩)
  dsimp only [Pt.U, Pt.locs, Pt.cells, Pt.slots] at X' l1 l2 l3 st hQ
  subst l1 l2 l3
  exact ⟨v, T', L, X', hQ, fun _ k => st.trans k⟩
/-- a private method by its contract -/
theorem callP (X : Stand p l e R s m args below meth c T locs cells slots) (hx : p.tables.exec = Jvm.exec) (hZ : Z.Warmed39 s.vm) {own : String} {index nn : Nat} {y : MethodName} {bytes : ByteArray} {maxL : Nat} {ret : Option FieldType} {rm : Room} {P : Option Value → Heap → List Loc → Prop} (hown : s.vm.findClass own = some m.cls)
    (w1 : (Cond.methodLink own index y).before a0 Z = true) (w6 : (Cond.instanceMethod y).before a0 Z = true) (w7 : (Cond.privateMethod y).before a0 Z = true) (w8 : (Cond.instantiable y.cls nn).before a0 Z = true) (w3 : (Cond.initialized y.cls).before a0 Z = true) (w4 : (Cond.code y bytes maxL ret).before a0 Z = true) (hy : y.cls ≠ "java/lang/invoke/MethodHandle" ∧ y.cls ≠ "java/lang/invoke/VarHandle")
    (eT : T.heap = h) {b : Addr} {C : String} (E : Exa Z h b C) {argsL rest : List Value} (K : Ctr l Z y bytes maxL ret rm (.ref b :: argsL).toArray h P) {g : JFrame} (hg : g.method = m) (hsize : g.locals.size = c.maxLocals) (hs : g.stack = argsL.reverse ++ .ref b :: rest) (hd : decode c.code g.pc = .ok (.invokevirtual index, 3))
    (hlen : ∀ sig, parseMethodDescriptor y.desc = some sig → argsL.length = sig.parameters.length) {W : Nat} (hW : 2 * g.monitorRoom + (rest.map fun v => v.category).sum ≤ W) (hf : rm.frames + 1 ≤ R.frames) (hl : W + (maxL + 11) + rm.locals ≤ R.locals) (hc : cells + rm.cells ≤ R.cells) (hsl : slots + rm.slots ≤ R.slots) :
    ∃ (v : Option Value) (T' : State) (L : List Loc), Stand p l e R s m args below meth c T' (locs ++ L) (cells + rm.cells) (slots + rm.slots) ∧ P v T'.heap L ∧
      ∀ target, Steps p.tables e below (T'.setTop { g with pc := g.pc + 3, stack := v.toList ++ rest }) target → Steps p.tables e below (T.setTop g) target := by
  obtain ⟨cl, q1, q2⟩ := E.cell
  have hpr : s.PrivateAt y := Cond.privateMethod_at (mvP hZ w7 (args := #[]))
  obtain ⟨cI, kI, i1, i2, -, i4, -⟩ := Cond.instantiable_spec (mvT hZ w8 : (Cond.instantiable y.cls nn).before args s = true)
  have hsel : (Cond.selects y.cls y y).before args s = true := selects_self_of_private i1 i2 (Bool.or_eq_false_iff.mp i4).1 hpr (mvT hZ w6) hy
  obtain ⟨v, vm₁, ⟨T', L', k', n'⟩, -, X', ⟨L, hQ, l1, l2, l3⟩, st⟩ := X.privateBack hx (y := y) hown (mvT hZ w1) (mvT hZ w6) hsel hpr (mvT hZ w4) hy (backOf (W := W) (K []) hZ w4 w3 hf hl) (g := g) hg hsize (Steps.refl _) (a := b) (cell := cl) (by rw [eT]; exact q1) q2 (argsL := argsL) (rest := rest) hlen hs hW hd (fun _ _ => ⟨rfl, eT, hc, hsl⟩)
  dsimp only [Pt.U, Pt.locs, Pt.cells, Pt.slots] at X' l1 l2 l3 st hQ
  subst l1 l2 l3
  exact ⟨v, T', L, X', hQ, fun _ k => st.trans k⟩
/-! arrays of references -/
theorem aaldV (X : Stand p l e R s m args below meth c T locs cells slots) (hx : p.tables.exec = Jvm.exec) (hZ : Z.Warmed39 s.vm) (eT : T.heap = h) {a : Addr} {k : ClassId} {ty : FieldType} {z j : Int32} {vs : List Value} {dv v : Value} (A : Arv Z h a k ty z vs dv) (hty : ty.isReference = true) (hj : ¬ j < 0 ∧ j < z) (hv : vs.getD j.toNatClampNeg dv = v)
    {g : JFrame} (hg : g.method = m) {rest : List Value} (hs : g.stack = .int j :: .ref a :: rest) (hd : decode c.code g.pc = .ok (.aaload, 1)) :
    ∀ target, Steps p.tables e below (T.setTop { g with pc := g.pc + 1, stack := v :: rest }) target → Steps p.tables e below (T.setTop g) target := by
  obtain ⟨cl, A, -, S, -, H, -⟩ := A
  have hin := inb_of S hj
  exact fun t q => X.aaload hx (by rw [eT]; exact A.1) (State.isArrayOf_alike hZ.alike A.2.1) hty A.2.2 hin (H.at hin hv) hg hs hd t q
theorem lenV (X : Stand p l e R s m args below meth c T locs cells slots) (hx : p.tables.exec = Jvm.exec) (hZ : Z.Warmed39 s.vm) (eT : T.heap = h) {a : Addr} {k : ClassId} {ty : FieldType} {z : Int32} {vs : List Value} {dv : Value} (A : Arv Z h a k ty z vs dv)
    {g : JFrame} (hg : g.method = m) {rest : List Value} (hs : g.stack = .ref a :: rest) (hd : decode c.code g.pc = .ok (.arraylength, 1)) :
    ∀ target, Steps p.tables e below (T.setTop { g with pc := g.pc + 1, stack := .int z :: rest }) target → Steps p.tables e below (T.setTop g) target := by
  obtain ⟨cl, A, -, S, N, -, -⟩ := A
  intro t q
  refine X.arraylength hx (by rw [eT]; exact A.1) (State.isArrayOf_alike hZ.alike A.2.1) hg hs hd t ?_
  rw [len_of S N]
  exact q
theorem aastV (X : Stand p l e R s m args below meth c T locs cells slots) (hx : p.tables.exec = Jvm.exec) (hZ : Z.Warmed39 s.vm) (eT : T.heap = h) {a : Addr} {k : ClassId} {ty : FieldType} {z j : Int32} {vs : List Value} {dv v : Value} (A : Arv Z h a k ty z vs dv) (hty : ty.isReference = true) (hj : ¬ j < 0 ∧ j < z) {i : Nat} (hi : j.toNatClampNeg = i) (hlen : i < vs.length)
    (F : ∀ cl, Arr Z h a cl ty → cl.cls = k → Sto Z h a v) (hfit : fits ty v = true) {g : JFrame} (hg : g.method = m) {rest : List Value} (hs : g.stack = v :: .int j :: .ref a :: rest) (hd : decode c.code g.pc = .ok (.aastore, 1)) :
    ∃ T' h', Stand p l e R s m args below meth c T' (locs ++ [⟨a, j.toNatClampNeg⟩]) cells slots ∧ T'.heap = h' ∧ Wr h h' a j.toNatClampNeg v ∧ Arv Z h' a k ty z (vs.set i v) dv ∧
      ∀ target, Steps p.tables e below (T'.setTop { g with pc := g.pc + 1, stack := rest }) target → Steps p.tables e below (T.setTop g) target := by
  obtain ⟨cl, A, q, S, N, H, G⟩ := A
  have hin := inb_of S hj
  obtain ⟨T', h', X', e', W, st⟩ := stR X hx hZ eT A (j := j) (v := v) hin hty (F cl A q) hg hs hd
  exact ⟨T', h', X', e', W, Arv.set A q S N H G hfit W i hi hlen, st⟩
/-- a cast of null or of one of the class -/
theorem castVV (X : Stand p l e R s m args below meth c T locs cells slots) (hx : p.tables.exec = Jvm.exec) (hZ : Z.Warmed39 s.vm) {own K : String} {index : Nat} (hown : s.vm.findClass own = some m.cls) (w : (Cond.classLink own index K).before a0 Z = true) (eT : T.heap = h) {v : Value} (B : v = .null ∨ ∃ r, v = .ref r ∧ Ins Z h r K true)
    {g : JFrame} (hg : g.method = m) {rest : List Value} (hs : g.stack = v :: rest) (hd : decode c.code g.pc = .ok (.checkcast index, 3)) :
    ∃ T', Stand p l e R s m args below meth c T' locs cells slots ∧ T'.heap = h ∧ ∀ target, Steps p.tables e below (T'.setTop { g with pc := g.pc + 3 }) target → Steps p.tables e below (T.setTop g) target := by
  rcases B with rfl | ⟨r, rfl, I⟩
  · exact ⟨T, X, eT, fun t q => X.checkcastNull hx hg hs hd t q⟩
  · exact castY X hx hZ hown w eT I hg hs hd
theorem cat_ref {v : Value} (q : v.isRef = true) : v.category = 1 := by cases v <;> simp [Value.isRef] at q <;> rfl
theorem fits_isRef {t : FieldType} {v : Value} (r : t.isReference = true) (q : v.isRef = true) : fits t v = true := by cases v <;> simp [Value.isRef] at q <;> cases t <;> first | rfl | (simp [FieldType.isReference] at r)
theorem ext_of_keep (K : Keep h h1 []) : Ext h h1 := ⟨K.1, fun x c q => K.2.1 x c q nin0⟩
/-! heaps that only grow -/
theorem ext_refl (h : Heap) : Ext h h := ⟨Nat.le_refl _, fun _ _ q => q⟩
theorem ext_trans (a : Ext h h1) (b : Ext h1 h2) : Ext h h2 := ⟨Nat.le_trans a.1 b.1, fun x q r => b.2 x q (a.2 x q r)⟩
/-- what lies at or above h's end was written: h stands -/
theorem ext_keep {ws : List Addr} (a : Ext h h1) (K : Keep h1 h2 ws) (q : ∀ x ∈ ws, h.size ≤ x) : Ext h h2 := ⟨Nat.le_trans a.1 K.1, fun x c r => K.2.1 x c (a.2 x c r) fun z => absurd (Array.getElem?_eq_some_iff.mp r).1 (Nat.not_lt.mpr (q x z))⟩
theorem ext_wr {a : Addr} {sl : Nat} {v : Value} (x : Ext h h1) (W : Wr h1 h2 a sl v) (q : h.size ≤ a) : Ext h h2 := ext_keep x (Keep.of_wr W) (allS q all0)
theorem keep_ext {ws : List Addr} (E : Ext h h1) : Keep h h1 ws := (Keep.refl h ws).ext E
end Walk
section Rows
variable {p : Program} {l : Launch} {e : Env} {R : Room} {s : State} {m : MethodId} {args : Array Value} {below : List Frame} {meth : Method} {c : Code} {T : State} {locs : List Loc} {cells slots : Nat} {Z : State} {a0 : Array Value} {h : Heap} {F : Outcome → State → Prop} {pc pc' : Nat} {Ls : Array Slot} {rest : List Value}
theorem q_iloadN (X : Stand p l e R s m args below meth c T locs cells slots) (hx : p.tables.exec = Jvm.exec) {k : Fin 4} {v : Int32} (hd : decode c.code pc = .ok (.iload_n k, 1)) (hl : Ls[k.val]? = some (.val (.int v))) (hp : pc + 1 = pc') (go : Run p e below F (T.setTop (mkF m pc' Ls (.int v :: rest)))) : Run p e below F (T.setTop (mkF m pc Ls rest)) := by
  subst hp
  exact Run.via (fun _ q => XS.iloadN X.here hx rfl hd hl q) go
theorem q_iload (X : Stand p l e R s m args below meth c T locs cells slots) (hx : p.tables.exec = Jvm.exec) {k : Nat} {v : Int32} (hd : decode c.code pc = .ok (.iload k, 2)) (hl : Ls[k]? = some (.val (.int v))) (hp : pc + 2 = pc') (go : Run p e below F (T.setTop (mkF m pc' Ls (.int v :: rest)))) : Run p e below F (T.setTop (mkF m pc Ls rest)) := by
  subst hp
  exact Run.via (fun _ q => XS.iload X.here hx rfl hd hl q) go
theorem q_aloadN (X : Stand p l e R s m args below meth c T locs cells slots) (hx : p.tables.exec = Jvm.exec) {k : Fin 4} {v : Value} (hd : decode c.code pc = .ok (.aload_n k, 1)) (hl : Ls[k.val]? = some (.val v)) (hv : v.isRef = true) (hp : pc + 1 = pc') (go : Run p e below F (T.setTop (mkF m pc' Ls (v :: rest)))) : Run p e below F (T.setTop (mkF m pc Ls rest)) := by
  subst hp
  exact Run.via (fun _ q => XS.aloadN X.here hx rfl hd hl hv q) go
theorem q_aload (X : Stand p l e R s m args below meth c T locs cells slots) (hx : p.tables.exec = Jvm.exec) {k : Nat} {v : Value} (hd : decode c.code pc = .ok (.aload k, 2)) (hl : Ls[k]? = some (.val v)) (hv : v.isRef = true) (hp : pc + 2 = pc') (go : Run p e below F (T.setTop (mkF m pc' Ls (v :: rest)))) : Run p e below F (T.setTop (mkF m pc Ls rest)) := by
  subst hp
  exact Run.via (fun _ q => XS.aload X.here hx rfl hd hl hv q) go
theorem q_istoreN (X : Stand p l e R s m args below meth c T locs cells slots) (hx : p.tables.exec = Jvm.exec) {k : Fin 4} {v : Int32} {l' : Array Slot} (hd : decode c.code pc = .ok (.istore_n k, 1)) (hl : storeLocals Ls k.val (.int v) = some l') (hp : pc + 1 = pc') (go : Run p e below F (T.setTop (mkF m pc' l' rest))) : Run p e below F (T.setTop (mkF m pc Ls (.int v :: rest))) := by
  subst hp
  exact Run.via (fun _ q => XS.istoreN X.here hx rfl hd rfl hl q) go
theorem q_istore (X : Stand p l e R s m args below meth c T locs cells slots) (hx : p.tables.exec = Jvm.exec) {k : Nat} {v : Int32} {l' : Array Slot} (hd : decode c.code pc = .ok (.istore k, 2)) (hl : storeLocals Ls k (.int v) = some l') (hp : pc + 2 = pc') (go : Run p e below F (T.setTop (mkF m pc' l' rest))) : Run p e below F (T.setTop (mkF m pc Ls (.int v :: rest))) := by
  subst hp
  exact Run.via (fun _ q => XS.istore X.here hx rfl hd rfl hl q) go
theorem q_astoreN (X : Stand p l e R s m args below meth c T locs cells slots) (hx : p.tables.exec = Jvm.exec) {k : Fin 4} {v : Value} {l' : Array Slot} (hd : decode c.code pc = .ok (.astore_n k, 1)) (hv : v.isRef = true) (hl : storeLocals Ls k.val v = some l') (hp : pc + 1 = pc') (go : Run p e below F (T.setTop (mkF m pc' l' rest))) : Run p e below F (T.setTop (mkF m pc Ls (v :: rest))) := by
  subst hp
  exact Run.via (fun _ q => XS.astoreN X.here hx rfl hd rfl hv hl q) go
theorem q_astore (X : Stand p l e R s m args below meth c T locs cells slots) (hx : p.tables.exec = Jvm.exec) {k : Nat} {v : Value} {l' : Array Slot} (hd : decode c.code pc = .ok (.astore k, 2)) (hv : v.isRef = true) (hl : storeLocals Ls k v = some l') (hp : pc + 2 = pc') (go : Run p e below F (T.setTop (mkF m pc' l' rest))) : Run p e below F (T.setTop (mkF m pc Ls (v :: rest))) := by
  subst hp
  exact Run.via (fun _ q => XS.astore X.here hx rfl hd rfl hv hl q) go
theorem q_iconst (X : Stand p l e R s m args below meth c T locs cells slots) (hx : p.tables.exec = Jvm.exec) {i : Int} {z : Int32} (hd : decode c.code pc = .ok (.iconst i, 1)) (hz : Int32.ofInt i = z) (hp : pc + 1 = pc') (go : Run p e below F (T.setTop (mkF m pc' Ls (.int z :: rest)))) : Run p e below F (T.setTop (mkF m pc Ls rest)) := by
  subst hp
  exact Run.via (fun _ q => XS.iconst X.here hx rfl hd (by rw [hz]; exact q)) go
theorem q_bipush (X : Stand p l e R s m args below meth c T locs cells slots) (hx : p.tables.exec = Jvm.exec) {i : Int} {z : Int32} (hd : decode c.code pc = .ok (.bipush i, 2)) (hz : (Int8.ofInt i).toInt32 = z) (hp : pc + 2 = pc') (go : Run p e below F (T.setTop (mkF m pc' Ls (.int z :: rest)))) : Run p e below F (T.setTop (mkF m pc Ls rest)) := by
  subst hp
  exact Run.via (fun _ q => XS.bipush X.here hx rfl hd (by rw [hz]; exact q)) go
theorem q_sipush (X : Stand p l e R s m args below meth c T locs cells slots) (hx : p.tables.exec = Jvm.exec) {i : Int} {z : Int32} (hd : decode c.code pc = .ok (.sipush i, 3)) (hz : (Int16.ofInt i).toInt32 = z) (hp : pc + 3 = pc') (go : Run p e below F (T.setTop (mkF m pc' Ls (.int z :: rest)))) : Run p e below F (T.setTop (mkF m pc Ls rest)) := by
  subst hp
  exact Run.via (fun _ q => XS.sipush X.here hx rfl hd (by rw [hz]; exact q)) go
theorem q_null (X : Stand p l e R s m args below meth c T locs cells slots) (hx : p.tables.exec = Jvm.exec)  (hd : decode c.code pc = .ok (.aconst_null, 1))  (hp : pc + 1 = pc') (go : Run p e below F (T.setTop (mkF m pc' Ls (.null :: rest)))) : Run p e below F (T.setTop (mkF m pc Ls rest)) := by
  subst hp
  exact Run.via (fun _ q => XS.aconstNull X.here hx rfl hd q) go
theorem q_iadd (X : Stand p l e R s m args below meth c T locs cells slots) (hx : p.tables.exec = Jvm.exec) {x y z : Int32} (hd : decode c.code pc = .ok (.iadd, 1)) (hz : x + y = z) (hp : pc + 1 = pc') (go : Run p e below F (T.setTop (mkF m pc' Ls (.int z :: rest)))) : Run p e below F (T.setTop (mkF m pc Ls (.int y :: .int x :: rest))) := by
  subst hp
  exact Run.via (fun _ q => XS.iadd X.here hx rfl hd rfl (by rw [hz]; exact q)) go
theorem q_isub (X : Stand p l e R s m args below meth c T locs cells slots) (hx : p.tables.exec = Jvm.exec) {x y z : Int32} (hd : decode c.code pc = .ok (.isub, 1)) (hz : x - y = z) (hp : pc + 1 = pc') (go : Run p e below F (T.setTop (mkF m pc' Ls (.int z :: rest)))) : Run p e below F (T.setTop (mkF m pc Ls (.int y :: .int x :: rest))) := by
  subst hp
  exact Run.via (fun _ q => XS.isub X.here hx rfl hd rfl (by rw [hz]; exact q)) go
theorem q_imul (X : Stand p l e R s m args below meth c T locs cells slots) (hx : p.tables.exec = Jvm.exec) {x y z : Int32} (hd : decode c.code pc = .ok (.imul, 1)) (hz : x * y = z) (hp : pc + 1 = pc') (go : Run p e below F (T.setTop (mkF m pc' Ls (.int z :: rest)))) : Run p e below F (T.setTop (mkF m pc Ls (.int y :: .int x :: rest))) := by
  subst hp
  exact Run.via (fun _ q => XS.imul X.here hx rfl hd rfl (by rw [hz]; exact q)) go
theorem q_iand (X : Stand p l e R s m args below meth c T locs cells slots) (hx : p.tables.exec = Jvm.exec) {x y z : Int32} (hd : decode c.code pc = .ok (.iand, 1)) (hz : x &&& y = z) (hp : pc + 1 = pc') (go : Run p e below F (T.setTop (mkF m pc' Ls (.int z :: rest)))) : Run p e below F (T.setTop (mkF m pc Ls (.int y :: .int x :: rest))) := by
  subst hp
  exact Run.via (fun _ q => XS.iand X.here hx rfl hd rfl (by rw [hz]; exact q)) go
theorem q_ior (X : Stand p l e R s m args below meth c T locs cells slots) (hx : p.tables.exec = Jvm.exec) {x y z : Int32} (hd : decode c.code pc = .ok (.ior, 1)) (hz : x ||| y = z) (hp : pc + 1 = pc') (go : Run p e below F (T.setTop (mkF m pc' Ls (.int z :: rest)))) : Run p e below F (T.setTop (mkF m pc Ls (.int y :: .int x :: rest))) := by
  subst hp
  exact Run.via (fun _ q => XS.ior X.here hx rfl hd rfl (by rw [hz]; exact q)) go
theorem q_ixor (X : Stand p l e R s m args below meth c T locs cells slots) (hx : p.tables.exec = Jvm.exec) {x y z : Int32} (hd : decode c.code pc = .ok (.ixor, 1)) (hz : x ^^^ y = z) (hp : pc + 1 = pc') (go : Run p e below F (T.setTop (mkF m pc' Ls (.int z :: rest)))) : Run p e below F (T.setTop (mkF m pc Ls (.int y :: .int x :: rest))) := by
  subst hp
  exact Run.via (fun _ q => XS.ixor X.here hx rfl hd rfl (by rw [hz]; exact q)) go
theorem q_ishr (X : Stand p l e R s m args below meth c T locs cells slots) (hx : p.tables.exec = Jvm.exec) {x y z : Int32} (hd : decode c.code pc = .ok (.ishr, 1)) (hz : x >>> (y &&& 31) = z) (hp : pc + 1 = pc') (go : Run p e below F (T.setTop (mkF m pc' Ls (.int z :: rest)))) : Run p e below F (T.setTop (mkF m pc Ls (.int y :: .int x :: rest))) := by
  subst hp
  exact Run.via (fun _ q => XS.ishr X.here hx rfl hd rfl (by rw [hz]; exact q)) go
theorem q_ishl (X : Stand p l e R s m args below meth c T locs cells slots) (hx : p.tables.exec = Jvm.exec) {x y z : Int32} (hd : decode c.code pc = .ok (.ishl, 1)) (hz : x <<< (y &&& 31) = z) (hp : pc + 1 = pc') (go : Run p e below F (T.setTop (mkF m pc' Ls (.int z :: rest)))) : Run p e below F (T.setTop (mkF m pc Ls (.int y :: .int x :: rest))) := by
  subst hp
  exact Run.via (fun _ q => XS.ishl X.here hx rfl hd rfl (by rw [hz]; exact q)) go
theorem q_iushr (X : Stand p l e R s m args below meth c T locs cells slots) (hx : p.tables.exec = Jvm.exec) {x y z : Int32} (hd : decode c.code pc = .ok (.iushr, 1)) (hz : (x.toUInt32 >>> (y &&& 31).toUInt32).toInt32 = z) (hp : pc + 1 = pc') (go : Run p e below F (T.setTop (mkF m pc' Ls (.int z :: rest)))) : Run p e below F (T.setTop (mkF m pc Ls (.int y :: .int x :: rest))) := by
  subst hp
  exact Run.via (fun _ q => XS.iushr X.here hx rfl hd rfl (by rw [hz]; exact q)) go
theorem q_idiv (X : Stand p l e R s m args below meth c T locs cells slots) (hx : p.tables.exec = Jvm.exec) {x y z : Int32} (hd : decode c.code pc = .ok (.idiv, 1)) (hy : y ≠ 0) (hz : x / y = z) (hp : pc + 1 = pc') (go : Run p e below F (T.setTop (mkF m pc' Ls (.int z :: rest)))) : Run p e below F (T.setTop (mkF m pc Ls (.int y :: .int x :: rest))) := by
  subst hp
  exact Run.via (fun _ q => XS.idiv X.here hx rfl hd rfl hy (by rw [hz]; exact q)) go
theorem q_irem (X : Stand p l e R s m args below meth c T locs cells slots) (hx : p.tables.exec = Jvm.exec) {x y z : Int32} (hd : decode c.code pc = .ok (.irem, 1)) (hy : y ≠ 0) (hz : x % y = z) (hp : pc + 1 = pc') (go : Run p e below F (T.setTop (mkF m pc' Ls (.int z :: rest)))) : Run p e below F (T.setTop (mkF m pc Ls (.int y :: .int x :: rest))) := by
  subst hp
  exact Run.via (fun _ q => iremM X hx rfl hd rfl hy (by rw [hz]; exact q)) go
theorem q_iinc (X : Stand p l e R s m args below meth c T locs cells slots) (hx : p.tables.exec = Jvm.exec) {k : Nat} {i : Int} {x : Int32} {l' : Array Slot} (hd : decode c.code pc = .ok (.iinc k i, 3)) (hl : Ls[k]? = some (.val (.int x))) (hl' : storeLocals Ls k (.int (x + Int32.ofInt i)) = some l') (hp : pc + 3 = pc') (go : Run p e below F (T.setTop (mkF m pc' l' rest))) : Run p e below F (T.setTop (mkF m pc Ls rest)) := by
  subst hp
  exact Run.via (fun _ q => XS.iinc X.here hx rfl hd hl hl' q) go
theorem q_dup (X : Stand p l e R s m args below meth c T locs cells slots) (hx : p.tables.exec = Jvm.exec) {x : Value} (hd : decode c.code pc = .ok (.dup, 1)) (hc : x.category = 1) (hp : pc + 1 = pc') (go : Run p e below F (T.setTop (mkF m pc' Ls (x :: x :: rest)))) : Run p e below F (T.setTop (mkF m pc Ls (x :: rest))) := by
  subst hp
  exact Run.via (fun _ q => XS.dup X.here hx rfl hd rfl hc q) go
theorem q_dupX1 (X : Stand p l e R s m args below meth c T locs cells slots) (hx : p.tables.exec = Jvm.exec) {x y : Value} (hd : decode c.code pc = .ok (.dup_x1, 1)) (hc : x.category = 1) (hc' : y.category = 1) (hp : pc + 1 = pc') (go : Run p e below F (T.setTop (mkF m pc' Ls (x :: y :: x :: rest)))) : Run p e below F (T.setTop (mkF m pc Ls (x :: y :: rest))) := by
  subst hp
  exact Run.via (fun _ q => XS.dupX1 X.here hx rfl hd rfl hc hc' q) go
theorem q_pop (X : Stand p l e R s m args below meth c T locs cells slots) (hx : p.tables.exec = Jvm.exec) {x : Value} (hd : decode c.code pc = .ok (.pop, 1)) (hc : x.category = 1) (hp : pc + 1 = pc') (go : Run p e below F (T.setTop (mkF m pc' Ls rest))) : Run p e below F (T.setTop (mkF m pc Ls (x :: rest))) := by
  subst hp
  exact Run.via (fun _ q => XS.pop X.here hx rfl hd rfl hc q) go
theorem q_goto (X : Stand p l e R s m args below meth c T locs cells slots) (hx : p.tables.exec = Jvm.exec) {o : Int} (hd : decode c.code pc = .ok (.goto o, 3))  (ho : 0 ≤ (pc : Int) + o) (hp : ((pc : Int) + o).toNat = pc') (go : Run p e below F (T.setTop (mkF m pc' Ls rest))) : Run p e below F (T.setTop (mkF m pc Ls rest)) := by
  subst hp
  exact Run.via (fun _ q => XS.goto X.here hx rfl rfl hd ho rfl q) go
theorem q_ifYes (X : Stand p l e R s m args below meth c T locs cells slots) (hx : p.tables.exec = Jvm.exec) {cd : ClassFile.Cond} {x : Int32} {o : Int} (hd : decode c.code pc = .ok (.ifCond cd o, 3)) (hc : ifCond.holds cd x = true) (ho : 0 ≤ (pc : Int) + o) (hp : ((pc : Int) + o).toNat = pc') (go : Run p e below F (T.setTop (mkF m pc' Ls rest))) : Run p e below F (T.setTop (mkF m pc Ls (.int x :: rest))) := by
  subst hp
  exact Run.via (fun _ q => XS.ifYes X.here hx rfl rfl hd rfl hc ho rfl q) go
theorem q_ifNo (X : Stand p l e R s m args below meth c T locs cells slots) (hx : p.tables.exec = Jvm.exec) {cd : ClassFile.Cond} {x : Int32} {o : Int} (hd : decode c.code pc = .ok (.ifCond cd o, 3)) (hc : ifCond.holds cd x = false) (hp : pc + 3 = pc') (go : Run p e below F (T.setTop (mkF m pc' Ls rest))) : Run p e below F (T.setTop (mkF m pc Ls (.int x :: rest))) := by
  subst hp
  exact Run.via (fun _ q => XS.ifNo X.here hx rfl hd rfl hc q) go
theorem q_icmpYes (X : Stand p l e R s m args below meth c T locs cells slots) (hx : p.tables.exec = Jvm.exec) {cd : ClassFile.Cond} {x y : Int32} {o : Int} (hd : decode c.code pc = .ok (.if_icmp cd o, 3)) (hc : if_icmp.holds cd x y = true) (ho : 0 ≤ (pc : Int) + o) (hp : ((pc : Int) + o).toNat = pc') (go : Run p e below F (T.setTop (mkF m pc' Ls rest))) : Run p e below F (T.setTop (mkF m pc Ls (.int y :: .int x :: rest))) := by
  subst hp
  exact Run.via (fun _ q => XS.icmpYes X.here hx rfl rfl hd rfl hc ho rfl q) go
theorem q_icmpNo (X : Stand p l e R s m args below meth c T locs cells slots) (hx : p.tables.exec = Jvm.exec) {cd : ClassFile.Cond} {x y : Int32} {o : Int} (hd : decode c.code pc = .ok (.if_icmp cd o, 3)) (hc : if_icmp.holds cd x y = false) (hp : pc + 3 = pc') (go : Run p e below F (T.setTop (mkF m pc' Ls rest))) : Run p e below F (T.setTop (mkF m pc Ls (.int y :: .int x :: rest))) := by
  subst hp
  exact Run.via (fun _ q => XS.icmpNo X.here hx rfl hd rfl hc q) go
theorem q_ifnullYes (X : Stand p l e R s m args below meth c T locs cells slots) (hx : p.tables.exec = Jvm.exec) {o : Int} (hd : decode c.code pc = .ok (.ifnull o, 3))  (ho : 0 ≤ (pc : Int) + o) (hp : ((pc : Int) + o).toNat = pc') (go : Run p e below F (T.setTop (mkF m pc' Ls rest))) : Run p e below F (T.setTop (mkF m pc Ls (.null :: rest))) := by
  subst hp
  exact Run.via (fun _ q => XS.ifnullYes X.here hx rfl rfl hd rfl ho rfl q) go
theorem q_ifnullNo (X : Stand p l e R s m args below meth c T locs cells slots) (hx : p.tables.exec = Jvm.exec) {o : Int} {b : Addr} (hd : decode c.code pc = .ok (.ifnull o, 3))  (hp : pc + 3 = pc') (go : Run p e below F (T.setTop (mkF m pc' Ls rest))) : Run p e below F (T.setTop (mkF m pc Ls (.ref b :: rest))) := by
  subst hp
  exact Run.via (fun _ q => XS.ifnullNo X.here hx rfl hd rfl q) go
theorem q_ifnonnullYes (X : Stand p l e R s m args below meth c T locs cells slots) (hx : p.tables.exec = Jvm.exec) {o : Int} {b : Addr} (hd : decode c.code pc = .ok (.ifnonnull o, 3))  (ho : 0 ≤ (pc : Int) + o) (hp : ((pc : Int) + o).toNat = pc') (go : Run p e below F (T.setTop (mkF m pc' Ls rest))) : Run p e below F (T.setTop (mkF m pc Ls (.ref b :: rest))) := by
  subst hp
  exact Run.via (fun _ q => XS.ifnonnullYes X.here hx rfl rfl hd rfl ho rfl q) go
theorem q_ifnonnullNo (X : Stand p l e R s m args below meth c T locs cells slots) (hx : p.tables.exec = Jvm.exec) {o : Int} (hd : decode c.code pc = .ok (.ifnonnull o, 3))  (hp : pc + 3 = pc') (go : Run p e below F (T.setTop (mkF m pc' Ls rest))) : Run p e below F (T.setTop (mkF m pc Ls (.null :: rest))) := by
  subst hp
  exact Run.via (fun _ q => XS.ifnonnullNo X.here hx rfl hd rfl q) go
theorem q_acmp (X : Stand p l e R s m args below meth c T locs cells slots) (hx : p.tables.exec = Jvm.exec) {cd : ACond} {x y : Value} {o : Int} (hd : decode c.code pc = .ok (.if_acmp cd o, 3)) (h1 : x.isRef = true) (h2 : y.isRef = true) {same : Bool} (hq : decide (x = y) = same) (ho : 0 ≤ (pc : Int) + o) (hp : pc' = if acV cd same = true then ((pc : Int) + o).toNat else pc + 3) (go : Run p e below F (T.setTop (mkF m pc' Ls rest))) : Run p e below F (T.setTop (mkF m pc Ls (y :: x :: rest))) :=
  Run.via (fun _ q => Jvm.RoadKit.acmp X hx rfl h1 h2 rfl hd rfl hq ho hp q) go
theorem q_ldc (X : Stand p l e R s m args below meth c T locs cells slots) (hx : p.tables.exec = Jvm.exec) (hZ : Z.Warmed39 s.vm) {own : String} {index : Nat} (hown : s.vm.findClass own = some m.cls) {v : Int32} (hd : decode c.code pc = .ok (.ldc index, 2)) (w : (Cond.constant own index v).before a0 Z = true) (hp : pc + 2 = pc') (go : Run p e below F (T.setTop (mkF m pc' Ls (.int v :: rest)))) : Run p e below F (T.setTop (mkF m pc Ls rest)) := by
  subst hp
  exact Run.via (X.ldcInt hx hown (mvT hZ w) (g := mkF m pc Ls rest) rfl hd) go
theorem q_getS (X : Stand p l e R s m args below meth c T locs cells slots) (hx : p.tables.exec = Jvm.exec) (hZ : Z.Warmed39 s.vm) {own : String} {index : Nat} (hown : s.vm.findClass own = some m.cls) {R0 n d host : String} {v : Value} (hd : decode c.code pc = .ok (.getstatic index, 3)) (w : (Cond.fieldLink own index R0 n d).before a0 Z = true ∨ (Cond.fieldLinkNest own index R0 n d host).before a0 Z = true) (eT : T.heap = h) (Fs : Sta Z h R0 n d v) (hp : pc + 3 = pc') (go : ∀ T', Stand p l e R s m args below meth c T' locs cells slots → T'.heap = h → Run p e below F (T'.setTop (mkF m pc' Ls (v :: rest)))) : Run p e below F (T.setTop (mkF m pc Ls rest)) := by
  subst hp
  obtain ⟨T', X', e', st⟩ := getS2 X hx hZ hown w Via.refl eT Fs (g := mkF m pc Ls rest) rfl hd
  exact Run.via st (go T' X' e')
theorem q_getF (X : Stand p l e R s m args below meth c T locs cells slots) (hx : p.tables.exec = Jvm.exec) (hZ : Z.Warmed39 s.vm) {own : String} {index : Nat} (hown : s.vm.findClass own = some m.cls) {R0 n d host : String} {a : Addr} {v : Value} (hd : decode c.code pc = .ok (.getfield index, 3)) (w : (Cond.fieldLink own index R0 n d).before a0 Z = true ∨ (Cond.fieldLinkNest own index R0 n d host).before a0 Z = true) (eT : T.heap = h) (Fs : Fld Z h a R0 n d v) (hp : pc + 3 = pc') (go : ∀ T', Stand p l e R s m args below meth c T' locs cells slots → T'.heap = h → Run p e below F (T'.setTop (mkF m pc' Ls (v :: rest)))) : Run p e below F (T.setTop (mkF m pc Ls (.ref a :: rest))) := by
  subst hp
  obtain ⟨T', X', e', st⟩ := getF X hx hZ hown w Via.refl eT Fs (g := mkF m pc Ls (.ref a :: rest)) rfl rfl hd
  exact Run.via st (go T' X' e')
theorem q_putF (X : Stand p l e R s m args below meth c T locs cells slots) (hx : p.tables.exec = Jvm.exec) (hZ : Z.Warmed39 s.vm) {own : String} {index : Nat} (hown : s.vm.findClass own = some m.cls) {R0 n d host C : String} {kk : Nat} {ty : FieldType} {a : Addr} {v old : Value} (hd : decode c.code pc = .ok (.putfield index, 3)) (w : (Cond.fieldLink own index R0 n d).before a0 Z = true ∨ (Cond.fieldLinkNest own index R0 n d host).before a0 Z = true) (eT : T.heap = h) (Fs : Fld Z h a R0 n d old) (E : Exa Z h a C) (Lw : (Cond.lays C R0 n d).before a0 Z = true ∨ ((Cond.laysFinal C R0 n d).before a0 Z = true ∧ own = R0 ∧ meth.name = "<init>")) (wi : (Cond.instantiable C kk).before a0 Z = true) (hty : parseFieldDescriptor d = some ty) (hn : narrow ty v = v) (hf : fits ty v = true) (hp : pc + 3 = pc') (go : ∀ T' h', Stand p l e R s m args below meth c T' (locs ++ [⟨a, Jvm.RoadKit.slotOf Z R0 n d⟩]) cells slots → T'.heap = h' → Wr h h' a (Jvm.RoadKit.slotOf Z R0 n d) v → Run p e below F (T'.setTop (mkF m pc' Ls rest))) : Run p e below F (T.setTop (mkF m pc Ls (v :: .ref a :: rest))) := by
  subst hp
  obtain ⟨T', h', X', e', W, st⟩ := putF X hx hZ hown w Via.refl eT Fs E Lw wi hty hn hf (g := mkF m pc Ls (v :: .ref a :: rest)) rfl rfl hd
  exact Run.via st (go T' h' X' e' W)
theorem q_putFN (X : Stand p l e R s m args below meth c T locs cells slots) (hx : p.tables.exec = Jvm.exec) (hZ : Z.Warmed39 s.vm) {own : String} {index : Nat} (hown : s.vm.findClass own = some m.cls) {R0 n d C : String} {kk : Nat} {ty : FieldType} {a : Addr} {v v' old : Value} (hd : decode c.code pc = .ok (.putfield index, 3)) (w : (Cond.fieldLink own index R0 n d).before a0 Z = true) (eT : T.heap = h) (Fs : Fld Z h a R0 n d old) (E : Exa Z h a C) (Lw : (Cond.lays C R0 n d).before a0 Z = true ∨ ((Cond.laysFinal C R0 n d).before a0 Z = true ∧ own = R0 ∧ meth.name = "<init>")) (wi : (Cond.instantiable C kk).before a0 Z = true) (hty : parseFieldDescriptor d = some ty) (hn : narrow ty v = v') (hf : fits ty v' = true) (hp : pc + 3 = pc') (go : ∀ T' h', Stand p l e R s m args below meth c T' (locs ++ [⟨a, Jvm.RoadKit.slotOf Z R0 n d⟩]) cells slots → T'.heap = h' → Wr h h' a (Jvm.RoadKit.slotOf Z R0 n d) v' → Run p e below F (T'.setTop (mkF m pc' Ls rest))) : Run p e below F (T.setTop (mkF m pc Ls (v :: .ref a :: rest))) := by
  subst hp
  obtain ⟨T', h', X', e', W, st⟩ := putFN X hx hZ hown w Via.refl eT Fs E Lw wi hty hn hf (g := mkF m pc Ls (v :: .ref a :: rest)) rfl rfl hd
  exact Run.via st (go T' h' X' e' W)
theorem q_new (X : Stand p l e R s m args below meth c T locs cells slots) (hx : p.tables.exec = Jvm.exec) (hZ : Z.Warmed39 s.vm) {own : String} {index : Nat} (hown : s.vm.findClass own = some m.cls) {C : String} {n : Nat} (hd : decode c.code pc = .ok (.new index, 3)) (w : (Cond.classLink own index C).before a0 Z = true) (wi : (Cond.instantiable C n).before a0 Z = true) (wz : (Cond.initialized C).before a0 Z = true) (eT : T.heap = h) (hc : cells + 1 ≤ R.cells) (hl : slots + n ≤ R.slots) (hp : pc + 3 = pc') (go : ∀ T' h' b, Stand p l e R s m args below meth c T' locs (cells + 1) (slots + n) → T'.heap = h' → Ext h h' → b = h.size → Exa Z h' b C → (∀ {O nm d : String} {ty : FieldType}, Laid Z a0 C O nm d → parseFieldDescriptor d = some ty → Fld Z h' b O nm d (defaultValue ty)) → Run p e below F (T'.setTop (mkF m pc' Ls (.ref b :: rest)))) : Run p e below F (T.setTop (mkF m pc Ls rest)) := by
  subst hp
  obtain ⟨T', h', X', e', E, A, D, -, st⟩ := newO X hx hZ hown w wi wz eT (g := mkF m pc Ls rest) rfl hd hc hl
  exact Run.via st (go T' h' _ X' e' E rfl A D)
theorem q_anew (X : Stand p l e R s m args below meth c T locs cells slots) (hx : p.tables.exec = Jvm.exec) (hZ : Z.Warmed39 s.vm) {own : String} {index : Nat} (hown : s.vm.findClass own = some m.cls) {C : String} {z : Int32} {cap : Nat} (hd : decode c.code pc = .ok (.anewarray index, 3)) (w1 : (Cond.classLink own index C).before a0 Z = true) (w2 : (Cond.arrayOver (.object C)).before a0 Z = true) (eT : T.heap = h) (hn : ¬ z < 0) (hcap : z.toNatClampNeg ≤ cap) (hb : cap * 8 ≤ 536870912) (hc : cells + 1 ≤ R.cells) (hl : slots + cap ≤ R.slots) (hp : pc + 3 = pc') (go : ∀ T' h' b cA, Stand p l e R s m args below meth c T' locs (cells + 1) (slots + cap) → T'.heap = h' → Ext h h' → b = h.size → Arr Z h' b (newA cA (.object C) z) (.object C) → Ovr Z cA C → Run p e below F (T'.setTop (mkF m pc' Ls (.ref b :: rest)))) : Run p e below F (T.setTop (mkF m pc Ls (.int z :: rest))) := by
  subst hp
  obtain ⟨T', h', cA, X', e', E, A, O, st⟩ := newR X hx hZ hown w1 w2 eT (g := mkF m pc Ls (.int z :: rest)) rfl hd rfl hn hcap hb hc hl
  exact Run.via st (go T' h' _ cA X' e' E rfl A O)
theorem q_cast (X : Stand p l e R s m args below meth c T locs cells slots) (hx : p.tables.exec = Jvm.exec) (hZ : Z.Warmed39 s.vm) {own : String} {index : Nat} (hown : s.vm.findClass own = some m.cls) {K : String} {v : Value} (hd : decode c.code pc = .ok (.checkcast index, 3)) (w : (Cond.classLink own index K).before a0 Z = true) (eT : T.heap = h) (B : v = .null ∨ ∃ r, v = .ref r ∧ Ins Z h r K true) (hp : pc + 3 = pc') (go : ∀ T', Stand p l e R s m args below meth c T' locs cells slots → T'.heap = h → Run p e below F (T'.setTop (mkF m pc' Ls (v :: rest)))) : Run p e below F (T.setTop (mkF m pc Ls (v :: rest))) := by
  subst hp
  obtain ⟨T', X', e', st⟩ := castVV X hx hZ hown w eT B (g := mkF m pc Ls (v :: rest)) rfl rfl hd
  exact Run.via st (go T' X' e')
theorem q_aald (X : Stand p l e R s m args below meth c T locs cells slots) (hx : p.tables.exec = Jvm.exec) (hZ : Z.Warmed39 s.vm) {a : Addr} {k : ClassId} {ty : FieldType} {z j : Int32} {vs : List Value} {dv v : Value} (hd : decode c.code pc = .ok (.aaload, 1)) (eT : T.heap = h) (A : Arv Z h a k ty z vs dv) (hty : ty.isReference = true) (hj : ¬ j < 0 ∧ j < z) (hv : vs.getD j.toNatClampNeg dv = v) (hp : pc + 1 = pc') (go : Run p e below F (T.setTop (mkF m pc' Ls (v :: rest)))) : Run p e below F (T.setTop (mkF m pc Ls (.int j :: .ref a :: rest))) := by
  subst hp
  exact Run.via (aaldV X hx hZ eT A hty hj hv (g := mkF m pc Ls (.int j :: .ref a :: rest)) rfl rfl hd) go
theorem q_len (X : Stand p l e R s m args below meth c T locs cells slots) (hx : p.tables.exec = Jvm.exec) (hZ : Z.Warmed39 s.vm) {a : Addr} {k : ClassId} {ty : FieldType} {z : Int32} {vs : List Value} {dv : Value} (hd : decode c.code pc = .ok (.arraylength, 1)) (eT : T.heap = h) (A : Arv Z h a k ty z vs dv) (hp : pc + 1 = pc') (go : Run p e below F (T.setTop (mkF m pc' Ls (.int z :: rest)))) : Run p e below F (T.setTop (mkF m pc Ls (.ref a :: rest))) := by
  subst hp
  exact Run.via (lenV X hx hZ eT A (g := mkF m pc Ls (.ref a :: rest)) rfl rfl hd) go
theorem q_aast (X : Stand p l e R s m args below meth c T locs cells slots) (hx : p.tables.exec = Jvm.exec) (hZ : Z.Warmed39 s.vm) {a : Addr} {k : ClassId} {ty : FieldType} {z j : Int32} {vs : List Value} {dv v : Value} (hd : decode c.code pc = .ok (.aastore, 1)) (eT : T.heap = h) (A : Arv Z h a k ty z vs dv) (hty : ty.isReference = true) (hj : ¬ j < 0 ∧ j < z) {i : Nat} (hi : j.toNatClampNeg = i) (hlen : i < vs.length) (Fs : ∀ cl, Arr Z h a cl ty → cl.cls = k → Sto Z h a v) (hfit : fits ty v = true) (hp : pc + 1 = pc') (go : ∀ T' h', Stand p l e R s m args below meth c T' (locs ++ [⟨a, j.toNatClampNeg⟩]) cells slots → T'.heap = h' → Wr h h' a j.toNatClampNeg v → Arv Z h' a k ty z (vs.set i v) dv → Run p e below F (T'.setTop (mkF m pc' Ls rest))) : Run p e below F (T.setTop (mkF m pc Ls (v :: .int j :: .ref a :: rest))) := by
  subst hp
  obtain ⟨T', h', X', e', W, A', st⟩ := aastV X hx hZ eT A hty hj hi hlen Fs hfit (g := mkF m pc Ls (v :: .int j :: .ref a :: rest)) rfl rfl hd
  exact Run.via st (go T' h' X' e' W A')
theorem q_initO (X : Stand p l e R s m args below meth c T locs cells slots) (hx : p.tables.exec = Jvm.exec) (hZ : Z.Warmed39 s.vm) {own : String} {index : Nat} (hown : s.vm.findClass own = some m.cls) {a : Addr} (hd : decode c.code pc = .ok (.invokespecial index, 3)) (w1 : (Cond.methodLink own index Lib.objectInit).before a0 Z = true) (w2 : (Cond.instanceMethod Lib.objectInit).before a0 Z = true) (w3 : (Cond.code Lib.objectInit ⟨#[0xb1]⟩ 1 none).before a0 Z = true) (eT : T.heap = h) (hsize : Ls.size = c.maxLocals) (hf : 1 ≤ R.frames) {W : Nat} (hW : (rest.map fun v => v.category).sum = W) (hl : W + 12 ≤ R.locals) (hp : pc + 3 = pc') (go : ∀ T', Stand p l e R s m args below meth c T' locs cells slots → T'.heap = h → Run p e below F (T'.setTop (mkF m pc' Ls rest))) : Run p e below F (T.setTop (mkF m pc Ls (.ref a :: rest))) := by
  subst hp
  obtain ⟨T', X', e', st⟩ := initO X hx hZ hown w1 w2 w3 eT (g := mkF m pc Ls (.ref a :: rest)) rfl hsize rfl hd hf (W := W) (by show 2 * 0 + _ ≤ _; omega) hl
  exact Run.via st (go T' X' e')
theorem q_callC (X : Stand p l e R s m args below meth c T locs cells slots) (hx : p.tables.exec = Jvm.exec) (hZ : Z.Warmed39 s.vm) {own : String} {index : Nat} (hown : s.vm.findClass own = some m.cls) {y : MethodName} {bytes : ByteArray} {maxL : Nat} {rm : Room} {P : Option Value → Heap → List Loc → Prop} {ret : Option FieldType} (hd : decode c.code pc = .ok (.invokestatic index, 3)) (w1 : (Cond.methodLink own index y).before a0 Z = true) (w2 : (Cond.static y).before a0 Z = true) (w3 : (Cond.initialized y.cls).before a0 Z = true) (w4 : (Cond.code y bytes maxL ret).before a0 Z = true) (hy : y.cls ≠ "java/lang/invoke/MethodHandle" ∧ y.cls ≠ "java/lang/invoke/VarHandle") (eT : T.heap = h) (argsL : List Value) (K : Ctr l Z y bytes maxL ret rm argsL.toArray h P) (hsize : Ls.size = c.maxLocals) (hlen : ∀ sig, parseMethodDescriptor y.desc = some sig → argsL.length = sig.parameters.length) {W : Nat} (hW : (rest.map fun v => v.category).sum = W) (hf : rm.frames + 1 ≤ R.frames) (hl : W + (maxL + 11) + rm.locals ≤ R.locals) (hc : cells + rm.cells ≤ R.cells) (hsl : slots + rm.slots ≤ R.slots) (hp : pc + 3 = pc') (go : ∀ v T' L, Stand p l e R s m args below meth c T' (locs ++ L) (cells + rm.cells) (slots + rm.slots) → P v T'.heap L → Run p e below F (T'.setTop (mkF m pc' Ls (v.toList ++ rest)))) : Run p e below F (T.setTop (mkF m pc Ls (argsL.reverse ++ rest))) := by
  subst hp
  obtain ⟨v, T', L, X', q, st⟩ := callC X hx hZ hown w1 w2 w3 w4 hy eT (argsL := argsL) (rest := rest) K (g := mkF m pc Ls (argsL.reverse ++ rest)) rfl hsize rfl hd hlen (W := W) (by show 2 * 0 + _ ≤ _; omega) hf hl hc hsl
  exact Run.via st (go v T' L X' q)
theorem q_callV (X : Stand p l e R s m args below meth c T locs cells slots) (hx : p.tables.exec = Jvm.exec) (hZ : Z.Warmed39 s.vm) {own : String} {index : Nat} (hown : s.vm.findClass own = some m.cls) {y : MethodName} {bytes : ByteArray} {maxL : Nat} {rm : Room} {P : Option Value → Heap → List Loc → Prop} {ret : Option FieldType} {C : String} {b : Addr} (hd : decode c.code pc = .ok (.invokevirtual index, 3)) (w1 : (Cond.methodLink own index y).before a0 Z = true) (w2 : (Cond.declares y).before a0 Z = true) (w5 : (Cond.selects C y y).before a0 Z = true) (w6 : (Cond.instanceMethod y).before a0 Z = true) (w3 : (Cond.initialized y.cls).before a0 Z = true) (w4 : (Cond.code y bytes maxL ret).before a0 Z = true) (hy : y.cls ≠ "java/lang/invoke/MethodHandle" ∧ y.cls ≠ "java/lang/invoke/VarHandle") (eT : T.heap = h) (E : Exa Z h b C) (argsL : List Value) (K : Ctr l Z y bytes maxL ret rm (.ref b :: argsL).toArray h P) (hsize : Ls.size = c.maxLocals) (hlen : ∀ sig, parseMethodDescriptor y.desc = some sig → argsL.length = sig.parameters.length) {W : Nat} (hW : (rest.map fun v => v.category).sum = W) (hf : rm.frames + 1 ≤ R.frames) (hl : W + (maxL + 11) + rm.locals ≤ R.locals) (hc : cells + rm.cells ≤ R.cells) (hsl : slots + rm.slots ≤ R.slots) (hp : pc + 3 = pc') (go : ∀ v T' L, Stand p l e R s m args below meth c T' (locs ++ L) (cells + rm.cells) (slots + rm.slots) → P v T'.heap L → Run p e below F (T'.setTop (mkF m pc' Ls (v.toList ++ rest)))) : Run p e below F (T.setTop (mkF m pc Ls (argsL.reverse ++ .ref b :: rest))) := by
  subst hp
  obtain ⟨v, T', L, X', q, st⟩ := callV X hx hZ hown w1 w2 w5 w6 w3 w4 hy eT E (argsL := argsL) (rest := rest) K (g := mkF m pc Ls (argsL.reverse ++ .ref b :: rest)) rfl hsize rfl hd hlen (W := W) (by show 2 * 0 + _ ≤ _; omega) hf hl hc hsl
  exact Run.via st (go v T' L X' q)
theorem q_callN (X : Stand p l e R s m args below meth c T locs cells slots) (hx : p.tables.exec = Jvm.exec) (hZ : Z.Warmed39 s.vm) {own : String} {index : Nat} (hown : s.vm.findClass own = some m.cls) {y : MethodName} {bytes : ByteArray} {maxL : Nat} {rm : Room} {P : Option Value → Heap → List Loc → Prop} {b : Addr} (hd : decode c.code pc = .ok (.invokespecial index, 3)) (hy1 : y.name = "<init>") (w1 : (Cond.methodLink own index y).before a0 Z = true) (w6 : (Cond.instanceMethod y).before a0 Z = true) (w3 : (Cond.initialized y.cls).before a0 Z = true) (w4 : (Cond.code y bytes maxL none).before a0 Z = true) (hy : y.cls ≠ "java/lang/invoke/MethodHandle" ∧ y.cls ≠ "java/lang/invoke/VarHandle") (eT : T.heap = h) (argsL : List Value) (K : Ctr l Z y bytes maxL none rm (.ref b :: argsL).toArray h P) (hsize : Ls.size = c.maxLocals) (hlen : ∀ sig, parseMethodDescriptor y.desc = some sig → argsL.length = sig.parameters.length) {W : Nat} (hW : (rest.map fun v => v.category).sum = W) (hf : rm.frames + 1 ≤ R.frames) (hl : W + (maxL + 11) + rm.locals ≤ R.locals) (hc : cells + rm.cells ≤ R.cells) (hsl : slots + rm.slots ≤ R.slots) (hp : pc + 3 = pc') (go : ∀ v T' L, Stand p l e R s m args below meth c T' (locs ++ L) (cells + rm.cells) (slots + rm.slots) → P v T'.heap L → Run p e below F (T'.setTop (mkF m pc' Ls (v.toList ++ rest)))) : Run p e below F (T.setTop (mkF m pc Ls (argsL.reverse ++ .ref b :: rest))) := by
  subst hp
  obtain ⟨v, T', L, X', q, st⟩ := callN X hx hZ hy1 hown w1 w6 w3 w4 hy eT (argsL := argsL) (rest := rest) K (g := mkF m pc Ls (argsL.reverse ++ .ref b :: rest)) rfl hsize rfl hd hlen (W := W) (by show 2 * 0 + _ ≤ _; omega) hf hl hc hsl
  exact Run.via st (go v T' L X' q)
theorem q_callP (X : Stand p l e R s m args below meth c T locs cells slots) (hx : p.tables.exec = Jvm.exec) (hZ : Z.Warmed39 s.vm) {own : String} {index : Nat} (hown : s.vm.findClass own = some m.cls) {y : MethodName} {bytes : ByteArray} {maxL : Nat} {rm : Room} {P : Option Value → Heap → List Loc → Prop} {ret : Option FieldType} {C : String} {b : Addr} {nn : Nat} (hd : decode c.code pc = .ok (.invokevirtual index, 3)) (w1 : (Cond.methodLink own index y).before a0 Z = true) (w6 : (Cond.instanceMethod y).before a0 Z = true) (w7 : (Cond.privateMethod y).before a0 Z = true) (w8 : (Cond.instantiable y.cls nn).before a0 Z = true) (w3 : (Cond.initialized y.cls).before a0 Z = true) (w4 : (Cond.code y bytes maxL ret).before a0 Z = true) (hy : y.cls ≠ "java/lang/invoke/MethodHandle" ∧ y.cls ≠ "java/lang/invoke/VarHandle") (eT : T.heap = h) (E : Exa Z h b C) (argsL : List Value) (K : Ctr l Z y bytes maxL ret rm (.ref b :: argsL).toArray h P) (hsize : Ls.size = c.maxLocals) (hlen : ∀ sig, parseMethodDescriptor y.desc = some sig → argsL.length = sig.parameters.length) {W : Nat} (hW : (rest.map fun v => v.category).sum = W) (hf : rm.frames + 1 ≤ R.frames) (hl : W + (maxL + 11) + rm.locals ≤ R.locals) (hc : cells + rm.cells ≤ R.cells) (hsl : slots + rm.slots ≤ R.slots) (hp : pc + 3 = pc') (go : ∀ v T' L, Stand p l e R s m args below meth c T' (locs ++ L) (cells + rm.cells) (slots + rm.slots) → P v T'.heap L → Run p e below F (T'.setTop (mkF m pc' Ls (v.toList ++ rest)))) : Run p e below F (T.setTop (mkF m pc Ls (argsL.reverse ++ .ref b :: rest))) := by
  subst hp
  obtain ⟨v, T', L, X', q, st⟩ := callP X hx hZ hown w1 w6 w7 w8 w3 w4 hy eT E (argsL := argsL) (rest := rest) K (g := mkF m pc Ls (argsL.reverse ++ .ref b :: rest)) rfl hsize rfl hd hlen (W := W) (by show 2 * 0 + _ ≤ _; omega) hf hl hc hsl
  exact Run.via st (go v T' L X' q)
end Rows
/-! null, or a box that holds p -/
section Boxes
variable {Z : State} {h h' : Heap} {v w : Value} {q : Int32} {a : Addr} {sl : Nat} {ws : List Addr} {a0 : Array Value}
def Box (Z : State) (h : Heap) (v : Value) (q : Int32) : Prop := v = .null ∨ ∃ r, v = .ref r ∧ Exa Z h r "java/lang/Integer" ∧ Fld Z h r "java/lang/Integer" "value" "I" (.int q)
theorem Box.isRef (B : Box Z h v q) : v.isRef = true := by
  rcases B with rfl | ⟨r, rfl, -⟩ <;> rfl
theorem Box.ext (E : Ext h h') (B : Box Z h v q) : Box Z h' v q := by
  rcases B with rfl | ⟨r, rfl, x, f⟩
  · exact Or.inl rfl
  · exact Or.inr ⟨r, rfl, x.ext E, f.ext E⟩
theorem Box.wr (B : Box Z h v q) (W : Wr h h' a sl w) (u : ∀ r, Exa Z h r "java/lang/Integer" → r ≠ a) : Box Z h' v q := by
  rcases B with rfl | ⟨r, rfl, x, f⟩
  · exact Or.inl rfl
  · exact Or.inr ⟨r, rfl, x.wr W, f.other W (Or.inl (u r x))⟩
theorem Box.keep (B : Box Z h v q) (K : Keep h h' ws) (u : ∀ r, Exa Z h r "java/lang/Integer" → r ∉ ws) : Box Z h' v q := by
  rcases B with rfl | ⟨r, rfl, x, f⟩
  · exact Or.inl rfl
  · exact Or.inr ⟨r, rfl, x.keep K, f.keep K (u r x)⟩
theorem Box.ins (B : Box Z h v q) {K : String} (w : (Cond.castable "java/lang/Integer" K).before a0 Z = true) : v = .null ∨ ∃ r, v = .ref r ∧ Ins Z h r K true := by
  rcases B with rfl | ⟨r, rfl, x, f⟩
  · exact Or.inl rfl
  · exact Or.inr ⟨r, rfl, Ins.of_exa x w⟩
theorem Box.at {r : Addr} (B : Box Z h (.ref r) q) : Exa Z h r "java/lang/Integer" ∧ Fld Z h r "java/lang/Integer" "value" "I" (.int q) := by
  rcases B with u | ⟨r', u, x, f⟩
  · cases u
  · cases u
    exact ⟨x, f⟩
theorem sto_ins {c : Cell} {ty : FieldType} {k : ClassId} {C : String} (A : Arr Z h a c ty) (u : c.cls = k) (O : Ovr Z k C) (I : v = .null ∨ ∃ r, v = .ref r ∧ Ins Z h r C true) : Sto Z h a v := by
  rcases I with rfl | ⟨r, rfl, I⟩
  · exact Or.inl rfl
  · exact Sto.ofV A u O I
/-- null, or an old object of the class -/
def OldV (Z : State) (v : Value) (C : String) : Prop := v = .null ∨ ∃ r, v = .ref r ∧ Exa Z Z.heap r C
theorem OldV.isRef {C : String} (B : OldV Z v C) : v.isRef = true := by
  rcases B with rfl | ⟨r, rfl, -⟩ <;> rfl
theorem OldV.ins {C : String} (B : OldV Z v C) (O : Ext Z.heap h) : v = .null ∨ ∃ r, v = .ref r ∧ Ins Z h r C true := by
  rcases B with rfl | ⟨r, rfl, x⟩
  · exact Or.inl rfl
  · exact Or.inr ⟨r, rfl, Ins.self (x.ext O)⟩
end Boxes
/-! from the words of a case to facts at the start -/
section Start
variable {args : Array Value} {s : State} {t u : Term} {a b : Addr} {C n d : String} {k : Int32}
theorem fld_int (ev : t.eval args s none [] s = some (.ref a)) (q : (Cond.eq (Term.field t C n d) (Term.int k)).value args s none s [] = some true) : Fld s s.heap a C n d (.int k) := by
  refine Fld.start ?_
  rw [← fld_at ev (C := C) (n := n) (dd := d)]
  obtain ⟨x, y, e1, e2, k1, k2⟩ := cmp_v (Or.inl q)
  have e3 : (Term.int k).eval args s none [] s = some (.int k) := Term.int_eval k
  rw [e3] at e2
  cases e2
  obtain ⟨z, rfl⟩ := k2
  rw [e1]
  simp [Cond.value, e1, e3] at q
  rw [q]
theorem fld_null (ev : t.eval args s none [] s = some (.ref a)) (q : (Cond.eq (Term.field t C n d) .null).value args s none s [] = some true) : Fld s s.heap a C n d .null := by
  refine Fld.start ?_
  rw [← fld_at ev (C := C) (n := n) (dd := d)]
  exact null_v q
theorem fld_ref (ev : t.eval args s none [] s = some (.ref a)) (ev2 : u.eval args s none [] s = some (.ref b)) (q : (Cond.eq (Term.field t C n d) u).value args s none s [] = some true) : Fld s s.heap a C n d (.ref b) := by
  refine Fld.start ?_
  rw [← fld_at ev (C := C) (n := n) (dd := d)]
  obtain ⟨x, y, e1, e2, k1, k2⟩ := cmp_v (Or.inl q)
  rw [ev2] at e2
  cases e2
  have hx : x.isRef = true := by
    obtain ⟨-, r⟩ := k2
    exact r
  rw [e1]
  have := gotT (eq_R e1 ev2 hx rfl) q
  rw [this]
theorem eqv_r {X : Term} (ev2 : u.eval args s none [] s = some (.ref b)) (q : (Cond.eq X u).value args s none s [] = some true) : X.eval args s none [] s = some (.ref b) := by
  obtain ⟨x, y, e1, e2, k1, k2⟩ := cmp_v (Or.inl q)
  rw [ev2] at e2
  cases e2
  have hx : x.isRef = true := by
    obtain ⟨-, r⟩ := k2
    exact r
  rw [e1, gotT (eq_R e1 ev2 hx rfl) q]
theorem elem_start {c : Cell} {X : Term} {j : Int32} {v : Value} (ev : t.eval args s none [] s = some (.ref a)) (A : s.heap[a]? = some c) (q : (Term.elem t (Term.int j)).eval args s none [] s = some v) : c.slots[j.toNatClampNeg]? = some v :=
  (elem_in q ev (Term.int_eval j) A).2
theorem len_start {c : Cell} {ty : FieldType} {z : Int32} (et : t.eval args s none [] s = some (.ref a)) (A : Arr s s.heap a c ty) (q : (Cond.eq (Term.length t) (Term.int z)).value args s none s [] = some true) : c.slots.size < 2 ^ 31 ∧ c.slots.size.toInt32 = z := by
  have ev := eqv_i (Term.int_eval z) q
  have ha := A.fin (Vm.Alike.refl _)
  simp only [Term.eval, et, ha, Option.bind_eq_bind, Option.bind_some, Option.pure_def] at ev
  by_cases r : c.slots.size < 2 ^ 31
  · rw [if_pos r] at ev
    refine ⟨r, ?_⟩
    cases ev
    rfl
  · rw [if_neg r] at ev
    cases ev
theorem cache_start {c : Cell} (et : ∀ idx, t.eval args s none idx s = some (.ref a)) (A : Arr s s.heap a c (.object "java/lang/Integer")) (h6 : (Cond.eq (Term.length t) (Term.int 256)).value args s none s [] = some true)
    (h7 : (Cond.all t (.and (.exactly (.elem t (.index 0)) "java/lang/Integer") (.eq (.field (.elem t (.index 0)) "java/lang/Integer" "value" "I") (.sub (.index 0) (.int 128))))).value args s none s [] = some true) : Bxs s a c "java/lang/Integer" "I" 256 (fun j => .int (j - 128)) := by
  obtain ⟨q1, q2⟩ := len_start (et []) A h6
  refine Bxs.start et A q1 q2 (by decide) h7 fun X j nn u => ?_
  have e1 : (Term.sub (.index 0) (.int 128)).eval args s none [j.toNatClampNeg] s = some (.int (j - 128)) := by
    simp [Term.eval, idx_at nn, Term.int_eval, (back32 nn).1]
  exact eqv_i e1 u
theorem arv0_start {c : Cell} {ty : FieldType} (hf : Fit s) (et : t.eval args s none [] s = some (.ref a)) (A : Arr s s.heap a c ty) (q : (Cond.eq (Term.length t) (Term.int 0)).value args s none s [] = some true) : Arv s s.heap a c.cls ty 0 [] .null := by
  obtain ⟨q1, q2⟩ := len_start et A q
  exact Arv.start hf A q1 q2 (by decide) rfl trivial
end Start
theorem cache_idx {p : Int32} (h1 : if_icmp.holds .lt p (-128) = false) (h2 : if_icmp.holds .gt p 127 = false) {c : Cell} (S : c.slots.size = (256 : Int32).toNatClampNeg) : ¬ ((p + 128) < 0 ∨ c.slots.size ≤ (p + 128).toNatClampNeg) := by
  have a1 : ¬ p < -128 := by simpa [if_icmp.holds] using h1
  have a2 : ¬ 127 < p := by simpa [if_icmp.holds] using h2
  have q := c_iadd p 128
  have r1 := rng32 p
  have r2 := rng32 (p + 128)
  have k1 : (-128 : Int32).toInt = -128 := by decide
  have k2 : (127 : Int32).toInt = 127 := by decide
  have k3 : (128 : Int32).toInt = 128 := by decide
  have k4 : (256 : Int32).toInt = 256 := by decide
  have k5 : (0 : Int32).toInt = 0 := by decide
  rw [Int32.lt_iff_toInt_lt] at a1 a2
  refine inb_of S ⟨?_, ?_⟩ <;> rw [Int32.lt_iff_toInt_lt] <;> omega
theorem back128 (p : Int32) : p + 128 - 128 = p := by
  have q := c_iadd p 128
  have q2 := c_isub (p + 128) 128
  have r1 := rng32 p
  have r2 := rng32 (p + 128 - 128)
  refine Int32.toInt_inj.mp ?_
  omega
end Jvm.OwnKit
namespace Jvm.Pilot.@@N@@
open Jvm Jvm.ClassFile Sem Op Lib Jvm.Free Jvm.Stand Jvm.LawKit Jvm.RoadKit Jvm.OwnKit Bundle Jvm.Pilot.@@N@@.Jvm.D
abbrev y0 : MethodName := ⟨"com/example/tallystone/tallystone/model/RevenuePlanSchedulePinLaw", "pick", "(I)Lcom/example/tallystone/tallystone/model/RateSchedule;"⟩
abbrev y1 : MethodName := ⟨"java/util/Optional", "<init>", "(Ljava/lang/Object;)V"⟩
abbrev y2 : MethodName := ⟨"java/util/Optional", "ofNullable", "(Ljava/lang/Object;)Ljava/util/Optional;"⟩
abbrev y3 : MethodName := ⟨"java/util/Optional", "orElse", "(Ljava/lang/Object;)Ljava/lang/Object;"⟩
abbrev y4 : MethodName := ⟨"java/lang/Record", "<init>", "()V"⟩
abbrev y5 : MethodName := ⟨"com/example/tallystone/tallystone/model/RevenuePlan", "<init>", "(Ljava/lang/String;Lcom/example/tallystone/tallystone/model/RevenueMethod;Lcom/example/tallystone/tallystone/model/RateSchedule;Lcom/example/tallystone/tallystone/model/RateSchedule;ZLcom/example/tallystone/tallystone/model/CalculationLevel;Lcom/example/tallystone/tallystone/model/ProgressBasis;)V"⟩
abbrev y6 : MethodName := ⟨"com/example/tallystone/tallystone/model/RevenuePlan", "schedule", "(Lcom/example/tallystone/tallystone/model/ExpenditureKind;)Ljava/util/Optional;"⟩
theorem t0 {a0 : Array Value} {Z : State} (hw : ∀ d ∈ tables_1, d.before a0 Z = true) : (Jvm.Cond.fieldLink "com/example/tallystone/tallystone/model/RevenuePlanSchedulePinLaw" (17 : Nat) "com/example/tallystone/tallystone/model/ExpenditureKind" "LABOR" "Lcom/example/tallystone/tallystone/model/ExpenditureKind;").before a0 Z = true := hw _ (List.mem_of_getElem? (i := 0) rfl)
theorem t1 {a0 : Array Value} {Z : State} (hw : ∀ d ∈ tables_1, d.before a0 Z = true) : (Jvm.Cond.initialized "com/example/tallystone/tallystone/model/ExpenditureKind").before a0 Z = true := hw _ (List.mem_of_getElem? (i := 1) rfl)
theorem t2 {a0 : Array Value} {Z : State} (hw : ∀ d ∈ tables_1, d.before a0 Z = true) : (Jvm.Cond.laysStatic "com/example/tallystone/tallystone/model/ExpenditureKind" "LABOR" "Lcom/example/tallystone/tallystone/model/ExpenditureKind;").before a0 Z = true := hw _ (List.mem_of_getElem? (i := 2) rfl)
theorem t3 {a0 : Array Value} {Z : State} (hw : ∀ d ∈ tables_1, d.before a0 Z = true) : (Jvm.Cond.methodLink "com/example/tallystone/tallystone/model/RevenuePlanSchedulePinLaw" (26 : Nat) ({ cls := "com/example/tallystone/tallystone/model/RevenuePlanSchedulePinLaw", name := "pick", desc := "(I)Lcom/example/tallystone/tallystone/model/RateSchedule;" } : Jvm.MethodName)).before a0 Z = true := hw _ (List.mem_of_getElem? (i := 3) rfl)
theorem t4 {a0 : Array Value} {Z : State} (hw : ∀ d ∈ tables_1, d.before a0 Z = true) : (Jvm.Cond.static ({ cls := "com/example/tallystone/tallystone/model/RevenuePlanSchedulePinLaw", name := "pick", desc := "(I)Lcom/example/tallystone/tallystone/model/RateSchedule;" } : Jvm.MethodName)).before a0 Z = true := hw _ (List.mem_of_getElem? (i := 4) rfl)
theorem t5 {a0 : Array Value} {Z : State} (hw : ∀ d ∈ tables_1, d.before a0 Z = true) : (Jvm.Cond.initialized "com/example/tallystone/tallystone/model/RevenuePlanSchedulePinLaw").before a0 Z = true := hw _ (List.mem_of_getElem? (i := 5) rfl)
theorem t6 {a0 : Array Value} {Z : State} (hw : ∀ d ∈ tables_1, d.before a0 Z = true) : (Jvm.Cond.code ({ cls := "com/example/tallystone/tallystone/model/RevenuePlanSchedulePinLaw", name := "pick", desc := "(I)Lcom/example/tallystone/tallystone/model/RateSchedule;" } : Jvm.MethodName) method_2_code (2 : Nat) (Option.some (Jvm.ClassFile.FieldType.object "com/example/tallystone/tallystone/model/RateSchedule"))).before a0 Z = true := hw _ (List.mem_of_getElem? (i := 6) rfl)
theorem t7 {a0 : Array Value} {Z : State} (hw : ∀ d ∈ tables_1, d.before a0 Z = true) : (Jvm.Cond.constant "com/example/tallystone/tallystone/model/RevenuePlanSchedulePinLaw" (7 : Nat) (2147483647 : Int32)).before a0 Z = true := hw _ (List.mem_of_getElem? (i := 7) rfl)
theorem t8 {a0 : Array Value} {Z : State} (hw : ∀ d ∈ tables_1, d.before a0 Z = true) : (Jvm.Cond.classLink "com/example/tallystone/tallystone/model/RevenuePlanSchedulePinLaw" (32 : Nat) "com/example/tallystone/tallystone/model/RevenuePlan").before a0 Z = true := hw _ (List.mem_of_getElem? (i := 8) rfl)
theorem t9 {a0 : Array Value} {Z : State} (hw : ∀ d ∈ tables_1, d.before a0 Z = true) : (Jvm.Cond.instantiable "com/example/tallystone/tallystone/model/RevenuePlan" (7 : Nat)).before a0 Z = true := hw _ (List.mem_of_getElem? (i := 9) rfl)
theorem t10 {a0 : Array Value} {Z : State} (hw : ∀ d ∈ tables_1, d.before a0 Z = true) : (Jvm.Cond.initialized "com/example/tallystone/tallystone/model/RevenuePlan").before a0 Z = true := hw _ (List.mem_of_getElem? (i := 10) rfl)
theorem t11 {a0 : Array Value} {Z : State} (hw : ∀ d ∈ tables_1, d.before a0 Z = true) : (Jvm.Cond.methodLink "com/example/tallystone/tallystone/model/RevenuePlanSchedulePinLaw" (34 : Nat) ({ cls := "com/example/tallystone/tallystone/model/RevenuePlan", name := "<init>", desc := "(Ljava/lang/String;Lcom/example/tallystone/tallystone/model/RevenueMethod;Lcom/example/tallystone/tallystone/model/RateSchedule;Lcom/example/tallystone/tallystone/model/RateSchedule;ZLcom/example/tallystone/tallystone/model/CalculationLevel;Lcom/example/tallystone/tallystone/model/ProgressBasis;)V" } : Jvm.MethodName)).before a0 Z = true := hw _ (List.mem_of_getElem? (i := 11) rfl)
theorem t12 {a0 : Array Value} {Z : State} (hw : ∀ d ∈ tables_1, d.before a0 Z = true) : (Jvm.Cond.instanceMethod ({ cls := "com/example/tallystone/tallystone/model/RevenuePlan", name := "<init>", desc := "(Ljava/lang/String;Lcom/example/tallystone/tallystone/model/RevenueMethod;Lcom/example/tallystone/tallystone/model/RateSchedule;Lcom/example/tallystone/tallystone/model/RateSchedule;ZLcom/example/tallystone/tallystone/model/CalculationLevel;Lcom/example/tallystone/tallystone/model/ProgressBasis;)V" } : Jvm.MethodName)).before a0 Z = true := hw _ (List.mem_of_getElem? (i := 12) rfl)
theorem t13 {a0 : Array Value} {Z : State} (hw : ∀ d ∈ tables_1, d.before a0 Z = true) : (Jvm.Cond.code ({ cls := "com/example/tallystone/tallystone/model/RevenuePlan", name := "<init>", desc := "(Ljava/lang/String;Lcom/example/tallystone/tallystone/model/RevenueMethod;Lcom/example/tallystone/tallystone/model/RateSchedule;Lcom/example/tallystone/tallystone/model/RateSchedule;ZLcom/example/tallystone/tallystone/model/CalculationLevel;Lcom/example/tallystone/tallystone/model/ProgressBasis;)V" } : Jvm.MethodName) prog_65_method_1_code (8 : Nat) (Option.none : Option Jvm.ClassFile.FieldType)).before a0 Z = true := hw _ (List.mem_of_getElem? (i := 13) rfl)
theorem t14 {a0 : Array Value} {Z : State} (hw : ∀ d ∈ tables_1, d.before a0 Z = true) : (Jvm.Cond.methodLink "com/example/tallystone/tallystone/model/RevenuePlan" (1 : Nat) ({ cls := "java/lang/Record", name := "<init>", desc := "()V" } : Jvm.MethodName)).before a0 Z = true := hw _ (List.mem_of_getElem? (i := 14) rfl)
theorem t15 {a0 : Array Value} {Z : State} (hw : ∀ d ∈ tables_1, d.before a0 Z = true) : (Jvm.Cond.instanceMethod ({ cls := "java/lang/Record", name := "<init>", desc := "()V" } : Jvm.MethodName)).before a0 Z = true := hw _ (List.mem_of_getElem? (i := 15) rfl)
theorem t17 {a0 : Array Value} {Z : State} (hw : ∀ d ∈ tables_1, d.before a0 Z = true) : (Jvm.Cond.initialized "java/lang/Record").before a0 Z = true := hw _ (List.mem_of_getElem? (i := 17) rfl)
theorem t18 {a0 : Array Value} {Z : State} (hw : ∀ d ∈ tables_1, d.before a0 Z = true) : (Jvm.Cond.code ({ cls := "java/lang/Record", name := "<init>", desc := "()V" } : Jvm.MethodName) jdk_30_method_1_code (1 : Nat) (Option.none : Option Jvm.ClassFile.FieldType)).before a0 Z = true := hw _ (List.mem_of_getElem? (i := 18) rfl)
theorem t19 {a0 : Array Value} {Z : State} (hw : ∀ d ∈ tables_1, d.before a0 Z = true) : (Jvm.Cond.methodLink "java/lang/Record" (1 : Nat) ({ cls := "java/lang/Object", name := "<init>", desc := "()V" } : Jvm.MethodName)).before a0 Z = true := hw _ (List.mem_of_getElem? (i := 19) rfl)
theorem t20 {a0 : Array Value} {Z : State} (hw : ∀ d ∈ tables_1, d.before a0 Z = true) : (Jvm.Cond.instanceMethod ({ cls := "java/lang/Object", name := "<init>", desc := "()V" } : Jvm.MethodName)).before a0 Z = true := hw _ (List.mem_of_getElem? (i := 20) rfl)
theorem t21 {a0 : Array Value} {Z : State} (hw : ∀ d ∈ tables_1, d.before a0 Z = true) : (Jvm.Cond.code ({ cls := "java/lang/Object", name := "<init>", desc := "()V" } : Jvm.MethodName) object_method_1_code (1 : Nat) (Option.none : Option Jvm.ClassFile.FieldType)).before a0 Z = true := hw _ (List.mem_of_getElem? (i := 21) rfl)
theorem t22 {a0 : Array Value} {Z : State} (hw : ∀ d ∈ tables_1, d.before a0 Z = true) : (Jvm.Cond.fieldLink "com/example/tallystone/tallystone/model/RevenuePlan" (7 : Nat) "com/example/tallystone/tallystone/model/RevenuePlan" "id" "Ljava/lang/String;").before a0 Z = true := hw _ (List.mem_of_getElem? (i := 22) rfl)
theorem t23 {a0 : Array Value} {Z : State} (hw : ∀ d ∈ tables_1, d.before a0 Z = true) : (Jvm.Cond.laysFinal "com/example/tallystone/tallystone/model/RevenuePlan" "com/example/tallystone/tallystone/model/RevenuePlan" "id" "Ljava/lang/String;").before a0 Z = true := hw _ (List.mem_of_getElem? (i := 23) rfl)
theorem t24 {a0 : Array Value} {Z : State} (hw : ∀ d ∈ tables_1, d.before a0 Z = true) : (Jvm.Cond.fieldLink "com/example/tallystone/tallystone/model/RevenuePlan" (13 : Nat) "com/example/tallystone/tallystone/model/RevenuePlan" "method" "Lcom/example/tallystone/tallystone/model/RevenueMethod;").before a0 Z = true := hw _ (List.mem_of_getElem? (i := 24) rfl)
theorem t25 {a0 : Array Value} {Z : State} (hw : ∀ d ∈ tables_1, d.before a0 Z = true) : (Jvm.Cond.laysFinal "com/example/tallystone/tallystone/model/RevenuePlan" "com/example/tallystone/tallystone/model/RevenuePlan" "method" "Lcom/example/tallystone/tallystone/model/RevenueMethod;").before a0 Z = true := hw _ (List.mem_of_getElem? (i := 25) rfl)
theorem t26 {a0 : Array Value} {Z : State} (hw : ∀ d ∈ tables_1, d.before a0 Z = true) : (Jvm.Cond.fieldLink "com/example/tallystone/tallystone/model/RevenuePlan" (17 : Nat) "com/example/tallystone/tallystone/model/RevenuePlan" "laborSchedule" "Lcom/example/tallystone/tallystone/model/RateSchedule;").before a0 Z = true := hw _ (List.mem_of_getElem? (i := 26) rfl)
theorem t27 {a0 : Array Value} {Z : State} (hw : ∀ d ∈ tables_1, d.before a0 Z = true) : (Jvm.Cond.laysFinal "com/example/tallystone/tallystone/model/RevenuePlan" "com/example/tallystone/tallystone/model/RevenuePlan" "laborSchedule" "Lcom/example/tallystone/tallystone/model/RateSchedule;").before a0 Z = true := hw _ (List.mem_of_getElem? (i := 27) rfl)
theorem t28 {a0 : Array Value} {Z : State} (hw : ∀ d ∈ tables_1, d.before a0 Z = true) : (Jvm.Cond.fieldLink "com/example/tallystone/tallystone/model/RevenuePlan" (21 : Nat) "com/example/tallystone/tallystone/model/RevenuePlan" "nonlaborSchedule" "Lcom/example/tallystone/tallystone/model/RateSchedule;").before a0 Z = true := hw _ (List.mem_of_getElem? (i := 28) rfl)
theorem t29 {a0 : Array Value} {Z : State} (hw : ∀ d ∈ tables_1, d.before a0 Z = true) : (Jvm.Cond.laysFinal "com/example/tallystone/tallystone/model/RevenuePlan" "com/example/tallystone/tallystone/model/RevenuePlan" "nonlaborSchedule" "Lcom/example/tallystone/tallystone/model/RateSchedule;").before a0 Z = true := hw _ (List.mem_of_getElem? (i := 29) rfl)
theorem t30 {a0 : Array Value} {Z : State} (hw : ∀ d ∈ tables_1, d.before a0 Z = true) : (Jvm.Cond.fieldLink "com/example/tallystone/tallystone/model/RevenuePlan" (24 : Nat) "com/example/tallystone/tallystone/model/RevenuePlan" "onHold" "Z").before a0 Z = true := hw _ (List.mem_of_getElem? (i := 30) rfl)
theorem t31 {a0 : Array Value} {Z : State} (hw : ∀ d ∈ tables_1, d.before a0 Z = true) : (Jvm.Cond.laysFinal "com/example/tallystone/tallystone/model/RevenuePlan" "com/example/tallystone/tallystone/model/RevenuePlan" "onHold" "Z").before a0 Z = true := hw _ (List.mem_of_getElem? (i := 31) rfl)
theorem t32 {a0 : Array Value} {Z : State} (hw : ∀ d ∈ tables_1, d.before a0 Z = true) : (Jvm.Cond.fieldLink "com/example/tallystone/tallystone/model/RevenuePlan" (28 : Nat) "com/example/tallystone/tallystone/model/RevenuePlan" "calculationLevel" "Lcom/example/tallystone/tallystone/model/CalculationLevel;").before a0 Z = true := hw _ (List.mem_of_getElem? (i := 32) rfl)
theorem t33 {a0 : Array Value} {Z : State} (hw : ∀ d ∈ tables_1, d.before a0 Z = true) : (Jvm.Cond.laysFinal "com/example/tallystone/tallystone/model/RevenuePlan" "com/example/tallystone/tallystone/model/RevenuePlan" "calculationLevel" "Lcom/example/tallystone/tallystone/model/CalculationLevel;").before a0 Z = true := hw _ (List.mem_of_getElem? (i := 33) rfl)
theorem t34 {a0 : Array Value} {Z : State} (hw : ∀ d ∈ tables_1, d.before a0 Z = true) : (Jvm.Cond.fieldLink "com/example/tallystone/tallystone/model/RevenuePlan" (32 : Nat) "com/example/tallystone/tallystone/model/RevenuePlan" "progressBasis" "Lcom/example/tallystone/tallystone/model/ProgressBasis;").before a0 Z = true := hw _ (List.mem_of_getElem? (i := 34) rfl)
theorem t35 {a0 : Array Value} {Z : State} (hw : ∀ d ∈ tables_1, d.before a0 Z = true) : (Jvm.Cond.laysFinal "com/example/tallystone/tallystone/model/RevenuePlan" "com/example/tallystone/tallystone/model/RevenuePlan" "progressBasis" "Lcom/example/tallystone/tallystone/model/ProgressBasis;").before a0 Z = true := hw _ (List.mem_of_getElem? (i := 35) rfl)
theorem t36 {a0 : Array Value} {Z : State} (hw : ∀ d ∈ tables_1, d.before a0 Z = true) : (Jvm.Cond.methodLink "com/example/tallystone/tallystone/model/RevenuePlanSchedulePinLaw" (37 : Nat) ({ cls := "com/example/tallystone/tallystone/model/RevenuePlan", name := "schedule", desc := "(Lcom/example/tallystone/tallystone/model/ExpenditureKind;)Ljava/util/Optional;" } : Jvm.MethodName)).before a0 Z = true := hw _ (List.mem_of_getElem? (i := 36) rfl)
theorem t37 {a0 : Array Value} {Z : State} (hw : ∀ d ∈ tables_1, d.before a0 Z = true) : (Jvm.Cond.declares ({ cls := "com/example/tallystone/tallystone/model/RevenuePlan", name := "schedule", desc := "(Lcom/example/tallystone/tallystone/model/ExpenditureKind;)Ljava/util/Optional;" } : Jvm.MethodName)).before a0 Z = true := hw _ (List.mem_of_getElem? (i := 37) rfl)
theorem t38 {a0 : Array Value} {Z : State} (hw : ∀ d ∈ tables_1, d.before a0 Z = true) : (Jvm.Cond.instanceMethod ({ cls := "com/example/tallystone/tallystone/model/RevenuePlan", name := "schedule", desc := "(Lcom/example/tallystone/tallystone/model/ExpenditureKind;)Ljava/util/Optional;" } : Jvm.MethodName)).before a0 Z = true := hw _ (List.mem_of_getElem? (i := 38) rfl)
theorem t39 {a0 : Array Value} {Z : State} (hw : ∀ d ∈ tables_1, d.before a0 Z = true) : (Jvm.Cond.selects "com/example/tallystone/tallystone/model/RevenuePlan" ({ cls := "com/example/tallystone/tallystone/model/RevenuePlan", name := "schedule", desc := "(Lcom/example/tallystone/tallystone/model/ExpenditureKind;)Ljava/util/Optional;" } : Jvm.MethodName) ({ cls := "com/example/tallystone/tallystone/model/RevenuePlan", name := "schedule", desc := "(Lcom/example/tallystone/tallystone/model/ExpenditureKind;)Ljava/util/Optional;" } : Jvm.MethodName)).before a0 Z = true := hw _ (List.mem_of_getElem? (i := 39) rfl)
theorem t40 {a0 : Array Value} {Z : State} (hw : ∀ d ∈ tables_1, d.before a0 Z = true) : (Jvm.Cond.code ({ cls := "com/example/tallystone/tallystone/model/RevenuePlan", name := "schedule", desc := "(Lcom/example/tallystone/tallystone/model/ExpenditureKind;)Ljava/util/Optional;" } : Jvm.MethodName) prog_65_method_2_code (2 : Nat) (Option.some (Jvm.ClassFile.FieldType.object "java/util/Optional"))).before a0 Z = true := hw _ (List.mem_of_getElem? (i := 40) rfl)
theorem t41 {a0 : Array Value} {Z : State} (hw : ∀ d ∈ tables_1, d.before a0 Z = true) : (Jvm.Cond.fieldLink "com/example/tallystone/tallystone/model/RevenuePlan" (36 : Nat) "com/example/tallystone/tallystone/model/ExpenditureKind" "LABOR" "Lcom/example/tallystone/tallystone/model/ExpenditureKind;").before a0 Z = true := hw _ (List.mem_of_getElem? (i := 41) rfl)
theorem t42 {a0 : Array Value} {Z : State} (hw : ∀ d ∈ tables_1, d.before a0 Z = true) : (Jvm.Cond.methodLink "com/example/tallystone/tallystone/model/RevenuePlan" (42 : Nat) ({ cls := "java/util/Optional", name := "ofNullable", desc := "(Ljava/lang/Object;)Ljava/util/Optional;" } : Jvm.MethodName)).before a0 Z = true := hw _ (List.mem_of_getElem? (i := 42) rfl)
theorem t43 {a0 : Array Value} {Z : State} (hw : ∀ d ∈ tables_1, d.before a0 Z = true) : (Jvm.Cond.static ({ cls := "java/util/Optional", name := "ofNullable", desc := "(Ljava/lang/Object;)Ljava/util/Optional;" } : Jvm.MethodName)).before a0 Z = true := hw _ (List.mem_of_getElem? (i := 43) rfl)
theorem t44 {a0 : Array Value} {Z : State} (hw : ∀ d ∈ tables_1, d.before a0 Z = true) : (Jvm.Cond.initialized "java/util/Optional").before a0 Z = true := hw _ (List.mem_of_getElem? (i := 44) rfl)
theorem t45 {a0 : Array Value} {Z : State} (hw : ∀ d ∈ tables_1, d.before a0 Z = true) : (Jvm.Cond.code ({ cls := "java/util/Optional", name := "ofNullable", desc := "(Ljava/lang/Object;)Ljava/util/Optional;" } : Jvm.MethodName) jdk_32_method_4_code (1 : Nat) (Option.some (Jvm.ClassFile.FieldType.object "java/util/Optional"))).before a0 Z = true := hw _ (List.mem_of_getElem? (i := 45) rfl)
theorem t46 {a0 : Array Value} {Z : State} (hw : ∀ d ∈ tables_1, d.before a0 Z = true) : (Jvm.Cond.fieldLink "java/util/Optional" (1 : Nat) "java/util/Optional" "EMPTY" "Ljava/util/Optional;").before a0 Z = true := hw _ (List.mem_of_getElem? (i := 46) rfl)
theorem t47 {a0 : Array Value} {Z : State} (hw : ∀ d ∈ tables_1, d.before a0 Z = true) : (Jvm.Cond.methodLink "com/example/tallystone/tallystone/model/RevenuePlanSchedulePinLaw" (41 : Nat) ({ cls := "java/util/Optional", name := "orElse", desc := "(Ljava/lang/Object;)Ljava/lang/Object;" } : Jvm.MethodName)).before a0 Z = true := hw _ (List.mem_of_getElem? (i := 47) rfl)
theorem t48 {a0 : Array Value} {Z : State} (hw : ∀ d ∈ tables_1, d.before a0 Z = true) : (Jvm.Cond.declares ({ cls := "java/util/Optional", name := "orElse", desc := "(Ljava/lang/Object;)Ljava/lang/Object;" } : Jvm.MethodName)).before a0 Z = true := hw _ (List.mem_of_getElem? (i := 48) rfl)
theorem t49 {a0 : Array Value} {Z : State} (hw : ∀ d ∈ tables_1, d.before a0 Z = true) : (Jvm.Cond.instanceMethod ({ cls := "java/util/Optional", name := "orElse", desc := "(Ljava/lang/Object;)Ljava/lang/Object;" } : Jvm.MethodName)).before a0 Z = true := hw _ (List.mem_of_getElem? (i := 49) rfl)
theorem t50 {a0 : Array Value} {Z : State} (hw : ∀ d ∈ tables_1, d.before a0 Z = true) : (Jvm.Cond.selects "java/util/Optional" ({ cls := "java/util/Optional", name := "orElse", desc := "(Ljava/lang/Object;)Ljava/lang/Object;" } : Jvm.MethodName) ({ cls := "java/util/Optional", name := "orElse", desc := "(Ljava/lang/Object;)Ljava/lang/Object;" } : Jvm.MethodName)).before a0 Z = true := hw _ (List.mem_of_getElem? (i := 50) rfl)
theorem t51 {a0 : Array Value} {Z : State} (hw : ∀ d ∈ tables_1, d.before a0 Z = true) : (Jvm.Cond.code ({ cls := "java/util/Optional", name := "orElse", desc := "(Ljava/lang/Object;)Ljava/lang/Object;" } : Jvm.MethodName) jdk_32_method_15_code (2 : Nat) (Option.some (Jvm.ClassFile.FieldType.object "java/lang/Object"))).before a0 Z = true := hw _ (List.mem_of_getElem? (i := 51) rfl)
theorem t52 {a0 : Array Value} {Z : State} (hw : ∀ d ∈ tables_1, d.before a0 Z = true) : (Jvm.Cond.fieldLink "java/util/Optional" (13 : Nat) "java/util/Optional" "value" "Ljava/lang/Object;").before a0 Z = true := hw _ (List.mem_of_getElem? (i := 52) rfl)
theorem t53 {a0 : Array Value} {Z : State} (hw : ∀ d ∈ tables_1, d.before a0 Z = true) : (Jvm.Cond.laysFinal "java/util/Optional" "java/util/Optional" "value" "Ljava/lang/Object;").before a0 Z = true := hw _ (List.mem_of_getElem? (i := 53) rfl)
theorem t54 {a0 : Array Value} {Z : State} (hw : ∀ d ∈ tables_1, d.before a0 Z = true) : (Jvm.Cond.fieldLink "com/example/tallystone/tallystone/model/RevenuePlanSchedulePinLaw" (8 : Nat) "com/example/tallystone/tallystone/model/RateSchedule" "BILL_RATE" "Lcom/example/tallystone/tallystone/model/RateSchedule;").before a0 Z = true := hw _ (List.mem_of_getElem? (i := 54) rfl)
theorem t55 {a0 : Array Value} {Z : State} (hw : ∀ d ∈ tables_1, d.before a0 Z = true) : (Jvm.Cond.initialized "com/example/tallystone/tallystone/model/RateSchedule").before a0 Z = true := hw _ (List.mem_of_getElem? (i := 55) rfl)
theorem t56 {a0 : Array Value} {Z : State} (hw : ∀ d ∈ tables_1, d.before a0 Z = true) : (Jvm.Cond.laysStatic "com/example/tallystone/tallystone/model/RateSchedule" "BILL_RATE" "Lcom/example/tallystone/tallystone/model/RateSchedule;").before a0 Z = true := hw _ (List.mem_of_getElem? (i := 56) rfl)
theorem t57 {a0 : Array Value} {Z : State} (hw : ∀ d ∈ tables_1, d.before a0 Z = true) : (Jvm.Cond.classLink "java/util/Optional" (2 : Nat) "java/util/Optional").before a0 Z = true := hw _ (List.mem_of_getElem? (i := 57) rfl)
theorem t58 {a0 : Array Value} {Z : State} (hw : ∀ d ∈ tables_1, d.before a0 Z = true) : (Jvm.Cond.instantiable "java/util/Optional" (1 : Nat)).before a0 Z = true := hw _ (List.mem_of_getElem? (i := 58) rfl)
theorem t59 {a0 : Array Value} {Z : State} (hw : ∀ d ∈ tables_1, d.before a0 Z = true) : (Jvm.Cond.methodLink "java/util/Optional" (23 : Nat) ({ cls := "java/util/Optional", name := "<init>", desc := "(Ljava/lang/Object;)V" } : Jvm.MethodName)).before a0 Z = true := hw _ (List.mem_of_getElem? (i := 59) rfl)
theorem t60 {a0 : Array Value} {Z : State} (hw : ∀ d ∈ tables_1, d.before a0 Z = true) : (Jvm.Cond.instanceMethod ({ cls := "java/util/Optional", name := "<init>", desc := "(Ljava/lang/Object;)V" } : Jvm.MethodName)).before a0 Z = true := hw _ (List.mem_of_getElem? (i := 60) rfl)
theorem t62 {a0 : Array Value} {Z : State} (hw : ∀ d ∈ tables_1, d.before a0 Z = true) : (Jvm.Cond.code ({ cls := "java/util/Optional", name := "<init>", desc := "(Ljava/lang/Object;)V" } : Jvm.MethodName) jdk_32_method_2_code (2 : Nat) (Option.none : Option Jvm.ClassFile.FieldType)).before a0 Z = true := hw _ (List.mem_of_getElem? (i := 62) rfl)
theorem t63 {a0 : Array Value} {Z : State} (hw : ∀ d ∈ tables_1, d.before a0 Z = true) : (Jvm.Cond.methodLink "java/util/Optional" (7 : Nat) ({ cls := "java/lang/Object", name := "<init>", desc := "()V" } : Jvm.MethodName)).before a0 Z = true := hw _ (List.mem_of_getElem? (i := 63) rfl)
theorem t64 {a0 : Array Value} {Z : State} (hw : ∀ d ∈ tables_1, d.before a0 Z = true) : (Jvm.Cond.classLink "com/example/tallystone/tallystone/model/RevenuePlanSchedulePinLaw" (9 : Nat) "com/example/tallystone/tallystone/model/RateSchedule").before a0 Z = true := hw _ (List.mem_of_getElem? (i := 64) rfl)
theorem t66 {a0 : Array Value} {Z : State} (hw : ∀ d ∈ tables_1, d.before a0 Z = true) : (Jvm.Cond.fieldLink "com/example/tallystone/tallystone/model/RevenuePlanSchedulePinLaw" (23 : Nat) "com/example/tallystone/tallystone/model/ExpenditureKind" "NONLABOR" "Lcom/example/tallystone/tallystone/model/ExpenditureKind;").before a0 Z = true := hw _ (List.mem_of_getElem? (i := 66) rfl)
theorem t67 {a0 : Array Value} {Z : State} (hw : ∀ d ∈ tables_1, d.before a0 Z = true) : (Jvm.Cond.laysStatic "com/example/tallystone/tallystone/model/ExpenditureKind" "NONLABOR" "Lcom/example/tallystone/tallystone/model/ExpenditureKind;").before a0 Z = true := hw _ (List.mem_of_getElem? (i := 67) rfl)
theorem t68 {a0 : Array Value} {Z : State} (hw : ∀ d ∈ tables_1, d.before a0 Z = true) : (Jvm.Cond.fieldLink "com/example/tallystone/tallystone/model/RevenuePlanSchedulePinLaw" (14 : Nat) "com/example/tallystone/tallystone/model/RateSchedule" "BURDEN" "Lcom/example/tallystone/tallystone/model/RateSchedule;").before a0 Z = true := hw _ (List.mem_of_getElem? (i := 68) rfl)
theorem t69 {a0 : Array Value} {Z : State} (hw : ∀ d ∈ tables_1, d.before a0 Z = true) : (Jvm.Cond.laysStatic "com/example/tallystone/tallystone/model/RateSchedule" "BURDEN" "Lcom/example/tallystone/tallystone/model/RateSchedule;").before a0 Z = true := hw _ (List.mem_of_getElem? (i := 69) rfl)
def World (Z : State) (w_LABOR : Addr) (w_BILL_RATE : Addr) (w_NONLABOR : Addr) (w_BURDEN : Addr) (w_EMPTY : Addr) : Prop :=
  Sta Z Z.heap "com/example/tallystone/tallystone/model/ExpenditureKind" "LABOR" "Lcom/example/tallystone/tallystone/model/ExpenditureKind;" (.ref w_LABOR) ∧
  Exa Z Z.heap w_LABOR "com/example/tallystone/tallystone/model/ExpenditureKind" ∧
  Sta Z Z.heap "com/example/tallystone/tallystone/model/RateSchedule" "BILL_RATE" "Lcom/example/tallystone/tallystone/model/RateSchedule;" (.ref w_BILL_RATE) ∧
  Exa Z Z.heap w_BILL_RATE "com/example/tallystone/tallystone/model/RateSchedule" ∧
  Sta Z Z.heap "com/example/tallystone/tallystone/model/ExpenditureKind" "NONLABOR" "Lcom/example/tallystone/tallystone/model/ExpenditureKind;" (.ref w_NONLABOR) ∧
  Exa Z Z.heap w_NONLABOR "com/example/tallystone/tallystone/model/ExpenditureKind" ∧
  Sta Z Z.heap "com/example/tallystone/tallystone/model/RateSchedule" "BURDEN" "Lcom/example/tallystone/tallystone/model/RateSchedule;" (.ref w_BURDEN) ∧
  Exa Z Z.heap w_BURDEN "com/example/tallystone/tallystone/model/RateSchedule" ∧
  Sta Z Z.heap "java/util/Optional" "EMPTY" "Ljava/util/Optional;" (.ref w_EMPTY) ∧
  Exa Z Z.heap w_EMPTY "java/util/Optional" ∧
  Fld Z Z.heap w_NONLABOR "java/lang/Enum" "ordinal" "I" (.int (1 : Int32)) ∧
  Fld Z Z.heap w_LABOR "java/lang/Enum" "ordinal" "I" (.int (0 : Int32)) ∧
  Fld Z Z.heap w_EMPTY "java/util/Optional" "value" "Ljava/lang/Object;" .null
theorem pn_0 : plainName "com/example/tallystone/tallystone/model/RevenuePlanSchedulePinLaw" = true := by first | (simp [plainName, overriddenIn]; done) | decide +kernel
theorem d_method_2_code_0 : decode method_2_code 0 = .ok (.iload_n 0, 1) := by decide +kernel
theorem d_method_2_code_1 : decode method_2_code 1 = .ok (.ldc 7, 2) := by decide +kernel
theorem d_method_2_code_3 : decode method_2_code 3 = .ok (.iand, 1) := by decide +kernel
theorem d_method_2_code_4 : decode method_2_code 4 = .ok (.iconst 3, 1) := by decide +kernel
theorem d_method_2_code_5 : decode method_2_code 5 = .ok (.irem, 1) := by decide +kernel
theorem d_method_2_code_6 : decode method_2_code 6 = .ok (.istore_n 1, 1) := by decide +kernel
theorem d_method_2_code_7 : decode method_2_code 7 = .ok (.iload_n 1, 1) := by decide +kernel
theorem d_method_2_code_8 : decode method_2_code 8 = .ok (.ifCond .ne 5, 3) := by decide +kernel
theorem d_method_2_code_13 : decode method_2_code 13 = .ok (.iload_n 1, 1) := by decide +kernel
theorem d_method_2_code_14 : decode method_2_code 14 = .ok (.iconst 1, 1) := by decide +kernel
theorem d_method_2_code_15 : decode method_2_code 15 = .ok (.if_icmp .ne 7, 3) := by decide +kernel
theorem d_method_2_code_22 : decode method_2_code 22 = .ok (.getstatic 14, 3) := by decide +kernel
theorem d_method_2_code_25 : decode method_2_code 25 = .ok (.areturn, 1) := by decide +kernel
theorem d_method_2_code_18 : decode method_2_code 18 = .ok (.getstatic 8, 3) := by decide +kernel
theorem d_method_2_code_21 : decode method_2_code 21 = .ok (.areturn, 1) := by decide +kernel
theorem d_method_2_code_11 : decode method_2_code 11 = .ok (.aconst_null, 1) := by decide +kernel
theorem d_method_2_code_12 : decode method_2_code 12 = .ok (.areturn, 1) := by decide +kernel
set_option maxRecDepth 65536 in
set_option maxHeartbeats 40000000 in
theorem own_pick {l : Launch} {Z : State} {a0 : Array Value} (hw : ∀ d ∈ tables_1, d.before a0 Z = true) {w_LABOR : Addr} {w_BILL_RATE : Addr} {w_NONLABOR : Addr} {w_BURDEN : Addr} {w_EMPTY : Addr} (wd : World Z w_LABOR w_BILL_RATE w_NONLABOR w_BURDEN w_EMPTY) (x0 : Int32) {h0 : Heap} (O : Ext Z.heap h0) :
    Ctr l Z y0 method_2_code 2 (some (.object "com/example/tallystone/tallystone/model/RateSchedule")) ({ frames := 0, cells := 0, slots := 0, locals := 0 } : Room) #[(.int x0)] h0 (fun v h L => ∃ vv, v = some vv ∧ L = [] ∧ h = h0 ∧ OldV Z vv "com/example/tallystone/tallystone/model/RateSchedule") := by
  refine Ctr.body (plainFor_of_name pn_0) ?_
  intro p e s m below meth c T X hx hby hml hown hnm hret hlk hZ eT
  have hml : c.maxLocals = 2 := hml
  have hown : s.vm.findClass "com/example/tallystone/tallystone/model/RevenuePlanSchedulePinLaw" = some m.cls := hown
  have hnm : meth.name = "pick" := hnm
  have hret : meth.sig.returnType = (some (.object "com/example/tallystone/tallystone/model/RateSchedule")) := hret
  refine Run.cast (show entryFrame m #[(.int x0)] 2 = mkF m 0 #[.val (.int x0), .unset] [] from by first | (simp [entryFrame, mkF, argsToLocals, Value.category]; done) | rfl) ?_
  have wd0 := wd
  obtain ⟨S_w_LABOR, E_w_LABOR, S_w_BILL_RATE, E_w_BILL_RATE, S_w_NONLABOR, E_w_NONLABOR, S_w_BURDEN, E_w_BURDEN, S_w_EMPTY, E_w_EMPTY, F_ordinal_w_NONLABOR, F_ordinal_w_LABOR, F_value_w_EMPTY⟩ := wd
  have wd := wd0
  have N : Fr Z.heap.size [] := Fr.nil _
  have KK : Keep h0 h0 [] := Keep.refl h0 []
  refine q_iloadN (pc' := 1) X hx (hb hby d_method_2_code_0) rfl rfl ?_
  refine q_ldc (pc' := 3) (v := (2147483647 : Int32)) X hx hZ hown (hb hby d_method_2_code_1) (t7 hw) rfl ?_
  refine q_iand (pc' := 4) (z := (x0 &&& (2147483647 : Int32))) X hx (hb hby d_method_2_code_3) rfl rfl ?_
  refine q_iconst (pc' := 5) (z := (3 : Int32)) X hx (hb hby d_method_2_code_4) rfl rfl ?_
  refine q_irem (pc' := 6) (z := ((x0 &&& (2147483647 : Int32)) % (3 : Int32))) X hx (hb hby d_method_2_code_5) (by decide) rfl rfl ?_
  refine q_istoreN (pc' := 7) (l' := #[.val (.int x0), .val (.int ((x0 &&& (2147483647 : Int32)) % (3 : Int32)))]) X hx (hb hby d_method_2_code_6) rfl rfl ?_
  refine q_iloadN (pc' := 8) X hx (hb hby d_method_2_code_7) rfl rfl ?_
  rcases Bool.eq_false_or_eq_true (ifCond.holds .ne ((x0 &&& (2147483647 : Int32)) % (3 : Int32))) with hc8 | hc8
  · refine q_ifYes (pc' := 13) X hx (hb hby d_method_2_code_8) hc8 (by decide) (by decide) ?_
    refine q_iloadN (pc' := 14) X hx (hb hby d_method_2_code_13) rfl rfl ?_
    refine q_iconst (pc' := 15) (z := (1 : Int32)) X hx (hb hby d_method_2_code_14) rfl rfl ?_
    rcases Bool.eq_false_or_eq_true (if_icmp.holds .ne ((x0 &&& (2147483647 : Int32)) % (3 : Int32)) (1 : Int32)) with hc15 | hc15
    · refine q_icmpYes (pc' := 22) X hx (hb hby d_method_2_code_15) hc15 (by decide) (by decide) ?_
      refine q_getS (pc' := 25) X hx hZ hown (hb hby d_method_2_code_22) (host := "") (Or.inl (t68 hw)) eT (S_w_BURDEN.ext O) rfl ?_
      intro T X eT
      refine Run.retR X hx hlk hret (hb hby d_method_2_code_25) rfl rfl (by decide) (by decide) ?_
      try rw [eT]
      exact ⟨_, rfl, rfl, rfl, Or.inr ⟨_, rfl, E_w_BURDEN⟩⟩
    · refine q_icmpNo (pc' := 18) X hx (hb hby d_method_2_code_15) hc15 rfl ?_
      refine q_getS (pc' := 21) X hx hZ hown (hb hby d_method_2_code_18) (host := "") (Or.inl (t54 hw)) eT (S_w_BILL_RATE.ext O) rfl ?_
      intro T X eT
      refine Run.retR X hx hlk hret (hb hby d_method_2_code_21) rfl rfl (by decide) (by decide) ?_
      try rw [eT]
      exact ⟨_, rfl, rfl, rfl, Or.inr ⟨_, rfl, E_w_BILL_RATE⟩⟩
  · refine q_ifNo (pc' := 11) X hx (hb hby d_method_2_code_8) hc8 rfl ?_
    refine q_null (pc' := 12) X hx (hb hby d_method_2_code_11) rfl ?_
    refine Run.retR X hx hlk hret (hb hby d_method_2_code_12) rfl rfl (by decide) (by decide) ?_
    try rw [eT]
    exact ⟨_, rfl, rfl, rfl, Or.inl rfl⟩
theorem pn_1 : plainName "java/util/Optional" = true := by first | (simp [plainName, overriddenIn]; done) | decide +kernel
theorem d_jdk_32_method_4_code_0 : decode jdk_32_method_4_code 0 = .ok (.aload_n 0, 1) := by decide +kernel
theorem d_jdk_32_method_4_code_1 : decode jdk_32_method_4_code 1 = .ok (.ifnonnull 9, 3) := by decide +kernel
theorem d_jdk_32_method_4_code_4 : decode jdk_32_method_4_code 4 = .ok (.getstatic 1, 3) := by decide +kernel
theorem d_jdk_32_method_4_code_7 : decode jdk_32_method_4_code 7 = .ok (.goto 11, 3) := by decide +kernel
theorem d_jdk_32_method_4_code_18 : decode jdk_32_method_4_code 18 = .ok (.areturn, 1) := by decide +kernel
theorem d_jdk_32_method_4_code_10 : decode jdk_32_method_4_code 10 = .ok (.new 2, 3) := by decide +kernel
theorem d_jdk_32_method_4_code_13 : decode jdk_32_method_4_code 13 = .ok (.dup, 1) := by decide +kernel
theorem d_jdk_32_method_4_code_14 : decode jdk_32_method_4_code 14 = .ok (.aload_n 0, 1) := by decide +kernel
theorem d_jdk_32_method_4_code_15 : decode jdk_32_method_4_code 15 = .ok (.invokespecial 23, 3) := by decide +kernel
theorem d_jdk_32_method_2_code_0 : decode jdk_32_method_2_code 0 = .ok (.aload_n 0, 1) := by decide +kernel
theorem d_jdk_32_method_2_code_1 : decode jdk_32_method_2_code 1 = .ok (.invokespecial 7, 3) := by decide +kernel
theorem d_jdk_32_method_2_code_4 : decode jdk_32_method_2_code 4 = .ok (.aload_n 0, 1) := by decide +kernel
theorem d_jdk_32_method_2_code_5 : decode jdk_32_method_2_code 5 = .ok (.aload_n 1, 1) := by decide +kernel
theorem d_jdk_32_method_2_code_6 : decode jdk_32_method_2_code 6 = .ok (.putfield 13, 3) := by decide +kernel
theorem d_jdk_32_method_2_code_9 : decode jdk_32_method_2_code 9 = .ok (.return_, 1) := by decide +kernel
set_option maxRecDepth 65536 in
set_option maxHeartbeats 40000000 in
theorem c1_init {l : Launch} {Z : State} {a0 : Array Value} (hw : ∀ d ∈ tables_1, d.before a0 Z = true) {w_LABOR : Addr} {w_BILL_RATE : Addr} {w_NONLABOR : Addr} {w_BURDEN : Addr} {w_EMPTY : Addr} (wd : World Z w_LABOR w_BILL_RATE w_NONLABOR w_BURDEN w_EMPTY)  {h0 : Heap} (O : Ext Z.heap h0) {o0 : Addr} {o1 : Addr} (E_o0 : Exa Z h0 o0 "java/util/Optional") (F_value_o0 : Fld Z h0 o0 "java/util/Optional" "value" "Ljava/lang/Object;" .null) (g_o0 : Z.heap.size ≤ o0) :
    Ctr l Z y1 jdk_32_method_2_code 2 none ({ frames := 1, cells := 0, slots := 0, locals := 12 } : Room) #[(.ref o0), (.ref o1)] h0 (fun v h L => v = none ∧ Fr Z.heap.size L ∧ Keep h0 h [o0] ∧ Exa Z h o0 "java/util/Optional" ∧ Fld Z h o0 "java/util/Optional" "value" "Ljava/lang/Object;" (.ref o1)) := by
  refine Ctr.body (plainFor_of_name pn_1) ?_
  intro p e s m below meth c T X hx hby hml hown hnm hret hlk hZ eT
  have hml : c.maxLocals = 2 := hml
  have hown : s.vm.findClass "java/util/Optional" = some m.cls := hown
  have hnm : meth.name = "<init>" := hnm
  have hret : meth.sig.returnType = none := hret
  refine Run.cast (show entryFrame m #[(.ref o0), (.ref o1)] 2 = mkF m 0 #[.val (.ref o0), .val (.ref o1)] [] from by first | (simp [entryFrame, mkF, argsToLocals, Value.category]; done) | rfl) ?_
  have wd0 := wd
  obtain ⟨S_w_LABOR, E_w_LABOR, S_w_BILL_RATE, E_w_BILL_RATE, S_w_NONLABOR, E_w_NONLABOR, S_w_BURDEN, E_w_BURDEN, S_w_EMPTY, E_w_EMPTY, F_ordinal_w_NONLABOR, F_ordinal_w_LABOR, F_value_w_EMPTY⟩ := wd
  have wd := wd0
  have N : Fr Z.heap.size [] := Fr.nil _
  have KK : Keep h0 h0 [o0] := Keep.refl h0 [o0]
  refine q_aloadN (pc' := 1) X hx (hb hby d_jdk_32_method_2_code_0) rfl rfl rfl ?_
  refine q_initO (pc' := 4) X hx hZ hown (hb hby d_jdk_32_method_2_code_1) (t63 hw) (t20 hw) (t21 hw) eT (by rw [hml]; rfl) (by decide) (W := 0) rfl (by decide) rfl ?_
  intro T X eT
  refine q_aloadN (pc' := 5) X hx (hb hby d_jdk_32_method_2_code_4) rfl rfl rfl ?_
  refine q_aloadN (pc' := 6) X hx (hb hby d_jdk_32_method_2_code_5) rfl rfl rfl ?_
  refine q_putF (pc' := 9) X hx hZ hown (hb hby d_jdk_32_method_2_code_6) (host := "") (Or.inl (t52 hw)) eT F_value_o0 E_o0 (Or.inr ⟨(t53 hw), rfl, hnm⟩) (t58 hw) (ty := (.object "java/lang/Object")) (by decide) rfl rfl rfl ?_
  intro T h_1 X eT Wx
  have N := Fr.snoc X N g_o0
  have O := ext_wr O Wx g_o0
  have KK := KK.wr Wx (Or.inl (List.mem_of_getElem? (i := 0) rfl))
  have E_o0 := E_o0.wr Wx
  have F_value_o0 := F_value_o0.same Wx
  refine Run.retV X hx hlk hret (hb hby d_jdk_32_method_2_code_9) (by decide) (by decide) ?_
  try rw [eT]
  exact ⟨rfl, N, KK, E_o0, F_value_o0⟩
theorem pd_0 : parseMethodDescriptor "(Ljava/lang/Object;)V" = some ⟨[(.object "java/lang/Object")], none⟩ := by decide +kernel
set_option maxRecDepth 65536 in
set_option maxHeartbeats 40000000 in
theorem own_ofNullable {l : Launch} {Z : State} {a0 : Array Value} (hw : ∀ d ∈ tables_1, d.before a0 Z = true) {w_LABOR : Addr} {w_BILL_RATE : Addr} {w_NONLABOR : Addr} {w_BURDEN : Addr} {w_EMPTY : Addr} (wd : World Z w_LABOR w_BILL_RATE w_NONLABOR w_BURDEN w_EMPTY) {h0 : Heap} (O : Ext Z.heap h0) {vv : Value} (hr_vv : vv.isRef = true) :
    Ctr l Z y2 jdk_32_method_4_code 1 (some (.object "java/util/Optional")) ({ frames := 2, cells := 1, slots := 1, locals := 26 } : Room) #[vv] h0 (fun v h L => ∃ r, v = some (.ref r) ∧ Fr Z.heap.size L ∧ Keep h0 h [] ∧ Exa Z h r "java/util/Optional" ∧ Fld Z h r "java/util/Optional" "value" "Ljava/lang/Object;" vv) := by
  refine Ctr.body (plainFor_of_name pn_1) ?_
  intro p e s m below meth c T X hx hby hml hown hnm hret hlk hZ eT
  have hml : c.maxLocals = 1 := hml
  have hown : s.vm.findClass "java/util/Optional" = some m.cls := hown
  have hnm : meth.name = "ofNullable" := hnm
  have hret : meth.sig.returnType = (some (.object "java/util/Optional")) := hret
  refine Run.cast (show entryFrame m #[vv] 1 = mkF m 0 #[.val vv] [] from by rcases ref_cases hr_vv with rfl | ⟨_, rfl⟩ <;> first | (simp [entryFrame, mkF, argsToLocals, Value.category]; done) | rfl) ?_
  have wd0 := wd
  obtain ⟨S_w_LABOR, E_w_LABOR, S_w_BILL_RATE, E_w_BILL_RATE, S_w_NONLABOR, E_w_NONLABOR, S_w_BURDEN, E_w_BURDEN, S_w_EMPTY, E_w_EMPTY, F_ordinal_w_NONLABOR, F_ordinal_w_LABOR, F_value_w_EMPTY⟩ := wd
  have wd := wd0
  have N : Fr Z.heap.size [] := Fr.nil _
  have KK : Keep h0 h0 [] := Keep.refl h0 []
  refine q_aloadN (pc' := 1) X hx (hb hby d_jdk_32_method_4_code_0) rfl hr_vv rfl ?_
  rcases ref_cases hr_vv with rfl | ⟨r1_0, rfl⟩
  · skip
    refine q_ifnonnullNo (pc' := 4) X hx (hb hby d_jdk_32_method_4_code_1) rfl ?_
    refine q_getS (pc' := 7) X hx hZ hown (hb hby d_jdk_32_method_4_code_4) (host := "") (Or.inl (t46 hw)) eT (S_w_EMPTY.ext O) rfl ?_
    intro T X eT
    refine q_goto (pc' := 18) X hx (hb hby d_jdk_32_method_4_code_7) (by decide) (by decide) ?_
    refine Run.retR X hx hlk hret (hb hby d_jdk_32_method_4_code_18) rfl rfl (by decide) (by decide) ?_
    try rw [eT]
    exact ⟨w_EMPTY, rfl, N, KK, (E_w_EMPTY.ext O), (F_value_w_EMPTY.ext O)⟩
  · skip
    refine q_ifnonnullYes (pc' := 10) X hx (hb hby d_jdk_32_method_4_code_1) (by decide) (by decide) ?_
    refine q_new (pc' := 13) X hx hZ hown (hb hby d_jdk_32_method_4_code_10) (t57 hw) (t58 hw) (t44 hw) eT (by decide) (by decide) rfl ?_
    intro T h_2 b10_1 X eT Ex gb Ax Dx
    have g_b10_1 : Z.heap.size ≤ b10_1 := Nat.le_trans O.1 (Nat.le_of_eq gb.symm)
    have sz_b10_1 : h0.size ≤ b10_1 := Nat.le_trans KK.1 (Nat.le_of_eq gb.symm)
    have KK := KK.ext Ex
    have O := ext_trans O Ex
    have E_b10_1 := Ax
    have F_value_b10_1 : Fld Z h_2 b10_1 "java/util/Optional" "value" "Ljava/lang/Object;" .null := Dx (Or.inr (t53 hw)) (ty := (.object "java/lang/Object")) (by decide)
    refine q_dup (pc' := 14) X hx (hb hby d_jdk_32_method_4_code_13) rfl rfl ?_
    refine q_aloadN (pc' := 15) X hx (hb hby d_jdk_32_method_4_code_14) rfl rfl rfl ?_
    refine q_callN (pc' := 18) (y := y1) (rest := [(.ref b10_1)]) (b := b10_1) X hx hZ hown (hb hby d_jdk_32_method_4_code_15) rfl (t59 hw) (t60 hw) (t44 hw) (t62 hw) (by decide) eT [(.ref r1_0)] (c1_init hw wd  O E_b10_1 F_value_b10_1 g_b10_1) (by rw [hml]; rfl) (lenOf pd_0 rfl) (W := 1) rfl (by decide) (by decide) (by decide) (by decide) rfl ?_
    rintro _ T _ X ⟨rfl, NL, KL, E_b10_1, F_value_b10_1⟩
    have N := N.app NL
    obtain ⟨h_4, eT⟩ : ∃ z, T.heap = z := ⟨_, rfl⟩
    rw [eT] at KL E_b10_1 F_value_b10_1
    have O := ext_keep O KL (allS g_b10_1 all0)
    have KK := KK.trans KL (allS (Or.inr sz_b10_1) all0)
    show Run p e below _ (T.setTop (mkF m 18 _ [(.ref b10_1)]))
    refine Run.retR X hx hlk hret (hb hby d_jdk_32_method_4_code_18) rfl rfl (by decide) (by decide) ?_
    try rw [eT]
    exact ⟨b10_1, rfl, N, KK, E_b10_1, F_value_b10_1⟩
theorem d_jdk_32_method_15_code_0 : decode jdk_32_method_15_code 0 = .ok (.aload_n 0, 1) := by decide +kernel
theorem d_jdk_32_method_15_code_1 : decode jdk_32_method_15_code 1 = .ok (.getfield 13, 3) := by decide +kernel
theorem d_jdk_32_method_15_code_4 : decode jdk_32_method_15_code 4 = .ok (.ifnull 10, 3) := by decide +kernel
theorem d_jdk_32_method_15_code_14 : decode jdk_32_method_15_code 14 = .ok (.aload_n 1, 1) := by decide +kernel
theorem d_jdk_32_method_15_code_15 : decode jdk_32_method_15_code 15 = .ok (.areturn, 1) := by decide +kernel
theorem d_jdk_32_method_15_code_7 : decode jdk_32_method_15_code 7 = .ok (.aload_n 0, 1) := by decide +kernel
theorem d_jdk_32_method_15_code_8 : decode jdk_32_method_15_code 8 = .ok (.getfield 13, 3) := by decide +kernel
theorem d_jdk_32_method_15_code_11 : decode jdk_32_method_15_code 11 = .ok (.goto 4, 3) := by decide +kernel
set_option maxRecDepth 65536 in
set_option maxHeartbeats 40000000 in
theorem own_orElse {l : Launch} {Z : State} {a0 : Array Value} (hw : ∀ d ∈ tables_1, d.before a0 Z = true) {w_LABOR : Addr} {w_BILL_RATE : Addr} {w_NONLABOR : Addr} {w_BURDEN : Addr} {w_EMPTY : Addr} (wd : World Z w_LABOR w_BILL_RATE w_NONLABOR w_BURDEN w_EMPTY) {h0 : Heap} (O : Ext Z.heap h0) {o : Addr} {vv : Value} (hr_vv : vv.isRef = true) (F_value_o : Fld Z h0 o "java/util/Optional" "value" "Ljava/lang/Object;" vv) :
    Ctr l Z y3 jdk_32_method_15_code 2 (some (.object "java/lang/Object")) ({ frames := 0, cells := 0, slots := 0, locals := 0 } : Room) #[(.ref o), .null] h0 (fun v h L => v = some vv ∧ L = [] ∧ h = h0) := by
  refine Ctr.body (plainFor_of_name pn_1) ?_
  intro p e s m below meth c T X hx hby hml hown hnm hret hlk hZ eT
  have hml : c.maxLocals = 2 := hml
  have hown : s.vm.findClass "java/util/Optional" = some m.cls := hown
  have hnm : meth.name = "orElse" := hnm
  have hret : meth.sig.returnType = (some (.object "java/lang/Object")) := hret
  refine Run.cast (show entryFrame m #[(.ref o), .null] 2 = mkF m 0 #[.val (.ref o), .val .null] [] from by first | (simp [entryFrame, mkF, argsToLocals, Value.category]; done) | rfl) ?_
  have wd0 := wd
  obtain ⟨S_w_LABOR, E_w_LABOR, S_w_BILL_RATE, E_w_BILL_RATE, S_w_NONLABOR, E_w_NONLABOR, S_w_BURDEN, E_w_BURDEN, S_w_EMPTY, E_w_EMPTY, F_ordinal_w_NONLABOR, F_ordinal_w_LABOR, F_value_w_EMPTY⟩ := wd
  have wd := wd0
  have N : Fr Z.heap.size [] := Fr.nil _
  have KK : Keep h0 h0 [] := Keep.refl h0 []
  refine q_aloadN (pc' := 1) X hx (hb hby d_jdk_32_method_15_code_0) rfl rfl rfl ?_
  refine q_getF (pc' := 4) X hx hZ hown (hb hby d_jdk_32_method_15_code_1) (host := "") (Or.inl (t52 hw)) eT F_value_o rfl ?_
  intro T X eT
  rcases ref_cases hr_vv with rfl | ⟨r4_0, rfl⟩
  · skip
    refine q_ifnullYes (pc' := 14) X hx (hb hby d_jdk_32_method_15_code_4) (by decide) (by decide) ?_
    refine q_aloadN (pc' := 15) X hx (hb hby d_jdk_32_method_15_code_14) rfl rfl rfl ?_
    refine Run.retR X hx hlk hret (hb hby d_jdk_32_method_15_code_15) rfl rfl (by decide) (by decide) ?_
    try rw [eT]
    exact ⟨rfl, rfl, rfl⟩
  · skip
    refine q_ifnullNo (pc' := 7) X hx (hb hby d_jdk_32_method_15_code_4) rfl ?_
    refine q_aloadN (pc' := 8) X hx (hb hby d_jdk_32_method_15_code_7) rfl rfl rfl ?_
    refine q_getF (pc' := 11) X hx hZ hown (hb hby d_jdk_32_method_15_code_8) (host := "") (Or.inl (t52 hw)) eT F_value_o rfl ?_
    intro T X eT
    refine q_goto (pc' := 15) X hx (hb hby d_jdk_32_method_15_code_11) (by decide) (by decide) ?_
    refine Run.retR X hx hlk hret (hb hby d_jdk_32_method_15_code_15) rfl rfl (by decide) (by decide) ?_
    try rw [eT]
    exact ⟨rfl, rfl, rfl⟩
theorem pd_1 : parseMethodDescriptor "(I)Lcom/example/tallystone/tallystone/model/RateSchedule;" = some ⟨[.int], some (.object "com/example/tallystone/tallystone/model/RateSchedule")⟩ := by decide +kernel
theorem pn_2 : plainName "com/example/tallystone/tallystone/model/RevenuePlan" = true := by first | (simp [plainName, overriddenIn]; done) | decide +kernel
theorem d_prog_65_method_1_code_0 : decode prog_65_method_1_code 0 = .ok (.aload_n 0, 1) := by decide +kernel
theorem d_prog_65_method_1_code_1 : decode prog_65_method_1_code 1 = .ok (.invokespecial 1, 3) := by decide +kernel
theorem pn_3 : plainName "java/lang/Record" = true := by first | (simp [plainName, overriddenIn]; done) | decide +kernel
theorem d_jdk_30_method_1_code_0 : decode jdk_30_method_1_code 0 = .ok (.aload_n 0, 1) := by decide +kernel
theorem d_jdk_30_method_1_code_1 : decode jdk_30_method_1_code 1 = .ok (.invokespecial 1, 3) := by decide +kernel
theorem d_jdk_30_method_1_code_4 : decode jdk_30_method_1_code 4 = .ok (.return_, 1) := by decide +kernel
set_option maxRecDepth 65536 in
set_option maxHeartbeats 40000000 in
theorem c3_init {l : Launch} {Z : State} {a0 : Array Value} (hw : ∀ d ∈ tables_1, d.before a0 Z = true) {w_LABOR : Addr} {w_BILL_RATE : Addr} {w_NONLABOR : Addr} {w_BURDEN : Addr} {w_EMPTY : Addr} (wd : World Z w_LABOR w_BILL_RATE w_NONLABOR w_BURDEN w_EMPTY)  {h0 : Heap} (O : Ext Z.heap h0) {o0 : Addr} (E_o0 : Exa Z h0 o0 "com/example/tallystone/tallystone/model/RevenuePlan") (F_id_o0 : Fld Z h0 o0 "com/example/tallystone/tallystone/model/RevenuePlan" "id" "Ljava/lang/String;" .null) (F_method_o0 : Fld Z h0 o0 "com/example/tallystone/tallystone/model/RevenuePlan" "method" "Lcom/example/tallystone/tallystone/model/RevenueMethod;" .null) (F_laborSchedule_o0 : Fld Z h0 o0 "com/example/tallystone/tallystone/model/RevenuePlan" "laborSchedule" "Lcom/example/tallystone/tallystone/model/RateSchedule;" .null) (F_nonlaborSchedule_o0 : Fld Z h0 o0 "com/example/tallystone/tallystone/model/RevenuePlan" "nonlaborSchedule" "Lcom/example/tallystone/tallystone/model/RateSchedule;" .null) (F_onHold_o0 : Fld Z h0 o0 "com/example/tallystone/tallystone/model/RevenuePlan" "onHold" "Z" (.int (0 : Int32))) (F_calculationLevel_o0 : Fld Z h0 o0 "com/example/tallystone/tallystone/model/RevenuePlan" "calculationLevel" "Lcom/example/tallystone/tallystone/model/CalculationLevel;" .null) (F_progressBasis_o0 : Fld Z h0 o0 "com/example/tallystone/tallystone/model/RevenuePlan" "progressBasis" "Lcom/example/tallystone/tallystone/model/ProgressBasis;" .null) :
    Ctr l Z y4 jdk_30_method_1_code 1 none ({ frames := 1, cells := 0, slots := 0, locals := 12 } : Room) #[(.ref o0)] h0 (fun v h L => v = none ∧ L = [] ∧ h = h0) := by
  refine Ctr.body (plainFor_of_name pn_3) ?_
  intro p e s m below meth c T X hx hby hml hown hnm hret hlk hZ eT
  have hml : c.maxLocals = 1 := hml
  have hown : s.vm.findClass "java/lang/Record" = some m.cls := hown
  have hnm : meth.name = "<init>" := hnm
  have hret : meth.sig.returnType = none := hret
  refine Run.cast (show entryFrame m #[(.ref o0)] 1 = mkF m 0 #[.val (.ref o0)] [] from by first | (simp [entryFrame, mkF, argsToLocals, Value.category]; done) | rfl) ?_
  have wd0 := wd
  obtain ⟨S_w_LABOR, E_w_LABOR, S_w_BILL_RATE, E_w_BILL_RATE, S_w_NONLABOR, E_w_NONLABOR, S_w_BURDEN, E_w_BURDEN, S_w_EMPTY, E_w_EMPTY, F_ordinal_w_NONLABOR, F_ordinal_w_LABOR, F_value_w_EMPTY⟩ := wd
  have wd := wd0
  have N : Fr Z.heap.size [] := Fr.nil _
  have KK : Keep h0 h0 [] := Keep.refl h0 []
  refine q_aloadN (pc' := 1) X hx (hb hby d_jdk_30_method_1_code_0) rfl rfl rfl ?_
  refine q_initO (pc' := 4) X hx hZ hown (hb hby d_jdk_30_method_1_code_1) (t19 hw) (t20 hw) (t21 hw) eT (by rw [hml]; rfl) (by decide) (W := 0) rfl (by decide) rfl ?_
  intro T X eT
  refine Run.retV X hx hlk hret (hb hby d_jdk_30_method_1_code_4) (by decide) (by decide) ?_
  try rw [eT]
  exact ⟨rfl, rfl, rfl⟩
theorem pd_2 : parseMethodDescriptor "()V" = some ⟨[], none⟩ := by decide +kernel
theorem d_prog_65_method_1_code_4 : decode prog_65_method_1_code 4 = .ok (.aload_n 0, 1) := by decide +kernel
theorem d_prog_65_method_1_code_5 : decode prog_65_method_1_code 5 = .ok (.aload_n 1, 1) := by decide +kernel
theorem d_prog_65_method_1_code_6 : decode prog_65_method_1_code 6 = .ok (.putfield 7, 3) := by decide +kernel
theorem d_prog_65_method_1_code_9 : decode prog_65_method_1_code 9 = .ok (.aload_n 0, 1) := by decide +kernel
theorem d_prog_65_method_1_code_10 : decode prog_65_method_1_code 10 = .ok (.aload_n 2, 1) := by decide +kernel
theorem d_prog_65_method_1_code_11 : decode prog_65_method_1_code 11 = .ok (.putfield 13, 3) := by decide +kernel
theorem d_prog_65_method_1_code_14 : decode prog_65_method_1_code 14 = .ok (.aload_n 0, 1) := by decide +kernel
theorem d_prog_65_method_1_code_15 : decode prog_65_method_1_code 15 = .ok (.aload_n 3, 1) := by decide +kernel
theorem d_prog_65_method_1_code_16 : decode prog_65_method_1_code 16 = .ok (.putfield 17, 3) := by decide +kernel
theorem d_prog_65_method_1_code_19 : decode prog_65_method_1_code 19 = .ok (.aload_n 0, 1) := by decide +kernel
theorem d_prog_65_method_1_code_20 : decode prog_65_method_1_code 20 = .ok (.aload 4, 2) := by decide +kernel
theorem d_prog_65_method_1_code_22 : decode prog_65_method_1_code 22 = .ok (.putfield 21, 3) := by decide +kernel
theorem d_prog_65_method_1_code_25 : decode prog_65_method_1_code 25 = .ok (.aload_n 0, 1) := by decide +kernel
theorem d_prog_65_method_1_code_26 : decode prog_65_method_1_code 26 = .ok (.iload 5, 2) := by decide +kernel
theorem d_prog_65_method_1_code_28 : decode prog_65_method_1_code 28 = .ok (.putfield 24, 3) := by decide +kernel
theorem d_prog_65_method_1_code_31 : decode prog_65_method_1_code 31 = .ok (.aload_n 0, 1) := by decide +kernel
theorem d_prog_65_method_1_code_32 : decode prog_65_method_1_code 32 = .ok (.aload 6, 2) := by decide +kernel
theorem d_prog_65_method_1_code_34 : decode prog_65_method_1_code 34 = .ok (.putfield 28, 3) := by decide +kernel
theorem d_prog_65_method_1_code_37 : decode prog_65_method_1_code 37 = .ok (.aload_n 0, 1) := by decide +kernel
theorem d_prog_65_method_1_code_38 : decode prog_65_method_1_code 38 = .ok (.aload 7, 2) := by decide +kernel
theorem d_prog_65_method_1_code_40 : decode prog_65_method_1_code 40 = .ok (.putfield 32, 3) := by decide +kernel
theorem d_prog_65_method_1_code_43 : decode prog_65_method_1_code 43 = .ok (.return_, 1) := by decide +kernel
set_option maxRecDepth 65536 in
set_option maxHeartbeats 40000000 in
theorem c2_init {l : Launch} {Z : State} {a0 : Array Value} (hw : ∀ d ∈ tables_1, d.before a0 Z = true) {w_LABOR : Addr} {w_BILL_RATE : Addr} {w_NONLABOR : Addr} {w_BURDEN : Addr} {w_EMPTY : Addr} (wd : World Z w_LABOR w_BILL_RATE w_NONLABOR w_BURDEN w_EMPTY)  {h0 : Heap} (O : Ext Z.heap h0) {o0 : Addr} {o1 : Value} {o2 : Value} (hr_o2 : o2.isRef = true) (hr_o1 : o1.isRef = true) (B_o1 : OldV Z o1 "com/example/tallystone/tallystone/model/RateSchedule") (B_o2 : OldV Z o2 "com/example/tallystone/tallystone/model/RateSchedule") (E_o0 : Exa Z h0 o0 "com/example/tallystone/tallystone/model/RevenuePlan") (F_id_o0 : Fld Z h0 o0 "com/example/tallystone/tallystone/model/RevenuePlan" "id" "Ljava/lang/String;" .null) (F_method_o0 : Fld Z h0 o0 "com/example/tallystone/tallystone/model/RevenuePlan" "method" "Lcom/example/tallystone/tallystone/model/RevenueMethod;" .null) (F_laborSchedule_o0 : Fld Z h0 o0 "com/example/tallystone/tallystone/model/RevenuePlan" "laborSchedule" "Lcom/example/tallystone/tallystone/model/RateSchedule;" .null) (F_nonlaborSchedule_o0 : Fld Z h0 o0 "com/example/tallystone/tallystone/model/RevenuePlan" "nonlaborSchedule" "Lcom/example/tallystone/tallystone/model/RateSchedule;" .null) (F_onHold_o0 : Fld Z h0 o0 "com/example/tallystone/tallystone/model/RevenuePlan" "onHold" "Z" (.int (0 : Int32))) (F_calculationLevel_o0 : Fld Z h0 o0 "com/example/tallystone/tallystone/model/RevenuePlan" "calculationLevel" "Lcom/example/tallystone/tallystone/model/CalculationLevel;" .null) (F_progressBasis_o0 : Fld Z h0 o0 "com/example/tallystone/tallystone/model/RevenuePlan" "progressBasis" "Lcom/example/tallystone/tallystone/model/ProgressBasis;" .null) (g_o0 : Z.heap.size ≤ o0) :
    Ctr l Z y5 prog_65_method_1_code 8 none ({ frames := 2, cells := 0, slots := 0, locals := 24 } : Room) #[(.ref o0), .null, .null, o1, o2, (.int (0 : Int32)), .null, .null] h0 (fun v h L => v = none ∧ Fr Z.heap.size L ∧ Keep h0 h [o0] ∧ Exa Z h o0 "com/example/tallystone/tallystone/model/RevenuePlan" ∧ Fld Z h o0 "com/example/tallystone/tallystone/model/RevenuePlan" "id" "Ljava/lang/String;" .null ∧ Fld Z h o0 "com/example/tallystone/tallystone/model/RevenuePlan" "method" "Lcom/example/tallystone/tallystone/model/RevenueMethod;" .null ∧ Fld Z h o0 "com/example/tallystone/tallystone/model/RevenuePlan" "laborSchedule" "Lcom/example/tallystone/tallystone/model/RateSchedule;" o1 ∧ Fld Z h o0 "com/example/tallystone/tallystone/model/RevenuePlan" "nonlaborSchedule" "Lcom/example/tallystone/tallystone/model/RateSchedule;" o2 ∧ Fld Z h o0 "com/example/tallystone/tallystone/model/RevenuePlan" "onHold" "Z" (.int (0 : Int32)) ∧ Fld Z h o0 "com/example/tallystone/tallystone/model/RevenuePlan" "calculationLevel" "Lcom/example/tallystone/tallystone/model/CalculationLevel;" .null ∧ Fld Z h o0 "com/example/tallystone/tallystone/model/RevenuePlan" "progressBasis" "Lcom/example/tallystone/tallystone/model/ProgressBasis;" .null) := by
  refine Ctr.body (plainFor_of_name pn_2) ?_
  intro p e s m below meth c T X hx hby hml hown hnm hret hlk hZ eT
  have hml : c.maxLocals = 8 := hml
  have hown : s.vm.findClass "com/example/tallystone/tallystone/model/RevenuePlan" = some m.cls := hown
  have hnm : meth.name = "<init>" := hnm
  have hret : meth.sig.returnType = none := hret
  refine Run.cast (show entryFrame m #[(.ref o0), .null, .null, o1, o2, (.int (0 : Int32)), .null, .null] 8 = mkF m 0 #[.val (.ref o0), .val .null, .val .null, .val o1, .val o2, .val (.int (0 : Int32)), .val .null, .val .null] [] from by rcases ref_cases hr_o1 with rfl | ⟨_, rfl⟩ <;> rcases ref_cases hr_o2 with rfl | ⟨_, rfl⟩ <;> first | (simp [entryFrame, mkF, argsToLocals, Value.category]; done) | rfl) ?_
  have wd0 := wd
  obtain ⟨S_w_LABOR, E_w_LABOR, S_w_BILL_RATE, E_w_BILL_RATE, S_w_NONLABOR, E_w_NONLABOR, S_w_BURDEN, E_w_BURDEN, S_w_EMPTY, E_w_EMPTY, F_ordinal_w_NONLABOR, F_ordinal_w_LABOR, F_value_w_EMPTY⟩ := wd
  have wd := wd0
  have N : Fr Z.heap.size [] := Fr.nil _
  have KK : Keep h0 h0 [o0] := Keep.refl h0 [o0]
  refine q_aloadN (pc' := 1) X hx (hb hby d_prog_65_method_1_code_0) rfl rfl rfl ?_
  refine q_callN (pc' := 4) (y := y4) (rest := []) (b := o0) X hx hZ hown (hb hby d_prog_65_method_1_code_1) rfl (t14 hw) (t15 hw) (t17 hw) (t18 hw) (by decide) eT [] (c3_init hw wd  O E_o0 F_id_o0 F_method_o0 F_laborSchedule_o0 F_nonlaborSchedule_o0 F_onHold_o0 F_calculationLevel_o0 F_progressBasis_o0) (by rw [hml]; rfl) (lenOf pd_2 rfl) (W := 0) rfl (by decide) (by decide) (by decide) (by decide) rfl ?_
  rintro _ T _ X ⟨rfl, rfl, eT⟩
  rw [List.append_nil] at X
  show Run p e below _ (T.setTop (mkF m 4 _ []))
  refine q_aloadN (pc' := 5) X hx (hb hby d_prog_65_method_1_code_4) rfl rfl rfl ?_
  refine q_aloadN (pc' := 6) X hx (hb hby d_prog_65_method_1_code_5) rfl rfl rfl ?_
  refine q_putF (pc' := 9) X hx hZ hown (hb hby d_prog_65_method_1_code_6) (host := "") (Or.inl (t22 hw)) eT F_id_o0 E_o0 (Or.inr ⟨(t23 hw), rfl, hnm⟩) (t9 hw) (ty := (.object "java/lang/String")) (by decide) rfl rfl rfl ?_
  intro T h_1 X eT Wx
  have N := Fr.snoc X N g_o0
  have O := ext_wr O Wx g_o0
  have KK := KK.wr Wx (Or.inl (List.mem_of_getElem? (i := 0) rfl))
  have E_o0 := E_o0.wr Wx
  have F_id_o0 := F_id_o0.same Wx
  have F_method_o0 := F_method_o0.other Wx (Or.inr (slot_ne (Or.inr (t25 hw)) (Or.inr (t23 hw)) (by decide) (t := (.object "com/example/tallystone/tallystone/model/RevenueMethod")) (t' := (.object "java/lang/String")) (by decide) (by decide)))
  have F_laborSchedule_o0 := F_laborSchedule_o0.other Wx (Or.inr (slot_ne (Or.inr (t27 hw)) (Or.inr (t23 hw)) (by decide) (t := (.object "com/example/tallystone/tallystone/model/RateSchedule")) (t' := (.object "java/lang/String")) (by decide) (by decide)))
  have F_nonlaborSchedule_o0 := F_nonlaborSchedule_o0.other Wx (Or.inr (slot_ne (Or.inr (t29 hw)) (Or.inr (t23 hw)) (by decide) (t := (.object "com/example/tallystone/tallystone/model/RateSchedule")) (t' := (.object "java/lang/String")) (by decide) (by decide)))
  have F_onHold_o0 := F_onHold_o0.other Wx (Or.inr (slot_ne (Or.inr (t31 hw)) (Or.inr (t23 hw)) (by decide) (t := .boolean) (t' := (.object "java/lang/String")) (by decide) (by decide)))
  have F_calculationLevel_o0 := F_calculationLevel_o0.other Wx (Or.inr (slot_ne (Or.inr (t33 hw)) (Or.inr (t23 hw)) (by decide) (t := (.object "com/example/tallystone/tallystone/model/CalculationLevel")) (t' := (.object "java/lang/String")) (by decide) (by decide)))
  have F_progressBasis_o0 := F_progressBasis_o0.other Wx (Or.inr (slot_ne (Or.inr (t35 hw)) (Or.inr (t23 hw)) (by decide) (t := (.object "com/example/tallystone/tallystone/model/ProgressBasis")) (t' := (.object "java/lang/String")) (by decide) (by decide)))
  refine q_aloadN (pc' := 10) X hx (hb hby d_prog_65_method_1_code_9) rfl rfl rfl ?_
  refine q_aloadN (pc' := 11) X hx (hb hby d_prog_65_method_1_code_10) rfl rfl rfl ?_
  refine q_putF (pc' := 14) X hx hZ hown (hb hby d_prog_65_method_1_code_11) (host := "") (Or.inl (t24 hw)) eT F_method_o0 E_o0 (Or.inr ⟨(t25 hw), rfl, hnm⟩) (t9 hw) (ty := (.object "com/example/tallystone/tallystone/model/RevenueMethod")) (by decide) rfl rfl rfl ?_
  intro T h_2 X eT Wx
  have N := Fr.snoc X N g_o0
  have O := ext_wr O Wx g_o0
  have KK := KK.wr Wx (Or.inl (List.mem_of_getElem? (i := 0) rfl))
  have E_o0 := E_o0.wr Wx
  have F_id_o0 := F_id_o0.other Wx (Or.inr (slot_ne (Or.inr (t23 hw)) (Or.inr (t25 hw)) (by decide) (t := (.object "java/lang/String")) (t' := (.object "com/example/tallystone/tallystone/model/RevenueMethod")) (by decide) (by decide)))
  have F_method_o0 := F_method_o0.same Wx
  have F_laborSchedule_o0 := F_laborSchedule_o0.other Wx (Or.inr (slot_ne (Or.inr (t27 hw)) (Or.inr (t25 hw)) (by decide) (t := (.object "com/example/tallystone/tallystone/model/RateSchedule")) (t' := (.object "com/example/tallystone/tallystone/model/RevenueMethod")) (by decide) (by decide)))
  have F_nonlaborSchedule_o0 := F_nonlaborSchedule_o0.other Wx (Or.inr (slot_ne (Or.inr (t29 hw)) (Or.inr (t25 hw)) (by decide) (t := (.object "com/example/tallystone/tallystone/model/RateSchedule")) (t' := (.object "com/example/tallystone/tallystone/model/RevenueMethod")) (by decide) (by decide)))
  have F_onHold_o0 := F_onHold_o0.other Wx (Or.inr (slot_ne (Or.inr (t31 hw)) (Or.inr (t25 hw)) (by decide) (t := .boolean) (t' := (.object "com/example/tallystone/tallystone/model/RevenueMethod")) (by decide) (by decide)))
  have F_calculationLevel_o0 := F_calculationLevel_o0.other Wx (Or.inr (slot_ne (Or.inr (t33 hw)) (Or.inr (t25 hw)) (by decide) (t := (.object "com/example/tallystone/tallystone/model/CalculationLevel")) (t' := (.object "com/example/tallystone/tallystone/model/RevenueMethod")) (by decide) (by decide)))
  have F_progressBasis_o0 := F_progressBasis_o0.other Wx (Or.inr (slot_ne (Or.inr (t35 hw)) (Or.inr (t25 hw)) (by decide) (t := (.object "com/example/tallystone/tallystone/model/ProgressBasis")) (t' := (.object "com/example/tallystone/tallystone/model/RevenueMethod")) (by decide) (by decide)))
  refine q_aloadN (pc' := 15) X hx (hb hby d_prog_65_method_1_code_14) rfl rfl rfl ?_
  refine q_aloadN (pc' := 16) X hx (hb hby d_prog_65_method_1_code_15) rfl hr_o1 rfl ?_
  refine q_putF (pc' := 19) X hx hZ hown (hb hby d_prog_65_method_1_code_16) (host := "") (Or.inl (t26 hw)) eT F_laborSchedule_o0 E_o0 (Or.inr ⟨(t27 hw), rfl, hnm⟩) (t9 hw) (ty := (.object "com/example/tallystone/tallystone/model/RateSchedule")) (by decide) (Jvm.OwnKit.narrow_ref hr_o1) (fits_isRef rfl hr_o1) rfl ?_
  intro T h_3 X eT Wx
  have N := Fr.snoc X N g_o0
  have O := ext_wr O Wx g_o0
  have KK := KK.wr Wx (Or.inl (List.mem_of_getElem? (i := 0) rfl))
  have E_o0 := E_o0.wr Wx
  have F_id_o0 := F_id_o0.other Wx (Or.inr (slot_ne (Or.inr (t23 hw)) (Or.inr (t27 hw)) (by decide) (t := (.object "java/lang/String")) (t' := (.object "com/example/tallystone/tallystone/model/RateSchedule")) (by decide) (by decide)))
  have F_method_o0 := F_method_o0.other Wx (Or.inr (slot_ne (Or.inr (t25 hw)) (Or.inr (t27 hw)) (by decide) (t := (.object "com/example/tallystone/tallystone/model/RevenueMethod")) (t' := (.object "com/example/tallystone/tallystone/model/RateSchedule")) (by decide) (by decide)))
  have F_laborSchedule_o0 := F_laborSchedule_o0.same Wx
  have F_nonlaborSchedule_o0 := F_nonlaborSchedule_o0.other Wx (Or.inr (slot_ne (Or.inr (t29 hw)) (Or.inr (t27 hw)) (by decide) (t := (.object "com/example/tallystone/tallystone/model/RateSchedule")) (t' := (.object "com/example/tallystone/tallystone/model/RateSchedule")) (by decide) (by decide)))
  have F_onHold_o0 := F_onHold_o0.other Wx (Or.inr (slot_ne (Or.inr (t31 hw)) (Or.inr (t27 hw)) (by decide) (t := .boolean) (t' := (.object "com/example/tallystone/tallystone/model/RateSchedule")) (by decide) (by decide)))
  have F_calculationLevel_o0 := F_calculationLevel_o0.other Wx (Or.inr (slot_ne (Or.inr (t33 hw)) (Or.inr (t27 hw)) (by decide) (t := (.object "com/example/tallystone/tallystone/model/CalculationLevel")) (t' := (.object "com/example/tallystone/tallystone/model/RateSchedule")) (by decide) (by decide)))
  have F_progressBasis_o0 := F_progressBasis_o0.other Wx (Or.inr (slot_ne (Or.inr (t35 hw)) (Or.inr (t27 hw)) (by decide) (t := (.object "com/example/tallystone/tallystone/model/ProgressBasis")) (t' := (.object "com/example/tallystone/tallystone/model/RateSchedule")) (by decide) (by decide)))
  refine q_aloadN (pc' := 20) X hx (hb hby d_prog_65_method_1_code_19) rfl rfl rfl ?_
  refine q_aload (pc' := 22) X hx (hb hby d_prog_65_method_1_code_20) rfl hr_o2 rfl ?_
  refine q_putF (pc' := 25) X hx hZ hown (hb hby d_prog_65_method_1_code_22) (host := "") (Or.inl (t28 hw)) eT F_nonlaborSchedule_o0 E_o0 (Or.inr ⟨(t29 hw), rfl, hnm⟩) (t9 hw) (ty := (.object "com/example/tallystone/tallystone/model/RateSchedule")) (by decide) (Jvm.OwnKit.narrow_ref hr_o2) (fits_isRef rfl hr_o2) rfl ?_
  intro T h_4 X eT Wx
  have N := Fr.snoc X N g_o0
  have O := ext_wr O Wx g_o0
  have KK := KK.wr Wx (Or.inl (List.mem_of_getElem? (i := 0) rfl))
  have E_o0 := E_o0.wr Wx
  have F_id_o0 := F_id_o0.other Wx (Or.inr (slot_ne (Or.inr (t23 hw)) (Or.inr (t29 hw)) (by decide) (t := (.object "java/lang/String")) (t' := (.object "com/example/tallystone/tallystone/model/RateSchedule")) (by decide) (by decide)))
  have F_method_o0 := F_method_o0.other Wx (Or.inr (slot_ne (Or.inr (t25 hw)) (Or.inr (t29 hw)) (by decide) (t := (.object "com/example/tallystone/tallystone/model/RevenueMethod")) (t' := (.object "com/example/tallystone/tallystone/model/RateSchedule")) (by decide) (by decide)))
  have F_laborSchedule_o0 := F_laborSchedule_o0.other Wx (Or.inr (slot_ne (Or.inr (t27 hw)) (Or.inr (t29 hw)) (by decide) (t := (.object "com/example/tallystone/tallystone/model/RateSchedule")) (t' := (.object "com/example/tallystone/tallystone/model/RateSchedule")) (by decide) (by decide)))
  have F_nonlaborSchedule_o0 := F_nonlaborSchedule_o0.same Wx
  have F_onHold_o0 := F_onHold_o0.other Wx (Or.inr (slot_ne (Or.inr (t31 hw)) (Or.inr (t29 hw)) (by decide) (t := .boolean) (t' := (.object "com/example/tallystone/tallystone/model/RateSchedule")) (by decide) (by decide)))
  have F_calculationLevel_o0 := F_calculationLevel_o0.other Wx (Or.inr (slot_ne (Or.inr (t33 hw)) (Or.inr (t29 hw)) (by decide) (t := (.object "com/example/tallystone/tallystone/model/CalculationLevel")) (t' := (.object "com/example/tallystone/tallystone/model/RateSchedule")) (by decide) (by decide)))
  have F_progressBasis_o0 := F_progressBasis_o0.other Wx (Or.inr (slot_ne (Or.inr (t35 hw)) (Or.inr (t29 hw)) (by decide) (t := (.object "com/example/tallystone/tallystone/model/ProgressBasis")) (t' := (.object "com/example/tallystone/tallystone/model/RateSchedule")) (by decide) (by decide)))
  refine q_aloadN (pc' := 26) X hx (hb hby d_prog_65_method_1_code_25) rfl rfl rfl ?_
  refine q_iload (pc' := 28) X hx (hb hby d_prog_65_method_1_code_26) rfl rfl ?_
  refine q_putFN (pc' := 31) (v' := (.int (0 : Int32))) X hx hZ hown (hb hby d_prog_65_method_1_code_28) (t30 hw) eT F_onHold_o0 E_o0 (Or.inr ⟨(t31 hw), rfl, hnm⟩) (t9 hw) (ty := .boolean) (by decide) rfl rfl rfl ?_
  intro T h_5 X eT Wx
  have N := Fr.snoc X N g_o0
  have O := ext_wr O Wx g_o0
  have KK := KK.wr Wx (Or.inl (List.mem_of_getElem? (i := 0) rfl))
  have E_o0 := E_o0.wr Wx
  have F_id_o0 := F_id_o0.other Wx (Or.inr (slot_ne (Or.inr (t23 hw)) (Or.inr (t31 hw)) (by decide) (t := (.object "java/lang/String")) (t' := .boolean) (by decide) (by decide)))
  have F_method_o0 := F_method_o0.other Wx (Or.inr (slot_ne (Or.inr (t25 hw)) (Or.inr (t31 hw)) (by decide) (t := (.object "com/example/tallystone/tallystone/model/RevenueMethod")) (t' := .boolean) (by decide) (by decide)))
  have F_laborSchedule_o0 := F_laborSchedule_o0.other Wx (Or.inr (slot_ne (Or.inr (t27 hw)) (Or.inr (t31 hw)) (by decide) (t := (.object "com/example/tallystone/tallystone/model/RateSchedule")) (t' := .boolean) (by decide) (by decide)))
  have F_nonlaborSchedule_o0 := F_nonlaborSchedule_o0.other Wx (Or.inr (slot_ne (Or.inr (t29 hw)) (Or.inr (t31 hw)) (by decide) (t := (.object "com/example/tallystone/tallystone/model/RateSchedule")) (t' := .boolean) (by decide) (by decide)))
  have F_onHold_o0 := F_onHold_o0.same Wx
  have F_calculationLevel_o0 := F_calculationLevel_o0.other Wx (Or.inr (slot_ne (Or.inr (t33 hw)) (Or.inr (t31 hw)) (by decide) (t := (.object "com/example/tallystone/tallystone/model/CalculationLevel")) (t' := .boolean) (by decide) (by decide)))
  have F_progressBasis_o0 := F_progressBasis_o0.other Wx (Or.inr (slot_ne (Or.inr (t35 hw)) (Or.inr (t31 hw)) (by decide) (t := (.object "com/example/tallystone/tallystone/model/ProgressBasis")) (t' := .boolean) (by decide) (by decide)))
  refine q_aloadN (pc' := 32) X hx (hb hby d_prog_65_method_1_code_31) rfl rfl rfl ?_
  refine q_aload (pc' := 34) X hx (hb hby d_prog_65_method_1_code_32) rfl rfl rfl ?_
  refine q_putF (pc' := 37) X hx hZ hown (hb hby d_prog_65_method_1_code_34) (host := "") (Or.inl (t32 hw)) eT F_calculationLevel_o0 E_o0 (Or.inr ⟨(t33 hw), rfl, hnm⟩) (t9 hw) (ty := (.object "com/example/tallystone/tallystone/model/CalculationLevel")) (by decide) rfl rfl rfl ?_
  intro T h_6 X eT Wx
  have N := Fr.snoc X N g_o0
  have O := ext_wr O Wx g_o0
  have KK := KK.wr Wx (Or.inl (List.mem_of_getElem? (i := 0) rfl))
  have E_o0 := E_o0.wr Wx
  have F_id_o0 := F_id_o0.other Wx (Or.inr (slot_ne (Or.inr (t23 hw)) (Or.inr (t33 hw)) (by decide) (t := (.object "java/lang/String")) (t' := (.object "com/example/tallystone/tallystone/model/CalculationLevel")) (by decide) (by decide)))
  have F_method_o0 := F_method_o0.other Wx (Or.inr (slot_ne (Or.inr (t25 hw)) (Or.inr (t33 hw)) (by decide) (t := (.object "com/example/tallystone/tallystone/model/RevenueMethod")) (t' := (.object "com/example/tallystone/tallystone/model/CalculationLevel")) (by decide) (by decide)))
  have F_laborSchedule_o0 := F_laborSchedule_o0.other Wx (Or.inr (slot_ne (Or.inr (t27 hw)) (Or.inr (t33 hw)) (by decide) (t := (.object "com/example/tallystone/tallystone/model/RateSchedule")) (t' := (.object "com/example/tallystone/tallystone/model/CalculationLevel")) (by decide) (by decide)))
  have F_nonlaborSchedule_o0 := F_nonlaborSchedule_o0.other Wx (Or.inr (slot_ne (Or.inr (t29 hw)) (Or.inr (t33 hw)) (by decide) (t := (.object "com/example/tallystone/tallystone/model/RateSchedule")) (t' := (.object "com/example/tallystone/tallystone/model/CalculationLevel")) (by decide) (by decide)))
  have F_onHold_o0 := F_onHold_o0.other Wx (Or.inr (slot_ne (Or.inr (t31 hw)) (Or.inr (t33 hw)) (by decide) (t := .boolean) (t' := (.object "com/example/tallystone/tallystone/model/CalculationLevel")) (by decide) (by decide)))
  have F_calculationLevel_o0 := F_calculationLevel_o0.same Wx
  have F_progressBasis_o0 := F_progressBasis_o0.other Wx (Or.inr (slot_ne (Or.inr (t35 hw)) (Or.inr (t33 hw)) (by decide) (t := (.object "com/example/tallystone/tallystone/model/ProgressBasis")) (t' := (.object "com/example/tallystone/tallystone/model/CalculationLevel")) (by decide) (by decide)))
  refine q_aloadN (pc' := 38) X hx (hb hby d_prog_65_method_1_code_37) rfl rfl rfl ?_
  refine q_aload (pc' := 40) X hx (hb hby d_prog_65_method_1_code_38) rfl rfl rfl ?_
  refine q_putF (pc' := 43) X hx hZ hown (hb hby d_prog_65_method_1_code_40) (host := "") (Or.inl (t34 hw)) eT F_progressBasis_o0 E_o0 (Or.inr ⟨(t35 hw), rfl, hnm⟩) (t9 hw) (ty := (.object "com/example/tallystone/tallystone/model/ProgressBasis")) (by decide) rfl rfl rfl ?_
  intro T h_7 X eT Wx
  have N := Fr.snoc X N g_o0
  have O := ext_wr O Wx g_o0
  have KK := KK.wr Wx (Or.inl (List.mem_of_getElem? (i := 0) rfl))
  have E_o0 := E_o0.wr Wx
  have F_id_o0 := F_id_o0.other Wx (Or.inr (slot_ne (Or.inr (t23 hw)) (Or.inr (t35 hw)) (by decide) (t := (.object "java/lang/String")) (t' := (.object "com/example/tallystone/tallystone/model/ProgressBasis")) (by decide) (by decide)))
  have F_method_o0 := F_method_o0.other Wx (Or.inr (slot_ne (Or.inr (t25 hw)) (Or.inr (t35 hw)) (by decide) (t := (.object "com/example/tallystone/tallystone/model/RevenueMethod")) (t' := (.object "com/example/tallystone/tallystone/model/ProgressBasis")) (by decide) (by decide)))
  have F_laborSchedule_o0 := F_laborSchedule_o0.other Wx (Or.inr (slot_ne (Or.inr (t27 hw)) (Or.inr (t35 hw)) (by decide) (t := (.object "com/example/tallystone/tallystone/model/RateSchedule")) (t' := (.object "com/example/tallystone/tallystone/model/ProgressBasis")) (by decide) (by decide)))
  have F_nonlaborSchedule_o0 := F_nonlaborSchedule_o0.other Wx (Or.inr (slot_ne (Or.inr (t29 hw)) (Or.inr (t35 hw)) (by decide) (t := (.object "com/example/tallystone/tallystone/model/RateSchedule")) (t' := (.object "com/example/tallystone/tallystone/model/ProgressBasis")) (by decide) (by decide)))
  have F_onHold_o0 := F_onHold_o0.other Wx (Or.inr (slot_ne (Or.inr (t31 hw)) (Or.inr (t35 hw)) (by decide) (t := .boolean) (t' := (.object "com/example/tallystone/tallystone/model/ProgressBasis")) (by decide) (by decide)))
  have F_calculationLevel_o0 := F_calculationLevel_o0.other Wx (Or.inr (slot_ne (Or.inr (t33 hw)) (Or.inr (t35 hw)) (by decide) (t := (.object "com/example/tallystone/tallystone/model/CalculationLevel")) (t' := (.object "com/example/tallystone/tallystone/model/ProgressBasis")) (by decide) (by decide)))
  have F_progressBasis_o0 := F_progressBasis_o0.same Wx
  refine Run.retV X hx hlk hret (hb hby d_prog_65_method_1_code_43) (by decide) (by decide) ?_
  try rw [eT]
  exact ⟨rfl, N, KK, E_o0, F_id_o0, F_method_o0, F_laborSchedule_o0, F_nonlaborSchedule_o0, F_onHold_o0, F_calculationLevel_o0, F_progressBasis_o0⟩
theorem pd_3 : parseMethodDescriptor "(Ljava/lang/String;Lcom/example/tallystone/tallystone/model/RevenueMethod;Lcom/example/tallystone/tallystone/model/RateSchedule;Lcom/example/tallystone/tallystone/model/RateSchedule;ZLcom/example/tallystone/tallystone/model/CalculationLevel;Lcom/example/tallystone/tallystone/model/ProgressBasis;)V" = some ⟨[(.object "java/lang/String"), (.object "com/example/tallystone/tallystone/model/RevenueMethod"), (.object "com/example/tallystone/tallystone/model/RateSchedule"), (.object "com/example/tallystone/tallystone/model/RateSchedule"), .boolean, (.object "com/example/tallystone/tallystone/model/CalculationLevel"), (.object "com/example/tallystone/tallystone/model/ProgressBasis")], none⟩ := by decide +kernel
theorem d_prog_65_method_2_code_0 : decode prog_65_method_2_code 0 = .ok (.aload_n 1, 1) := by decide +kernel
theorem d_prog_65_method_2_code_1 : decode prog_65_method_2_code 1 = .ok (.getstatic 36, 3) := by decide +kernel
theorem d_prog_65_method_2_code_4 : decode prog_65_method_2_code 4 = .ok (.if_acmp .ne 10, 3) := by decide +kernel
theorem d_prog_65_method_2_code_14 : decode prog_65_method_2_code 14 = .ok (.aload_n 0, 1) := by decide +kernel
theorem d_prog_65_method_2_code_15 : decode prog_65_method_2_code 15 = .ok (.getfield 21, 3) := by decide +kernel
theorem d_prog_65_method_2_code_18 : decode prog_65_method_2_code 18 = .ok (.invokestatic 42, 3) := by decide +kernel
theorem pd_4 : parseMethodDescriptor "(Ljava/lang/Object;)Ljava/util/Optional;" = some ⟨[(.object "java/lang/Object")], some (.object "java/util/Optional")⟩ := by decide +kernel
theorem d_prog_65_method_2_code_21 : decode prog_65_method_2_code 21 = .ok (.areturn, 1) := by decide +kernel
set_option maxRecDepth 65536 in
set_option maxHeartbeats 40000000 in
theorem c4_schedule {l : Launch} {Z : State} {a0 : Array Value} (hw : ∀ d ∈ tables_1, d.before a0 Z = true) {w_LABOR : Addr} {w_BILL_RATE : Addr} {w_NONLABOR : Addr} {w_BURDEN : Addr} {w_EMPTY : Addr} (wd : World Z w_LABOR w_BILL_RATE w_NONLABOR w_BURDEN w_EMPTY)  {h0 : Heap} (O : Ext Z.heap h0) {o0 : Addr} {o1 : Value} {o2 : Value} (hr_o2 : o2.isRef = true) (hr_o1 : o1.isRef = true) (B_o1 : OldV Z o1 "com/example/tallystone/tallystone/model/RateSchedule") (B_o2 : OldV Z o2 "com/example/tallystone/tallystone/model/RateSchedule") (E_o0 : Exa Z h0 o0 "com/example/tallystone/tallystone/model/RevenuePlan") (F_id_o0 : Fld Z h0 o0 "com/example/tallystone/tallystone/model/RevenuePlan" "id" "Ljava/lang/String;" .null) (F_method_o0 : Fld Z h0 o0 "com/example/tallystone/tallystone/model/RevenuePlan" "method" "Lcom/example/tallystone/tallystone/model/RevenueMethod;" .null) (F_laborSchedule_o0 : Fld Z h0 o0 "com/example/tallystone/tallystone/model/RevenuePlan" "laborSchedule" "Lcom/example/tallystone/tallystone/model/RateSchedule;" o1) (F_nonlaborSchedule_o0 : Fld Z h0 o0 "com/example/tallystone/tallystone/model/RevenuePlan" "nonlaborSchedule" "Lcom/example/tallystone/tallystone/model/RateSchedule;" o2) (F_onHold_o0 : Fld Z h0 o0 "com/example/tallystone/tallystone/model/RevenuePlan" "onHold" "Z" (.int (0 : Int32))) (F_calculationLevel_o0 : Fld Z h0 o0 "com/example/tallystone/tallystone/model/RevenuePlan" "calculationLevel" "Lcom/example/tallystone/tallystone/model/CalculationLevel;" .null) (F_progressBasis_o0 : Fld Z h0 o0 "com/example/tallystone/tallystone/model/RevenuePlan" "progressBasis" "Lcom/example/tallystone/tallystone/model/ProgressBasis;" .null) :
    Ctr l Z y6 prog_65_method_2_code 2 (some (.object "java/util/Optional")) ({ frames := 3, cells := 1, slots := 1, locals := 38 } : Room) #[(.ref o0), (.ref w_NONLABOR)] h0 (fun v h L => ∃ (r_1 : Addr), v = some (.ref r_1) ∧ Fr Z.heap.size L ∧ Keep h0 h [] ∧ Exa Z h r_1 "java/util/Optional" ∧ Fld Z h r_1 "java/util/Optional" "value" "Ljava/lang/Object;" o2) := by
  refine Ctr.body (plainFor_of_name pn_2) ?_
  intro p e s m below meth c T X hx hby hml hown hnm hret hlk hZ eT
  have hml : c.maxLocals = 2 := hml
  have hown : s.vm.findClass "com/example/tallystone/tallystone/model/RevenuePlan" = some m.cls := hown
  have hnm : meth.name = "schedule" := hnm
  have hret : meth.sig.returnType = (some (.object "java/util/Optional")) := hret
  refine Run.cast (show entryFrame m #[(.ref o0), (.ref w_NONLABOR)] 2 = mkF m 0 #[.val (.ref o0), .val (.ref w_NONLABOR)] [] from by first | (simp [entryFrame, mkF, argsToLocals, Value.category]; done) | rfl) ?_
  have wd0 := wd
  obtain ⟨S_w_LABOR, E_w_LABOR, S_w_BILL_RATE, E_w_BILL_RATE, S_w_NONLABOR, E_w_NONLABOR, S_w_BURDEN, E_w_BURDEN, S_w_EMPTY, E_w_EMPTY, F_ordinal_w_NONLABOR, F_ordinal_w_LABOR, F_value_w_EMPTY⟩ := wd
  have wd := wd0
  have N : Fr Z.heap.size [] := Fr.nil _
  have KK : Keep h0 h0 [] := Keep.refl h0 []
  refine q_aloadN (pc' := 1) X hx (hb hby d_prog_65_method_2_code_0) rfl rfl rfl ?_
  refine q_getS (pc' := 4) X hx hZ hown (hb hby d_prog_65_method_2_code_1) (host := "") (Or.inl (t41 hw)) eT (S_w_LABOR.ext O) rfl ?_
  intro T X eT
  refine q_acmp (pc' := 14) (same := false) X hx (hb hby d_prog_65_method_2_code_4) rfl rfl (decide_eq_false fun q => (Fld.ne F_ordinal_w_NONLABOR F_ordinal_w_LABOR (by decide)) (Value.ref.inj q)) (by decide) (by decide) ?_
  refine q_aloadN (pc' := 15) X hx (hb hby d_prog_65_method_2_code_14) rfl rfl rfl ?_
  refine q_getF (pc' := 18) X hx hZ hown (hb hby d_prog_65_method_2_code_15) (host := "") (Or.inl (t28 hw)) eT F_nonlaborSchedule_o0 rfl ?_
  intro T X eT
  refine q_callC (pc' := 21) (y := y2) (rest := []) X hx hZ hown (hb hby d_prog_65_method_2_code_18) (t42 hw) (t43 hw) (t44 hw) (t45 hw) (by decide) eT [o2] (own_ofNullable hw wd O hr_o2) (by rw [hml]; rfl) (lenOf pd_4 rfl) (W := 0) rfl (by decide) (by decide) (by decide) (by decide) rfl ?_
  rintro _ T _ X ⟨r_1, rfl, NL, KL, E_r_1, F_value_r_1⟩
  have N := N.app NL
  obtain ⟨h_2, eT⟩ : ∃ z, T.heap = z := ⟨_, rfl⟩
  rw [eT] at KL E_r_1 F_value_r_1
  have O := ext_keep O KL all0
  have KK := KK.trans KL all0
  have E_o0 := E_o0.keep KL
  have F_id_o0 := F_id_o0.keep KL nin0
  have F_method_o0 := F_method_o0.keep KL nin0
  have F_laborSchedule_o0 := F_laborSchedule_o0.keep KL nin0
  have F_nonlaborSchedule_o0 := F_nonlaborSchedule_o0.keep KL nin0
  have F_onHold_o0 := F_onHold_o0.keep KL nin0
  have F_calculationLevel_o0 := F_calculationLevel_o0.keep KL nin0
  have F_progressBasis_o0 := F_progressBasis_o0.keep KL nin0
  show Run p e below _ (T.setTop (mkF m 21 _ [(.ref r_1)]))
  refine Run.retR X hx hlk hret (hb hby d_prog_65_method_2_code_21) rfl rfl (by decide) (by decide) ?_
  try rw [eT]
  exact ⟨r_1, rfl, N, KK, E_r_1, F_value_r_1⟩
theorem pd_5 : parseMethodDescriptor "(Lcom/example/tallystone/tallystone/model/ExpenditureKind;)Ljava/util/Optional;" = some ⟨[(.object "com/example/tallystone/tallystone/model/ExpenditureKind")], some (.object "java/util/Optional")⟩ := by decide +kernel
theorem pd_6 : parseMethodDescriptor "(Ljava/lang/Object;)Ljava/lang/Object;" = some ⟨[(.object "java/lang/Object")], some (.object "java/lang/Object")⟩ := by decide +kernel
set_option maxRecDepth 65536 in
set_option maxHeartbeats 40000000 in
theorem c5_init {l : Launch} {Z : State} {a0 : Array Value} (hw : ∀ d ∈ tables_1, d.before a0 Z = true) {w_LABOR : Addr} {w_BILL_RATE : Addr} {w_NONLABOR : Addr} {w_BURDEN : Addr} {w_EMPTY : Addr} (wd : World Z w_LABOR w_BILL_RATE w_NONLABOR w_BURDEN w_EMPTY)  {h0 : Heap} (O : Ext Z.heap h0) {o0 : Addr} {o1 : Value} {o2 : Value} (hr_o2 : o2.isRef = true) (hr_o1 : o1.isRef = true) (B_o1 : OldV Z o1 "com/example/tallystone/tallystone/model/RateSchedule") (B_o2 : OldV Z o2 "com/example/tallystone/tallystone/model/RateSchedule") (E_o0 : Exa Z h0 o0 "com/example/tallystone/tallystone/model/RevenuePlan") (F_id_o0 : Fld Z h0 o0 "com/example/tallystone/tallystone/model/RevenuePlan" "id" "Ljava/lang/String;" .null) (F_method_o0 : Fld Z h0 o0 "com/example/tallystone/tallystone/model/RevenuePlan" "method" "Lcom/example/tallystone/tallystone/model/RevenueMethod;" .null) (F_laborSchedule_o0 : Fld Z h0 o0 "com/example/tallystone/tallystone/model/RevenuePlan" "laborSchedule" "Lcom/example/tallystone/tallystone/model/RateSchedule;" .null) (F_nonlaborSchedule_o0 : Fld Z h0 o0 "com/example/tallystone/tallystone/model/RevenuePlan" "nonlaborSchedule" "Lcom/example/tallystone/tallystone/model/RateSchedule;" .null) (F_onHold_o0 : Fld Z h0 o0 "com/example/tallystone/tallystone/model/RevenuePlan" "onHold" "Z" (.int (0 : Int32))) (F_calculationLevel_o0 : Fld Z h0 o0 "com/example/tallystone/tallystone/model/RevenuePlan" "calculationLevel" "Lcom/example/tallystone/tallystone/model/CalculationLevel;" .null) (F_progressBasis_o0 : Fld Z h0 o0 "com/example/tallystone/tallystone/model/RevenuePlan" "progressBasis" "Lcom/example/tallystone/tallystone/model/ProgressBasis;" .null) (g_o0 : Z.heap.size ≤ o0) :
    Ctr l Z y5 prog_65_method_1_code 8 none ({ frames := 2, cells := 0, slots := 0, locals := 24 } : Room) #[(.ref o0), .null, .null, o1, o2, (.int (1 : Int32)), .null, .null] h0 (fun v h L => v = none ∧ Fr Z.heap.size L ∧ Keep h0 h [o0] ∧ Exa Z h o0 "com/example/tallystone/tallystone/model/RevenuePlan" ∧ Fld Z h o0 "com/example/tallystone/tallystone/model/RevenuePlan" "id" "Ljava/lang/String;" .null ∧ Fld Z h o0 "com/example/tallystone/tallystone/model/RevenuePlan" "method" "Lcom/example/tallystone/tallystone/model/RevenueMethod;" .null ∧ Fld Z h o0 "com/example/tallystone/tallystone/model/RevenuePlan" "laborSchedule" "Lcom/example/tallystone/tallystone/model/RateSchedule;" o1 ∧ Fld Z h o0 "com/example/tallystone/tallystone/model/RevenuePlan" "nonlaborSchedule" "Lcom/example/tallystone/tallystone/model/RateSchedule;" o2 ∧ Fld Z h o0 "com/example/tallystone/tallystone/model/RevenuePlan" "onHold" "Z" (.int (1 : Int32)) ∧ Fld Z h o0 "com/example/tallystone/tallystone/model/RevenuePlan" "calculationLevel" "Lcom/example/tallystone/tallystone/model/CalculationLevel;" .null ∧ Fld Z h o0 "com/example/tallystone/tallystone/model/RevenuePlan" "progressBasis" "Lcom/example/tallystone/tallystone/model/ProgressBasis;" .null) := by
  refine Ctr.body (plainFor_of_name pn_2) ?_
  intro p e s m below meth c T X hx hby hml hown hnm hret hlk hZ eT
  have hml : c.maxLocals = 8 := hml
  have hown : s.vm.findClass "com/example/tallystone/tallystone/model/RevenuePlan" = some m.cls := hown
  have hnm : meth.name = "<init>" := hnm
  have hret : meth.sig.returnType = none := hret
  refine Run.cast (show entryFrame m #[(.ref o0), .null, .null, o1, o2, (.int (1 : Int32)), .null, .null] 8 = mkF m 0 #[.val (.ref o0), .val .null, .val .null, .val o1, .val o2, .val (.int (1 : Int32)), .val .null, .val .null] [] from by rcases ref_cases hr_o1 with rfl | ⟨_, rfl⟩ <;> rcases ref_cases hr_o2 with rfl | ⟨_, rfl⟩ <;> first | (simp [entryFrame, mkF, argsToLocals, Value.category]; done) | rfl) ?_
  have wd0 := wd
  obtain ⟨S_w_LABOR, E_w_LABOR, S_w_BILL_RATE, E_w_BILL_RATE, S_w_NONLABOR, E_w_NONLABOR, S_w_BURDEN, E_w_BURDEN, S_w_EMPTY, E_w_EMPTY, F_ordinal_w_NONLABOR, F_ordinal_w_LABOR, F_value_w_EMPTY⟩ := wd
  have wd := wd0
  have N : Fr Z.heap.size [] := Fr.nil _
  have KK : Keep h0 h0 [o0] := Keep.refl h0 [o0]
  refine q_aloadN (pc' := 1) X hx (hb hby d_prog_65_method_1_code_0) rfl rfl rfl ?_
  refine q_callN (pc' := 4) (y := y4) (rest := []) (b := o0) X hx hZ hown (hb hby d_prog_65_method_1_code_1) rfl (t14 hw) (t15 hw) (t17 hw) (t18 hw) (by decide) eT [] (c3_init hw wd  O E_o0 F_id_o0 F_method_o0 F_laborSchedule_o0 F_nonlaborSchedule_o0 F_onHold_o0 F_calculationLevel_o0 F_progressBasis_o0) (by rw [hml]; rfl) (lenOf pd_2 rfl) (W := 0) rfl (by decide) (by decide) (by decide) (by decide) rfl ?_
  rintro _ T _ X ⟨rfl, rfl, eT⟩
  rw [List.append_nil] at X
  show Run p e below _ (T.setTop (mkF m 4 _ []))
  refine q_aloadN (pc' := 5) X hx (hb hby d_prog_65_method_1_code_4) rfl rfl rfl ?_
  refine q_aloadN (pc' := 6) X hx (hb hby d_prog_65_method_1_code_5) rfl rfl rfl ?_
  refine q_putF (pc' := 9) X hx hZ hown (hb hby d_prog_65_method_1_code_6) (host := "") (Or.inl (t22 hw)) eT F_id_o0 E_o0 (Or.inr ⟨(t23 hw), rfl, hnm⟩) (t9 hw) (ty := (.object "java/lang/String")) (by decide) rfl rfl rfl ?_
  intro T h_1 X eT Wx
  have N := Fr.snoc X N g_o0
  have O := ext_wr O Wx g_o0
  have KK := KK.wr Wx (Or.inl (List.mem_of_getElem? (i := 0) rfl))
  have E_o0 := E_o0.wr Wx
  have F_id_o0 := F_id_o0.same Wx
  have F_method_o0 := F_method_o0.other Wx (Or.inr (slot_ne (Or.inr (t25 hw)) (Or.inr (t23 hw)) (by decide) (t := (.object "com/example/tallystone/tallystone/model/RevenueMethod")) (t' := (.object "java/lang/String")) (by decide) (by decide)))
  have F_laborSchedule_o0 := F_laborSchedule_o0.other Wx (Or.inr (slot_ne (Or.inr (t27 hw)) (Or.inr (t23 hw)) (by decide) (t := (.object "com/example/tallystone/tallystone/model/RateSchedule")) (t' := (.object "java/lang/String")) (by decide) (by decide)))
  have F_nonlaborSchedule_o0 := F_nonlaborSchedule_o0.other Wx (Or.inr (slot_ne (Or.inr (t29 hw)) (Or.inr (t23 hw)) (by decide) (t := (.object "com/example/tallystone/tallystone/model/RateSchedule")) (t' := (.object "java/lang/String")) (by decide) (by decide)))
  have F_onHold_o0 := F_onHold_o0.other Wx (Or.inr (slot_ne (Or.inr (t31 hw)) (Or.inr (t23 hw)) (by decide) (t := .boolean) (t' := (.object "java/lang/String")) (by decide) (by decide)))
  have F_calculationLevel_o0 := F_calculationLevel_o0.other Wx (Or.inr (slot_ne (Or.inr (t33 hw)) (Or.inr (t23 hw)) (by decide) (t := (.object "com/example/tallystone/tallystone/model/CalculationLevel")) (t' := (.object "java/lang/String")) (by decide) (by decide)))
  have F_progressBasis_o0 := F_progressBasis_o0.other Wx (Or.inr (slot_ne (Or.inr (t35 hw)) (Or.inr (t23 hw)) (by decide) (t := (.object "com/example/tallystone/tallystone/model/ProgressBasis")) (t' := (.object "java/lang/String")) (by decide) (by decide)))
  refine q_aloadN (pc' := 10) X hx (hb hby d_prog_65_method_1_code_9) rfl rfl rfl ?_
  refine q_aloadN (pc' := 11) X hx (hb hby d_prog_65_method_1_code_10) rfl rfl rfl ?_
  refine q_putF (pc' := 14) X hx hZ hown (hb hby d_prog_65_method_1_code_11) (host := "") (Or.inl (t24 hw)) eT F_method_o0 E_o0 (Or.inr ⟨(t25 hw), rfl, hnm⟩) (t9 hw) (ty := (.object "com/example/tallystone/tallystone/model/RevenueMethod")) (by decide) rfl rfl rfl ?_
  intro T h_2 X eT Wx
  have N := Fr.snoc X N g_o0
  have O := ext_wr O Wx g_o0
  have KK := KK.wr Wx (Or.inl (List.mem_of_getElem? (i := 0) rfl))
  have E_o0 := E_o0.wr Wx
  have F_id_o0 := F_id_o0.other Wx (Or.inr (slot_ne (Or.inr (t23 hw)) (Or.inr (t25 hw)) (by decide) (t := (.object "java/lang/String")) (t' := (.object "com/example/tallystone/tallystone/model/RevenueMethod")) (by decide) (by decide)))
  have F_method_o0 := F_method_o0.same Wx
  have F_laborSchedule_o0 := F_laborSchedule_o0.other Wx (Or.inr (slot_ne (Or.inr (t27 hw)) (Or.inr (t25 hw)) (by decide) (t := (.object "com/example/tallystone/tallystone/model/RateSchedule")) (t' := (.object "com/example/tallystone/tallystone/model/RevenueMethod")) (by decide) (by decide)))
  have F_nonlaborSchedule_o0 := F_nonlaborSchedule_o0.other Wx (Or.inr (slot_ne (Or.inr (t29 hw)) (Or.inr (t25 hw)) (by decide) (t := (.object "com/example/tallystone/tallystone/model/RateSchedule")) (t' := (.object "com/example/tallystone/tallystone/model/RevenueMethod")) (by decide) (by decide)))
  have F_onHold_o0 := F_onHold_o0.other Wx (Or.inr (slot_ne (Or.inr (t31 hw)) (Or.inr (t25 hw)) (by decide) (t := .boolean) (t' := (.object "com/example/tallystone/tallystone/model/RevenueMethod")) (by decide) (by decide)))
  have F_calculationLevel_o0 := F_calculationLevel_o0.other Wx (Or.inr (slot_ne (Or.inr (t33 hw)) (Or.inr (t25 hw)) (by decide) (t := (.object "com/example/tallystone/tallystone/model/CalculationLevel")) (t' := (.object "com/example/tallystone/tallystone/model/RevenueMethod")) (by decide) (by decide)))
  have F_progressBasis_o0 := F_progressBasis_o0.other Wx (Or.inr (slot_ne (Or.inr (t35 hw)) (Or.inr (t25 hw)) (by decide) (t := (.object "com/example/tallystone/tallystone/model/ProgressBasis")) (t' := (.object "com/example/tallystone/tallystone/model/RevenueMethod")) (by decide) (by decide)))
  refine q_aloadN (pc' := 15) X hx (hb hby d_prog_65_method_1_code_14) rfl rfl rfl ?_
  refine q_aloadN (pc' := 16) X hx (hb hby d_prog_65_method_1_code_15) rfl hr_o1 rfl ?_
  refine q_putF (pc' := 19) X hx hZ hown (hb hby d_prog_65_method_1_code_16) (host := "") (Or.inl (t26 hw)) eT F_laborSchedule_o0 E_o0 (Or.inr ⟨(t27 hw), rfl, hnm⟩) (t9 hw) (ty := (.object "com/example/tallystone/tallystone/model/RateSchedule")) (by decide) (Jvm.OwnKit.narrow_ref hr_o1) (fits_isRef rfl hr_o1) rfl ?_
  intro T h_3 X eT Wx
  have N := Fr.snoc X N g_o0
  have O := ext_wr O Wx g_o0
  have KK := KK.wr Wx (Or.inl (List.mem_of_getElem? (i := 0) rfl))
  have E_o0 := E_o0.wr Wx
  have F_id_o0 := F_id_o0.other Wx (Or.inr (slot_ne (Or.inr (t23 hw)) (Or.inr (t27 hw)) (by decide) (t := (.object "java/lang/String")) (t' := (.object "com/example/tallystone/tallystone/model/RateSchedule")) (by decide) (by decide)))
  have F_method_o0 := F_method_o0.other Wx (Or.inr (slot_ne (Or.inr (t25 hw)) (Or.inr (t27 hw)) (by decide) (t := (.object "com/example/tallystone/tallystone/model/RevenueMethod")) (t' := (.object "com/example/tallystone/tallystone/model/RateSchedule")) (by decide) (by decide)))
  have F_laborSchedule_o0 := F_laborSchedule_o0.same Wx
  have F_nonlaborSchedule_o0 := F_nonlaborSchedule_o0.other Wx (Or.inr (slot_ne (Or.inr (t29 hw)) (Or.inr (t27 hw)) (by decide) (t := (.object "com/example/tallystone/tallystone/model/RateSchedule")) (t' := (.object "com/example/tallystone/tallystone/model/RateSchedule")) (by decide) (by decide)))
  have F_onHold_o0 := F_onHold_o0.other Wx (Or.inr (slot_ne (Or.inr (t31 hw)) (Or.inr (t27 hw)) (by decide) (t := .boolean) (t' := (.object "com/example/tallystone/tallystone/model/RateSchedule")) (by decide) (by decide)))
  have F_calculationLevel_o0 := F_calculationLevel_o0.other Wx (Or.inr (slot_ne (Or.inr (t33 hw)) (Or.inr (t27 hw)) (by decide) (t := (.object "com/example/tallystone/tallystone/model/CalculationLevel")) (t' := (.object "com/example/tallystone/tallystone/model/RateSchedule")) (by decide) (by decide)))
  have F_progressBasis_o0 := F_progressBasis_o0.other Wx (Or.inr (slot_ne (Or.inr (t35 hw)) (Or.inr (t27 hw)) (by decide) (t := (.object "com/example/tallystone/tallystone/model/ProgressBasis")) (t' := (.object "com/example/tallystone/tallystone/model/RateSchedule")) (by decide) (by decide)))
  refine q_aloadN (pc' := 20) X hx (hb hby d_prog_65_method_1_code_19) rfl rfl rfl ?_
  refine q_aload (pc' := 22) X hx (hb hby d_prog_65_method_1_code_20) rfl hr_o2 rfl ?_
  refine q_putF (pc' := 25) X hx hZ hown (hb hby d_prog_65_method_1_code_22) (host := "") (Or.inl (t28 hw)) eT F_nonlaborSchedule_o0 E_o0 (Or.inr ⟨(t29 hw), rfl, hnm⟩) (t9 hw) (ty := (.object "com/example/tallystone/tallystone/model/RateSchedule")) (by decide) (Jvm.OwnKit.narrow_ref hr_o2) (fits_isRef rfl hr_o2) rfl ?_
  intro T h_4 X eT Wx
  have N := Fr.snoc X N g_o0
  have O := ext_wr O Wx g_o0
  have KK := KK.wr Wx (Or.inl (List.mem_of_getElem? (i := 0) rfl))
  have E_o0 := E_o0.wr Wx
  have F_id_o0 := F_id_o0.other Wx (Or.inr (slot_ne (Or.inr (t23 hw)) (Or.inr (t29 hw)) (by decide) (t := (.object "java/lang/String")) (t' := (.object "com/example/tallystone/tallystone/model/RateSchedule")) (by decide) (by decide)))
  have F_method_o0 := F_method_o0.other Wx (Or.inr (slot_ne (Or.inr (t25 hw)) (Or.inr (t29 hw)) (by decide) (t := (.object "com/example/tallystone/tallystone/model/RevenueMethod")) (t' := (.object "com/example/tallystone/tallystone/model/RateSchedule")) (by decide) (by decide)))
  have F_laborSchedule_o0 := F_laborSchedule_o0.other Wx (Or.inr (slot_ne (Or.inr (t27 hw)) (Or.inr (t29 hw)) (by decide) (t := (.object "com/example/tallystone/tallystone/model/RateSchedule")) (t' := (.object "com/example/tallystone/tallystone/model/RateSchedule")) (by decide) (by decide)))
  have F_nonlaborSchedule_o0 := F_nonlaborSchedule_o0.same Wx
  have F_onHold_o0 := F_onHold_o0.other Wx (Or.inr (slot_ne (Or.inr (t31 hw)) (Or.inr (t29 hw)) (by decide) (t := .boolean) (t' := (.object "com/example/tallystone/tallystone/model/RateSchedule")) (by decide) (by decide)))
  have F_calculationLevel_o0 := F_calculationLevel_o0.other Wx (Or.inr (slot_ne (Or.inr (t33 hw)) (Or.inr (t29 hw)) (by decide) (t := (.object "com/example/tallystone/tallystone/model/CalculationLevel")) (t' := (.object "com/example/tallystone/tallystone/model/RateSchedule")) (by decide) (by decide)))
  have F_progressBasis_o0 := F_progressBasis_o0.other Wx (Or.inr (slot_ne (Or.inr (t35 hw)) (Or.inr (t29 hw)) (by decide) (t := (.object "com/example/tallystone/tallystone/model/ProgressBasis")) (t' := (.object "com/example/tallystone/tallystone/model/RateSchedule")) (by decide) (by decide)))
  refine q_aloadN (pc' := 26) X hx (hb hby d_prog_65_method_1_code_25) rfl rfl rfl ?_
  refine q_iload (pc' := 28) X hx (hb hby d_prog_65_method_1_code_26) rfl rfl ?_
  refine q_putFN (pc' := 31) (v' := (.int (1 : Int32))) X hx hZ hown (hb hby d_prog_65_method_1_code_28) (t30 hw) eT F_onHold_o0 E_o0 (Or.inr ⟨(t31 hw), rfl, hnm⟩) (t9 hw) (ty := .boolean) (by decide) rfl rfl rfl ?_
  intro T h_5 X eT Wx
  have N := Fr.snoc X N g_o0
  have O := ext_wr O Wx g_o0
  have KK := KK.wr Wx (Or.inl (List.mem_of_getElem? (i := 0) rfl))
  have E_o0 := E_o0.wr Wx
  have F_id_o0 := F_id_o0.other Wx (Or.inr (slot_ne (Or.inr (t23 hw)) (Or.inr (t31 hw)) (by decide) (t := (.object "java/lang/String")) (t' := .boolean) (by decide) (by decide)))
  have F_method_o0 := F_method_o0.other Wx (Or.inr (slot_ne (Or.inr (t25 hw)) (Or.inr (t31 hw)) (by decide) (t := (.object "com/example/tallystone/tallystone/model/RevenueMethod")) (t' := .boolean) (by decide) (by decide)))
  have F_laborSchedule_o0 := F_laborSchedule_o0.other Wx (Or.inr (slot_ne (Or.inr (t27 hw)) (Or.inr (t31 hw)) (by decide) (t := (.object "com/example/tallystone/tallystone/model/RateSchedule")) (t' := .boolean) (by decide) (by decide)))
  have F_nonlaborSchedule_o0 := F_nonlaborSchedule_o0.other Wx (Or.inr (slot_ne (Or.inr (t29 hw)) (Or.inr (t31 hw)) (by decide) (t := (.object "com/example/tallystone/tallystone/model/RateSchedule")) (t' := .boolean) (by decide) (by decide)))
  have F_onHold_o0 := F_onHold_o0.same Wx
  have F_calculationLevel_o0 := F_calculationLevel_o0.other Wx (Or.inr (slot_ne (Or.inr (t33 hw)) (Or.inr (t31 hw)) (by decide) (t := (.object "com/example/tallystone/tallystone/model/CalculationLevel")) (t' := .boolean) (by decide) (by decide)))
  have F_progressBasis_o0 := F_progressBasis_o0.other Wx (Or.inr (slot_ne (Or.inr (t35 hw)) (Or.inr (t31 hw)) (by decide) (t := (.object "com/example/tallystone/tallystone/model/ProgressBasis")) (t' := .boolean) (by decide) (by decide)))
  refine q_aloadN (pc' := 32) X hx (hb hby d_prog_65_method_1_code_31) rfl rfl rfl ?_
  refine q_aload (pc' := 34) X hx (hb hby d_prog_65_method_1_code_32) rfl rfl rfl ?_
  refine q_putF (pc' := 37) X hx hZ hown (hb hby d_prog_65_method_1_code_34) (host := "") (Or.inl (t32 hw)) eT F_calculationLevel_o0 E_o0 (Or.inr ⟨(t33 hw), rfl, hnm⟩) (t9 hw) (ty := (.object "com/example/tallystone/tallystone/model/CalculationLevel")) (by decide) rfl rfl rfl ?_
  intro T h_6 X eT Wx
  have N := Fr.snoc X N g_o0
  have O := ext_wr O Wx g_o0
  have KK := KK.wr Wx (Or.inl (List.mem_of_getElem? (i := 0) rfl))
  have E_o0 := E_o0.wr Wx
  have F_id_o0 := F_id_o0.other Wx (Or.inr (slot_ne (Or.inr (t23 hw)) (Or.inr (t33 hw)) (by decide) (t := (.object "java/lang/String")) (t' := (.object "com/example/tallystone/tallystone/model/CalculationLevel")) (by decide) (by decide)))
  have F_method_o0 := F_method_o0.other Wx (Or.inr (slot_ne (Or.inr (t25 hw)) (Or.inr (t33 hw)) (by decide) (t := (.object "com/example/tallystone/tallystone/model/RevenueMethod")) (t' := (.object "com/example/tallystone/tallystone/model/CalculationLevel")) (by decide) (by decide)))
  have F_laborSchedule_o0 := F_laborSchedule_o0.other Wx (Or.inr (slot_ne (Or.inr (t27 hw)) (Or.inr (t33 hw)) (by decide) (t := (.object "com/example/tallystone/tallystone/model/RateSchedule")) (t' := (.object "com/example/tallystone/tallystone/model/CalculationLevel")) (by decide) (by decide)))
  have F_nonlaborSchedule_o0 := F_nonlaborSchedule_o0.other Wx (Or.inr (slot_ne (Or.inr (t29 hw)) (Or.inr (t33 hw)) (by decide) (t := (.object "com/example/tallystone/tallystone/model/RateSchedule")) (t' := (.object "com/example/tallystone/tallystone/model/CalculationLevel")) (by decide) (by decide)))
  have F_onHold_o0 := F_onHold_o0.other Wx (Or.inr (slot_ne (Or.inr (t31 hw)) (Or.inr (t33 hw)) (by decide) (t := .boolean) (t' := (.object "com/example/tallystone/tallystone/model/CalculationLevel")) (by decide) (by decide)))
  have F_calculationLevel_o0 := F_calculationLevel_o0.same Wx
  have F_progressBasis_o0 := F_progressBasis_o0.other Wx (Or.inr (slot_ne (Or.inr (t35 hw)) (Or.inr (t33 hw)) (by decide) (t := (.object "com/example/tallystone/tallystone/model/ProgressBasis")) (t' := (.object "com/example/tallystone/tallystone/model/CalculationLevel")) (by decide) (by decide)))
  refine q_aloadN (pc' := 38) X hx (hb hby d_prog_65_method_1_code_37) rfl rfl rfl ?_
  refine q_aload (pc' := 40) X hx (hb hby d_prog_65_method_1_code_38) rfl rfl rfl ?_
  refine q_putF (pc' := 43) X hx hZ hown (hb hby d_prog_65_method_1_code_40) (host := "") (Or.inl (t34 hw)) eT F_progressBasis_o0 E_o0 (Or.inr ⟨(t35 hw), rfl, hnm⟩) (t9 hw) (ty := (.object "com/example/tallystone/tallystone/model/ProgressBasis")) (by decide) rfl rfl rfl ?_
  intro T h_7 X eT Wx
  have N := Fr.snoc X N g_o0
  have O := ext_wr O Wx g_o0
  have KK := KK.wr Wx (Or.inl (List.mem_of_getElem? (i := 0) rfl))
  have E_o0 := E_o0.wr Wx
  have F_id_o0 := F_id_o0.other Wx (Or.inr (slot_ne (Or.inr (t23 hw)) (Or.inr (t35 hw)) (by decide) (t := (.object "java/lang/String")) (t' := (.object "com/example/tallystone/tallystone/model/ProgressBasis")) (by decide) (by decide)))
  have F_method_o0 := F_method_o0.other Wx (Or.inr (slot_ne (Or.inr (t25 hw)) (Or.inr (t35 hw)) (by decide) (t := (.object "com/example/tallystone/tallystone/model/RevenueMethod")) (t' := (.object "com/example/tallystone/tallystone/model/ProgressBasis")) (by decide) (by decide)))
  have F_laborSchedule_o0 := F_laborSchedule_o0.other Wx (Or.inr (slot_ne (Or.inr (t27 hw)) (Or.inr (t35 hw)) (by decide) (t := (.object "com/example/tallystone/tallystone/model/RateSchedule")) (t' := (.object "com/example/tallystone/tallystone/model/ProgressBasis")) (by decide) (by decide)))
  have F_nonlaborSchedule_o0 := F_nonlaborSchedule_o0.other Wx (Or.inr (slot_ne (Or.inr (t29 hw)) (Or.inr (t35 hw)) (by decide) (t := (.object "com/example/tallystone/tallystone/model/RateSchedule")) (t' := (.object "com/example/tallystone/tallystone/model/ProgressBasis")) (by decide) (by decide)))
  have F_onHold_o0 := F_onHold_o0.other Wx (Or.inr (slot_ne (Or.inr (t31 hw)) (Or.inr (t35 hw)) (by decide) (t := .boolean) (t' := (.object "com/example/tallystone/tallystone/model/ProgressBasis")) (by decide) (by decide)))
  have F_calculationLevel_o0 := F_calculationLevel_o0.other Wx (Or.inr (slot_ne (Or.inr (t33 hw)) (Or.inr (t35 hw)) (by decide) (t := (.object "com/example/tallystone/tallystone/model/CalculationLevel")) (t' := (.object "com/example/tallystone/tallystone/model/ProgressBasis")) (by decide) (by decide)))
  have F_progressBasis_o0 := F_progressBasis_o0.same Wx
  refine Run.retV X hx hlk hret (hb hby d_prog_65_method_1_code_43) (by decide) (by decide) ?_
  try rw [eT]
  exact ⟨rfl, N, KK, E_o0, F_id_o0, F_method_o0, F_laborSchedule_o0, F_nonlaborSchedule_o0, F_onHold_o0, F_calculationLevel_o0, F_progressBasis_o0⟩
set_option maxRecDepth 65536 in
set_option maxHeartbeats 40000000 in
theorem c6_schedule {l : Launch} {Z : State} {a0 : Array Value} (hw : ∀ d ∈ tables_1, d.before a0 Z = true) {w_LABOR : Addr} {w_BILL_RATE : Addr} {w_NONLABOR : Addr} {w_BURDEN : Addr} {w_EMPTY : Addr} (wd : World Z w_LABOR w_BILL_RATE w_NONLABOR w_BURDEN w_EMPTY)  {h0 : Heap} (O : Ext Z.heap h0) {o0 : Addr} {o1 : Value} {o2 : Value} (hr_o2 : o2.isRef = true) (hr_o1 : o1.isRef = true) (B_o1 : OldV Z o1 "com/example/tallystone/tallystone/model/RateSchedule") (B_o2 : OldV Z o2 "com/example/tallystone/tallystone/model/RateSchedule") (E_o0 : Exa Z h0 o0 "com/example/tallystone/tallystone/model/RevenuePlan") (F_id_o0 : Fld Z h0 o0 "com/example/tallystone/tallystone/model/RevenuePlan" "id" "Ljava/lang/String;" .null) (F_method_o0 : Fld Z h0 o0 "com/example/tallystone/tallystone/model/RevenuePlan" "method" "Lcom/example/tallystone/tallystone/model/RevenueMethod;" .null) (F_laborSchedule_o0 : Fld Z h0 o0 "com/example/tallystone/tallystone/model/RevenuePlan" "laborSchedule" "Lcom/example/tallystone/tallystone/model/RateSchedule;" o1) (F_nonlaborSchedule_o0 : Fld Z h0 o0 "com/example/tallystone/tallystone/model/RevenuePlan" "nonlaborSchedule" "Lcom/example/tallystone/tallystone/model/RateSchedule;" o2) (F_onHold_o0 : Fld Z h0 o0 "com/example/tallystone/tallystone/model/RevenuePlan" "onHold" "Z" (.int (1 : Int32))) (F_calculationLevel_o0 : Fld Z h0 o0 "com/example/tallystone/tallystone/model/RevenuePlan" "calculationLevel" "Lcom/example/tallystone/tallystone/model/CalculationLevel;" .null) (F_progressBasis_o0 : Fld Z h0 o0 "com/example/tallystone/tallystone/model/RevenuePlan" "progressBasis" "Lcom/example/tallystone/tallystone/model/ProgressBasis;" .null) :
    Ctr l Z y6 prog_65_method_2_code 2 (some (.object "java/util/Optional")) ({ frames := 3, cells := 1, slots := 1, locals := 38 } : Room) #[(.ref o0), (.ref w_NONLABOR)] h0 (fun v h L => ∃ (r_1 : Addr), v = some (.ref r_1) ∧ Fr Z.heap.size L ∧ Keep h0 h [] ∧ Exa Z h r_1 "java/util/Optional" ∧ Fld Z h r_1 "java/util/Optional" "value" "Ljava/lang/Object;" o2) := by
  refine Ctr.body (plainFor_of_name pn_2) ?_
  intro p e s m below meth c T X hx hby hml hown hnm hret hlk hZ eT
  have hml : c.maxLocals = 2 := hml
  have hown : s.vm.findClass "com/example/tallystone/tallystone/model/RevenuePlan" = some m.cls := hown
  have hnm : meth.name = "schedule" := hnm
  have hret : meth.sig.returnType = (some (.object "java/util/Optional")) := hret
  refine Run.cast (show entryFrame m #[(.ref o0), (.ref w_NONLABOR)] 2 = mkF m 0 #[.val (.ref o0), .val (.ref w_NONLABOR)] [] from by first | (simp [entryFrame, mkF, argsToLocals, Value.category]; done) | rfl) ?_
  have wd0 := wd
  obtain ⟨S_w_LABOR, E_w_LABOR, S_w_BILL_RATE, E_w_BILL_RATE, S_w_NONLABOR, E_w_NONLABOR, S_w_BURDEN, E_w_BURDEN, S_w_EMPTY, E_w_EMPTY, F_ordinal_w_NONLABOR, F_ordinal_w_LABOR, F_value_w_EMPTY⟩ := wd
  have wd := wd0
  have N : Fr Z.heap.size [] := Fr.nil _
  have KK : Keep h0 h0 [] := Keep.refl h0 []
  refine q_aloadN (pc' := 1) X hx (hb hby d_prog_65_method_2_code_0) rfl rfl rfl ?_
  refine q_getS (pc' := 4) X hx hZ hown (hb hby d_prog_65_method_2_code_1) (host := "") (Or.inl (t41 hw)) eT (S_w_LABOR.ext O) rfl ?_
  intro T X eT
  refine q_acmp (pc' := 14) (same := false) X hx (hb hby d_prog_65_method_2_code_4) rfl rfl (decide_eq_false fun q => (Fld.ne F_ordinal_w_NONLABOR F_ordinal_w_LABOR (by decide)) (Value.ref.inj q)) (by decide) (by decide) ?_
  refine q_aloadN (pc' := 15) X hx (hb hby d_prog_65_method_2_code_14) rfl rfl rfl ?_
  refine q_getF (pc' := 18) X hx hZ hown (hb hby d_prog_65_method_2_code_15) (host := "") (Or.inl (t28 hw)) eT F_nonlaborSchedule_o0 rfl ?_
  intro T X eT
  refine q_callC (pc' := 21) (y := y2) (rest := []) X hx hZ hown (hb hby d_prog_65_method_2_code_18) (t42 hw) (t43 hw) (t44 hw) (t45 hw) (by decide) eT [o2] (own_ofNullable hw wd O hr_o2) (by rw [hml]; rfl) (lenOf pd_4 rfl) (W := 0) rfl (by decide) (by decide) (by decide) (by decide) rfl ?_
  rintro _ T _ X ⟨r_1, rfl, NL, KL, E_r_1, F_value_r_1⟩
  have N := N.app NL
  obtain ⟨h_2, eT⟩ : ∃ z, T.heap = z := ⟨_, rfl⟩
  rw [eT] at KL E_r_1 F_value_r_1
  have O := ext_keep O KL all0
  have KK := KK.trans KL all0
  have E_o0 := E_o0.keep KL
  have F_id_o0 := F_id_o0.keep KL nin0
  have F_method_o0 := F_method_o0.keep KL nin0
  have F_laborSchedule_o0 := F_laborSchedule_o0.keep KL nin0
  have F_nonlaborSchedule_o0 := F_nonlaborSchedule_o0.keep KL nin0
  have F_onHold_o0 := F_onHold_o0.keep KL nin0
  have F_calculationLevel_o0 := F_calculationLevel_o0.keep KL nin0
  have F_progressBasis_o0 := F_progressBasis_o0.keep KL nin0
  show Run p e below _ (T.setTop (mkF m 21 _ [(.ref r_1)]))
  refine Run.retR X hx hlk hret (hb hby d_prog_65_method_2_code_21) rfl rfl (by decide) (by decide) ?_
  try rw [eT]
  exact ⟨r_1, rfl, N, KK, E_r_1, F_value_r_1⟩
set_option maxRecDepth 65536 in
set_option maxHeartbeats 40000000 in
theorem c7_init {l : Launch} {Z : State} {a0 : Array Value} (hw : ∀ d ∈ tables_1, d.before a0 Z = true) {w_LABOR : Addr} {w_BILL_RATE : Addr} {w_NONLABOR : Addr} {w_BURDEN : Addr} {w_EMPTY : Addr} (wd : World Z w_LABOR w_BILL_RATE w_NONLABOR w_BURDEN w_EMPTY)  {h0 : Heap} (O : Ext Z.heap h0) {o0 : Addr} {o1 : Value} {o2 : Value} (hr_o2 : o2.isRef = true) (hr_o1 : o1.isRef = true) (B_o1 : OldV Z o1 "com/example/tallystone/tallystone/model/RateSchedule") (B_o2 : OldV Z o2 "com/example/tallystone/tallystone/model/RateSchedule") (E_o0 : Exa Z h0 o0 "com/example/tallystone/tallystone/model/RevenuePlan") (F_id_o0 : Fld Z h0 o0 "com/example/tallystone/tallystone/model/RevenuePlan" "id" "Ljava/lang/String;" .null) (F_method_o0 : Fld Z h0 o0 "com/example/tallystone/tallystone/model/RevenuePlan" "method" "Lcom/example/tallystone/tallystone/model/RevenueMethod;" .null) (F_laborSchedule_o0 : Fld Z h0 o0 "com/example/tallystone/tallystone/model/RevenuePlan" "laborSchedule" "Lcom/example/tallystone/tallystone/model/RateSchedule;" .null) (F_nonlaborSchedule_o0 : Fld Z h0 o0 "com/example/tallystone/tallystone/model/RevenuePlan" "nonlaborSchedule" "Lcom/example/tallystone/tallystone/model/RateSchedule;" .null) (F_onHold_o0 : Fld Z h0 o0 "com/example/tallystone/tallystone/model/RevenuePlan" "onHold" "Z" (.int (0 : Int32))) (F_calculationLevel_o0 : Fld Z h0 o0 "com/example/tallystone/tallystone/model/RevenuePlan" "calculationLevel" "Lcom/example/tallystone/tallystone/model/CalculationLevel;" .null) (F_progressBasis_o0 : Fld Z h0 o0 "com/example/tallystone/tallystone/model/RevenuePlan" "progressBasis" "Lcom/example/tallystone/tallystone/model/ProgressBasis;" .null) (g_o0 : Z.heap.size ≤ o0) :
    Ctr l Z y5 prog_65_method_1_code 8 none ({ frames := 2, cells := 0, slots := 0, locals := 24 } : Room) #[(.ref o0), .null, .null, o1, o2, (.int (0 : Int32)), .null, .null] h0 (fun v h L => v = none ∧ Fr Z.heap.size L ∧ Keep h0 h [o0] ∧ Exa Z h o0 "com/example/tallystone/tallystone/model/RevenuePlan" ∧ Fld Z h o0 "com/example/tallystone/tallystone/model/RevenuePlan" "id" "Ljava/lang/String;" .null ∧ Fld Z h o0 "com/example/tallystone/tallystone/model/RevenuePlan" "method" "Lcom/example/tallystone/tallystone/model/RevenueMethod;" .null ∧ Fld Z h o0 "com/example/tallystone/tallystone/model/RevenuePlan" "laborSchedule" "Lcom/example/tallystone/tallystone/model/RateSchedule;" o1 ∧ Fld Z h o0 "com/example/tallystone/tallystone/model/RevenuePlan" "nonlaborSchedule" "Lcom/example/tallystone/tallystone/model/RateSchedule;" o2 ∧ Fld Z h o0 "com/example/tallystone/tallystone/model/RevenuePlan" "onHold" "Z" (.int (0 : Int32)) ∧ Fld Z h o0 "com/example/tallystone/tallystone/model/RevenuePlan" "calculationLevel" "Lcom/example/tallystone/tallystone/model/CalculationLevel;" .null ∧ Fld Z h o0 "com/example/tallystone/tallystone/model/RevenuePlan" "progressBasis" "Lcom/example/tallystone/tallystone/model/ProgressBasis;" .null) := by
  refine Ctr.body (plainFor_of_name pn_2) ?_
  intro p e s m below meth c T X hx hby hml hown hnm hret hlk hZ eT
  have hml : c.maxLocals = 8 := hml
  have hown : s.vm.findClass "com/example/tallystone/tallystone/model/RevenuePlan" = some m.cls := hown
  have hnm : meth.name = "<init>" := hnm
  have hret : meth.sig.returnType = none := hret
  refine Run.cast (show entryFrame m #[(.ref o0), .null, .null, o1, o2, (.int (0 : Int32)), .null, .null] 8 = mkF m 0 #[.val (.ref o0), .val .null, .val .null, .val o1, .val o2, .val (.int (0 : Int32)), .val .null, .val .null] [] from by rcases ref_cases hr_o1 with rfl | ⟨_, rfl⟩ <;> rcases ref_cases hr_o2 with rfl | ⟨_, rfl⟩ <;> first | (simp [entryFrame, mkF, argsToLocals, Value.category]; done) | rfl) ?_
  have wd0 := wd
  obtain ⟨S_w_LABOR, E_w_LABOR, S_w_BILL_RATE, E_w_BILL_RATE, S_w_NONLABOR, E_w_NONLABOR, S_w_BURDEN, E_w_BURDEN, S_w_EMPTY, E_w_EMPTY, F_ordinal_w_NONLABOR, F_ordinal_w_LABOR, F_value_w_EMPTY⟩ := wd
  have wd := wd0
  have N : Fr Z.heap.size [] := Fr.nil _
  have KK : Keep h0 h0 [o0] := Keep.refl h0 [o0]
  refine q_aloadN (pc' := 1) X hx (hb hby d_prog_65_method_1_code_0) rfl rfl rfl ?_
  refine q_callN (pc' := 4) (y := y4) (rest := []) (b := o0) X hx hZ hown (hb hby d_prog_65_method_1_code_1) rfl (t14 hw) (t15 hw) (t17 hw) (t18 hw) (by decide) eT [] (c3_init hw wd  O E_o0 F_id_o0 F_method_o0 F_laborSchedule_o0 F_nonlaborSchedule_o0 F_onHold_o0 F_calculationLevel_o0 F_progressBasis_o0) (by rw [hml]; rfl) (lenOf pd_2 rfl) (W := 0) rfl (by decide) (by decide) (by decide) (by decide) rfl ?_
  rintro _ T _ X ⟨rfl, rfl, eT⟩
  rw [List.append_nil] at X
  show Run p e below _ (T.setTop (mkF m 4 _ []))
  refine q_aloadN (pc' := 5) X hx (hb hby d_prog_65_method_1_code_4) rfl rfl rfl ?_
  refine q_aloadN (pc' := 6) X hx (hb hby d_prog_65_method_1_code_5) rfl rfl rfl ?_
  refine q_putF (pc' := 9) X hx hZ hown (hb hby d_prog_65_method_1_code_6) (host := "") (Or.inl (t22 hw)) eT F_id_o0 E_o0 (Or.inr ⟨(t23 hw), rfl, hnm⟩) (t9 hw) (ty := (.object "java/lang/String")) (by decide) rfl rfl rfl ?_
  intro T h_1 X eT Wx
  have N := Fr.snoc X N g_o0
  have O := ext_wr O Wx g_o0
  have KK := KK.wr Wx (Or.inl (List.mem_of_getElem? (i := 0) rfl))
  have E_o0 := E_o0.wr Wx
  have F_id_o0 := F_id_o0.same Wx
  have F_method_o0 := F_method_o0.other Wx (Or.inr (slot_ne (Or.inr (t25 hw)) (Or.inr (t23 hw)) (by decide) (t := (.object "com/example/tallystone/tallystone/model/RevenueMethod")) (t' := (.object "java/lang/String")) (by decide) (by decide)))
  have F_laborSchedule_o0 := F_laborSchedule_o0.other Wx (Or.inr (slot_ne (Or.inr (t27 hw)) (Or.inr (t23 hw)) (by decide) (t := (.object "com/example/tallystone/tallystone/model/RateSchedule")) (t' := (.object "java/lang/String")) (by decide) (by decide)))
  have F_nonlaborSchedule_o0 := F_nonlaborSchedule_o0.other Wx (Or.inr (slot_ne (Or.inr (t29 hw)) (Or.inr (t23 hw)) (by decide) (t := (.object "com/example/tallystone/tallystone/model/RateSchedule")) (t' := (.object "java/lang/String")) (by decide) (by decide)))
  have F_onHold_o0 := F_onHold_o0.other Wx (Or.inr (slot_ne (Or.inr (t31 hw)) (Or.inr (t23 hw)) (by decide) (t := .boolean) (t' := (.object "java/lang/String")) (by decide) (by decide)))
  have F_calculationLevel_o0 := F_calculationLevel_o0.other Wx (Or.inr (slot_ne (Or.inr (t33 hw)) (Or.inr (t23 hw)) (by decide) (t := (.object "com/example/tallystone/tallystone/model/CalculationLevel")) (t' := (.object "java/lang/String")) (by decide) (by decide)))
  have F_progressBasis_o0 := F_progressBasis_o0.other Wx (Or.inr (slot_ne (Or.inr (t35 hw)) (Or.inr (t23 hw)) (by decide) (t := (.object "com/example/tallystone/tallystone/model/ProgressBasis")) (t' := (.object "java/lang/String")) (by decide) (by decide)))
  refine q_aloadN (pc' := 10) X hx (hb hby d_prog_65_method_1_code_9) rfl rfl rfl ?_
  refine q_aloadN (pc' := 11) X hx (hb hby d_prog_65_method_1_code_10) rfl rfl rfl ?_
  refine q_putF (pc' := 14) X hx hZ hown (hb hby d_prog_65_method_1_code_11) (host := "") (Or.inl (t24 hw)) eT F_method_o0 E_o0 (Or.inr ⟨(t25 hw), rfl, hnm⟩) (t9 hw) (ty := (.object "com/example/tallystone/tallystone/model/RevenueMethod")) (by decide) rfl rfl rfl ?_
  intro T h_2 X eT Wx
  have N := Fr.snoc X N g_o0
  have O := ext_wr O Wx g_o0
  have KK := KK.wr Wx (Or.inl (List.mem_of_getElem? (i := 0) rfl))
  have E_o0 := E_o0.wr Wx
  have F_id_o0 := F_id_o0.other Wx (Or.inr (slot_ne (Or.inr (t23 hw)) (Or.inr (t25 hw)) (by decide) (t := (.object "java/lang/String")) (t' := (.object "com/example/tallystone/tallystone/model/RevenueMethod")) (by decide) (by decide)))
  have F_method_o0 := F_method_o0.same Wx
  have F_laborSchedule_o0 := F_laborSchedule_o0.other Wx (Or.inr (slot_ne (Or.inr (t27 hw)) (Or.inr (t25 hw)) (by decide) (t := (.object "com/example/tallystone/tallystone/model/RateSchedule")) (t' := (.object "com/example/tallystone/tallystone/model/RevenueMethod")) (by decide) (by decide)))
  have F_nonlaborSchedule_o0 := F_nonlaborSchedule_o0.other Wx (Or.inr (slot_ne (Or.inr (t29 hw)) (Or.inr (t25 hw)) (by decide) (t := (.object "com/example/tallystone/tallystone/model/RateSchedule")) (t' := (.object "com/example/tallystone/tallystone/model/RevenueMethod")) (by decide) (by decide)))
  have F_onHold_o0 := F_onHold_o0.other Wx (Or.inr (slot_ne (Or.inr (t31 hw)) (Or.inr (t25 hw)) (by decide) (t := .boolean) (t' := (.object "com/example/tallystone/tallystone/model/RevenueMethod")) (by decide) (by decide)))
  have F_calculationLevel_o0 := F_calculationLevel_o0.other Wx (Or.inr (slot_ne (Or.inr (t33 hw)) (Or.inr (t25 hw)) (by decide) (t := (.object "com/example/tallystone/tallystone/model/CalculationLevel")) (t' := (.object "com/example/tallystone/tallystone/model/RevenueMethod")) (by decide) (by decide)))
  have F_progressBasis_o0 := F_progressBasis_o0.other Wx (Or.inr (slot_ne (Or.inr (t35 hw)) (Or.inr (t25 hw)) (by decide) (t := (.object "com/example/tallystone/tallystone/model/ProgressBasis")) (t' := (.object "com/example/tallystone/tallystone/model/RevenueMethod")) (by decide) (by decide)))
  refine q_aloadN (pc' := 15) X hx (hb hby d_prog_65_method_1_code_14) rfl rfl rfl ?_
  refine q_aloadN (pc' := 16) X hx (hb hby d_prog_65_method_1_code_15) rfl hr_o1 rfl ?_
  refine q_putF (pc' := 19) X hx hZ hown (hb hby d_prog_65_method_1_code_16) (host := "") (Or.inl (t26 hw)) eT F_laborSchedule_o0 E_o0 (Or.inr ⟨(t27 hw), rfl, hnm⟩) (t9 hw) (ty := (.object "com/example/tallystone/tallystone/model/RateSchedule")) (by decide) (Jvm.OwnKit.narrow_ref hr_o1) (fits_isRef rfl hr_o1) rfl ?_
  intro T h_3 X eT Wx
  have N := Fr.snoc X N g_o0
  have O := ext_wr O Wx g_o0
  have KK := KK.wr Wx (Or.inl (List.mem_of_getElem? (i := 0) rfl))
  have E_o0 := E_o0.wr Wx
  have F_id_o0 := F_id_o0.other Wx (Or.inr (slot_ne (Or.inr (t23 hw)) (Or.inr (t27 hw)) (by decide) (t := (.object "java/lang/String")) (t' := (.object "com/example/tallystone/tallystone/model/RateSchedule")) (by decide) (by decide)))
  have F_method_o0 := F_method_o0.other Wx (Or.inr (slot_ne (Or.inr (t25 hw)) (Or.inr (t27 hw)) (by decide) (t := (.object "com/example/tallystone/tallystone/model/RevenueMethod")) (t' := (.object "com/example/tallystone/tallystone/model/RateSchedule")) (by decide) (by decide)))
  have F_laborSchedule_o0 := F_laborSchedule_o0.same Wx
  have F_nonlaborSchedule_o0 := F_nonlaborSchedule_o0.other Wx (Or.inr (slot_ne (Or.inr (t29 hw)) (Or.inr (t27 hw)) (by decide) (t := (.object "com/example/tallystone/tallystone/model/RateSchedule")) (t' := (.object "com/example/tallystone/tallystone/model/RateSchedule")) (by decide) (by decide)))
  have F_onHold_o0 := F_onHold_o0.other Wx (Or.inr (slot_ne (Or.inr (t31 hw)) (Or.inr (t27 hw)) (by decide) (t := .boolean) (t' := (.object "com/example/tallystone/tallystone/model/RateSchedule")) (by decide) (by decide)))
  have F_calculationLevel_o0 := F_calculationLevel_o0.other Wx (Or.inr (slot_ne (Or.inr (t33 hw)) (Or.inr (t27 hw)) (by decide) (t := (.object "com/example/tallystone/tallystone/model/CalculationLevel")) (t' := (.object "com/example/tallystone/tallystone/model/RateSchedule")) (by decide) (by decide)))
  have F_progressBasis_o0 := F_progressBasis_o0.other Wx (Or.inr (slot_ne (Or.inr (t35 hw)) (Or.inr (t27 hw)) (by decide) (t := (.object "com/example/tallystone/tallystone/model/ProgressBasis")) (t' := (.object "com/example/tallystone/tallystone/model/RateSchedule")) (by decide) (by decide)))
  refine q_aloadN (pc' := 20) X hx (hb hby d_prog_65_method_1_code_19) rfl rfl rfl ?_
  refine q_aload (pc' := 22) X hx (hb hby d_prog_65_method_1_code_20) rfl hr_o2 rfl ?_
  refine q_putF (pc' := 25) X hx hZ hown (hb hby d_prog_65_method_1_code_22) (host := "") (Or.inl (t28 hw)) eT F_nonlaborSchedule_o0 E_o0 (Or.inr ⟨(t29 hw), rfl, hnm⟩) (t9 hw) (ty := (.object "com/example/tallystone/tallystone/model/RateSchedule")) (by decide) (Jvm.OwnKit.narrow_ref hr_o2) (fits_isRef rfl hr_o2) rfl ?_
  intro T h_4 X eT Wx
  have N := Fr.snoc X N g_o0
  have O := ext_wr O Wx g_o0
  have KK := KK.wr Wx (Or.inl (List.mem_of_getElem? (i := 0) rfl))
  have E_o0 := E_o0.wr Wx
  have F_id_o0 := F_id_o0.other Wx (Or.inr (slot_ne (Or.inr (t23 hw)) (Or.inr (t29 hw)) (by decide) (t := (.object "java/lang/String")) (t' := (.object "com/example/tallystone/tallystone/model/RateSchedule")) (by decide) (by decide)))
  have F_method_o0 := F_method_o0.other Wx (Or.inr (slot_ne (Or.inr (t25 hw)) (Or.inr (t29 hw)) (by decide) (t := (.object "com/example/tallystone/tallystone/model/RevenueMethod")) (t' := (.object "com/example/tallystone/tallystone/model/RateSchedule")) (by decide) (by decide)))
  have F_laborSchedule_o0 := F_laborSchedule_o0.other Wx (Or.inr (slot_ne (Or.inr (t27 hw)) (Or.inr (t29 hw)) (by decide) (t := (.object "com/example/tallystone/tallystone/model/RateSchedule")) (t' := (.object "com/example/tallystone/tallystone/model/RateSchedule")) (by decide) (by decide)))
  have F_nonlaborSchedule_o0 := F_nonlaborSchedule_o0.same Wx
  have F_onHold_o0 := F_onHold_o0.other Wx (Or.inr (slot_ne (Or.inr (t31 hw)) (Or.inr (t29 hw)) (by decide) (t := .boolean) (t' := (.object "com/example/tallystone/tallystone/model/RateSchedule")) (by decide) (by decide)))
  have F_calculationLevel_o0 := F_calculationLevel_o0.other Wx (Or.inr (slot_ne (Or.inr (t33 hw)) (Or.inr (t29 hw)) (by decide) (t := (.object "com/example/tallystone/tallystone/model/CalculationLevel")) (t' := (.object "com/example/tallystone/tallystone/model/RateSchedule")) (by decide) (by decide)))
  have F_progressBasis_o0 := F_progressBasis_o0.other Wx (Or.inr (slot_ne (Or.inr (t35 hw)) (Or.inr (t29 hw)) (by decide) (t := (.object "com/example/tallystone/tallystone/model/ProgressBasis")) (t' := (.object "com/example/tallystone/tallystone/model/RateSchedule")) (by decide) (by decide)))
  refine q_aloadN (pc' := 26) X hx (hb hby d_prog_65_method_1_code_25) rfl rfl rfl ?_
  refine q_iload (pc' := 28) X hx (hb hby d_prog_65_method_1_code_26) rfl rfl ?_
  refine q_putFN (pc' := 31) (v' := (.int (0 : Int32))) X hx hZ hown (hb hby d_prog_65_method_1_code_28) (t30 hw) eT F_onHold_o0 E_o0 (Or.inr ⟨(t31 hw), rfl, hnm⟩) (t9 hw) (ty := .boolean) (by decide) rfl rfl rfl ?_
  intro T h_5 X eT Wx
  have N := Fr.snoc X N g_o0
  have O := ext_wr O Wx g_o0
  have KK := KK.wr Wx (Or.inl (List.mem_of_getElem? (i := 0) rfl))
  have E_o0 := E_o0.wr Wx
  have F_id_o0 := F_id_o0.other Wx (Or.inr (slot_ne (Or.inr (t23 hw)) (Or.inr (t31 hw)) (by decide) (t := (.object "java/lang/String")) (t' := .boolean) (by decide) (by decide)))
  have F_method_o0 := F_method_o0.other Wx (Or.inr (slot_ne (Or.inr (t25 hw)) (Or.inr (t31 hw)) (by decide) (t := (.object "com/example/tallystone/tallystone/model/RevenueMethod")) (t' := .boolean) (by decide) (by decide)))
  have F_laborSchedule_o0 := F_laborSchedule_o0.other Wx (Or.inr (slot_ne (Or.inr (t27 hw)) (Or.inr (t31 hw)) (by decide) (t := (.object "com/example/tallystone/tallystone/model/RateSchedule")) (t' := .boolean) (by decide) (by decide)))
  have F_nonlaborSchedule_o0 := F_nonlaborSchedule_o0.other Wx (Or.inr (slot_ne (Or.inr (t29 hw)) (Or.inr (t31 hw)) (by decide) (t := (.object "com/example/tallystone/tallystone/model/RateSchedule")) (t' := .boolean) (by decide) (by decide)))
  have F_onHold_o0 := F_onHold_o0.same Wx
  have F_calculationLevel_o0 := F_calculationLevel_o0.other Wx (Or.inr (slot_ne (Or.inr (t33 hw)) (Or.inr (t31 hw)) (by decide) (t := (.object "com/example/tallystone/tallystone/model/CalculationLevel")) (t' := .boolean) (by decide) (by decide)))
  have F_progressBasis_o0 := F_progressBasis_o0.other Wx (Or.inr (slot_ne (Or.inr (t35 hw)) (Or.inr (t31 hw)) (by decide) (t := (.object "com/example/tallystone/tallystone/model/ProgressBasis")) (t' := .boolean) (by decide) (by decide)))
  refine q_aloadN (pc' := 32) X hx (hb hby d_prog_65_method_1_code_31) rfl rfl rfl ?_
  refine q_aload (pc' := 34) X hx (hb hby d_prog_65_method_1_code_32) rfl rfl rfl ?_
  refine q_putF (pc' := 37) X hx hZ hown (hb hby d_prog_65_method_1_code_34) (host := "") (Or.inl (t32 hw)) eT F_calculationLevel_o0 E_o0 (Or.inr ⟨(t33 hw), rfl, hnm⟩) (t9 hw) (ty := (.object "com/example/tallystone/tallystone/model/CalculationLevel")) (by decide) rfl rfl rfl ?_
  intro T h_6 X eT Wx
  have N := Fr.snoc X N g_o0
  have O := ext_wr O Wx g_o0
  have KK := KK.wr Wx (Or.inl (List.mem_of_getElem? (i := 0) rfl))
  have E_o0 := E_o0.wr Wx
  have F_id_o0 := F_id_o0.other Wx (Or.inr (slot_ne (Or.inr (t23 hw)) (Or.inr (t33 hw)) (by decide) (t := (.object "java/lang/String")) (t' := (.object "com/example/tallystone/tallystone/model/CalculationLevel")) (by decide) (by decide)))
  have F_method_o0 := F_method_o0.other Wx (Or.inr (slot_ne (Or.inr (t25 hw)) (Or.inr (t33 hw)) (by decide) (t := (.object "com/example/tallystone/tallystone/model/RevenueMethod")) (t' := (.object "com/example/tallystone/tallystone/model/CalculationLevel")) (by decide) (by decide)))
  have F_laborSchedule_o0 := F_laborSchedule_o0.other Wx (Or.inr (slot_ne (Or.inr (t27 hw)) (Or.inr (t33 hw)) (by decide) (t := (.object "com/example/tallystone/tallystone/model/RateSchedule")) (t' := (.object "com/example/tallystone/tallystone/model/CalculationLevel")) (by decide) (by decide)))
  have F_nonlaborSchedule_o0 := F_nonlaborSchedule_o0.other Wx (Or.inr (slot_ne (Or.inr (t29 hw)) (Or.inr (t33 hw)) (by decide) (t := (.object "com/example/tallystone/tallystone/model/RateSchedule")) (t' := (.object "com/example/tallystone/tallystone/model/CalculationLevel")) (by decide) (by decide)))
  have F_onHold_o0 := F_onHold_o0.other Wx (Or.inr (slot_ne (Or.inr (t31 hw)) (Or.inr (t33 hw)) (by decide) (t := .boolean) (t' := (.object "com/example/tallystone/tallystone/model/CalculationLevel")) (by decide) (by decide)))
  have F_calculationLevel_o0 := F_calculationLevel_o0.same Wx
  have F_progressBasis_o0 := F_progressBasis_o0.other Wx (Or.inr (slot_ne (Or.inr (t35 hw)) (Or.inr (t33 hw)) (by decide) (t := (.object "com/example/tallystone/tallystone/model/ProgressBasis")) (t' := (.object "com/example/tallystone/tallystone/model/CalculationLevel")) (by decide) (by decide)))
  refine q_aloadN (pc' := 38) X hx (hb hby d_prog_65_method_1_code_37) rfl rfl rfl ?_
  refine q_aload (pc' := 40) X hx (hb hby d_prog_65_method_1_code_38) rfl rfl rfl ?_
  refine q_putF (pc' := 43) X hx hZ hown (hb hby d_prog_65_method_1_code_40) (host := "") (Or.inl (t34 hw)) eT F_progressBasis_o0 E_o0 (Or.inr ⟨(t35 hw), rfl, hnm⟩) (t9 hw) (ty := (.object "com/example/tallystone/tallystone/model/ProgressBasis")) (by decide) rfl rfl rfl ?_
  intro T h_7 X eT Wx
  have N := Fr.snoc X N g_o0
  have O := ext_wr O Wx g_o0
  have KK := KK.wr Wx (Or.inl (List.mem_of_getElem? (i := 0) rfl))
  have E_o0 := E_o0.wr Wx
  have F_id_o0 := F_id_o0.other Wx (Or.inr (slot_ne (Or.inr (t23 hw)) (Or.inr (t35 hw)) (by decide) (t := (.object "java/lang/String")) (t' := (.object "com/example/tallystone/tallystone/model/ProgressBasis")) (by decide) (by decide)))
  have F_method_o0 := F_method_o0.other Wx (Or.inr (slot_ne (Or.inr (t25 hw)) (Or.inr (t35 hw)) (by decide) (t := (.object "com/example/tallystone/tallystone/model/RevenueMethod")) (t' := (.object "com/example/tallystone/tallystone/model/ProgressBasis")) (by decide) (by decide)))
  have F_laborSchedule_o0 := F_laborSchedule_o0.other Wx (Or.inr (slot_ne (Or.inr (t27 hw)) (Or.inr (t35 hw)) (by decide) (t := (.object "com/example/tallystone/tallystone/model/RateSchedule")) (t' := (.object "com/example/tallystone/tallystone/model/ProgressBasis")) (by decide) (by decide)))
  have F_nonlaborSchedule_o0 := F_nonlaborSchedule_o0.other Wx (Or.inr (slot_ne (Or.inr (t29 hw)) (Or.inr (t35 hw)) (by decide) (t := (.object "com/example/tallystone/tallystone/model/RateSchedule")) (t' := (.object "com/example/tallystone/tallystone/model/ProgressBasis")) (by decide) (by decide)))
  have F_onHold_o0 := F_onHold_o0.other Wx (Or.inr (slot_ne (Or.inr (t31 hw)) (Or.inr (t35 hw)) (by decide) (t := .boolean) (t' := (.object "com/example/tallystone/tallystone/model/ProgressBasis")) (by decide) (by decide)))
  have F_calculationLevel_o0 := F_calculationLevel_o0.other Wx (Or.inr (slot_ne (Or.inr (t33 hw)) (Or.inr (t35 hw)) (by decide) (t := (.object "com/example/tallystone/tallystone/model/CalculationLevel")) (t' := (.object "com/example/tallystone/tallystone/model/ProgressBasis")) (by decide) (by decide)))
  have F_progressBasis_o0 := F_progressBasis_o0.same Wx
  refine Run.retV X hx hlk hret (hb hby d_prog_65_method_1_code_43) (by decide) (by decide) ?_
  try rw [eT]
  exact ⟨rfl, N, KK, E_o0, F_id_o0, F_method_o0, F_laborSchedule_o0, F_nonlaborSchedule_o0, F_onHold_o0, F_calculationLevel_o0, F_progressBasis_o0⟩
theorem d_prog_65_method_2_code_7 : decode prog_65_method_2_code 7 = .ok (.aload_n 0, 1) := by decide +kernel
theorem d_prog_65_method_2_code_8 : decode prog_65_method_2_code 8 = .ok (.getfield 17, 3) := by decide +kernel
theorem d_prog_65_method_2_code_11 : decode prog_65_method_2_code 11 = .ok (.goto 7, 3) := by decide +kernel
set_option maxRecDepth 65536 in
set_option maxHeartbeats 40000000 in
theorem c8_schedule {l : Launch} {Z : State} {a0 : Array Value} (hw : ∀ d ∈ tables_1, d.before a0 Z = true) {w_LABOR : Addr} {w_BILL_RATE : Addr} {w_NONLABOR : Addr} {w_BURDEN : Addr} {w_EMPTY : Addr} (wd : World Z w_LABOR w_BILL_RATE w_NONLABOR w_BURDEN w_EMPTY)  {h0 : Heap} (O : Ext Z.heap h0) {o0 : Addr} {o1 : Value} {o2 : Value} (hr_o2 : o2.isRef = true) (hr_o1 : o1.isRef = true) (B_o1 : OldV Z o1 "com/example/tallystone/tallystone/model/RateSchedule") (B_o2 : OldV Z o2 "com/example/tallystone/tallystone/model/RateSchedule") (E_o0 : Exa Z h0 o0 "com/example/tallystone/tallystone/model/RevenuePlan") (F_id_o0 : Fld Z h0 o0 "com/example/tallystone/tallystone/model/RevenuePlan" "id" "Ljava/lang/String;" .null) (F_method_o0 : Fld Z h0 o0 "com/example/tallystone/tallystone/model/RevenuePlan" "method" "Lcom/example/tallystone/tallystone/model/RevenueMethod;" .null) (F_laborSchedule_o0 : Fld Z h0 o0 "com/example/tallystone/tallystone/model/RevenuePlan" "laborSchedule" "Lcom/example/tallystone/tallystone/model/RateSchedule;" o1) (F_nonlaborSchedule_o0 : Fld Z h0 o0 "com/example/tallystone/tallystone/model/RevenuePlan" "nonlaborSchedule" "Lcom/example/tallystone/tallystone/model/RateSchedule;" o2) (F_onHold_o0 : Fld Z h0 o0 "com/example/tallystone/tallystone/model/RevenuePlan" "onHold" "Z" (.int (0 : Int32))) (F_calculationLevel_o0 : Fld Z h0 o0 "com/example/tallystone/tallystone/model/RevenuePlan" "calculationLevel" "Lcom/example/tallystone/tallystone/model/CalculationLevel;" .null) (F_progressBasis_o0 : Fld Z h0 o0 "com/example/tallystone/tallystone/model/RevenuePlan" "progressBasis" "Lcom/example/tallystone/tallystone/model/ProgressBasis;" .null) :
    Ctr l Z y6 prog_65_method_2_code 2 (some (.object "java/util/Optional")) ({ frames := 3, cells := 1, slots := 1, locals := 38 } : Room) #[(.ref o0), (.ref w_LABOR)] h0 (fun v h L => ∃ (r_1 : Addr), v = some (.ref r_1) ∧ Fr Z.heap.size L ∧ Keep h0 h [] ∧ Exa Z h r_1 "java/util/Optional" ∧ Fld Z h r_1 "java/util/Optional" "value" "Ljava/lang/Object;" o1) := by
  refine Ctr.body (plainFor_of_name pn_2) ?_
  intro p e s m below meth c T X hx hby hml hown hnm hret hlk hZ eT
  have hml : c.maxLocals = 2 := hml
  have hown : s.vm.findClass "com/example/tallystone/tallystone/model/RevenuePlan" = some m.cls := hown
  have hnm : meth.name = "schedule" := hnm
  have hret : meth.sig.returnType = (some (.object "java/util/Optional")) := hret
  refine Run.cast (show entryFrame m #[(.ref o0), (.ref w_LABOR)] 2 = mkF m 0 #[.val (.ref o0), .val (.ref w_LABOR)] [] from by first | (simp [entryFrame, mkF, argsToLocals, Value.category]; done) | rfl) ?_
  have wd0 := wd
  obtain ⟨S_w_LABOR, E_w_LABOR, S_w_BILL_RATE, E_w_BILL_RATE, S_w_NONLABOR, E_w_NONLABOR, S_w_BURDEN, E_w_BURDEN, S_w_EMPTY, E_w_EMPTY, F_ordinal_w_NONLABOR, F_ordinal_w_LABOR, F_value_w_EMPTY⟩ := wd
  have wd := wd0
  have N : Fr Z.heap.size [] := Fr.nil _
  have KK : Keep h0 h0 [] := Keep.refl h0 []
  refine q_aloadN (pc' := 1) X hx (hb hby d_prog_65_method_2_code_0) rfl rfl rfl ?_
  refine q_getS (pc' := 4) X hx hZ hown (hb hby d_prog_65_method_2_code_1) (host := "") (Or.inl (t41 hw)) eT (S_w_LABOR.ext O) rfl ?_
  intro T X eT
  refine q_acmp (pc' := 7) (same := true) X hx (hb hby d_prog_65_method_2_code_4) rfl rfl (decide_eq_true rfl) (by decide) (by decide) ?_
  refine q_aloadN (pc' := 8) X hx (hb hby d_prog_65_method_2_code_7) rfl rfl rfl ?_
  refine q_getF (pc' := 11) X hx hZ hown (hb hby d_prog_65_method_2_code_8) (host := "") (Or.inl (t26 hw)) eT F_laborSchedule_o0 rfl ?_
  intro T X eT
  refine q_goto (pc' := 18) X hx (hb hby d_prog_65_method_2_code_11) (by decide) (by decide) ?_
  refine q_callC (pc' := 21) (y := y2) (rest := []) X hx hZ hown (hb hby d_prog_65_method_2_code_18) (t42 hw) (t43 hw) (t44 hw) (t45 hw) (by decide) eT [o1] (own_ofNullable hw wd O hr_o1) (by rw [hml]; rfl) (lenOf pd_4 rfl) (W := 0) rfl (by decide) (by decide) (by decide) (by decide) rfl ?_
  rintro _ T _ X ⟨r_1, rfl, NL, KL, E_r_1, F_value_r_1⟩
  have N := N.app NL
  obtain ⟨h_2, eT⟩ : ∃ z, T.heap = z := ⟨_, rfl⟩
  rw [eT] at KL E_r_1 F_value_r_1
  have O := ext_keep O KL all0
  have KK := KK.trans KL all0
  have E_o0 := E_o0.keep KL
  have F_id_o0 := F_id_o0.keep KL nin0
  have F_method_o0 := F_method_o0.keep KL nin0
  have F_laborSchedule_o0 := F_laborSchedule_o0.keep KL nin0
  have F_nonlaborSchedule_o0 := F_nonlaborSchedule_o0.keep KL nin0
  have F_onHold_o0 := F_onHold_o0.keep KL nin0
  have F_calculationLevel_o0 := F_calculationLevel_o0.keep KL nin0
  have F_progressBasis_o0 := F_progressBasis_o0.keep KL nin0
  show Run p e below _ (T.setTop (mkF m 21 _ [(.ref r_1)]))
  refine Run.retR X hx hlk hret (hb hby d_prog_65_method_2_code_21) rfl rfl (by decide) (by decide) ?_
  try rw [eT]
  exact ⟨r_1, rfl, N, KK, E_r_1, F_value_r_1⟩
set_option maxRecDepth 65536 in
set_option maxHeartbeats 40000000 in
theorem c9_init {l : Launch} {Z : State} {a0 : Array Value} (hw : ∀ d ∈ tables_1, d.before a0 Z = true) {w_LABOR : Addr} {w_BILL_RATE : Addr} {w_NONLABOR : Addr} {w_BURDEN : Addr} {w_EMPTY : Addr} (wd : World Z w_LABOR w_BILL_RATE w_NONLABOR w_BURDEN w_EMPTY)  {h0 : Heap} (O : Ext Z.heap h0) {o0 : Addr} {o1 : Value} {o2 : Value} (hr_o2 : o2.isRef = true) (hr_o1 : o1.isRef = true) (B_o1 : OldV Z o1 "com/example/tallystone/tallystone/model/RateSchedule") (B_o2 : OldV Z o2 "com/example/tallystone/tallystone/model/RateSchedule") (E_o0 : Exa Z h0 o0 "com/example/tallystone/tallystone/model/RevenuePlan") (F_id_o0 : Fld Z h0 o0 "com/example/tallystone/tallystone/model/RevenuePlan" "id" "Ljava/lang/String;" .null) (F_method_o0 : Fld Z h0 o0 "com/example/tallystone/tallystone/model/RevenuePlan" "method" "Lcom/example/tallystone/tallystone/model/RevenueMethod;" .null) (F_laborSchedule_o0 : Fld Z h0 o0 "com/example/tallystone/tallystone/model/RevenuePlan" "laborSchedule" "Lcom/example/tallystone/tallystone/model/RateSchedule;" .null) (F_nonlaborSchedule_o0 : Fld Z h0 o0 "com/example/tallystone/tallystone/model/RevenuePlan" "nonlaborSchedule" "Lcom/example/tallystone/tallystone/model/RateSchedule;" .null) (F_onHold_o0 : Fld Z h0 o0 "com/example/tallystone/tallystone/model/RevenuePlan" "onHold" "Z" (.int (0 : Int32))) (F_calculationLevel_o0 : Fld Z h0 o0 "com/example/tallystone/tallystone/model/RevenuePlan" "calculationLevel" "Lcom/example/tallystone/tallystone/model/CalculationLevel;" .null) (F_progressBasis_o0 : Fld Z h0 o0 "com/example/tallystone/tallystone/model/RevenuePlan" "progressBasis" "Lcom/example/tallystone/tallystone/model/ProgressBasis;" .null) (g_o0 : Z.heap.size ≤ o0) :
    Ctr l Z y5 prog_65_method_1_code 8 none ({ frames := 2, cells := 0, slots := 0, locals := 24 } : Room) #[(.ref o0), .null, .null, o1, o2, (.int (1 : Int32)), .null, .null] h0 (fun v h L => v = none ∧ Fr Z.heap.size L ∧ Keep h0 h [o0] ∧ Exa Z h o0 "com/example/tallystone/tallystone/model/RevenuePlan" ∧ Fld Z h o0 "com/example/tallystone/tallystone/model/RevenuePlan" "id" "Ljava/lang/String;" .null ∧ Fld Z h o0 "com/example/tallystone/tallystone/model/RevenuePlan" "method" "Lcom/example/tallystone/tallystone/model/RevenueMethod;" .null ∧ Fld Z h o0 "com/example/tallystone/tallystone/model/RevenuePlan" "laborSchedule" "Lcom/example/tallystone/tallystone/model/RateSchedule;" o1 ∧ Fld Z h o0 "com/example/tallystone/tallystone/model/RevenuePlan" "nonlaborSchedule" "Lcom/example/tallystone/tallystone/model/RateSchedule;" o2 ∧ Fld Z h o0 "com/example/tallystone/tallystone/model/RevenuePlan" "onHold" "Z" (.int (1 : Int32)) ∧ Fld Z h o0 "com/example/tallystone/tallystone/model/RevenuePlan" "calculationLevel" "Lcom/example/tallystone/tallystone/model/CalculationLevel;" .null ∧ Fld Z h o0 "com/example/tallystone/tallystone/model/RevenuePlan" "progressBasis" "Lcom/example/tallystone/tallystone/model/ProgressBasis;" .null) := by
  refine Ctr.body (plainFor_of_name pn_2) ?_
  intro p e s m below meth c T X hx hby hml hown hnm hret hlk hZ eT
  have hml : c.maxLocals = 8 := hml
  have hown : s.vm.findClass "com/example/tallystone/tallystone/model/RevenuePlan" = some m.cls := hown
  have hnm : meth.name = "<init>" := hnm
  have hret : meth.sig.returnType = none := hret
  refine Run.cast (show entryFrame m #[(.ref o0), .null, .null, o1, o2, (.int (1 : Int32)), .null, .null] 8 = mkF m 0 #[.val (.ref o0), .val .null, .val .null, .val o1, .val o2, .val (.int (1 : Int32)), .val .null, .val .null] [] from by rcases ref_cases hr_o1 with rfl | ⟨_, rfl⟩ <;> rcases ref_cases hr_o2 with rfl | ⟨_, rfl⟩ <;> first | (simp [entryFrame, mkF, argsToLocals, Value.category]; done) | rfl) ?_
  have wd0 := wd
  obtain ⟨S_w_LABOR, E_w_LABOR, S_w_BILL_RATE, E_w_BILL_RATE, S_w_NONLABOR, E_w_NONLABOR, S_w_BURDEN, E_w_BURDEN, S_w_EMPTY, E_w_EMPTY, F_ordinal_w_NONLABOR, F_ordinal_w_LABOR, F_value_w_EMPTY⟩ := wd
  have wd := wd0
  have N : Fr Z.heap.size [] := Fr.nil _
  have KK : Keep h0 h0 [o0] := Keep.refl h0 [o0]
  refine q_aloadN (pc' := 1) X hx (hb hby d_prog_65_method_1_code_0) rfl rfl rfl ?_
  refine q_callN (pc' := 4) (y := y4) (rest := []) (b := o0) X hx hZ hown (hb hby d_prog_65_method_1_code_1) rfl (t14 hw) (t15 hw) (t17 hw) (t18 hw) (by decide) eT [] (c3_init hw wd  O E_o0 F_id_o0 F_method_o0 F_laborSchedule_o0 F_nonlaborSchedule_o0 F_onHold_o0 F_calculationLevel_o0 F_progressBasis_o0) (by rw [hml]; rfl) (lenOf pd_2 rfl) (W := 0) rfl (by decide) (by decide) (by decide) (by decide) rfl ?_
  rintro _ T _ X ⟨rfl, rfl, eT⟩
  rw [List.append_nil] at X
  show Run p e below _ (T.setTop (mkF m 4 _ []))
  refine q_aloadN (pc' := 5) X hx (hb hby d_prog_65_method_1_code_4) rfl rfl rfl ?_
  refine q_aloadN (pc' := 6) X hx (hb hby d_prog_65_method_1_code_5) rfl rfl rfl ?_
  refine q_putF (pc' := 9) X hx hZ hown (hb hby d_prog_65_method_1_code_6) (host := "") (Or.inl (t22 hw)) eT F_id_o0 E_o0 (Or.inr ⟨(t23 hw), rfl, hnm⟩) (t9 hw) (ty := (.object "java/lang/String")) (by decide) rfl rfl rfl ?_
  intro T h_1 X eT Wx
  have N := Fr.snoc X N g_o0
  have O := ext_wr O Wx g_o0
  have KK := KK.wr Wx (Or.inl (List.mem_of_getElem? (i := 0) rfl))
  have E_o0 := E_o0.wr Wx
  have F_id_o0 := F_id_o0.same Wx
  have F_method_o0 := F_method_o0.other Wx (Or.inr (slot_ne (Or.inr (t25 hw)) (Or.inr (t23 hw)) (by decide) (t := (.object "com/example/tallystone/tallystone/model/RevenueMethod")) (t' := (.object "java/lang/String")) (by decide) (by decide)))
  have F_laborSchedule_o0 := F_laborSchedule_o0.other Wx (Or.inr (slot_ne (Or.inr (t27 hw)) (Or.inr (t23 hw)) (by decide) (t := (.object "com/example/tallystone/tallystone/model/RateSchedule")) (t' := (.object "java/lang/String")) (by decide) (by decide)))
  have F_nonlaborSchedule_o0 := F_nonlaborSchedule_o0.other Wx (Or.inr (slot_ne (Or.inr (t29 hw)) (Or.inr (t23 hw)) (by decide) (t := (.object "com/example/tallystone/tallystone/model/RateSchedule")) (t' := (.object "java/lang/String")) (by decide) (by decide)))
  have F_onHold_o0 := F_onHold_o0.other Wx (Or.inr (slot_ne (Or.inr (t31 hw)) (Or.inr (t23 hw)) (by decide) (t := .boolean) (t' := (.object "java/lang/String")) (by decide) (by decide)))
  have F_calculationLevel_o0 := F_calculationLevel_o0.other Wx (Or.inr (slot_ne (Or.inr (t33 hw)) (Or.inr (t23 hw)) (by decide) (t := (.object "com/example/tallystone/tallystone/model/CalculationLevel")) (t' := (.object "java/lang/String")) (by decide) (by decide)))
  have F_progressBasis_o0 := F_progressBasis_o0.other Wx (Or.inr (slot_ne (Or.inr (t35 hw)) (Or.inr (t23 hw)) (by decide) (t := (.object "com/example/tallystone/tallystone/model/ProgressBasis")) (t' := (.object "java/lang/String")) (by decide) (by decide)))
  refine q_aloadN (pc' := 10) X hx (hb hby d_prog_65_method_1_code_9) rfl rfl rfl ?_
  refine q_aloadN (pc' := 11) X hx (hb hby d_prog_65_method_1_code_10) rfl rfl rfl ?_
  refine q_putF (pc' := 14) X hx hZ hown (hb hby d_prog_65_method_1_code_11) (host := "") (Or.inl (t24 hw)) eT F_method_o0 E_o0 (Or.inr ⟨(t25 hw), rfl, hnm⟩) (t9 hw) (ty := (.object "com/example/tallystone/tallystone/model/RevenueMethod")) (by decide) rfl rfl rfl ?_
  intro T h_2 X eT Wx
  have N := Fr.snoc X N g_o0
  have O := ext_wr O Wx g_o0
  have KK := KK.wr Wx (Or.inl (List.mem_of_getElem? (i := 0) rfl))
  have E_o0 := E_o0.wr Wx
  have F_id_o0 := F_id_o0.other Wx (Or.inr (slot_ne (Or.inr (t23 hw)) (Or.inr (t25 hw)) (by decide) (t := (.object "java/lang/String")) (t' := (.object "com/example/tallystone/tallystone/model/RevenueMethod")) (by decide) (by decide)))
  have F_method_o0 := F_method_o0.same Wx
  have F_laborSchedule_o0 := F_laborSchedule_o0.other Wx (Or.inr (slot_ne (Or.inr (t27 hw)) (Or.inr (t25 hw)) (by decide) (t := (.object "com/example/tallystone/tallystone/model/RateSchedule")) (t' := (.object "com/example/tallystone/tallystone/model/RevenueMethod")) (by decide) (by decide)))
  have F_nonlaborSchedule_o0 := F_nonlaborSchedule_o0.other Wx (Or.inr (slot_ne (Or.inr (t29 hw)) (Or.inr (t25 hw)) (by decide) (t := (.object "com/example/tallystone/tallystone/model/RateSchedule")) (t' := (.object "com/example/tallystone/tallystone/model/RevenueMethod")) (by decide) (by decide)))
  have F_onHold_o0 := F_onHold_o0.other Wx (Or.inr (slot_ne (Or.inr (t31 hw)) (Or.inr (t25 hw)) (by decide) (t := .boolean) (t' := (.object "com/example/tallystone/tallystone/model/RevenueMethod")) (by decide) (by decide)))
  have F_calculationLevel_o0 := F_calculationLevel_o0.other Wx (Or.inr (slot_ne (Or.inr (t33 hw)) (Or.inr (t25 hw)) (by decide) (t := (.object "com/example/tallystone/tallystone/model/CalculationLevel")) (t' := (.object "com/example/tallystone/tallystone/model/RevenueMethod")) (by decide) (by decide)))
  have F_progressBasis_o0 := F_progressBasis_o0.other Wx (Or.inr (slot_ne (Or.inr (t35 hw)) (Or.inr (t25 hw)) (by decide) (t := (.object "com/example/tallystone/tallystone/model/ProgressBasis")) (t' := (.object "com/example/tallystone/tallystone/model/RevenueMethod")) (by decide) (by decide)))
  refine q_aloadN (pc' := 15) X hx (hb hby d_prog_65_method_1_code_14) rfl rfl rfl ?_
  refine q_aloadN (pc' := 16) X hx (hb hby d_prog_65_method_1_code_15) rfl hr_o1 rfl ?_
  refine q_putF (pc' := 19) X hx hZ hown (hb hby d_prog_65_method_1_code_16) (host := "") (Or.inl (t26 hw)) eT F_laborSchedule_o0 E_o0 (Or.inr ⟨(t27 hw), rfl, hnm⟩) (t9 hw) (ty := (.object "com/example/tallystone/tallystone/model/RateSchedule")) (by decide) (Jvm.OwnKit.narrow_ref hr_o1) (fits_isRef rfl hr_o1) rfl ?_
  intro T h_3 X eT Wx
  have N := Fr.snoc X N g_o0
  have O := ext_wr O Wx g_o0
  have KK := KK.wr Wx (Or.inl (List.mem_of_getElem? (i := 0) rfl))
  have E_o0 := E_o0.wr Wx
  have F_id_o0 := F_id_o0.other Wx (Or.inr (slot_ne (Or.inr (t23 hw)) (Or.inr (t27 hw)) (by decide) (t := (.object "java/lang/String")) (t' := (.object "com/example/tallystone/tallystone/model/RateSchedule")) (by decide) (by decide)))
  have F_method_o0 := F_method_o0.other Wx (Or.inr (slot_ne (Or.inr (t25 hw)) (Or.inr (t27 hw)) (by decide) (t := (.object "com/example/tallystone/tallystone/model/RevenueMethod")) (t' := (.object "com/example/tallystone/tallystone/model/RateSchedule")) (by decide) (by decide)))
  have F_laborSchedule_o0 := F_laborSchedule_o0.same Wx
  have F_nonlaborSchedule_o0 := F_nonlaborSchedule_o0.other Wx (Or.inr (slot_ne (Or.inr (t29 hw)) (Or.inr (t27 hw)) (by decide) (t := (.object "com/example/tallystone/tallystone/model/RateSchedule")) (t' := (.object "com/example/tallystone/tallystone/model/RateSchedule")) (by decide) (by decide)))
  have F_onHold_o0 := F_onHold_o0.other Wx (Or.inr (slot_ne (Or.inr (t31 hw)) (Or.inr (t27 hw)) (by decide) (t := .boolean) (t' := (.object "com/example/tallystone/tallystone/model/RateSchedule")) (by decide) (by decide)))
  have F_calculationLevel_o0 := F_calculationLevel_o0.other Wx (Or.inr (slot_ne (Or.inr (t33 hw)) (Or.inr (t27 hw)) (by decide) (t := (.object "com/example/tallystone/tallystone/model/CalculationLevel")) (t' := (.object "com/example/tallystone/tallystone/model/RateSchedule")) (by decide) (by decide)))
  have F_progressBasis_o0 := F_progressBasis_o0.other Wx (Or.inr (slot_ne (Or.inr (t35 hw)) (Or.inr (t27 hw)) (by decide) (t := (.object "com/example/tallystone/tallystone/model/ProgressBasis")) (t' := (.object "com/example/tallystone/tallystone/model/RateSchedule")) (by decide) (by decide)))
  refine q_aloadN (pc' := 20) X hx (hb hby d_prog_65_method_1_code_19) rfl rfl rfl ?_
  refine q_aload (pc' := 22) X hx (hb hby d_prog_65_method_1_code_20) rfl hr_o2 rfl ?_
  refine q_putF (pc' := 25) X hx hZ hown (hb hby d_prog_65_method_1_code_22) (host := "") (Or.inl (t28 hw)) eT F_nonlaborSchedule_o0 E_o0 (Or.inr ⟨(t29 hw), rfl, hnm⟩) (t9 hw) (ty := (.object "com/example/tallystone/tallystone/model/RateSchedule")) (by decide) (Jvm.OwnKit.narrow_ref hr_o2) (fits_isRef rfl hr_o2) rfl ?_
  intro T h_4 X eT Wx
  have N := Fr.snoc X N g_o0
  have O := ext_wr O Wx g_o0
  have KK := KK.wr Wx (Or.inl (List.mem_of_getElem? (i := 0) rfl))
  have E_o0 := E_o0.wr Wx
  have F_id_o0 := F_id_o0.other Wx (Or.inr (slot_ne (Or.inr (t23 hw)) (Or.inr (t29 hw)) (by decide) (t := (.object "java/lang/String")) (t' := (.object "com/example/tallystone/tallystone/model/RateSchedule")) (by decide) (by decide)))
  have F_method_o0 := F_method_o0.other Wx (Or.inr (slot_ne (Or.inr (t25 hw)) (Or.inr (t29 hw)) (by decide) (t := (.object "com/example/tallystone/tallystone/model/RevenueMethod")) (t' := (.object "com/example/tallystone/tallystone/model/RateSchedule")) (by decide) (by decide)))
  have F_laborSchedule_o0 := F_laborSchedule_o0.other Wx (Or.inr (slot_ne (Or.inr (t27 hw)) (Or.inr (t29 hw)) (by decide) (t := (.object "com/example/tallystone/tallystone/model/RateSchedule")) (t' := (.object "com/example/tallystone/tallystone/model/RateSchedule")) (by decide) (by decide)))
  have F_nonlaborSchedule_o0 := F_nonlaborSchedule_o0.same Wx
  have F_onHold_o0 := F_onHold_o0.other Wx (Or.inr (slot_ne (Or.inr (t31 hw)) (Or.inr (t29 hw)) (by decide) (t := .boolean) (t' := (.object "com/example/tallystone/tallystone/model/RateSchedule")) (by decide) (by decide)))
  have F_calculationLevel_o0 := F_calculationLevel_o0.other Wx (Or.inr (slot_ne (Or.inr (t33 hw)) (Or.inr (t29 hw)) (by decide) (t := (.object "com/example/tallystone/tallystone/model/CalculationLevel")) (t' := (.object "com/example/tallystone/tallystone/model/RateSchedule")) (by decide) (by decide)))
  have F_progressBasis_o0 := F_progressBasis_o0.other Wx (Or.inr (slot_ne (Or.inr (t35 hw)) (Or.inr (t29 hw)) (by decide) (t := (.object "com/example/tallystone/tallystone/model/ProgressBasis")) (t' := (.object "com/example/tallystone/tallystone/model/RateSchedule")) (by decide) (by decide)))
  refine q_aloadN (pc' := 26) X hx (hb hby d_prog_65_method_1_code_25) rfl rfl rfl ?_
  refine q_iload (pc' := 28) X hx (hb hby d_prog_65_method_1_code_26) rfl rfl ?_
  refine q_putFN (pc' := 31) (v' := (.int (1 : Int32))) X hx hZ hown (hb hby d_prog_65_method_1_code_28) (t30 hw) eT F_onHold_o0 E_o0 (Or.inr ⟨(t31 hw), rfl, hnm⟩) (t9 hw) (ty := .boolean) (by decide) rfl rfl rfl ?_
  intro T h_5 X eT Wx
  have N := Fr.snoc X N g_o0
  have O := ext_wr O Wx g_o0
  have KK := KK.wr Wx (Or.inl (List.mem_of_getElem? (i := 0) rfl))
  have E_o0 := E_o0.wr Wx
  have F_id_o0 := F_id_o0.other Wx (Or.inr (slot_ne (Or.inr (t23 hw)) (Or.inr (t31 hw)) (by decide) (t := (.object "java/lang/String")) (t' := .boolean) (by decide) (by decide)))
  have F_method_o0 := F_method_o0.other Wx (Or.inr (slot_ne (Or.inr (t25 hw)) (Or.inr (t31 hw)) (by decide) (t := (.object "com/example/tallystone/tallystone/model/RevenueMethod")) (t' := .boolean) (by decide) (by decide)))
  have F_laborSchedule_o0 := F_laborSchedule_o0.other Wx (Or.inr (slot_ne (Or.inr (t27 hw)) (Or.inr (t31 hw)) (by decide) (t := (.object "com/example/tallystone/tallystone/model/RateSchedule")) (t' := .boolean) (by decide) (by decide)))
  have F_nonlaborSchedule_o0 := F_nonlaborSchedule_o0.other Wx (Or.inr (slot_ne (Or.inr (t29 hw)) (Or.inr (t31 hw)) (by decide) (t := (.object "com/example/tallystone/tallystone/model/RateSchedule")) (t' := .boolean) (by decide) (by decide)))
  have F_onHold_o0 := F_onHold_o0.same Wx
  have F_calculationLevel_o0 := F_calculationLevel_o0.other Wx (Or.inr (slot_ne (Or.inr (t33 hw)) (Or.inr (t31 hw)) (by decide) (t := (.object "com/example/tallystone/tallystone/model/CalculationLevel")) (t' := .boolean) (by decide) (by decide)))
  have F_progressBasis_o0 := F_progressBasis_o0.other Wx (Or.inr (slot_ne (Or.inr (t35 hw)) (Or.inr (t31 hw)) (by decide) (t := (.object "com/example/tallystone/tallystone/model/ProgressBasis")) (t' := .boolean) (by decide) (by decide)))
  refine q_aloadN (pc' := 32) X hx (hb hby d_prog_65_method_1_code_31) rfl rfl rfl ?_
  refine q_aload (pc' := 34) X hx (hb hby d_prog_65_method_1_code_32) rfl rfl rfl ?_
  refine q_putF (pc' := 37) X hx hZ hown (hb hby d_prog_65_method_1_code_34) (host := "") (Or.inl (t32 hw)) eT F_calculationLevel_o0 E_o0 (Or.inr ⟨(t33 hw), rfl, hnm⟩) (t9 hw) (ty := (.object "com/example/tallystone/tallystone/model/CalculationLevel")) (by decide) rfl rfl rfl ?_
  intro T h_6 X eT Wx
  have N := Fr.snoc X N g_o0
  have O := ext_wr O Wx g_o0
  have KK := KK.wr Wx (Or.inl (List.mem_of_getElem? (i := 0) rfl))
  have E_o0 := E_o0.wr Wx
  have F_id_o0 := F_id_o0.other Wx (Or.inr (slot_ne (Or.inr (t23 hw)) (Or.inr (t33 hw)) (by decide) (t := (.object "java/lang/String")) (t' := (.object "com/example/tallystone/tallystone/model/CalculationLevel")) (by decide) (by decide)))
  have F_method_o0 := F_method_o0.other Wx (Or.inr (slot_ne (Or.inr (t25 hw)) (Or.inr (t33 hw)) (by decide) (t := (.object "com/example/tallystone/tallystone/model/RevenueMethod")) (t' := (.object "com/example/tallystone/tallystone/model/CalculationLevel")) (by decide) (by decide)))
  have F_laborSchedule_o0 := F_laborSchedule_o0.other Wx (Or.inr (slot_ne (Or.inr (t27 hw)) (Or.inr (t33 hw)) (by decide) (t := (.object "com/example/tallystone/tallystone/model/RateSchedule")) (t' := (.object "com/example/tallystone/tallystone/model/CalculationLevel")) (by decide) (by decide)))
  have F_nonlaborSchedule_o0 := F_nonlaborSchedule_o0.other Wx (Or.inr (slot_ne (Or.inr (t29 hw)) (Or.inr (t33 hw)) (by decide) (t := (.object "com/example/tallystone/tallystone/model/RateSchedule")) (t' := (.object "com/example/tallystone/tallystone/model/CalculationLevel")) (by decide) (by decide)))
  have F_onHold_o0 := F_onHold_o0.other Wx (Or.inr (slot_ne (Or.inr (t31 hw)) (Or.inr (t33 hw)) (by decide) (t := .boolean) (t' := (.object "com/example/tallystone/tallystone/model/CalculationLevel")) (by decide) (by decide)))
  have F_calculationLevel_o0 := F_calculationLevel_o0.same Wx
  have F_progressBasis_o0 := F_progressBasis_o0.other Wx (Or.inr (slot_ne (Or.inr (t35 hw)) (Or.inr (t33 hw)) (by decide) (t := (.object "com/example/tallystone/tallystone/model/ProgressBasis")) (t' := (.object "com/example/tallystone/tallystone/model/CalculationLevel")) (by decide) (by decide)))
  refine q_aloadN (pc' := 38) X hx (hb hby d_prog_65_method_1_code_37) rfl rfl rfl ?_
  refine q_aload (pc' := 40) X hx (hb hby d_prog_65_method_1_code_38) rfl rfl rfl ?_
  refine q_putF (pc' := 43) X hx hZ hown (hb hby d_prog_65_method_1_code_40) (host := "") (Or.inl (t34 hw)) eT F_progressBasis_o0 E_o0 (Or.inr ⟨(t35 hw), rfl, hnm⟩) (t9 hw) (ty := (.object "com/example/tallystone/tallystone/model/ProgressBasis")) (by decide) rfl rfl rfl ?_
  intro T h_7 X eT Wx
  have N := Fr.snoc X N g_o0
  have O := ext_wr O Wx g_o0
  have KK := KK.wr Wx (Or.inl (List.mem_of_getElem? (i := 0) rfl))
  have E_o0 := E_o0.wr Wx
  have F_id_o0 := F_id_o0.other Wx (Or.inr (slot_ne (Or.inr (t23 hw)) (Or.inr (t35 hw)) (by decide) (t := (.object "java/lang/String")) (t' := (.object "com/example/tallystone/tallystone/model/ProgressBasis")) (by decide) (by decide)))
  have F_method_o0 := F_method_o0.other Wx (Or.inr (slot_ne (Or.inr (t25 hw)) (Or.inr (t35 hw)) (by decide) (t := (.object "com/example/tallystone/tallystone/model/RevenueMethod")) (t' := (.object "com/example/tallystone/tallystone/model/ProgressBasis")) (by decide) (by decide)))
  have F_laborSchedule_o0 := F_laborSchedule_o0.other Wx (Or.inr (slot_ne (Or.inr (t27 hw)) (Or.inr (t35 hw)) (by decide) (t := (.object "com/example/tallystone/tallystone/model/RateSchedule")) (t' := (.object "com/example/tallystone/tallystone/model/ProgressBasis")) (by decide) (by decide)))
  have F_nonlaborSchedule_o0 := F_nonlaborSchedule_o0.other Wx (Or.inr (slot_ne (Or.inr (t29 hw)) (Or.inr (t35 hw)) (by decide) (t := (.object "com/example/tallystone/tallystone/model/RateSchedule")) (t' := (.object "com/example/tallystone/tallystone/model/ProgressBasis")) (by decide) (by decide)))
  have F_onHold_o0 := F_onHold_o0.other Wx (Or.inr (slot_ne (Or.inr (t31 hw)) (Or.inr (t35 hw)) (by decide) (t := .boolean) (t' := (.object "com/example/tallystone/tallystone/model/ProgressBasis")) (by decide) (by decide)))
  have F_calculationLevel_o0 := F_calculationLevel_o0.other Wx (Or.inr (slot_ne (Or.inr (t33 hw)) (Or.inr (t35 hw)) (by decide) (t := (.object "com/example/tallystone/tallystone/model/CalculationLevel")) (t' := (.object "com/example/tallystone/tallystone/model/ProgressBasis")) (by decide) (by decide)))
  have F_progressBasis_o0 := F_progressBasis_o0.same Wx
  refine Run.retV X hx hlk hret (hb hby d_prog_65_method_1_code_43) (by decide) (by decide) ?_
  try rw [eT]
  exact ⟨rfl, N, KK, E_o0, F_id_o0, F_method_o0, F_laborSchedule_o0, F_nonlaborSchedule_o0, F_onHold_o0, F_calculationLevel_o0, F_progressBasis_o0⟩
set_option maxRecDepth 65536 in
set_option maxHeartbeats 40000000 in
theorem c10_schedule {l : Launch} {Z : State} {a0 : Array Value} (hw : ∀ d ∈ tables_1, d.before a0 Z = true) {w_LABOR : Addr} {w_BILL_RATE : Addr} {w_NONLABOR : Addr} {w_BURDEN : Addr} {w_EMPTY : Addr} (wd : World Z w_LABOR w_BILL_RATE w_NONLABOR w_BURDEN w_EMPTY)  {h0 : Heap} (O : Ext Z.heap h0) {o0 : Addr} {o1 : Value} {o2 : Value} (hr_o2 : o2.isRef = true) (hr_o1 : o1.isRef = true) (B_o1 : OldV Z o1 "com/example/tallystone/tallystone/model/RateSchedule") (B_o2 : OldV Z o2 "com/example/tallystone/tallystone/model/RateSchedule") (E_o0 : Exa Z h0 o0 "com/example/tallystone/tallystone/model/RevenuePlan") (F_id_o0 : Fld Z h0 o0 "com/example/tallystone/tallystone/model/RevenuePlan" "id" "Ljava/lang/String;" .null) (F_method_o0 : Fld Z h0 o0 "com/example/tallystone/tallystone/model/RevenuePlan" "method" "Lcom/example/tallystone/tallystone/model/RevenueMethod;" .null) (F_laborSchedule_o0 : Fld Z h0 o0 "com/example/tallystone/tallystone/model/RevenuePlan" "laborSchedule" "Lcom/example/tallystone/tallystone/model/RateSchedule;" o1) (F_nonlaborSchedule_o0 : Fld Z h0 o0 "com/example/tallystone/tallystone/model/RevenuePlan" "nonlaborSchedule" "Lcom/example/tallystone/tallystone/model/RateSchedule;" o2) (F_onHold_o0 : Fld Z h0 o0 "com/example/tallystone/tallystone/model/RevenuePlan" "onHold" "Z" (.int (1 : Int32))) (F_calculationLevel_o0 : Fld Z h0 o0 "com/example/tallystone/tallystone/model/RevenuePlan" "calculationLevel" "Lcom/example/tallystone/tallystone/model/CalculationLevel;" .null) (F_progressBasis_o0 : Fld Z h0 o0 "com/example/tallystone/tallystone/model/RevenuePlan" "progressBasis" "Lcom/example/tallystone/tallystone/model/ProgressBasis;" .null) :
    Ctr l Z y6 prog_65_method_2_code 2 (some (.object "java/util/Optional")) ({ frames := 3, cells := 1, slots := 1, locals := 38 } : Room) #[(.ref o0), (.ref w_LABOR)] h0 (fun v h L => ∃ (r_1 : Addr), v = some (.ref r_1) ∧ Fr Z.heap.size L ∧ Keep h0 h [] ∧ Exa Z h r_1 "java/util/Optional" ∧ Fld Z h r_1 "java/util/Optional" "value" "Ljava/lang/Object;" o1) := by
  refine Ctr.body (plainFor_of_name pn_2) ?_
  intro p e s m below meth c T X hx hby hml hown hnm hret hlk hZ eT
  have hml : c.maxLocals = 2 := hml
  have hown : s.vm.findClass "com/example/tallystone/tallystone/model/RevenuePlan" = some m.cls := hown
  have hnm : meth.name = "schedule" := hnm
  have hret : meth.sig.returnType = (some (.object "java/util/Optional")) := hret
  refine Run.cast (show entryFrame m #[(.ref o0), (.ref w_LABOR)] 2 = mkF m 0 #[.val (.ref o0), .val (.ref w_LABOR)] [] from by first | (simp [entryFrame, mkF, argsToLocals, Value.category]; done) | rfl) ?_
  have wd0 := wd
  obtain ⟨S_w_LABOR, E_w_LABOR, S_w_BILL_RATE, E_w_BILL_RATE, S_w_NONLABOR, E_w_NONLABOR, S_w_BURDEN, E_w_BURDEN, S_w_EMPTY, E_w_EMPTY, F_ordinal_w_NONLABOR, F_ordinal_w_LABOR, F_value_w_EMPTY⟩ := wd
  have wd := wd0
  have N : Fr Z.heap.size [] := Fr.nil _
  have KK : Keep h0 h0 [] := Keep.refl h0 []
  refine q_aloadN (pc' := 1) X hx (hb hby d_prog_65_method_2_code_0) rfl rfl rfl ?_
  refine q_getS (pc' := 4) X hx hZ hown (hb hby d_prog_65_method_2_code_1) (host := "") (Or.inl (t41 hw)) eT (S_w_LABOR.ext O) rfl ?_
  intro T X eT
  refine q_acmp (pc' := 7) (same := true) X hx (hb hby d_prog_65_method_2_code_4) rfl rfl (decide_eq_true rfl) (by decide) (by decide) ?_
  refine q_aloadN (pc' := 8) X hx (hb hby d_prog_65_method_2_code_7) rfl rfl rfl ?_
  refine q_getF (pc' := 11) X hx hZ hown (hb hby d_prog_65_method_2_code_8) (host := "") (Or.inl (t26 hw)) eT F_laborSchedule_o0 rfl ?_
  intro T X eT
  refine q_goto (pc' := 18) X hx (hb hby d_prog_65_method_2_code_11) (by decide) (by decide) ?_
  refine q_callC (pc' := 21) (y := y2) (rest := []) X hx hZ hown (hb hby d_prog_65_method_2_code_18) (t42 hw) (t43 hw) (t44 hw) (t45 hw) (by decide) eT [o1] (own_ofNullable hw wd O hr_o1) (by rw [hml]; rfl) (lenOf pd_4 rfl) (W := 0) rfl (by decide) (by decide) (by decide) (by decide) rfl ?_
  rintro _ T _ X ⟨r_1, rfl, NL, KL, E_r_1, F_value_r_1⟩
  have N := N.app NL
  obtain ⟨h_2, eT⟩ : ∃ z, T.heap = z := ⟨_, rfl⟩
  rw [eT] at KL E_r_1 F_value_r_1
  have O := ext_keep O KL all0
  have KK := KK.trans KL all0
  have E_o0 := E_o0.keep KL
  have F_id_o0 := F_id_o0.keep KL nin0
  have F_method_o0 := F_method_o0.keep KL nin0
  have F_laborSchedule_o0 := F_laborSchedule_o0.keep KL nin0
  have F_nonlaborSchedule_o0 := F_nonlaborSchedule_o0.keep KL nin0
  have F_onHold_o0 := F_onHold_o0.keep KL nin0
  have F_calculationLevel_o0 := F_calculationLevel_o0.keep KL nin0
  have F_progressBasis_o0 := F_progressBasis_o0.keep KL nin0
  show Run p e below _ (T.setTop (mkF m 21 _ [(.ref r_1)]))
  refine Run.retR X hx hlk hret (hb hby d_prog_65_method_2_code_21) rfl rfl (by decide) (by decide) ?_
  try rw [eT]
  exact ⟨r_1, rfl, N, KK, E_r_1, F_value_r_1⟩
set_option maxRecDepth 65536 in
set_option maxHeartbeats 40000000 in
theorem law_all {l : Launch} {Z : State} {a0 : Array Value} (hw : ∀ d ∈ tables_1, d.before a0 Z = true) {w_LABOR : Addr} {w_BILL_RATE : Addr} {w_NONLABOR : Addr} {w_BURDEN : Addr} {w_EMPTY : Addr} (wd : World Z w_LABOR w_BILL_RATE w_NONLABOR w_BURDEN w_EMPTY) (p1 : Int32) (p2 : Int32) (p3 : Int32) (p4 : Int32) {h0 : Heap} (O : Ext Z.heap h0) :
    Ctr l Z x code maxLocals ret room_1 #[(.int p1), (.int p2), (.int p3), (.int p4)] h0 (fun v h L => v = some (.int (1 : Int32)) ∧ Fr Z.heap.size L) := by
  refine Ctr.body (plainFor_of_name pn_0) ?_
  intro p e s m below meth c T X hx hby hml hown hnm hret hlk hZ eT
  have hml : c.maxLocals = 12 := hml
  have hown : s.vm.findClass "com/example/tallystone/tallystone/model/RevenuePlanSchedulePinLaw" = some m.cls := hown
  have hnm : meth.name = "law" := hnm
  have hret : meth.sig.returnType = (some .boolean) := hret
  refine Run.cast (show entryFrame m #[(.int p1), (.int p2), (.int p3), (.int p4)] maxLocals = mkF m 0 #[.val (.int p1), .val (.int p2), .val (.int p3), .val (.int p4), .unset, .unset, .unset, .unset, .unset, .unset, .unset, .unset] [] from by first | (simp [entryFrame, mkF, argsToLocals, Value.category, maxLocals]; done) | rfl) ?_
  have wd0 := wd
  obtain ⟨S_w_LABOR, E_w_LABOR, S_w_BILL_RATE, E_w_BILL_RATE, S_w_NONLABOR, E_w_NONLABOR, S_w_BURDEN, E_w_BURDEN, S_w_EMPTY, E_w_EMPTY, F_ordinal_w_NONLABOR, F_ordinal_w_LABOR, F_value_w_EMPTY⟩ := wd
  have wd := wd0
  have N : Fr Z.heap.size [] := Fr.nil _
  refine q_iloadN (pc' := 1) X hx (hb hby at_0) rfl rfl ?_
  refine q_iconst (pc' := 2) (z := (1 : Int32)) X hx (hb hby at_1) rfl rfl ?_
  refine q_iand (pc' := 3) (z := (p3 &&& (1 : Int32))) X hx (hb hby at_2) rfl rfl ?_
  rcases Bool.eq_false_or_eq_true (ifCond.holds .ne (p3 &&& (1 : Int32))) with hc3 | hc3
  · refine q_ifYes (pc' := 10) X hx (hb hby at_3) hc3 (by decide) (by decide) ?_
    refine q_iconst (pc' := 11) (z := (0 : Int32)) X hx (hb hby at_10) rfl rfl ?_
    refine q_istore (pc' := 13) (l' := #[.val (.int p1), .val (.int p2), .val (.int p3), .val (.int p4), .val (.int (0 : Int32)), .unset, .unset, .unset, .unset, .unset, .unset, .unset]) X hx (hb hby at_11) rfl rfl ?_
    refine q_iload (pc' := 15) X hx (hb hby at_13) rfl rfl ?_
    refine q_ifYes (pc' := 24) X hx (hb hby at_15) (by decide) (by decide) (by decide) ?_
    refine q_getS (pc' := 27) X hx hZ hown (hb hby at_24) (host := "") (Or.inl (t66 hw)) eT (S_w_NONLABOR.ext O) rfl ?_
    intro T X eT
    refine q_astore (pc' := 29) (l' := #[.val (.int p1), .val (.int p2), .val (.int p3), .val (.int p4), .val (.int (0 : Int32)), .val (.ref w_NONLABOR), .unset, .unset, .unset, .unset, .unset, .unset]) X hx (hb hby at_27) rfl rfl rfl ?_
    refine q_iloadN (pc' := 30) X hx (hb hby at_29) rfl rfl ?_
    refine q_callC (pc' := 33) (y := y0) (rest := []) X hx hZ hown (hb hby at_30) (t3 hw) (t4 hw) (t5 hw) (t6 hw) (by decide) eT [(.int p1)] (own_pick hw wd p1 O) (by rw [hml]; rfl) (lenOf pd_1 rfl) (W := 0) rfl (by decide) (by decide) (by decide) (by decide) rfl ?_
    rintro _ T _ X ⟨vv_1, rfl, rfl, eT, B_vv_1⟩
    rw [List.append_nil] at X
    have hr_vv_1 := B_vv_1.isRef
    show Run p e below _ (T.setTop (mkF m 33 _ [vv_1]))
    refine q_astore (pc' := 35) (l' := #[.val (.int p1), .val (.int p2), .val (.int p3), .val (.int p4), .val (.int (0 : Int32)), .val (.ref w_NONLABOR), .val vv_1, .unset, .unset, .unset, .unset, .unset]) X hx (hb hby at_33) hr_vv_1 (by rcases ref_cases hr_vv_1 with rfl | ⟨_, rfl⟩ <;> rfl) rfl ?_
    refine q_iloadN (pc' := 36) X hx (hb hby at_35) rfl rfl ?_
    refine q_callC (pc' := 39) (y := y0) (rest := []) X hx hZ hown (hb hby at_36) (t3 hw) (t4 hw) (t5 hw) (t6 hw) (by decide) eT [(.int p2)] (own_pick hw wd p2 O) (by rw [hml]; rfl) (lenOf pd_1 rfl) (W := 0) rfl (by decide) (by decide) (by decide) (by decide) rfl ?_
    rintro _ T _ X ⟨vv_2, rfl, rfl, eT, B_vv_2⟩
    rw [List.append_nil] at X
    have hr_vv_2 := B_vv_2.isRef
    show Run p e below _ (T.setTop (mkF m 39 _ [vv_2]))
    refine q_astore (pc' := 41) (l' := #[.val (.int p1), .val (.int p2), .val (.int p3), .val (.int p4), .val (.int (0 : Int32)), .val (.ref w_NONLABOR), .val vv_1, .val vv_2, .unset, .unset, .unset, .unset]) X hx (hb hby at_39) hr_vv_2 (by rcases ref_cases hr_vv_2 with rfl | ⟨_, rfl⟩ <;> rfl) rfl ?_
    refine q_iloadN (pc' := 42) X hx (hb hby at_41) rfl rfl ?_
    refine q_iconst (pc' := 43) (z := (1 : Int32)) X hx (hb hby at_42) rfl rfl ?_
    refine q_iand (pc' := 44) (z := (p4 &&& (1 : Int32))) X hx (hb hby at_43) rfl rfl ?_
    rcases Bool.eq_false_or_eq_true (ifCond.holds .eq (p4 &&& (1 : Int32))) with hc44 | hc44
    · refine q_ifYes (pc' := 51) X hx (hb hby at_44) hc44 (by decide) (by decide) ?_
      refine q_iconst (pc' := 52) (z := (0 : Int32)) X hx (hb hby at_51) rfl rfl ?_
      refine q_istore (pc' := 54) (l' := #[.val (.int p1), .val (.int p2), .val (.int p3), .val (.int p4), .val (.int (0 : Int32)), .val (.ref w_NONLABOR), .val vv_1, .val vv_2, .val (.int (0 : Int32)), .unset, .unset, .unset]) X hx (hb hby at_52) rfl rfl ?_
      refine q_new (pc' := 57) X hx hZ hown (hb hby at_54) (t8 hw) (t9 hw) (t10 hw) eT (by decide) (by decide) rfl ?_
      intro T h_3 b54_2 X eT Ex gb Ax Dx
      have g_b54_2 : Z.heap.size ≤ b54_2 := Nat.le_trans O.1 (Nat.le_of_eq gb.symm)
      have O := ext_trans O Ex
      have E_b54_2 := Ax
      have F_id_b54_2 : Fld Z h_3 b54_2 "com/example/tallystone/tallystone/model/RevenuePlan" "id" "Ljava/lang/String;" .null := Dx (Or.inr (t23 hw)) (ty := (.object "java/lang/String")) (by decide)
      have F_method_b54_2 : Fld Z h_3 b54_2 "com/example/tallystone/tallystone/model/RevenuePlan" "method" "Lcom/example/tallystone/tallystone/model/RevenueMethod;" .null := Dx (Or.inr (t25 hw)) (ty := (.object "com/example/tallystone/tallystone/model/RevenueMethod")) (by decide)
      have F_laborSchedule_b54_2 : Fld Z h_3 b54_2 "com/example/tallystone/tallystone/model/RevenuePlan" "laborSchedule" "Lcom/example/tallystone/tallystone/model/RateSchedule;" .null := Dx (Or.inr (t27 hw)) (ty := (.object "com/example/tallystone/tallystone/model/RateSchedule")) (by decide)
      have F_nonlaborSchedule_b54_2 : Fld Z h_3 b54_2 "com/example/tallystone/tallystone/model/RevenuePlan" "nonlaborSchedule" "Lcom/example/tallystone/tallystone/model/RateSchedule;" .null := Dx (Or.inr (t29 hw)) (ty := (.object "com/example/tallystone/tallystone/model/RateSchedule")) (by decide)
      have F_onHold_b54_2 : Fld Z h_3 b54_2 "com/example/tallystone/tallystone/model/RevenuePlan" "onHold" "Z" (.int (0 : Int32)) := Dx (Or.inr (t31 hw)) (ty := .boolean) (by decide)
      have F_calculationLevel_b54_2 : Fld Z h_3 b54_2 "com/example/tallystone/tallystone/model/RevenuePlan" "calculationLevel" "Lcom/example/tallystone/tallystone/model/CalculationLevel;" .null := Dx (Or.inr (t33 hw)) (ty := (.object "com/example/tallystone/tallystone/model/CalculationLevel")) (by decide)
      have F_progressBasis_b54_2 : Fld Z h_3 b54_2 "com/example/tallystone/tallystone/model/RevenuePlan" "progressBasis" "Lcom/example/tallystone/tallystone/model/ProgressBasis;" .null := Dx (Or.inr (t35 hw)) (ty := (.object "com/example/tallystone/tallystone/model/ProgressBasis")) (by decide)
      refine q_dup (pc' := 58) X hx (hb hby at_57) rfl rfl ?_
      refine q_null (pc' := 59) X hx (hb hby at_58) rfl ?_
      refine q_null (pc' := 60) X hx (hb hby at_59) rfl ?_
      refine q_aload (pc' := 62) X hx (hb hby at_60) rfl hr_vv_1 rfl ?_
      refine q_aload (pc' := 64) X hx (hb hby at_62) rfl hr_vv_2 rfl ?_
      refine q_iload (pc' := 66) X hx (hb hby at_64) rfl rfl ?_
      refine q_null (pc' := 67) X hx (hb hby at_66) rfl ?_
      refine q_null (pc' := 68) X hx (hb hby at_67) rfl ?_
      refine q_callN (pc' := 71) (y := y5) (rest := [(.ref b54_2)]) (b := b54_2) X hx hZ hown (hb hby at_68) rfl (t11 hw) (t12 hw) (t10 hw) (t13 hw) (by decide) eT [.null, .null, vv_1, vv_2, (.int (0 : Int32)), .null, .null] (c2_init hw wd  O hr_vv_2 hr_vv_1 B_vv_1 B_vv_2 E_b54_2 F_id_b54_2 F_method_b54_2 F_laborSchedule_b54_2 F_nonlaborSchedule_b54_2 F_onHold_b54_2 F_calculationLevel_b54_2 F_progressBasis_b54_2 g_b54_2) (by rw [hml]; rfl) (lenOf pd_3 rfl) (W := 1) rfl (by decide) (by decide) (by decide) (by decide) rfl ?_
      rintro _ T _ X ⟨rfl, NL, KL, E_b54_2, F_id_b54_2, F_method_b54_2, F_laborSchedule_b54_2, F_nonlaborSchedule_b54_2, F_onHold_b54_2, F_calculationLevel_b54_2, F_progressBasis_b54_2⟩
      have N := N.app NL
      obtain ⟨h_5, eT⟩ : ∃ z, T.heap = z := ⟨_, rfl⟩
      rw [eT] at KL E_b54_2 F_id_b54_2 F_method_b54_2 F_laborSchedule_b54_2 F_nonlaborSchedule_b54_2 F_onHold_b54_2 F_calculationLevel_b54_2 F_progressBasis_b54_2
      have O := ext_keep O KL (allS g_b54_2 all0)
      show Run p e below _ (T.setTop (mkF m 71 _ [(.ref b54_2)]))
      refine q_astore (pc' := 73) (l' := #[.val (.int p1), .val (.int p2), .val (.int p3), .val (.int p4), .val (.int (0 : Int32)), .val (.ref w_NONLABOR), .val vv_1, .val vv_2, .val (.int (0 : Int32)), .val (.ref b54_2), .unset, .unset]) X hx (hb hby at_71) rfl rfl rfl ?_
      refine q_aload (pc' := 75) X hx (hb hby at_73) rfl rfl rfl ?_
      refine q_aload (pc' := 77) X hx (hb hby at_75) rfl rfl rfl ?_
      refine q_callV (pc' := 80) (y := y6) (rest := []) X hx hZ hown (hb hby at_77) (t36 hw) (t37 hw) (t39 hw) (t38 hw) (t10 hw) (t40 hw) (by decide) eT E_b54_2 [(.ref w_NONLABOR)] (c4_schedule hw wd  O hr_vv_2 hr_vv_1 B_vv_1 B_vv_2 E_b54_2 F_id_b54_2 F_method_b54_2 F_laborSchedule_b54_2 F_nonlaborSchedule_b54_2 F_onHold_b54_2 F_calculationLevel_b54_2 F_progressBasis_b54_2) (by rw [hml]; rfl) (lenOf pd_5 rfl) (W := 0) rfl (by decide) (by decide) (by decide) (by decide) rfl ?_
      rintro _ T _ X ⟨r_1_c6, rfl, NL, KL, E_r_1_c6, F_value_r_1_c6⟩
      have N := N.app NL
      obtain ⟨h_7, eT⟩ : ∃ z, T.heap = z := ⟨_, rfl⟩
      rw [eT] at KL E_r_1_c6 F_value_r_1_c6
      have O := ext_keep O KL all0
      have E_b54_2 := E_b54_2.keep KL
      have F_id_b54_2 := F_id_b54_2.keep KL nin0
      have F_method_b54_2 := F_method_b54_2.keep KL nin0
      have F_laborSchedule_b54_2 := F_laborSchedule_b54_2.keep KL nin0
      have F_nonlaborSchedule_b54_2 := F_nonlaborSchedule_b54_2.keep KL nin0
      have F_onHold_b54_2 := F_onHold_b54_2.keep KL nin0
      have F_calculationLevel_b54_2 := F_calculationLevel_b54_2.keep KL nin0
      have F_progressBasis_b54_2 := F_progressBasis_b54_2.keep KL nin0
      show Run p e below _ (T.setTop (mkF m 80 _ [(.ref r_1_c6)]))
      refine q_null (pc' := 81) X hx (hb hby at_80) rfl ?_
      refine q_callV (pc' := 84) (y := y3) (rest := []) X hx hZ hown (hb hby at_81) (t47 hw) (t48 hw) (t50 hw) (t49 hw) (t44 hw) (t51 hw) (by decide) eT E_r_1_c6 [.null] (own_orElse hw wd O hr_vv_2 F_value_r_1_c6) (by rw [hml]; rfl) (lenOf pd_6 rfl) (W := 0) rfl (by decide) (by decide) (by decide) (by decide) rfl ?_
      rintro _ T _ X ⟨rfl, rfl, eT⟩
      rw [List.append_nil] at X
      show Run p e below _ (T.setTop (mkF m 84 _ [vv_2]))
      refine q_cast (pc' := 87) X hx hZ hown (hb hby at_84) (t64 hw) eT (B_vv_2.ins O) rfl ?_
      intro T X eT
      refine q_astore (pc' := 89) (l' := #[.val (.int p1), .val (.int p2), .val (.int p3), .val (.int p4), .val (.int (0 : Int32)), .val (.ref w_NONLABOR), .val vv_1, .val vv_2, .val (.int (0 : Int32)), .val (.ref b54_2), .val vv_2, .unset]) X hx (hb hby at_87) hr_vv_2 (by rcases ref_cases hr_vv_2 with rfl | ⟨_, rfl⟩ <;> rfl) rfl ?_
      refine q_iload (pc' := 91) X hx (hb hby at_89) rfl rfl ?_
      refine q_ifYes (pc' := 101) X hx (hb hby at_91) (by decide) (by decide) (by decide) ?_
      refine q_aload (pc' := 103) X hx (hb hby at_101) rfl hr_vv_2 rfl ?_
      refine q_astore (pc' := 105) (l' := #[.val (.int p1), .val (.int p2), .val (.int p3), .val (.int p4), .val (.int (0 : Int32)), .val (.ref w_NONLABOR), .val vv_1, .val vv_2, .val (.int (0 : Int32)), .val (.ref b54_2), .val vv_2, .val vv_2]) X hx (hb hby at_103) hr_vv_2 (by rcases ref_cases hr_vv_2 with rfl | ⟨_, rfl⟩ <;> rfl) rfl ?_
      refine q_aload (pc' := 107) X hx (hb hby at_105) rfl hr_vv_2 rfl ?_
      refine q_aload (pc' := 109) X hx (hb hby at_107) rfl hr_vv_2 rfl ?_
      refine q_acmp (pc' := 112) (same := true) X hx (hb hby at_109) hr_vv_2 hr_vv_2 (decide_eq_true rfl) (by decide) (by decide) ?_
      refine q_iconst (pc' := 113) (z := (1 : Int32)) X hx (hb hby at_112) rfl rfl ?_
      refine q_goto (pc' := 117) X hx (hb hby at_113) (by decide) (by decide) ?_
      refine Run.retB X hx hlk hret (hb hby at_117) rfl (by decide) (by decide) ?_
      try rw [eT]
      exact ⟨rfl, N⟩
    · refine q_ifNo (pc' := 47) X hx (hb hby at_44) hc44 rfl ?_
      refine q_iconst (pc' := 48) (z := (1 : Int32)) X hx (hb hby at_47) rfl rfl ?_
      refine q_goto (pc' := 52) X hx (hb hby at_48) (by decide) (by decide) ?_
      refine q_istore (pc' := 54) (l' := #[.val (.int p1), .val (.int p2), .val (.int p3), .val (.int p4), .val (.int (0 : Int32)), .val (.ref w_NONLABOR), .val vv_1, .val vv_2, .val (.int (1 : Int32)), .unset, .unset, .unset]) X hx (hb hby at_52) rfl rfl ?_
      refine q_new (pc' := 57) X hx hZ hown (hb hby at_54) (t8 hw) (t9 hw) (t10 hw) eT (by decide) (by decide) rfl ?_
      intro T h_3 b54_2 X eT Ex gb Ax Dx
      have g_b54_2 : Z.heap.size ≤ b54_2 := Nat.le_trans O.1 (Nat.le_of_eq gb.symm)
      have O := ext_trans O Ex
      have E_b54_2 := Ax
      have F_id_b54_2 : Fld Z h_3 b54_2 "com/example/tallystone/tallystone/model/RevenuePlan" "id" "Ljava/lang/String;" .null := Dx (Or.inr (t23 hw)) (ty := (.object "java/lang/String")) (by decide)
      have F_method_b54_2 : Fld Z h_3 b54_2 "com/example/tallystone/tallystone/model/RevenuePlan" "method" "Lcom/example/tallystone/tallystone/model/RevenueMethod;" .null := Dx (Or.inr (t25 hw)) (ty := (.object "com/example/tallystone/tallystone/model/RevenueMethod")) (by decide)
      have F_laborSchedule_b54_2 : Fld Z h_3 b54_2 "com/example/tallystone/tallystone/model/RevenuePlan" "laborSchedule" "Lcom/example/tallystone/tallystone/model/RateSchedule;" .null := Dx (Or.inr (t27 hw)) (ty := (.object "com/example/tallystone/tallystone/model/RateSchedule")) (by decide)
      have F_nonlaborSchedule_b54_2 : Fld Z h_3 b54_2 "com/example/tallystone/tallystone/model/RevenuePlan" "nonlaborSchedule" "Lcom/example/tallystone/tallystone/model/RateSchedule;" .null := Dx (Or.inr (t29 hw)) (ty := (.object "com/example/tallystone/tallystone/model/RateSchedule")) (by decide)
      have F_onHold_b54_2 : Fld Z h_3 b54_2 "com/example/tallystone/tallystone/model/RevenuePlan" "onHold" "Z" (.int (0 : Int32)) := Dx (Or.inr (t31 hw)) (ty := .boolean) (by decide)
      have F_calculationLevel_b54_2 : Fld Z h_3 b54_2 "com/example/tallystone/tallystone/model/RevenuePlan" "calculationLevel" "Lcom/example/tallystone/tallystone/model/CalculationLevel;" .null := Dx (Or.inr (t33 hw)) (ty := (.object "com/example/tallystone/tallystone/model/CalculationLevel")) (by decide)
      have F_progressBasis_b54_2 : Fld Z h_3 b54_2 "com/example/tallystone/tallystone/model/RevenuePlan" "progressBasis" "Lcom/example/tallystone/tallystone/model/ProgressBasis;" .null := Dx (Or.inr (t35 hw)) (ty := (.object "com/example/tallystone/tallystone/model/ProgressBasis")) (by decide)
      refine q_dup (pc' := 58) X hx (hb hby at_57) rfl rfl ?_
      refine q_null (pc' := 59) X hx (hb hby at_58) rfl ?_
      refine q_null (pc' := 60) X hx (hb hby at_59) rfl ?_
      refine q_aload (pc' := 62) X hx (hb hby at_60) rfl hr_vv_1 rfl ?_
      refine q_aload (pc' := 64) X hx (hb hby at_62) rfl hr_vv_2 rfl ?_
      refine q_iload (pc' := 66) X hx (hb hby at_64) rfl rfl ?_
      refine q_null (pc' := 67) X hx (hb hby at_66) rfl ?_
      refine q_null (pc' := 68) X hx (hb hby at_67) rfl ?_
      refine q_callN (pc' := 71) (y := y5) (rest := [(.ref b54_2)]) (b := b54_2) X hx hZ hown (hb hby at_68) rfl (t11 hw) (t12 hw) (t10 hw) (t13 hw) (by decide) eT [.null, .null, vv_1, vv_2, (.int (1 : Int32)), .null, .null] (c5_init hw wd  O hr_vv_2 hr_vv_1 B_vv_1 B_vv_2 E_b54_2 F_id_b54_2 F_method_b54_2 F_laborSchedule_b54_2 F_nonlaborSchedule_b54_2 F_onHold_b54_2 F_calculationLevel_b54_2 F_progressBasis_b54_2 g_b54_2) (by rw [hml]; rfl) (lenOf pd_3 rfl) (W := 1) rfl (by decide) (by decide) (by decide) (by decide) rfl ?_
      rintro _ T _ X ⟨rfl, NL, KL, E_b54_2, F_id_b54_2, F_method_b54_2, F_laborSchedule_b54_2, F_nonlaborSchedule_b54_2, F_onHold_b54_2, F_calculationLevel_b54_2, F_progressBasis_b54_2⟩
      have N := N.app NL
      obtain ⟨h_5, eT⟩ : ∃ z, T.heap = z := ⟨_, rfl⟩
      rw [eT] at KL E_b54_2 F_id_b54_2 F_method_b54_2 F_laborSchedule_b54_2 F_nonlaborSchedule_b54_2 F_onHold_b54_2 F_calculationLevel_b54_2 F_progressBasis_b54_2
      have O := ext_keep O KL (allS g_b54_2 all0)
      show Run p e below _ (T.setTop (mkF m 71 _ [(.ref b54_2)]))
      refine q_astore (pc' := 73) (l' := #[.val (.int p1), .val (.int p2), .val (.int p3), .val (.int p4), .val (.int (0 : Int32)), .val (.ref w_NONLABOR), .val vv_1, .val vv_2, .val (.int (1 : Int32)), .val (.ref b54_2), .unset, .unset]) X hx (hb hby at_71) rfl rfl rfl ?_
      refine q_aload (pc' := 75) X hx (hb hby at_73) rfl rfl rfl ?_
      refine q_aload (pc' := 77) X hx (hb hby at_75) rfl rfl rfl ?_
      refine q_callV (pc' := 80) (y := y6) (rest := []) X hx hZ hown (hb hby at_77) (t36 hw) (t37 hw) (t39 hw) (t38 hw) (t10 hw) (t40 hw) (by decide) eT E_b54_2 [(.ref w_NONLABOR)] (c6_schedule hw wd  O hr_vv_2 hr_vv_1 B_vv_1 B_vv_2 E_b54_2 F_id_b54_2 F_method_b54_2 F_laborSchedule_b54_2 F_nonlaborSchedule_b54_2 F_onHold_b54_2 F_calculationLevel_b54_2 F_progressBasis_b54_2) (by rw [hml]; rfl) (lenOf pd_5 rfl) (W := 0) rfl (by decide) (by decide) (by decide) (by decide) rfl ?_
      rintro _ T _ X ⟨r_1_c6, rfl, NL, KL, E_r_1_c6, F_value_r_1_c6⟩
      have N := N.app NL
      obtain ⟨h_7, eT⟩ : ∃ z, T.heap = z := ⟨_, rfl⟩
      rw [eT] at KL E_r_1_c6 F_value_r_1_c6
      have O := ext_keep O KL all0
      have E_b54_2 := E_b54_2.keep KL
      have F_id_b54_2 := F_id_b54_2.keep KL nin0
      have F_method_b54_2 := F_method_b54_2.keep KL nin0
      have F_laborSchedule_b54_2 := F_laborSchedule_b54_2.keep KL nin0
      have F_nonlaborSchedule_b54_2 := F_nonlaborSchedule_b54_2.keep KL nin0
      have F_onHold_b54_2 := F_onHold_b54_2.keep KL nin0
      have F_calculationLevel_b54_2 := F_calculationLevel_b54_2.keep KL nin0
      have F_progressBasis_b54_2 := F_progressBasis_b54_2.keep KL nin0
      show Run p e below _ (T.setTop (mkF m 80 _ [(.ref r_1_c6)]))
      refine q_null (pc' := 81) X hx (hb hby at_80) rfl ?_
      refine q_callV (pc' := 84) (y := y3) (rest := []) X hx hZ hown (hb hby at_81) (t47 hw) (t48 hw) (t50 hw) (t49 hw) (t44 hw) (t51 hw) (by decide) eT E_r_1_c6 [.null] (own_orElse hw wd O hr_vv_2 F_value_r_1_c6) (by rw [hml]; rfl) (lenOf pd_6 rfl) (W := 0) rfl (by decide) (by decide) (by decide) (by decide) rfl ?_
      rintro _ T _ X ⟨rfl, rfl, eT⟩
      rw [List.append_nil] at X
      show Run p e below _ (T.setTop (mkF m 84 _ [vv_2]))
      refine q_cast (pc' := 87) X hx hZ hown (hb hby at_84) (t64 hw) eT (B_vv_2.ins O) rfl ?_
      intro T X eT
      refine q_astore (pc' := 89) (l' := #[.val (.int p1), .val (.int p2), .val (.int p3), .val (.int p4), .val (.int (0 : Int32)), .val (.ref w_NONLABOR), .val vv_1, .val vv_2, .val (.int (1 : Int32)), .val (.ref b54_2), .val vv_2, .unset]) X hx (hb hby at_87) hr_vv_2 (by rcases ref_cases hr_vv_2 with rfl | ⟨_, rfl⟩ <;> rfl) rfl ?_
      refine q_iload (pc' := 91) X hx (hb hby at_89) rfl rfl ?_
      refine q_ifYes (pc' := 101) X hx (hb hby at_91) (by decide) (by decide) (by decide) ?_
      refine q_aload (pc' := 103) X hx (hb hby at_101) rfl hr_vv_2 rfl ?_
      refine q_astore (pc' := 105) (l' := #[.val (.int p1), .val (.int p2), .val (.int p3), .val (.int p4), .val (.int (0 : Int32)), .val (.ref w_NONLABOR), .val vv_1, .val vv_2, .val (.int (1 : Int32)), .val (.ref b54_2), .val vv_2, .val vv_2]) X hx (hb hby at_103) hr_vv_2 (by rcases ref_cases hr_vv_2 with rfl | ⟨_, rfl⟩ <;> rfl) rfl ?_
      refine q_aload (pc' := 107) X hx (hb hby at_105) rfl hr_vv_2 rfl ?_
      refine q_aload (pc' := 109) X hx (hb hby at_107) rfl hr_vv_2 rfl ?_
      refine q_acmp (pc' := 112) (same := true) X hx (hb hby at_109) hr_vv_2 hr_vv_2 (decide_eq_true rfl) (by decide) (by decide) ?_
      refine q_iconst (pc' := 113) (z := (1 : Int32)) X hx (hb hby at_112) rfl rfl ?_
      refine q_goto (pc' := 117) X hx (hb hby at_113) (by decide) (by decide) ?_
      refine Run.retB X hx hlk hret (hb hby at_117) rfl (by decide) (by decide) ?_
      try rw [eT]
      exact ⟨rfl, N⟩
  · refine q_ifNo (pc' := 6) X hx (hb hby at_3) hc3 rfl ?_
    refine q_iconst (pc' := 7) (z := (1 : Int32)) X hx (hb hby at_6) rfl rfl ?_
    refine q_goto (pc' := 11) X hx (hb hby at_7) (by decide) (by decide) ?_
    refine q_istore (pc' := 13) (l' := #[.val (.int p1), .val (.int p2), .val (.int p3), .val (.int p4), .val (.int (1 : Int32)), .unset, .unset, .unset, .unset, .unset, .unset, .unset]) X hx (hb hby at_11) rfl rfl ?_
    refine q_iload (pc' := 15) X hx (hb hby at_13) rfl rfl ?_
    refine q_ifNo (pc' := 18) X hx (hb hby at_15) (by decide) rfl ?_
    refine q_getS (pc' := 21) X hx hZ hown (hb hby at_18) (host := "") (Or.inl (t0 hw)) eT (S_w_LABOR.ext O) rfl ?_
    intro T X eT
    refine q_goto (pc' := 27) X hx (hb hby at_21) (by decide) (by decide) ?_
    refine q_astore (pc' := 29) (l' := #[.val (.int p1), .val (.int p2), .val (.int p3), .val (.int p4), .val (.int (1 : Int32)), .val (.ref w_LABOR), .unset, .unset, .unset, .unset, .unset, .unset]) X hx (hb hby at_27) rfl rfl rfl ?_
    refine q_iloadN (pc' := 30) X hx (hb hby at_29) rfl rfl ?_
    refine q_callC (pc' := 33) (y := y0) (rest := []) X hx hZ hown (hb hby at_30) (t3 hw) (t4 hw) (t5 hw) (t6 hw) (by decide) eT [(.int p1)] (own_pick hw wd p1 O) (by rw [hml]; rfl) (lenOf pd_1 rfl) (W := 0) rfl (by decide) (by decide) (by decide) (by decide) rfl ?_
    rintro _ T _ X ⟨vv_1, rfl, rfl, eT, B_vv_1⟩
    rw [List.append_nil] at X
    have hr_vv_1 := B_vv_1.isRef
    show Run p e below _ (T.setTop (mkF m 33 _ [vv_1]))
    refine q_astore (pc' := 35) (l' := #[.val (.int p1), .val (.int p2), .val (.int p3), .val (.int p4), .val (.int (1 : Int32)), .val (.ref w_LABOR), .val vv_1, .unset, .unset, .unset, .unset, .unset]) X hx (hb hby at_33) hr_vv_1 (by rcases ref_cases hr_vv_1 with rfl | ⟨_, rfl⟩ <;> rfl) rfl ?_
    refine q_iloadN (pc' := 36) X hx (hb hby at_35) rfl rfl ?_
    refine q_callC (pc' := 39) (y := y0) (rest := []) X hx hZ hown (hb hby at_36) (t3 hw) (t4 hw) (t5 hw) (t6 hw) (by decide) eT [(.int p2)] (own_pick hw wd p2 O) (by rw [hml]; rfl) (lenOf pd_1 rfl) (W := 0) rfl (by decide) (by decide) (by decide) (by decide) rfl ?_
    rintro _ T _ X ⟨vv_2, rfl, rfl, eT, B_vv_2⟩
    rw [List.append_nil] at X
    have hr_vv_2 := B_vv_2.isRef
    show Run p e below _ (T.setTop (mkF m 39 _ [vv_2]))
    refine q_astore (pc' := 41) (l' := #[.val (.int p1), .val (.int p2), .val (.int p3), .val (.int p4), .val (.int (1 : Int32)), .val (.ref w_LABOR), .val vv_1, .val vv_2, .unset, .unset, .unset, .unset]) X hx (hb hby at_39) hr_vv_2 (by rcases ref_cases hr_vv_2 with rfl | ⟨_, rfl⟩ <;> rfl) rfl ?_
    refine q_iloadN (pc' := 42) X hx (hb hby at_41) rfl rfl ?_
    refine q_iconst (pc' := 43) (z := (1 : Int32)) X hx (hb hby at_42) rfl rfl ?_
    refine q_iand (pc' := 44) (z := (p4 &&& (1 : Int32))) X hx (hb hby at_43) rfl rfl ?_
    rcases Bool.eq_false_or_eq_true (ifCond.holds .eq (p4 &&& (1 : Int32))) with hc44 | hc44
    · refine q_ifYes (pc' := 51) X hx (hb hby at_44) hc44 (by decide) (by decide) ?_
      refine q_iconst (pc' := 52) (z := (0 : Int32)) X hx (hb hby at_51) rfl rfl ?_
      refine q_istore (pc' := 54) (l' := #[.val (.int p1), .val (.int p2), .val (.int p3), .val (.int p4), .val (.int (1 : Int32)), .val (.ref w_LABOR), .val vv_1, .val vv_2, .val (.int (0 : Int32)), .unset, .unset, .unset]) X hx (hb hby at_52) rfl rfl ?_
      refine q_new (pc' := 57) X hx hZ hown (hb hby at_54) (t8 hw) (t9 hw) (t10 hw) eT (by decide) (by decide) rfl ?_
      intro T h_3 b54_2 X eT Ex gb Ax Dx
      have g_b54_2 : Z.heap.size ≤ b54_2 := Nat.le_trans O.1 (Nat.le_of_eq gb.symm)
      have O := ext_trans O Ex
      have E_b54_2 := Ax
      have F_id_b54_2 : Fld Z h_3 b54_2 "com/example/tallystone/tallystone/model/RevenuePlan" "id" "Ljava/lang/String;" .null := Dx (Or.inr (t23 hw)) (ty := (.object "java/lang/String")) (by decide)
      have F_method_b54_2 : Fld Z h_3 b54_2 "com/example/tallystone/tallystone/model/RevenuePlan" "method" "Lcom/example/tallystone/tallystone/model/RevenueMethod;" .null := Dx (Or.inr (t25 hw)) (ty := (.object "com/example/tallystone/tallystone/model/RevenueMethod")) (by decide)
      have F_laborSchedule_b54_2 : Fld Z h_3 b54_2 "com/example/tallystone/tallystone/model/RevenuePlan" "laborSchedule" "Lcom/example/tallystone/tallystone/model/RateSchedule;" .null := Dx (Or.inr (t27 hw)) (ty := (.object "com/example/tallystone/tallystone/model/RateSchedule")) (by decide)
      have F_nonlaborSchedule_b54_2 : Fld Z h_3 b54_2 "com/example/tallystone/tallystone/model/RevenuePlan" "nonlaborSchedule" "Lcom/example/tallystone/tallystone/model/RateSchedule;" .null := Dx (Or.inr (t29 hw)) (ty := (.object "com/example/tallystone/tallystone/model/RateSchedule")) (by decide)
      have F_onHold_b54_2 : Fld Z h_3 b54_2 "com/example/tallystone/tallystone/model/RevenuePlan" "onHold" "Z" (.int (0 : Int32)) := Dx (Or.inr (t31 hw)) (ty := .boolean) (by decide)
      have F_calculationLevel_b54_2 : Fld Z h_3 b54_2 "com/example/tallystone/tallystone/model/RevenuePlan" "calculationLevel" "Lcom/example/tallystone/tallystone/model/CalculationLevel;" .null := Dx (Or.inr (t33 hw)) (ty := (.object "com/example/tallystone/tallystone/model/CalculationLevel")) (by decide)
      have F_progressBasis_b54_2 : Fld Z h_3 b54_2 "com/example/tallystone/tallystone/model/RevenuePlan" "progressBasis" "Lcom/example/tallystone/tallystone/model/ProgressBasis;" .null := Dx (Or.inr (t35 hw)) (ty := (.object "com/example/tallystone/tallystone/model/ProgressBasis")) (by decide)
      refine q_dup (pc' := 58) X hx (hb hby at_57) rfl rfl ?_
      refine q_null (pc' := 59) X hx (hb hby at_58) rfl ?_
      refine q_null (pc' := 60) X hx (hb hby at_59) rfl ?_
      refine q_aload (pc' := 62) X hx (hb hby at_60) rfl hr_vv_1 rfl ?_
      refine q_aload (pc' := 64) X hx (hb hby at_62) rfl hr_vv_2 rfl ?_
      refine q_iload (pc' := 66) X hx (hb hby at_64) rfl rfl ?_
      refine q_null (pc' := 67) X hx (hb hby at_66) rfl ?_
      refine q_null (pc' := 68) X hx (hb hby at_67) rfl ?_
      refine q_callN (pc' := 71) (y := y5) (rest := [(.ref b54_2)]) (b := b54_2) X hx hZ hown (hb hby at_68) rfl (t11 hw) (t12 hw) (t10 hw) (t13 hw) (by decide) eT [.null, .null, vv_1, vv_2, (.int (0 : Int32)), .null, .null] (c7_init hw wd  O hr_vv_2 hr_vv_1 B_vv_1 B_vv_2 E_b54_2 F_id_b54_2 F_method_b54_2 F_laborSchedule_b54_2 F_nonlaborSchedule_b54_2 F_onHold_b54_2 F_calculationLevel_b54_2 F_progressBasis_b54_2 g_b54_2) (by rw [hml]; rfl) (lenOf pd_3 rfl) (W := 1) rfl (by decide) (by decide) (by decide) (by decide) rfl ?_
      rintro _ T _ X ⟨rfl, NL, KL, E_b54_2, F_id_b54_2, F_method_b54_2, F_laborSchedule_b54_2, F_nonlaborSchedule_b54_2, F_onHold_b54_2, F_calculationLevel_b54_2, F_progressBasis_b54_2⟩
      have N := N.app NL
      obtain ⟨h_5, eT⟩ : ∃ z, T.heap = z := ⟨_, rfl⟩
      rw [eT] at KL E_b54_2 F_id_b54_2 F_method_b54_2 F_laborSchedule_b54_2 F_nonlaborSchedule_b54_2 F_onHold_b54_2 F_calculationLevel_b54_2 F_progressBasis_b54_2
      have O := ext_keep O KL (allS g_b54_2 all0)
      show Run p e below _ (T.setTop (mkF m 71 _ [(.ref b54_2)]))
      refine q_astore (pc' := 73) (l' := #[.val (.int p1), .val (.int p2), .val (.int p3), .val (.int p4), .val (.int (1 : Int32)), .val (.ref w_LABOR), .val vv_1, .val vv_2, .val (.int (0 : Int32)), .val (.ref b54_2), .unset, .unset]) X hx (hb hby at_71) rfl rfl rfl ?_
      refine q_aload (pc' := 75) X hx (hb hby at_73) rfl rfl rfl ?_
      refine q_aload (pc' := 77) X hx (hb hby at_75) rfl rfl rfl ?_
      refine q_callV (pc' := 80) (y := y6) (rest := []) X hx hZ hown (hb hby at_77) (t36 hw) (t37 hw) (t39 hw) (t38 hw) (t10 hw) (t40 hw) (by decide) eT E_b54_2 [(.ref w_LABOR)] (c8_schedule hw wd  O hr_vv_2 hr_vv_1 B_vv_1 B_vv_2 E_b54_2 F_id_b54_2 F_method_b54_2 F_laborSchedule_b54_2 F_nonlaborSchedule_b54_2 F_onHold_b54_2 F_calculationLevel_b54_2 F_progressBasis_b54_2) (by rw [hml]; rfl) (lenOf pd_5 rfl) (W := 0) rfl (by decide) (by decide) (by decide) (by decide) rfl ?_
      rintro _ T _ X ⟨r_1_c6, rfl, NL, KL, E_r_1_c6, F_value_r_1_c6⟩
      have N := N.app NL
      obtain ⟨h_7, eT⟩ : ∃ z, T.heap = z := ⟨_, rfl⟩
      rw [eT] at KL E_r_1_c6 F_value_r_1_c6
      have O := ext_keep O KL all0
      have E_b54_2 := E_b54_2.keep KL
      have F_id_b54_2 := F_id_b54_2.keep KL nin0
      have F_method_b54_2 := F_method_b54_2.keep KL nin0
      have F_laborSchedule_b54_2 := F_laborSchedule_b54_2.keep KL nin0
      have F_nonlaborSchedule_b54_2 := F_nonlaborSchedule_b54_2.keep KL nin0
      have F_onHold_b54_2 := F_onHold_b54_2.keep KL nin0
      have F_calculationLevel_b54_2 := F_calculationLevel_b54_2.keep KL nin0
      have F_progressBasis_b54_2 := F_progressBasis_b54_2.keep KL nin0
      show Run p e below _ (T.setTop (mkF m 80 _ [(.ref r_1_c6)]))
      refine q_null (pc' := 81) X hx (hb hby at_80) rfl ?_
      refine q_callV (pc' := 84) (y := y3) (rest := []) X hx hZ hown (hb hby at_81) (t47 hw) (t48 hw) (t50 hw) (t49 hw) (t44 hw) (t51 hw) (by decide) eT E_r_1_c6 [.null] (own_orElse hw wd O hr_vv_1 F_value_r_1_c6) (by rw [hml]; rfl) (lenOf pd_6 rfl) (W := 0) rfl (by decide) (by decide) (by decide) (by decide) rfl ?_
      rintro _ T _ X ⟨rfl, rfl, eT⟩
      rw [List.append_nil] at X
      show Run p e below _ (T.setTop (mkF m 84 _ [vv_1]))
      refine q_cast (pc' := 87) X hx hZ hown (hb hby at_84) (t64 hw) eT (B_vv_1.ins O) rfl ?_
      intro T X eT
      refine q_astore (pc' := 89) (l' := #[.val (.int p1), .val (.int p2), .val (.int p3), .val (.int p4), .val (.int (1 : Int32)), .val (.ref w_LABOR), .val vv_1, .val vv_2, .val (.int (0 : Int32)), .val (.ref b54_2), .val vv_1, .unset]) X hx (hb hby at_87) hr_vv_1 (by rcases ref_cases hr_vv_1 with rfl | ⟨_, rfl⟩ <;> rfl) rfl ?_
      refine q_iload (pc' := 91) X hx (hb hby at_89) rfl rfl ?_
      refine q_ifNo (pc' := 94) X hx (hb hby at_91) (by decide) rfl ?_
      refine q_aload (pc' := 96) X hx (hb hby at_94) rfl hr_vv_1 rfl ?_
      refine q_astore (pc' := 98) (l' := #[.val (.int p1), .val (.int p2), .val (.int p3), .val (.int p4), .val (.int (1 : Int32)), .val (.ref w_LABOR), .val vv_1, .val vv_2, .val (.int (0 : Int32)), .val (.ref b54_2), .val vv_1, .val vv_1]) X hx (hb hby at_96) hr_vv_1 (by rcases ref_cases hr_vv_1 with rfl | ⟨_, rfl⟩ <;> rfl) rfl ?_
      refine q_goto (pc' := 105) X hx (hb hby at_98) (by decide) (by decide) ?_
      refine q_aload (pc' := 107) X hx (hb hby at_105) rfl hr_vv_1 rfl ?_
      refine q_aload (pc' := 109) X hx (hb hby at_107) rfl hr_vv_1 rfl ?_
      refine q_acmp (pc' := 112) (same := true) X hx (hb hby at_109) hr_vv_1 hr_vv_1 (decide_eq_true rfl) (by decide) (by decide) ?_
      refine q_iconst (pc' := 113) (z := (1 : Int32)) X hx (hb hby at_112) rfl rfl ?_
      refine q_goto (pc' := 117) X hx (hb hby at_113) (by decide) (by decide) ?_
      refine Run.retB X hx hlk hret (hb hby at_117) rfl (by decide) (by decide) ?_
      try rw [eT]
      exact ⟨rfl, N⟩
    · refine q_ifNo (pc' := 47) X hx (hb hby at_44) hc44 rfl ?_
      refine q_iconst (pc' := 48) (z := (1 : Int32)) X hx (hb hby at_47) rfl rfl ?_
      refine q_goto (pc' := 52) X hx (hb hby at_48) (by decide) (by decide) ?_
      refine q_istore (pc' := 54) (l' := #[.val (.int p1), .val (.int p2), .val (.int p3), .val (.int p4), .val (.int (1 : Int32)), .val (.ref w_LABOR), .val vv_1, .val vv_2, .val (.int (1 : Int32)), .unset, .unset, .unset]) X hx (hb hby at_52) rfl rfl ?_
      refine q_new (pc' := 57) X hx hZ hown (hb hby at_54) (t8 hw) (t9 hw) (t10 hw) eT (by decide) (by decide) rfl ?_
      intro T h_3 b54_2 X eT Ex gb Ax Dx
      have g_b54_2 : Z.heap.size ≤ b54_2 := Nat.le_trans O.1 (Nat.le_of_eq gb.symm)
      have O := ext_trans O Ex
      have E_b54_2 := Ax
      have F_id_b54_2 : Fld Z h_3 b54_2 "com/example/tallystone/tallystone/model/RevenuePlan" "id" "Ljava/lang/String;" .null := Dx (Or.inr (t23 hw)) (ty := (.object "java/lang/String")) (by decide)
      have F_method_b54_2 : Fld Z h_3 b54_2 "com/example/tallystone/tallystone/model/RevenuePlan" "method" "Lcom/example/tallystone/tallystone/model/RevenueMethod;" .null := Dx (Or.inr (t25 hw)) (ty := (.object "com/example/tallystone/tallystone/model/RevenueMethod")) (by decide)
      have F_laborSchedule_b54_2 : Fld Z h_3 b54_2 "com/example/tallystone/tallystone/model/RevenuePlan" "laborSchedule" "Lcom/example/tallystone/tallystone/model/RateSchedule;" .null := Dx (Or.inr (t27 hw)) (ty := (.object "com/example/tallystone/tallystone/model/RateSchedule")) (by decide)
      have F_nonlaborSchedule_b54_2 : Fld Z h_3 b54_2 "com/example/tallystone/tallystone/model/RevenuePlan" "nonlaborSchedule" "Lcom/example/tallystone/tallystone/model/RateSchedule;" .null := Dx (Or.inr (t29 hw)) (ty := (.object "com/example/tallystone/tallystone/model/RateSchedule")) (by decide)
      have F_onHold_b54_2 : Fld Z h_3 b54_2 "com/example/tallystone/tallystone/model/RevenuePlan" "onHold" "Z" (.int (0 : Int32)) := Dx (Or.inr (t31 hw)) (ty := .boolean) (by decide)
      have F_calculationLevel_b54_2 : Fld Z h_3 b54_2 "com/example/tallystone/tallystone/model/RevenuePlan" "calculationLevel" "Lcom/example/tallystone/tallystone/model/CalculationLevel;" .null := Dx (Or.inr (t33 hw)) (ty := (.object "com/example/tallystone/tallystone/model/CalculationLevel")) (by decide)
      have F_progressBasis_b54_2 : Fld Z h_3 b54_2 "com/example/tallystone/tallystone/model/RevenuePlan" "progressBasis" "Lcom/example/tallystone/tallystone/model/ProgressBasis;" .null := Dx (Or.inr (t35 hw)) (ty := (.object "com/example/tallystone/tallystone/model/ProgressBasis")) (by decide)
      refine q_dup (pc' := 58) X hx (hb hby at_57) rfl rfl ?_
      refine q_null (pc' := 59) X hx (hb hby at_58) rfl ?_
      refine q_null (pc' := 60) X hx (hb hby at_59) rfl ?_
      refine q_aload (pc' := 62) X hx (hb hby at_60) rfl hr_vv_1 rfl ?_
      refine q_aload (pc' := 64) X hx (hb hby at_62) rfl hr_vv_2 rfl ?_
      refine q_iload (pc' := 66) X hx (hb hby at_64) rfl rfl ?_
      refine q_null (pc' := 67) X hx (hb hby at_66) rfl ?_
      refine q_null (pc' := 68) X hx (hb hby at_67) rfl ?_
      refine q_callN (pc' := 71) (y := y5) (rest := [(.ref b54_2)]) (b := b54_2) X hx hZ hown (hb hby at_68) rfl (t11 hw) (t12 hw) (t10 hw) (t13 hw) (by decide) eT [.null, .null, vv_1, vv_2, (.int (1 : Int32)), .null, .null] (c9_init hw wd  O hr_vv_2 hr_vv_1 B_vv_1 B_vv_2 E_b54_2 F_id_b54_2 F_method_b54_2 F_laborSchedule_b54_2 F_nonlaborSchedule_b54_2 F_onHold_b54_2 F_calculationLevel_b54_2 F_progressBasis_b54_2 g_b54_2) (by rw [hml]; rfl) (lenOf pd_3 rfl) (W := 1) rfl (by decide) (by decide) (by decide) (by decide) rfl ?_
      rintro _ T _ X ⟨rfl, NL, KL, E_b54_2, F_id_b54_2, F_method_b54_2, F_laborSchedule_b54_2, F_nonlaborSchedule_b54_2, F_onHold_b54_2, F_calculationLevel_b54_2, F_progressBasis_b54_2⟩
      have N := N.app NL
      obtain ⟨h_5, eT⟩ : ∃ z, T.heap = z := ⟨_, rfl⟩
      rw [eT] at KL E_b54_2 F_id_b54_2 F_method_b54_2 F_laborSchedule_b54_2 F_nonlaborSchedule_b54_2 F_onHold_b54_2 F_calculationLevel_b54_2 F_progressBasis_b54_2
      have O := ext_keep O KL (allS g_b54_2 all0)
      show Run p e below _ (T.setTop (mkF m 71 _ [(.ref b54_2)]))
      refine q_astore (pc' := 73) (l' := #[.val (.int p1), .val (.int p2), .val (.int p3), .val (.int p4), .val (.int (1 : Int32)), .val (.ref w_LABOR), .val vv_1, .val vv_2, .val (.int (1 : Int32)), .val (.ref b54_2), .unset, .unset]) X hx (hb hby at_71) rfl rfl rfl ?_
      refine q_aload (pc' := 75) X hx (hb hby at_73) rfl rfl rfl ?_
      refine q_aload (pc' := 77) X hx (hb hby at_75) rfl rfl rfl ?_
      refine q_callV (pc' := 80) (y := y6) (rest := []) X hx hZ hown (hb hby at_77) (t36 hw) (t37 hw) (t39 hw) (t38 hw) (t10 hw) (t40 hw) (by decide) eT E_b54_2 [(.ref w_LABOR)] (c10_schedule hw wd  O hr_vv_2 hr_vv_1 B_vv_1 B_vv_2 E_b54_2 F_id_b54_2 F_method_b54_2 F_laborSchedule_b54_2 F_nonlaborSchedule_b54_2 F_onHold_b54_2 F_calculationLevel_b54_2 F_progressBasis_b54_2) (by rw [hml]; rfl) (lenOf pd_5 rfl) (W := 0) rfl (by decide) (by decide) (by decide) (by decide) rfl ?_
      rintro _ T _ X ⟨r_1_c6, rfl, NL, KL, E_r_1_c6, F_value_r_1_c6⟩
      have N := N.app NL
      obtain ⟨h_7, eT⟩ : ∃ z, T.heap = z := ⟨_, rfl⟩
      rw [eT] at KL E_r_1_c6 F_value_r_1_c6
      have O := ext_keep O KL all0
      have E_b54_2 := E_b54_2.keep KL
      have F_id_b54_2 := F_id_b54_2.keep KL nin0
      have F_method_b54_2 := F_method_b54_2.keep KL nin0
      have F_laborSchedule_b54_2 := F_laborSchedule_b54_2.keep KL nin0
      have F_nonlaborSchedule_b54_2 := F_nonlaborSchedule_b54_2.keep KL nin0
      have F_onHold_b54_2 := F_onHold_b54_2.keep KL nin0
      have F_calculationLevel_b54_2 := F_calculationLevel_b54_2.keep KL nin0
      have F_progressBasis_b54_2 := F_progressBasis_b54_2.keep KL nin0
      show Run p e below _ (T.setTop (mkF m 80 _ [(.ref r_1_c6)]))
      refine q_null (pc' := 81) X hx (hb hby at_80) rfl ?_
      refine q_callV (pc' := 84) (y := y3) (rest := []) X hx hZ hown (hb hby at_81) (t47 hw) (t48 hw) (t50 hw) (t49 hw) (t44 hw) (t51 hw) (by decide) eT E_r_1_c6 [.null] (own_orElse hw wd O hr_vv_1 F_value_r_1_c6) (by rw [hml]; rfl) (lenOf pd_6 rfl) (W := 0) rfl (by decide) (by decide) (by decide) (by decide) rfl ?_
      rintro _ T _ X ⟨rfl, rfl, eT⟩
      rw [List.append_nil] at X
      show Run p e below _ (T.setTop (mkF m 84 _ [vv_1]))
      refine q_cast (pc' := 87) X hx hZ hown (hb hby at_84) (t64 hw) eT (B_vv_1.ins O) rfl ?_
      intro T X eT
      refine q_astore (pc' := 89) (l' := #[.val (.int p1), .val (.int p2), .val (.int p3), .val (.int p4), .val (.int (1 : Int32)), .val (.ref w_LABOR), .val vv_1, .val vv_2, .val (.int (1 : Int32)), .val (.ref b54_2), .val vv_1, .unset]) X hx (hb hby at_87) hr_vv_1 (by rcases ref_cases hr_vv_1 with rfl | ⟨_, rfl⟩ <;> rfl) rfl ?_
      refine q_iload (pc' := 91) X hx (hb hby at_89) rfl rfl ?_
      refine q_ifNo (pc' := 94) X hx (hb hby at_91) (by decide) rfl ?_
      refine q_aload (pc' := 96) X hx (hb hby at_94) rfl hr_vv_1 rfl ?_
      refine q_astore (pc' := 98) (l' := #[.val (.int p1), .val (.int p2), .val (.int p3), .val (.int p4), .val (.int (1 : Int32)), .val (.ref w_LABOR), .val vv_1, .val vv_2, .val (.int (1 : Int32)), .val (.ref b54_2), .val vv_1, .val vv_1]) X hx (hb hby at_96) hr_vv_1 (by rcases ref_cases hr_vv_1 with rfl | ⟨_, rfl⟩ <;> rfl) rfl ?_
      refine q_goto (pc' := 105) X hx (hb hby at_98) (by decide) (by decide) ?_
      refine q_aload (pc' := 107) X hx (hb hby at_105) rfl hr_vv_1 rfl ?_
      refine q_aload (pc' := 109) X hx (hb hby at_107) rfl hr_vv_1 rfl ?_
      refine q_acmp (pc' := 112) (same := true) X hx (hb hby at_109) hr_vv_1 hr_vv_1 (decide_eq_true rfl) (by decide) (by decide) ?_
      refine q_iconst (pc' := 113) (z := (1 : Int32)) X hx (hb hby at_112) rfl rfl ?_
      refine q_goto (pc' := 117) X hx (hb hby at_113) (by decide) (by decide) ?_
      refine Run.retB X hx hlk hret (hb hby at_117) rfl (by decide) (by decide) ?_
      try rw [eT]
      exact ⟨rfl, N⟩
set_option maxRecDepth 65536 in
set_option maxHeartbeats 40000000 in
theorem comes_1 {Post : Tables → Env → Array Value → State → Outcome → State → Prop} (hpost : ∀ tb e args s v u, (limb_1_1.after args s (.returned v) u = true ∧ limb_1_2.after args s (.returned v) u = true ∧ True) → FrameEnd s (.returned v) u (Jvm.fieldLocs frame_1_writes args s ++ Jvm.arrayLocs frame_1_arrays args s ++ Jvm.staticLocs frame_1_statics s) 16 128 → Post tb e args s (.returned v) u) :
    ArmFor flags0 classFile x code maxLocals ret World_1 tables_1 room_1 Calls_1 rest_1 Pre_1 Post := by
  intro l hfl _ _ p e ha hc hk s m args below hf hA hF happ hP
  obtain ⟨hcalls, hrest, hpre⟩ := hP
  obtain ⟨-, -, -, hnamed, -, -, -, hat⟩ := (Spec.applies_iff hf).mp happ
  obtain ⟨hg, hn⟩ := and_e (Cond.before_iff.mp (show (Jvm.Cond.and given_1 narrow_1).before args s = true from hpre))
  obtain ⟨y0_l, y0_r⟩ := and_e hg
  obtain ⟨y1_l, y1_r⟩ := and_e y0_r
  obtain ⟨y2_l, y2_r⟩ := and_e y1_r
  obtain ⟨y3_l, y3_r⟩ := and_e y2_r
  obtain ⟨w0, w1, w2, w3, rfl⟩ : ∃ w0 w1 w2 w3 : Value, args = #[w0, w1, w2, w3] := by
    have hs : args.size = 4 := by simpa [Cond.value, given_1] using y0_l
    obtain ⟨L⟩ := args
    match L, hs with
    | [w0, w1, w2, w3], _ => exact ⟨w0, w1, w2, w3, rfl⟩
  have hw := fun d (hd : d ∈ tables_1) => atoms_spec (ws := Jvm.Cond.code x code maxLocals ret :: tables_1) hat d (List.mem_cons_of_mem _ hd)
  have hfit : Fit s := fun {y c} hc i hi => by
    obtain ⟨ha, rfl⟩ := Array.getElem?_eq_some_iff.mp hc
    have q := List.all_eq_true.mp ((Array.all_eq_true_iff_forall_mem.mp hF) _ (Array.getElem_mem ha)) i (List.mem_range.mpr hi)
    simpa [Array.getElem?_eq_getElem hi] using q
  obtain ⟨hsets, hown0⟩ := atoms_of _ (rest_1_c_eq ▸ (show rest_1_c.before _ s = true from hrest))
  obtain ⟨i0, ei0⟩ := is_v y1_l
  obtain rfl : w0 = (.int i0) := Option.some.inj ei0
  obtain ⟨i1, ei1⟩ := is_v y2_l
  obtain rfl : w1 = (.int i1) := Option.some.inj ei1
  obtain ⟨i2, ei2⟩ := is_v y3_l
  obtain rfl : w2 = (.int i2) := Option.some.inj ei2
  obtain ⟨i3, ei3⟩ := is_v y3_r
  obtain rfl : w3 = (.int i3) := Option.some.inj ei3
  obtain ⟨n0_l, n0_r⟩ := and_e hn
  obtain ⟨n1_l, n1_r⟩ := and_e n0_r
  obtain ⟨n2_l, n2_r⟩ := and_e n1_r
  obtain ⟨n3_l, n3_r⟩ := and_e n2_r
  obtain ⟨n4_l, n4_r⟩ := and_e n3_r
  obtain ⟨w_LABOR, ev_w_LABOR⟩ := exa_v n0_l
  obtain ⟨w_BILL_RATE, ev_w_BILL_RATE⟩ := exa_v n1_l
  obtain ⟨w_NONLABOR, ev_w_NONLABOR⟩ := exa_v n2_l
  obtain ⟨w_BURDEN, ev_w_BURDEN⟩ := exa_v n4_r
  obtain ⟨w_EMPTY, ev_w_EMPTY⟩ := exa_v (Cond.before_iff.mp (hsets _ (List.mem_of_getElem? (i := 2) rfl)))
  have wd : World s w_LABOR w_BILL_RATE w_NONLABOR w_BURDEN w_EMPTY := ⟨(Sta.start ev_w_LABOR (Or.inr ⟨(t1 hw), (t2 hw)⟩)), (Exa.start ev_w_LABOR n0_l), (Sta.start ev_w_BILL_RATE (Or.inr ⟨(t55 hw), (t56 hw)⟩)), (Exa.start ev_w_BILL_RATE n1_l), (Sta.start ev_w_NONLABOR (Or.inr ⟨(t1 hw), (t67 hw)⟩)), (Exa.start ev_w_NONLABOR n2_l), (Sta.start ev_w_BURDEN (Or.inr ⟨(t55 hw), (t69 hw)⟩)), (Exa.start ev_w_BURDEN n4_r), (Sta.start ev_w_EMPTY (Or.inl (hsets _ (List.mem_of_getElem? (i := 1) rfl)))), (Exa.start ev_w_EMPTY (Cond.before_iff.mp (hsets _ (List.mem_of_getElem? (i := 2) rfl)))), (fld_int ev_w_NONLABOR n3_l), (fld_int ev_w_LABOR n4_l), (fld_null ev_w_EMPTY (Cond.before_iff.mp (hsets _ (List.mem_of_getElem? (i := 3) rfl))))⟩
  obtain ⟨n, o, h1, h2, h3, _, L, rfl, ⟨rfl, N⟩, hq⟩ := (law_all hw wd i0 i1 i2 i3 (ext_refl _)) tables_1 p e ha hc hk s m _ below hf ((Spec.applies_iff_loose hf).mp happ).1 ⟨rfl, State.Warmed39.refl s, rfl⟩ trivial
  refine ⟨n, _, h1, h2, h3, hpost _ _ _ _ _ _ ⟨Cond.after_iff.mpr rfl, Cond.after_iff.mpr (eq_i res_at (Term.int_eval (1)) rfl), trivial⟩ ⟨hq.1, hq.2.1, (hq.2.2.sift fun y hy => Or.inr (N y hy)).mono (by decide) (by decide)⟩⟩
theorem main_1_1 : Claimed_1_1 := comes_1 fun _ _ _ _ _ _ h hF => ⟨h.1, hF⟩
theorem main_1_2 : Claimed_1_2 := comes_1 fun _ _ _ _ _ _ h hF => ⟨h.2.1, hF⟩
end Jvm.Pilot.@@N@@
namespace Jvm.Pilot.@@N@@
open Jvm Jvm.ClassFile Sem Op Lib Jvm.Free Jvm.Stand Jvm.Pilot.@@N@@.Jvm.D
/-! MADE BY PROGRAM (witnessworld.py) out of the Statement's table words and the real class files: 17 classes; the members and pool entries that the words name. The judged class is class 1, her method 2. -/
namespace start1
open Jvm.ClassFile
def u (s : String) : CpInfo := .utf8 (stringToUtf16 s)
/-- a pool by its gaps: so many unusable entries, then the entry; so many at the end -/
def gap : Nat → List CpInfo → List CpInfo
  | 0, r => r
  | n + 1, r => .unusable :: gap n r
def poolList (es : List (Nat × CpInfo)) (last : Nat) : List CpInfo := es.foldr (fun e r => gap e.1 (e.2 :: r)) (gap last [])
def pool (es : List (Nat × CpInfo)) (last : Nat) : Array CpInfo := ⟨poolList es last⟩
def fileOf (pool : Array CpInfo) (this : Nat) (attrs : Array Attribute := #[]) (ms : Array MethodInfo := #[]) (fl : Nat := 33) (sup : Nat := 0) (ifs : Array Nat := #[]) (fds : Array FieldInfo := #[]) : ClassFile where
  minorVersion := 0
  majorVersion := 65
  constantPool := pool
  accessFlags := fl
  thisClass := this
  superClass := sup
  interfaces := ifs
  fields := fds
  methods := ms
  attributes := attrs
def plain (name : String) (sup : Option ClassId) : Class where
  name := name
  kind := .ordinary
  loader := none
  accessFlags := 33
  super := sup
  interfaces := #[]
  cf := none
  fields := #[]
  methods := #[]
  instanceTypes := #[]
  staticTypes := #[]
  resolved := #[]
  callSites := []
  init := .initialized
  statics := none
  mirror := none

def pool0 : Array CpInfo := pool [(5, u "<init>"), (0, u "()V"), (1, .class_ 10), (1, u "java/lang/Object")] 113

def k0c0 : Code := { maxStack := 0, maxLocals := 1, code := object_method_1_code, exceptionTable := #[], attributes := #[] }
def k0m0 : Method := { name := "<init>", desc := "()V", sig := { parameters := [], returnType := none }, accessFlags := 1, code := some k0c0 }
/-- java/lang/Object -/
def k0 : Class := { plain "java/lang/Object" none with
  accessFlags := 33
  interfaces := #[]
  cf := some (fileOf pool0 8 #[] #[{ accessFlags := 1, nameIndex := 5, descriptorIndex := 6, attributes := #[] }] 33 0 #[] #[])
  fields := #[]
  methods := #[k0m0]
  instanceTypes := #[]
  staticTypes := #[]
  resolved := Array.replicate 124 none
  statics := none }

def pool1 : Array CpInfo := pool [(2, .class_ 4), (1, u "java/lang/Object"), (0, u "<init>"), (0, u "()V"), (0, .integer 2147483647), (0, .fieldref 9 10), (0, .class_ 11), (0, .nameAndType 12 13), (0, u "com/example/tallystone/tallystone/model/RateSchedule"), (0, u "BILL_RATE"), (0, u "Lcom/example/tallystone/tallystone/model/RateSchedule;"), (0, .fieldref 9 15), (0, .nameAndType 16 13), (0, u "BURDEN"), (0, .fieldref 18 19), (0, .class_ 20), (0, .nameAndType 21 22), (0, u "com/example/tallystone/tallystone/model/ExpenditureKind"), (0, u "LABOR"), (0, u "Lcom/example/tallystone/tallystone/model/ExpenditureKind;"), (0, .fieldref 18 24), (0, .nameAndType 25 22), (0, u "NONLABOR"), (0, .methodref 27 28), (0, .class_ 29), (0, .nameAndType 30 31), (0, u "com/example/tallystone/tallystone/model/RevenuePlanSchedulePinLaw"), (0, u "pick"), (0, u "(I)Lcom/example/tallystone/tallystone/model/RateSchedule;"), (0, .class_ 33), (0, u "com/example/tallystone/tallystone/model/RevenuePlan"), (0, .methodref 32 35), (0, .nameAndType 5 36), (0, u "(Ljava/lang/String;Lcom/example/tallystone/tallystone/model/RevenueMethod;Lcom/example/tallystone/tallystone/model/RateSchedule;Lcom/example/tallystone/tallystone/model/RateSchedule;ZLcom/example/tallystone/tallystone/model/CalculationLevel;Lcom/example/tallystone/tallystone/model/ProgressBasis;)V"), (0, .methodref 32 38), (0, .nameAndType 39 40), (0, u "schedule"), (0, u "(Lcom/example/tallystone/tallystone/model/ExpenditureKind;)Ljava/util/Optional;"), (0, .methodref 42 43), (0, .class_ 44), (0, .nameAndType 45 46), (0, u "java/util/Optional"), (0, u "orElse"), (0, u "(Ljava/lang/Object;)Ljava/lang/Object;"), (3, u "law"), (0, u "(IIII)Z")] 2

def k1m0 : Method := { name := "<init>", desc := "()V", sig := { parameters := [], returnType := none }, accessFlags := 1, code := none }
def k1c1 : Code := { maxStack := 2, maxLocals := 2, code := method_2_code, exceptionTable := #[], attributes := #[] }
def k1m1 : Method := { name := "pick", desc := "(I)Lcom/example/tallystone/tallystone/model/RateSchedule;", sig := { parameters := [.int], returnType := some (.object "com/example/tallystone/tallystone/model/RateSchedule") }, accessFlags := 10, code := some k1c1 }
def k1c2 : Code := { maxStack := 9, maxLocals := 12, code := code, exceptionTable := #[], attributes := #[] }
def k1m2 : Method := { name := "law", desc := "(IIII)Z", sig := { parameters := [.int, .int, .int, .int], returnType := some .boolean }, accessFlags := 9, code := some k1c2 }
/-- com/example/tallystone/tallystone/model/RevenuePlanSchedulePinLaw -/
def k1 : Class := { plain "com/example/tallystone/tallystone/model/RevenuePlanSchedulePinLaw" (some 0) with
  accessFlags := 49
  interfaces := #[]
  cf := some (fileOf pool1 27 #[] #[{ accessFlags := 1, nameIndex := 5, descriptorIndex := 6, attributes := #[] }, { accessFlags := 10, nameIndex := 30, descriptorIndex := 31, attributes := #[] }, { accessFlags := 9, nameIndex := 50, descriptorIndex := 51, attributes := #[] }] 49 2 #[] #[])
  fields := #[]
  methods := #[k1m0, k1m1, k1m2]
  instanceTypes := #[]
  staticTypes := #[]
  resolved := Array.replicate 54 none
  statics := none }

def pool2 : Array CpInfo := pool [(1, .class_ 2), (0, u "java/lang/constant/Constable"), (0, .class_ 4), (0, u "java/lang/Object")] 6

/-- java/lang/constant/Constable -/
def k2 : Class := { plain "java/lang/constant/Constable" (some 0) with
  accessFlags := 1537
  interfaces := #[]
  cf := some (fileOf pool2 1 #[] #[] 1537 3 #[] #[])
  fields := #[]
  methods := #[]
  instanceTypes := #[]
  staticTypes := #[]
  resolved := Array.replicate 11 none
  statics := none }

def pool3 : Array CpInfo := pool [(1, .class_ 2), (0, u "java/lang/Comparable"), (0, .class_ 4), (0, u "java/lang/Object")] 7

/-- java/lang/Comparable -/
def k3 : Class := { plain "java/lang/Comparable" (some 0) with
  accessFlags := 1537
  interfaces := #[]
  cf := some (fileOf pool3 1 #[] #[] 1537 3 #[] #[])
  fields := #[]
  methods := #[]
  instanceTypes := #[]
  staticTypes := #[]
  resolved := Array.replicate 12 none
  statics := none }

def pool4 : Array CpInfo := pool [(1, .class_ 2), (0, u "java/io/Serializable"), (0, .class_ 4), (0, u "java/lang/Object")] 2

/-- java/io/Serializable -/
def k4 : Class := { plain "java/io/Serializable" (some 0) with
  accessFlags := 1537
  interfaces := #[]
  cf := some (fileOf pool4 1 #[] #[] 1537 3 #[] #[])
  fields := #[]
  methods := #[]
  instanceTypes := #[]
  staticTypes := #[]
  resolved := Array.replicate 7 none
  statics := none }

def pool5 : Array CpInfo := pool [(2, .class_ 4), (1, u "java/lang/Enum"), (0, u "name"), (0, u "Ljava/lang/String;"), (2, u "ordinal"), (0, u "I"), (1, .class_ 14), (1, u "java/lang/Object"), (4, u "hash"), (86, .class_ 108), (1, u "java/lang/Enum$EnumDesc"), (2, .class_ 112), (0, u "java/lang/constant/Constable"), (0, .class_ 114), (0, u "java/lang/Comparable"), (0, .class_ 116), (0, u "java/io/Serializable")] 87

/-- java/lang/Enum -/
def k5 : Class := { plain "java/lang/Enum" (some 0) with
  accessFlags := 1057
  interfaces := #[2, 3, 4]
  cf := some (fileOf pool5 2 #[.nestMembers #[106]] #[] 1057 12 #[111, 113, 115] #[{ accessFlags := 18, nameIndex := 5, descriptorIndex := 6, attributes := #[] }, { accessFlags := 18, nameIndex := 9, descriptorIndex := 10, attributes := #[] }, { accessFlags := 2, nameIndex := 19, descriptorIndex := 10, attributes := #[] }])
  fields := #[{ name := "name", type := (.object "java/lang/String"), accessFlags := 18, slot := 0, constantValue := 0 }, { name := "ordinal", type := .int, accessFlags := 18, slot := 1, constantValue := 0 }, { name := "hash", type := .int, accessFlags := 2, slot := 2, constantValue := 0 }]
  methods := #[]
  instanceTypes := #[(.object "java/lang/String"), .int, .int]
  staticTypes := #[]
  resolved := Array.replicate 204 none
  statics := none }

def pool6 : Array CpInfo := pool [(1, .class_ 2), (0, u "com/example/tallystone/tallystone/model/Coded"), (0, .class_ 4), (0, u "java/lang/Object")] 4

/-- com/example/tallystone/tallystone/model/Coded -/
def k6 : Class := { plain "com/example/tallystone/tallystone/model/Coded" (some 0) with
  accessFlags := 1537
  interfaces := #[]
  cf := some (fileOf pool6 1 #[] #[] 1537 3 #[] #[])
  fields := #[]
  methods := #[]
  instanceTypes := #[]
  staticTypes := #[]
  resolved := Array.replicate 9 none
  statics := none }

def pool7 : Array CpInfo := pool [(1, .class_ 2), (0, u "com/example/tallystone/tallystone/model/ExpenditureKind"), (2, u "LABOR"), (0, u "Lcom/example/tallystone/tallystone/model/ExpenditureKind;"), (2, u "NONLABOR"), (2, u "$VALUES"), (0, u "[Lcom/example/tallystone/tallystone/model/ExpenditureKind;"), (6, .class_ 22), (1, u "java/lang/Enum"), (8, u "code"), (0, u "Ljava/lang/String;"), (13, .class_ 47), (0, u "com/example/tallystone/tallystone/model/Coded")] 13

/-- com/example/tallystone/tallystone/model/ExpenditureKind -/
def k7 : Class := { plain "com/example/tallystone/tallystone/model/ExpenditureKind" (some 5) with
  accessFlags := 16433
  interfaces := #[6]
  cf := some (fileOf pool7 1 #[] #[] 16433 20 #[46] #[{ accessFlags := 16409, nameIndex := 5, descriptorIndex := 6, attributes := #[] }, { accessFlags := 16409, nameIndex := 9, descriptorIndex := 6, attributes := #[] }, { accessFlags := 18, nameIndex := 31, descriptorIndex := 32, attributes := #[] }, { accessFlags := 4122, nameIndex := 12, descriptorIndex := 13, attributes := #[] }])
  fields := #[{ name := "LABOR", type := (.object "com/example/tallystone/tallystone/model/ExpenditureKind"), accessFlags := 16409, slot := 0, constantValue := 0 }, { name := "NONLABOR", type := (.object "com/example/tallystone/tallystone/model/ExpenditureKind"), accessFlags := 16409, slot := 1, constantValue := 0 }, { name := "code", type := (.object "java/lang/String"), accessFlags := 18, slot := 3, constantValue := 0 }, { name := "$VALUES", type := (.array (.object "com/example/tallystone/tallystone/model/ExpenditureKind")), accessFlags := 4122, slot := 2, constantValue := 0 }]
  methods := #[]
  instanceTypes := #[(.object "java/lang/String"), .int, .int, (.object "java/lang/String")]
  staticTypes := #[(.object "com/example/tallystone/tallystone/model/ExpenditureKind"), (.object "com/example/tallystone/tallystone/model/ExpenditureKind"), (.array (.object "com/example/tallystone/tallystone/model/ExpenditureKind"))]
  resolved := Array.replicate 61 none
  statics := some 0 }

def pool8 : Array CpInfo := pool [(1, .methodref 2 3), (0, .class_ 4), (0, .nameAndType 5 6), (0, u "java/lang/Object"), (0, u "<init>"), (0, u "()V"), (0, .class_ 8), (0, u "java/lang/Record")] 13

def k8c0 : Code := { maxStack := 1, maxLocals := 1, code := jdk_30_method_1_code, exceptionTable := #[], attributes := #[] }
def k8m0 : Method := { name := "<init>", desc := "()V", sig := { parameters := [], returnType := none }, accessFlags := 4, code := some k8c0 }
/-- java/lang/Record -/
def k8 : Class := { plain "java/lang/Record" (some 0) with
  accessFlags := 1057
  interfaces := #[]
  cf := some (fileOf pool8 7 #[] #[{ accessFlags := 4, nameIndex := 5, descriptorIndex := 6, attributes := #[] }] 1057 2 #[] #[])
  fields := #[]
  methods := #[k8m0]
  instanceTypes := #[]
  staticTypes := #[]
  resolved := Array.replicate 22 none
  statics := none }

def pool9 : Array CpInfo := pool [(1, .methodref 2 3), (0, .class_ 4), (0, .nameAndType 5 6), (0, u "java/lang/Record"), (0, u "<init>"), (0, u "()V"), (0, .fieldref 8 9), (0, .class_ 10), (0, .nameAndType 11 12), (0, u "com/example/tallystone/tallystone/model/RevenuePlan"), (0, u "id"), (0, u "Ljava/lang/String;"), (0, .fieldref 8 14), (0, .nameAndType 15 16), (0, u "method"), (0, u "Lcom/example/tallystone/tallystone/model/RevenueMethod;"), (0, .fieldref 8 18), (0, .nameAndType 19 20), (0, u "laborSchedule"), (0, u "Lcom/example/tallystone/tallystone/model/RateSchedule;"), (0, .fieldref 8 22), (0, .nameAndType 23 20), (0, u "nonlaborSchedule"), (0, .fieldref 8 25), (0, .nameAndType 26 27), (0, u "onHold"), (0, u "Z"), (0, .fieldref 8 29), (0, .nameAndType 30 31), (0, u "calculationLevel"), (0, u "Lcom/example/tallystone/tallystone/model/CalculationLevel;"), (0, .fieldref 8 33), (0, .nameAndType 34 35), (0, u "progressBasis"), (0, u "Lcom/example/tallystone/tallystone/model/ProgressBasis;"), (0, .fieldref 37 38), (0, .class_ 39), (0, .nameAndType 40 41), (0, u "com/example/tallystone/tallystone/model/ExpenditureKind"), (0, u "LABOR"), (0, u "Lcom/example/tallystone/tallystone/model/ExpenditureKind;"), (0, .methodref 43 44), (0, .class_ 45), (0, .nameAndType 46 47), (0, u "java/util/Optional"), (0, u "ofNullable"), (0, u "(Ljava/lang/Object;)Ljava/util/Optional;"), (12, u "(Ljava/lang/String;Lcom/example/tallystone/tallystone/model/RevenueMethod;Lcom/example/tallystone/tallystone/model/RateSchedule;Lcom/example/tallystone/tallystone/model/RateSchedule;ZLcom/example/tallystone/tallystone/model/CalculationLevel;Lcom/example/tallystone/tallystone/model/ProgressBasis;)V"), (3, u "schedule"), (0, u "(Lcom/example/tallystone/tallystone/model/ExpenditureKind;)Ljava/util/Optional;")] 39

def k9c0 : Code := { maxStack := 2, maxLocals := 8, code := prog_65_method_1_code, exceptionTable := #[], attributes := #[] }
def k9m0 : Method := { name := "<init>", desc := "(Ljava/lang/String;Lcom/example/tallystone/tallystone/model/RevenueMethod;Lcom/example/tallystone/tallystone/model/RateSchedule;Lcom/example/tallystone/tallystone/model/RateSchedule;ZLcom/example/tallystone/tallystone/model/CalculationLevel;Lcom/example/tallystone/tallystone/model/ProgressBasis;)V", sig := { parameters := [(.object "java/lang/String"), (.object "com/example/tallystone/tallystone/model/RevenueMethod"), (.object "com/example/tallystone/tallystone/model/RateSchedule"), (.object "com/example/tallystone/tallystone/model/RateSchedule"), .boolean, (.object "com/example/tallystone/tallystone/model/CalculationLevel"), (.object "com/example/tallystone/tallystone/model/ProgressBasis")], returnType := none }, accessFlags := 1, code := some k9c0 }
def k9c1 : Code := { maxStack := 2, maxLocals := 2, code := prog_65_method_2_code, exceptionTable := #[], attributes := #[] }
def k9m1 : Method := { name := "schedule", desc := "(Lcom/example/tallystone/tallystone/model/ExpenditureKind;)Ljava/util/Optional;", sig := { parameters := [(.object "com/example/tallystone/tallystone/model/ExpenditureKind")], returnType := some (.object "java/util/Optional") }, accessFlags := 1, code := some k9c1 }
/-- com/example/tallystone/tallystone/model/RevenuePlan -/
def k9 : Class := { plain "com/example/tallystone/tallystone/model/RevenuePlan" (some 8) with
  accessFlags := 49
  interfaces := #[]
  cf := some (fileOf pool9 8 #[] #[{ accessFlags := 1, nameIndex := 5, descriptorIndex := 60, attributes := #[] }, { accessFlags := 1, nameIndex := 64, descriptorIndex := 65, attributes := #[] }] 49 2 #[] #[{ accessFlags := 18, nameIndex := 11, descriptorIndex := 12, attributes := #[] }, { accessFlags := 18, nameIndex := 15, descriptorIndex := 16, attributes := #[] }, { accessFlags := 18, nameIndex := 19, descriptorIndex := 20, attributes := #[] }, { accessFlags := 18, nameIndex := 23, descriptorIndex := 20, attributes := #[] }, { accessFlags := 18, nameIndex := 26, descriptorIndex := 27, attributes := #[] }, { accessFlags := 18, nameIndex := 30, descriptorIndex := 31, attributes := #[] }, { accessFlags := 18, nameIndex := 34, descriptorIndex := 35, attributes := #[] }])
  fields := #[{ name := "id", type := (.object "java/lang/String"), accessFlags := 18, slot := 0, constantValue := 0 }, { name := "method", type := (.object "com/example/tallystone/tallystone/model/RevenueMethod"), accessFlags := 18, slot := 1, constantValue := 0 }, { name := "laborSchedule", type := (.object "com/example/tallystone/tallystone/model/RateSchedule"), accessFlags := 18, slot := 2, constantValue := 0 }, { name := "nonlaborSchedule", type := (.object "com/example/tallystone/tallystone/model/RateSchedule"), accessFlags := 18, slot := 3, constantValue := 0 }, { name := "onHold", type := .boolean, accessFlags := 18, slot := 4, constantValue := 0 }, { name := "calculationLevel", type := (.object "com/example/tallystone/tallystone/model/CalculationLevel"), accessFlags := 18, slot := 5, constantValue := 0 }, { name := "progressBasis", type := (.object "com/example/tallystone/tallystone/model/ProgressBasis"), accessFlags := 18, slot := 6, constantValue := 0 }]
  methods := #[k9m0, k9m1]
  instanceTypes := #[(.object "java/lang/String"), (.object "com/example/tallystone/tallystone/model/RevenueMethod"), (.object "com/example/tallystone/tallystone/model/RateSchedule"), (.object "com/example/tallystone/tallystone/model/RateSchedule"), .boolean, (.object "com/example/tallystone/tallystone/model/CalculationLevel"), (.object "com/example/tallystone/tallystone/model/ProgressBasis")]
  staticTypes := #[]
  resolved := Array.replicate 105 none
  statics := none }

def pool10 : Array CpInfo := pool [(1, .fieldref 2 3), (0, .class_ 4), (0, .nameAndType 5 6), (0, u "java/util/Optional"), (0, u "EMPTY"), (0, u "Ljava/util/Optional;"), (0, .methodref 8 9), (0, .class_ 10), (0, .nameAndType 11 12), (0, u "java/lang/Object"), (0, u "<init>"), (0, u "()V"), (0, .fieldref 2 14), (0, .nameAndType 15 16), (0, u "value"), (0, u "Ljava/lang/Object;"), (5, u "(Ljava/lang/Object;)Ljava/lang/Object;"), (0, .methodref 2 24), (0, .nameAndType 11 25), (0, u "(Ljava/lang/Object;)V"), (38, u "ofNullable"), (0, u "(Ljava/lang/Object;)Ljava/util/Optional;"), (99, u "orElse")] 21

def k10c0 : Code := { maxStack := 2, maxLocals := 2, code := jdk_32_method_2_code, exceptionTable := #[], attributes := #[] }
def k10m0 : Method := { name := "<init>", desc := "(Ljava/lang/Object;)V", sig := { parameters := [(.object "java/lang/Object")], returnType := none }, accessFlags := 2, code := some k10c0 }
def k10c1 : Code := { maxStack := 3, maxLocals := 1, code := jdk_32_method_4_code, exceptionTable := #[], attributes := #[] }
def k10m1 : Method := { name := "ofNullable", desc := "(Ljava/lang/Object;)Ljava/util/Optional;", sig := { parameters := [(.object "java/lang/Object")], returnType := some (.object "java/util/Optional") }, accessFlags := 9, code := some k10c1 }
def k10c2 : Code := { maxStack := 1, maxLocals := 2, code := jdk_32_method_15_code, exceptionTable := #[], attributes := #[] }
def k10m2 : Method := { name := "orElse", desc := "(Ljava/lang/Object;)Ljava/lang/Object;", sig := { parameters := [(.object "java/lang/Object")], returnType := some (.object "java/lang/Object") }, accessFlags := 1, code := some k10c2 }
/-- java/util/Optional -/
def k10 : Class := { plain "java/util/Optional" (some 0) with
  accessFlags := 49
  interfaces := #[]
  cf := some (fileOf pool10 2 #[] #[{ accessFlags := 2, nameIndex := 11, descriptorIndex := 25, attributes := #[] }, { accessFlags := 9, nameIndex := 64, descriptorIndex := 65, attributes := #[] }, { accessFlags := 1, nameIndex := 165, descriptorIndex := 22, attributes := #[] }] 49 8 #[] #[{ accessFlags := 26, nameIndex := 5, descriptorIndex := 6, attributes := #[] }, { accessFlags := 18, nameIndex := 15, descriptorIndex := 16, attributes := #[] }])
  fields := #[{ name := "EMPTY", type := (.object "java/util/Optional"), accessFlags := 26, slot := 0, constantValue := 0 }, { name := "value", type := (.object "java/lang/Object"), accessFlags := 18, slot := 0, constantValue := 0 }]
  methods := #[k10m0, k10m1, k10m2]
  instanceTypes := #[(.object "java/lang/Object")]
  staticTypes := #[(.object "java/util/Optional")]
  resolved := Array.replicate 187 none
  statics := some 1 }

def pool11 : Array CpInfo := pool [(1, .class_ 2), (0, u "com/example/tallystone/tallystone/model/RateSchedule"), (2, u "BILL_RATE"), (0, u "Lcom/example/tallystone/tallystone/model/RateSchedule;"), (2, u "BURDEN"), (2, u "$VALUES"), (0, u "[Lcom/example/tallystone/tallystone/model/RateSchedule;"), (6, .class_ 22), (1, u "java/lang/Enum"), (8, u "code"), (0, u "Ljava/lang/String;"), (13, .class_ 47), (0, u "com/example/tallystone/tallystone/model/Coded")] 13

/-- com/example/tallystone/tallystone/model/RateSchedule -/
def k11 : Class := { plain "com/example/tallystone/tallystone/model/RateSchedule" (some 5) with
  accessFlags := 16433
  interfaces := #[6]
  cf := some (fileOf pool11 1 #[] #[] 16433 20 #[46] #[{ accessFlags := 16409, nameIndex := 5, descriptorIndex := 6, attributes := #[] }, { accessFlags := 16409, nameIndex := 9, descriptorIndex := 6, attributes := #[] }, { accessFlags := 18, nameIndex := 31, descriptorIndex := 32, attributes := #[] }, { accessFlags := 4122, nameIndex := 12, descriptorIndex := 13, attributes := #[] }])
  fields := #[{ name := "BILL_RATE", type := (.object "com/example/tallystone/tallystone/model/RateSchedule"), accessFlags := 16409, slot := 0, constantValue := 0 }, { name := "BURDEN", type := (.object "com/example/tallystone/tallystone/model/RateSchedule"), accessFlags := 16409, slot := 1, constantValue := 0 }, { name := "code", type := (.object "java/lang/String"), accessFlags := 18, slot := 3, constantValue := 0 }, { name := "$VALUES", type := (.array (.object "com/example/tallystone/tallystone/model/RateSchedule")), accessFlags := 4122, slot := 2, constantValue := 0 }]
  methods := #[]
  instanceTypes := #[(.object "java/lang/String"), .int, .int, (.object "java/lang/String")]
  staticTypes := #[(.object "com/example/tallystone/tallystone/model/RateSchedule"), (.object "com/example/tallystone/tallystone/model/RateSchedule"), (.array (.object "com/example/tallystone/tallystone/model/RateSchedule"))]
  resolved := Array.replicate 61 none
  statics := some 2 }

def pool12 : Array CpInfo := pool [(1, u "java/lang/Cloneable"), (0, .class_ 1), (0, u "java/lang/Object"), (0, .class_ 3)] 3

/-- java/lang/Cloneable -/
def k12 : Class := { plain "java/lang/Cloneable" (some 0) with
  accessFlags := 1537
  interfaces := #[]
  cf := some (fileOf pool12 2 #[] #[] 1537 4 #[] #[])
  fields := #[]
  methods := #[]
  instanceTypes := #[]
  staticTypes := #[]
  resolved := Array.replicate 8 none
  statics := none }

/-- the primitive byte -/
def k13 : Class := { plain "byte" none with kind := .primitive 'B', accessFlags := 0x411 }
/-- [B -/
def k14 : Class := { plain "[B" (some 0) with kind := .array 13 .byte, interfaces := #[12, 4], accessFlags := 1041 }

/-- the primitive int -/
def k15 : Class := { plain "int" none with kind := .primitive 'I', accessFlags := 0x411 }
/-- [I -/
def k16 : Class := { plain "[I" (some 0) with kind := .array 15 .int, interfaces := #[12, 4], accessFlags := 1041 }

def heap : Heap := #[{ cls := 7, slots := #[.ref 3, .ref 5, .null], vm := .statics 7 },
  { cls := 10, slots := #[.ref 7], vm := .statics 10 },
  { cls := 11, slots := #[.ref 4, .ref 6, .null], vm := .statics 11 },
  { cls := 7, slots := #[.null, .int 0, .int 0, .null], vm := .none },
  { cls := 11, slots := #[.null, .int 0, .int 0, .null], vm := .none },
  { cls := 7, slots := #[.null, .int 1, .int 0, .null], vm := .none },
  { cls := 11, slots := #[.null, .int 0, .int 0, .null], vm := .none },
  { cls := 10, slots := #[.null], vm := .none }]
def classes : Array Class := #[k0, k1, k2, k3, k4, k5, k6, k7, k8, k9, k10, k11, k12, k13, k14, k15, k16]
def interned : List (Array UInt16 × Addr) := []
def slotsUsed : Nat := 24
def theMethod : MethodId := ⟨1, 2⟩
def args0 : Array Value := #[.int 5, .int 5, .int 5, .int 5]
def aboutOver (below : List Frame) : State where
  vm := { classes := classes, interned := interned.toArray }
  heap := heap
  slotsUsed := slotsUsed
  threads := #[{ frames := .invoking theMethod args0 :: below }]
def below0 : List Frame := [.native { method := ⟨0, 0⟩, args := #[] }]
def about1 : State := aboutOver below0
def p0 : Program := .bare "" "" ""
def e0 : Env := launch0.env 0 0 0
theorem w_frames : about1.frames = Frame.invoking theMethod args0 :: below0 := rfl
set_option maxRecDepth 65536 in
theorem w_args : argsFit about1.vm theMethod args0 = true := by decide +kernel
set_option maxRecDepth 65536 in
theorem w_heap : heapFits about1 = true := by decide +kernel
set_option maxRecDepth 65536 in
theorem w_runnable : about1.curStatus? = some .runnable := by decide +kernel
set_option maxRecDepth 65536 in
theorem w_alone : about1.alone = true := by decide +kernel
set_option maxRecDepth 65536 in
theorem w_named : about1.methodNamed? x = some theMethod := by decide +kernel
set_option maxRecDepth 65536 in
theorem w_hears : about1.hears theMethod below0 = true := by decide +kernel
set_option maxRecDepth 65536 in
theorem w_ripe : about1.ripe theMethod args0 below0 = true := by decide +kernel
theorem w_running : about1.status = .running := rfl
set_option maxRecDepth 65536 in
theorem w_room : about1.hasRoom e0.platform room_1 = true :=
  launch0.hasRoom_least _ room_1 (by decide +kernel) (by decide +kernel) (by decide +kernel) (by decide +kernel) (by decide +kernel) (by decide +kernel)
theorem allAtoms_all (ts : List Jvm.Cond) (a : Array Jvm.Value) (st : Jvm.State) : (allAtoms ts).before a st = ts.all (fun c => c.before a st) := by
  induction ts with
  | nil => rfl
  | cons c t ih =>
    show (Jvm.Cond.and c (allAtoms t)).before a st = _
    rw [Jvm.Cond.before_and, ih, List.all_cons]
def words1 : List Jvm.Cond := Jvm.Cond.code x code maxLocals ret :: tables_1
/-- a 'code' word, met by the world's own term for the bytes: nothing is compared byte by byte -/
theorem code_word {y : MethodName} {bytes : ByteArray} {mx : Nat} {rt : Option FieldType} {a : Array Value} {s : State} {m : MethodId} {meth : Method} {c : Code} (h1 : s.methodNamed? y = some m) (h2 : s.vm.method? m = some meth) (h3 : meth.code = some c) (h4 : c.code = bytes)
    (h5 : (c.maxLocals == mx && c.exceptionTable.isEmpty && decide (c.maxStack ≤ mostOperands) && decide (meth.sig.returnType = rt) && !meth.locks && decide (parseMethodDescriptor y.desc = some meth.sig)) = true) : (Jvm.Cond.code y bytes mx rt).before a s = true := by
  simp only [Bool.and_eq_true, beq_iff_eq, Bool.not_eq_true', decide_eq_true_eq] at h5
  obtain ⟨⟨⟨⟨⟨g1, g2⟩, g3⟩, g4⟩, g5⟩, g6⟩ := h5
  simp [Cond.before, Cond.holds, Cond.value, h1, h2, h3, h4, g1, g2, g3, g4, g5, g6]
def isCode : Jvm.Cond → Bool
  | .code _ _ _ _ => true
  | _ => false
theorem all_split {L : List Jvm.Cond} {P : Jvm.Cond → Bool} (h1 : L.all (fun c => isCode c || P c) = true) (h2 : ∀ c ∈ L.filter isCode, P c = true) : L.all P = true := by
  refine List.all_eq_true.mpr fun c hc => ?_
  have h := List.all_eq_true.mp h1 c hc
  rcases Bool.eq_false_or_eq_true (isCode c) with hi | hi
  · exact h2 c (List.mem_filter.mpr ⟨hc, hi⟩)
  · simpa [hi] using h
set_option maxRecDepth 65536 in
theorem w_c0 : (Jvm.Cond.code x code maxLocals ret).before args0 about1 = true := code_word (m := ⟨1, 2⟩) (meth := k1m2) (c := k1c2) (by decide +kernel) rfl rfl rfl (by decide +kernel)
set_option maxRecDepth 65536 in
theorem w_c1 : (Jvm.Cond.code ({ cls := "com/example/tallystone/tallystone/model/RevenuePlanSchedulePinLaw", name := "pick", desc := "(I)Lcom/example/tallystone/tallystone/model/RateSchedule;" } : Jvm.MethodName) method_2_code (2 : Nat) (Option.some (Jvm.ClassFile.FieldType.object "com/example/tallystone/tallystone/model/RateSchedule"))).before args0 about1 = true := code_word (m := ⟨1, 1⟩) (meth := k1m1) (c := k1c1) (by decide +kernel) rfl rfl rfl (by decide +kernel)
set_option maxRecDepth 65536 in
theorem w_c2 : (Jvm.Cond.code ({ cls := "com/example/tallystone/tallystone/model/RevenuePlan", name := "<init>", desc := "(Ljava/lang/String;Lcom/example/tallystone/tallystone/model/RevenueMethod;Lcom/example/tallystone/tallystone/model/RateSchedule;Lcom/example/tallystone/tallystone/model/RateSchedule;ZLcom/example/tallystone/tallystone/model/CalculationLevel;Lcom/example/tallystone/tallystone/model/ProgressBasis;)V" } : Jvm.MethodName) prog_65_method_1_code (8 : Nat) (Option.none : Option Jvm.ClassFile.FieldType)).before args0 about1 = true := code_word (m := ⟨9, 0⟩) (meth := k9m0) (c := k9c0) (by decide +kernel) rfl rfl rfl (by decide +kernel)
set_option maxRecDepth 65536 in
theorem w_c3 : (Jvm.Cond.code ({ cls := "java/lang/Record", name := "<init>", desc := "()V" } : Jvm.MethodName) jdk_30_method_1_code (1 : Nat) (Option.none : Option Jvm.ClassFile.FieldType)).before args0 about1 = true := code_word (m := ⟨8, 0⟩) (meth := k8m0) (c := k8c0) (by decide +kernel) rfl rfl rfl (by decide +kernel)
set_option maxRecDepth 65536 in
theorem w_c4 : (Jvm.Cond.code ({ cls := "java/lang/Object", name := "<init>", desc := "()V" } : Jvm.MethodName) object_method_1_code (1 : Nat) (Option.none : Option Jvm.ClassFile.FieldType)).before args0 about1 = true := code_word (m := ⟨0, 0⟩) (meth := k0m0) (c := k0c0) (by decide +kernel) rfl rfl rfl (by decide +kernel)
set_option maxRecDepth 65536 in
theorem w_c5 : (Jvm.Cond.code ({ cls := "com/example/tallystone/tallystone/model/RevenuePlan", name := "schedule", desc := "(Lcom/example/tallystone/tallystone/model/ExpenditureKind;)Ljava/util/Optional;" } : Jvm.MethodName) prog_65_method_2_code (2 : Nat) (Option.some (Jvm.ClassFile.FieldType.object "java/util/Optional"))).before args0 about1 = true := code_word (m := ⟨9, 1⟩) (meth := k9m1) (c := k9c1) (by decide +kernel) rfl rfl rfl (by decide +kernel)
set_option maxRecDepth 65536 in
theorem w_c6 : (Jvm.Cond.code ({ cls := "java/util/Optional", name := "ofNullable", desc := "(Ljava/lang/Object;)Ljava/util/Optional;" } : Jvm.MethodName) jdk_32_method_4_code (1 : Nat) (Option.some (Jvm.ClassFile.FieldType.object "java/util/Optional"))).before args0 about1 = true := code_word (m := ⟨10, 1⟩) (meth := k10m1) (c := k10c1) (by decide +kernel) rfl rfl rfl (by decide +kernel)
set_option maxRecDepth 65536 in
theorem w_c7 : (Jvm.Cond.code ({ cls := "java/util/Optional", name := "orElse", desc := "(Ljava/lang/Object;)Ljava/lang/Object;" } : Jvm.MethodName) jdk_32_method_15_code (2 : Nat) (Option.some (Jvm.ClassFile.FieldType.object "java/lang/Object"))).before args0 about1 = true := code_word (m := ⟨10, 2⟩) (meth := k10m2) (c := k10c2) (by decide +kernel) rfl rfl rfl (by decide +kernel)
set_option maxRecDepth 65536 in
theorem w_c8 : (Jvm.Cond.code ({ cls := "java/util/Optional", name := "<init>", desc := "(Ljava/lang/Object;)V" } : Jvm.MethodName) jdk_32_method_2_code (2 : Nat) (Option.none : Option Jvm.ClassFile.FieldType)).before args0 about1 = true := code_word (m := ⟨10, 0⟩) (meth := k10m0) (c := k10c0) (by decide +kernel) rfl rfl rfl (by decide +kernel)
def codes1 : List Jvm.Cond := [Jvm.Cond.code x code maxLocals ret, Jvm.Cond.code ({ cls := "com/example/tallystone/tallystone/model/RevenuePlanSchedulePinLaw", name := "pick", desc := "(I)Lcom/example/tallystone/tallystone/model/RateSchedule;" } : Jvm.MethodName) method_2_code (2 : Nat) (Option.some (Jvm.ClassFile.FieldType.object "com/example/tallystone/tallystone/model/RateSchedule")), Jvm.Cond.code ({ cls := "com/example/tallystone/tallystone/model/RevenuePlan", name := "<init>", desc := "(Ljava/lang/String;Lcom/example/tallystone/tallystone/model/RevenueMethod;Lcom/example/tallystone/tallystone/model/RateSchedule;Lcom/example/tallystone/tallystone/model/RateSchedule;ZLcom/example/tallystone/tallystone/model/CalculationLevel;Lcom/example/tallystone/tallystone/model/ProgressBasis;)V" } : Jvm.MethodName) prog_65_method_1_code (8 : Nat) (Option.none : Option Jvm.ClassFile.FieldType), Jvm.Cond.code ({ cls := "java/lang/Record", name := "<init>", desc := "()V" } : Jvm.MethodName) jdk_30_method_1_code (1 : Nat) (Option.none : Option Jvm.ClassFile.FieldType), Jvm.Cond.code ({ cls := "java/lang/Object", name := "<init>", desc := "()V" } : Jvm.MethodName) object_method_1_code (1 : Nat) (Option.none : Option Jvm.ClassFile.FieldType), Jvm.Cond.code ({ cls := "com/example/tallystone/tallystone/model/RevenuePlan", name := "schedule", desc := "(Lcom/example/tallystone/tallystone/model/ExpenditureKind;)Ljava/util/Optional;" } : Jvm.MethodName) prog_65_method_2_code (2 : Nat) (Option.some (Jvm.ClassFile.FieldType.object "java/util/Optional")), Jvm.Cond.code ({ cls := "java/util/Optional", name := "ofNullable", desc := "(Ljava/lang/Object;)Ljava/util/Optional;" } : Jvm.MethodName) jdk_32_method_4_code (1 : Nat) (Option.some (Jvm.ClassFile.FieldType.object "java/util/Optional")), Jvm.Cond.code ({ cls := "java/util/Optional", name := "orElse", desc := "(Ljava/lang/Object;)Ljava/lang/Object;" } : Jvm.MethodName) jdk_32_method_15_code (2 : Nat) (Option.some (Jvm.ClassFile.FieldType.object "java/lang/Object")), Jvm.Cond.code ({ cls := "java/util/Optional", name := "<init>", desc := "(Ljava/lang/Object;)V" } : Jvm.MethodName) jdk_32_method_2_code (2 : Nat) (Option.none : Option Jvm.ClassFile.FieldType)]
set_option maxRecDepth 65536 in
theorem codes_eq : words1.filter isCode = codes1 := rfl
theorem w_codes : ∀ c ∈ words1.filter isCode, c.before args0 about1 = true := by
  rw [codes_eq]
  intro c hc
  simp only [codes1, List.mem_cons, List.not_mem_nil, or_false] at hc
  rcases hc with rfl | rfl | rfl | rfl | rfl | rfl | rfl | rfl | rfl
  · exact w_c0
  · exact w_c1
  · exact w_c2
  · exact w_c3
  · exact w_c4
  · exact w_c5
  · exact w_c6
  · exact w_c7
  · exact w_c8
set_option maxRecDepth 65536 in
theorem w_t1 : (words1.take 24).all (fun c => isCode c || c.before args0 about1) = true := by decide +kernel
set_option maxRecDepth 65536 in
theorem w_t2 : ((words1.drop 24).take 24).all (fun c => isCode c || c.before args0 about1) = true := by decide +kernel
set_option maxRecDepth 65536 in
theorem w_t3 : ((words1.drop 24).drop 24).all (fun c => isCode c || c.before args0 about1) = true := by decide +kernel
theorem w_tables : (allAtoms (Jvm.Cond.code x code maxLocals ret :: tables_1)).before args0 about1 = true := by
  rw [allAtoms_all]
  show words1.all (fun c => c.before args0 about1) = true
  refine all_split ?_ w_codes
  rw [← List.take_append_drop 24 words1, List.all_append, w_t1, ← List.take_append_drop 24 (words1.drop 24), List.all_append, w_t2, w_t3]
  rfl
set_option maxRecDepth 65536 in
theorem w_rest : rest_1_c.before args0 about1 = true := by decide +kernel
set_option maxRecDepth 65536 in
theorem w_case : (Jvm.Cond.and given_1 narrow_1).before args0 about1 = true := by decide +kernel
theorem w_applies : (headSpec (Jvm.Cond.code x code maxLocals ret :: tables_1) room_1).applies x e0.platform about1 = true :=
  (Spec.applies_iff w_frames).mpr ⟨w_running, w_runnable, w_alone, w_named, w_hears, w_ripe, w_room, w_tables⟩
theorem atStart : AtStart classFile x code maxLocals ret World_1 tables_1 room_1 Calls_1 rest_1 Pre_1 launch0 p0 e0 about1 theMethod args0 below0 :=
  ⟨lists_1, trivial, launch0.admits_env _ _ _, launch0.least_env, fairChoices_fair.cas, fairChoices_fair.clock, w_frames, w_args, w_heap, w_applies, trivial, w_rest, w_case⟩
end start1
theorem witness_1 : WitnessClaimed_1 := ⟨start1.p0, start1.e0, start1.about1, start1.theMethod, start1.args0, start1.below0, start1.atStart⟩
end Jvm.Pilot.@@N@@
