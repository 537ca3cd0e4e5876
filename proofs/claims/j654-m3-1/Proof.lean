import JvmDerived
import JvmDerived.Pilot.@@N@@Statement
import JvmDerived.Pilot.@@N@@Code
set_option linter.unusedVariables false
set_option linter.unusedSimpArgs false
namespace Jvm.OwnKit
open Sem ClassFile Op Lib Jvm.Stand Jvm.Free Jvm.LawKit Jvm.RoadKit
/-- from S on the body comes back, and F says how -/
def Run (p : Program) (e : Env) (below : List Frame) (F : Outcome → State → Prop) (S : State) : Prop :=
  ∃ s₂ o, Steps p.tables e below S s₂ ∧ s₂.status = .running ∧ Ended s₂ below o ∧ F o s₂
def Nar (s : State) (rm : Room) (Q : Option Value → Heap → List Loc → Prop) (o : Outcome) (t : State) : Prop := ∃ v L, o = .returned v ∧ Q v t.heap L ∧ FrameEnd s o t L rm.cells rm.slots
/-- a body's contract at these arguments and this heap -/
def Ctr (l : Launch) (Z : State) (y : MethodName) (bytes : ByteArray) (maxL : Nat) (ret : Option FieldType) (rm : Room) (as : Array Value) (h0 : Heap) (Q : Option Value → Heap → List Loc → Prop) : Prop :=
  ∀ ws : List Jvm.Cond, MetFree l y (head1 (Jvm.Cond.code y bytes maxL ret :: ws) rm) (fun a U => a = as ∧ Z.Warmed39 U.vm ∧ U.heap = h0) (fun _ _ _ _ _ => True) (fun _ U o U' => ∃ v L, o = .returned v ∧ Q v U'.heap L ∧ FrameEnd U o U' L rm.cells rm.slots)
theorem Ctr.body {l : Launch} {Z : State} {y : MethodName} {bytes : ByteArray} {maxL : Nat} {ret : Option FieldType} {rm : Room} {as : Array Value} {h0 : Heap} {Q : Option Value → Heap → List Loc → Prop} (hp : plainFor y = true)
    (body : ∀ (p : Program) (e : Env) (s : State) (m : MethodId) (below : List Frame) (meth : Method) (c : Code) (T : State), Stand p l e rm s m as below meth c T [] 0 0 → p.tables.exec = Jvm.exec → c.code = bytes → c.maxLocals = maxL → s.vm.findClass y.cls = some m.cls → meth.name = y.name → meth.sig.returnType = ret → meth.locks = false → Z.Warmed39 s.vm → T.heap = h0 → Run p e below (Nar s rm Q) (T.setTop (entryFrame m as maxL))) :
    Ctr l Z y bytes maxL ret rm as h0 Q := by
  intro ws
  refine MetFree.of_bodySF hp hisR ?_
  intro p e s m args below meth c s₁ Bd hml hP hK
  obtain ⟨rfl, hZ, hh⟩ := hP
  exact body p e s m below meth c s₁ (Stand.of_body Bd) Bd.exec Bd.bytes hml (findClass_of_methodNamed Bd.named) (name_of_methodNamed Bd.named Bd.method).1 Bd.returns (BodyLoose.notSynchronized Bd) hZ (by rw [← hh, Bd.state]; rfl)
section Walk
variable {p : Program} {l : Launch} {e : Env} {R : Room} {s : State} {m : MethodId} {args : Array Value} {below : List Frame} {meth : Method} {c : Code} {T : State} {locs : List Loc} {cells slots : Nat} {Z : State} {a0 : Array Value} {h h' h1 h2 : Heap} {Q : Option Value → Heap → List Loc → Prop} {F : Outcome → State → Prop}
theorem Run.via {S S' : State} (f : ∀ t, Steps p.tables e below S' t → Steps p.tables e below S t) (k : Run p e below F S') : Run p e below F S := by
  obtain ⟨s₂, o, q1, q2⟩ := k
  exact ⟨s₂, o, f _ q1, q2⟩
theorem Run.cast {g g' : JFrame} (q : g = g') (k : Run p e below F (T.setTop g')) : Run p e below F (T.setTop g) := q ▸ k
theorem Run.ret (X : Stand p l e R s m args below meth c T locs cells slots) (hx : p.tables.exec = Jvm.exec) (hlk : meth.locks = false) {pc : Nat} {Ls : Array Slot} {w : Value} {t : FieldType} {i : Instr} {rest : List Value} (hret : meth.sig.returnType = some t) (hd : decode c.code pc = .ok (i, 1)) (hn : narrow t w = w)
    (hi : (i = .ireturn ∧ (t = .int ∨ t = .boolean ∨ t = .byte ∨ t = .char ∨ t = .short) ∧ ∃ z, w = .int z) ∨ (i = .lreturn ∧ t = .long ∧ ∃ z, w = .long z) ∨ (i = .dreturn ∧ t = .double ∧ ∃ z, w = .double z) ∨ (i = .freturn ∧ t = .float ∧ ∃ z, w = .float z) ∨ (i = .areturn ∧ t.isReference = true ∧ w.isRef = true))
    (hc : cells ≤ R.cells) (hs : slots ≤ R.slots) (hq : Q (some w) T.heap locs) : Run p e below (Nar s R Q) (T.setTop (mkF m pc Ls (w :: rest))) := by
  obtain ⟨fs, hr, hrun, hended, hW, hsame⟩ := X.leave (v := some w) (fun q => by rw [hret] at q; cases q) hlk
  exact ⟨_, _, retOut X hx hret hn hi hd hr, hrun, hended, _, _, rfl, hq, ⟨_, rfl⟩, hW, hsame.mono hc hs⟩
theorem Run.retB (X : Stand p l e R s m args below meth c T locs cells slots) (hx : p.tables.exec = Jvm.exec) (hlk : meth.locks = false) {pc : Nat} {Ls : Array Slot} {z : Int32} {rest : List Value} (hret : meth.sig.returnType = some .boolean) (hd : decode c.code pc = .ok (.ireturn, 1)) (hn : narrow .boolean (.int z) = .int z)
    (hc : cells ≤ R.cells) (hs : slots ≤ R.slots) (hq : Q (some (.int z)) T.heap locs) : Run p e below (Nar s R Q) (T.setTop (mkF m pc Ls (.int z :: rest))) :=
  Run.ret X hx hlk hret hd hn (Or.inl ⟨rfl, Or.inr (Or.inl rfl), z, rfl⟩) hc hs hq
theorem Run.retI (X : Stand p l e R s m args below meth c T locs cells slots) (hx : p.tables.exec = Jvm.exec) (hlk : meth.locks = false) {pc : Nat} {Ls : Array Slot} {z : Int32} {rest : List Value} (hret : meth.sig.returnType = some .int) (hd : decode c.code pc = .ok (.ireturn, 1))
    (hc : cells ≤ R.cells) (hs : slots ≤ R.slots) (hq : Q (some (.int z)) T.heap locs) : Run p e below (Nar s R Q) (T.setTop (mkF m pc Ls (.int z :: rest))) :=
  Run.ret X hx hlk hret hd rfl (Or.inl ⟨rfl, Or.inl rfl, z, rfl⟩) hc hs hq
theorem narrow_ref {t : FieldType} {w : Value} (h : w.isRef = true) : narrow t w = w := by
  cases w <;> simp [Value.isRef] at h <;> cases t <;> rfl
theorem Run.retR (X : Stand p l e R s m args below meth c T locs cells slots) (hx : p.tables.exec = Jvm.exec) (hlk : meth.locks = false) {pc : Nat} {Ls : Array Slot} {w : Value} {t : FieldType} {rest : List Value} (hret : meth.sig.returnType = some t) (hd : decode c.code pc = .ok (.areturn, 1)) (ht : t.isReference = true) (hw : w.isRef = true)
    (hc : cells ≤ R.cells) (hs : slots ≤ R.slots) (hq : Q (some w) T.heap locs) : Run p e below (Nar s R Q) (T.setTop (mkF m pc Ls (w :: rest))) :=
  Run.ret X hx hlk hret hd (Jvm.OwnKit.narrow_ref hw) (Or.inr (Or.inr (Or.inr (Or.inr ⟨rfl, ht, hw⟩)))) hc hs hq
theorem Run.retV (X : Stand p l e R s m args below meth c T locs cells slots) (hx : p.tables.exec = Jvm.exec) (hlk : meth.locks = false) {pc : Nat} {Ls : Array Slot} (hret : meth.sig.returnType = none) (hd : decode c.code pc = .ok (.return_, 1))
    (hc : cells ≤ R.cells) (hs : slots ≤ R.slots) (hq : Q none T.heap locs) : Run p e below (Nar s R Q) (T.setTop (mkF m pc Ls [])) := by
  obtain ⟨fs, hr, hrun, hended, hW, hsame⟩ := X.leave (v := none) (fun _ => rfl) hlk
  exact ⟨_, _, X.returnOut hx hret hd hr, hrun, hended, _, _, rfl, hq, ⟨_, rfl⟩, hW, hsame.mono hc hs⟩
/-- a static callee by its contract -/
theorem callC (X : Stand p l e R s m args below meth c T locs cells slots) (hx : p.tables.exec = Jvm.exec) (hZ : Z.Warmed39 s.vm) {own : String} {index : Nat} {y : MethodName} {bytes : ByteArray} {maxL : Nat} {ret : Option FieldType} {rm : Room} {P : Option Value → Heap → List Loc → Prop} (hown : s.vm.findClass own = some m.cls)
    (w1 : (Cond.methodLink own index y).before a0 Z = true) (w2 : (Cond.static y).before a0 Z = true) (w3 : (Cond.initialized y.cls).before a0 Z = true) (w4 : (Cond.code y bytes maxL ret).before a0 Z = true) (hy : y.cls ≠ "java/lang/invoke/MethodHandle" ∧ y.cls ≠ "java/lang/invoke/VarHandle")
    (eT : T.heap = h) {argsL rest : List Value} (K : Ctr l Z y bytes maxL ret rm argsL.toArray h P) {g : JFrame} (hg : g.method = m) (hsize : g.locals.size = c.maxLocals) (hs : g.stack = argsL.reverse ++ rest) (hd : decode c.code g.pc = .ok (.invokestatic index, 3))
    (hlen : ∀ sig, parseMethodDescriptor y.desc = some sig → argsL.length = sig.parameters.length) {W : Nat} (hW : 2 * g.monitorRoom + (rest.map fun v => v.category).sum ≤ W) (hf : rm.frames + 1 ≤ R.frames) (hl : W + (maxL + 11) + rm.locals ≤ R.locals) (hc : cells + rm.cells ≤ R.cells) (hsl : slots + rm.slots ≤ R.slots) :
    ∃ (v : Option Value) (T' : State) (L : List Loc), Stand p l e R s m args below meth c T' (locs ++ L) (cells + rm.cells) (slots + rm.slots) ∧ P v T'.heap L ∧
      ∀ target, Steps p.tables e below (T'.setTop { g with pc := g.pc + 3, stack := v.toList ++ rest }) target → Steps p.tables e below (T.setTop g) target := by
  obtain ⟨v, vm₁, ⟨T', L', k', n'⟩, -, X', ⟨L, hQ, l1, l2, l3⟩, st⟩ := Jvm.LawKit.callS X hx (y := y) hown (mvT hZ w1) (mvT hZ w2) (mvT hZ w3) (mvT hZ w4) hy (backOf (W := W) (K []) hZ w4 w3 hf hl) (g := g) hg hsize (argsL := argsL) (rest := rest) hlen hs hW hd (fun _ _ => ⟨rfl, eT, hc, hsl⟩)
  dsimp only [Pt.U, Pt.locs, Pt.cells, Pt.slots] at X' l1 l2 l3 st hQ
  subst l1 l2 l3
  exact ⟨v, T', L, X', hQ, st⟩
/-- an instance method by its contract -/
theorem callV (X : Stand p l e R s m args below meth c T locs cells slots) (hx : p.tables.exec = Jvm.exec) (hZ : Z.Warmed39 s.vm) {own C : String} {index : Nat} {y : MethodName} {bytes : ByteArray} {maxL : Nat} {ret : Option FieldType} {rm : Room} {P : Option Value → Heap → List Loc → Prop} (hown : s.vm.findClass own = some m.cls)
    (w1 : (Cond.methodLink own index y).before a0 Z = true) (w2 : (Cond.declares y).before a0 Z = true) (w5 : (Cond.selects C y y).before a0 Z = true) (w6 : (Cond.instanceMethod y).before a0 Z = true) (w3 : (Cond.initialized y.cls).before a0 Z = true) (w4 : (Cond.code y bytes maxL ret).before a0 Z = true) (hy : y.cls ≠ "java/lang/invoke/MethodHandle" ∧ y.cls ≠ "java/lang/invoke/VarHandle")
    (eT : T.heap = h) {b : Addr} (E : Exa Z h b C) {argsL rest : List Value} (K : Ctr l Z y bytes maxL ret rm (.ref b :: argsL).toArray h P) {g : JFrame} (hg : g.method = m) (hsize : g.locals.size = c.maxLocals) (hs : g.stack = argsL.reverse ++ .ref b :: rest) (hd : decode c.code g.pc = .ok (.invokevirtual index, 3))
    (hlen : ∀ sig, parseMethodDescriptor y.desc = some sig → argsL.length = sig.parameters.length) {W : Nat} (hW : 2 * g.monitorRoom + (rest.map fun v => v.category).sum ≤ W) (hf : rm.frames + 1 ≤ R.frames) (hl : W + (maxL + 11) + rm.locals ≤ R.locals) (hc : cells + rm.cells ≤ R.cells) (hsl : slots + rm.slots ≤ R.slots) :
    ∃ (v : Option Value) (T' : State) (L : List Loc), Stand p l e R s m args below meth c T' (locs ++ L) (cells + rm.cells) (slots + rm.slots) ∧ P v T'.heap L ∧
      ∀ target, Steps p.tables e below (T'.setTop { g with pc := g.pc + 3, stack := v.toList ++ rest }) target → Steps p.tables e below (T.setTop g) target := by
  obtain ⟨cq, kq, qa, qb, qc⟩ := isOf hZ eT E
  obtain ⟨v, vm₁, ⟨T', L', k', n'⟩, -, X', ⟨L, hQ, l1, l2, l3⟩, st⟩ := X.virtualBack hx (y := y) (z := y) hown (mvT hZ w1) (mvT hZ w2) (notFace_of_selects (args := #[]) (mvT hZ w5)) (mvT hZ w5) (mvT hZ w6) hy (backOf (W := W) (K []) hZ w4 w3 hf hl) qa qc (g := g) hg hsize (Steps.refl _) (argsL := argsL) (rest := rest) hlen hs hW hd (fun _ _ => ⟨rfl, eT, hc, hsl⟩)
  dsimp only [Pt.U, Pt.locs, Pt.cells, Pt.slots] at X' l1 l2 l3 st hQ
  subst l1 l2 l3
  exact ⟨v, T', L, X', hQ, fun _ k => st.trans k⟩
/-- a constructor by its contract -/
theorem callN (X : Stand p l e R s m args below meth c T locs cells slots) (hx : p.tables.exec = Jvm.exec) (hZ : Z.Warmed39 s.vm) {own : String} {index : Nat} {y : MethodName} {bytes : ByteArray} {maxL : Nat} {rm : Room} {P : Option Value → Heap → List Loc → Prop} (hy1 : y.name = "<init>") (hown : s.vm.findClass own = some m.cls)
    (w1 : (Cond.methodLink own index y).before a0 Z = true) (w6 : (Cond.instanceMethod y).before a0 Z = true) (w3 : (Cond.initialized y.cls).before a0 Z = true) (w4 : (Cond.code y bytes maxL none).before a0 Z = true) (hy : y.cls ≠ "java/lang/invoke/MethodHandle" ∧ y.cls ≠ "java/lang/invoke/VarHandle")
    (eT : T.heap = h) {b : Addr} {argsL rest : List Value} (K : Ctr l Z y bytes maxL none rm (.ref b :: argsL).toArray h P) {g : JFrame} (hg : g.method = m) (hsize : g.locals.size = c.maxLocals) (hs : g.stack = argsL.reverse ++ .ref b :: rest) (hd : decode c.code g.pc = .ok (.invokespecial index, 3))
    (hlen : ∀ sig, parseMethodDescriptor y.desc = some sig → argsL.length = sig.parameters.length) {W : Nat} (hW : 2 * g.monitorRoom + (rest.map fun v => v.category).sum ≤ W) (hf : rm.frames + 1 ≤ R.frames) (hl : W + (maxL + 11) + rm.locals ≤ R.locals) (hc : cells + rm.cells ≤ R.cells) (hsl : slots + rm.slots ≤ R.slots) :
    ∃ (v : Option Value) (T' : State) (L : List Loc), Stand p l e R s m args below meth c T' (locs ++ L) (cells + rm.cells) (slots + rm.slots) ∧ P v T'.heap L ∧
      ∀ target, Steps p.tables e below (T'.setTop { g with pc := g.pc + 3, stack := v.toList ++ rest }) target → Steps p.tables e below (T.setTop g) target := by
  obtain ⟨v, vm₁, ⟨T', L', k', n'⟩, -, X', ⟨L, hQ, l1, l2, l3⟩, st⟩ := X.specialBack hx (y := y) hy1 hown (mvT hZ w1) (mvT hZ w6) (mvT hZ w4) hy (backOf (W := W) (K []) hZ w4 w3 hf hl) (g := g) hg hsize (Steps.refl _) (a := b) (argsL := argsL) (rest := rest) hlen hs hW hd (fun _ _ => ⟨rfl, eT, hc, hsl⟩)
  dsimp only [Pt.U, Pt.locs, Pt.cells, Pt.slots] at X' l1 l2 l3 st hQ
  subst l1 l2 l3
  exact ⟨v, T', L, X', hQ, fun _ k => st.trans k⟩
/-- a private method by its contract -/
theorem callP (X : Stand p l e R s m args below meth c T locs cells slots) (hx : p.tables.exec = Jvm.exec) (hZ : Z.Warmed39 s.vm) {own : String} {index nn : Nat} {y : MethodName} {bytes : ByteArray} {maxL : Nat} {ret : Option FieldType} {rm : Room} {P : Option Value → Heap → List Loc → Prop} (hown : s.vm.findClass own = some m.cls)
    (w1 : (Cond.methodLink own index y).before a0 Z = true) (w6 : (Cond.instanceMethod y).before a0 Z = true) (w7 : (Cond.privateMethod y).before a0 Z = true) (w8 : (Cond.instantiable y.cls nn).before a0 Z = true) (w3 : (Cond.initialized y.cls).before a0 Z = true) (w4 : (Cond.code y bytes maxL ret).before a0 Z = true) (hy : y.cls ≠ "java/lang/invoke/MethodHandle" ∧ y.cls ≠ "java/lang/invoke/VarHandle")
    (eT : T.heap = h) {b : Addr} {C : String} (E : Exa Z h b C) {argsL rest : List Value} (K : Ctr l Z y bytes maxL ret rm (.ref b :: argsL).toArray h P) {g : JFrame} (hg : g.method = m) (hsize : g.locals.size = c.maxLocals) (hs : g.stack = argsL.reverse ++ .ref b :: rest) (hd : decode c.code g.pc = .ok (.invokevirtual index, 3))
    (hlen : ∀ sig, parseMethodDescriptor y.desc = some sig → argsL.length = sig.parameters.length) {W : Nat} (hW : 2 * g.monitorRoom + (rest.map fun v => v.category).sum ≤ W) (hf : rm.frames + 1 ≤ R.frames) (hl : W + (maxL + 11) + rm.locals ≤ R.locals) (hc : cells + rm.cells ≤ R.cells) (hsl : slots + rm.slots ≤ R.slots) :
    ∃ (v : Option Value) (T' : State) (L : List Loc), Stand p l e R s m args below meth c T' (locs ++ L) (cells + rm.cells) (slots + rm.slots) ∧ P v T'.heap L ∧
      ∀ target, Steps p.tables e below (T'.setTop { g with pc := g.pc + 3, stack := v.toList ++ rest }) target → Steps p.tables e below (T.setTop g) target := by
  obtain ⟨cl, q1, q2⟩ := E.cell
  have hpr : s.PrivateAt y := Cond.privateMethod_at (mvP hZ w7 (args := #[]))
  obtain ⟨cI, kI, i1, i2, -, i4, -⟩ := Cond.instantiable_spec (mvT hZ w8 : (Cond.instantiable y.cls nn).before args s = true)
  have hsel : (Cond.selects y.cls y y).before args s = true := selects_self_of_private i1 i2 (Bool.or_eq_false_iff.mp i4).1 hpr (mvT hZ w6) hy
  obtain ⟨v, vm₁, ⟨T', L', k', n'⟩, -, X', ⟨L, hQ, l1, l2, l3⟩, st⟩ := X.privateBack hx (y := y) hown (mvT hZ w1) (mvT hZ w6) hsel hpr (mvT hZ w4) hy (backOf (W := W) (K []) hZ w4 w3 hf hl) (g := g) hg hsize (Steps.refl _) (a := b) (cell := cl) (by rw [eT]; exact q1) q2 (argsL := argsL) (rest := rest) hlen hs hW hd (fun _ _ => ⟨rfl, eT, hc, hsl⟩)
  dsimp only [Pt.U, Pt.locs, Pt.cells, Pt.slots] at X' l1 l2 l3 st hQ
  subst l1 l2 l3
  exact ⟨v, T', L, X', hQ, fun _ k => st.trans k⟩
/-! arrays of references -/
theorem aaldV (X : Stand p l e R s m args below meth c T locs cells slots) (hx : p.tables.exec = Jvm.exec) (hZ : Z.Warmed39 s.vm) (eT : T.heap = h) {a : Addr} {k : ClassId} {ty : FieldType} {z j : Int32} {vs : List Value} {dv v : Value} (A : Arv Z h a k ty z vs dv) (hty : ty.isReference = true) (hj : ¬ j < 0 ∧ j < z) (hv : vs.getD j.toNatClampNeg dv = v)
    {g : JFrame} (hg : g.method = m) {rest : List Value} (hs : g.stack = .int j :: .ref a :: rest) (hd : decode c.code g.pc = .ok (.aaload, 1)) :
    ∀ target, Steps p.tables e below (T.setTop { g with pc := g.pc + 1, stack := v :: rest }) target → Steps p.tables e below (T.setTop g) target := by
  obtain ⟨cl, A, -, S, -, H, -⟩ := A
  have hin := inb_of S hj
  exact fun t q => X.aaload hx (by rw [eT]; exact A.1) (State.isArrayOf_alike hZ.alike A.2.1) hty A.2.2 hin (H.at hin hv) hg hs hd t q
theorem lenV (X : Stand p l e R s m args below meth c T locs cells slots) (hx : p.tables.exec = Jvm.exec) (hZ : Z.Warmed39 s.vm) (eT : T.heap = h) {a : Addr} {k : ClassId} {ty : FieldType} {z : Int32} {vs : List Value} {dv : Value} (A : Arv Z h a k ty z vs dv)
    {g : JFrame} (hg : g.method = m) {rest : List Value} (hs : g.stack = .ref a :: rest) (hd : decode c.code g.pc = .ok (.arraylength, 1)) :
    ∀ target, Steps p.tables e below (T.setTop { g with pc := g.pc + 1, stack := .int z :: rest }) target → Steps p.tables e below (T.setTop g) target := by
  obtain ⟨cl, A, -, S, N, -, -⟩ := A
  intro t q
  refine X.arraylength hx (by rw [eT]; exact A.1) (State.isArrayOf_alike hZ.alike A.2.1) hg hs hd t ?_
  rw [len_of S N]
  exact q
theorem aastV (X : Stand p l e R s m args below meth c T locs cells slots) (hx : p.tables.exec = Jvm.exec) (hZ : Z.Warmed39 s.vm) (eT : T.heap = h) {a : Addr} {k : ClassId} {ty : FieldType} {z j : Int32} {vs : List Value} {dv v : Value} (A : Arv Z h a k ty z vs dv) (hty : ty.isReference = true) (hj : ¬ j < 0 ∧ j < z) {i : Nat} (hi : j.toNatClampNeg = i) (hlen : i < vs.length)
    (F : ∀ cl, Arr Z h a cl ty → cl.cls = k → Sto Z h a v) (hfit : fits ty v = true) {g : JFrame} (hg : g.method = m) {rest : List Value} (hs : g.stack = v :: .int j :: .ref a :: rest) (hd : decode c.code g.pc = .ok (.aastore, 1)) :
    ∃ T' h', Stand p l e R s m args below meth c T' (locs ++ [⟨a, j.toNatClampNeg⟩]) cells slots ∧ T'.heap = h' ∧ Wr h h' a j.toNatClampNeg v ∧ Arv Z h' a k ty z (vs.set i v) dv ∧
      ∀ target, Steps p.tables e below (T'.setTop { g with pc := g.pc + 1, stack := rest }) target → Steps p.tables e below (T.setTop g) target := by
  obtain ⟨cl, A, q, S, N, H, G⟩ := A
  have hin := inb_of S hj
  obtain ⟨T', h', X', e', W, st⟩ := stR X hx hZ eT A (j := j) (v := v) hin hty (F cl A q) hg hs hd
  exact ⟨T', h', X', e', W, Arv.set A q S N H G hfit W i hi hlen, st⟩
/-- a cast of null or of one of the class -/
theorem castVV (X : Stand p l e R s m args below meth c T locs cells slots) (hx : p.tables.exec = Jvm.exec) (hZ : Z.Warmed39 s.vm) {own K : String} {index : Nat} (hown : s.vm.findClass own = some m.cls) (w : (Cond.classLink own index K).before a0 Z = true) (eT : T.heap = h) {v : Value} (B : v = .null ∨ ∃ r, v = .ref r ∧ Ins Z h r K true)
    {g : JFrame} (hg : g.method = m) {rest : List Value} (hs : g.stack = v :: rest) (hd : decode c.code g.pc = .ok (.checkcast index, 3)) :
    ∃ T', Stand p l e R s m args below meth c T' locs cells slots ∧ T'.heap = h ∧ ∀ target, Steps p.tables e below (T'.setTop { g with pc := g.pc + 3 }) target → Steps p.tables e below (T.setTop g) target := by
  rcases B with rfl | ⟨r, rfl, I⟩
  · exact ⟨T, X, eT, fun t q => X.checkcastNull hx hg hs hd t q⟩
  · exact castY X hx hZ hown w eT I hg hs hd
theorem cat_ref {v : Value} (q : v.isRef = true) : v.category = 1 := by cases v <;> simp [Value.isRef] at q <;> rfl
theorem fits_isRef {t : FieldType} {v : Value} (r : t.isReference = true) (q : v.isRef = true) : fits t v = true := by cases v <;> simp [Value.isRef] at q <;> cases t <;> first | rfl | (simp [FieldType.isReference] at r)
theorem ext_of_keep (K : Keep h h1 []) : Ext h h1 := ⟨K.1, fun x c q => K.2.1 x c q nin0⟩
/-! heaps that only grow -/
theorem ext_refl (h : Heap) : Ext h h := ⟨Nat.le_refl _, fun _ _ q => q⟩
theorem ext_trans (a : Ext h h1) (b : Ext h1 h2) : Ext h h2 := ⟨Nat.le_trans a.1 b.1, fun x q r => b.2 x q (a.2 x q r)⟩
/-- what lies at or above h's end was written: h stands -/
theorem ext_keep {ws : List Addr} (a : Ext h h1) (K : Keep h1 h2 ws) (q : ∀ x ∈ ws, h.size ≤ x) : Ext h h2 := ⟨Nat.le_trans a.1 K.1, fun x c r => K.2.1 x c (a.2 x c r) fun z => absurd (Array.getElem?_eq_some_iff.mp r).1 (Nat.not_lt.mpr (q x z))⟩
theorem ext_wr {a : Addr} {sl : Nat} {v : Value} (x : Ext h h1) (W : Wr h1 h2 a sl v) (q : h.size ≤ a) : Ext h h2 := ext_keep x (Keep.of_wr W) (allS q all0)
theorem keep_ext {ws : List Addr} (E : Ext h h1) : Keep h h1 ws := (Keep.refl h ws).ext E
end Walk
section Rows
variable {p : Program} {l : Launch} {e : Env} {R : Room} {s : State} {m : MethodId} {args : Array Value} {below : List Frame} {meth : Method} {c : Code} {T : State} {locs : List Loc} {cells slots : Nat} {Z : State} {a0 : Array Value} {h : Heap} {F : Outcome → State → Prop} {pc pc' : Nat} {Ls : Array Slot} {rest : List Value}
theorem q_iloadN (X : Stand p l e R s m args below meth c T locs cells slots) (hx : p.tables.exec = Jvm.exec) {k : Fin 4} {v : Int32} (hd : decode c.code pc = .ok (.iload_n k, 1)) (hl : Ls[k.val]? = some (.val (.int v))) (hp : pc + 1 = pc') (go : Run p e below F (T.setTop (mkF m pc' Ls (.int v :: rest)))) : Run p e below F (T.setTop (mkF m pc Ls rest)) := by
  subst hp
  exact Run.via (fun _ q => XS.iloadN X.here hx rfl hd hl q) go
theorem q_iload (X : Stand p l e R s m args below meth c T locs cells slots) (hx : p.tables.exec = Jvm.exec) {k : Nat} {v : Int32} (hd : decode c.code pc = .ok (.iload k, 2)) (hl : Ls[k]? = some (.val (.int v))) (hp : pc + 2 = pc') (go : Run p e below F (T.setTop (mkF m pc' Ls (.int v :: rest)))) : Run p e below F (T.setTop (mkF m pc Ls rest)) := by
  subst hp
  exact Run.via (fun _ q => XS.iload X.here hx rfl hd hl q) go
theorem q_aloadN (X : Stand p l e R s m args below meth c T locs cells slots) (hx : p.tables.exec = Jvm.exec) {k : Fin 4} {v : Value} (hd : decode c.code pc = .ok (.aload_n k, 1)) (hl : Ls[k.val]? = some (.val v)) (hv : v.isRef = true) (hp : pc + 1 = pc') (go : Run p e below F (T.setTop (mkF m pc' Ls (v :: rest)))) : Run p e below F (T.setTop (mkF m pc Ls rest)) := by
  subst hp
  exact Run.via (fun _ q => XS.aloadN X.here hx rfl hd hl hv q) go
theorem q_aload (X : Stand p l e R s m args below meth c T locs cells slots) (hx : p.tables.exec = Jvm.exec) {k : Nat} {v : Value} (hd : decode c.code pc = .ok (.aload k, 2)) (hl : Ls[k]? = some (.val v)) (hv : v.isRef = true) (hp : pc + 2 = pc') (go : Run p e below F (T.setTop (mkF m pc' Ls (v :: rest)))) : Run p e below F (T.setTop (mkF m pc Ls rest)) := by
  subst hp
  exact Run.via (fun _ q => XS.aload X.here hx rfl hd hl hv q) go
theorem q_istoreN (X : Stand p l e R s m args below meth c T locs cells slots) (hx : p.tables.exec = Jvm.exec) {k : Fin 4} {v : Int32} {l' : Array Slot} (hd : decode c.code pc = .ok (.istore_n k, 1)) (hl : storeLocals Ls k.val (.int v) = some l') (hp : pc + 1 = pc') (go : Run p e below F (T.setTop (mkF m pc' l' rest))) : Run p e below F (T.setTop (mkF m pc Ls (.int v :: rest))) := by
  subst hp
  exact Run.via (fun _ q => XS.istoreN X.here hx rfl hd rfl hl q) go
theorem q_istore (X : Stand p l e R s m args below meth c T locs cells slots) (hx : p.tables.exec = Jvm.exec) {k : Nat} {v : Int32} {l' : Array Slot} (hd : decode c.code pc = .ok (.istore k, 2)) (hl : storeLocals Ls k (.int v) = some l') (hp : pc + 2 = pc') (go : Run p e below F (T.setTop (mkF m pc' l' rest))) : Run p e below F (T.setTop (mkF m pc Ls (.int v :: rest))) := by
  subst hp
  exact Run.via (fun _ q => XS.istore X.here hx rfl hd rfl hl q) go
theorem q_astoreN (X : Stand p l e R s m args below meth c T locs cells slots) (hx : p.tables.exec = Jvm.exec) {k : Fin 4} {v : Value} {l' : Array Slot} (hd : decode c.code pc = .ok (.astore_n k, 1)) (hv : v.isRef = true) (hl : storeLocals Ls k.val v = some l') (hp : pc + 1 = pc') (go : Run p e below F (T.setTop (mkF m pc' l' rest))) : Run p e below F (T.setTop (mkF m pc Ls (v :: rest))) := by
  subst hp
  exact Run.via (fun _ q => XS.astoreN X.here hx rfl hd rfl hv hl q) go
theorem q_astore (X : Stand p l e R s m args below meth c T locs cells slots) (hx : p.tables.exec = Jvm.exec) {k : Nat} {v : Value} {l' : Array Slot} (hd : decode c.code pc = .ok (.astore k, 2)) (hv : v.isRef = true) (hl : storeLocals Ls k v = some l') (hp : pc + 2 = pc') (go : Run p e below F (T.setTop (mkF m pc' l' rest))) : Run p e below F (T.setTop (mkF m pc Ls (v :: rest))) := by
  subst hp
  exact Run.via (fun _ q => XS.astore X.here hx rfl hd rfl hv hl q) go
theorem q_iconst (X : Stand p l e R s m args below meth c T locs cells slots) (hx : p.tables.exec = Jvm.exec) {i : Int} {z : Int32} (hd : decode c.code pc = .ok (.iconst i, 1)) (hz : Int32.ofInt i = z) (hp : pc + 1 = pc') (go : Run p e below F (T.setTop (mkF m pc' Ls (.int z :: rest)))) : Run p e below F (T.setTop (mkF m pc Ls rest)) := by
  subst hp
  exact Run.via (fun _ q => XS.iconst X.here hx rfl hd (by rw [hz]; exact q)) go
theorem q_bipush (X : Stand p l e R s m args below meth c T locs cells slots) (hx : p.tables.exec = Jvm.exec) {i : Int} {z : Int32} (hd : decode c.code pc = .ok (.bipush i, 2)) (hz : (Int8.ofInt i).toInt32 = z) (hp : pc + 2 = pc') (go : Run p e below F (T.setTop (mkF m pc' Ls (.int z :: rest)))) : Run p e below F (T.setTop (mkF m pc Ls rest)) := by
  subst hp
  exact Run.via (fun _ q => XS.bipush X.here hx rfl hd (by rw [hz]; exact q)) go
theorem q_sipush (X : Stand p l e R s m args below meth c T locs cells slots) (hx : p.tables.exec = Jvm.exec) {i : Int} {z : Int32} (hd : decode c.code pc = .ok (.sipush i, 3)) (hz : (Int16.ofInt i).toInt32 = z) (hp : pc + 3 = pc') (go : Run p e below F (T.setTop (mkF m pc' Ls (.int z :: rest)))) : Run p e below F (T.setTop (mkF m pc Ls rest)) := by
  subst hp
  exact Run.via (fun _ q => XS.sipush X.here hx rfl hd (by rw [hz]; exact q)) go
theorem q_null (X : Stand p l e R s m args below meth c T locs cells slots) (hx : p.tables.exec = Jvm.exec)  (hd : decode c.code pc = .ok (.aconst_null, 1))  (hp : pc + 1 = pc') (go : Run p e below F (T.setTop (mkF m pc' Ls (.null :: rest)))) : Run p e below F (T.setTop (mkF m pc Ls rest)) := by
  subst hp
  exact Run.via (fun _ q => XS.aconstNull X.here hx rfl hd q) go
theorem q_iadd (X : Stand p l e R s m args below meth c T locs cells slots) (hx : p.tables.exec = Jvm.exec) {x y z : Int32} (hd : decode c.code pc = .ok (.iadd, 1)) (hz : x + y = z) (hp : pc + 1 = pc') (go : Run p e below F (T.setTop (mkF m pc' Ls (.int z :: rest)))) : Run p e below F (T.setTop (mkF m pc Ls (.int y :: .int x :: rest))) := by
  subst hp
  exact Run.via (fun _ q => XS.iadd X.here hx rfl hd rfl (by rw [hz]; exact q)) go
theorem q_isub (X : Stand p l e R s m args below meth c T locs cells slots) (hx : p.tables.exec = Jvm.exec) {x y z : Int32} (hd : decode c.code pc = .ok (.isub, 1)) (hz : x - y = z) (hp : pc + 1 = pc') (go : Run p e below F (T.setTop (mkF m pc' Ls (.int z :: rest)))) : Run p e below F (T.setTop (mkF m pc Ls (.int y :: .int x :: rest))) := by
  subst hp
  exact Run.via (fun _ q => XS.isub X.here hx rfl hd rfl (by rw [hz]; exact q)) go
theorem q_imul (X : Stand p l e R s m args below meth c T locs cells slots) (hx : p.tables.exec = Jvm.exec) {x y z : Int32} (hd : decode c.code pc = .ok (.imul, 1)) (hz : x * y = z) (hp : pc + 1 = pc') (go : Run p e below F (T.setTop (mkF m pc' Ls (.int z :: rest)))) : Run p e below F (T.setTop (mkF m pc Ls (.int y :: .int x :: rest))) := by
  subst hp
  exact Run.via (fun _ q => XS.imul X.here hx rfl hd rfl (by rw [hz]; exact q)) go
theorem q_iand (X : Stand p l e R s m args below meth c T locs cells slots) (hx : p.tables.exec = Jvm.exec) {x y z : Int32} (hd : decode c.code pc = .ok (.iand, 1)) (hz : x &&& y = z) (hp : pc + 1 = pc') (go : Run p e below F (T.setTop (mkF m pc' Ls (.int z :: rest)))) : Run p e below F (T.setTop (mkF m pc Ls (.int y :: .int x :: rest))) := by
  subst hp
  exact Run.via (fun _ q => XS.iand X.here hx rfl hd rfl (by rw [hz]; exact q)) go
theorem q_ior (X : Stand p l e R s m args below meth c T locs cells slots) (hx : p.tables.exec = Jvm.exec) {x y z : Int32} (hd : decode c.code pc = .ok (.ior, 1)) (hz : x ||| y = z) (hp : pc + 1 = pc') (go : Run p e below F (T.setTop (mkF m pc' Ls (.int z :: rest)))) : Run p e below F (T.setTop (mkF m pc Ls (.int y :: .int x :: rest))) := by
  subst hp
  exact Run.via (fun _ q => XS.ior X.here hx rfl hd rfl (by rw [hz]; exact q)) go
theorem q_ixor (X : Stand p l e R s m args below meth c T locs cells slots) (hx : p.tables.exec = Jvm.exec) {x y z : Int32} (hd : decode c.code pc = .ok (.ixor, 1)) (hz : x ^^^ y = z) (hp : pc + 1 = pc') (go : Run p e below F (T.setTop (mkF m pc' Ls (.int z :: rest)))) : Run p e below F (T.setTop (mkF m pc Ls (.int y :: .int x :: rest))) := by
  subst hp
  exact Run.via (fun _ q => XS.ixor X.here hx rfl hd rfl (by rw [hz]; exact q)) go
theorem q_ishr (X : Stand p l e R s m args below meth c T locs cells slots) (hx : p.tables.exec = Jvm.exec) {x y z : Int32} (hd : decode c.code pc = .ok (.ishr, 1)) (hz : x >>> (y &&& 31) = z) (hp : pc + 1 = pc') (go : Run p e below F (T.setTop (mkF m pc' Ls (.int z :: rest)))) : Run p e below F (T.setTop (mkF m pc Ls (.int y :: .int x :: rest))) := by
  subst hp
  exact Run.via (fun _ q => XS.ishr X.here hx rfl hd rfl (by rw [hz]; exact q)) go
theorem q_ishl (X : Stand p l e R s m args below meth c T locs cells slots) (hx : p.tables.exec = Jvm.exec) {x y z : Int32} (hd : decode c.code pc = .ok (.ishl, 1)) (hz : x <<< (y &&& 31) = z) (hp : pc + 1 = pc') (go : Run p e below F (T.setTop (mkF m pc' Ls (.int z :: rest)))) : Run p e below F (T.setTop (mkF m pc Ls (.int y :: .int x :: rest))) := by
  subst hp
  exact Run.via (fun _ q => XS.ishl X.here hx rfl hd rfl (by rw [hz]; exact q)) go
theorem q_iushr (X : Stand p l e R s m args below meth c T locs cells slots) (hx : p.tables.exec = Jvm.exec) {x y z : Int32} (hd : decode c.code pc = .ok (.iushr, 1)) (hz : (x.toUInt32 >>> (y &&& 31).toUInt32).toInt32 = z) (hp : pc + 1 = pc') (go : Run p e below F (T.setTop (mkF m pc' Ls (.int z :: rest)))) : Run p e below F (T.setTop (mkF m pc Ls (.int y :: .int x :: rest))) := by
  subst hp
  exact Run.via (fun _ q => XS.iushr X.here hx rfl hd rfl (by rw [hz]; exact q)) go
theorem q_idiv (X : Stand p l e R s m args below meth c T locs cells slots) (hx : p.tables.exec = Jvm.exec) {x y z : Int32} (hd : decode c.code pc = .ok (.idiv, 1)) (hy : y ≠ 0) (hz : x / y = z) (hp : pc + 1 = pc') (go : Run p e below F (T.setTop (mkF m pc' Ls (.int z :: rest)))) : Run p e below F (T.setTop (mkF m pc Ls (.int y :: .int x :: rest))) := by
  subst hp
  exact Run.via (fun _ q => XS.idiv X.here hx rfl hd rfl hy (by rw [hz]; exact q)) go
theorem q_irem (X : Stand p l e R s m args below meth c T locs cells slots) (hx : p.tables.exec = Jvm.exec) {x y z : Int32} (hd : decode c.code pc = .ok (.irem, 1)) (hy : y ≠ 0) (hz : x % y = z) (hp : pc + 1 = pc') (go : Run p e below F (T.setTop (mkF m pc' Ls (.int z :: rest)))) : Run p e below F (T.setTop (mkF m pc Ls (.int y :: .int x :: rest))) := by
  subst hp
  exact Run.via (fun _ q => iremM X hx rfl hd rfl hy (by rw [hz]; exact q)) go
theorem q_iinc (X : Stand p l e R s m args below meth c T locs cells slots) (hx : p.tables.exec = Jvm.exec) {k : Nat} {i : Int} {x : Int32} {l' : Array Slot} (hd : decode c.code pc = .ok (.iinc k i, 3)) (hl : Ls[k]? = some (.val (.int x))) (hl' : storeLocals Ls k (.int (x + Int32.ofInt i)) = some l') (hp : pc + 3 = pc') (go : Run p e below F (T.setTop (mkF m pc' l' rest))) : Run p e below F (T.setTop (mkF m pc Ls rest)) := by
  subst hp
  exact Run.via (fun _ q => XS.iinc X.here hx rfl hd hl hl' q) go
theorem q_dup (X : Stand p l e R s m args below meth c T locs cells slots) (hx : p.tables.exec = Jvm.exec) {x : Value} (hd : decode c.code pc = .ok (.dup, 1)) (hc : x.category = 1) (hp : pc + 1 = pc') (go : Run p e below F (T.setTop (mkF m pc' Ls (x :: x :: rest)))) : Run p e below F (T.setTop (mkF m pc Ls (x :: rest))) := by
  subst hp
  exact Run.via (fun _ q => XS.dup X.here hx rfl hd rfl hc q) go
theorem q_dupX1 (X : Stand p l e R s m args below meth c T locs cells slots) (hx : p.tables.exec = Jvm.exec) {x y : Value} (hd : decode c.code pc = .ok (.dup_x1, 1)) (hc : x.category = 1) (hc' : y.category = 1) (hp : pc + 1 = pc') (go : Run p e below F (T.setTop (mkF m pc' Ls (x :: y :: x :: rest)))) : Run p e below F (T.setTop (mkF m pc Ls (x :: y :: rest))) := by
  subst hp
  exact Run.via (fun _ q => XS.dupX1 X.here hx rfl hd rfl hc hc' q) go
theorem q_pop (X : Stand p l e R s m args below meth c T locs cells slots) (hx : p.tables.exec = Jvm.exec) {x : Value} (hd : decode c.code pc = .ok (.pop, 1)) (hc : x.category = 1) (hp : pc + 1 = pc') (go : Run p e below F (T.setTop (mkF m pc' Ls rest))) : Run p e below F (T.setTop (mkF m pc Ls (x :: rest))) := by
  subst hp
  exact Run.via (fun _ q => XS.pop X.here hx rfl hd rfl hc q) go
theorem q_goto (X : Stand p l e R s m args below meth c T locs cells slots) (hx : p.tables.exec = Jvm.exec) {o : Int} (hd : decode c.code pc = .ok (.goto o, 3))  (ho : 0 ≤ (pc : Int) + o) (hp : ((pc : Int) + o).toNat = pc') (go : Run p e below F (T.setTop (mkF m pc' Ls rest))) : Run p e below F (T.setTop (mkF m pc Ls rest)) := by
  subst hp
  exact Run.via (fun _ q => XS.goto X.here hx rfl rfl hd ho rfl q) go
theorem q_ifYes (X : Stand p l e R s m args below meth c T locs cells slots) (hx : p.tables.exec = Jvm.exec) {cd : ClassFile.Cond} {x : Int32} {o : Int} (hd : decode c.code pc = .ok (.ifCond cd o, 3)) (hc : ifCond.holds cd x = true) (ho : 0 ≤ (pc : Int) + o) (hp : ((pc : Int) + o).toNat = pc') (go : Run p e below F (T.setTop (mkF m pc' Ls rest))) : Run p e below F (T.setTop (mkF m pc Ls (.int x :: rest))) := by
  subst hp
  exact Run.via (fun _ q => XS.ifYes X.here hx rfl rfl hd rfl hc ho rfl q) go
theorem q_ifNo (X : Stand p l e R s m args below meth c T locs cells slots) (hx : p.tables.exec = Jvm.exec) {cd : ClassFile.Cond} {x : Int32} {o : Int} (hd : decode c.code pc = .ok (.ifCond cd o, 3)) (hc : ifCond.holds cd x = false) (hp : pc + 3 = pc') (go : Run p e below F (T.setTop (mkF m pc' Ls rest))) : Run p e below F (T.setTop (mkF m pc Ls (.int x :: rest))) := by
  subst hp
  exact Run.via (fun _ q => XS.ifNo X.here hx rfl hd rfl hc q) go
theorem q_icmpYes (X : Stand p l e R s m args below meth c T locs cells slots) (hx : p.tables.exec = Jvm.exec) {cd : ClassFile.Cond} {x y : Int32} {o : Int} (hd : decode c.code pc = .ok (.if_icmp cd o, 3)) (hc : if_icmp.holds cd x y = true) (ho : 0 ≤ (pc : Int) + o) (hp : ((pc : Int) + o).toNat = pc') (go : Run p e below F (T.setTop (mkF m pc' Ls rest))) : Run p e below F (T.setTop (mkF m pc Ls (.int y :: .int x :: rest))) := by
  subst hp
  exact Run.via (fun _ q => XS.icmpYes X.here hx rfl rfl hd rfl hc ho rfl q) go
theorem q_icmpNo (X : Stand p l e R s m args below meth c T locs cells slots) (hx : p.tables.exec = Jvm.exec) {cd : ClassFile.Cond} {x y : Int32} {o : Int} (hd : decode c.code pc = .ok (.if_icmp cd o, 3)) (hc : if_icmp.holds cd x y = false) (hp : pc + 3 = pc') (go : Run p e below F (T.setTop (mkF m pc' Ls rest))) : Run p e below F (T.setTop (mkF m pc Ls (.int y :: .int x :: rest))) := by
  subst hp
  exact Run.via (fun _ q => XS.icmpNo X.here hx rfl hd rfl hc q) go
theorem q_ifnullYes (X : Stand p l e R s m args below meth c T locs cells slots) (hx : p.tables.exec = Jvm.exec) {o : Int} (hd : decode c.code pc = .ok (.ifnull o, 3))  (ho : 0 ≤ (pc : Int) + o) (hp : ((pc : Int) + o).toNat = pc') (go : Run p e below F (T.setTop (mkF m pc' Ls rest))) : Run p e below F (T.setTop (mkF m pc Ls (.null :: rest))) := by
  subst hp
  exact Run.via (fun _ q => XS.ifnullYes X.here hx rfl rfl hd rfl ho rfl q) go
theorem q_ifnullNo (X : Stand p l e R s m args below meth c T locs cells slots) (hx : p.tables.exec = Jvm.exec) {o : Int} {b : Addr} (hd : decode c.code pc = .ok (.ifnull o, 3))  (hp : pc + 3 = pc') (go : Run p e below F (T.setTop (mkF m pc' Ls rest))) : Run p e below F (T.setTop (mkF m pc Ls (.ref b :: rest))) := by
  subst hp
  exact Run.via (fun _ q => XS.ifnullNo X.here hx rfl hd rfl q) go
theorem q_ifnonnullYes (X : Stand p l e R s m args below meth c T locs cells slots) (hx : p.tables.exec = Jvm.exec) {o : Int} {b : Addr} (hd : decode c.code pc = .ok (.ifnonnull o, 3))  (ho : 0 ≤ (pc : Int) + o) (hp : ((pc : Int) + o).toNat = pc') (go : Run p e below F (T.setTop (mkF m pc' Ls rest))) : Run p e below F (T.setTop (mkF m pc Ls (.ref b :: rest))) := by
  subst hp
  exact Run.via (fun _ q => XS.ifnonnullYes X.here hx rfl rfl hd rfl ho rfl q) go
theorem q_ifnonnullNo (X : Stand p l e R s m args below meth c T locs cells slots) (hx : p.tables.exec = Jvm.exec) {o : Int} (hd : decode c.code pc = .ok (.ifnonnull o, 3))  (hp : pc + 3 = pc') (go : Run p e below F (T.setTop (mkF m pc' Ls rest))) : Run p e below F (T.setTop (mkF m pc Ls (.null :: rest))) := by
  subst hp
  exact Run.via (fun _ q => XS.ifnonnullNo X.here hx rfl hd rfl q) go
theorem q_acmp (X : Stand p l e R s m args below meth c T locs cells slots) (hx : p.tables.exec = Jvm.exec) {cd : ACond} {x y : Value} {o : Int} (hd : decode c.code pc = .ok (.if_acmp cd o, 3)) (h1 : x.isRef = true) (h2 : y.isRef = true) {same : Bool} (hq : decide (x = y) = same) (ho : 0 ≤ (pc : Int) + o) (hp : pc' = if acV cd same = true then ((pc : Int) + o).toNat else pc + 3) (go : Run p e below F (T.setTop (mkF m pc' Ls rest))) : Run p e below F (T.setTop (mkF m pc Ls (y :: x :: rest))) :=
  Run.via (fun _ q => Jvm.RoadKit.acmp X hx rfl h1 h2 rfl hd rfl hq ho hp q) go
theorem q_ldc (X : Stand p l e R s m args below meth c T locs cells slots) (hx : p.tables.exec = Jvm.exec) (hZ : Z.Warmed39 s.vm) {own : String} {index : Nat} (hown : s.vm.findClass own = some m.cls) {v : Int32} (hd : decode c.code pc = .ok (.ldc index, 2)) (w : (Cond.constant own index v).before a0 Z = true) (hp : pc + 2 = pc') (go : Run p e below F (T.setTop (mkF m pc' Ls (.int v :: rest)))) : Run p e below F (T.setTop (mkF m pc Ls rest)) := by
  subst hp
  exact Run.via (X.ldcInt hx hown (mvT hZ w) (g := mkF m pc Ls rest) rfl hd) go
theorem q_getS (X : Stand p l e R s m args below meth c T locs cells slots) (hx : p.tables.exec = Jvm.exec) (hZ : Z.Warmed39 s.vm) {own : String} {index : Nat} (hown : s.vm.findClass own = some m.cls) {R0 n d host : String} {v : Value} (hd : decode c.code pc = .ok (.getstatic index, 3)) (w : (Cond.fieldLink own index R0 n d).before a0 Z = true ∨ (Cond.fieldLinkNest own index R0 n d host).before a0 Z = true) (eT : T.heap = h) (Fs : Sta Z h R0 n d v) (hp : pc + 3 = pc') (go : ∀ T', Stand p l e R s m args below meth c T' locs cells slots → T'.heap = h → Run p e below F (T'.setTop (mkF m pc' Ls (v :: rest)))) : Run p e below F (T.setTop (mkF m pc Ls rest)) := by
  subst hp
  obtain ⟨T', X', e', st⟩ := getS2 X hx hZ hown w Via.refl eT Fs (g := mkF m pc Ls rest) rfl hd
  exact Run.via st (go T' X' e')
theorem q_getF (X : Stand p l e R s m args below meth c T locs cells slots) (hx : p.tables.exec = Jvm.exec) (hZ : Z.Warmed39 s.vm) {own : String} {index : Nat} (hown : s.vm.findClass own = some m.cls) {R0 n d host : String} {a : Addr} {v : Value} (hd : decode c.code pc = .ok (.getfield index, 3)) (w : (Cond.fieldLink own index R0 n d).before a0 Z = true ∨ (Cond.fieldLinkNest own index R0 n d host).before a0 Z = true) (eT : T.heap = h) (Fs : Fld Z h a R0 n d v) (hp : pc + 3 = pc') (go : ∀ T', Stand p l e R s m args below meth c T' locs cells slots → T'.heap = h → Run p e below F (T'.setTop (mkF m pc' Ls (v :: rest)))) : Run p e below F (T.setTop (mkF m pc Ls (.ref a :: rest))) := by
  subst hp
  obtain ⟨T', X', e', st⟩ := getF X hx hZ hown w Via.refl eT Fs (g := mkF m pc Ls (.ref a :: rest)) rfl rfl hd
  exact Run.via st (go T' X' e')
theorem q_putF (X : Stand p l e R s m args below meth c T locs cells slots) (hx : p.tables.exec = Jvm.exec) (hZ : Z.Warmed39 s.vm) {own : String} {index : Nat} (hown : s.vm.findClass own = some m.cls) {R0 n d host C : String} {kk : Nat} {ty : FieldType} {a : Addr} {v old : Value} (hd : decode c.code pc = .ok (.putfield index, 3)) (w : (Cond.fieldLink own index R0 n d).before a0 Z = true ∨ (Cond.fieldLinkNest own index R0 n d host).before a0 Z = true) (eT : T.heap = h) (Fs : Fld Z h a R0 n d old) (E : Exa Z h a C) (Lw : (Cond.lays C R0 n d).before a0 Z = true ∨ ((Cond.laysFinal C R0 n d).before a0 Z = true ∧ own = R0 ∧ meth.name = "<init>")) (wi : (Cond.instantiable C kk).before a0 Z = true) (hty : parseFieldDescriptor d = some ty) (hn : narrow ty v = v) (hf : fits ty v = true) (hp : pc + 3 = pc') (go : ∀ T' h', Stand p l e R s m args below meth c T' (locs ++ [⟨a, Jvm.RoadKit.slotOf Z R0 n d⟩]) cells slots → T'.heap = h' → Wr h h' a (Jvm.RoadKit.slotOf Z R0 n d) v → Run p e below F (T'.setTop (mkF m pc' Ls rest))) : Run p e below F (T.setTop (mkF m pc Ls (v :: .ref a :: rest))) := by
  subst hp
  obtain ⟨T', h', X', e', W, st⟩ := putF X hx hZ hown w Via.refl eT Fs E Lw wi hty hn hf (g := mkF m pc Ls (v :: .ref a :: rest)) rfl rfl hd
  exact Run.via st (go T' h' X' e' W)
theorem q_putFN (X : Stand p l e R s m args below meth c T locs cells slots) (hx : p.tables.exec = Jvm.exec) (hZ : Z.Warmed39 s.vm) {own : String} {index : Nat} (hown : s.vm.findClass own = some m.cls) {R0 n d C : String} {kk : Nat} {ty : FieldType} {a : Addr} {v v' old : Value} (hd : decode c.code pc = .ok (.putfield index, 3)) (w : (Cond.fieldLink own index R0 n d).before a0 Z = true) (eT : T.heap = h) (Fs : Fld Z h a R0 n d old) (E : Exa Z h a C) (Lw : (Cond.lays C R0 n d).before a0 Z = true ∨ ((Cond.laysFinal C R0 n d).before a0 Z = true ∧ own = R0 ∧ meth.name = "<init>")) (wi : (Cond.instantiable C kk).before a0 Z = true) (hty : parseFieldDescriptor d = some ty) (hn : narrow ty v = v') (hf : fits ty v' = true) (hp : pc + 3 = pc') (go : ∀ T' h', Stand p l e R s m args below meth c T' (locs ++ [⟨a, Jvm.RoadKit.slotOf Z R0 n d⟩]) cells slots → T'.heap = h' → Wr h h' a (Jvm.RoadKit.slotOf Z R0 n d) v' → Run p e below F (T'.setTop (mkF m pc' Ls rest))) : Run p e below F (T.setTop (mkF m pc Ls (v :: .ref a :: rest))) := by
  subst hp
  obtain ⟨T', h', X', e', W, st⟩ := putFN X hx hZ hown w Via.refl eT Fs E Lw wi hty hn hf (g := mkF m pc Ls (v :: .ref a :: rest)) rfl rfl hd
  exact Run.via st (go T' h' X' e' W)
theorem q_new (X : Stand p l e R s m args below meth c T locs cells slots) (hx : p.tables.exec = Jvm.exec) (hZ : Z.Warmed39 s.vm) {own : String} {index : Nat} (hown : s.vm.findClass own = some m.cls) {C : String} {n : Nat} (hd : decode c.code pc = .ok (.new index, 3)) (w : (Cond.classLink own index C).before a0 Z = true) (wi : (Cond.instantiable C n).before a0 Z = true) (wz : (Cond.initialized C).before a0 Z = true) (eT : T.heap = h) (hc : cells + 1 ≤ R.cells) (hl : slots + n ≤ R.slots) (hp : pc + 3 = pc') (go : ∀ T' h' b, Stand p l e R s m args below meth c T' locs (cells + 1) (slots + n) → T'.heap = h' → Ext h h' → b = h.size → Exa Z h' b C → (∀ {O nm d : String} {ty : FieldType}, Laid Z a0 C O nm d → parseFieldDescriptor d = some ty → Fld Z h' b O nm d (defaultValue ty)) → Run p e below F (T'.setTop (mkF m pc' Ls (.ref b :: rest)))) : Run p e below F (T.setTop (mkF m pc Ls rest)) := by
  subst hp
  obtain ⟨T', h', X', e', E, A, D, -, st⟩ := newO X hx hZ hown w wi wz eT (g := mkF m pc Ls rest) rfl hd hc hl
  exact Run.via st (go T' h' _ X' e' E rfl A D)
theorem q_anew (X : Stand p l e R s m args below meth c T locs cells slots) (hx : p.tables.exec = Jvm.exec) (hZ : Z.Warmed39 s.vm) {own : String} {index : Nat} (hown : s.vm.findClass own = some m.cls) {C : String} {z : Int32} {cap : Nat} (hd : decode c.code pc = .ok (.anewarray index, 3)) (w1 : (Cond.classLink own index C).before a0 Z = true) (w2 : (Cond.arrayOver (.object C)).before a0 Z = true) (eT : T.heap = h) (hn : ¬ z < 0) (hcap : z.toNatClampNeg ≤ cap) (hb : cap * 8 ≤ 536870912) (hc : cells + 1 ≤ R.cells) (hl : slots + cap ≤ R.slots) (hp : pc + 3 = pc') (go : ∀ T' h' b cA, Stand p l e R s m args below meth c T' locs (cells + 1) (slots + cap) → T'.heap = h' → Ext h h' → b = h.size → Arr Z h' b (newA cA (.object C) z) (.object C) → Ovr Z cA C → Run p e below F (T'.setTop (mkF m pc' Ls (.ref b :: rest)))) : Run p e below F (T.setTop (mkF m pc Ls (.int z :: rest))) := by
  subst hp
  obtain ⟨T', h', cA, X', e', E, A, O, st⟩ := newR X hx hZ hown w1 w2 eT (g := mkF m pc Ls (.int z :: rest)) rfl hd rfl hn hcap hb hc hl
  exact Run.via st (go T' h' _ cA X' e' E rfl A O)
theorem q_cast (X : Stand p l e R s m args below meth c T locs cells slots) (hx : p.tables.exec = Jvm.exec) (hZ : Z.Warmed39 s.vm) {own : String} {index : Nat} (hown : s.vm.findClass own = some m.cls) {K : String} {v : Value} (hd : decode c.code pc = .ok (.checkcast index, 3)) (w : (Cond.classLink own index K).before a0 Z = true) (eT : T.heap = h) (B : v = .null ∨ ∃ r, v = .ref r ∧ Ins Z h r K true) (hp : pc + 3 = pc') (go : ∀ T', Stand p l e R s m args below meth c T' locs cells slots → T'.heap = h → Run p e below F (T'.setTop (mkF m pc' Ls (v :: rest)))) : Run p e below F (T.setTop (mkF m pc Ls (v :: rest))) := by
  subst hp
  obtain ⟨T', X', e', st⟩ := castVV X hx hZ hown w eT B (g := mkF m pc Ls (v :: rest)) rfl rfl hd
  exact Run.via st (go T' X' e')
theorem q_aald (X : Stand p l e R s m args below meth c T locs cells slots) (hx : p.tables.exec = Jvm.exec) (hZ : Z.Warmed39 s.vm) {a : Addr} {k : ClassId} {ty : FieldType} {z j : Int32} {vs : List Value} {dv v : Value} (hd : decode c.code pc = .ok (.aaload, 1)) (eT : T.heap = h) (A : Arv Z h a k ty z vs dv) (hty : ty.isReference = true) (hj : ¬ j < 0 ∧ j < z) (hv : vs.getD j.toNatClampNeg dv = v) (hp : pc + 1 = pc') (go : Run p e below F (T.setTop (mkF m pc' Ls (v :: rest)))) : Run p e below F (T.setTop (mkF m pc Ls (.int j :: .ref a :: rest))) := by
  subst hp
  exact Run.via (aaldV X hx hZ eT A hty hj hv (g := mkF m pc Ls (.int j :: .ref a :: rest)) rfl rfl hd) go
theorem q_len (X : Stand p l e R s m args below meth c T locs cells slots) (hx : p.tables.exec = Jvm.exec) (hZ : Z.Warmed39 s.vm) {a : Addr} {k : ClassId} {ty : FieldType} {z : Int32} {vs : List Value} {dv : Value} (hd : decode c.code pc = .ok (.arraylength, 1)) (eT : T.heap = h) (A : Arv Z h a k ty z vs dv) (hp : pc + 1 = pc') (go : Run p e below F (T.setTop (mkF m pc' Ls (.int z :: rest)))) : Run p e below F (T.setTop (mkF m pc Ls (.ref a :: rest))) := by
  subst hp
  exact Run.via (lenV X hx hZ eT A (g := mkF m pc Ls (.ref a :: rest)) rfl rfl hd) go
theorem q_aast (X : Stand p l e R s m args below meth c T locs cells slots) (hx : p.tables.exec = Jvm.exec) (hZ : Z.Warmed39 s.vm) {a : Addr} {k : ClassId} {ty : FieldType} {z j : Int32} {vs : List Value} {dv v : Value} (hd : decode c.code pc = .ok (.aastore, 1)) (eT : T.heap = h) (A : Arv Z h a k ty z vs dv) (hty : ty.isReference = true) (hj : ¬ j < 0 ∧ j < z) {i : Nat} (hi : j.toNatClampNeg = i) (hlen : i < vs.length) (Fs : ∀ cl, Arr Z h a cl ty → cl.cls = k → Sto Z h a v) (hfit : fits ty v = true) (hp : pc + 1 = pc') (go : ∀ T' h', Stand p l e R s m args below meth c T' (locs ++ [⟨a, j.toNatClampNeg⟩]) cells slots → T'.heap = h' → Wr h h' a j.toNatClampNeg v → Arv Z h' a k ty z (vs.set i v) dv → Run p e below F (T'.setTop (mkF m pc' Ls rest))) : Run p e below F (T.setTop (mkF m pc Ls (v :: .int j :: .ref a :: rest))) := by
  subst hp
  obtain ⟨T', h', X', e', W, A', st⟩ := aastV X hx hZ eT A hty hj hi hlen Fs hfit (g := mkF m pc Ls (v :: .int j :: .ref a :: rest)) rfl rfl hd
  exact Run.via st (go T' h' X' e' W A')
theorem q_initO (X : Stand p l e R s m args below meth c T locs cells slots) (hx : p.tables.exec = Jvm.exec) (hZ : Z.Warmed39 s.vm) {own : String} {index : Nat} (hown : s.vm.findClass own = some m.cls) {a : Addr} (hd : decode c.code pc = .ok (.invokespecial index, 3)) (w1 : (Cond.methodLink own index Lib.objectInit).before a0 Z = true) (w2 : (Cond.instanceMethod Lib.objectInit).before a0 Z = true) (w3 : (Cond.code Lib.objectInit ⟨#[0xb1]⟩ 1 none).before a0 Z = true) (eT : T.heap = h) (hsize : Ls.size = c.maxLocals) (hf : 1 ≤ R.frames) {W : Nat} (hW : (rest.map fun v => v.category).sum = W) (hl : W + 12 ≤ R.locals) (hp : pc + 3 = pc') (go : ∀ T', Stand p l e R s m args below meth c T' locs cells slots → T'.heap = h → Run p e below F (T'.setTop (mkF m pc' Ls rest))) : Run p e below F (T.setTop (mkF m pc Ls (.ref a :: rest))) := by
  subst hp
  obtain ⟨T', X', e', st⟩ := initO X hx hZ hown w1 w2 w3 eT (g := mkF m pc Ls (.ref a :: rest)) rfl hsize rfl hd hf (W := W) (by show 2 * 0 + _ ≤ _; omega) hl
  exact Run.via st (go T' X' e')
theorem q_callC (X : Stand p l e R s m args below meth c T locs cells slots) (hx : p.tables.exec = Jvm.exec) (hZ : Z.Warmed39 s.vm) {own : String} {index : Nat} (hown : s.vm.findClass own = some m.cls) {y : MethodName} {bytes : ByteArray} {maxL : Nat} {rm : Room} {P : Option Value → Heap → List Loc → Prop} {ret : Option FieldType} (hd : decode c.code pc = .ok (.invokestatic index, 3)) (w1 : (Cond.methodLink own index y).before a0 Z = true) (w2 : (Cond.static y).before a0 Z = true) (w3 : (Cond.initialized y.cls).before a0 Z = true) (w4 : (Cond.code y bytes maxL ret).before a0 Z = true) (hy : y.cls ≠ "java/lang/invoke/MethodHandle" ∧ y.cls ≠ "java/lang/invoke/VarHandle") (eT : T.heap = h) (argsL : List Value) (K : Ctr l Z y bytes maxL ret rm argsL.toArray h P) (hsize : Ls.size = c.maxLocals) (hlen : ∀ sig, parseMethodDescriptor y.desc = some sig → argsL.length = sig.parameters.length) {W : Nat} (hW : (rest.map fun v => v.category).sum = W) (hf : rm.frames + 1 ≤ R.frames) (hl : W + (maxL + 11) + rm.locals ≤ R.locals) (hc : cells + rm.cells ≤ R.cells) (hsl : slots + rm.slots ≤ R.slots) (hp : pc + 3 = pc') (go : ∀ v T' L, Stand p l e R s m args below meth c T' (locs ++ L) (cells + rm.cells) (slots + rm.slots) → P v T'.heap L → Run p e below F (T'.setTop (mkF m pc' Ls (v.toList ++ rest)))) : Run p e below F (T.setTop (mkF m pc Ls (argsL.reverse ++ rest))) := by
  subst hp
  obtain ⟨v, T', L, X', q, st⟩ := callC X hx hZ hown w1 w2 w3 w4 hy eT (argsL := argsL) (rest := rest) K (g := mkF m pc Ls (argsL.reverse ++ rest)) rfl hsize rfl hd hlen (W := W) (by show 2 * 0 + _ ≤ _; omega) hf hl hc hsl
  exact Run.via st (go v T' L X' q)
theorem q_callV (X : Stand p l e R s m args below meth c T locs cells slots) (hx : p.tables.exec = Jvm.exec) (hZ : Z.Warmed39 s.vm) {own : String} {index : Nat} (hown : s.vm.findClass own = some m.cls) {y : MethodName} {bytes : ByteArray} {maxL : Nat} {rm : Room} {P : Option Value → Heap → List Loc → Prop} {ret : Option FieldType} {C : String} {b : Addr} (hd : decode c.code pc = .ok (.invokevirtual index, 3)) (w1 : (Cond.methodLink own index y).before a0 Z = true) (w2 : (Cond.declares y).before a0 Z = true) (w5 : (Cond.selects C y y).before a0 Z = true) (w6 : (Cond.instanceMethod y).before a0 Z = true) (w3 : (Cond.initialized y.cls).before a0 Z = true) (w4 : (Cond.code y bytes maxL ret).before a0 Z = true) (hy : y.cls ≠ "java/lang/invoke/MethodHandle" ∧ y.cls ≠ "java/lang/invoke/VarHandle") (eT : T.heap = h) (E : Exa Z h b C) (argsL : List Value) (K : Ctr l Z y bytes maxL ret rm (.ref b :: argsL).toArray h P) (hsize : Ls.size = c.maxLocals) (hlen : ∀ sig, parseMethodDescriptor y.desc = some sig → argsL.length = sig.parameters.length) {W : Nat} (hW : (rest.map fun v => v.category).sum = W) (hf : rm.frames + 1 ≤ R.frames) (hl : W + (maxL + 11) + rm.locals ≤ R.locals) (hc : cells + rm.cells ≤ R.cells) (hsl : slots + rm.slots ≤ R.slots) (hp : pc + 3 = pc') (go : ∀ v T' L, Stand p l e R s m args below meth c T' (locs ++ L) (cells + rm.cells) (slots + rm.slots) → P v T'.heap L → Run p e below F (T'.setTop (mkF m pc' Ls (v.toList ++ rest)))) : Run p e below F (T.setTop (mkF m pc Ls (argsL.reverse ++ .ref b :: rest))) := by
  subst hp
  obtain ⟨v, T', L, X', q, st⟩ := callV X hx hZ hown w1 w2 w5 w6 w3 w4 hy eT E (argsL := argsL) (rest := rest) K (g := mkF m pc Ls (argsL.reverse ++ .ref b :: rest)) rfl hsize rfl hd hlen (W := W) (by show 2 * 0 + _ ≤ _; omega) hf hl hc hsl
  exact Run.via st (go v T' L X' q)
theorem q_callN (X : Stand p l e R s m args below meth c T locs cells slots) (hx : p.tables.exec = Jvm.exec) (hZ : Z.Warmed39 s.vm) {own : String} {index : Nat} (hown : s.vm.findClass own = some m.cls) {y : MethodName} {bytes : ByteArray} {maxL : Nat} {rm : Room} {P : Option Value → Heap → List Loc → Prop} {b : Addr} (hd : decode c.code pc = .ok (.invokespecial index, 3)) (hy1 : y.name = "<init>") (w1 : (Cond.methodLink own index y).before a0 Z = true) (w6 : (Cond.instanceMethod y).before a0 Z = true) (w3 : (Cond.initialized y.cls).before a0 Z = true) (w4 : (Cond.code y bytes maxL none).before a0 Z = true) (hy : y.cls ≠ "java/lang/invoke/MethodHandle" ∧ y.cls ≠ "java/lang/invoke/VarHandle") (eT : T.heap = h) (argsL : List Value) (K : Ctr l Z y bytes maxL none rm (.ref b :: argsL).toArray h P) (hsize : Ls.size = c.maxLocals) (hlen : ∀ sig, parseMethodDescriptor y.desc = some sig → argsL.length = sig.parameters.length) {W : Nat} (hW : (rest.map fun v => v.category).sum = W) (hf : rm.frames + 1 ≤ R.frames) (hl : W + (maxL + 11) + rm.locals ≤ R.locals) (hc : cells + rm.cells ≤ R.cells) (hsl : slots + rm.slots ≤ R.slots) (hp : pc + 3 = pc') (go : ∀ v T' L, Stand p l e R s m args below meth c T' (locs ++ L) (cells + rm.cells) (slots + rm.slots) → P v T'.heap L → Run p e below F (T'.setTop (mkF m pc' Ls (v.toList ++ rest)))) : Run p e below F (T.setTop (mkF m pc Ls (argsL.reverse ++ .ref b :: rest))) := by
  subst hp
  obtain ⟨v, T', L, X', q, st⟩ := callN X hx hZ hy1 hown w1 w6 w3 w4 hy eT (argsL := argsL) (rest := rest) K (g := mkF m pc Ls (argsL.reverse ++ .ref b :: rest)) rfl hsize rfl hd hlen (W := W) (by show 2 * 0 + _ ≤ _; omega) hf hl hc hsl
  exact Run.via st (go v T' L X' q)
theorem q_callP (X : Stand p l e R s m args below meth c T locs cells slots) (hx : p.tables.exec = Jvm.exec) (hZ : Z.Warmed39 s.vm) {own : String} {index : Nat} (hown : s.vm.findClass own = some m.cls) {y : MethodName} {bytes : ByteArray} {maxL : Nat} {rm : Room} {P : Option Value → Heap → List Loc → Prop} {ret : Option FieldType} {C : String} {b : Addr} {nn : Nat} (hd : decode c.code pc = .ok (.invokevirtual index, 3)) (w1 : (Cond.methodLink own index y).before a0 Z = true) (w6 : (Cond.instanceMethod y).before a0 Z = true) (w7 : (Cond.privateMethod y).before a0 Z = true) (w8 : (Cond.instantiable y.cls nn).before a0 Z = true) (w3 : (Cond.initialized y.cls).before a0 Z = true) (w4 : (Cond.code y bytes maxL ret).before a0 Z = true) (hy : y.cls ≠ "java/lang/invoke/MethodHandle" ∧ y.cls ≠ "java/lang/invoke/VarHandle") (eT : T.heap = h) (E : Exa Z h b C) (argsL : List Value) (K : Ctr l Z y bytes maxL ret rm (.ref b :: argsL).toArray h P) (hsize : Ls.size = c.maxLocals) (hlen : ∀ sig, parseMethodDescriptor y.desc = some sig → argsL.length = sig.parameters.length) {W : Nat} (hW : (rest.map fun v => v.category).sum = W) (hf : rm.frames + 1 ≤ R.frames) (hl : W + (maxL + 11) + rm.locals ≤ R.locals) (hc : cells + rm.cells ≤ R.cells) (hsl : slots + rm.slots ≤ R.slots) (hp : pc + 3 = pc') (go : ∀ v T' L, Stand p l e R s m args below meth c T' (locs ++ L) (cells + rm.cells) (slots + rm.slots) → P v T'.heap L → Run p e below F (T'.setTop (mkF m pc' Ls (v.toList ++ rest)))) : Run p e below F (T.setTop (mkF m pc Ls (argsL.reverse ++ .ref b :: rest))) := by
  subst hp
  obtain ⟨v, T', L, X', q, st⟩ := callP X hx hZ hown w1 w6 w7 w8 w3 w4 hy eT E (argsL := argsL) (rest := rest) K (g := mkF m pc Ls (argsL.reverse ++ .ref b :: rest)) rfl hsize rfl hd hlen (W := W) (by show 2 * 0 + _ ≤ _; omega) hf hl hc hsl
  exact Run.via st (go v T' L X' q)
end Rows
/-! null, or a box that holds p -/
section Boxes
variable {Z : State} {h h' : Heap} {v w : Value} {q : Int32} {a : Addr} {sl : Nat} {ws : List Addr} {a0 : Array Value}
def Box (Z : State) (h : Heap) (v : Value) (q : Int32) : Prop := v = .null ∨ ∃ r, v = .ref r ∧ Exa Z h r "java/lang/Integer" ∧ Fld Z h r "java/lang/Integer" "value" "I" (.int q)
theorem Box.isRef (B : Box Z h v q) : v.isRef = true := by
  rcases B with rfl | ⟨r, rfl, -⟩ <;> rfl
theorem Box.ext (E : Ext h h') (B : Box Z h v q) : Box Z h' v q := by
  rcases B with rfl | ⟨r, rfl, x, f⟩
  · exact Or.inl rfl
  · exact Or.inr ⟨r, rfl, x.ext E, f.ext E⟩
theorem Box.wr (B : Box Z h v q) (W : Wr h h' a sl w) (u : ∀ r, Exa Z h r "java/lang/Integer" → r ≠ a) : Box Z h' v q := by
  rcases B with rfl | ⟨r, rfl, x, f⟩
  · exact Or.inl rfl
  · exact Or.inr ⟨r, rfl, x.wr W, f.other W (Or.inl (u r x))⟩
theorem Box.keep (B : Box Z h v q) (K : Keep h h' ws) (u : ∀ r, Exa Z h r "java/lang/Integer" → r ∉ ws) : Box Z h' v q := by
  rcases B with rfl | ⟨r, rfl, x, f⟩
  · exact Or.inl rfl
  · exact Or.inr ⟨r, rfl, x.keep K, f.keep K (u r x)⟩
theorem Box.ins (B : Box Z h v q) {K : String} (w : (Cond.castable "java/lang/Integer" K).before a0 Z = true) : v = .null ∨ ∃ r, v = .ref r ∧ Ins Z h r K true := by
  rcases B with rfl | ⟨r, rfl, x, f⟩
  · exact Or.inl rfl
  · exact Or.inr ⟨r, rfl, Ins.of_exa x w⟩
theorem Box.at {r : Addr} (B : Box Z h (.ref r) q) : Exa Z h r "java/lang/Integer" ∧ Fld Z h r "java/lang/Integer" "value" "I" (.int q) := by
  rcases B with u | ⟨r', u, x, f⟩
  · cases u
  · cases u
    exact ⟨x, f⟩
theorem sto_ins {c : Cell} {ty : FieldType} {k : ClassId} {C : String} (A : Arr Z h a c ty) (u : c.cls = k) (O : Ovr Z k C) (I : v = .null ∨ ∃ r, v = .ref r ∧ Ins Z h r C true) : Sto Z h a v := by
  rcases I with rfl | ⟨r, rfl, I⟩
  · exact Or.inl rfl
  · exact Sto.ofV A u O I
/-- null, or an old object of the class -/
def OldV (Z : State) (v : Value) (C : String) : Prop := v = .null ∨ ∃ r, v = .ref r ∧ Exa Z Z.heap r C
theorem OldV.isRef {C : String} (B : OldV Z v C) : v.isRef = true := by
  rcases B with rfl | ⟨r, rfl, -⟩ <;> rfl
theorem OldV.ins {C : String} (B : OldV Z v C) (O : Ext Z.heap h) : v = .null ∨ ∃ r, v = .ref r ∧ Ins Z h r C true := by
  rcases B with rfl | ⟨r, rfl, x⟩
  · exact Or.inl rfl
  · exact Or.inr ⟨r, rfl, Ins.self (x.ext O)⟩
end Boxes
/-! from the words of a case to facts at the start -/
section Start
variable {args : Array Value} {s : State} {t u : Term} {a b : Addr} {C n d : String} {k : Int32}
theorem fld_int (ev : t.eval args s none [] s = some (.ref a)) (q : (Cond.eq (Term.field t C n d) (Term.int k)).value args s none s [] = some true) : Fld s s.heap a C n d (.int k) := by
  refine Fld.start ?_
  rw [← fld_at ev (C := C) (n := n) (dd := d)]
  obtain ⟨x, y, e1, e2, k1, k2⟩ := cmp_v (Or.inl q)
  have e3 : (Term.int k).eval args s none [] s = some (.int k) := Term.int_eval k
  rw [e3] at e2
  cases e2
  obtain ⟨z, rfl⟩ := k2
  rw [e1]
  simp [Cond.value, e1, e3] at q
  rw [q]
theorem fld_null (ev : t.eval args s none [] s = some (.ref a)) (q : (Cond.eq (Term.field t C n d) .null).value args s none s [] = some true) : Fld s s.heap a C n d .null := by
  refine Fld.start ?_
  rw [← fld_at ev (C := C) (n := n) (dd := d)]
  exact null_v q
theorem fld_ref (ev : t.eval args s none [] s = some (.ref a)) (ev2 : u.eval args s none [] s = some (.ref b)) (q : (Cond.eq (Term.field t C n d) u).value args s none s [] = some true) : Fld s s.heap a C n d (.ref b) := by
  refine Fld.start ?_
  rw [← fld_at ev (C := C) (n := n) (dd := d)]
  obtain ⟨x, y, e1, e2, k1, k2⟩ := cmp_v (Or.inl q)
  rw [ev2] at e2
  cases e2
  have hx : x.isRef = true := by
    obtain ⟨-, r⟩ := k2
    exact r
  rw [e1]
  have := gotT (eq_R e1 ev2 hx rfl) q
  rw [this]
theorem eqv_r {X : Term} (ev2 : u.eval args s none [] s = some (.ref b)) (q : (Cond.eq X u).value args s none s [] = some true) : X.eval args s none [] s = some (.ref b) := by
  obtain ⟨x, y, e1, e2, k1, k2⟩ := cmp_v (Or.inl q)
  rw [ev2] at e2
  cases e2
  have hx : x.isRef = true := by
    obtain ⟨-, r⟩ := k2
    exact r
  rw [e1, gotT (eq_R e1 ev2 hx rfl) q]
theorem elem_start {c : Cell} {X : Term} {j : Int32} {v : Value} (ev : t.eval args s none [] s = some (.ref a)) (A : s.heap[a]? = some c) (q : (Term.elem t (Term.int j)).eval args s none [] s = some v) : c.slots[j.toNatClampNeg]? = some v :=
  (elem_in q ev (Term.int_eval j) A).2
theorem len_start {c : Cell} {ty : FieldType} {z : Int32} (et : t.eval args s none [] s = some (.ref a)) (A : Arr s s.heap a c ty) (q : (Cond.eq (Term.length t) (Term.int z)).value args s none s [] = some true) : c.slots.size < 2 ^ 31 ∧ c.slots.size.toInt32 = z := by
  have ev := eqv_i (Term.int_eval z) q
  have ha := A.fin (Vm.Alike.refl _)
  simp only [Term.eval, et, ha, Option.bind_eq_bind, Option.bind_some, Option.pure_def] at ev
  by_cases r : c.slots.size < 2 ^ 31
  · rw [if_pos r] at ev
    refine ⟨r, ?_⟩
    cases ev
    rfl
  · rw [if_neg r] at ev
    cases ev
theorem cache_start {c : Cell} (et : ∀ idx, t.eval args s none idx s = some (.ref a)) (A : Arr s s.heap a c (.object "java/lang/Integer")) (h6 : (Cond.eq (Term.length t) (Term.int 256)).value args s none s [] = some true)
    (h7 : (Cond.all t (.and (.exactly (.elem t (.index 0)) "java/lang/Integer") (.eq (.field (.elem t (.index 0)) "java/lang/Integer" "value" "I") (.sub (.index 0) (.int 128))))).value args s none s [] = some true) : Bxs s a c "java/lang/Integer" "I" 256 (fun j => .int (j - 128)) := by
  obtain ⟨q1, q2⟩ := len_start (et []) A h6
  refine Bxs.start et A q1 q2 (by decide) h7 fun X j nn u => ?_
  have e1 : (Term.sub (.index 0) (.int 128)).eval args s none [j.toNatClampNeg] s = some (.int (j - 128)) := by
    simp [Term.eval, idx_at nn, Term.int_eval, (back32 nn).1]
  exact eqv_i e1 u
theorem arv0_start {c : Cell} {ty : FieldType} (hf : Fit s) (et : t.eval args s none [] s = some (.ref a)) (A : Arr s s.heap a c ty) (q : (Cond.eq (Term.length t) (Term.int 0)).value args s none s [] = some true) : Arv s s.heap a c.cls ty 0 [] .null := by
  obtain ⟨q1, q2⟩ := len_start et A q
  exact Arv.start hf A q1 q2 (by decide) rfl trivial
end Start
theorem cache_idx {p : Int32} (h1 : if_icmp.holds .lt p (-128) = false) (h2 : if_icmp.holds .gt p 127 = false) {c : Cell} (S : c.slots.size = (256 : Int32).toNatClampNeg) : ¬ ((p + 128) < 0 ∨ c.slots.size ≤ (p + 128).toNatClampNeg) := by
  have a1 : ¬ p < -128 := by simpa [if_icmp.holds] using h1
  have a2 : ¬ 127 < p := by simpa [if_icmp.holds] using h2
  have q := c_iadd p 128
  have r1 := rng32 p
  have r2 := rng32 (p + 128)
  have k1 : (-128 : Int32).toInt = -128 := by decide
  have k2 : (127 : Int32).toInt = 127 := by decide
  have k3 : (128 : Int32).toInt = 128 := by decide
  have k4 : (256 : Int32).toInt = 256 := by decide
  have k5 : (0 : Int32).toInt = 0 := by decide
  rw [Int32.lt_iff_toInt_lt] at a1 a2
  refine inb_of S ⟨?_, ?_⟩ <;> rw [Int32.lt_iff_toInt_lt] <;> omega
theorem back128 (p : Int32) : p + 128 - 128 = p := by
  have q := c_iadd p 128
  have q2 := c_isub (p + 128) 128
  have r1 := rng32 p
  have r2 := rng32 (p + 128 - 128)
  refine Int32.toInt_inj.mp ?_
  omega
end Jvm.OwnKit
namespace Jvm.Pilot.@@N@@
open Jvm Jvm.ClassFile Sem Op Lib Jvm.Free Jvm.Stand Jvm.LawKit Jvm.RoadKit Jvm.OwnKit Bundle Jvm.Pilot.@@N@@.Jvm.D
abbrev y0 : MethodName := ⟨"java/lang/Number", "<init>", "()V"⟩
abbrev y1 : MethodName := ⟨"java/lang/Integer", "<init>", "(I)V"⟩
abbrev y2 : MethodName := ⟨"java/lang/Integer", "valueOf", "(I)Ljava/lang/Integer;"⟩
abbrev y3 : MethodName := ⟨"com/example/callweave/callweave/FramePopPinLaw", "word", "(III)Ljava/lang/Integer;"⟩
abbrev y4 : MethodName := ⟨"java/lang/Integer", "intValue", "()I"⟩
abbrev y5 : MethodName := ⟨"com/example/callweave/callweave/FramePopPinLaw", "same", "(Ljava/lang/Integer;Ljava/lang/Integer;)Z"⟩
abbrev y6 : MethodName := ⟨"java/util/Arrays", "fill", "([Ljava/lang/Object;Ljava/lang/Object;)V"⟩
abbrev y7 : MethodName := ⟨"com/example/callweave/callweave/Frame", "<init>", "(IILjava/lang/Object;)V"⟩
abbrev y8 : MethodName := ⟨"com/example/callweave/callweave/Frame", "push", "(Ljava/lang/Object;)V"⟩
abbrev y9 : MethodName := ⟨"com/example/callweave/callweave/Frame", "word", "(Ljava/lang/Object;)Ljava/lang/Object;"⟩
abbrev y10 : MethodName := ⟨"com/example/callweave/callweave/Frame", "pop", "()Ljava/lang/Object;"⟩
theorem t0 {a0 : Array Value} {Z : State} (hw : ∀ d ∈ tables_1, d.before a0 Z = true) : (Jvm.Cond.methodLink "com/example/callweave/callweave/FramePopPinLaw" (17 : Nat) ({ cls := "com/example/callweave/callweave/FramePopPinLaw", name := "word", desc := "(III)Ljava/lang/Integer;" } : Jvm.MethodName)).before a0 Z = true := hw _ (List.mem_of_getElem? (i := 0) rfl)
theorem t1 {a0 : Array Value} {Z : State} (hw : ∀ d ∈ tables_1, d.before a0 Z = true) : (Jvm.Cond.static ({ cls := "com/example/callweave/callweave/FramePopPinLaw", name := "word", desc := "(III)Ljava/lang/Integer;" } : Jvm.MethodName)).before a0 Z = true := hw _ (List.mem_of_getElem? (i := 1) rfl)
theorem t2 {a0 : Array Value} {Z : State} (hw : ∀ d ∈ tables_1, d.before a0 Z = true) : (Jvm.Cond.initialized "com/example/callweave/callweave/FramePopPinLaw").before a0 Z = true := hw _ (List.mem_of_getElem? (i := 2) rfl)
theorem t3 {a0 : Array Value} {Z : State} (hw : ∀ d ∈ tables_1, d.before a0 Z = true) : (Jvm.Cond.code ({ cls := "com/example/callweave/callweave/FramePopPinLaw", name := "word", desc := "(III)Ljava/lang/Integer;" } : Jvm.MethodName) method_3_code (3 : Nat) (Option.some (Jvm.ClassFile.FieldType.object "java/lang/Integer"))).before a0 Z = true := hw _ (List.mem_of_getElem? (i := 3) rfl)
theorem t4 {a0 : Array Value} {Z : State} (hw : ∀ d ∈ tables_1, d.before a0 Z = true) : (Jvm.Cond.methodLink "com/example/callweave/callweave/FramePopPinLaw" (13 : Nat) ({ cls := "java/lang/Integer", name := "valueOf", desc := "(I)Ljava/lang/Integer;" } : Jvm.MethodName)).before a0 Z = true := hw _ (List.mem_of_getElem? (i := 4) rfl)
theorem t5 {a0 : Array Value} {Z : State} (hw : ∀ d ∈ tables_1, d.before a0 Z = true) : (Jvm.Cond.static ({ cls := "java/lang/Integer", name := "valueOf", desc := "(I)Ljava/lang/Integer;" } : Jvm.MethodName)).before a0 Z = true := hw _ (List.mem_of_getElem? (i := 5) rfl)
theorem t6 {a0 : Array Value} {Z : State} (hw : ∀ d ∈ tables_1, d.before a0 Z = true) : (Jvm.Cond.initialized "java/lang/Integer").before a0 Z = true := hw _ (List.mem_of_getElem? (i := 6) rfl)
theorem t7 {a0 : Array Value} {Z : State} (hw : ∀ d ∈ tables_1, d.before a0 Z = true) : (Jvm.Cond.code ({ cls := "java/lang/Integer", name := "valueOf", desc := "(I)Ljava/lang/Integer;" } : Jvm.MethodName) jdk_33_method_22_code (1 : Nat) (Option.some (Jvm.ClassFile.FieldType.object "java/lang/Integer"))).before a0 Z = true := hw _ (List.mem_of_getElem? (i := 7) rfl)
theorem t8 {a0 : Array Value} {Z : State} (hw : ∀ d ∈ tables_1, d.before a0 Z = true) : (Jvm.Cond.fieldLink "java/lang/Integer" (191 : Nat) "java/lang/Integer$IntegerCache" "high" "I").before a0 Z = true := hw _ (List.mem_of_getElem? (i := 8) rfl)
theorem t9 {a0 : Array Value} {Z : State} (hw : ∀ d ∈ tables_1, d.before a0 Z = true) : (Jvm.Cond.initialized "java/lang/Integer$IntegerCache").before a0 Z = true := hw _ (List.mem_of_getElem? (i := 9) rfl)
theorem t10 {a0 : Array Value} {Z : State} (hw : ∀ d ∈ tables_1, d.before a0 Z = true) : (Jvm.Cond.fieldLink "java/lang/Integer" (195 : Nat) "java/lang/Integer$IntegerCache" "cache" "[Ljava/lang/Integer;").before a0 Z = true := hw _ (List.mem_of_getElem? (i := 10) rfl)
theorem t11 {a0 : Array Value} {Z : State} (hw : ∀ d ∈ tables_1, d.before a0 Z = true) : (Jvm.Cond.classLink "com/example/callweave/callweave/FramePopPinLaw" (23 : Nat) "com/example/callweave/callweave/Frame").before a0 Z = true := hw _ (List.mem_of_getElem? (i := 11) rfl)
theorem t12 {a0 : Array Value} {Z : State} (hw : ∀ d ∈ tables_1, d.before a0 Z = true) : (Jvm.Cond.instantiable "com/example/callweave/callweave/Frame" (3 : Nat)).before a0 Z = true := hw _ (List.mem_of_getElem? (i := 12) rfl)
theorem t13 {a0 : Array Value} {Z : State} (hw : ∀ d ∈ tables_1, d.before a0 Z = true) : (Jvm.Cond.initialized "com/example/callweave/callweave/Frame").before a0 Z = true := hw _ (List.mem_of_getElem? (i := 13) rfl)
theorem t14 {a0 : Array Value} {Z : State} (hw : ∀ d ∈ tables_1, d.before a0 Z = true) : (Jvm.Cond.methodLink "com/example/callweave/callweave/FramePopPinLaw" (25 : Nat) ({ cls := "com/example/callweave/callweave/Frame", name := "<init>", desc := "(IILjava/lang/Object;)V" } : Jvm.MethodName)).before a0 Z = true := hw _ (List.mem_of_getElem? (i := 14) rfl)
theorem t15 {a0 : Array Value} {Z : State} (hw : ∀ d ∈ tables_1, d.before a0 Z = true) : (Jvm.Cond.instanceMethod ({ cls := "com/example/callweave/callweave/Frame", name := "<init>", desc := "(IILjava/lang/Object;)V" } : Jvm.MethodName)).before a0 Z = true := hw _ (List.mem_of_getElem? (i := 15) rfl)
theorem t16 {a0 : Array Value} {Z : State} (hw : ∀ d ∈ tables_1, d.before a0 Z = true) : (Jvm.Cond.code ({ cls := "com/example/callweave/callweave/Frame", name := "<init>", desc := "(IILjava/lang/Object;)V" } : Jvm.MethodName) prog_8_method_1_code (4 : Nat) (Option.none : Option Jvm.ClassFile.FieldType)).before a0 Z = true := hw _ (List.mem_of_getElem? (i := 16) rfl)
theorem t17 {a0 : Array Value} {Z : State} (hw : ∀ d ∈ tables_1, d.before a0 Z = true) : (Jvm.Cond.methodLink "com/example/callweave/callweave/Frame" (1 : Nat) ({ cls := "java/lang/Object", name := "<init>", desc := "()V" } : Jvm.MethodName)).before a0 Z = true := hw _ (List.mem_of_getElem? (i := 17) rfl)
theorem t18 {a0 : Array Value} {Z : State} (hw : ∀ d ∈ tables_1, d.before a0 Z = true) : (Jvm.Cond.instanceMethod ({ cls := "java/lang/Object", name := "<init>", desc := "()V" } : Jvm.MethodName)).before a0 Z = true := hw _ (List.mem_of_getElem? (i := 18) rfl)
theorem t19 {a0 : Array Value} {Z : State} (hw : ∀ d ∈ tables_1, d.before a0 Z = true) : (Jvm.Cond.code ({ cls := "java/lang/Object", name := "<init>", desc := "()V" } : Jvm.MethodName) object_method_1_code (1 : Nat) (Option.none : Option Jvm.ClassFile.FieldType)).before a0 Z = true := hw _ (List.mem_of_getElem? (i := 19) rfl)
theorem t20 {a0 : Array Value} {Z : State} (hw : ∀ d ∈ tables_1, d.before a0 Z = true) : (Jvm.Cond.classLink "com/example/callweave/callweave/Frame" (2 : Nat) "java/lang/Object").before a0 Z = true := hw _ (List.mem_of_getElem? (i := 20) rfl)
theorem t21 {a0 : Array Value} {Z : State} (hw : ∀ d ∈ tables_1, d.before a0 Z = true) : (Jvm.Cond.arrayOver (Jvm.ClassFile.FieldType.object "java/lang/Object")).before a0 Z = true := hw _ (List.mem_of_getElem? (i := 21) rfl)
theorem t22 {a0 : Array Value} {Z : State} (hw : ∀ d ∈ tables_1, d.before a0 Z = true) : (Jvm.Cond.fieldLink "com/example/callweave/callweave/Frame" (7 : Nat) "com/example/callweave/callweave/Frame" "locals" "[Ljava/lang/Object;").before a0 Z = true := hw _ (List.mem_of_getElem? (i := 22) rfl)
theorem t23 {a0 : Array Value} {Z : State} (hw : ∀ d ∈ tables_1, d.before a0 Z = true) : (Jvm.Cond.laysFinal "com/example/callweave/callweave/Frame" "com/example/callweave/callweave/Frame" "locals" "[Ljava/lang/Object;").before a0 Z = true := hw _ (List.mem_of_getElem? (i := 23) rfl)
theorem t24 {a0 : Array Value} {Z : State} (hw : ∀ d ∈ tables_1, d.before a0 Z = true) : (Jvm.Cond.methodLink "com/example/callweave/callweave/Frame" (13 : Nat) ({ cls := "java/util/Arrays", name := "fill", desc := "([Ljava/lang/Object;Ljava/lang/Object;)V" } : Jvm.MethodName)).before a0 Z = true := hw _ (List.mem_of_getElem? (i := 24) rfl)
theorem t25 {a0 : Array Value} {Z : State} (hw : ∀ d ∈ tables_1, d.before a0 Z = true) : (Jvm.Cond.static ({ cls := "java/util/Arrays", name := "fill", desc := "([Ljava/lang/Object;Ljava/lang/Object;)V" } : Jvm.MethodName)).before a0 Z = true := hw _ (List.mem_of_getElem? (i := 25) rfl)
theorem t26 {a0 : Array Value} {Z : State} (hw : ∀ d ∈ tables_1, d.before a0 Z = true) : (Jvm.Cond.initialized "java/util/Arrays").before a0 Z = true := hw _ (List.mem_of_getElem? (i := 26) rfl)
theorem t27 {a0 : Array Value} {Z : State} (hw : ∀ d ∈ tables_1, d.before a0 Z = true) : (Jvm.Cond.code ({ cls := "java/util/Arrays", name := "fill", desc := "([Ljava/lang/Object;Ljava/lang/Object;)V" } : Jvm.MethodName) jdk_65_method_117_code (4 : Nat) (Option.none : Option Jvm.ClassFile.FieldType)).before a0 Z = true := hw _ (List.mem_of_getElem? (i := 27) rfl)
theorem t28 {a0 : Array Value} {Z : State} (hw : ∀ d ∈ tables_1, d.before a0 Z = true) : (Jvm.Cond.fieldLink "com/example/callweave/callweave/Frame" (19 : Nat) "com/example/callweave/callweave/Frame" "stack" "[Ljava/lang/Object;").before a0 Z = true := hw _ (List.mem_of_getElem? (i := 28) rfl)
theorem t29 {a0 : Array Value} {Z : State} (hw : ∀ d ∈ tables_1, d.before a0 Z = true) : (Jvm.Cond.laysFinal "com/example/callweave/callweave/Frame" "com/example/callweave/callweave/Frame" "stack" "[Ljava/lang/Object;").before a0 Z = true := hw _ (List.mem_of_getElem? (i := 29) rfl)
theorem t30 {a0 : Array Value} {Z : State} (hw : ∀ d ∈ tables_1, d.before a0 Z = true) : (Jvm.Cond.methodLink "com/example/callweave/callweave/FramePopPinLaw" (28 : Nat) ({ cls := "com/example/callweave/callweave/Frame", name := "push", desc := "(Ljava/lang/Object;)V" } : Jvm.MethodName)).before a0 Z = true := hw _ (List.mem_of_getElem? (i := 30) rfl)
theorem t31 {a0 : Array Value} {Z : State} (hw : ∀ d ∈ tables_1, d.before a0 Z = true) : (Jvm.Cond.declares ({ cls := "com/example/callweave/callweave/Frame", name := "push", desc := "(Ljava/lang/Object;)V" } : Jvm.MethodName)).before a0 Z = true := hw _ (List.mem_of_getElem? (i := 31) rfl)
theorem t32 {a0 : Array Value} {Z : State} (hw : ∀ d ∈ tables_1, d.before a0 Z = true) : (Jvm.Cond.instanceMethod ({ cls := "com/example/callweave/callweave/Frame", name := "push", desc := "(Ljava/lang/Object;)V" } : Jvm.MethodName)).before a0 Z = true := hw _ (List.mem_of_getElem? (i := 32) rfl)
theorem t33 {a0 : Array Value} {Z : State} (hw : ∀ d ∈ tables_1, d.before a0 Z = true) : (Jvm.Cond.selects "com/example/callweave/callweave/Frame" ({ cls := "com/example/callweave/callweave/Frame", name := "push", desc := "(Ljava/lang/Object;)V" } : Jvm.MethodName) ({ cls := "com/example/callweave/callweave/Frame", name := "push", desc := "(Ljava/lang/Object;)V" } : Jvm.MethodName)).before a0 Z = true := hw _ (List.mem_of_getElem? (i := 33) rfl)
theorem t34 {a0 : Array Value} {Z : State} (hw : ∀ d ∈ tables_1, d.before a0 Z = true) : (Jvm.Cond.code ({ cls := "com/example/callweave/callweave/Frame", name := "push", desc := "(Ljava/lang/Object;)V" } : Jvm.MethodName) prog_8_method_7_code (2 : Nat) (Option.none : Option Jvm.ClassFile.FieldType)).before a0 Z = true := hw _ (List.mem_of_getElem? (i := 34) rfl)
theorem t35 {a0 : Array Value} {Z : State} (hw : ∀ d ∈ tables_1, d.before a0 Z = true) : (Jvm.Cond.fieldLink "com/example/callweave/callweave/Frame" (27 : Nat) "com/example/callweave/callweave/Frame" "depth" "I").before a0 Z = true := hw _ (List.mem_of_getElem? (i := 35) rfl)
theorem t36 {a0 : Array Value} {Z : State} (hw : ∀ d ∈ tables_1, d.before a0 Z = true) : (Jvm.Cond.lays "com/example/callweave/callweave/Frame" "com/example/callweave/callweave/Frame" "depth" "I").before a0 Z = true := hw _ (List.mem_of_getElem? (i := 36) rfl)
theorem t37 {a0 : Array Value} {Z : State} (hw : ∀ d ∈ tables_1, d.before a0 Z = true) : (Jvm.Cond.castable "java/lang/Integer" "java/lang/Object").before a0 Z = true := hw _ (List.mem_of_getElem? (i := 37) rfl)
theorem t38 {a0 : Array Value} {Z : State} (hw : ∀ d ∈ tables_1, d.before a0 Z = true) : (Jvm.Cond.methodLink "com/example/callweave/callweave/FramePopPinLaw" (32 : Nat) ({ cls := "com/example/callweave/callweave/Frame", name := "pop", desc := "()Ljava/lang/Object;" } : Jvm.MethodName)).before a0 Z = true := hw _ (List.mem_of_getElem? (i := 38) rfl)
theorem t39 {a0 : Array Value} {Z : State} (hw : ∀ d ∈ tables_1, d.before a0 Z = true) : (Jvm.Cond.declares ({ cls := "com/example/callweave/callweave/Frame", name := "pop", desc := "()Ljava/lang/Object;" } : Jvm.MethodName)).before a0 Z = true := hw _ (List.mem_of_getElem? (i := 39) rfl)
theorem t40 {a0 : Array Value} {Z : State} (hw : ∀ d ∈ tables_1, d.before a0 Z = true) : (Jvm.Cond.instanceMethod ({ cls := "com/example/callweave/callweave/Frame", name := "pop", desc := "()Ljava/lang/Object;" } : Jvm.MethodName)).before a0 Z = true := hw _ (List.mem_of_getElem? (i := 40) rfl)
theorem t41 {a0 : Array Value} {Z : State} (hw : ∀ d ∈ tables_1, d.before a0 Z = true) : (Jvm.Cond.selects "com/example/callweave/callweave/Frame" ({ cls := "com/example/callweave/callweave/Frame", name := "pop", desc := "()Ljava/lang/Object;" } : Jvm.MethodName) ({ cls := "com/example/callweave/callweave/Frame", name := "pop", desc := "()Ljava/lang/Object;" } : Jvm.MethodName)).before a0 Z = true := hw _ (List.mem_of_getElem? (i := 41) rfl)
theorem t42 {a0 : Array Value} {Z : State} (hw : ∀ d ∈ tables_1, d.before a0 Z = true) : (Jvm.Cond.code ({ cls := "com/example/callweave/callweave/Frame", name := "pop", desc := "()Ljava/lang/Object;" } : Jvm.MethodName) prog_8_method_8_code (2 : Nat) (Option.some (Jvm.ClassFile.FieldType.object "java/lang/Object"))).before a0 Z = true := hw _ (List.mem_of_getElem? (i := 42) rfl)
theorem t43 {a0 : Array Value} {Z : State} (hw : ∀ d ∈ tables_1, d.before a0 Z = true) : (Jvm.Cond.methodLink "com/example/callweave/callweave/Frame" (49 : Nat) ({ cls := "com/example/callweave/callweave/Frame", name := "word", desc := "(Ljava/lang/Object;)Ljava/lang/Object;" } : Jvm.MethodName)).before a0 Z = true := hw _ (List.mem_of_getElem? (i := 43) rfl)
theorem t44 {a0 : Array Value} {Z : State} (hw : ∀ d ∈ tables_1, d.before a0 Z = true) : (Jvm.Cond.instanceMethod ({ cls := "com/example/callweave/callweave/Frame", name := "word", desc := "(Ljava/lang/Object;)Ljava/lang/Object;" } : Jvm.MethodName)).before a0 Z = true := hw _ (List.mem_of_getElem? (i := 44) rfl)
theorem t45 {a0 : Array Value} {Z : State} (hw : ∀ d ∈ tables_1, d.before a0 Z = true) : (Jvm.Cond.privateMethod ({ cls := "com/example/callweave/callweave/Frame", name := "word", desc := "(Ljava/lang/Object;)Ljava/lang/Object;" } : Jvm.MethodName)).before a0 Z = true := hw _ (List.mem_of_getElem? (i := 45) rfl)
theorem t46 {a0 : Array Value} {Z : State} (hw : ∀ d ∈ tables_1, d.before a0 Z = true) : (Jvm.Cond.code ({ cls := "com/example/callweave/callweave/Frame", name := "word", desc := "(Ljava/lang/Object;)Ljava/lang/Object;" } : Jvm.MethodName) prog_8_method_11_code (2 : Nat) (Option.some (Jvm.ClassFile.FieldType.object "java/lang/Object"))).before a0 Z = true := hw _ (List.mem_of_getElem? (i := 46) rfl)
theorem t47 {a0 : Array Value} {Z : State} (hw : ∀ d ∈ tables_1, d.before a0 Z = true) : (Jvm.Cond.classLink "com/example/callweave/callweave/FramePopPinLaw" (8 : Nat) "java/lang/Integer").before a0 Z = true := hw _ (List.mem_of_getElem? (i := 47) rfl)
theorem t48 {a0 : Array Value} {Z : State} (hw : ∀ d ∈ tables_1, d.before a0 Z = true) : (Jvm.Cond.castable "java/lang/Integer" "java/lang/Integer").before a0 Z = true := hw _ (List.mem_of_getElem? (i := 48) rfl)
theorem t49 {a0 : Array Value} {Z : State} (hw : ∀ d ∈ tables_1, d.before a0 Z = true) : (Jvm.Cond.methodLink "com/example/callweave/callweave/FramePopPinLaw" (36 : Nat) ({ cls := "com/example/callweave/callweave/FramePopPinLaw", name := "same", desc := "(Ljava/lang/Integer;Ljava/lang/Integer;)Z" } : Jvm.MethodName)).before a0 Z = true := hw _ (List.mem_of_getElem? (i := 49) rfl)
theorem t50 {a0 : Array Value} {Z : State} (hw : ∀ d ∈ tables_1, d.before a0 Z = true) : (Jvm.Cond.static ({ cls := "com/example/callweave/callweave/FramePopPinLaw", name := "same", desc := "(Ljava/lang/Integer;Ljava/lang/Integer;)Z" } : Jvm.MethodName)).before a0 Z = true := hw _ (List.mem_of_getElem? (i := 50) rfl)
theorem t51 {a0 : Array Value} {Z : State} (hw : ∀ d ∈ tables_1, d.before a0 Z = true) : (Jvm.Cond.code ({ cls := "com/example/callweave/callweave/FramePopPinLaw", name := "same", desc := "(Ljava/lang/Integer;Ljava/lang/Integer;)Z" } : Jvm.MethodName) method_2_code (2 : Nat) (Option.some Jvm.ClassFile.FieldType.boolean)).before a0 Z = true := hw _ (List.mem_of_getElem? (i := 51) rfl)
theorem t52 {a0 : Array Value} {Z : State} (hw : ∀ d ∈ tables_1, d.before a0 Z = true) : (Jvm.Cond.methodLink "com/example/callweave/callweave/FramePopPinLaw" (7 : Nat) ({ cls := "java/lang/Integer", name := "intValue", desc := "()I" } : Jvm.MethodName)).before a0 Z = true := hw _ (List.mem_of_getElem? (i := 52) rfl)
theorem t53 {a0 : Array Value} {Z : State} (hw : ∀ d ∈ tables_1, d.before a0 Z = true) : (Jvm.Cond.declares ({ cls := "java/lang/Integer", name := "intValue", desc := "()I" } : Jvm.MethodName)).before a0 Z = true := hw _ (List.mem_of_getElem? (i := 53) rfl)
theorem t54 {a0 : Array Value} {Z : State} (hw : ∀ d ∈ tables_1, d.before a0 Z = true) : (Jvm.Cond.instanceMethod ({ cls := "java/lang/Integer", name := "intValue", desc := "()I" } : Jvm.MethodName)).before a0 Z = true := hw _ (List.mem_of_getElem? (i := 54) rfl)
theorem t55 {a0 : Array Value} {Z : State} (hw : ∀ d ∈ tables_1, d.before a0 Z = true) : (Jvm.Cond.selects "java/lang/Integer" ({ cls := "java/lang/Integer", name := "intValue", desc := "()I" } : Jvm.MethodName) ({ cls := "java/lang/Integer", name := "intValue", desc := "()I" } : Jvm.MethodName)).before a0 Z = true := hw _ (List.mem_of_getElem? (i := 55) rfl)
theorem t56 {a0 : Array Value} {Z : State} (hw : ∀ d ∈ tables_1, d.before a0 Z = true) : (Jvm.Cond.code ({ cls := "java/lang/Integer", name := "intValue", desc := "()I" } : Jvm.MethodName) jdk_33_method_27_code (1 : Nat) (Option.some Jvm.ClassFile.FieldType.int)).before a0 Z = true := hw _ (List.mem_of_getElem? (i := 56) rfl)
theorem t57 {a0 : Array Value} {Z : State} (hw : ∀ d ∈ tables_1, d.before a0 Z = true) : (Jvm.Cond.fieldLink "java/lang/Integer" (205 : Nat) "java/lang/Integer" "value" "I").before a0 Z = true := hw _ (List.mem_of_getElem? (i := 57) rfl)
theorem t58 {a0 : Array Value} {Z : State} (hw : ∀ d ∈ tables_1, d.before a0 Z = true) : (Jvm.Cond.laysFinal "java/lang/Integer" "java/lang/Integer" "value" "I").before a0 Z = true := hw _ (List.mem_of_getElem? (i := 58) rfl)
theorem t59 {a0 : Array Value} {Z : State} (hw : ∀ d ∈ tables_1, d.before a0 Z = true) : (Jvm.Cond.classLink "java/lang/Integer" (1 : Nat) "java/lang/Integer").before a0 Z = true := hw _ (List.mem_of_getElem? (i := 59) rfl)
theorem t60 {a0 : Array Value} {Z : State} (hw : ∀ d ∈ tables_1, d.before a0 Z = true) : (Jvm.Cond.instantiable "java/lang/Integer" (1 : Nat)).before a0 Z = true := hw _ (List.mem_of_getElem? (i := 60) rfl)
theorem t61 {a0 : Array Value} {Z : State} (hw : ∀ d ∈ tables_1, d.before a0 Z = true) : (Jvm.Cond.methodLink "java/lang/Integer" (199 : Nat) ({ cls := "java/lang/Integer", name := "<init>", desc := "(I)V" } : Jvm.MethodName)).before a0 Z = true := hw _ (List.mem_of_getElem? (i := 61) rfl)
theorem t62 {a0 : Array Value} {Z : State} (hw : ∀ d ∈ tables_1, d.before a0 Z = true) : (Jvm.Cond.instanceMethod ({ cls := "java/lang/Integer", name := "<init>", desc := "(I)V" } : Jvm.MethodName)).before a0 Z = true := hw _ (List.mem_of_getElem? (i := 62) rfl)
theorem t63 {a0 : Array Value} {Z : State} (hw : ∀ d ∈ tables_1, d.before a0 Z = true) : (Jvm.Cond.code ({ cls := "java/lang/Integer", name := "<init>", desc := "(I)V" } : Jvm.MethodName) jdk_33_method_23_code (2 : Nat) (Option.none : Option Jvm.ClassFile.FieldType)).before a0 Z = true := hw _ (List.mem_of_getElem? (i := 63) rfl)
theorem t64 {a0 : Array Value} {Z : State} (hw : ∀ d ∈ tables_1, d.before a0 Z = true) : (Jvm.Cond.methodLink "java/lang/Integer" (202 : Nat) ({ cls := "java/lang/Number", name := "<init>", desc := "()V" } : Jvm.MethodName)).before a0 Z = true := hw _ (List.mem_of_getElem? (i := 64) rfl)
theorem t65 {a0 : Array Value} {Z : State} (hw : ∀ d ∈ tables_1, d.before a0 Z = true) : (Jvm.Cond.instanceMethod ({ cls := "java/lang/Number", name := "<init>", desc := "()V" } : Jvm.MethodName)).before a0 Z = true := hw _ (List.mem_of_getElem? (i := 65) rfl)
theorem t68 {a0 : Array Value} {Z : State} (hw : ∀ d ∈ tables_1, d.before a0 Z = true) : (Jvm.Cond.initialized "java/lang/Number").before a0 Z = true := hw _ (List.mem_of_getElem? (i := 68) rfl)
theorem t69 {a0 : Array Value} {Z : State} (hw : ∀ d ∈ tables_1, d.before a0 Z = true) : (Jvm.Cond.code ({ cls := "java/lang/Number", name := "<init>", desc := "()V" } : Jvm.MethodName) jdk_18_method_1_code (1 : Nat) (Option.none : Option Jvm.ClassFile.FieldType)).before a0 Z = true := hw _ (List.mem_of_getElem? (i := 69) rfl)
theorem t70 {a0 : Array Value} {Z : State} (hw : ∀ d ∈ tables_1, d.before a0 Z = true) : (Jvm.Cond.methodLink "java/lang/Number" (1 : Nat) ({ cls := "java/lang/Object", name := "<init>", desc := "()V" } : Jvm.MethodName)).before a0 Z = true := hw _ (List.mem_of_getElem? (i := 70) rfl)
def World (Z : State) (w_cache : Addr) (cl_w_cache : Cell) : Prop :=
  Sta Z Z.heap "java/lang/Integer$IntegerCache" "cache" "[Ljava/lang/Integer;" (.ref w_cache) ∧
  Exa Z Z.heap w_cache "[Ljava/lang/Integer;" ∧
  Sta Z Z.heap "java/lang/Integer$IntegerCache" "high" "I" (.int (127 : Int32)) ∧
  Bxs Z w_cache cl_w_cache "java/lang/Integer" "I" 256 (fun j => .int (j - 128))
theorem pn_0 : plainName "java/lang/Integer" = true := by first | (simp [plainName, overriddenIn]; done) | decide +kernel
theorem d_jdk_33_method_22_code_0 : decode jdk_33_method_22_code 0 = .ok (.iload_n 0, 1) := by decide +kernel
theorem d_jdk_33_method_22_code_1 : decode jdk_33_method_22_code 1 = .ok (.bipush (-128), 2) := by decide +kernel
theorem d_jdk_33_method_22_code_3 : decode jdk_33_method_22_code 3 = .ok (.if_icmp .lt 20, 3) := by decide +kernel
theorem d_jdk_33_method_22_code_23 : decode jdk_33_method_22_code 23 = .ok (.new 1, 3) := by decide +kernel
theorem d_jdk_33_method_22_code_26 : decode jdk_33_method_22_code 26 = .ok (.dup, 1) := by decide +kernel
theorem d_jdk_33_method_22_code_27 : decode jdk_33_method_22_code 27 = .ok (.iload_n 0, 1) := by decide +kernel
theorem d_jdk_33_method_22_code_28 : decode jdk_33_method_22_code 28 = .ok (.invokespecial 199, 3) := by decide +kernel
theorem d_jdk_33_method_23_code_0 : decode jdk_33_method_23_code 0 = .ok (.aload_n 0, 1) := by decide +kernel
theorem d_jdk_33_method_23_code_1 : decode jdk_33_method_23_code 1 = .ok (.invokespecial 202, 3) := by decide +kernel
theorem pn_1 : plainName "java/lang/Number" = true := by first | (simp [plainName, overriddenIn]; done) | decide +kernel
theorem d_jdk_18_method_1_code_0 : decode jdk_18_method_1_code 0 = .ok (.aload_n 0, 1) := by decide +kernel
theorem d_jdk_18_method_1_code_1 : decode jdk_18_method_1_code 1 = .ok (.invokespecial 1, 3) := by decide +kernel
theorem d_jdk_18_method_1_code_4 : decode jdk_18_method_1_code 4 = .ok (.return_, 1) := by decide +kernel
set_option maxRecDepth 65536 in
set_option maxHeartbeats 40000000 in
theorem c2_init {l : Launch} {Z : State} {a0 : Array Value} (hw : ∀ d ∈ tables_1, d.before a0 Z = true) {w_cache : Addr} {cl_w_cache : Cell} (wd : World Z w_cache cl_w_cache)  {h0 : Heap} (O : Ext Z.heap h0) {o0 : Addr} (E_o0 : Exa Z h0 o0 "java/lang/Integer") (F_value_o0 : Fld Z h0 o0 "java/lang/Integer" "value" "I" (.int (0 : Int32))) :
    Ctr l Z y0 jdk_18_method_1_code 1 none ({ frames := 1, cells := 0, slots := 0, locals := 12 } : Room) #[(.ref o0)] h0 (fun v h L => v = none ∧ L = [] ∧ h = h0) := by
  refine Ctr.body (plainFor_of_name pn_1) ?_
  intro p e s m below meth c T X hx hby hml hown hnm hret hlk hZ eT
  have hml : c.maxLocals = 1 := hml
  have hown : s.vm.findClass "java/lang/Number" = some m.cls := hown
  have hnm : meth.name = "<init>" := hnm
  have hret : meth.sig.returnType = none := hret
  refine Run.cast (show entryFrame m #[(.ref o0)] 1 = mkF m 0 #[.val (.ref o0)] [] from by first | (simp [entryFrame, mkF, argsToLocals, Value.category]; done) | rfl) ?_
  have wd0 := wd
  obtain ⟨S_w_cache, E_w_cache, S_w_high, B_w_cache⟩ := wd
  have wd := wd0
  have N : Fr Z.heap.size [] := Fr.nil _
  have KK : Keep h0 h0 [] := Keep.refl h0 []
  refine q_aloadN (pc' := 1) X hx (hb hby d_jdk_18_method_1_code_0) rfl rfl rfl ?_
  refine q_initO (pc' := 4) X hx hZ hown (hb hby d_jdk_18_method_1_code_1) (t70 hw) (t18 hw) (t19 hw) eT (by rw [hml]; rfl) (by decide) (W := 0) rfl (by decide) rfl ?_
  intro T X eT
  refine Run.retV X hx hlk hret (hb hby d_jdk_18_method_1_code_4) (by decide) (by decide) ?_
  try rw [eT]
  exact ⟨rfl, rfl, rfl⟩
theorem pd_0 : parseMethodDescriptor "()V" = some ⟨[], none⟩ := by decide +kernel
theorem d_jdk_33_method_23_code_4 : decode jdk_33_method_23_code 4 = .ok (.aload_n 0, 1) := by decide +kernel
theorem d_jdk_33_method_23_code_5 : decode jdk_33_method_23_code 5 = .ok (.iload_n 1, 1) := by decide +kernel
theorem d_jdk_33_method_23_code_6 : decode jdk_33_method_23_code 6 = .ok (.putfield 205, 3) := by decide +kernel
theorem d_jdk_33_method_23_code_9 : decode jdk_33_method_23_code 9 = .ok (.return_, 1) := by decide +kernel
set_option maxRecDepth 65536 in
set_option maxHeartbeats 40000000 in
theorem c1_init {l : Launch} {Z : State} {a0 : Array Value} (hw : ∀ d ∈ tables_1, d.before a0 Z = true) {w_cache : Addr} {cl_w_cache : Cell} (wd : World Z w_cache cl_w_cache) (x0 : Int32) {h0 : Heap} (O : Ext Z.heap h0) {o0 : Addr} (E_o0 : Exa Z h0 o0 "java/lang/Integer") (F_value_o0 : Fld Z h0 o0 "java/lang/Integer" "value" "I" (.int (0 : Int32))) (g_o0 : Z.heap.size ≤ o0) :
    Ctr l Z y1 jdk_33_method_23_code 2 none ({ frames := 2, cells := 0, slots := 0, locals := 24 } : Room) #[(.ref o0), (.int x0)] h0 (fun v h L => v = none ∧ Fr Z.heap.size L ∧ Keep h0 h [o0] ∧ Exa Z h o0 "java/lang/Integer" ∧ Fld Z h o0 "java/lang/Integer" "value" "I" (.int x0)) := by
  refine Ctr.body (plainFor_of_name pn_0) ?_
  intro p e s m below meth c T X hx hby hml hown hnm hret hlk hZ eT
  have hml : c.maxLocals = 2 := hml
  have hown : s.vm.findClass "java/lang/Integer" = some m.cls := hown
  have hnm : meth.name = "<init>" := hnm
  have hret : meth.sig.returnType = none := hret
  refine Run.cast (show entryFrame m #[(.ref o0), (.int x0)] 2 = mkF m 0 #[.val (.ref o0), .val (.int x0)] [] from by first | (simp [entryFrame, mkF, argsToLocals, Value.category]; done) | rfl) ?_
  have wd0 := wd
  obtain ⟨S_w_cache, E_w_cache, S_w_high, B_w_cache⟩ := wd
  have wd := wd0
  have N : Fr Z.heap.size [] := Fr.nil _
  have KK : Keep h0 h0 [o0] := Keep.refl h0 [o0]
  refine q_aloadN (pc' := 1) X hx (hb hby d_jdk_33_method_23_code_0) rfl rfl rfl ?_
  refine q_callN (pc' := 4) (y := y0) (rest := []) (b := o0) X hx hZ hown (hb hby d_jdk_33_method_23_code_1) rfl (t64 hw) (t65 hw) (t68 hw) (t69 hw) (by decide) eT [] (c2_init hw wd  O E_o0 F_value_o0) (by rw [hml]; rfl) (lenOf pd_0 rfl) (W := 0) rfl (by decide) (by decide) (by decide) (by decide) rfl ?_
  rintro _ T _ X ⟨rfl, rfl, eT⟩
  rw [List.append_nil] at X
  show Run p e below _ (T.setTop (mkF m 4 _ []))
  refine q_aloadN (pc' := 5) X hx (hb hby d_jdk_33_method_23_code_4) rfl rfl rfl ?_
  refine q_iloadN (pc' := 6) X hx (hb hby d_jdk_33_method_23_code_5) rfl rfl ?_
  refine q_putF (pc' := 9) X hx hZ hown (hb hby d_jdk_33_method_23_code_6) (host := "") (Or.inl (t57 hw)) eT F_value_o0 E_o0 (Or.inr ⟨(t58 hw), rfl, hnm⟩) (t60 hw) (ty := .int) (by decide) rfl rfl rfl ?_
  intro T h_1 X eT Wx
  have N := Fr.snoc X N g_o0
  have O := ext_wr O Wx g_o0
  have KK := KK.wr Wx (Or.inl (List.mem_of_getElem? (i := 0) rfl))
  have E_o0 := E_o0.wr Wx
  have F_value_o0 := F_value_o0.same Wx
  refine Run.retV X hx hlk hret (hb hby d_jdk_33_method_23_code_9) (by decide) (by decide) ?_
  try rw [eT]
  exact ⟨rfl, N, KK, E_o0, F_value_o0⟩
theorem pd_1 : parseMethodDescriptor "(I)V" = some ⟨[.int], none⟩ := by decide +kernel
theorem d_jdk_33_method_22_code_31 : decode jdk_33_method_22_code 31 = .ok (.areturn, 1) := by decide +kernel
theorem d_jdk_33_method_22_code_6 : decode jdk_33_method_22_code 6 = .ok (.iload_n 0, 1) := by decide +kernel
theorem d_jdk_33_method_22_code_7 : decode jdk_33_method_22_code 7 = .ok (.getstatic 191, 3) := by decide +kernel
theorem d_jdk_33_method_22_code_10 : decode jdk_33_method_22_code 10 = .ok (.if_icmp .gt 13, 3) := by decide +kernel
theorem d_jdk_33_method_22_code_13 : decode jdk_33_method_22_code 13 = .ok (.getstatic 195, 3) := by decide +kernel
theorem d_jdk_33_method_22_code_16 : decode jdk_33_method_22_code 16 = .ok (.iload_n 0, 1) := by decide +kernel
theorem d_jdk_33_method_22_code_17 : decode jdk_33_method_22_code 17 = .ok (.sipush 128, 3) := by decide +kernel
theorem d_jdk_33_method_22_code_20 : decode jdk_33_method_22_code 20 = .ok (.iadd, 1) := by decide +kernel
theorem d_jdk_33_method_22_code_21 : decode jdk_33_method_22_code 21 = .ok (.aaload, 1) := by decide +kernel
theorem d_jdk_33_method_22_code_22 : decode jdk_33_method_22_code 22 = .ok (.areturn, 1) := by decide +kernel
set_option maxRecDepth 65536 in
set_option maxHeartbeats 40000000 in
theorem own_valueOf {l : Launch} {Z : State} {a0 : Array Value} (hw : ∀ d ∈ tables_1, d.before a0 Z = true) {w_cache : Addr} {cl_w_cache : Cell} (wd : World Z w_cache cl_w_cache) (x0 : Int32) {h0 : Heap} (O : Ext Z.heap h0) :
    Ctr l Z y2 jdk_33_method_22_code 1 (some (.object "java/lang/Integer")) ({ frames := 3, cells := 1, slots := 1, locals := 38 } : Room) #[(.int x0)] h0 (fun v h L => ∃ r, v = some (.ref r) ∧ Fr Z.heap.size L ∧ Keep h0 h [] ∧ Exa Z h r "java/lang/Integer" ∧ Fld Z h r "java/lang/Integer" "value" "I" (.int x0)) := by
  refine Ctr.body (plainFor_of_name pn_0) ?_
  intro p e s m below meth c T X hx hby hml hown hnm hret hlk hZ eT
  have hml : c.maxLocals = 1 := hml
  have hown : s.vm.findClass "java/lang/Integer" = some m.cls := hown
  have hnm : meth.name = "valueOf" := hnm
  have hret : meth.sig.returnType = (some (.object "java/lang/Integer")) := hret
  refine Run.cast (show entryFrame m #[(.int x0)] 1 = mkF m 0 #[.val (.int x0)] [] from by first | (simp [entryFrame, mkF, argsToLocals, Value.category]; done) | rfl) ?_
  have wd0 := wd
  obtain ⟨S_w_cache, E_w_cache, S_w_high, B_w_cache⟩ := wd
  have wd := wd0
  have N : Fr Z.heap.size [] := Fr.nil _
  have KK : Keep h0 h0 [] := Keep.refl h0 []
  refine q_iloadN (pc' := 1) X hx (hb hby d_jdk_33_method_22_code_0) rfl rfl ?_
  refine q_bipush (pc' := 3) (z := (-128 : Int32)) X hx (hb hby d_jdk_33_method_22_code_1) rfl rfl ?_
  rcases Bool.eq_false_or_eq_true (if_icmp.holds .lt x0 (-128 : Int32)) with hc3 | hc3
  · refine q_icmpYes (pc' := 23) X hx (hb hby d_jdk_33_method_22_code_3) hc3 (by decide) (by decide) ?_
    refine q_new (pc' := 26) X hx hZ hown (hb hby d_jdk_33_method_22_code_23) (t59 hw) (t60 hw) (t6 hw) eT (by decide) (by decide) rfl ?_
    intro T h_1 b23_0 X eT Ex gb Ax Dx
    have g_b23_0 : Z.heap.size ≤ b23_0 := Nat.le_trans O.1 (Nat.le_of_eq gb.symm)
    have sz_b23_0 : h0.size ≤ b23_0 := Nat.le_trans KK.1 (Nat.le_of_eq gb.symm)
    have KK := KK.ext Ex
    have O := ext_trans O Ex
    have E_b23_0 := Ax
    have F_value_b23_0 : Fld Z h_1 b23_0 "java/lang/Integer" "value" "I" (.int (0 : Int32)) := Dx (Or.inr (t58 hw)) (ty := .int) (by decide)
    refine q_dup (pc' := 27) X hx (hb hby d_jdk_33_method_22_code_26) rfl rfl ?_
    refine q_iloadN (pc' := 28) X hx (hb hby d_jdk_33_method_22_code_27) rfl rfl ?_
    refine q_callN (pc' := 31) (y := y1) (rest := [(.ref b23_0)]) (b := b23_0) X hx hZ hown (hb hby d_jdk_33_method_22_code_28) rfl (t61 hw) (t62 hw) (t6 hw) (t63 hw) (by decide) eT [(.int x0)] (c1_init hw wd (x0) O E_b23_0 F_value_b23_0 g_b23_0) (by rw [hml]; rfl) (lenOf pd_1 rfl) (W := 1) rfl (by decide) (by decide) (by decide) (by decide) rfl ?_
    rintro _ T _ X ⟨rfl, NL, KL, E_b23_0, F_value_b23_0⟩
    have N := N.app NL
    obtain ⟨h_3, eT⟩ : ∃ z, T.heap = z := ⟨_, rfl⟩
    rw [eT] at KL E_b23_0 F_value_b23_0
    have O := ext_keep O KL (allS g_b23_0 all0)
    have KK := KK.trans KL (allS (Or.inr sz_b23_0) all0)
    show Run p e below _ (T.setTop (mkF m 31 _ [(.ref b23_0)]))
    refine Run.retR X hx hlk hret (hb hby d_jdk_33_method_22_code_31) rfl rfl (by decide) (by decide) ?_
    try rw [eT]
    exact ⟨b23_0, rfl, N, KK, E_b23_0, F_value_b23_0⟩
  · refine q_icmpNo (pc' := 6) X hx (hb hby d_jdk_33_method_22_code_3) hc3 rfl ?_
    refine q_iloadN (pc' := 7) X hx (hb hby d_jdk_33_method_22_code_6) rfl rfl ?_
    refine q_getS (pc' := 10) X hx hZ hown (hb hby d_jdk_33_method_22_code_7) (host := "") (Or.inl (t8 hw)) eT (S_w_high.ext O) rfl ?_
    intro T X eT
    rcases Bool.eq_false_or_eq_true (if_icmp.holds .gt x0 (127 : Int32)) with hc10 | hc10
    · refine q_icmpYes (pc' := 23) X hx (hb hby d_jdk_33_method_22_code_10) hc10 (by decide) (by decide) ?_
      refine q_new (pc' := 26) X hx hZ hown (hb hby d_jdk_33_method_22_code_23) (t59 hw) (t60 hw) (t6 hw) eT (by decide) (by decide) rfl ?_
      intro T h_1 b23_0 X eT Ex gb Ax Dx
      have g_b23_0 : Z.heap.size ≤ b23_0 := Nat.le_trans O.1 (Nat.le_of_eq gb.symm)
      have sz_b23_0 : h0.size ≤ b23_0 := Nat.le_trans KK.1 (Nat.le_of_eq gb.symm)
      have KK := KK.ext Ex
      have O := ext_trans O Ex
      have E_b23_0 := Ax
      have F_value_b23_0 : Fld Z h_1 b23_0 "java/lang/Integer" "value" "I" (.int (0 : Int32)) := Dx (Or.inr (t58 hw)) (ty := .int) (by decide)
      refine q_dup (pc' := 27) X hx (hb hby d_jdk_33_method_22_code_26) rfl rfl ?_
      refine q_iloadN (pc' := 28) X hx (hb hby d_jdk_33_method_22_code_27) rfl rfl ?_
      refine q_callN (pc' := 31) (y := y1) (rest := [(.ref b23_0)]) (b := b23_0) X hx hZ hown (hb hby d_jdk_33_method_22_code_28) rfl (t61 hw) (t62 hw) (t6 hw) (t63 hw) (by decide) eT [(.int x0)] (c1_init hw wd (x0) O E_b23_0 F_value_b23_0 g_b23_0) (by rw [hml]; rfl) (lenOf pd_1 rfl) (W := 1) rfl (by decide) (by decide) (by decide) (by decide) rfl ?_
      rintro _ T _ X ⟨rfl, NL, KL, E_b23_0, F_value_b23_0⟩
      have N := N.app NL
      obtain ⟨h_3, eT⟩ : ∃ z, T.heap = z := ⟨_, rfl⟩
      rw [eT] at KL E_b23_0 F_value_b23_0
      have O := ext_keep O KL (allS g_b23_0 all0)
      have KK := KK.trans KL (allS (Or.inr sz_b23_0) all0)
      show Run p e below _ (T.setTop (mkF m 31 _ [(.ref b23_0)]))
      refine Run.retR X hx hlk hret (hb hby d_jdk_33_method_22_code_31) rfl rfl (by decide) (by decide) ?_
      try rw [eT]
      exact ⟨b23_0, rfl, N, KK, E_b23_0, F_value_b23_0⟩
    · refine q_icmpNo (pc' := 13) X hx (hb hby d_jdk_33_method_22_code_10) hc10 rfl ?_
      refine q_getS (pc' := 16) X hx hZ hown (hb hby d_jdk_33_method_22_code_13) (host := "") (Or.inl (t10 hw)) eT (S_w_cache.ext O) rfl ?_
      intro T X eT
      refine q_iloadN (pc' := 17) X hx (hb hby d_jdk_33_method_22_code_16) rfl rfl ?_
      refine q_sipush (pc' := 20) (z := (128 : Int32)) X hx (hb hby d_jdk_33_method_22_code_17) rfl rfl ?_
      refine q_iadd (pc' := 21) (z := (x0 + (128 : Int32))) X hx (hb hby d_jdk_33_method_22_code_20) rfl rfl ?_
      have hj := cache_idx hc3 hc10 B_w_cache.2.1
      obtain ⟨r0, hat, Er, Fv⟩ := B_w_cache.2.2.2 (x0 + (128 : Int32)) hj
      dsimp only at Fv
      rw [back128] at Fv
      have E_r0 := Er.ext O
      have F_value_r0 := Fv.ext O
      have st := fun t q => X.aaload hx (j := (x0 + (128 : Int32))) (v := .ref r0) (by rw [eT]; exact (B_w_cache.1.ext O).1) (State.isArrayOf_alike hZ.alike B_w_cache.1.2.1) rfl B_w_cache.1.2.2 hj hat (g := (mkF m 21 #[.val (.int x0)] [(.int (x0 + (128 : Int32))), (.ref w_cache)])) rfl rfl (hb hby d_jdk_33_method_22_code_21) t q
      refine Run.via st ?_
      show Run p e below _ (T.setTop (mkF m 22 #[.val (.int x0)] [(.ref r0)]))
      refine Run.retR X hx hlk hret (hb hby d_jdk_33_method_22_code_22) rfl rfl (by decide) (by decide) ?_
      try rw [eT]
      exact ⟨r0, rfl, N, KK, E_r0, F_value_r0⟩
theorem pn_2 : plainName "com/example/callweave/callweave/FramePopPinLaw" = true := by first | (simp [plainName, overriddenIn]; done) | decide +kernel
theorem d_method_3_code_0 : decode method_3_code 0 = .ok (.iload_n 1, 1) := by decide +kernel
theorem d_method_3_code_1 : decode method_3_code 1 = .ok (.iload_n 2, 1) := by decide +kernel
theorem d_method_3_code_2 : decode method_3_code 2 = .ok (.ishr, 1) := by decide +kernel
theorem d_method_3_code_3 : decode method_3_code 3 = .ok (.iconst 1, 1) := by decide +kernel
theorem d_method_3_code_4 : decode method_3_code 4 = .ok (.iand, 1) := by decide +kernel
theorem d_method_3_code_5 : decode method_3_code 5 = .ok (.ifCond .eq 5, 3) := by decide +kernel
theorem d_method_3_code_10 : decode method_3_code 10 = .ok (.iload_n 0, 1) := by decide +kernel
theorem d_method_3_code_11 : decode method_3_code 11 = .ok (.invokestatic 13, 3) := by decide +kernel
theorem pd_2 : parseMethodDescriptor "(I)Ljava/lang/Integer;" = some ⟨[.int], some (.object "java/lang/Integer")⟩ := by decide +kernel
theorem d_method_3_code_14 : decode method_3_code 14 = .ok (.areturn, 1) := by decide +kernel
theorem d_method_3_code_8 : decode method_3_code 8 = .ok (.aconst_null, 1) := by decide +kernel
theorem d_method_3_code_9 : decode method_3_code 9 = .ok (.areturn, 1) := by decide +kernel
set_option maxRecDepth 65536 in
set_option maxHeartbeats 40000000 in
theorem own_word {l : Launch} {Z : State} {a0 : Array Value} (hw : ∀ d ∈ tables_1, d.before a0 Z = true) {w_cache : Addr} {cl_w_cache : Cell} (wd : World Z w_cache cl_w_cache) (x0 x1 x2 : Int32) {h0 : Heap} (O : Ext Z.heap h0) :
    Ctr l Z y3 method_3_code 3 (some (.object "java/lang/Integer")) ({ frames := 4, cells := 1, slots := 1, locals := 50 } : Room) #[(.int x0), (.int x1), (.int x2)] h0 (fun v h L => ∃ vv, v = some vv ∧ Fr Z.heap.size L ∧ Keep h0 h [] ∧ Box Z h vv x0) := by
  refine Ctr.body (plainFor_of_name pn_2) ?_
  intro p e s m below meth c T X hx hby hml hown hnm hret hlk hZ eT
  have hml : c.maxLocals = 3 := hml
  have hown : s.vm.findClass "com/example/callweave/callweave/FramePopPinLaw" = some m.cls := hown
  have hnm : meth.name = "word" := hnm
  have hret : meth.sig.returnType = (some (.object "java/lang/Integer")) := hret
  refine Run.cast (show entryFrame m #[(.int x0), (.int x1), (.int x2)] 3 = mkF m 0 #[.val (.int x0), .val (.int x1), .val (.int x2)] [] from by first | (simp [entryFrame, mkF, argsToLocals, Value.category]; done) | rfl) ?_
  have wd0 := wd
  obtain ⟨S_w_cache, E_w_cache, S_w_high, B_w_cache⟩ := wd
  have wd := wd0
  have N : Fr Z.heap.size [] := Fr.nil _
  have KK : Keep h0 h0 [] := Keep.refl h0 []
  refine q_iloadN (pc' := 1) X hx (hb hby d_method_3_code_0) rfl rfl ?_
  refine q_iloadN (pc' := 2) X hx (hb hby d_method_3_code_1) rfl rfl ?_
  refine q_ishr (pc' := 3) (z := (x1 >>> (x2 &&& 31))) X hx (hb hby d_method_3_code_2) rfl rfl ?_
  refine q_iconst (pc' := 4) (z := (1 : Int32)) X hx (hb hby d_method_3_code_3) rfl rfl ?_
  refine q_iand (pc' := 5) (z := ((x1 >>> (x2 &&& 31)) &&& (1 : Int32))) X hx (hb hby d_method_3_code_4) rfl rfl ?_
  rcases Bool.eq_false_or_eq_true (ifCond.holds .eq ((x1 >>> (x2 &&& 31)) &&& (1 : Int32))) with hc5 | hc5
  · refine q_ifYes (pc' := 10) X hx (hb hby d_method_3_code_5) hc5 (by decide) (by decide) ?_
    refine q_iloadN (pc' := 11) X hx (hb hby d_method_3_code_10) rfl rfl ?_
    refine q_callC (pc' := 14) (y := y2) (rest := []) X hx hZ hown (hb hby d_method_3_code_11) (t4 hw) (t5 hw) (t6 hw) (t7 hw) (by decide) eT [(.int x0)] (own_valueOf hw wd x0 O) (by rw [hml]; rfl) (lenOf pd_2 rfl) (W := 0) rfl (by decide) (by decide) (by decide) (by decide) rfl ?_
    rintro _ T _ X ⟨r_1, rfl, NL, KL, E_r_1, F_value_r_1⟩
    have N := N.app NL
    obtain ⟨h_2, eT⟩ : ∃ z, T.heap = z := ⟨_, rfl⟩
    rw [eT] at KL E_r_1 F_value_r_1
    have O := ext_keep O KL all0
    have KK := KK.trans KL all0
    show Run p e below _ (T.setTop (mkF m 14 _ [(.ref r_1)]))
    refine Run.retR X hx hlk hret (hb hby d_method_3_code_14) rfl rfl (by decide) (by decide) ?_
    try rw [eT]
    exact ⟨.ref r_1, rfl, N, KK, Or.inr ⟨r_1, rfl, E_r_1, F_value_r_1⟩⟩
  · refine q_ifNo (pc' := 8) X hx (hb hby d_method_3_code_5) hc5 rfl ?_
    refine q_null (pc' := 9) X hx (hb hby d_method_3_code_8) rfl ?_
    refine Run.retR X hx hlk hret (hb hby d_method_3_code_9) rfl rfl (by decide) (by decide) ?_
    try rw [eT]
    exact ⟨.null, rfl, N, KK, Or.inl rfl⟩
theorem d_method_2_code_0 : decode method_2_code 0 = .ok (.aload_n 0, 1) := by decide +kernel
theorem d_method_2_code_1 : decode method_2_code 1 = .ok (.ifnonnull 13, 3) := by decide +kernel
theorem d_method_2_code_4 : decode method_2_code 4 = .ok (.aload_n 1, 1) := by decide +kernel
theorem d_method_2_code_5 : decode method_2_code 5 = .ok (.ifnonnull 7, 3) := by decide +kernel
theorem d_method_2_code_8 : decode method_2_code 8 = .ok (.iconst 1, 1) := by decide +kernel
theorem d_method_2_code_9 : decode method_2_code 9 = .ok (.goto 4, 3) := by decide +kernel
theorem d_method_2_code_13 : decode method_2_code 13 = .ok (.ireturn, 1) := by decide +kernel
theorem d_method_2_code_14 : decode method_2_code 14 = .ok (.aload_n 1, 1) := by decide +kernel
theorem d_method_2_code_15 : decode method_2_code 15 = .ok (.ifnonnull 5, 3) := by decide +kernel
theorem d_method_2_code_20 : decode method_2_code 20 = .ok (.aload_n 0, 1) := by decide +kernel
theorem d_method_2_code_21 : decode method_2_code 21 = .ok (.invokevirtual 7, 3) := by decide +kernel
theorem d_jdk_33_method_27_code_0 : decode jdk_33_method_27_code 0 = .ok (.aload_n 0, 1) := by decide +kernel
theorem d_jdk_33_method_27_code_1 : decode jdk_33_method_27_code 1 = .ok (.getfield 205, 3) := by decide +kernel
theorem d_jdk_33_method_27_code_4 : decode jdk_33_method_27_code 4 = .ok (.ireturn, 1) := by decide +kernel
set_option maxRecDepth 65536 in
set_option maxHeartbeats 40000000 in
theorem c3_intValue {l : Launch} {Z : State} {a0 : Array Value} (hw : ∀ d ∈ tables_1, d.before a0 Z = true) {w_cache : Addr} {cl_w_cache : Cell} (wd : World Z w_cache cl_w_cache) (x0 : Int32) {h0 : Heap} (O : Ext Z.heap h0) {o0 : Addr} (E_o0 : Exa Z h0 o0 "java/lang/Integer") (F_value_o0 : Fld Z h0 o0 "java/lang/Integer" "value" "I" (.int x0)) :
    Ctr l Z y4 jdk_33_method_27_code 1 (some .int) ({ frames := 0, cells := 0, slots := 0, locals := 0 } : Room) #[(.ref o0)] h0 (fun v h L => v = some (.int x0) ∧ L = [] ∧ h = h0) := by
  refine Ctr.body (plainFor_of_name pn_0) ?_
  intro p e s m below meth c T X hx hby hml hown hnm hret hlk hZ eT
  have hml : c.maxLocals = 1 := hml
  have hown : s.vm.findClass "java/lang/Integer" = some m.cls := hown
  have hnm : meth.name = "intValue" := hnm
  have hret : meth.sig.returnType = (some .int) := hret
  refine Run.cast (show entryFrame m #[(.ref o0)] 1 = mkF m 0 #[.val (.ref o0)] [] from by first | (simp [entryFrame, mkF, argsToLocals, Value.category]; done) | rfl) ?_
  have wd0 := wd
  obtain ⟨S_w_cache, E_w_cache, S_w_high, B_w_cache⟩ := wd
  have wd := wd0
  have N : Fr Z.heap.size [] := Fr.nil _
  have KK : Keep h0 h0 [] := Keep.refl h0 []
  refine q_aloadN (pc' := 1) X hx (hb hby d_jdk_33_method_27_code_0) rfl rfl rfl ?_
  refine q_getF (pc' := 4) X hx hZ hown (hb hby d_jdk_33_method_27_code_1) (host := "") (Or.inl (t57 hw)) eT F_value_o0 rfl ?_
  intro T X eT
  refine Run.retI X hx hlk hret (hb hby d_jdk_33_method_27_code_4) (by decide) (by decide) ?_
  try rw [eT]
  exact ⟨rfl, rfl, rfl⟩
theorem pd_3 : parseMethodDescriptor "()I" = some ⟨[], some .int⟩ := by decide +kernel
theorem d_method_2_code_24 : decode method_2_code 24 = .ok (.aload_n 1, 1) := by decide +kernel
theorem d_method_2_code_25 : decode method_2_code 25 = .ok (.invokevirtual 7, 3) := by decide +kernel
theorem d_method_2_code_28 : decode method_2_code 28 = .ok (.if_icmp .ne 7, 3) := by decide +kernel
theorem d_method_2_code_31 : decode method_2_code 31 = .ok (.iconst 1, 1) := by decide +kernel
theorem d_method_2_code_32 : decode method_2_code 32 = .ok (.goto 4, 3) := by decide +kernel
theorem d_method_2_code_36 : decode method_2_code 36 = .ok (.ireturn, 1) := by decide +kernel
set_option maxRecDepth 65536 in
set_option maxHeartbeats 40000000 in
theorem own_same {l : Launch} {Z : State} {a0 : Array Value} (hw : ∀ d ∈ tables_1, d.before a0 Z = true) {w_cache : Addr} {cl_w_cache : Cell} (wd : World Z w_cache cl_w_cache) (x0 : Int32) {h0 : Heap} (O : Ext Z.heap h0) {vv : Value} (hr_vv : vv.isRef = true) (B_vv : Box Z h0 vv x0) :
    Ctr l Z y5 method_2_code 2 (some .boolean) ({ frames := 1, cells := 0, slots := 0, locals := 13 } : Room) #[vv, vv] h0 (fun v h L => v = some (.int (1 : Int32)) ∧ L = [] ∧ h = h0) := by
  refine Ctr.body (plainFor_of_name pn_2) ?_
  intro p e s m below meth c T X hx hby hml hown hnm hret hlk hZ eT
  have hml : c.maxLocals = 2 := hml
  have hown : s.vm.findClass "com/example/callweave/callweave/FramePopPinLaw" = some m.cls := hown
  have hnm : meth.name = "same" := hnm
  have hret : meth.sig.returnType = (some .boolean) := hret
  refine Run.cast (show entryFrame m #[vv, vv] 2 = mkF m 0 #[.val vv, .val vv] [] from by rcases ref_cases hr_vv with rfl | ⟨_, rfl⟩ <;> first | (simp [entryFrame, mkF, argsToLocals, Value.category]; done) | rfl) ?_
  have wd0 := wd
  obtain ⟨S_w_cache, E_w_cache, S_w_high, B_w_cache⟩ := wd
  have wd := wd0
  refine q_aloadN (pc' := 1) X hx (hb hby d_method_2_code_0) rfl hr_vv rfl ?_
  rcases ref_cases hr_vv with rfl | ⟨r1_0, rfl⟩
  · skip
    refine q_ifnonnullNo (pc' := 4) X hx (hb hby d_method_2_code_1) rfl ?_
    refine q_aloadN (pc' := 5) X hx (hb hby d_method_2_code_4) rfl rfl rfl ?_
    refine q_ifnonnullNo (pc' := 8) X hx (hb hby d_method_2_code_5) rfl ?_
    refine q_iconst (pc' := 9) (z := (1 : Int32)) X hx (hb hby d_method_2_code_8) rfl rfl ?_
    refine q_goto (pc' := 13) X hx (hb hby d_method_2_code_9) (by decide) (by decide) ?_
    refine Run.retB X hx hlk hret (hb hby d_method_2_code_13) rfl (by decide) (by decide) ?_
    try rw [eT]
    exact ⟨rfl, rfl, rfl⟩
  · obtain ⟨E_r1_0, F_value_r1_0⟩ := B_vv.at
    refine q_ifnonnullYes (pc' := 14) X hx (hb hby d_method_2_code_1) (by decide) (by decide) ?_
    refine q_aloadN (pc' := 15) X hx (hb hby d_method_2_code_14) rfl rfl rfl ?_
    refine q_ifnonnullYes (pc' := 20) X hx (hb hby d_method_2_code_15) (by decide) (by decide) ?_
    refine q_aloadN (pc' := 21) X hx (hb hby d_method_2_code_20) rfl rfl rfl ?_
    refine q_callV (pc' := 24) (y := y4) (rest := []) X hx hZ hown (hb hby d_method_2_code_21) (t52 hw) (t53 hw) (t55 hw) (t54 hw) (t6 hw) (t56 hw) (by decide) eT E_r1_0 [] (c3_intValue hw wd (x0) O E_r1_0 F_value_r1_0) (by rw [hml]; rfl) (lenOf pd_3 rfl) (W := 0) rfl (by decide) (by decide) (by decide) (by decide) rfl ?_
    rintro _ T _ X ⟨rfl, rfl, eT⟩
    rw [List.append_nil] at X
    show Run p e below _ (T.setTop (mkF m 24 _ [(.int x0)]))
    refine q_aloadN (pc' := 25) X hx (hb hby d_method_2_code_24) rfl rfl rfl ?_
    refine q_callV (pc' := 28) (y := y4) (rest := [(.int x0)]) X hx hZ hown (hb hby d_method_2_code_25) (t52 hw) (t53 hw) (t55 hw) (t54 hw) (t6 hw) (t56 hw) (by decide) eT E_r1_0 [] (c3_intValue hw wd (x0) O E_r1_0 F_value_r1_0) (by rw [hml]; rfl) (lenOf pd_3 rfl) (W := 1) rfl (by decide) (by decide) (by decide) (by decide) rfl ?_
    rintro _ T _ X ⟨rfl, rfl, eT⟩
    rw [List.append_nil] at X
    show Run p e below _ (T.setTop (mkF m 28 _ [(.int x0), (.int x0)]))
    refine q_icmpNo (pc' := 31) X hx (hb hby d_method_2_code_28) (teq (rfl : x0 = x0)).2 rfl ?_
    refine q_iconst (pc' := 32) (z := (1 : Int32)) X hx (hb hby d_method_2_code_31) rfl rfl ?_
    refine q_goto (pc' := 36) X hx (hb hby d_method_2_code_32) (by decide) (by decide) ?_
    refine Run.retB X hx hlk hret (hb hby d_method_2_code_36) rfl (by decide) (by decide) ?_
    try rw [eT]
    exact ⟨rfl, rfl, rfl⟩
theorem own_sel (x : Int32) : x &&& (3 : Int32) = (0 : Int32) ∨ x &&& (3 : Int32) = (1 : Int32) ∨ x &&& (3 : Int32) = (2 : Int32) ∨ x &&& (3 : Int32) = (3 : Int32) := by
  have q := c_mask x 3 2 (by decide) (by decide)
  have r : (x &&& 3).toInt = 0 ∨ (x &&& 3).toInt = 1 ∨ (x &&& 3).toInt = 2 ∨ (x &&& 3).toInt = 3 := by omega
  rcases r with r | r | r | r <;> simp [← Int32.toInt_inj, r]
theorem pd_4 : parseMethodDescriptor "(III)Ljava/lang/Integer;" = some ⟨[.int, .int, .int], some (.object "java/lang/Integer")⟩ := by decide +kernel
theorem pn_3 : plainName "com/example/callweave/callweave/Frame" = true := by first | (simp [plainName, overriddenIn]; done) | decide +kernel
theorem d_prog_8_method_1_code_0 : decode prog_8_method_1_code 0 = .ok (.aload_n 0, 1) := by decide +kernel
theorem d_prog_8_method_1_code_1 : decode prog_8_method_1_code 1 = .ok (.invokespecial 1, 3) := by decide +kernel
theorem d_prog_8_method_1_code_4 : decode prog_8_method_1_code 4 = .ok (.aload_n 0, 1) := by decide +kernel
theorem d_prog_8_method_1_code_5 : decode prog_8_method_1_code 5 = .ok (.iload_n 1, 1) := by decide +kernel
theorem d_prog_8_method_1_code_6 : decode prog_8_method_1_code 6 = .ok (.anewarray 2, 3) := by decide +kernel
theorem d_prog_8_method_1_code_9 : decode prog_8_method_1_code 9 = .ok (.putfield 7, 3) := by decide +kernel
theorem d_prog_8_method_1_code_12 : decode prog_8_method_1_code 12 = .ok (.aload_n 0, 1) := by decide +kernel
theorem d_prog_8_method_1_code_13 : decode prog_8_method_1_code 13 = .ok (.getfield 7, 3) := by decide +kernel
theorem d_prog_8_method_1_code_16 : decode prog_8_method_1_code 16 = .ok (.aload_n 3, 1) := by decide +kernel
theorem d_prog_8_method_1_code_17 : decode prog_8_method_1_code 17 = .ok (.invokestatic 13, 3) := by decide +kernel
theorem pn_4 : plainName "java/util/Arrays" = true := by first | (simp [plainName, overriddenIn]; done) | decide +kernel
theorem d_jdk_65_method_117_code_0 : decode jdk_65_method_117_code 0 = .ok (.iconst 0, 1) := by decide +kernel
theorem d_jdk_65_method_117_code_1 : decode jdk_65_method_117_code 1 = .ok (.istore_n 2, 1) := by decide +kernel
theorem d_jdk_65_method_117_code_2 : decode jdk_65_method_117_code 2 = .ok (.aload_n 0, 1) := by decide +kernel
theorem d_jdk_65_method_117_code_3 : decode jdk_65_method_117_code 3 = .ok (.arraylength, 1) := by decide +kernel
theorem d_jdk_65_method_117_code_4 : decode jdk_65_method_117_code 4 = .ok (.istore_n 3, 1) := by decide +kernel
theorem d_jdk_65_method_117_code_5 : decode jdk_65_method_117_code 5 = .ok (.iload_n 2, 1) := by decide +kernel
theorem d_jdk_65_method_117_code_6 : decode jdk_65_method_117_code 6 = .ok (.iload_n 3, 1) := by decide +kernel
theorem d_jdk_65_method_117_code_7 : decode jdk_65_method_117_code 7 = .ok (.if_icmp .ge 13, 3) := by decide +kernel
theorem d_jdk_65_method_117_code_10 : decode jdk_65_method_117_code 10 = .ok (.aload_n 0, 1) := by decide +kernel
theorem d_jdk_65_method_117_code_11 : decode jdk_65_method_117_code 11 = .ok (.iload_n 2, 1) := by decide +kernel
theorem d_jdk_65_method_117_code_12 : decode jdk_65_method_117_code 12 = .ok (.aload_n 1, 1) := by decide +kernel
theorem d_jdk_65_method_117_code_13 : decode jdk_65_method_117_code 13 = .ok (.aastore, 1) := by decide +kernel
theorem d_jdk_65_method_117_code_14 : decode jdk_65_method_117_code 14 = .ok (.iinc 2 1, 3) := by decide +kernel
theorem d_jdk_65_method_117_code_17 : decode jdk_65_method_117_code 17 = .ok (.goto (-12), 3) := by decide +kernel
theorem d_jdk_65_method_117_code_20 : decode jdk_65_method_117_code 20 = .ok (.return_, 1) := by decide +kernel
set_option maxRecDepth 65536 in
set_option maxHeartbeats 40000000 in
theorem c5_fill {l : Launch} {Z : State} {a0 : Array Value} (hw : ∀ d ∈ tables_1, d.before a0 Z = true) {w_cache : Addr} {cl_w_cache : Cell} (wd : World Z w_cache cl_w_cache)  {h0 : Heap} (O : Ext Z.heap h0) {o0 : Addr} {k_o0 : ClassId} (V_o0 : Arv Z h0 o0 k_o0 (.object "java/lang/Object") (1 : Int32) [.null] .null) (Ov_o0 : Ovr Z k_o0 "java/lang/Object") (g_o0 : Z.heap.size ≤ o0) :
    Ctr l Z y6 jdk_65_method_117_code 4 none ({ frames := 0, cells := 0, slots := 0, locals := 0 } : Room) #[(.ref o0), .null] h0 (fun v h L => v = none ∧ Fr Z.heap.size L ∧ Keep h0 h [o0] ∧ Arv Z h o0 k_o0 (.object "java/lang/Object") (1 : Int32) [.null] .null) := by
  refine Ctr.body (plainFor_of_name pn_4) ?_
  intro p e s m below meth c T X hx hby hml hown hnm hret hlk hZ eT
  have hml : c.maxLocals = 4 := hml
  have hown : s.vm.findClass "java/util/Arrays" = some m.cls := hown
  have hnm : meth.name = "fill" := hnm
  have hret : meth.sig.returnType = none := hret
  refine Run.cast (show entryFrame m #[(.ref o0), .null] 4 = mkF m 0 #[.val (.ref o0), .val .null, .unset, .unset] [] from by first | (simp [entryFrame, mkF, argsToLocals, Value.category]; done) | rfl) ?_
  have wd0 := wd
  obtain ⟨S_w_cache, E_w_cache, S_w_high, B_w_cache⟩ := wd
  have wd := wd0
  have N : Fr Z.heap.size [] := Fr.nil _
  have KK : Keep h0 h0 [o0] := Keep.refl h0 [o0]
  refine q_iconst (pc' := 1) (z := (0 : Int32)) X hx (hb hby d_jdk_65_method_117_code_0) rfl rfl ?_
  refine q_istoreN (pc' := 2) (l' := #[.val (.ref o0), .val .null, .val (.int (0 : Int32)), .unset]) X hx (hb hby d_jdk_65_method_117_code_1) rfl rfl ?_
  refine q_aloadN (pc' := 3) X hx (hb hby d_jdk_65_method_117_code_2) rfl rfl rfl ?_
  refine q_len (pc' := 4) X hx hZ (hb hby d_jdk_65_method_117_code_3) eT V_o0 rfl ?_
  refine q_istoreN (pc' := 5) (l' := #[.val (.ref o0), .val .null, .val (.int (0 : Int32)), .val (.int (1 : Int32))]) X hx (hb hby d_jdk_65_method_117_code_4) rfl rfl ?_
  refine q_iloadN (pc' := 6) X hx (hb hby d_jdk_65_method_117_code_5) rfl rfl ?_
  refine q_iloadN (pc' := 7) X hx (hb hby d_jdk_65_method_117_code_6) rfl rfl ?_
  refine q_icmpNo (pc' := 10) X hx (hb hby d_jdk_65_method_117_code_7) (by decide) rfl ?_
  refine q_aloadN (pc' := 11) X hx (hb hby d_jdk_65_method_117_code_10) rfl rfl rfl ?_
  refine q_iloadN (pc' := 12) X hx (hb hby d_jdk_65_method_117_code_11) rfl rfl ?_
  refine q_aloadN (pc' := 13) X hx (hb hby d_jdk_65_method_117_code_12) rfl rfl rfl ?_
  refine q_aast (pc' := 14) X hx hZ (hb hby d_jdk_65_method_117_code_13) eT V_o0 rfl ⟨by decide, by decide⟩ (i := 0) rfl (Nat.le_of_ble_eq_true rfl) (fun _ _ _ => Or.inl rfl) rfl rfl ?_
  intro T h_1 X eT Wx V_o0'
  have N := Fr.snoc X N g_o0
  have O := ext_wr O Wx g_o0
  have KK := KK.wr Wx (Or.inl (List.mem_of_getElem? (i := 0) rfl))
  have V_o0 : Arv Z h_1 o0 k_o0 (.object "java/lang/Object") (1 : Int32) [.null] .null := V_o0'
  refine q_iinc (pc' := 17) (l' := #[.val (.ref o0), .val .null, .val (.int (1 : Int32)), .val (.int (1 : Int32))]) X hx (hb hby d_jdk_65_method_117_code_14) rfl rfl rfl ?_
  refine q_goto (pc' := 5) X hx (hb hby d_jdk_65_method_117_code_17) (by decide) (by decide) ?_
  refine q_iloadN (pc' := 6) X hx (hb hby d_jdk_65_method_117_code_5) rfl rfl ?_
  refine q_iloadN (pc' := 7) X hx (hb hby d_jdk_65_method_117_code_6) rfl rfl ?_
  refine q_icmpYes (pc' := 20) X hx (hb hby d_jdk_65_method_117_code_7) (by decide) (by decide) (by decide) ?_
  refine Run.retV X hx hlk hret (hb hby d_jdk_65_method_117_code_20) (by decide) (by decide) ?_
  try rw [eT]
  exact ⟨rfl, N, KK, V_o0⟩
theorem pd_5 : parseMethodDescriptor "([Ljava/lang/Object;Ljava/lang/Object;)V" = some ⟨[(.array (.object "java/lang/Object")), (.object "java/lang/Object")], none⟩ := by decide +kernel
theorem d_prog_8_method_1_code_20 : decode prog_8_method_1_code 20 = .ok (.aload_n 0, 1) := by decide +kernel
theorem d_prog_8_method_1_code_21 : decode prog_8_method_1_code 21 = .ok (.iload_n 2, 1) := by decide +kernel
theorem d_prog_8_method_1_code_22 : decode prog_8_method_1_code 22 = .ok (.anewarray 2, 3) := by decide +kernel
theorem d_prog_8_method_1_code_25 : decode prog_8_method_1_code 25 = .ok (.putfield 19, 3) := by decide +kernel
theorem d_prog_8_method_1_code_28 : decode prog_8_method_1_code 28 = .ok (.return_, 1) := by decide +kernel
set_option maxRecDepth 65536 in
set_option maxHeartbeats 40000000 in
theorem c4_init {l : Launch} {Z : State} {a0 : Array Value} (hw : ∀ d ∈ tables_1, d.before a0 Z = true) {w_cache : Addr} {cl_w_cache : Cell} (wd : World Z w_cache cl_w_cache)  {h0 : Heap} (O : Ext Z.heap h0) {o0 : Addr} (E_o0 : Exa Z h0 o0 "com/example/callweave/callweave/Frame") (F_locals_o0 : Fld Z h0 o0 "com/example/callweave/callweave/Frame" "locals" "[Ljava/lang/Object;" .null) (F_stack_o0 : Fld Z h0 o0 "com/example/callweave/callweave/Frame" "stack" "[Ljava/lang/Object;" .null) (F_depth_o0 : Fld Z h0 o0 "com/example/callweave/callweave/Frame" "depth" "I" (.int (0 : Int32))) (g_o0 : Z.heap.size ≤ o0) :
    Ctr l Z y7 prog_8_method_1_code 4 none ({ frames := 1, cells := 2, slots := 4, locals := 15 } : Room) #[(.ref o0), (.int (1 : Int32)), (.int (3 : Int32)), .null] h0 (fun v h L => ∃ (b6_0 b22_4 : Addr), ∃ (k_b6_0 k_b22_4 : ClassId), v = none ∧ Fr Z.heap.size L ∧ Keep h0 h [o0] ∧ h0.size ≤ b6_0 ∧ h0.size ≤ b22_4 ∧ Exa Z h o0 "com/example/callweave/callweave/Frame" ∧ Fld Z h o0 "com/example/callweave/callweave/Frame" "locals" "[Ljava/lang/Object;" (.ref b6_0) ∧ Fld Z h o0 "com/example/callweave/callweave/Frame" "stack" "[Ljava/lang/Object;" (.ref b22_4) ∧ Fld Z h o0 "com/example/callweave/callweave/Frame" "depth" "I" (.int (0 : Int32)) ∧ Arv Z h b6_0 k_b6_0 (.object "java/lang/Object") (1 : Int32) [.null] .null ∧ Ovr Z k_b6_0 "java/lang/Object" ∧ Arv Z h b22_4 k_b22_4 (.object "java/lang/Object") (3 : Int32) [.null, .null, .null] .null ∧ Ovr Z k_b22_4 "java/lang/Object" ∧ b6_0 ≠ b22_4) := by
  refine Ctr.body (plainFor_of_name pn_3) ?_
  intro p e s m below meth c T X hx hby hml hown hnm hret hlk hZ eT
  have hml : c.maxLocals = 4 := hml
  have hown : s.vm.findClass "com/example/callweave/callweave/Frame" = some m.cls := hown
  have hnm : meth.name = "<init>" := hnm
  have hret : meth.sig.returnType = none := hret
  refine Run.cast (show entryFrame m #[(.ref o0), (.int (1 : Int32)), (.int (3 : Int32)), .null] 4 = mkF m 0 #[.val (.ref o0), .val (.int (1 : Int32)), .val (.int (3 : Int32)), .val .null] [] from by first | (simp [entryFrame, mkF, argsToLocals, Value.category]; done) | rfl) ?_
  have wd0 := wd
  obtain ⟨S_w_cache, E_w_cache, S_w_high, B_w_cache⟩ := wd
  have wd := wd0
  have N : Fr Z.heap.size [] := Fr.nil _
  have KK : Keep h0 h0 [o0] := Keep.refl h0 [o0]
  refine q_aloadN (pc' := 1) X hx (hb hby d_prog_8_method_1_code_0) rfl rfl rfl ?_
  refine q_initO (pc' := 4) X hx hZ hown (hb hby d_prog_8_method_1_code_1) (t17 hw) (t18 hw) (t19 hw) eT (by rw [hml]; rfl) (by decide) (W := 0) rfl (by decide) rfl ?_
  intro T X eT
  refine q_aloadN (pc' := 5) X hx (hb hby d_prog_8_method_1_code_4) rfl rfl rfl ?_
  refine q_iloadN (pc' := 6) X hx (hb hby d_prog_8_method_1_code_5) rfl rfl ?_
  refine q_anew (pc' := 9) X hx hZ hown (hb hby d_prog_8_method_1_code_6) (t20 hw) (t21 hw) eT (by decide) (cap := 1) (by decide) (by decide) (by decide) (by decide) rfl ?_
  intro T h_1 b6_0 k_b6_0 X eT Ex gb Ax Ov_b6_0
  have ne_o0_b6_0 : o0 ≠ b6_0 := Nat.ne_of_lt (Nat.lt_of_lt_of_le E_o0.lt (Nat.le_of_eq gb.symm))
  have g_b6_0 : Z.heap.size ≤ b6_0 := Nat.le_trans O.1 (Nat.le_of_eq gb.symm)
  have sz_b6_0 : h0.size ≤ b6_0 := Nat.le_trans KK.1 (Nat.le_of_eq gb.symm)
  have KK := KK.ext Ex
  have O := ext_trans O Ex
  have E_o0 := E_o0.ext Ex
  have F_locals_o0 := F_locals_o0.ext Ex
  have F_stack_o0 := F_stack_o0.ext Ex
  have F_depth_o0 := F_depth_o0.ext Ex
  have V_b6_0 : Arv Z h_1 b6_0 k_b6_0 (.object "java/lang/Object") (1 : Int32) [.null] .null := (Arv.new Ax (by decide)).pad (pad_rep [] .null 1)
  refine q_putF (pc' := 12) X hx hZ hown (hb hby d_prog_8_method_1_code_9) (host := "") (Or.inl (t22 hw)) eT F_locals_o0 E_o0 (Or.inr ⟨(t23 hw), rfl, hnm⟩) (t12 hw) (ty := (.array (.object "java/lang/Object"))) (by decide) rfl rfl rfl ?_
  intro T h_2 X eT Wx
  have N := Fr.snoc X N g_o0
  have O := ext_wr O Wx g_o0
  have KK := KK.wr Wx (Or.inl (List.mem_of_getElem? (i := 0) rfl))
  have E_o0 := E_o0.wr Wx
  have F_locals_o0 := F_locals_o0.same Wx
  have F_stack_o0 := F_stack_o0.other Wx (Or.inr (slot_ne (Or.inr (t29 hw)) (Or.inr (t23 hw)) (by decide) (t := (.array (.object "java/lang/Object"))) (t' := (.array (.object "java/lang/Object"))) (by decide) (by decide)))
  have F_depth_o0 := F_depth_o0.other Wx (Or.inr (slot_ne (Or.inl (t36 hw)) (Or.inr (t23 hw)) (by decide) (t := .int) (t' := (.array (.object "java/lang/Object"))) (by decide) (by decide)))
  have V_b6_0 := V_b6_0.other Wx (Ne.symm ne_o0_b6_0)
  refine q_aloadN (pc' := 13) X hx (hb hby d_prog_8_method_1_code_12) rfl rfl rfl ?_
  refine q_getF (pc' := 16) X hx hZ hown (hb hby d_prog_8_method_1_code_13) (host := "") (Or.inl (t22 hw)) eT F_locals_o0 rfl ?_
  intro T X eT
  refine q_aloadN (pc' := 17) X hx (hb hby d_prog_8_method_1_code_16) rfl rfl rfl ?_
  refine q_callC (pc' := 20) (y := y6) (rest := []) X hx hZ hown (hb hby d_prog_8_method_1_code_17) (t24 hw) (t25 hw) (t26 hw) (t27 hw) (by decide) eT [(.ref b6_0), .null] (c5_fill hw wd  O V_b6_0 Ov_b6_0 g_b6_0) (by rw [hml]; rfl) (lenOf pd_5 rfl) (W := 0) rfl (by decide) (by decide) (by decide) (by decide) rfl ?_
  rintro _ T _ X ⟨rfl, NL, KL, V_b6_0⟩
  have N := N.app NL
  obtain ⟨h_4, eT⟩ : ∃ z, T.heap = z := ⟨_, rfl⟩
  rw [eT] at KL V_b6_0
  have O := ext_keep O KL (allS g_b6_0 all0)
  have KK := KK.trans KL (allS (Or.inr sz_b6_0) all0)
  have E_o0 := E_o0.keep KL
  have F_locals_o0 := F_locals_o0.keep KL (ninS ne_o0_b6_0 nin0)
  have F_stack_o0 := F_stack_o0.keep KL (ninS ne_o0_b6_0 nin0)
  have F_depth_o0 := F_depth_o0.keep KL (ninS ne_o0_b6_0 nin0)
  show Run p e below _ (T.setTop (mkF m 20 _ []))
  refine q_aloadN (pc' := 21) X hx (hb hby d_prog_8_method_1_code_20) rfl rfl rfl ?_
  refine q_iloadN (pc' := 22) X hx (hb hby d_prog_8_method_1_code_21) rfl rfl ?_
  refine q_anew (pc' := 25) X hx hZ hown (hb hby d_prog_8_method_1_code_22) (t20 hw) (t21 hw) eT (by decide) (cap := 3) (by decide) (by decide) (by decide) (by decide) rfl ?_
  intro T h_5 b22_4 k_b22_4 X eT Ex gb Ax Ov_b22_4
  have ne_o0_b22_4 : o0 ≠ b22_4 := Nat.ne_of_lt (Nat.lt_of_lt_of_le E_o0.lt (Nat.le_of_eq gb.symm))
  have ne_b6_0_b22_4 : b6_0 ≠ b22_4 := Nat.ne_of_lt (Nat.lt_of_lt_of_le V_b6_0.lt (Nat.le_of_eq gb.symm))
  have g_b22_4 : Z.heap.size ≤ b22_4 := Nat.le_trans O.1 (Nat.le_of_eq gb.symm)
  have sz_b22_4 : h0.size ≤ b22_4 := Nat.le_trans KK.1 (Nat.le_of_eq gb.symm)
  have KK := KK.ext Ex
  have O := ext_trans O Ex
  have E_o0 := E_o0.ext Ex
  have F_locals_o0 := F_locals_o0.ext Ex
  have F_stack_o0 := F_stack_o0.ext Ex
  have F_depth_o0 := F_depth_o0.ext Ex
  have V_b6_0 := V_b6_0.ext Ex
  have V_b22_4 : Arv Z h_5 b22_4 k_b22_4 (.object "java/lang/Object") (3 : Int32) [.null, .null, .null] .null := (Arv.new Ax (by decide)).pad (pad_rep [] .null 3)
  refine q_putF (pc' := 28) X hx hZ hown (hb hby d_prog_8_method_1_code_25) (host := "") (Or.inl (t28 hw)) eT F_stack_o0 E_o0 (Or.inr ⟨(t29 hw), rfl, hnm⟩) (t12 hw) (ty := (.array (.object "java/lang/Object"))) (by decide) rfl rfl rfl ?_
  intro T h_6 X eT Wx
  have N := Fr.snoc X N g_o0
  have O := ext_wr O Wx g_o0
  have KK := KK.wr Wx (Or.inl (List.mem_of_getElem? (i := 0) rfl))
  have E_o0 := E_o0.wr Wx
  have F_locals_o0 := F_locals_o0.other Wx (Or.inr (slot_ne (Or.inr (t23 hw)) (Or.inr (t29 hw)) (by decide) (t := (.array (.object "java/lang/Object"))) (t' := (.array (.object "java/lang/Object"))) (by decide) (by decide)))
  have F_stack_o0 := F_stack_o0.same Wx
  have F_depth_o0 := F_depth_o0.other Wx (Or.inr (slot_ne (Or.inl (t36 hw)) (Or.inr (t29 hw)) (by decide) (t := .int) (t' := (.array (.object "java/lang/Object"))) (by decide) (by decide)))
  have V_b6_0 := V_b6_0.other Wx (Ne.symm ne_o0_b6_0)
  have V_b22_4 := V_b22_4.other Wx (Ne.symm ne_o0_b22_4)
  refine Run.retV X hx hlk hret (hb hby d_prog_8_method_1_code_28) (by decide) (by decide) ?_
  try rw [eT]
  exact ⟨b6_0, b22_4, k_b6_0, k_b22_4, rfl, N, KK, sz_b6_0, sz_b22_4, E_o0, F_locals_o0, F_stack_o0, F_depth_o0, V_b6_0, Ov_b6_0, V_b22_4, Ov_b22_4, ne_b6_0_b22_4⟩
theorem pd_6 : parseMethodDescriptor "(IILjava/lang/Object;)V" = some ⟨[.int, .int, (.object "java/lang/Object")], none⟩ := by decide +kernel
theorem d_prog_8_method_7_code_0 : decode prog_8_method_7_code 0 = .ok (.aload_n 0, 1) := by decide +kernel
theorem d_prog_8_method_7_code_1 : decode prog_8_method_7_code 1 = .ok (.getfield 27, 3) := by decide +kernel
theorem d_prog_8_method_7_code_4 : decode prog_8_method_7_code 4 = .ok (.aload_n 0, 1) := by decide +kernel
theorem d_prog_8_method_7_code_5 : decode prog_8_method_7_code 5 = .ok (.getfield 19, 3) := by decide +kernel
theorem d_prog_8_method_7_code_8 : decode prog_8_method_7_code 8 = .ok (.arraylength, 1) := by decide +kernel
theorem d_prog_8_method_7_code_9 : decode prog_8_method_7_code 9 = .ok (.if_icmp .ne 21, 3) := by decide +kernel
theorem d_prog_8_method_7_code_30 : decode prog_8_method_7_code 30 = .ok (.aload_n 0, 1) := by decide +kernel
theorem d_prog_8_method_7_code_31 : decode prog_8_method_7_code 31 = .ok (.getfield 19, 3) := by decide +kernel
theorem d_prog_8_method_7_code_34 : decode prog_8_method_7_code 34 = .ok (.aload_n 0, 1) := by decide +kernel
theorem d_prog_8_method_7_code_35 : decode prog_8_method_7_code 35 = .ok (.dup, 1) := by decide +kernel
theorem d_prog_8_method_7_code_36 : decode prog_8_method_7_code 36 = .ok (.getfield 27, 3) := by decide +kernel
theorem d_prog_8_method_7_code_39 : decode prog_8_method_7_code 39 = .ok (.dup_x1, 1) := by decide +kernel
theorem d_prog_8_method_7_code_40 : decode prog_8_method_7_code 40 = .ok (.iconst 1, 1) := by decide +kernel
theorem d_prog_8_method_7_code_41 : decode prog_8_method_7_code 41 = .ok (.iadd, 1) := by decide +kernel
theorem d_prog_8_method_7_code_42 : decode prog_8_method_7_code 42 = .ok (.putfield 27, 3) := by decide +kernel
theorem d_prog_8_method_7_code_45 : decode prog_8_method_7_code 45 = .ok (.aload_n 1, 1) := by decide +kernel
theorem d_prog_8_method_7_code_46 : decode prog_8_method_7_code 46 = .ok (.aastore, 1) := by decide +kernel
theorem d_prog_8_method_7_code_47 : decode prog_8_method_7_code 47 = .ok (.return_, 1) := by decide +kernel
set_option maxRecDepth 65536 in
set_option maxHeartbeats 40000000 in
theorem c6_push {l : Launch} {Z : State} {a0 : Array Value} (hw : ∀ d ∈ tables_1, d.before a0 Z = true) {w_cache : Addr} {cl_w_cache : Cell} (wd : World Z w_cache cl_w_cache) (x0 : Int32) {h0 : Heap} (O : Ext Z.heap h0) {o0 : Addr} {o1 : Addr} {o2 : Addr} {o3 : Value} {k_o1 : ClassId} {k_o2 : ClassId} (hr_o3 : o3.isRef = true) (B_o3 : Box Z h0 o3 x0) (E_o0 : Exa Z h0 o0 "com/example/callweave/callweave/Frame") (F_locals_o0 : Fld Z h0 o0 "com/example/callweave/callweave/Frame" "locals" "[Ljava/lang/Object;" (.ref o1)) (F_stack_o0 : Fld Z h0 o0 "com/example/callweave/callweave/Frame" "stack" "[Ljava/lang/Object;" (.ref o2)) (F_depth_o0 : Fld Z h0 o0 "com/example/callweave/callweave/Frame" "depth" "I" (.int (0 : Int32))) (V_o1 : Arv Z h0 o1 k_o1 (.object "java/lang/Object") (1 : Int32) [.null] .null) (Ov_o1 : Ovr Z k_o1 "java/lang/Object") (V_o2 : Arv Z h0 o2 k_o2 (.object "java/lang/Object") (3 : Int32) [.null, .null, .null] .null) (Ov_o2 : Ovr Z k_o2 "java/lang/Object") (g_o0 : Z.heap.size ≤ o0) (ne_o1_o2 : o1 ≠ o2) (g_o2 : Z.heap.size ≤ o2) :
    Ctr l Z y8 prog_8_method_7_code 2 none ({ frames := 0, cells := 0, slots := 0, locals := 0 } : Room) #[(.ref o0), o3] h0 (fun v h L => v = none ∧ Fr Z.heap.size L ∧ Keep h0 h [o0, o2] ∧ Exa Z h o0 "com/example/callweave/callweave/Frame" ∧ Fld Z h o0 "com/example/callweave/callweave/Frame" "locals" "[Ljava/lang/Object;" (.ref o1) ∧ Fld Z h o0 "com/example/callweave/callweave/Frame" "stack" "[Ljava/lang/Object;" (.ref o2) ∧ Fld Z h o0 "com/example/callweave/callweave/Frame" "depth" "I" (.int (1 : Int32)) ∧ Arv Z h o2 k_o2 (.object "java/lang/Object") (3 : Int32) [o3, .null, .null] .null) := by
  refine Ctr.body (plainFor_of_name pn_3) ?_
  intro p e s m below meth c T X hx hby hml hown hnm hret hlk hZ eT
  have hml : c.maxLocals = 2 := hml
  have hown : s.vm.findClass "com/example/callweave/callweave/Frame" = some m.cls := hown
  have hnm : meth.name = "push" := hnm
  have hret : meth.sig.returnType = none := hret
  refine Run.cast (show entryFrame m #[(.ref o0), o3] 2 = mkF m 0 #[.val (.ref o0), .val o3] [] from by rcases ref_cases hr_o3 with rfl | ⟨_, rfl⟩ <;> first | (simp [entryFrame, mkF, argsToLocals, Value.category]; done) | rfl) ?_
  have wd0 := wd
  obtain ⟨S_w_cache, E_w_cache, S_w_high, B_w_cache⟩ := wd
  have wd := wd0
  have N : Fr Z.heap.size [] := Fr.nil _
  have KK : Keep h0 h0 [o0, o2] := Keep.refl h0 [o0, o2]
  refine q_aloadN (pc' := 1) X hx (hb hby d_prog_8_method_7_code_0) rfl rfl rfl ?_
  refine q_getF (pc' := 4) X hx hZ hown (hb hby d_prog_8_method_7_code_1) (host := "") (Or.inl (t35 hw)) eT F_depth_o0 rfl ?_
  intro T X eT
  refine q_aloadN (pc' := 5) X hx (hb hby d_prog_8_method_7_code_4) rfl rfl rfl ?_
  refine q_getF (pc' := 8) X hx hZ hown (hb hby d_prog_8_method_7_code_5) (host := "") (Or.inl (t28 hw)) eT F_stack_o0 rfl ?_
  intro T X eT
  refine q_len (pc' := 9) X hx hZ (hb hby d_prog_8_method_7_code_8) eT V_o2 rfl ?_
  refine q_icmpYes (pc' := 30) X hx (hb hby d_prog_8_method_7_code_9) (by decide) (by decide) (by decide) ?_
  refine q_aloadN (pc' := 31) X hx (hb hby d_prog_8_method_7_code_30) rfl rfl rfl ?_
  refine q_getF (pc' := 34) X hx hZ hown (hb hby d_prog_8_method_7_code_31) (host := "") (Or.inl (t28 hw)) eT F_stack_o0 rfl ?_
  intro T X eT
  refine q_aloadN (pc' := 35) X hx (hb hby d_prog_8_method_7_code_34) rfl rfl rfl ?_
  refine q_dup (pc' := 36) X hx (hb hby d_prog_8_method_7_code_35) rfl rfl ?_
  refine q_getF (pc' := 39) X hx hZ hown (hb hby d_prog_8_method_7_code_36) (host := "") (Or.inl (t35 hw)) eT F_depth_o0 rfl ?_
  intro T X eT
  refine q_dupX1 (pc' := 40) X hx (hb hby d_prog_8_method_7_code_39) rfl rfl rfl ?_
  refine q_iconst (pc' := 41) (z := (1 : Int32)) X hx (hb hby d_prog_8_method_7_code_40) rfl rfl ?_
  refine q_iadd (pc' := 42) (z := (1 : Int32)) X hx (hb hby d_prog_8_method_7_code_41) (by decide) rfl ?_
  refine q_putF (pc' := 45) X hx hZ hown (hb hby d_prog_8_method_7_code_42) (host := "") (Or.inl (t35 hw)) eT F_depth_o0 E_o0 (Or.inl (t36 hw)) (t12 hw) (ty := .int) (by decide) rfl rfl rfl ?_
  intro T h_1 X eT Wx
  have N := Fr.snoc X N g_o0
  have O := ext_wr O Wx g_o0
  have KK := KK.wr Wx (Or.inl (List.mem_of_getElem? (i := 0) rfl))
  have ub_o0 := fun r (E : Exa Z _ r "java/lang/Integer") => (ne_exa E E_o0 (by decide) : r ≠ o0)
  have ne_o1_o0 : o1 ≠ o0 := Ne.symm (Exa.neArv E_o0 V_o1 (t12 hw))
  have ne_o2_o0 : o2 ≠ o0 := Ne.symm (Exa.neArv E_o0 V_o2 (t12 hw))
  have B_o3 := B_o3.wr Wx ub_o0
  have E_o0 := E_o0.wr Wx
  have F_locals_o0 := F_locals_o0.other Wx (Or.inr (slot_ne (Or.inr (t23 hw)) (Or.inl (t36 hw)) (by decide) (t := (.array (.object "java/lang/Object"))) (t' := .int) (by decide) (by decide)))
  have F_stack_o0 := F_stack_o0.other Wx (Or.inr (slot_ne (Or.inr (t29 hw)) (Or.inl (t36 hw)) (by decide) (t := (.array (.object "java/lang/Object"))) (t' := .int) (by decide) (by decide)))
  have F_depth_o0 := F_depth_o0.same Wx
  have V_o1 := V_o1.other Wx ne_o1_o0
  have V_o2 := V_o2.other Wx ne_o2_o0
  refine q_aloadN (pc' := 46) X hx (hb hby d_prog_8_method_7_code_45) rfl hr_o3 rfl ?_
  refine q_aast (pc' := 47) X hx hZ (hb hby d_prog_8_method_7_code_46) eT V_o2 rfl ⟨by decide, by decide⟩ (i := 0) rfl (Nat.le_of_ble_eq_true rfl) (fun _ A q => sto_ins A q Ov_o2 (B_o3.ins (t37 hw))) (fits_isRef rfl hr_o3) rfl ?_
  intro T h_2 X eT Wx V_o2'
  have N := Fr.snoc X N g_o2
  have O := ext_wr O Wx g_o2
  have KK := KK.wr Wx (Or.inl (List.mem_of_getElem? (i := 1) rfl))
  have ub_o2 := fun r (E : Exa Z _ r "java/lang/Integer") => (Exa.neArv E V_o2 (t60 hw) : r ≠ o2)
  have B_o3 := B_o3.wr Wx ub_o2
  have E_o0 := E_o0.wr Wx
  have F_locals_o0 := F_locals_o0.other Wx (Or.inl (Ne.symm ne_o2_o0))
  have F_stack_o0 := F_stack_o0.other Wx (Or.inl (Ne.symm ne_o2_o0))
  have F_depth_o0 := F_depth_o0.other Wx (Or.inl (Ne.symm ne_o2_o0))
  have V_o1 := V_o1.other Wx ne_o1_o2
  have V_o2 : Arv Z h_2 o2 k_o2 (.object "java/lang/Object") (3 : Int32) [o3, .null, .null] .null := V_o2'
  refine Run.retV X hx hlk hret (hb hby d_prog_8_method_7_code_47) (by decide) (by decide) ?_
  try rw [eT]
  exact ⟨rfl, N, KK, E_o0, F_locals_o0, F_stack_o0, F_depth_o0, V_o2⟩
theorem pd_7 : parseMethodDescriptor "(Ljava/lang/Object;)V" = some ⟨[(.object "java/lang/Object")], none⟩ := by decide +kernel
theorem d_prog_8_method_8_code_0 : decode prog_8_method_8_code 0 = .ok (.aload_n 0, 1) := by decide +kernel
theorem d_prog_8_method_8_code_1 : decode prog_8_method_8_code 1 = .ok (.getfield 27, 3) := by decide +kernel
theorem d_prog_8_method_8_code_4 : decode prog_8_method_8_code 4 = .ok (.ifCond .ne 13, 3) := by decide +kernel
theorem d_prog_8_method_8_code_17 : decode prog_8_method_8_code 17 = .ok (.aload_n 0, 1) := by decide +kernel
theorem d_prog_8_method_8_code_18 : decode prog_8_method_8_code 18 = .ok (.aload_n 0, 1) := by decide +kernel
theorem d_prog_8_method_8_code_19 : decode prog_8_method_8_code 19 = .ok (.getfield 19, 3) := by decide +kernel
theorem d_prog_8_method_8_code_22 : decode prog_8_method_8_code 22 = .ok (.aload_n 0, 1) := by decide +kernel
theorem d_prog_8_method_8_code_23 : decode prog_8_method_8_code 23 = .ok (.dup, 1) := by decide +kernel
theorem d_prog_8_method_8_code_24 : decode prog_8_method_8_code 24 = .ok (.getfield 27, 3) := by decide +kernel
theorem d_prog_8_method_8_code_27 : decode prog_8_method_8_code 27 = .ok (.iconst 1, 1) := by decide +kernel
theorem d_prog_8_method_8_code_28 : decode prog_8_method_8_code 28 = .ok (.isub, 1) := by decide +kernel
theorem d_prog_8_method_8_code_29 : decode prog_8_method_8_code 29 = .ok (.dup_x1, 1) := by decide +kernel
theorem d_prog_8_method_8_code_30 : decode prog_8_method_8_code 30 = .ok (.putfield 27, 3) := by decide +kernel
theorem d_prog_8_method_8_code_33 : decode prog_8_method_8_code 33 = .ok (.aaload, 1) := by decide +kernel
theorem d_prog_8_method_8_code_34 : decode prog_8_method_8_code 34 = .ok (.invokevirtual 49, 3) := by decide +kernel
theorem d_prog_8_method_11_code_0 : decode prog_8_method_11_code 0 = .ok (.aload_n 1, 1) := by decide +kernel
theorem d_prog_8_method_11_code_1 : decode prog_8_method_11_code 1 = .ok (.areturn, 1) := by decide +kernel
set_option maxRecDepth 65536 in
set_option maxHeartbeats 40000000 in
theorem c8_word {l : Launch} {Z : State} {a0 : Array Value} (hw : ∀ d ∈ tables_1, d.before a0 Z = true) {w_cache : Addr} {cl_w_cache : Cell} (wd : World Z w_cache cl_w_cache) (x0 : Int32) {h0 : Heap} (O : Ext Z.heap h0) {o0 : Addr} {o1 : Addr} {o2 : Addr} {o3 : Value} {k_o1 : ClassId} {k_o2 : ClassId} (hr_o3 : o3.isRef = true) (B_o3 : Box Z h0 o3 x0) (V_o1 : Arv Z h0 o1 k_o1 (.object "java/lang/Object") (1 : Int32) [.null] .null) (Ov_o1 : Ovr Z k_o1 "java/lang/Object") (E_o0 : Exa Z h0 o0 "com/example/callweave/callweave/Frame") (F_locals_o0 : Fld Z h0 o0 "com/example/callweave/callweave/Frame" "locals" "[Ljava/lang/Object;" (.ref o1)) (F_stack_o0 : Fld Z h0 o0 "com/example/callweave/callweave/Frame" "stack" "[Ljava/lang/Object;" (.ref o2)) (F_depth_o0 : Fld Z h0 o0 "com/example/callweave/callweave/Frame" "depth" "I" (.int (0 : Int32))) (V_o2 : Arv Z h0 o2 k_o2 (.object "java/lang/Object") (3 : Int32) [o3, .null, .null] .null) (Ov_o2 : Ovr Z k_o2 "java/lang/Object") :
    Ctr l Z y9 prog_8_method_11_code 2 (some (.object "java/lang/Object")) ({ frames := 0, cells := 0, slots := 0, locals := 0 } : Room) #[(.ref o0), o3] h0 (fun v h L => v = some o3 ∧ L = [] ∧ h = h0) := by
  refine Ctr.body (plainFor_of_name pn_3) ?_
  intro p e s m below meth c T X hx hby hml hown hnm hret hlk hZ eT
  have hml : c.maxLocals = 2 := hml
  have hown : s.vm.findClass "com/example/callweave/callweave/Frame" = some m.cls := hown
  have hnm : meth.name = "word" := hnm
  have hret : meth.sig.returnType = (some (.object "java/lang/Object")) := hret
  refine Run.cast (show entryFrame m #[(.ref o0), o3] 2 = mkF m 0 #[.val (.ref o0), .val o3] [] from by rcases ref_cases hr_o3 with rfl | ⟨_, rfl⟩ <;> first | (simp [entryFrame, mkF, argsToLocals, Value.category]; done) | rfl) ?_
  have wd0 := wd
  obtain ⟨S_w_cache, E_w_cache, S_w_high, B_w_cache⟩ := wd
  have wd := wd0
  have N : Fr Z.heap.size [] := Fr.nil _
  have KK : Keep h0 h0 [] := Keep.refl h0 []
  refine q_aloadN (pc' := 1) X hx (hb hby d_prog_8_method_11_code_0) rfl hr_o3 rfl ?_
  refine Run.retR X hx hlk hret (hb hby d_prog_8_method_11_code_1) rfl hr_o3 (by decide) (by decide) ?_
  try rw [eT]
  exact ⟨rfl, rfl, rfl⟩
theorem pd_8 : parseMethodDescriptor "(Ljava/lang/Object;)Ljava/lang/Object;" = some ⟨[(.object "java/lang/Object")], some (.object "java/lang/Object")⟩ := by decide +kernel
theorem d_prog_8_method_8_code_37 : decode prog_8_method_8_code 37 = .ok (.astore_n 1, 1) := by decide +kernel
theorem d_prog_8_method_8_code_38 : decode prog_8_method_8_code 38 = .ok (.aload_n 0, 1) := by decide +kernel
theorem d_prog_8_method_8_code_39 : decode prog_8_method_8_code 39 = .ok (.getfield 19, 3) := by decide +kernel
theorem d_prog_8_method_8_code_42 : decode prog_8_method_8_code 42 = .ok (.aload_n 0, 1) := by decide +kernel
theorem d_prog_8_method_8_code_43 : decode prog_8_method_8_code 43 = .ok (.getfield 27, 3) := by decide +kernel
theorem d_prog_8_method_8_code_46 : decode prog_8_method_8_code 46 = .ok (.aconst_null, 1) := by decide +kernel
theorem d_prog_8_method_8_code_47 : decode prog_8_method_8_code 47 = .ok (.aastore, 1) := by decide +kernel
theorem d_prog_8_method_8_code_48 : decode prog_8_method_8_code 48 = .ok (.aload_n 1, 1) := by decide +kernel
theorem d_prog_8_method_8_code_49 : decode prog_8_method_8_code 49 = .ok (.areturn, 1) := by decide +kernel
set_option maxRecDepth 65536 in
set_option maxHeartbeats 40000000 in
theorem c7_pop {l : Launch} {Z : State} {a0 : Array Value} (hw : ∀ d ∈ tables_1, d.before a0 Z = true) {w_cache : Addr} {cl_w_cache : Cell} (wd : World Z w_cache cl_w_cache) (x0 : Int32) {h0 : Heap} (O : Ext Z.heap h0) {o0 : Addr} {o1 : Addr} {o2 : Addr} {o3 : Value} {k_o1 : ClassId} {k_o2 : ClassId} (hr_o3 : o3.isRef = true) (B_o3 : Box Z h0 o3 x0) (V_o1 : Arv Z h0 o1 k_o1 (.object "java/lang/Object") (1 : Int32) [.null] .null) (Ov_o1 : Ovr Z k_o1 "java/lang/Object") (E_o0 : Exa Z h0 o0 "com/example/callweave/callweave/Frame") (F_locals_o0 : Fld Z h0 o0 "com/example/callweave/callweave/Frame" "locals" "[Ljava/lang/Object;" (.ref o1)) (F_stack_o0 : Fld Z h0 o0 "com/example/callweave/callweave/Frame" "stack" "[Ljava/lang/Object;" (.ref o2)) (F_depth_o0 : Fld Z h0 o0 "com/example/callweave/callweave/Frame" "depth" "I" (.int (1 : Int32))) (V_o2 : Arv Z h0 o2 k_o2 (.object "java/lang/Object") (3 : Int32) [o3, .null, .null] .null) (Ov_o2 : Ovr Z k_o2 "java/lang/Object") (g_o0 : Z.heap.size ≤ o0) (ne_o1_o2 : o1 ≠ o2) (g_o2 : Z.heap.size ≤ o2) :
    Ctr l Z y10 prog_8_method_8_code 2 (some (.object "java/lang/Object")) ({ frames := 1, cells := 0, slots := 0, locals := 13 } : Room) #[(.ref o0)] h0 (fun v h L => v = some o3 ∧ Fr Z.heap.size L ∧ Keep h0 h [o0, o2] ∧ Exa Z h o0 "com/example/callweave/callweave/Frame" ∧ Fld Z h o0 "com/example/callweave/callweave/Frame" "locals" "[Ljava/lang/Object;" (.ref o1) ∧ Fld Z h o0 "com/example/callweave/callweave/Frame" "stack" "[Ljava/lang/Object;" (.ref o2) ∧ Fld Z h o0 "com/example/callweave/callweave/Frame" "depth" "I" (.int (0 : Int32)) ∧ Arv Z h o2 k_o2 (.object "java/lang/Object") (3 : Int32) [.null, .null, .null] .null) := by
  refine Ctr.body (plainFor_of_name pn_3) ?_
  intro p e s m below meth c T X hx hby hml hown hnm hret hlk hZ eT
  have hml : c.maxLocals = 2 := hml
  have hown : s.vm.findClass "com/example/callweave/callweave/Frame" = some m.cls := hown
  have hnm : meth.name = "pop" := hnm
  have hret : meth.sig.returnType = (some (.object "java/lang/Object")) := hret
  refine Run.cast (show entryFrame m #[(.ref o0)] 2 = mkF m 0 #[.val (.ref o0), .unset] [] from by first | (simp [entryFrame, mkF, argsToLocals, Value.category]; done) | rfl) ?_
  have wd0 := wd
  obtain ⟨S_w_cache, E_w_cache, S_w_high, B_w_cache⟩ := wd
  have wd := wd0
  have N : Fr Z.heap.size [] := Fr.nil _
  have KK : Keep h0 h0 [o0, o2] := Keep.refl h0 [o0, o2]
  refine q_aloadN (pc' := 1) X hx (hb hby d_prog_8_method_8_code_0) rfl rfl rfl ?_
  refine q_getF (pc' := 4) X hx hZ hown (hb hby d_prog_8_method_8_code_1) (host := "") (Or.inl (t35 hw)) eT F_depth_o0 rfl ?_
  intro T X eT
  refine q_ifYes (pc' := 17) X hx (hb hby d_prog_8_method_8_code_4) (by decide) (by decide) (by decide) ?_
  refine q_aloadN (pc' := 18) X hx (hb hby d_prog_8_method_8_code_17) rfl rfl rfl ?_
  refine q_aloadN (pc' := 19) X hx (hb hby d_prog_8_method_8_code_18) rfl rfl rfl ?_
  refine q_getF (pc' := 22) X hx hZ hown (hb hby d_prog_8_method_8_code_19) (host := "") (Or.inl (t28 hw)) eT F_stack_o0 rfl ?_
  intro T X eT
  refine q_aloadN (pc' := 23) X hx (hb hby d_prog_8_method_8_code_22) rfl rfl rfl ?_
  refine q_dup (pc' := 24) X hx (hb hby d_prog_8_method_8_code_23) rfl rfl ?_
  refine q_getF (pc' := 27) X hx hZ hown (hb hby d_prog_8_method_8_code_24) (host := "") (Or.inl (t35 hw)) eT F_depth_o0 rfl ?_
  intro T X eT
  refine q_iconst (pc' := 28) (z := (1 : Int32)) X hx (hb hby d_prog_8_method_8_code_27) rfl rfl ?_
  refine q_isub (pc' := 29) (z := (0 : Int32)) X hx (hb hby d_prog_8_method_8_code_28) (by decide) rfl ?_
  refine q_dupX1 (pc' := 30) X hx (hb hby d_prog_8_method_8_code_29) rfl rfl rfl ?_
  refine q_putF (pc' := 33) X hx hZ hown (hb hby d_prog_8_method_8_code_30) (host := "") (Or.inl (t35 hw)) eT F_depth_o0 E_o0 (Or.inl (t36 hw)) (t12 hw) (ty := .int) (by decide) rfl rfl rfl ?_
  intro T h_1 X eT Wx
  have N := Fr.snoc X N g_o0
  have O := ext_wr O Wx g_o0
  have KK := KK.wr Wx (Or.inl (List.mem_of_getElem? (i := 0) rfl))
  have ub_o0 := fun r (E : Exa Z _ r "java/lang/Integer") => (ne_exa E E_o0 (by decide) : r ≠ o0)
  have ne_o1_o0 : o1 ≠ o0 := Ne.symm (Exa.neArv E_o0 V_o1 (t12 hw))
  have ne_o2_o0 : o2 ≠ o0 := Ne.symm (Exa.neArv E_o0 V_o2 (t12 hw))
  have B_o3 := B_o3.wr Wx ub_o0
  have V_o1 := V_o1.other Wx ne_o1_o0
  have E_o0 := E_o0.wr Wx
  have F_locals_o0 := F_locals_o0.other Wx (Or.inr (slot_ne (Or.inr (t23 hw)) (Or.inl (t36 hw)) (by decide) (t := (.array (.object "java/lang/Object"))) (t' := .int) (by decide) (by decide)))
  have F_stack_o0 := F_stack_o0.other Wx (Or.inr (slot_ne (Or.inr (t29 hw)) (Or.inl (t36 hw)) (by decide) (t := (.array (.object "java/lang/Object"))) (t' := .int) (by decide) (by decide)))
  have F_depth_o0 := F_depth_o0.same Wx
  have V_o2 := V_o2.other Wx ne_o2_o0
  refine q_aald (pc' := 34) (v := o3) X hx hZ (hb hby d_prog_8_method_8_code_33) eT V_o2 rfl ⟨by decide, by decide⟩ rfl rfl ?_
  refine q_callP (pc' := 37) (y := y9) (rest := []) X hx hZ hown (hb hby d_prog_8_method_8_code_34) (t43 hw) (t44 hw) (t45 hw) (t12 hw) (t13 hw) (t46 hw) (by decide) eT E_o0 [o3] (c8_word hw wd (x0) O hr_o3 B_o3 V_o1 Ov_o1 E_o0 F_locals_o0 F_stack_o0 F_depth_o0 V_o2 Ov_o2) (by rw [hml]; rfl) (lenOf pd_8 rfl) (W := 0) rfl (by decide) (by decide) (by decide) (by decide) rfl ?_
  rintro _ T _ X ⟨rfl, rfl, eT⟩
  rw [List.append_nil] at X
  show Run p e below _ (T.setTop (mkF m 37 _ [o3]))
  refine q_astoreN (pc' := 38) (l' := #[.val (.ref o0), .val o3]) X hx (hb hby d_prog_8_method_8_code_37) hr_o3 (by rcases ref_cases hr_o3 with rfl | ⟨_, rfl⟩ <;> rfl) rfl ?_
  refine q_aloadN (pc' := 39) X hx (hb hby d_prog_8_method_8_code_38) rfl rfl rfl ?_
  refine q_getF (pc' := 42) X hx hZ hown (hb hby d_prog_8_method_8_code_39) (host := "") (Or.inl (t28 hw)) eT F_stack_o0 rfl ?_
  intro T X eT
  refine q_aloadN (pc' := 43) X hx (hb hby d_prog_8_method_8_code_42) rfl rfl rfl ?_
  refine q_getF (pc' := 46) X hx hZ hown (hb hby d_prog_8_method_8_code_43) (host := "") (Or.inl (t35 hw)) eT F_depth_o0 rfl ?_
  intro T X eT
  refine q_null (pc' := 47) X hx (hb hby d_prog_8_method_8_code_46) rfl ?_
  refine q_aast (pc' := 48) X hx hZ (hb hby d_prog_8_method_8_code_47) eT V_o2 rfl ⟨by decide, by decide⟩ (i := 0) rfl (Nat.le_of_ble_eq_true rfl) (fun _ _ _ => Or.inl rfl) rfl rfl ?_
  intro T h_2 X eT Wx V_o2'
  have N := Fr.snoc X N g_o2
  have O := ext_wr O Wx g_o2
  have KK := KK.wr Wx (Or.inl (List.mem_of_getElem? (i := 1) rfl))
  have ub_o2 := fun r (E : Exa Z _ r "java/lang/Integer") => (Exa.neArv E V_o2 (t60 hw) : r ≠ o2)
  have B_o3 := B_o3.wr Wx ub_o2
  have V_o1 := V_o1.other Wx ne_o1_o2
  have E_o0 := E_o0.wr Wx
  have F_locals_o0 := F_locals_o0.other Wx (Or.inl (Ne.symm ne_o2_o0))
  have F_stack_o0 := F_stack_o0.other Wx (Or.inl (Ne.symm ne_o2_o0))
  have F_depth_o0 := F_depth_o0.other Wx (Or.inl (Ne.symm ne_o2_o0))
  have V_o2 : Arv Z h_2 o2 k_o2 (.object "java/lang/Object") (3 : Int32) [.null, .null, .null] .null := V_o2'
  refine q_aloadN (pc' := 49) X hx (hb hby d_prog_8_method_8_code_48) rfl hr_o3 rfl ?_
  refine Run.retR X hx hlk hret (hb hby d_prog_8_method_8_code_49) rfl hr_o3 (by decide) (by decide) ?_
  try rw [eT]
  exact ⟨rfl, N, KK, E_o0, F_locals_o0, F_stack_o0, F_depth_o0, V_o2⟩
theorem pd_9 : parseMethodDescriptor "()Ljava/lang/Object;" = some ⟨[], some (.object "java/lang/Object")⟩ := by decide +kernel
theorem pd_10 : parseMethodDescriptor "(Ljava/lang/Integer;Ljava/lang/Integer;)Z" = some ⟨[(.object "java/lang/Integer"), (.object "java/lang/Integer")], some .boolean⟩ := by decide +kernel
set_option maxRecDepth 65536 in
set_option maxHeartbeats 40000000 in
theorem c9_push {l : Launch} {Z : State} {a0 : Array Value} (hw : ∀ d ∈ tables_1, d.before a0 Z = true) {w_cache : Addr} {cl_w_cache : Cell} (wd : World Z w_cache cl_w_cache) (x0 : Int32) {h0 : Heap} (O : Ext Z.heap h0) {o0 : Addr} {o1 : Addr} {o2 : Addr} {o3 : Value} {k_o1 : ClassId} {k_o2 : ClassId} (hr_o3 : o3.isRef = true) (B_o3 : Box Z h0 o3 x0) (E_o0 : Exa Z h0 o0 "com/example/callweave/callweave/Frame") (F_locals_o0 : Fld Z h0 o0 "com/example/callweave/callweave/Frame" "locals" "[Ljava/lang/Object;" (.ref o1)) (F_stack_o0 : Fld Z h0 o0 "com/example/callweave/callweave/Frame" "stack" "[Ljava/lang/Object;" (.ref o2)) (F_depth_o0 : Fld Z h0 o0 "com/example/callweave/callweave/Frame" "depth" "I" (.int (0 : Int32))) (V_o1 : Arv Z h0 o1 k_o1 (.object "java/lang/Object") (1 : Int32) [.null] .null) (Ov_o1 : Ovr Z k_o1 "java/lang/Object") (V_o2 : Arv Z h0 o2 k_o2 (.object "java/lang/Object") (3 : Int32) [.null, .null, .null] .null) (Ov_o2 : Ovr Z k_o2 "java/lang/Object") (g_o0 : Z.heap.size ≤ o0) (ne_o1_o2 : o1 ≠ o2) (g_o2 : Z.heap.size ≤ o2) :
    Ctr l Z y8 prog_8_method_7_code 2 none ({ frames := 0, cells := 0, slots := 0, locals := 0 } : Room) #[(.ref o0), o3] h0 (fun v h L => v = none ∧ Fr Z.heap.size L ∧ Keep h0 h [o0, o2] ∧ Exa Z h o0 "com/example/callweave/callweave/Frame" ∧ Fld Z h o0 "com/example/callweave/callweave/Frame" "locals" "[Ljava/lang/Object;" (.ref o1) ∧ Fld Z h o0 "com/example/callweave/callweave/Frame" "stack" "[Ljava/lang/Object;" (.ref o2) ∧ Fld Z h o0 "com/example/callweave/callweave/Frame" "depth" "I" (.int (1 : Int32)) ∧ Arv Z h o2 k_o2 (.object "java/lang/Object") (3 : Int32) [o3, .null, .null] .null) := by
  refine Ctr.body (plainFor_of_name pn_3) ?_
  intro p e s m below meth c T X hx hby hml hown hnm hret hlk hZ eT
  have hml : c.maxLocals = 2 := hml
  have hown : s.vm.findClass "com/example/callweave/callweave/Frame" = some m.cls := hown
  have hnm : meth.name = "push" := hnm
  have hret : meth.sig.returnType = none := hret
  refine Run.cast (show entryFrame m #[(.ref o0), o3] 2 = mkF m 0 #[.val (.ref o0), .val o3] [] from by rcases ref_cases hr_o3 with rfl | ⟨_, rfl⟩ <;> first | (simp [entryFrame, mkF, argsToLocals, Value.category]; done) | rfl) ?_
  have wd0 := wd
  obtain ⟨S_w_cache, E_w_cache, S_w_high, B_w_cache⟩ := wd
  have wd := wd0
  have N : Fr Z.heap.size [] := Fr.nil _
  have KK : Keep h0 h0 [o0, o2] := Keep.refl h0 [o0, o2]
  refine q_aloadN (pc' := 1) X hx (hb hby d_prog_8_method_7_code_0) rfl rfl rfl ?_
  refine q_getF (pc' := 4) X hx hZ hown (hb hby d_prog_8_method_7_code_1) (host := "") (Or.inl (t35 hw)) eT F_depth_o0 rfl ?_
  intro T X eT
  refine q_aloadN (pc' := 5) X hx (hb hby d_prog_8_method_7_code_4) rfl rfl rfl ?_
  refine q_getF (pc' := 8) X hx hZ hown (hb hby d_prog_8_method_7_code_5) (host := "") (Or.inl (t28 hw)) eT F_stack_o0 rfl ?_
  intro T X eT
  refine q_len (pc' := 9) X hx hZ (hb hby d_prog_8_method_7_code_8) eT V_o2 rfl ?_
  refine q_icmpYes (pc' := 30) X hx (hb hby d_prog_8_method_7_code_9) (by decide) (by decide) (by decide) ?_
  refine q_aloadN (pc' := 31) X hx (hb hby d_prog_8_method_7_code_30) rfl rfl rfl ?_
  refine q_getF (pc' := 34) X hx hZ hown (hb hby d_prog_8_method_7_code_31) (host := "") (Or.inl (t28 hw)) eT F_stack_o0 rfl ?_
  intro T X eT
  refine q_aloadN (pc' := 35) X hx (hb hby d_prog_8_method_7_code_34) rfl rfl rfl ?_
  refine q_dup (pc' := 36) X hx (hb hby d_prog_8_method_7_code_35) rfl rfl ?_
  refine q_getF (pc' := 39) X hx hZ hown (hb hby d_prog_8_method_7_code_36) (host := "") (Or.inl (t35 hw)) eT F_depth_o0 rfl ?_
  intro T X eT
  refine q_dupX1 (pc' := 40) X hx (hb hby d_prog_8_method_7_code_39) rfl rfl rfl ?_
  refine q_iconst (pc' := 41) (z := (1 : Int32)) X hx (hb hby d_prog_8_method_7_code_40) rfl rfl ?_
  refine q_iadd (pc' := 42) (z := (1 : Int32)) X hx (hb hby d_prog_8_method_7_code_41) (by decide) rfl ?_
  refine q_putF (pc' := 45) X hx hZ hown (hb hby d_prog_8_method_7_code_42) (host := "") (Or.inl (t35 hw)) eT F_depth_o0 E_o0 (Or.inl (t36 hw)) (t12 hw) (ty := .int) (by decide) rfl rfl rfl ?_
  intro T h_1 X eT Wx
  have N := Fr.snoc X N g_o0
  have O := ext_wr O Wx g_o0
  have KK := KK.wr Wx (Or.inl (List.mem_of_getElem? (i := 0) rfl))
  have ub_o0 := fun r (E : Exa Z _ r "java/lang/Integer") => (ne_exa E E_o0 (by decide) : r ≠ o0)
  have ne_o1_o0 : o1 ≠ o0 := Ne.symm (Exa.neArv E_o0 V_o1 (t12 hw))
  have ne_o2_o0 : o2 ≠ o0 := Ne.symm (Exa.neArv E_o0 V_o2 (t12 hw))
  have B_o3 := B_o3.wr Wx ub_o0
  have E_o0 := E_o0.wr Wx
  have F_locals_o0 := F_locals_o0.other Wx (Or.inr (slot_ne (Or.inr (t23 hw)) (Or.inl (t36 hw)) (by decide) (t := (.array (.object "java/lang/Object"))) (t' := .int) (by decide) (by decide)))
  have F_stack_o0 := F_stack_o0.other Wx (Or.inr (slot_ne (Or.inr (t29 hw)) (Or.inl (t36 hw)) (by decide) (t := (.array (.object "java/lang/Object"))) (t' := .int) (by decide) (by decide)))
  have F_depth_o0 := F_depth_o0.same Wx
  have V_o1 := V_o1.other Wx ne_o1_o0
  have V_o2 := V_o2.other Wx ne_o2_o0
  refine q_aloadN (pc' := 46) X hx (hb hby d_prog_8_method_7_code_45) rfl hr_o3 rfl ?_
  refine q_aast (pc' := 47) X hx hZ (hb hby d_prog_8_method_7_code_46) eT V_o2 rfl ⟨by decide, by decide⟩ (i := 0) rfl (Nat.le_of_ble_eq_true rfl) (fun _ A q => sto_ins A q Ov_o2 (B_o3.ins (t37 hw))) (fits_isRef rfl hr_o3) rfl ?_
  intro T h_2 X eT Wx V_o2'
  have N := Fr.snoc X N g_o2
  have O := ext_wr O Wx g_o2
  have KK := KK.wr Wx (Or.inl (List.mem_of_getElem? (i := 1) rfl))
  have ub_o2 := fun r (E : Exa Z _ r "java/lang/Integer") => (Exa.neArv E V_o2 (t60 hw) : r ≠ o2)
  have B_o3 := B_o3.wr Wx ub_o2
  have E_o0 := E_o0.wr Wx
  have F_locals_o0 := F_locals_o0.other Wx (Or.inl (Ne.symm ne_o2_o0))
  have F_stack_o0 := F_stack_o0.other Wx (Or.inl (Ne.symm ne_o2_o0))
  have F_depth_o0 := F_depth_o0.other Wx (Or.inl (Ne.symm ne_o2_o0))
  have V_o1 := V_o1.other Wx ne_o1_o2
  have V_o2 : Arv Z h_2 o2 k_o2 (.object "java/lang/Object") (3 : Int32) [o3, .null, .null] .null := V_o2'
  refine Run.retV X hx hlk hret (hb hby d_prog_8_method_7_code_47) (by decide) (by decide) ?_
  try rw [eT]
  exact ⟨rfl, N, KK, E_o0, F_locals_o0, F_stack_o0, F_depth_o0, V_o2⟩
set_option maxRecDepth 65536 in
set_option maxHeartbeats 40000000 in
theorem c11_word {l : Launch} {Z : State} {a0 : Array Value} (hw : ∀ d ∈ tables_1, d.before a0 Z = true) {w_cache : Addr} {cl_w_cache : Cell} (wd : World Z w_cache cl_w_cache) (x0 : Int32) {h0 : Heap} (O : Ext Z.heap h0) {o0 : Addr} {o1 : Addr} {o2 : Addr} {o3 : Value} {k_o1 : ClassId} {k_o2 : ClassId} (hr_o3 : o3.isRef = true) (B_o3 : Box Z h0 o3 x0) (V_o1 : Arv Z h0 o1 k_o1 (.object "java/lang/Object") (1 : Int32) [.null] .null) (Ov_o1 : Ovr Z k_o1 "java/lang/Object") (E_o0 : Exa Z h0 o0 "com/example/callweave/callweave/Frame") (F_locals_o0 : Fld Z h0 o0 "com/example/callweave/callweave/Frame" "locals" "[Ljava/lang/Object;" (.ref o1)) (F_stack_o0 : Fld Z h0 o0 "com/example/callweave/callweave/Frame" "stack" "[Ljava/lang/Object;" (.ref o2)) (F_depth_o0 : Fld Z h0 o0 "com/example/callweave/callweave/Frame" "depth" "I" (.int (0 : Int32))) (V_o2 : Arv Z h0 o2 k_o2 (.object "java/lang/Object") (3 : Int32) [o3, .null, .null] .null) (Ov_o2 : Ovr Z k_o2 "java/lang/Object") :
    Ctr l Z y9 prog_8_method_11_code 2 (some (.object "java/lang/Object")) ({ frames := 0, cells := 0, slots := 0, locals := 0 } : Room) #[(.ref o0), o3] h0 (fun v h L => v = some o3 ∧ L = [] ∧ h = h0) := by
  refine Ctr.body (plainFor_of_name pn_3) ?_
  intro p e s m below meth c T X hx hby hml hown hnm hret hlk hZ eT
  have hml : c.maxLocals = 2 := hml
  have hown : s.vm.findClass "com/example/callweave/callweave/Frame" = some m.cls := hown
  have hnm : meth.name = "word" := hnm
  have hret : meth.sig.returnType = (some (.object "java/lang/Object")) := hret
  refine Run.cast (show entryFrame m #[(.ref o0), o3] 2 = mkF m 0 #[.val (.ref o0), .val o3] [] from by rcases ref_cases hr_o3 with rfl | ⟨_, rfl⟩ <;> first | (simp [entryFrame, mkF, argsToLocals, Value.category]; done) | rfl) ?_
  have wd0 := wd
  obtain ⟨S_w_cache, E_w_cache, S_w_high, B_w_cache⟩ := wd
  have wd := wd0
  have N : Fr Z.heap.size [] := Fr.nil _
  have KK : Keep h0 h0 [] := Keep.refl h0 []
  refine q_aloadN (pc' := 1) X hx (hb hby d_prog_8_method_11_code_0) rfl hr_o3 rfl ?_
  refine Run.retR X hx hlk hret (hb hby d_prog_8_method_11_code_1) rfl hr_o3 (by decide) (by decide) ?_
  try rw [eT]
  exact ⟨rfl, rfl, rfl⟩
set_option maxRecDepth 65536 in
set_option maxHeartbeats 40000000 in
theorem c10_pop {l : Launch} {Z : State} {a0 : Array Value} (hw : ∀ d ∈ tables_1, d.before a0 Z = true) {w_cache : Addr} {cl_w_cache : Cell} (wd : World Z w_cache cl_w_cache) (x0 : Int32) {h0 : Heap} (O : Ext Z.heap h0) {o0 : Addr} {o1 : Addr} {o2 : Addr} {o3 : Value} {k_o1 : ClassId} {k_o2 : ClassId} (hr_o3 : o3.isRef = true) (B_o3 : Box Z h0 o3 x0) (V_o1 : Arv Z h0 o1 k_o1 (.object "java/lang/Object") (1 : Int32) [.null] .null) (Ov_o1 : Ovr Z k_o1 "java/lang/Object") (E_o0 : Exa Z h0 o0 "com/example/callweave/callweave/Frame") (F_locals_o0 : Fld Z h0 o0 "com/example/callweave/callweave/Frame" "locals" "[Ljava/lang/Object;" (.ref o1)) (F_stack_o0 : Fld Z h0 o0 "com/example/callweave/callweave/Frame" "stack" "[Ljava/lang/Object;" (.ref o2)) (F_depth_o0 : Fld Z h0 o0 "com/example/callweave/callweave/Frame" "depth" "I" (.int (1 : Int32))) (V_o2 : Arv Z h0 o2 k_o2 (.object "java/lang/Object") (3 : Int32) [o3, .null, .null] .null) (Ov_o2 : Ovr Z k_o2 "java/lang/Object") (g_o0 : Z.heap.size ≤ o0) (ne_o1_o2 : o1 ≠ o2) (g_o2 : Z.heap.size ≤ o2) :
    Ctr l Z y10 prog_8_method_8_code 2 (some (.object "java/lang/Object")) ({ frames := 1, cells := 0, slots := 0, locals := 13 } : Room) #[(.ref o0)] h0 (fun v h L => v = some o3 ∧ Fr Z.heap.size L ∧ Keep h0 h [o0, o2] ∧ Exa Z h o0 "com/example/callweave/callweave/Frame" ∧ Fld Z h o0 "com/example/callweave/callweave/Frame" "locals" "[Ljava/lang/Object;" (.ref o1) ∧ Fld Z h o0 "com/example/callweave/callweave/Frame" "stack" "[Ljava/lang/Object;" (.ref o2) ∧ Fld Z h o0 "com/example/callweave/callweave/Frame" "depth" "I" (.int (0 : Int32)) ∧ Arv Z h o2 k_o2 (.object "java/lang/Object") (3 : Int32) [.null, .null, .null] .null) := by
  refine Ctr.body (plainFor_of_name pn_3) ?_
  intro p e s m below meth c T X hx hby hml hown hnm hret hlk hZ eT
  have hml : c.maxLocals = 2 := hml
  have hown : s.vm.findClass "com/example/callweave/callweave/Frame" = some m.cls := hown
  have hnm : meth.name = "pop" := hnm
  have hret : meth.sig.returnType = (some (.object "java/lang/Object")) := hret
  refine Run.cast (show entryFrame m #[(.ref o0)] 2 = mkF m 0 #[.val (.ref o0), .unset] [] from by first | (simp [entryFrame, mkF, argsToLocals, Value.category]; done) | rfl) ?_
  have wd0 := wd
  obtain ⟨S_w_cache, E_w_cache, S_w_high, B_w_cache⟩ := wd
  have wd := wd0
  have N : Fr Z.heap.size [] := Fr.nil _
  have KK : Keep h0 h0 [o0, o2] := Keep.refl h0 [o0, o2]
  refine q_aloadN (pc' := 1) X hx (hb hby d_prog_8_method_8_code_0) rfl rfl rfl ?_
  refine q_getF (pc' := 4) X hx hZ hown (hb hby d_prog_8_method_8_code_1) (host := "") (Or.inl (t35 hw)) eT F_depth_o0 rfl ?_
  intro T X eT
  refine q_ifYes (pc' := 17) X hx (hb hby d_prog_8_method_8_code_4) (by decide) (by decide) (by decide) ?_
  refine q_aloadN (pc' := 18) X hx (hb hby d_prog_8_method_8_code_17) rfl rfl rfl ?_
  refine q_aloadN (pc' := 19) X hx (hb hby d_prog_8_method_8_code_18) rfl rfl rfl ?_
  refine q_getF (pc' := 22) X hx hZ hown (hb hby d_prog_8_method_8_code_19) (host := "") (Or.inl (t28 hw)) eT F_stack_o0 rfl ?_
  intro T X eT
  refine q_aloadN (pc' := 23) X hx (hb hby d_prog_8_method_8_code_22) rfl rfl rfl ?_
  refine q_dup (pc' := 24) X hx (hb hby d_prog_8_method_8_code_23) rfl rfl ?_
  refine q_getF (pc' := 27) X hx hZ hown (hb hby d_prog_8_method_8_code_24) (host := "") (Or.inl (t35 hw)) eT F_depth_o0 rfl ?_
  intro T X eT
  refine q_iconst (pc' := 28) (z := (1 : Int32)) X hx (hb hby d_prog_8_method_8_code_27) rfl rfl ?_
  refine q_isub (pc' := 29) (z := (0 : Int32)) X hx (hb hby d_prog_8_method_8_code_28) (by decide) rfl ?_
  refine q_dupX1 (pc' := 30) X hx (hb hby d_prog_8_method_8_code_29) rfl rfl rfl ?_
  refine q_putF (pc' := 33) X hx hZ hown (hb hby d_prog_8_method_8_code_30) (host := "") (Or.inl (t35 hw)) eT F_depth_o0 E_o0 (Or.inl (t36 hw)) (t12 hw) (ty := .int) (by decide) rfl rfl rfl ?_
  intro T h_1 X eT Wx
  have N := Fr.snoc X N g_o0
  have O := ext_wr O Wx g_o0
  have KK := KK.wr Wx (Or.inl (List.mem_of_getElem? (i := 0) rfl))
  have ub_o0 := fun r (E : Exa Z _ r "java/lang/Integer") => (ne_exa E E_o0 (by decide) : r ≠ o0)
  have ne_o1_o0 : o1 ≠ o0 := Ne.symm (Exa.neArv E_o0 V_o1 (t12 hw))
  have ne_o2_o0 : o2 ≠ o0 := Ne.symm (Exa.neArv E_o0 V_o2 (t12 hw))
  have B_o3 := B_o3.wr Wx ub_o0
  have V_o1 := V_o1.other Wx ne_o1_o0
  have E_o0 := E_o0.wr Wx
  have F_locals_o0 := F_locals_o0.other Wx (Or.inr (slot_ne (Or.inr (t23 hw)) (Or.inl (t36 hw)) (by decide) (t := (.array (.object "java/lang/Object"))) (t' := .int) (by decide) (by decide)))
  have F_stack_o0 := F_stack_o0.other Wx (Or.inr (slot_ne (Or.inr (t29 hw)) (Or.inl (t36 hw)) (by decide) (t := (.array (.object "java/lang/Object"))) (t' := .int) (by decide) (by decide)))
  have F_depth_o0 := F_depth_o0.same Wx
  have V_o2 := V_o2.other Wx ne_o2_o0
  refine q_aald (pc' := 34) (v := o3) X hx hZ (hb hby d_prog_8_method_8_code_33) eT V_o2 rfl ⟨by decide, by decide⟩ rfl rfl ?_
  refine q_callP (pc' := 37) (y := y9) (rest := []) X hx hZ hown (hb hby d_prog_8_method_8_code_34) (t43 hw) (t44 hw) (t45 hw) (t12 hw) (t13 hw) (t46 hw) (by decide) eT E_o0 [o3] (c11_word hw wd (x0) O hr_o3 B_o3 V_o1 Ov_o1 E_o0 F_locals_o0 F_stack_o0 F_depth_o0 V_o2 Ov_o2) (by rw [hml]; rfl) (lenOf pd_8 rfl) (W := 0) rfl (by decide) (by decide) (by decide) (by decide) rfl ?_
  rintro _ T _ X ⟨rfl, rfl, eT⟩
  rw [List.append_nil] at X
  show Run p e below _ (T.setTop (mkF m 37 _ [o3]))
  refine q_astoreN (pc' := 38) (l' := #[.val (.ref o0), .val o3]) X hx (hb hby d_prog_8_method_8_code_37) hr_o3 (by rcases ref_cases hr_o3 with rfl | ⟨_, rfl⟩ <;> rfl) rfl ?_
  refine q_aloadN (pc' := 39) X hx (hb hby d_prog_8_method_8_code_38) rfl rfl rfl ?_
  refine q_getF (pc' := 42) X hx hZ hown (hb hby d_prog_8_method_8_code_39) (host := "") (Or.inl (t28 hw)) eT F_stack_o0 rfl ?_
  intro T X eT
  refine q_aloadN (pc' := 43) X hx (hb hby d_prog_8_method_8_code_42) rfl rfl rfl ?_
  refine q_getF (pc' := 46) X hx hZ hown (hb hby d_prog_8_method_8_code_43) (host := "") (Or.inl (t35 hw)) eT F_depth_o0 rfl ?_
  intro T X eT
  refine q_null (pc' := 47) X hx (hb hby d_prog_8_method_8_code_46) rfl ?_
  refine q_aast (pc' := 48) X hx hZ (hb hby d_prog_8_method_8_code_47) eT V_o2 rfl ⟨by decide, by decide⟩ (i := 0) rfl (Nat.le_of_ble_eq_true rfl) (fun _ _ _ => Or.inl rfl) rfl rfl ?_
  intro T h_2 X eT Wx V_o2'
  have N := Fr.snoc X N g_o2
  have O := ext_wr O Wx g_o2
  have KK := KK.wr Wx (Or.inl (List.mem_of_getElem? (i := 1) rfl))
  have ub_o2 := fun r (E : Exa Z _ r "java/lang/Integer") => (Exa.neArv E V_o2 (t60 hw) : r ≠ o2)
  have B_o3 := B_o3.wr Wx ub_o2
  have V_o1 := V_o1.other Wx ne_o1_o2
  have E_o0 := E_o0.wr Wx
  have F_locals_o0 := F_locals_o0.other Wx (Or.inl (Ne.symm ne_o2_o0))
  have F_stack_o0 := F_stack_o0.other Wx (Or.inl (Ne.symm ne_o2_o0))
  have F_depth_o0 := F_depth_o0.other Wx (Or.inl (Ne.symm ne_o2_o0))
  have V_o2 : Arv Z h_2 o2 k_o2 (.object "java/lang/Object") (3 : Int32) [.null, .null, .null] .null := V_o2'
  refine q_aloadN (pc' := 49) X hx (hb hby d_prog_8_method_8_code_48) rfl hr_o3 rfl ?_
  refine Run.retR X hx hlk hret (hb hby d_prog_8_method_8_code_49) rfl hr_o3 (by decide) (by decide) ?_
  try rw [eT]
  exact ⟨rfl, N, KK, E_o0, F_locals_o0, F_stack_o0, F_depth_o0, V_o2⟩
set_option maxRecDepth 65536 in
set_option maxHeartbeats 40000000 in
theorem c12_push {l : Launch} {Z : State} {a0 : Array Value} (hw : ∀ d ∈ tables_1, d.before a0 Z = true) {w_cache : Addr} {cl_w_cache : Cell} (wd : World Z w_cache cl_w_cache) (x0 : Int32) (x1 : Int32) {h0 : Heap} (O : Ext Z.heap h0) {o0 : Addr} {o1 : Addr} {o2 : Addr} {o3 : Value} {o4 : Value} {k_o1 : ClassId} {k_o2 : ClassId} (hr_o4 : o4.isRef = true) (hr_o3 : o3.isRef = true) (B_o3 : Box Z h0 o3 x0) (B_o4 : Box Z h0 o4 x1) (V_o1 : Arv Z h0 o1 k_o1 (.object "java/lang/Object") (1 : Int32) [.null] .null) (Ov_o1 : Ovr Z k_o1 "java/lang/Object") (E_o0 : Exa Z h0 o0 "com/example/callweave/callweave/Frame") (F_locals_o0 : Fld Z h0 o0 "com/example/callweave/callweave/Frame" "locals" "[Ljava/lang/Object;" (.ref o1)) (F_stack_o0 : Fld Z h0 o0 "com/example/callweave/callweave/Frame" "stack" "[Ljava/lang/Object;" (.ref o2)) (F_depth_o0 : Fld Z h0 o0 "com/example/callweave/callweave/Frame" "depth" "I" (.int (1 : Int32))) (V_o2 : Arv Z h0 o2 k_o2 (.object "java/lang/Object") (3 : Int32) [o3, .null, .null] .null) (Ov_o2 : Ovr Z k_o2 "java/lang/Object") (g_o0 : Z.heap.size ≤ o0) (ne_o1_o2 : o1 ≠ o2) (g_o2 : Z.heap.size ≤ o2) :
    Ctr l Z y8 prog_8_method_7_code 2 none ({ frames := 0, cells := 0, slots := 0, locals := 0 } : Room) #[(.ref o0), o4] h0 (fun v h L => v = none ∧ Fr Z.heap.size L ∧ Keep h0 h [o0, o2] ∧ Exa Z h o0 "com/example/callweave/callweave/Frame" ∧ Fld Z h o0 "com/example/callweave/callweave/Frame" "locals" "[Ljava/lang/Object;" (.ref o1) ∧ Fld Z h o0 "com/example/callweave/callweave/Frame" "stack" "[Ljava/lang/Object;" (.ref o2) ∧ Fld Z h o0 "com/example/callweave/callweave/Frame" "depth" "I" (.int (2 : Int32)) ∧ Arv Z h o2 k_o2 (.object "java/lang/Object") (3 : Int32) [o3, o4, .null] .null) := by
  refine Ctr.body (plainFor_of_name pn_3) ?_
  intro p e s m below meth c T X hx hby hml hown hnm hret hlk hZ eT
  have hml : c.maxLocals = 2 := hml
  have hown : s.vm.findClass "com/example/callweave/callweave/Frame" = some m.cls := hown
  have hnm : meth.name = "push" := hnm
  have hret : meth.sig.returnType = none := hret
  refine Run.cast (show entryFrame m #[(.ref o0), o4] 2 = mkF m 0 #[.val (.ref o0), .val o4] [] from by rcases ref_cases hr_o4 with rfl | ⟨_, rfl⟩ <;> first | (simp [entryFrame, mkF, argsToLocals, Value.category]; done) | rfl) ?_
  have wd0 := wd
  obtain ⟨S_w_cache, E_w_cache, S_w_high, B_w_cache⟩ := wd
  have wd := wd0
  have N : Fr Z.heap.size [] := Fr.nil _
  have KK : Keep h0 h0 [o0, o2] := Keep.refl h0 [o0, o2]
  refine q_aloadN (pc' := 1) X hx (hb hby d_prog_8_method_7_code_0) rfl rfl rfl ?_
  refine q_getF (pc' := 4) X hx hZ hown (hb hby d_prog_8_method_7_code_1) (host := "") (Or.inl (t35 hw)) eT F_depth_o0 rfl ?_
  intro T X eT
  refine q_aloadN (pc' := 5) X hx (hb hby d_prog_8_method_7_code_4) rfl rfl rfl ?_
  refine q_getF (pc' := 8) X hx hZ hown (hb hby d_prog_8_method_7_code_5) (host := "") (Or.inl (t28 hw)) eT F_stack_o0 rfl ?_
  intro T X eT
  refine q_len (pc' := 9) X hx hZ (hb hby d_prog_8_method_7_code_8) eT V_o2 rfl ?_
  refine q_icmpYes (pc' := 30) X hx (hb hby d_prog_8_method_7_code_9) (by decide) (by decide) (by decide) ?_
  refine q_aloadN (pc' := 31) X hx (hb hby d_prog_8_method_7_code_30) rfl rfl rfl ?_
  refine q_getF (pc' := 34) X hx hZ hown (hb hby d_prog_8_method_7_code_31) (host := "") (Or.inl (t28 hw)) eT F_stack_o0 rfl ?_
  intro T X eT
  refine q_aloadN (pc' := 35) X hx (hb hby d_prog_8_method_7_code_34) rfl rfl rfl ?_
  refine q_dup (pc' := 36) X hx (hb hby d_prog_8_method_7_code_35) rfl rfl ?_
  refine q_getF (pc' := 39) X hx hZ hown (hb hby d_prog_8_method_7_code_36) (host := "") (Or.inl (t35 hw)) eT F_depth_o0 rfl ?_
  intro T X eT
  refine q_dupX1 (pc' := 40) X hx (hb hby d_prog_8_method_7_code_39) rfl rfl rfl ?_
  refine q_iconst (pc' := 41) (z := (1 : Int32)) X hx (hb hby d_prog_8_method_7_code_40) rfl rfl ?_
  refine q_iadd (pc' := 42) (z := (2 : Int32)) X hx (hb hby d_prog_8_method_7_code_41) (by decide) rfl ?_
  refine q_putF (pc' := 45) X hx hZ hown (hb hby d_prog_8_method_7_code_42) (host := "") (Or.inl (t35 hw)) eT F_depth_o0 E_o0 (Or.inl (t36 hw)) (t12 hw) (ty := .int) (by decide) rfl rfl rfl ?_
  intro T h_1 X eT Wx
  have N := Fr.snoc X N g_o0
  have O := ext_wr O Wx g_o0
  have KK := KK.wr Wx (Or.inl (List.mem_of_getElem? (i := 0) rfl))
  have ub_o0 := fun r (E : Exa Z _ r "java/lang/Integer") => (ne_exa E E_o0 (by decide) : r ≠ o0)
  have ub_o0 := fun r (E : Exa Z _ r "java/lang/Integer") => (ne_exa E E_o0 (by decide) : r ≠ o0)
  have ne_o1_o0 : o1 ≠ o0 := Ne.symm (Exa.neArv E_o0 V_o1 (t12 hw))
  have ne_o2_o0 : o2 ≠ o0 := Ne.symm (Exa.neArv E_o0 V_o2 (t12 hw))
  have B_o3 := B_o3.wr Wx ub_o0
  have B_o4 := B_o4.wr Wx ub_o0
  have V_o1 := V_o1.other Wx ne_o1_o0
  have E_o0 := E_o0.wr Wx
  have F_locals_o0 := F_locals_o0.other Wx (Or.inr (slot_ne (Or.inr (t23 hw)) (Or.inl (t36 hw)) (by decide) (t := (.array (.object "java/lang/Object"))) (t' := .int) (by decide) (by decide)))
  have F_stack_o0 := F_stack_o0.other Wx (Or.inr (slot_ne (Or.inr (t29 hw)) (Or.inl (t36 hw)) (by decide) (t := (.array (.object "java/lang/Object"))) (t' := .int) (by decide) (by decide)))
  have F_depth_o0 := F_depth_o0.same Wx
  have V_o2 := V_o2.other Wx ne_o2_o0
  refine q_aloadN (pc' := 46) X hx (hb hby d_prog_8_method_7_code_45) rfl hr_o4 rfl ?_
  refine q_aast (pc' := 47) X hx hZ (hb hby d_prog_8_method_7_code_46) eT V_o2 rfl ⟨by decide, by decide⟩ (i := 1) rfl (Nat.le_of_ble_eq_true rfl) (fun _ A q => sto_ins A q Ov_o2 (B_o4.ins (t37 hw))) (fits_isRef rfl hr_o4) rfl ?_
  intro T h_2 X eT Wx V_o2'
  have N := Fr.snoc X N g_o2
  have O := ext_wr O Wx g_o2
  have KK := KK.wr Wx (Or.inl (List.mem_of_getElem? (i := 1) rfl))
  have ub_o2 := fun r (E : Exa Z _ r "java/lang/Integer") => (Exa.neArv E V_o2 (t60 hw) : r ≠ o2)
  have ub_o2 := fun r (E : Exa Z _ r "java/lang/Integer") => (Exa.neArv E V_o2 (t60 hw) : r ≠ o2)
  have B_o3 := B_o3.wr Wx ub_o2
  have B_o4 := B_o4.wr Wx ub_o2
  have V_o1 := V_o1.other Wx ne_o1_o2
  have E_o0 := E_o0.wr Wx
  have F_locals_o0 := F_locals_o0.other Wx (Or.inl (Ne.symm ne_o2_o0))
  have F_stack_o0 := F_stack_o0.other Wx (Or.inl (Ne.symm ne_o2_o0))
  have F_depth_o0 := F_depth_o0.other Wx (Or.inl (Ne.symm ne_o2_o0))
  have V_o2 : Arv Z h_2 o2 k_o2 (.object "java/lang/Object") (3 : Int32) [o3, o4, .null] .null := V_o2'
  refine Run.retV X hx hlk hret (hb hby d_prog_8_method_7_code_47) (by decide) (by decide) ?_
  try rw [eT]
  exact ⟨rfl, N, KK, E_o0, F_locals_o0, F_stack_o0, F_depth_o0, V_o2⟩
set_option maxRecDepth 65536 in
set_option maxHeartbeats 40000000 in
theorem c14_word {l : Launch} {Z : State} {a0 : Array Value} (hw : ∀ d ∈ tables_1, d.before a0 Z = true) {w_cache : Addr} {cl_w_cache : Cell} (wd : World Z w_cache cl_w_cache) (x0 : Int32) (x1 : Int32) {h0 : Heap} (O : Ext Z.heap h0) {o0 : Addr} {o1 : Addr} {o2 : Addr} {o3 : Value} {o4 : Value} {k_o1 : ClassId} {k_o2 : ClassId} (hr_o4 : o4.isRef = true) (hr_o3 : o3.isRef = true) (B_o3 : Box Z h0 o3 x0) (B_o4 : Box Z h0 o4 x1) (V_o1 : Arv Z h0 o1 k_o1 (.object "java/lang/Object") (1 : Int32) [.null] .null) (Ov_o1 : Ovr Z k_o1 "java/lang/Object") (E_o0 : Exa Z h0 o0 "com/example/callweave/callweave/Frame") (F_locals_o0 : Fld Z h0 o0 "com/example/callweave/callweave/Frame" "locals" "[Ljava/lang/Object;" (.ref o1)) (F_stack_o0 : Fld Z h0 o0 "com/example/callweave/callweave/Frame" "stack" "[Ljava/lang/Object;" (.ref o2)) (F_depth_o0 : Fld Z h0 o0 "com/example/callweave/callweave/Frame" "depth" "I" (.int (1 : Int32))) (V_o2 : Arv Z h0 o2 k_o2 (.object "java/lang/Object") (3 : Int32) [o3, o4, .null] .null) (Ov_o2 : Ovr Z k_o2 "java/lang/Object") :
    Ctr l Z y9 prog_8_method_11_code 2 (some (.object "java/lang/Object")) ({ frames := 0, cells := 0, slots := 0, locals := 0 } : Room) #[(.ref o0), o4] h0 (fun v h L => v = some o4 ∧ L = [] ∧ h = h0) := by
  refine Ctr.body (plainFor_of_name pn_3) ?_
  intro p e s m below meth c T X hx hby hml hown hnm hret hlk hZ eT
  have hml : c.maxLocals = 2 := hml
  have hown : s.vm.findClass "com/example/callweave/callweave/Frame" = some m.cls := hown
  have hnm : meth.name = "word" := hnm
  have hret : meth.sig.returnType = (some (.object "java/lang/Object")) := hret
  refine Run.cast (show entryFrame m #[(.ref o0), o4] 2 = mkF m 0 #[.val (.ref o0), .val o4] [] from by rcases ref_cases hr_o4 with rfl | ⟨_, rfl⟩ <;> first | (simp [entryFrame, mkF, argsToLocals, Value.category]; done) | rfl) ?_
  have wd0 := wd
  obtain ⟨S_w_cache, E_w_cache, S_w_high, B_w_cache⟩ := wd
  have wd := wd0
  have N : Fr Z.heap.size [] := Fr.nil _
  have KK : Keep h0 h0 [] := Keep.refl h0 []
  refine q_aloadN (pc' := 1) X hx (hb hby d_prog_8_method_11_code_0) rfl hr_o4 rfl ?_
  refine Run.retR X hx hlk hret (hb hby d_prog_8_method_11_code_1) rfl hr_o4 (by decide) (by decide) ?_
  try rw [eT]
  exact ⟨rfl, rfl, rfl⟩
set_option maxRecDepth 65536 in
set_option maxHeartbeats 40000000 in
theorem c13_pop {l : Launch} {Z : State} {a0 : Array Value} (hw : ∀ d ∈ tables_1, d.before a0 Z = true) {w_cache : Addr} {cl_w_cache : Cell} (wd : World Z w_cache cl_w_cache) (x0 : Int32) (x1 : Int32) {h0 : Heap} (O : Ext Z.heap h0) {o0 : Addr} {o1 : Addr} {o2 : Addr} {o3 : Value} {o4 : Value} {k_o1 : ClassId} {k_o2 : ClassId} (hr_o4 : o4.isRef = true) (hr_o3 : o3.isRef = true) (B_o3 : Box Z h0 o3 x0) (B_o4 : Box Z h0 o4 x1) (V_o1 : Arv Z h0 o1 k_o1 (.object "java/lang/Object") (1 : Int32) [.null] .null) (Ov_o1 : Ovr Z k_o1 "java/lang/Object") (E_o0 : Exa Z h0 o0 "com/example/callweave/callweave/Frame") (F_locals_o0 : Fld Z h0 o0 "com/example/callweave/callweave/Frame" "locals" "[Ljava/lang/Object;" (.ref o1)) (F_stack_o0 : Fld Z h0 o0 "com/example/callweave/callweave/Frame" "stack" "[Ljava/lang/Object;" (.ref o2)) (F_depth_o0 : Fld Z h0 o0 "com/example/callweave/callweave/Frame" "depth" "I" (.int (2 : Int32))) (V_o2 : Arv Z h0 o2 k_o2 (.object "java/lang/Object") (3 : Int32) [o3, o4, .null] .null) (Ov_o2 : Ovr Z k_o2 "java/lang/Object") (g_o0 : Z.heap.size ≤ o0) (ne_o1_o2 : o1 ≠ o2) (g_o2 : Z.heap.size ≤ o2) :
    Ctr l Z y10 prog_8_method_8_code 2 (some (.object "java/lang/Object")) ({ frames := 1, cells := 0, slots := 0, locals := 13 } : Room) #[(.ref o0)] h0 (fun v h L => v = some o4 ∧ Fr Z.heap.size L ∧ Keep h0 h [o0, o2] ∧ Exa Z h o0 "com/example/callweave/callweave/Frame" ∧ Fld Z h o0 "com/example/callweave/callweave/Frame" "locals" "[Ljava/lang/Object;" (.ref o1) ∧ Fld Z h o0 "com/example/callweave/callweave/Frame" "stack" "[Ljava/lang/Object;" (.ref o2) ∧ Fld Z h o0 "com/example/callweave/callweave/Frame" "depth" "I" (.int (1 : Int32)) ∧ Arv Z h o2 k_o2 (.object "java/lang/Object") (3 : Int32) [o3, .null, .null] .null) := by
  refine Ctr.body (plainFor_of_name pn_3) ?_
  intro p e s m below meth c T X hx hby hml hown hnm hret hlk hZ eT
  have hml : c.maxLocals = 2 := hml
  have hown : s.vm.findClass "com/example/callweave/callweave/Frame" = some m.cls := hown
  have hnm : meth.name = "pop" := hnm
  have hret : meth.sig.returnType = (some (.object "java/lang/Object")) := hret
  refine Run.cast (show entryFrame m #[(.ref o0)] 2 = mkF m 0 #[.val (.ref o0), .unset] [] from by first | (simp [entryFrame, mkF, argsToLocals, Value.category]; done) | rfl) ?_
  have wd0 := wd
  obtain ⟨S_w_cache, E_w_cache, S_w_high, B_w_cache⟩ := wd
  have wd := wd0
  have N : Fr Z.heap.size [] := Fr.nil _
  have KK : Keep h0 h0 [o0, o2] := Keep.refl h0 [o0, o2]
  refine q_aloadN (pc' := 1) X hx (hb hby d_prog_8_method_8_code_0) rfl rfl rfl ?_
  refine q_getF (pc' := 4) X hx hZ hown (hb hby d_prog_8_method_8_code_1) (host := "") (Or.inl (t35 hw)) eT F_depth_o0 rfl ?_
  intro T X eT
  refine q_ifYes (pc' := 17) X hx (hb hby d_prog_8_method_8_code_4) (by decide) (by decide) (by decide) ?_
  refine q_aloadN (pc' := 18) X hx (hb hby d_prog_8_method_8_code_17) rfl rfl rfl ?_
  refine q_aloadN (pc' := 19) X hx (hb hby d_prog_8_method_8_code_18) rfl rfl rfl ?_
  refine q_getF (pc' := 22) X hx hZ hown (hb hby d_prog_8_method_8_code_19) (host := "") (Or.inl (t28 hw)) eT F_stack_o0 rfl ?_
  intro T X eT
  refine q_aloadN (pc' := 23) X hx (hb hby d_prog_8_method_8_code_22) rfl rfl rfl ?_
  refine q_dup (pc' := 24) X hx (hb hby d_prog_8_method_8_code_23) rfl rfl ?_
  refine q_getF (pc' := 27) X hx hZ hown (hb hby d_prog_8_method_8_code_24) (host := "") (Or.inl (t35 hw)) eT F_depth_o0 rfl ?_
  intro T X eT
  refine q_iconst (pc' := 28) (z := (1 : Int32)) X hx (hb hby d_prog_8_method_8_code_27) rfl rfl ?_
  refine q_isub (pc' := 29) (z := (1 : Int32)) X hx (hb hby d_prog_8_method_8_code_28) (by decide) rfl ?_
  refine q_dupX1 (pc' := 30) X hx (hb hby d_prog_8_method_8_code_29) rfl rfl rfl ?_
  refine q_putF (pc' := 33) X hx hZ hown (hb hby d_prog_8_method_8_code_30) (host := "") (Or.inl (t35 hw)) eT F_depth_o0 E_o0 (Or.inl (t36 hw)) (t12 hw) (ty := .int) (by decide) rfl rfl rfl ?_
  intro T h_1 X eT Wx
  have N := Fr.snoc X N g_o0
  have O := ext_wr O Wx g_o0
  have KK := KK.wr Wx (Or.inl (List.mem_of_getElem? (i := 0) rfl))
  have ub_o0 := fun r (E : Exa Z _ r "java/lang/Integer") => (ne_exa E E_o0 (by decide) : r ≠ o0)
  have ub_o0 := fun r (E : Exa Z _ r "java/lang/Integer") => (ne_exa E E_o0 (by decide) : r ≠ o0)
  have ne_o1_o0 : o1 ≠ o0 := Ne.symm (Exa.neArv E_o0 V_o1 (t12 hw))
  have ne_o2_o0 : o2 ≠ o0 := Ne.symm (Exa.neArv E_o0 V_o2 (t12 hw))
  have B_o3 := B_o3.wr Wx ub_o0
  have B_o4 := B_o4.wr Wx ub_o0
  have V_o1 := V_o1.other Wx ne_o1_o0
  have E_o0 := E_o0.wr Wx
  have F_locals_o0 := F_locals_o0.other Wx (Or.inr (slot_ne (Or.inr (t23 hw)) (Or.inl (t36 hw)) (by decide) (t := (.array (.object "java/lang/Object"))) (t' := .int) (by decide) (by decide)))
  have F_stack_o0 := F_stack_o0.other Wx (Or.inr (slot_ne (Or.inr (t29 hw)) (Or.inl (t36 hw)) (by decide) (t := (.array (.object "java/lang/Object"))) (t' := .int) (by decide) (by decide)))
  have F_depth_o0 := F_depth_o0.same Wx
  have V_o2 := V_o2.other Wx ne_o2_o0
  refine q_aald (pc' := 34) (v := o4) X hx hZ (hb hby d_prog_8_method_8_code_33) eT V_o2 rfl ⟨by decide, by decide⟩ rfl rfl ?_
  refine q_callP (pc' := 37) (y := y9) (rest := []) X hx hZ hown (hb hby d_prog_8_method_8_code_34) (t43 hw) (t44 hw) (t45 hw) (t12 hw) (t13 hw) (t46 hw) (by decide) eT E_o0 [o4] (c14_word hw wd (x0) (x1) O hr_o4 hr_o3 B_o3 B_o4 V_o1 Ov_o1 E_o0 F_locals_o0 F_stack_o0 F_depth_o0 V_o2 Ov_o2) (by rw [hml]; rfl) (lenOf pd_8 rfl) (W := 0) rfl (by decide) (by decide) (by decide) (by decide) rfl ?_
  rintro _ T _ X ⟨rfl, rfl, eT⟩
  rw [List.append_nil] at X
  show Run p e below _ (T.setTop (mkF m 37 _ [o4]))
  refine q_astoreN (pc' := 38) (l' := #[.val (.ref o0), .val o4]) X hx (hb hby d_prog_8_method_8_code_37) hr_o4 (by rcases ref_cases hr_o4 with rfl | ⟨_, rfl⟩ <;> rfl) rfl ?_
  refine q_aloadN (pc' := 39) X hx (hb hby d_prog_8_method_8_code_38) rfl rfl rfl ?_
  refine q_getF (pc' := 42) X hx hZ hown (hb hby d_prog_8_method_8_code_39) (host := "") (Or.inl (t28 hw)) eT F_stack_o0 rfl ?_
  intro T X eT
  refine q_aloadN (pc' := 43) X hx (hb hby d_prog_8_method_8_code_42) rfl rfl rfl ?_
  refine q_getF (pc' := 46) X hx hZ hown (hb hby d_prog_8_method_8_code_43) (host := "") (Or.inl (t35 hw)) eT F_depth_o0 rfl ?_
  intro T X eT
  refine q_null (pc' := 47) X hx (hb hby d_prog_8_method_8_code_46) rfl ?_
  refine q_aast (pc' := 48) X hx hZ (hb hby d_prog_8_method_8_code_47) eT V_o2 rfl ⟨by decide, by decide⟩ (i := 1) rfl (Nat.le_of_ble_eq_true rfl) (fun _ _ _ => Or.inl rfl) rfl rfl ?_
  intro T h_2 X eT Wx V_o2'
  have N := Fr.snoc X N g_o2
  have O := ext_wr O Wx g_o2
  have KK := KK.wr Wx (Or.inl (List.mem_of_getElem? (i := 1) rfl))
  have ub_o2 := fun r (E : Exa Z _ r "java/lang/Integer") => (Exa.neArv E V_o2 (t60 hw) : r ≠ o2)
  have ub_o2 := fun r (E : Exa Z _ r "java/lang/Integer") => (Exa.neArv E V_o2 (t60 hw) : r ≠ o2)
  have B_o3 := B_o3.wr Wx ub_o2
  have B_o4 := B_o4.wr Wx ub_o2
  have V_o1 := V_o1.other Wx ne_o1_o2
  have E_o0 := E_o0.wr Wx
  have F_locals_o0 := F_locals_o0.other Wx (Or.inl (Ne.symm ne_o2_o0))
  have F_stack_o0 := F_stack_o0.other Wx (Or.inl (Ne.symm ne_o2_o0))
  have F_depth_o0 := F_depth_o0.other Wx (Or.inl (Ne.symm ne_o2_o0))
  have V_o2 : Arv Z h_2 o2 k_o2 (.object "java/lang/Object") (3 : Int32) [o3, .null, .null] .null := V_o2'
  refine q_aloadN (pc' := 49) X hx (hb hby d_prog_8_method_8_code_48) rfl hr_o4 rfl ?_
  refine Run.retR X hx hlk hret (hb hby d_prog_8_method_8_code_49) rfl hr_o4 (by decide) (by decide) ?_
  try rw [eT]
  exact ⟨rfl, N, KK, E_o0, F_locals_o0, F_stack_o0, F_depth_o0, V_o2⟩
set_option maxRecDepth 65536 in
set_option maxHeartbeats 40000000 in
theorem c15_push {l : Launch} {Z : State} {a0 : Array Value} (hw : ∀ d ∈ tables_1, d.before a0 Z = true) {w_cache : Addr} {cl_w_cache : Cell} (wd : World Z w_cache cl_w_cache) (x0 : Int32) (x1 : Int32) {h0 : Heap} (O : Ext Z.heap h0) {o0 : Addr} {o1 : Addr} {o2 : Addr} {o3 : Value} {o4 : Value} {k_o1 : ClassId} {k_o2 : ClassId} (hr_o4 : o4.isRef = true) (hr_o3 : o3.isRef = true) (B_o3 : Box Z h0 o3 x0) (B_o4 : Box Z h0 o4 x1) (V_o1 : Arv Z h0 o1 k_o1 (.object "java/lang/Object") (1 : Int32) [.null] .null) (Ov_o1 : Ovr Z k_o1 "java/lang/Object") (E_o0 : Exa Z h0 o0 "com/example/callweave/callweave/Frame") (F_locals_o0 : Fld Z h0 o0 "com/example/callweave/callweave/Frame" "locals" "[Ljava/lang/Object;" (.ref o1)) (F_stack_o0 : Fld Z h0 o0 "com/example/callweave/callweave/Frame" "stack" "[Ljava/lang/Object;" (.ref o2)) (F_depth_o0 : Fld Z h0 o0 "com/example/callweave/callweave/Frame" "depth" "I" (.int (1 : Int32))) (V_o2 : Arv Z h0 o2 k_o2 (.object "java/lang/Object") (3 : Int32) [o3, .null, .null] .null) (Ov_o2 : Ovr Z k_o2 "java/lang/Object") (g_o0 : Z.heap.size ≤ o0) (ne_o1_o2 : o1 ≠ o2) (g_o2 : Z.heap.size ≤ o2) :
    Ctr l Z y8 prog_8_method_7_code 2 none ({ frames := 0, cells := 0, slots := 0, locals := 0 } : Room) #[(.ref o0), o4] h0 (fun v h L => v = none ∧ Fr Z.heap.size L ∧ Keep h0 h [o0, o2] ∧ Exa Z h o0 "com/example/callweave/callweave/Frame" ∧ Fld Z h o0 "com/example/callweave/callweave/Frame" "locals" "[Ljava/lang/Object;" (.ref o1) ∧ Fld Z h o0 "com/example/callweave/callweave/Frame" "stack" "[Ljava/lang/Object;" (.ref o2) ∧ Fld Z h o0 "com/example/callweave/callweave/Frame" "depth" "I" (.int (2 : Int32)) ∧ Arv Z h o2 k_o2 (.object "java/lang/Object") (3 : Int32) [o3, o4, .null] .null) := by
  refine Ctr.body (plainFor_of_name pn_3) ?_
  intro p e s m below meth c T X hx hby hml hown hnm hret hlk hZ eT
  have hml : c.maxLocals = 2 := hml
  have hown : s.vm.findClass "com/example/callweave/callweave/Frame" = some m.cls := hown
  have hnm : meth.name = "push" := hnm
  have hret : meth.sig.returnType = none := hret
  refine Run.cast (show entryFrame m #[(.ref o0), o4] 2 = mkF m 0 #[.val (.ref o0), .val o4] [] from by rcases ref_cases hr_o4 with rfl | ⟨_, rfl⟩ <;> first | (simp [entryFrame, mkF, argsToLocals, Value.category]; done) | rfl) ?_
  have wd0 := wd
  obtain ⟨S_w_cache, E_w_cache, S_w_high, B_w_cache⟩ := wd
  have wd := wd0
  have N : Fr Z.heap.size [] := Fr.nil _
  have KK : Keep h0 h0 [o0, o2] := Keep.refl h0 [o0, o2]
  refine q_aloadN (pc' := 1) X hx (hb hby d_prog_8_method_7_code_0) rfl rfl rfl ?_
  refine q_getF (pc' := 4) X hx hZ hown (hb hby d_prog_8_method_7_code_1) (host := "") (Or.inl (t35 hw)) eT F_depth_o0 rfl ?_
  intro T X eT
  refine q_aloadN (pc' := 5) X hx (hb hby d_prog_8_method_7_code_4) rfl rfl rfl ?_
  refine q_getF (pc' := 8) X hx hZ hown (hb hby d_prog_8_method_7_code_5) (host := "") (Or.inl (t28 hw)) eT F_stack_o0 rfl ?_
  intro T X eT
  refine q_len (pc' := 9) X hx hZ (hb hby d_prog_8_method_7_code_8) eT V_o2 rfl ?_
  refine q_icmpYes (pc' := 30) X hx (hb hby d_prog_8_method_7_code_9) (by decide) (by decide) (by decide) ?_
  refine q_aloadN (pc' := 31) X hx (hb hby d_prog_8_method_7_code_30) rfl rfl rfl ?_
  refine q_getF (pc' := 34) X hx hZ hown (hb hby d_prog_8_method_7_code_31) (host := "") (Or.inl (t28 hw)) eT F_stack_o0 rfl ?_
  intro T X eT
  refine q_aloadN (pc' := 35) X hx (hb hby d_prog_8_method_7_code_34) rfl rfl rfl ?_
  refine q_dup (pc' := 36) X hx (hb hby d_prog_8_method_7_code_35) rfl rfl ?_
  refine q_getF (pc' := 39) X hx hZ hown (hb hby d_prog_8_method_7_code_36) (host := "") (Or.inl (t35 hw)) eT F_depth_o0 rfl ?_
  intro T X eT
  refine q_dupX1 (pc' := 40) X hx (hb hby d_prog_8_method_7_code_39) rfl rfl rfl ?_
  refine q_iconst (pc' := 41) (z := (1 : Int32)) X hx (hb hby d_prog_8_method_7_code_40) rfl rfl ?_
  refine q_iadd (pc' := 42) (z := (2 : Int32)) X hx (hb hby d_prog_8_method_7_code_41) (by decide) rfl ?_
  refine q_putF (pc' := 45) X hx hZ hown (hb hby d_prog_8_method_7_code_42) (host := "") (Or.inl (t35 hw)) eT F_depth_o0 E_o0 (Or.inl (t36 hw)) (t12 hw) (ty := .int) (by decide) rfl rfl rfl ?_
  intro T h_1 X eT Wx
  have N := Fr.snoc X N g_o0
  have O := ext_wr O Wx g_o0
  have KK := KK.wr Wx (Or.inl (List.mem_of_getElem? (i := 0) rfl))
  have ub_o0 := fun r (E : Exa Z _ r "java/lang/Integer") => (ne_exa E E_o0 (by decide) : r ≠ o0)
  have ub_o0 := fun r (E : Exa Z _ r "java/lang/Integer") => (ne_exa E E_o0 (by decide) : r ≠ o0)
  have ne_o1_o0 : o1 ≠ o0 := Ne.symm (Exa.neArv E_o0 V_o1 (t12 hw))
  have ne_o2_o0 : o2 ≠ o0 := Ne.symm (Exa.neArv E_o0 V_o2 (t12 hw))
  have B_o3 := B_o3.wr Wx ub_o0
  have B_o4 := B_o4.wr Wx ub_o0
  have V_o1 := V_o1.other Wx ne_o1_o0
  have E_o0 := E_o0.wr Wx
  have F_locals_o0 := F_locals_o0.other Wx (Or.inr (slot_ne (Or.inr (t23 hw)) (Or.inl (t36 hw)) (by decide) (t := (.array (.object "java/lang/Object"))) (t' := .int) (by decide) (by decide)))
  have F_stack_o0 := F_stack_o0.other Wx (Or.inr (slot_ne (Or.inr (t29 hw)) (Or.inl (t36 hw)) (by decide) (t := (.array (.object "java/lang/Object"))) (t' := .int) (by decide) (by decide)))
  have F_depth_o0 := F_depth_o0.same Wx
  have V_o2 := V_o2.other Wx ne_o2_o0
  refine q_aloadN (pc' := 46) X hx (hb hby d_prog_8_method_7_code_45) rfl hr_o4 rfl ?_
  refine q_aast (pc' := 47) X hx hZ (hb hby d_prog_8_method_7_code_46) eT V_o2 rfl ⟨by decide, by decide⟩ (i := 1) rfl (Nat.le_of_ble_eq_true rfl) (fun _ A q => sto_ins A q Ov_o2 (B_o4.ins (t37 hw))) (fits_isRef rfl hr_o4) rfl ?_
  intro T h_2 X eT Wx V_o2'
  have N := Fr.snoc X N g_o2
  have O := ext_wr O Wx g_o2
  have KK := KK.wr Wx (Or.inl (List.mem_of_getElem? (i := 1) rfl))
  have ub_o2 := fun r (E : Exa Z _ r "java/lang/Integer") => (Exa.neArv E V_o2 (t60 hw) : r ≠ o2)
  have ub_o2 := fun r (E : Exa Z _ r "java/lang/Integer") => (Exa.neArv E V_o2 (t60 hw) : r ≠ o2)
  have B_o3 := B_o3.wr Wx ub_o2
  have B_o4 := B_o4.wr Wx ub_o2
  have V_o1 := V_o1.other Wx ne_o1_o2
  have E_o0 := E_o0.wr Wx
  have F_locals_o0 := F_locals_o0.other Wx (Or.inl (Ne.symm ne_o2_o0))
  have F_stack_o0 := F_stack_o0.other Wx (Or.inl (Ne.symm ne_o2_o0))
  have F_depth_o0 := F_depth_o0.other Wx (Or.inl (Ne.symm ne_o2_o0))
  have V_o2 : Arv Z h_2 o2 k_o2 (.object "java/lang/Object") (3 : Int32) [o3, o4, .null] .null := V_o2'
  refine Run.retV X hx hlk hret (hb hby d_prog_8_method_7_code_47) (by decide) (by decide) ?_
  try rw [eT]
  exact ⟨rfl, N, KK, E_o0, F_locals_o0, F_stack_o0, F_depth_o0, V_o2⟩
set_option maxRecDepth 65536 in
set_option maxHeartbeats 40000000 in
theorem c17_word {l : Launch} {Z : State} {a0 : Array Value} (hw : ∀ d ∈ tables_1, d.before a0 Z = true) {w_cache : Addr} {cl_w_cache : Cell} (wd : World Z w_cache cl_w_cache) (x0 : Int32) (x1 : Int32) {h0 : Heap} (O : Ext Z.heap h0) {o0 : Addr} {o1 : Addr} {o2 : Addr} {o3 : Value} {o4 : Value} {k_o1 : ClassId} {k_o2 : ClassId} (hr_o4 : o4.isRef = true) (hr_o3 : o3.isRef = true) (B_o3 : Box Z h0 o3 x0) (B_o4 : Box Z h0 o4 x1) (V_o1 : Arv Z h0 o1 k_o1 (.object "java/lang/Object") (1 : Int32) [.null] .null) (Ov_o1 : Ovr Z k_o1 "java/lang/Object") (E_o0 : Exa Z h0 o0 "com/example/callweave/callweave/Frame") (F_locals_o0 : Fld Z h0 o0 "com/example/callweave/callweave/Frame" "locals" "[Ljava/lang/Object;" (.ref o1)) (F_stack_o0 : Fld Z h0 o0 "com/example/callweave/callweave/Frame" "stack" "[Ljava/lang/Object;" (.ref o2)) (F_depth_o0 : Fld Z h0 o0 "com/example/callweave/callweave/Frame" "depth" "I" (.int (1 : Int32))) (V_o2 : Arv Z h0 o2 k_o2 (.object "java/lang/Object") (3 : Int32) [o3, o4, .null] .null) (Ov_o2 : Ovr Z k_o2 "java/lang/Object") :
    Ctr l Z y9 prog_8_method_11_code 2 (some (.object "java/lang/Object")) ({ frames := 0, cells := 0, slots := 0, locals := 0 } : Room) #[(.ref o0), o4] h0 (fun v h L => v = some o4 ∧ L = [] ∧ h = h0) := by
  refine Ctr.body (plainFor_of_name pn_3) ?_
  intro p e s m below meth c T X hx hby hml hown hnm hret hlk hZ eT
  have hml : c.maxLocals = 2 := hml
  have hown : s.vm.findClass "com/example/callweave/callweave/Frame" = some m.cls := hown
  have hnm : meth.name = "word" := hnm
  have hret : meth.sig.returnType = (some (.object "java/lang/Object")) := hret
  refine Run.cast (show entryFrame m #[(.ref o0), o4] 2 = mkF m 0 #[.val (.ref o0), .val o4] [] from by rcases ref_cases hr_o4 with rfl | ⟨_, rfl⟩ <;> first | (simp [entryFrame, mkF, argsToLocals, Value.category]; done) | rfl) ?_
  have wd0 := wd
  obtain ⟨S_w_cache, E_w_cache, S_w_high, B_w_cache⟩ := wd
  have wd := wd0
  have N : Fr Z.heap.size [] := Fr.nil _
  have KK : Keep h0 h0 [] := Keep.refl h0 []
  refine q_aloadN (pc' := 1) X hx (hb hby d_prog_8_method_11_code_0) rfl hr_o4 rfl ?_
  refine Run.retR X hx hlk hret (hb hby d_prog_8_method_11_code_1) rfl hr_o4 (by decide) (by decide) ?_
  try rw [eT]
  exact ⟨rfl, rfl, rfl⟩
set_option maxRecDepth 65536 in
set_option maxHeartbeats 40000000 in
theorem c16_pop {l : Launch} {Z : State} {a0 : Array Value} (hw : ∀ d ∈ tables_1, d.before a0 Z = true) {w_cache : Addr} {cl_w_cache : Cell} (wd : World Z w_cache cl_w_cache) (x0 : Int32) (x1 : Int32) {h0 : Heap} (O : Ext Z.heap h0) {o0 : Addr} {o1 : Addr} {o2 : Addr} {o3 : Value} {o4 : Value} {k_o1 : ClassId} {k_o2 : ClassId} (hr_o4 : o4.isRef = true) (hr_o3 : o3.isRef = true) (B_o3 : Box Z h0 o3 x0) (B_o4 : Box Z h0 o4 x1) (V_o1 : Arv Z h0 o1 k_o1 (.object "java/lang/Object") (1 : Int32) [.null] .null) (Ov_o1 : Ovr Z k_o1 "java/lang/Object") (E_o0 : Exa Z h0 o0 "com/example/callweave/callweave/Frame") (F_locals_o0 : Fld Z h0 o0 "com/example/callweave/callweave/Frame" "locals" "[Ljava/lang/Object;" (.ref o1)) (F_stack_o0 : Fld Z h0 o0 "com/example/callweave/callweave/Frame" "stack" "[Ljava/lang/Object;" (.ref o2)) (F_depth_o0 : Fld Z h0 o0 "com/example/callweave/callweave/Frame" "depth" "I" (.int (2 : Int32))) (V_o2 : Arv Z h0 o2 k_o2 (.object "java/lang/Object") (3 : Int32) [o3, o4, .null] .null) (Ov_o2 : Ovr Z k_o2 "java/lang/Object") (g_o0 : Z.heap.size ≤ o0) (ne_o1_o2 : o1 ≠ o2) (g_o2 : Z.heap.size ≤ o2) :
    Ctr l Z y10 prog_8_method_8_code 2 (some (.object "java/lang/Object")) ({ frames := 1, cells := 0, slots := 0, locals := 13 } : Room) #[(.ref o0)] h0 (fun v h L => v = some o4 ∧ Fr Z.heap.size L ∧ Keep h0 h [o0, o2] ∧ Exa Z h o0 "com/example/callweave/callweave/Frame" ∧ Fld Z h o0 "com/example/callweave/callweave/Frame" "locals" "[Ljava/lang/Object;" (.ref o1) ∧ Fld Z h o0 "com/example/callweave/callweave/Frame" "stack" "[Ljava/lang/Object;" (.ref o2) ∧ Fld Z h o0 "com/example/callweave/callweave/Frame" "depth" "I" (.int (1 : Int32)) ∧ Arv Z h o2 k_o2 (.object "java/lang/Object") (3 : Int32) [o3, .null, .null] .null) := by
  refine Ctr.body (plainFor_of_name pn_3) ?_
  intro p e s m below meth c T X hx hby hml hown hnm hret hlk hZ eT
  have hml : c.maxLocals = 2 := hml
  have hown : s.vm.findClass "com/example/callweave/callweave/Frame" = some m.cls := hown
  have hnm : meth.name = "pop" := hnm
  have hret : meth.sig.returnType = (some (.object "java/lang/Object")) := hret
  refine Run.cast (show entryFrame m #[(.ref o0)] 2 = mkF m 0 #[.val (.ref o0), .unset] [] from by first | (simp [entryFrame, mkF, argsToLocals, Value.category]; done) | rfl) ?_
  have wd0 := wd
  obtain ⟨S_w_cache, E_w_cache, S_w_high, B_w_cache⟩ := wd
  have wd := wd0
  have N : Fr Z.heap.size [] := Fr.nil _
  have KK : Keep h0 h0 [o0, o2] := Keep.refl h0 [o0, o2]
  refine q_aloadN (pc' := 1) X hx (hb hby d_prog_8_method_8_code_0) rfl rfl rfl ?_
  refine q_getF (pc' := 4) X hx hZ hown (hb hby d_prog_8_method_8_code_1) (host := "") (Or.inl (t35 hw)) eT F_depth_o0 rfl ?_
  intro T X eT
  refine q_ifYes (pc' := 17) X hx (hb hby d_prog_8_method_8_code_4) (by decide) (by decide) (by decide) ?_
  refine q_aloadN (pc' := 18) X hx (hb hby d_prog_8_method_8_code_17) rfl rfl rfl ?_
  refine q_aloadN (pc' := 19) X hx (hb hby d_prog_8_method_8_code_18) rfl rfl rfl ?_
  refine q_getF (pc' := 22) X hx hZ hown (hb hby d_prog_8_method_8_code_19) (host := "") (Or.inl (t28 hw)) eT F_stack_o0 rfl ?_
  intro T X eT
  refine q_aloadN (pc' := 23) X hx (hb hby d_prog_8_method_8_code_22) rfl rfl rfl ?_
  refine q_dup (pc' := 24) X hx (hb hby d_prog_8_method_8_code_23) rfl rfl ?_
  refine q_getF (pc' := 27) X hx hZ hown (hb hby d_prog_8_method_8_code_24) (host := "") (Or.inl (t35 hw)) eT F_depth_o0 rfl ?_
  intro T X eT
  refine q_iconst (pc' := 28) (z := (1 : Int32)) X hx (hb hby d_prog_8_method_8_code_27) rfl rfl ?_
  refine q_isub (pc' := 29) (z := (1 : Int32)) X hx (hb hby d_prog_8_method_8_code_28) (by decide) rfl ?_
  refine q_dupX1 (pc' := 30) X hx (hb hby d_prog_8_method_8_code_29) rfl rfl rfl ?_
  refine q_putF (pc' := 33) X hx hZ hown (hb hby d_prog_8_method_8_code_30) (host := "") (Or.inl (t35 hw)) eT F_depth_o0 E_o0 (Or.inl (t36 hw)) (t12 hw) (ty := .int) (by decide) rfl rfl rfl ?_
  intro T h_1 X eT Wx
  have N := Fr.snoc X N g_o0
  have O := ext_wr O Wx g_o0
  have KK := KK.wr Wx (Or.inl (List.mem_of_getElem? (i := 0) rfl))
  have ub_o0 := fun r (E : Exa Z _ r "java/lang/Integer") => (ne_exa E E_o0 (by decide) : r ≠ o0)
  have ub_o0 := fun r (E : Exa Z _ r "java/lang/Integer") => (ne_exa E E_o0 (by decide) : r ≠ o0)
  have ne_o1_o0 : o1 ≠ o0 := Ne.symm (Exa.neArv E_o0 V_o1 (t12 hw))
  have ne_o2_o0 : o2 ≠ o0 := Ne.symm (Exa.neArv E_o0 V_o2 (t12 hw))
  have B_o3 := B_o3.wr Wx ub_o0
  have B_o4 := B_o4.wr Wx ub_o0
  have V_o1 := V_o1.other Wx ne_o1_o0
  have E_o0 := E_o0.wr Wx
  have F_locals_o0 := F_locals_o0.other Wx (Or.inr (slot_ne (Or.inr (t23 hw)) (Or.inl (t36 hw)) (by decide) (t := (.array (.object "java/lang/Object"))) (t' := .int) (by decide) (by decide)))
  have F_stack_o0 := F_stack_o0.other Wx (Or.inr (slot_ne (Or.inr (t29 hw)) (Or.inl (t36 hw)) (by decide) (t := (.array (.object "java/lang/Object"))) (t' := .int) (by decide) (by decide)))
  have F_depth_o0 := F_depth_o0.same Wx
  have V_o2 := V_o2.other Wx ne_o2_o0
  refine q_aald (pc' := 34) (v := o4) X hx hZ (hb hby d_prog_8_method_8_code_33) eT V_o2 rfl ⟨by decide, by decide⟩ rfl rfl ?_
  refine q_callP (pc' := 37) (y := y9) (rest := []) X hx hZ hown (hb hby d_prog_8_method_8_code_34) (t43 hw) (t44 hw) (t45 hw) (t12 hw) (t13 hw) (t46 hw) (by decide) eT E_o0 [o4] (c17_word hw wd (x0) (x1) O hr_o4 hr_o3 B_o3 B_o4 V_o1 Ov_o1 E_o0 F_locals_o0 F_stack_o0 F_depth_o0 V_o2 Ov_o2) (by rw [hml]; rfl) (lenOf pd_8 rfl) (W := 0) rfl (by decide) (by decide) (by decide) (by decide) rfl ?_
  rintro _ T _ X ⟨rfl, rfl, eT⟩
  rw [List.append_nil] at X
  show Run p e below _ (T.setTop (mkF m 37 _ [o4]))
  refine q_astoreN (pc' := 38) (l' := #[.val (.ref o0), .val o4]) X hx (hb hby d_prog_8_method_8_code_37) hr_o4 (by rcases ref_cases hr_o4 with rfl | ⟨_, rfl⟩ <;> rfl) rfl ?_
  refine q_aloadN (pc' := 39) X hx (hb hby d_prog_8_method_8_code_38) rfl rfl rfl ?_
  refine q_getF (pc' := 42) X hx hZ hown (hb hby d_prog_8_method_8_code_39) (host := "") (Or.inl (t28 hw)) eT F_stack_o0 rfl ?_
  intro T X eT
  refine q_aloadN (pc' := 43) X hx (hb hby d_prog_8_method_8_code_42) rfl rfl rfl ?_
  refine q_getF (pc' := 46) X hx hZ hown (hb hby d_prog_8_method_8_code_43) (host := "") (Or.inl (t35 hw)) eT F_depth_o0 rfl ?_
  intro T X eT
  refine q_null (pc' := 47) X hx (hb hby d_prog_8_method_8_code_46) rfl ?_
  refine q_aast (pc' := 48) X hx hZ (hb hby d_prog_8_method_8_code_47) eT V_o2 rfl ⟨by decide, by decide⟩ (i := 1) rfl (Nat.le_of_ble_eq_true rfl) (fun _ _ _ => Or.inl rfl) rfl rfl ?_
  intro T h_2 X eT Wx V_o2'
  have N := Fr.snoc X N g_o2
  have O := ext_wr O Wx g_o2
  have KK := KK.wr Wx (Or.inl (List.mem_of_getElem? (i := 1) rfl))
  have ub_o2 := fun r (E : Exa Z _ r "java/lang/Integer") => (Exa.neArv E V_o2 (t60 hw) : r ≠ o2)
  have ub_o2 := fun r (E : Exa Z _ r "java/lang/Integer") => (Exa.neArv E V_o2 (t60 hw) : r ≠ o2)
  have B_o3 := B_o3.wr Wx ub_o2
  have B_o4 := B_o4.wr Wx ub_o2
  have V_o1 := V_o1.other Wx ne_o1_o2
  have E_o0 := E_o0.wr Wx
  have F_locals_o0 := F_locals_o0.other Wx (Or.inl (Ne.symm ne_o2_o0))
  have F_stack_o0 := F_stack_o0.other Wx (Or.inl (Ne.symm ne_o2_o0))
  have F_depth_o0 := F_depth_o0.other Wx (Or.inl (Ne.symm ne_o2_o0))
  have V_o2 : Arv Z h_2 o2 k_o2 (.object "java/lang/Object") (3 : Int32) [o3, .null, .null] .null := V_o2'
  refine q_aloadN (pc' := 49) X hx (hb hby d_prog_8_method_8_code_48) rfl hr_o4 rfl ?_
  refine Run.retR X hx hlk hret (hb hby d_prog_8_method_8_code_49) rfl hr_o4 (by decide) (by decide) ?_
  try rw [eT]
  exact ⟨rfl, N, KK, E_o0, F_locals_o0, F_stack_o0, F_depth_o0, V_o2⟩
set_option maxRecDepth 65536 in
set_option maxHeartbeats 40000000 in
theorem c18_push {l : Launch} {Z : State} {a0 : Array Value} (hw : ∀ d ∈ tables_1, d.before a0 Z = true) {w_cache : Addr} {cl_w_cache : Cell} (wd : World Z w_cache cl_w_cache) (x0 : Int32) (x1 : Int32) (x2 : Int32) {h0 : Heap} (O : Ext Z.heap h0) {o0 : Addr} {o1 : Addr} {o2 : Addr} {o3 : Value} {o4 : Value} {o5 : Value} {k_o1 : ClassId} {k_o2 : ClassId} (hr_o5 : o5.isRef = true) (hr_o4 : o4.isRef = true) (hr_o3 : o3.isRef = true) (B_o3 : Box Z h0 o3 x0) (B_o4 : Box Z h0 o4 x1) (B_o5 : Box Z h0 o5 x2) (V_o1 : Arv Z h0 o1 k_o1 (.object "java/lang/Object") (1 : Int32) [.null] .null) (Ov_o1 : Ovr Z k_o1 "java/lang/Object") (E_o0 : Exa Z h0 o0 "com/example/callweave/callweave/Frame") (F_locals_o0 : Fld Z h0 o0 "com/example/callweave/callweave/Frame" "locals" "[Ljava/lang/Object;" (.ref o1)) (F_stack_o0 : Fld Z h0 o0 "com/example/callweave/callweave/Frame" "stack" "[Ljava/lang/Object;" (.ref o2)) (F_depth_o0 : Fld Z h0 o0 "com/example/callweave/callweave/Frame" "depth" "I" (.int (2 : Int32))) (V_o2 : Arv Z h0 o2 k_o2 (.object "java/lang/Object") (3 : Int32) [o3, o4, .null] .null) (Ov_o2 : Ovr Z k_o2 "java/lang/Object") (g_o0 : Z.heap.size ≤ o0) (ne_o1_o2 : o1 ≠ o2) (g_o2 : Z.heap.size ≤ o2) :
    Ctr l Z y8 prog_8_method_7_code 2 none ({ frames := 0, cells := 0, slots := 0, locals := 0 } : Room) #[(.ref o0), o5] h0 (fun v h L => v = none ∧ Fr Z.heap.size L ∧ Keep h0 h [o0, o2] ∧ Exa Z h o0 "com/example/callweave/callweave/Frame" ∧ Fld Z h o0 "com/example/callweave/callweave/Frame" "locals" "[Ljava/lang/Object;" (.ref o1) ∧ Fld Z h o0 "com/example/callweave/callweave/Frame" "stack" "[Ljava/lang/Object;" (.ref o2) ∧ Fld Z h o0 "com/example/callweave/callweave/Frame" "depth" "I" (.int (3 : Int32)) ∧ Arv Z h o2 k_o2 (.object "java/lang/Object") (3 : Int32) [o3, o4, o5] .null) := by
  refine Ctr.body (plainFor_of_name pn_3) ?_
  intro p e s m below meth c T X hx hby hml hown hnm hret hlk hZ eT
  have hml : c.maxLocals = 2 := hml
  have hown : s.vm.findClass "com/example/callweave/callweave/Frame" = some m.cls := hown
  have hnm : meth.name = "push" := hnm
  have hret : meth.sig.returnType = none := hret
  refine Run.cast (show entryFrame m #[(.ref o0), o5] 2 = mkF m 0 #[.val (.ref o0), .val o5] [] from by rcases ref_cases hr_o5 with rfl | ⟨_, rfl⟩ <;> first | (simp [entryFrame, mkF, argsToLocals, Value.category]; done) | rfl) ?_
  have wd0 := wd
  obtain ⟨S_w_cache, E_w_cache, S_w_high, B_w_cache⟩ := wd
  have wd := wd0
  have N : Fr Z.heap.size [] := Fr.nil _
  have KK : Keep h0 h0 [o0, o2] := Keep.refl h0 [o0, o2]
  refine q_aloadN (pc' := 1) X hx (hb hby d_prog_8_method_7_code_0) rfl rfl rfl ?_
  refine q_getF (pc' := 4) X hx hZ hown (hb hby d_prog_8_method_7_code_1) (host := "") (Or.inl (t35 hw)) eT F_depth_o0 rfl ?_
  intro T X eT
  refine q_aloadN (pc' := 5) X hx (hb hby d_prog_8_method_7_code_4) rfl rfl rfl ?_
  refine q_getF (pc' := 8) X hx hZ hown (hb hby d_prog_8_method_7_code_5) (host := "") (Or.inl (t28 hw)) eT F_stack_o0 rfl ?_
  intro T X eT
  refine q_len (pc' := 9) X hx hZ (hb hby d_prog_8_method_7_code_8) eT V_o2 rfl ?_
  refine q_icmpYes (pc' := 30) X hx (hb hby d_prog_8_method_7_code_9) (by decide) (by decide) (by decide) ?_
  refine q_aloadN (pc' := 31) X hx (hb hby d_prog_8_method_7_code_30) rfl rfl rfl ?_
  refine q_getF (pc' := 34) X hx hZ hown (hb hby d_prog_8_method_7_code_31) (host := "") (Or.inl (t28 hw)) eT F_stack_o0 rfl ?_
  intro T X eT
  refine q_aloadN (pc' := 35) X hx (hb hby d_prog_8_method_7_code_34) rfl rfl rfl ?_
  refine q_dup (pc' := 36) X hx (hb hby d_prog_8_method_7_code_35) rfl rfl ?_
  refine q_getF (pc' := 39) X hx hZ hown (hb hby d_prog_8_method_7_code_36) (host := "") (Or.inl (t35 hw)) eT F_depth_o0 rfl ?_
  intro T X eT
  refine q_dupX1 (pc' := 40) X hx (hb hby d_prog_8_method_7_code_39) rfl rfl rfl ?_
  refine q_iconst (pc' := 41) (z := (1 : Int32)) X hx (hb hby d_prog_8_method_7_code_40) rfl rfl ?_
  refine q_iadd (pc' := 42) (z := (3 : Int32)) X hx (hb hby d_prog_8_method_7_code_41) (by decide) rfl ?_
  refine q_putF (pc' := 45) X hx hZ hown (hb hby d_prog_8_method_7_code_42) (host := "") (Or.inl (t35 hw)) eT F_depth_o0 E_o0 (Or.inl (t36 hw)) (t12 hw) (ty := .int) (by decide) rfl rfl rfl ?_
  intro T h_1 X eT Wx
  have N := Fr.snoc X N g_o0
  have O := ext_wr O Wx g_o0
  have KK := KK.wr Wx (Or.inl (List.mem_of_getElem? (i := 0) rfl))
  have ub_o0 := fun r (E : Exa Z _ r "java/lang/Integer") => (ne_exa E E_o0 (by decide) : r ≠ o0)
  have ub_o0 := fun r (E : Exa Z _ r "java/lang/Integer") => (ne_exa E E_o0 (by decide) : r ≠ o0)
  have ub_o0 := fun r (E : Exa Z _ r "java/lang/Integer") => (ne_exa E E_o0 (by decide) : r ≠ o0)
  have ne_o1_o0 : o1 ≠ o0 := Ne.symm (Exa.neArv E_o0 V_o1 (t12 hw))
  have ne_o2_o0 : o2 ≠ o0 := Ne.symm (Exa.neArv E_o0 V_o2 (t12 hw))
  have B_o3 := B_o3.wr Wx ub_o0
  have B_o4 := B_o4.wr Wx ub_o0
  have B_o5 := B_o5.wr Wx ub_o0
  have V_o1 := V_o1.other Wx ne_o1_o0
  have E_o0 := E_o0.wr Wx
  have F_locals_o0 := F_locals_o0.other Wx (Or.inr (slot_ne (Or.inr (t23 hw)) (Or.inl (t36 hw)) (by decide) (t := (.array (.object "java/lang/Object"))) (t' := .int) (by decide) (by decide)))
  have F_stack_o0 := F_stack_o0.other Wx (Or.inr (slot_ne (Or.inr (t29 hw)) (Or.inl (t36 hw)) (by decide) (t := (.array (.object "java/lang/Object"))) (t' := .int) (by decide) (by decide)))
  have F_depth_o0 := F_depth_o0.same Wx
  have V_o2 := V_o2.other Wx ne_o2_o0
  refine q_aloadN (pc' := 46) X hx (hb hby d_prog_8_method_7_code_45) rfl hr_o5 rfl ?_
  refine q_aast (pc' := 47) X hx hZ (hb hby d_prog_8_method_7_code_46) eT V_o2 rfl ⟨by decide, by decide⟩ (i := 2) rfl (Nat.le_of_ble_eq_true rfl) (fun _ A q => sto_ins A q Ov_o2 (B_o5.ins (t37 hw))) (fits_isRef rfl hr_o5) rfl ?_
  intro T h_2 X eT Wx V_o2'
  have N := Fr.snoc X N g_o2
  have O := ext_wr O Wx g_o2
  have KK := KK.wr Wx (Or.inl (List.mem_of_getElem? (i := 1) rfl))
  have ub_o2 := fun r (E : Exa Z _ r "java/lang/Integer") => (Exa.neArv E V_o2 (t60 hw) : r ≠ o2)
  have ub_o2 := fun r (E : Exa Z _ r "java/lang/Integer") => (Exa.neArv E V_o2 (t60 hw) : r ≠ o2)
  have ub_o2 := fun r (E : Exa Z _ r "java/lang/Integer") => (Exa.neArv E V_o2 (t60 hw) : r ≠ o2)
  have B_o3 := B_o3.wr Wx ub_o2
  have B_o4 := B_o4.wr Wx ub_o2
  have B_o5 := B_o5.wr Wx ub_o2
  have V_o1 := V_o1.other Wx ne_o1_o2
  have E_o0 := E_o0.wr Wx
  have F_locals_o0 := F_locals_o0.other Wx (Or.inl (Ne.symm ne_o2_o0))
  have F_stack_o0 := F_stack_o0.other Wx (Or.inl (Ne.symm ne_o2_o0))
  have F_depth_o0 := F_depth_o0.other Wx (Or.inl (Ne.symm ne_o2_o0))
  have V_o2 : Arv Z h_2 o2 k_o2 (.object "java/lang/Object") (3 : Int32) [o3, o4, o5] .null := V_o2'
  refine Run.retV X hx hlk hret (hb hby d_prog_8_method_7_code_47) (by decide) (by decide) ?_
  try rw [eT]
  exact ⟨rfl, N, KK, E_o0, F_locals_o0, F_stack_o0, F_depth_o0, V_o2⟩
set_option maxRecDepth 65536 in
set_option maxHeartbeats 40000000 in
theorem c20_word {l : Launch} {Z : State} {a0 : Array Value} (hw : ∀ d ∈ tables_1, d.before a0 Z = true) {w_cache : Addr} {cl_w_cache : Cell} (wd : World Z w_cache cl_w_cache) (x0 : Int32) (x1 : Int32) (x2 : Int32) {h0 : Heap} (O : Ext Z.heap h0) {o0 : Addr} {o1 : Addr} {o2 : Addr} {o3 : Value} {o4 : Value} {o5 : Value} {k_o1 : ClassId} {k_o2 : ClassId} (hr_o5 : o5.isRef = true) (hr_o4 : o4.isRef = true) (hr_o3 : o3.isRef = true) (B_o3 : Box Z h0 o3 x0) (B_o4 : Box Z h0 o4 x1) (B_o5 : Box Z h0 o5 x2) (V_o1 : Arv Z h0 o1 k_o1 (.object "java/lang/Object") (1 : Int32) [.null] .null) (Ov_o1 : Ovr Z k_o1 "java/lang/Object") (E_o0 : Exa Z h0 o0 "com/example/callweave/callweave/Frame") (F_locals_o0 : Fld Z h0 o0 "com/example/callweave/callweave/Frame" "locals" "[Ljava/lang/Object;" (.ref o1)) (F_stack_o0 : Fld Z h0 o0 "com/example/callweave/callweave/Frame" "stack" "[Ljava/lang/Object;" (.ref o2)) (F_depth_o0 : Fld Z h0 o0 "com/example/callweave/callweave/Frame" "depth" "I" (.int (2 : Int32))) (V_o2 : Arv Z h0 o2 k_o2 (.object "java/lang/Object") (3 : Int32) [o3, o4, o5] .null) (Ov_o2 : Ovr Z k_o2 "java/lang/Object") :
    Ctr l Z y9 prog_8_method_11_code 2 (some (.object "java/lang/Object")) ({ frames := 0, cells := 0, slots := 0, locals := 0 } : Room) #[(.ref o0), o5] h0 (fun v h L => v = some o5 ∧ L = [] ∧ h = h0) := by
  refine Ctr.body (plainFor_of_name pn_3) ?_
  intro p e s m below meth c T X hx hby hml hown hnm hret hlk hZ eT
  have hml : c.maxLocals = 2 := hml
  have hown : s.vm.findClass "com/example/callweave/callweave/Frame" = some m.cls := hown
  have hnm : meth.name = "word" := hnm
  have hret : meth.sig.returnType = (some (.object "java/lang/Object")) := hret
  refine Run.cast (show entryFrame m #[(.ref o0), o5] 2 = mkF m 0 #[.val (.ref o0), .val o5] [] from by rcases ref_cases hr_o5 with rfl | ⟨_, rfl⟩ <;> first | (simp [entryFrame, mkF, argsToLocals, Value.category]; done) | rfl) ?_
  have wd0 := wd
  obtain ⟨S_w_cache, E_w_cache, S_w_high, B_w_cache⟩ := wd
  have wd := wd0
  have N : Fr Z.heap.size [] := Fr.nil _
  have KK : Keep h0 h0 [] := Keep.refl h0 []
  refine q_aloadN (pc' := 1) X hx (hb hby d_prog_8_method_11_code_0) rfl hr_o5 rfl ?_
  refine Run.retR X hx hlk hret (hb hby d_prog_8_method_11_code_1) rfl hr_o5 (by decide) (by decide) ?_
  try rw [eT]
  exact ⟨rfl, rfl, rfl⟩
set_option maxRecDepth 65536 in
set_option maxHeartbeats 40000000 in
theorem c19_pop {l : Launch} {Z : State} {a0 : Array Value} (hw : ∀ d ∈ tables_1, d.before a0 Z = true) {w_cache : Addr} {cl_w_cache : Cell} (wd : World Z w_cache cl_w_cache) (x0 : Int32) (x1 : Int32) (x2 : Int32) {h0 : Heap} (O : Ext Z.heap h0) {o0 : Addr} {o1 : Addr} {o2 : Addr} {o3 : Value} {o4 : Value} {o5 : Value} {k_o1 : ClassId} {k_o2 : ClassId} (hr_o5 : o5.isRef = true) (hr_o4 : o4.isRef = true) (hr_o3 : o3.isRef = true) (B_o3 : Box Z h0 o3 x0) (B_o4 : Box Z h0 o4 x1) (B_o5 : Box Z h0 o5 x2) (V_o1 : Arv Z h0 o1 k_o1 (.object "java/lang/Object") (1 : Int32) [.null] .null) (Ov_o1 : Ovr Z k_o1 "java/lang/Object") (E_o0 : Exa Z h0 o0 "com/example/callweave/callweave/Frame") (F_locals_o0 : Fld Z h0 o0 "com/example/callweave/callweave/Frame" "locals" "[Ljava/lang/Object;" (.ref o1)) (F_stack_o0 : Fld Z h0 o0 "com/example/callweave/callweave/Frame" "stack" "[Ljava/lang/Object;" (.ref o2)) (F_depth_o0 : Fld Z h0 o0 "com/example/callweave/callweave/Frame" "depth" "I" (.int (3 : Int32))) (V_o2 : Arv Z h0 o2 k_o2 (.object "java/lang/Object") (3 : Int32) [o3, o4, o5] .null) (Ov_o2 : Ovr Z k_o2 "java/lang/Object") (g_o0 : Z.heap.size ≤ o0) (ne_o1_o2 : o1 ≠ o2) (g_o2 : Z.heap.size ≤ o2) :
    Ctr l Z y10 prog_8_method_8_code 2 (some (.object "java/lang/Object")) ({ frames := 1, cells := 0, slots := 0, locals := 13 } : Room) #[(.ref o0)] h0 (fun v h L => v = some o5 ∧ Fr Z.heap.size L ∧ Keep h0 h [o0, o2] ∧ Exa Z h o0 "com/example/callweave/callweave/Frame" ∧ Fld Z h o0 "com/example/callweave/callweave/Frame" "locals" "[Ljava/lang/Object;" (.ref o1) ∧ Fld Z h o0 "com/example/callweave/callweave/Frame" "stack" "[Ljava/lang/Object;" (.ref o2) ∧ Fld Z h o0 "com/example/callweave/callweave/Frame" "depth" "I" (.int (2 : Int32)) ∧ Arv Z h o2 k_o2 (.object "java/lang/Object") (3 : Int32) [o3, o4, .null] .null) := by
  refine Ctr.body (plainFor_of_name pn_3) ?_
  intro p e s m below meth c T X hx hby hml hown hnm hret hlk hZ eT
  have hml : c.maxLocals = 2 := hml
  have hown : s.vm.findClass "com/example/callweave/callweave/Frame" = some m.cls := hown
  have hnm : meth.name = "pop" := hnm
  have hret : meth.sig.returnType = (some (.object "java/lang/Object")) := hret
  refine Run.cast (show entryFrame m #[(.ref o0)] 2 = mkF m 0 #[.val (.ref o0), .unset] [] from by first | (simp [entryFrame, mkF, argsToLocals, Value.category]; done) | rfl) ?_
  have wd0 := wd
  obtain ⟨S_w_cache, E_w_cache, S_w_high, B_w_cache⟩ := wd
  have wd := wd0
  have N : Fr Z.heap.size [] := Fr.nil _
  have KK : Keep h0 h0 [o0, o2] := Keep.refl h0 [o0, o2]
  refine q_aloadN (pc' := 1) X hx (hb hby d_prog_8_method_8_code_0) rfl rfl rfl ?_
  refine q_getF (pc' := 4) X hx hZ hown (hb hby d_prog_8_method_8_code_1) (host := "") (Or.inl (t35 hw)) eT F_depth_o0 rfl ?_
  intro T X eT
  refine q_ifYes (pc' := 17) X hx (hb hby d_prog_8_method_8_code_4) (by decide) (by decide) (by decide) ?_
  refine q_aloadN (pc' := 18) X hx (hb hby d_prog_8_method_8_code_17) rfl rfl rfl ?_
  refine q_aloadN (pc' := 19) X hx (hb hby d_prog_8_method_8_code_18) rfl rfl rfl ?_
  refine q_getF (pc' := 22) X hx hZ hown (hb hby d_prog_8_method_8_code_19) (host := "") (Or.inl (t28 hw)) eT F_stack_o0 rfl ?_
  intro T X eT
  refine q_aloadN (pc' := 23) X hx (hb hby d_prog_8_method_8_code_22) rfl rfl rfl ?_
  refine q_dup (pc' := 24) X hx (hb hby d_prog_8_method_8_code_23) rfl rfl ?_
  refine q_getF (pc' := 27) X hx hZ hown (hb hby d_prog_8_method_8_code_24) (host := "") (Or.inl (t35 hw)) eT F_depth_o0 rfl ?_
  intro T X eT
  refine q_iconst (pc' := 28) (z := (1 : Int32)) X hx (hb hby d_prog_8_method_8_code_27) rfl rfl ?_
  refine q_isub (pc' := 29) (z := (2 : Int32)) X hx (hb hby d_prog_8_method_8_code_28) (by decide) rfl ?_
  refine q_dupX1 (pc' := 30) X hx (hb hby d_prog_8_method_8_code_29) rfl rfl rfl ?_
  refine q_putF (pc' := 33) X hx hZ hown (hb hby d_prog_8_method_8_code_30) (host := "") (Or.inl (t35 hw)) eT F_depth_o0 E_o0 (Or.inl (t36 hw)) (t12 hw) (ty := .int) (by decide) rfl rfl rfl ?_
  intro T h_1 X eT Wx
  have N := Fr.snoc X N g_o0
  have O := ext_wr O Wx g_o0
  have KK := KK.wr Wx (Or.inl (List.mem_of_getElem? (i := 0) rfl))
  have ub_o0 := fun r (E : Exa Z _ r "java/lang/Integer") => (ne_exa E E_o0 (by decide) : r ≠ o0)
  have ub_o0 := fun r (E : Exa Z _ r "java/lang/Integer") => (ne_exa E E_o0 (by decide) : r ≠ o0)
  have ub_o0 := fun r (E : Exa Z _ r "java/lang/Integer") => (ne_exa E E_o0 (by decide) : r ≠ o0)
  have ne_o1_o0 : o1 ≠ o0 := Ne.symm (Exa.neArv E_o0 V_o1 (t12 hw))
  have ne_o2_o0 : o2 ≠ o0 := Ne.symm (Exa.neArv E_o0 V_o2 (t12 hw))
  have B_o3 := B_o3.wr Wx ub_o0
  have B_o4 := B_o4.wr Wx ub_o0
  have B_o5 := B_o5.wr Wx ub_o0
  have V_o1 := V_o1.other Wx ne_o1_o0
  have E_o0 := E_o0.wr Wx
  have F_locals_o0 := F_locals_o0.other Wx (Or.inr (slot_ne (Or.inr (t23 hw)) (Or.inl (t36 hw)) (by decide) (t := (.array (.object "java/lang/Object"))) (t' := .int) (by decide) (by decide)))
  have F_stack_o0 := F_stack_o0.other Wx (Or.inr (slot_ne (Or.inr (t29 hw)) (Or.inl (t36 hw)) (by decide) (t := (.array (.object "java/lang/Object"))) (t' := .int) (by decide) (by decide)))
  have F_depth_o0 := F_depth_o0.same Wx
  have V_o2 := V_o2.other Wx ne_o2_o0
  refine q_aald (pc' := 34) (v := o5) X hx hZ (hb hby d_prog_8_method_8_code_33) eT V_o2 rfl ⟨by decide, by decide⟩ rfl rfl ?_
  refine q_callP (pc' := 37) (y := y9) (rest := []) X hx hZ hown (hb hby d_prog_8_method_8_code_34) (t43 hw) (t44 hw) (t45 hw) (t12 hw) (t13 hw) (t46 hw) (by decide) eT E_o0 [o5] (c20_word hw wd (x0) (x1) (x2) O hr_o5 hr_o4 hr_o3 B_o3 B_o4 B_o5 V_o1 Ov_o1 E_o0 F_locals_o0 F_stack_o0 F_depth_o0 V_o2 Ov_o2) (by rw [hml]; rfl) (lenOf pd_8 rfl) (W := 0) rfl (by decide) (by decide) (by decide) (by decide) rfl ?_
  rintro _ T _ X ⟨rfl, rfl, eT⟩
  rw [List.append_nil] at X
  show Run p e below _ (T.setTop (mkF m 37 _ [o5]))
  refine q_astoreN (pc' := 38) (l' := #[.val (.ref o0), .val o5]) X hx (hb hby d_prog_8_method_8_code_37) hr_o5 (by rcases ref_cases hr_o5 with rfl | ⟨_, rfl⟩ <;> rfl) rfl ?_
  refine q_aloadN (pc' := 39) X hx (hb hby d_prog_8_method_8_code_38) rfl rfl rfl ?_
  refine q_getF (pc' := 42) X hx hZ hown (hb hby d_prog_8_method_8_code_39) (host := "") (Or.inl (t28 hw)) eT F_stack_o0 rfl ?_
  intro T X eT
  refine q_aloadN (pc' := 43) X hx (hb hby d_prog_8_method_8_code_42) rfl rfl rfl ?_
  refine q_getF (pc' := 46) X hx hZ hown (hb hby d_prog_8_method_8_code_43) (host := "") (Or.inl (t35 hw)) eT F_depth_o0 rfl ?_
  intro T X eT
  refine q_null (pc' := 47) X hx (hb hby d_prog_8_method_8_code_46) rfl ?_
  refine q_aast (pc' := 48) X hx hZ (hb hby d_prog_8_method_8_code_47) eT V_o2 rfl ⟨by decide, by decide⟩ (i := 2) rfl (Nat.le_of_ble_eq_true rfl) (fun _ _ _ => Or.inl rfl) rfl rfl ?_
  intro T h_2 X eT Wx V_o2'
  have N := Fr.snoc X N g_o2
  have O := ext_wr O Wx g_o2
  have KK := KK.wr Wx (Or.inl (List.mem_of_getElem? (i := 1) rfl))
  have ub_o2 := fun r (E : Exa Z _ r "java/lang/Integer") => (Exa.neArv E V_o2 (t60 hw) : r ≠ o2)
  have ub_o2 := fun r (E : Exa Z _ r "java/lang/Integer") => (Exa.neArv E V_o2 (t60 hw) : r ≠ o2)
  have ub_o2 := fun r (E : Exa Z _ r "java/lang/Integer") => (Exa.neArv E V_o2 (t60 hw) : r ≠ o2)
  have B_o3 := B_o3.wr Wx ub_o2
  have B_o4 := B_o4.wr Wx ub_o2
  have B_o5 := B_o5.wr Wx ub_o2
  have V_o1 := V_o1.other Wx ne_o1_o2
  have E_o0 := E_o0.wr Wx
  have F_locals_o0 := F_locals_o0.other Wx (Or.inl (Ne.symm ne_o2_o0))
  have F_stack_o0 := F_stack_o0.other Wx (Or.inl (Ne.symm ne_o2_o0))
  have F_depth_o0 := F_depth_o0.other Wx (Or.inl (Ne.symm ne_o2_o0))
  have V_o2 : Arv Z h_2 o2 k_o2 (.object "java/lang/Object") (3 : Int32) [o3, o4, .null] .null := V_o2'
  refine q_aloadN (pc' := 49) X hx (hb hby d_prog_8_method_8_code_48) rfl hr_o5 rfl ?_
  refine Run.retR X hx hlk hret (hb hby d_prog_8_method_8_code_49) rfl hr_o5 (by decide) (by decide) ?_
  try rw [eT]
  exact ⟨rfl, N, KK, E_o0, F_locals_o0, F_stack_o0, F_depth_o0, V_o2⟩
set_option maxRecDepth 65536 in
set_option maxHeartbeats 40000000 in
theorem c21_push {l : Launch} {Z : State} {a0 : Array Value} (hw : ∀ d ∈ tables_1, d.before a0 Z = true) {w_cache : Addr} {cl_w_cache : Cell} (wd : World Z w_cache cl_w_cache) (x0 : Int32) (x1 : Int32) (x2 : Int32) {h0 : Heap} (O : Ext Z.heap h0) {o0 : Addr} {o1 : Addr} {o2 : Addr} {o3 : Value} {o4 : Value} {o5 : Value} {k_o1 : ClassId} {k_o2 : ClassId} (hr_o5 : o5.isRef = true) (hr_o4 : o4.isRef = true) (hr_o3 : o3.isRef = true) (B_o3 : Box Z h0 o3 x0) (B_o4 : Box Z h0 o4 x1) (B_o5 : Box Z h0 o5 x2) (V_o1 : Arv Z h0 o1 k_o1 (.object "java/lang/Object") (1 : Int32) [.null] .null) (Ov_o1 : Ovr Z k_o1 "java/lang/Object") (E_o0 : Exa Z h0 o0 "com/example/callweave/callweave/Frame") (F_locals_o0 : Fld Z h0 o0 "com/example/callweave/callweave/Frame" "locals" "[Ljava/lang/Object;" (.ref o1)) (F_stack_o0 : Fld Z h0 o0 "com/example/callweave/callweave/Frame" "stack" "[Ljava/lang/Object;" (.ref o2)) (F_depth_o0 : Fld Z h0 o0 "com/example/callweave/callweave/Frame" "depth" "I" (.int (2 : Int32))) (V_o2 : Arv Z h0 o2 k_o2 (.object "java/lang/Object") (3 : Int32) [o3, o4, .null] .null) (Ov_o2 : Ovr Z k_o2 "java/lang/Object") (g_o0 : Z.heap.size ≤ o0) (ne_o1_o2 : o1 ≠ o2) (g_o2 : Z.heap.size ≤ o2) :
    Ctr l Z y8 prog_8_method_7_code 2 none ({ frames := 0, cells := 0, slots := 0, locals := 0 } : Room) #[(.ref o0), o5] h0 (fun v h L => v = none ∧ Fr Z.heap.size L ∧ Keep h0 h [o0, o2] ∧ Exa Z h o0 "com/example/callweave/callweave/Frame" ∧ Fld Z h o0 "com/example/callweave/callweave/Frame" "locals" "[Ljava/lang/Object;" (.ref o1) ∧ Fld Z h o0 "com/example/callweave/callweave/Frame" "stack" "[Ljava/lang/Object;" (.ref o2) ∧ Fld Z h o0 "com/example/callweave/callweave/Frame" "depth" "I" (.int (3 : Int32)) ∧ Arv Z h o2 k_o2 (.object "java/lang/Object") (3 : Int32) [o3, o4, o5] .null) := by
  refine Ctr.body (plainFor_of_name pn_3) ?_
  intro p e s m below meth c T X hx hby hml hown hnm hret hlk hZ eT
  have hml : c.maxLocals = 2 := hml
  have hown : s.vm.findClass "com/example/callweave/callweave/Frame" = some m.cls := hown
  have hnm : meth.name = "push" := hnm
  have hret : meth.sig.returnType = none := hret
  refine Run.cast (show entryFrame m #[(.ref o0), o5] 2 = mkF m 0 #[.val (.ref o0), .val o5] [] from by rcases ref_cases hr_o5 with rfl | ⟨_, rfl⟩ <;> first | (simp [entryFrame, mkF, argsToLocals, Value.category]; done) | rfl) ?_
  have wd0 := wd
  obtain ⟨S_w_cache, E_w_cache, S_w_high, B_w_cache⟩ := wd
  have wd := wd0
  have N : Fr Z.heap.size [] := Fr.nil _
  have KK : Keep h0 h0 [o0, o2] := Keep.refl h0 [o0, o2]
  refine q_aloadN (pc' := 1) X hx (hb hby d_prog_8_method_7_code_0) rfl rfl rfl ?_
  refine q_getF (pc' := 4) X hx hZ hown (hb hby d_prog_8_method_7_code_1) (host := "") (Or.inl (t35 hw)) eT F_depth_o0 rfl ?_
  intro T X eT
  refine q_aloadN (pc' := 5) X hx (hb hby d_prog_8_method_7_code_4) rfl rfl rfl ?_
  refine q_getF (pc' := 8) X hx hZ hown (hb hby d_prog_8_method_7_code_5) (host := "") (Or.inl (t28 hw)) eT F_stack_o0 rfl ?_
  intro T X eT
  refine q_len (pc' := 9) X hx hZ (hb hby d_prog_8_method_7_code_8) eT V_o2 rfl ?_
  refine q_icmpYes (pc' := 30) X hx (hb hby d_prog_8_method_7_code_9) (by decide) (by decide) (by decide) ?_
  refine q_aloadN (pc' := 31) X hx (hb hby d_prog_8_method_7_code_30) rfl rfl rfl ?_
  refine q_getF (pc' := 34) X hx hZ hown (hb hby d_prog_8_method_7_code_31) (host := "") (Or.inl (t28 hw)) eT F_stack_o0 rfl ?_
  intro T X eT
  refine q_aloadN (pc' := 35) X hx (hb hby d_prog_8_method_7_code_34) rfl rfl rfl ?_
  refine q_dup (pc' := 36) X hx (hb hby d_prog_8_method_7_code_35) rfl rfl ?_
  refine q_getF (pc' := 39) X hx hZ hown (hb hby d_prog_8_method_7_code_36) (host := "") (Or.inl (t35 hw)) eT F_depth_o0 rfl ?_
  intro T X eT
  refine q_dupX1 (pc' := 40) X hx (hb hby d_prog_8_method_7_code_39) rfl rfl rfl ?_
  refine q_iconst (pc' := 41) (z := (1 : Int32)) X hx (hb hby d_prog_8_method_7_code_40) rfl rfl ?_
  refine q_iadd (pc' := 42) (z := (3 : Int32)) X hx (hb hby d_prog_8_method_7_code_41) (by decide) rfl ?_
  refine q_putF (pc' := 45) X hx hZ hown (hb hby d_prog_8_method_7_code_42) (host := "") (Or.inl (t35 hw)) eT F_depth_o0 E_o0 (Or.inl (t36 hw)) (t12 hw) (ty := .int) (by decide) rfl rfl rfl ?_
  intro T h_1 X eT Wx
  have N := Fr.snoc X N g_o0
  have O := ext_wr O Wx g_o0
  have KK := KK.wr Wx (Or.inl (List.mem_of_getElem? (i := 0) rfl))
  have ub_o0 := fun r (E : Exa Z _ r "java/lang/Integer") => (ne_exa E E_o0 (by decide) : r ≠ o0)
  have ub_o0 := fun r (E : Exa Z _ r "java/lang/Integer") => (ne_exa E E_o0 (by decide) : r ≠ o0)
  have ub_o0 := fun r (E : Exa Z _ r "java/lang/Integer") => (ne_exa E E_o0 (by decide) : r ≠ o0)
  have ne_o1_o0 : o1 ≠ o0 := Ne.symm (Exa.neArv E_o0 V_o1 (t12 hw))
  have ne_o2_o0 : o2 ≠ o0 := Ne.symm (Exa.neArv E_o0 V_o2 (t12 hw))
  have B_o3 := B_o3.wr Wx ub_o0
  have B_o4 := B_o4.wr Wx ub_o0
  have B_o5 := B_o5.wr Wx ub_o0
  have V_o1 := V_o1.other Wx ne_o1_o0
  have E_o0 := E_o0.wr Wx
  have F_locals_o0 := F_locals_o0.other Wx (Or.inr (slot_ne (Or.inr (t23 hw)) (Or.inl (t36 hw)) (by decide) (t := (.array (.object "java/lang/Object"))) (t' := .int) (by decide) (by decide)))
  have F_stack_o0 := F_stack_o0.other Wx (Or.inr (slot_ne (Or.inr (t29 hw)) (Or.inl (t36 hw)) (by decide) (t := (.array (.object "java/lang/Object"))) (t' := .int) (by decide) (by decide)))
  have F_depth_o0 := F_depth_o0.same Wx
  have V_o2 := V_o2.other Wx ne_o2_o0
  refine q_aloadN (pc' := 46) X hx (hb hby d_prog_8_method_7_code_45) rfl hr_o5 rfl ?_
  refine q_aast (pc' := 47) X hx hZ (hb hby d_prog_8_method_7_code_46) eT V_o2 rfl ⟨by decide, by decide⟩ (i := 2) rfl (Nat.le_of_ble_eq_true rfl) (fun _ A q => sto_ins A q Ov_o2 (B_o5.ins (t37 hw))) (fits_isRef rfl hr_o5) rfl ?_
  intro T h_2 X eT Wx V_o2'
  have N := Fr.snoc X N g_o2
  have O := ext_wr O Wx g_o2
  have KK := KK.wr Wx (Or.inl (List.mem_of_getElem? (i := 1) rfl))
  have ub_o2 := fun r (E : Exa Z _ r "java/lang/Integer") => (Exa.neArv E V_o2 (t60 hw) : r ≠ o2)
  have ub_o2 := fun r (E : Exa Z _ r "java/lang/Integer") => (Exa.neArv E V_o2 (t60 hw) : r ≠ o2)
  have ub_o2 := fun r (E : Exa Z _ r "java/lang/Integer") => (Exa.neArv E V_o2 (t60 hw) : r ≠ o2)
  have B_o3 := B_o3.wr Wx ub_o2
  have B_o4 := B_o4.wr Wx ub_o2
  have B_o5 := B_o5.wr Wx ub_o2
  have V_o1 := V_o1.other Wx ne_o1_o2
  have E_o0 := E_o0.wr Wx
  have F_locals_o0 := F_locals_o0.other Wx (Or.inl (Ne.symm ne_o2_o0))
  have F_stack_o0 := F_stack_o0.other Wx (Or.inl (Ne.symm ne_o2_o0))
  have F_depth_o0 := F_depth_o0.other Wx (Or.inl (Ne.symm ne_o2_o0))
  have V_o2 : Arv Z h_2 o2 k_o2 (.object "java/lang/Object") (3 : Int32) [o3, o4, o5] .null := V_o2'
  refine Run.retV X hx hlk hret (hb hby d_prog_8_method_7_code_47) (by decide) (by decide) ?_
  try rw [eT]
  exact ⟨rfl, N, KK, E_o0, F_locals_o0, F_stack_o0, F_depth_o0, V_o2⟩
set_option maxRecDepth 65536 in
set_option maxHeartbeats 40000000 in
theorem c23_word {l : Launch} {Z : State} {a0 : Array Value} (hw : ∀ d ∈ tables_1, d.before a0 Z = true) {w_cache : Addr} {cl_w_cache : Cell} (wd : World Z w_cache cl_w_cache) (x0 : Int32) (x1 : Int32) (x2 : Int32) {h0 : Heap} (O : Ext Z.heap h0) {o0 : Addr} {o1 : Addr} {o2 : Addr} {o3 : Value} {o4 : Value} {o5 : Value} {k_o1 : ClassId} {k_o2 : ClassId} (hr_o5 : o5.isRef = true) (hr_o4 : o4.isRef = true) (hr_o3 : o3.isRef = true) (B_o3 : Box Z h0 o3 x0) (B_o4 : Box Z h0 o4 x1) (B_o5 : Box Z h0 o5 x2) (V_o1 : Arv Z h0 o1 k_o1 (.object "java/lang/Object") (1 : Int32) [.null] .null) (Ov_o1 : Ovr Z k_o1 "java/lang/Object") (E_o0 : Exa Z h0 o0 "com/example/callweave/callweave/Frame") (F_locals_o0 : Fld Z h0 o0 "com/example/callweave/callweave/Frame" "locals" "[Ljava/lang/Object;" (.ref o1)) (F_stack_o0 : Fld Z h0 o0 "com/example/callweave/callweave/Frame" "stack" "[Ljava/lang/Object;" (.ref o2)) (F_depth_o0 : Fld Z h0 o0 "com/example/callweave/callweave/Frame" "depth" "I" (.int (2 : Int32))) (V_o2 : Arv Z h0 o2 k_o2 (.object "java/lang/Object") (3 : Int32) [o3, o4, o5] .null) (Ov_o2 : Ovr Z k_o2 "java/lang/Object") :
    Ctr l Z y9 prog_8_method_11_code 2 (some (.object "java/lang/Object")) ({ frames := 0, cells := 0, slots := 0, locals := 0 } : Room) #[(.ref o0), o5] h0 (fun v h L => v = some o5 ∧ L = [] ∧ h = h0) := by
  refine Ctr.body (plainFor_of_name pn_3) ?_
  intro p e s m below meth c T X hx hby hml hown hnm hret hlk hZ eT
  have hml : c.maxLocals = 2 := hml
  have hown : s.vm.findClass "com/example/callweave/callweave/Frame" = some m.cls := hown
  have hnm : meth.name = "word" := hnm
  have hret : meth.sig.returnType = (some (.object "java/lang/Object")) := hret
  refine Run.cast (show entryFrame m #[(.ref o0), o5] 2 = mkF m 0 #[.val (.ref o0), .val o5] [] from by rcases ref_cases hr_o5 with rfl | ⟨_, rfl⟩ <;> first | (simp [entryFrame, mkF, argsToLocals, Value.category]; done) | rfl) ?_
  have wd0 := wd
  obtain ⟨S_w_cache, E_w_cache, S_w_high, B_w_cache⟩ := wd
  have wd := wd0
  have N : Fr Z.heap.size [] := Fr.nil _
  have KK : Keep h0 h0 [] := Keep.refl h0 []
  refine q_aloadN (pc' := 1) X hx (hb hby d_prog_8_method_11_code_0) rfl hr_o5 rfl ?_
  refine Run.retR X hx hlk hret (hb hby d_prog_8_method_11_code_1) rfl hr_o5 (by decide) (by decide) ?_
  try rw [eT]
  exact ⟨rfl, rfl, rfl⟩
set_option maxRecDepth 65536 in
set_option maxHeartbeats 40000000 in
theorem c22_pop {l : Launch} {Z : State} {a0 : Array Value} (hw : ∀ d ∈ tables_1, d.before a0 Z = true) {w_cache : Addr} {cl_w_cache : Cell} (wd : World Z w_cache cl_w_cache) (x0 : Int32) (x1 : Int32) (x2 : Int32) {h0 : Heap} (O : Ext Z.heap h0) {o0 : Addr} {o1 : Addr} {o2 : Addr} {o3 : Value} {o4 : Value} {o5 : Value} {k_o1 : ClassId} {k_o2 : ClassId} (hr_o5 : o5.isRef = true) (hr_o4 : o4.isRef = true) (hr_o3 : o3.isRef = true) (B_o3 : Box Z h0 o3 x0) (B_o4 : Box Z h0 o4 x1) (B_o5 : Box Z h0 o5 x2) (V_o1 : Arv Z h0 o1 k_o1 (.object "java/lang/Object") (1 : Int32) [.null] .null) (Ov_o1 : Ovr Z k_o1 "java/lang/Object") (E_o0 : Exa Z h0 o0 "com/example/callweave/callweave/Frame") (F_locals_o0 : Fld Z h0 o0 "com/example/callweave/callweave/Frame" "locals" "[Ljava/lang/Object;" (.ref o1)) (F_stack_o0 : Fld Z h0 o0 "com/example/callweave/callweave/Frame" "stack" "[Ljava/lang/Object;" (.ref o2)) (F_depth_o0 : Fld Z h0 o0 "com/example/callweave/callweave/Frame" "depth" "I" (.int (3 : Int32))) (V_o2 : Arv Z h0 o2 k_o2 (.object "java/lang/Object") (3 : Int32) [o3, o4, o5] .null) (Ov_o2 : Ovr Z k_o2 "java/lang/Object") (g_o0 : Z.heap.size ≤ o0) (ne_o1_o2 : o1 ≠ o2) (g_o2 : Z.heap.size ≤ o2) :
    Ctr l Z y10 prog_8_method_8_code 2 (some (.object "java/lang/Object")) ({ frames := 1, cells := 0, slots := 0, locals := 13 } : Room) #[(.ref o0)] h0 (fun v h L => v = some o5 ∧ Fr Z.heap.size L ∧ Keep h0 h [o0, o2] ∧ Exa Z h o0 "com/example/callweave/callweave/Frame" ∧ Fld Z h o0 "com/example/callweave/callweave/Frame" "locals" "[Ljava/lang/Object;" (.ref o1) ∧ Fld Z h o0 "com/example/callweave/callweave/Frame" "stack" "[Ljava/lang/Object;" (.ref o2) ∧ Fld Z h o0 "com/example/callweave/callweave/Frame" "depth" "I" (.int (2 : Int32)) ∧ Arv Z h o2 k_o2 (.object "java/lang/Object") (3 : Int32) [o3, o4, .null] .null) := by
  refine Ctr.body (plainFor_of_name pn_3) ?_
  intro p e s m below meth c T X hx hby hml hown hnm hret hlk hZ eT
  have hml : c.maxLocals = 2 := hml
  have hown : s.vm.findClass "com/example/callweave/callweave/Frame" = some m.cls := hown
  have hnm : meth.name = "pop" := hnm
  have hret : meth.sig.returnType = (some (.object "java/lang/Object")) := hret
  refine Run.cast (show entryFrame m #[(.ref o0)] 2 = mkF m 0 #[.val (.ref o0), .unset] [] from by first | (simp [entryFrame, mkF, argsToLocals, Value.category]; done) | rfl) ?_
  have wd0 := wd
  obtain ⟨S_w_cache, E_w_cache, S_w_high, B_w_cache⟩ := wd
  have wd := wd0
  have N : Fr Z.heap.size [] := Fr.nil _
  have KK : Keep h0 h0 [o0, o2] := Keep.refl h0 [o0, o2]
  refine q_aloadN (pc' := 1) X hx (hb hby d_prog_8_method_8_code_0) rfl rfl rfl ?_
  refine q_getF (pc' := 4) X hx hZ hown (hb hby d_prog_8_method_8_code_1) (host := "") (Or.inl (t35 hw)) eT F_depth_o0 rfl ?_
  intro T X eT
  refine q_ifYes (pc' := 17) X hx (hb hby d_prog_8_method_8_code_4) (by decide) (by decide) (by decide) ?_
  refine q_aloadN (pc' := 18) X hx (hb hby d_prog_8_method_8_code_17) rfl rfl rfl ?_
  refine q_aloadN (pc' := 19) X hx (hb hby d_prog_8_method_8_code_18) rfl rfl rfl ?_
  refine q_getF (pc' := 22) X hx hZ hown (hb hby d_prog_8_method_8_code_19) (host := "") (Or.inl (t28 hw)) eT F_stack_o0 rfl ?_
  intro T X eT
  refine q_aloadN (pc' := 23) X hx (hb hby d_prog_8_method_8_code_22) rfl rfl rfl ?_
  refine q_dup (pc' := 24) X hx (hb hby d_prog_8_method_8_code_23) rfl rfl ?_
  refine q_getF (pc' := 27) X hx hZ hown (hb hby d_prog_8_method_8_code_24) (host := "") (Or.inl (t35 hw)) eT F_depth_o0 rfl ?_
  intro T X eT
  refine q_iconst (pc' := 28) (z := (1 : Int32)) X hx (hb hby d_prog_8_method_8_code_27) rfl rfl ?_
  refine q_isub (pc' := 29) (z := (2 : Int32)) X hx (hb hby d_prog_8_method_8_code_28) (by decide) rfl ?_
  refine q_dupX1 (pc' := 30) X hx (hb hby d_prog_8_method_8_code_29) rfl rfl rfl ?_
  refine q_putF (pc' := 33) X hx hZ hown (hb hby d_prog_8_method_8_code_30) (host := "") (Or.inl (t35 hw)) eT F_depth_o0 E_o0 (Or.inl (t36 hw)) (t12 hw) (ty := .int) (by decide) rfl rfl rfl ?_
  intro T h_1 X eT Wx
  have N := Fr.snoc X N g_o0
  have O := ext_wr O Wx g_o0
  have KK := KK.wr Wx (Or.inl (List.mem_of_getElem? (i := 0) rfl))
  have ub_o0 := fun r (E : Exa Z _ r "java/lang/Integer") => (ne_exa E E_o0 (by decide) : r ≠ o0)
  have ub_o0 := fun r (E : Exa Z _ r "java/lang/Integer") => (ne_exa E E_o0 (by decide) : r ≠ o0)
  have ub_o0 := fun r (E : Exa Z _ r "java/lang/Integer") => (ne_exa E E_o0 (by decide) : r ≠ o0)
  have ne_o1_o0 : o1 ≠ o0 := Ne.symm (Exa.neArv E_o0 V_o1 (t12 hw))
  have ne_o2_o0 : o2 ≠ o0 := Ne.symm (Exa.neArv E_o0 V_o2 (t12 hw))
  have B_o3 := B_o3.wr Wx ub_o0
  have B_o4 := B_o4.wr Wx ub_o0
  have B_o5 := B_o5.wr Wx ub_o0
  have V_o1 := V_o1.other Wx ne_o1_o0
  have E_o0 := E_o0.wr Wx
  have F_locals_o0 := F_locals_o0.other Wx (Or.inr (slot_ne (Or.inr (t23 hw)) (Or.inl (t36 hw)) (by decide) (t := (.array (.object "java/lang/Object"))) (t' := .int) (by decide) (by decide)))
  have F_stack_o0 := F_stack_o0.other Wx (Or.inr (slot_ne (Or.inr (t29 hw)) (Or.inl (t36 hw)) (by decide) (t := (.array (.object "java/lang/Object"))) (t' := .int) (by decide) (by decide)))
  have F_depth_o0 := F_depth_o0.same Wx
  have V_o2 := V_o2.other Wx ne_o2_o0
  refine q_aald (pc' := 34) (v := o5) X hx hZ (hb hby d_prog_8_method_8_code_33) eT V_o2 rfl ⟨by decide, by decide⟩ rfl rfl ?_
  refine q_callP (pc' := 37) (y := y9) (rest := []) X hx hZ hown (hb hby d_prog_8_method_8_code_34) (t43 hw) (t44 hw) (t45 hw) (t12 hw) (t13 hw) (t46 hw) (by decide) eT E_o0 [o5] (c23_word hw wd (x0) (x1) (x2) O hr_o5 hr_o4 hr_o3 B_o3 B_o4 B_o5 V_o1 Ov_o1 E_o0 F_locals_o0 F_stack_o0 F_depth_o0 V_o2 Ov_o2) (by rw [hml]; rfl) (lenOf pd_8 rfl) (W := 0) rfl (by decide) (by decide) (by decide) (by decide) rfl ?_
  rintro _ T _ X ⟨rfl, rfl, eT⟩
  rw [List.append_nil] at X
  show Run p e below _ (T.setTop (mkF m 37 _ [o5]))
  refine q_astoreN (pc' := 38) (l' := #[.val (.ref o0), .val o5]) X hx (hb hby d_prog_8_method_8_code_37) hr_o5 (by rcases ref_cases hr_o5 with rfl | ⟨_, rfl⟩ <;> rfl) rfl ?_
  refine q_aloadN (pc' := 39) X hx (hb hby d_prog_8_method_8_code_38) rfl rfl rfl ?_
  refine q_getF (pc' := 42) X hx hZ hown (hb hby d_prog_8_method_8_code_39) (host := "") (Or.inl (t28 hw)) eT F_stack_o0 rfl ?_
  intro T X eT
  refine q_aloadN (pc' := 43) X hx (hb hby d_prog_8_method_8_code_42) rfl rfl rfl ?_
  refine q_getF (pc' := 46) X hx hZ hown (hb hby d_prog_8_method_8_code_43) (host := "") (Or.inl (t35 hw)) eT F_depth_o0 rfl ?_
  intro T X eT
  refine q_null (pc' := 47) X hx (hb hby d_prog_8_method_8_code_46) rfl ?_
  refine q_aast (pc' := 48) X hx hZ (hb hby d_prog_8_method_8_code_47) eT V_o2 rfl ⟨by decide, by decide⟩ (i := 2) rfl (Nat.le_of_ble_eq_true rfl) (fun _ _ _ => Or.inl rfl) rfl rfl ?_
  intro T h_2 X eT Wx V_o2'
  have N := Fr.snoc X N g_o2
  have O := ext_wr O Wx g_o2
  have KK := KK.wr Wx (Or.inl (List.mem_of_getElem? (i := 1) rfl))
  have ub_o2 := fun r (E : Exa Z _ r "java/lang/Integer") => (Exa.neArv E V_o2 (t60 hw) : r ≠ o2)
  have ub_o2 := fun r (E : Exa Z _ r "java/lang/Integer") => (Exa.neArv E V_o2 (t60 hw) : r ≠ o2)
  have ub_o2 := fun r (E : Exa Z _ r "java/lang/Integer") => (Exa.neArv E V_o2 (t60 hw) : r ≠ o2)
  have B_o3 := B_o3.wr Wx ub_o2
  have B_o4 := B_o4.wr Wx ub_o2
  have B_o5 := B_o5.wr Wx ub_o2
  have V_o1 := V_o1.other Wx ne_o1_o2
  have E_o0 := E_o0.wr Wx
  have F_locals_o0 := F_locals_o0.other Wx (Or.inl (Ne.symm ne_o2_o0))
  have F_stack_o0 := F_stack_o0.other Wx (Or.inl (Ne.symm ne_o2_o0))
  have F_depth_o0 := F_depth_o0.other Wx (Or.inl (Ne.symm ne_o2_o0))
  have V_o2 : Arv Z h_2 o2 k_o2 (.object "java/lang/Object") (3 : Int32) [o3, o4, .null] .null := V_o2'
  refine q_aloadN (pc' := 49) X hx (hb hby d_prog_8_method_8_code_48) rfl hr_o5 rfl ?_
  refine Run.retR X hx hlk hret (hb hby d_prog_8_method_8_code_49) rfl hr_o5 (by decide) (by decide) ?_
  try rw [eT]
  exact ⟨rfl, N, KK, E_o0, F_locals_o0, F_stack_o0, F_depth_o0, V_o2⟩
set_option maxRecDepth 65536 in
set_option maxHeartbeats 40000000 in
theorem law_all {l : Launch} {Z : State} {a0 : Array Value} (hw : ∀ d ∈ tables_1, d.before a0 Z = true) {w_cache : Addr} {cl_w_cache : Cell} (wd : World Z w_cache cl_w_cache) (p1 : Int32) (p2 : Int32) (p3 : Int32) (p4 : Int32) (p5 : Int32) (p6 : Int32) {h0 : Heap} (O : Ext Z.heap h0) :
    Ctr l Z x code maxLocals ret room_1 #[(.int p1), (.int p2), (.int p3), (.int p4), (.int p5), (.int p6)] h0 (fun v h L => v = some (.int (1 : Int32)) ∧ Fr Z.heap.size L) := by
  refine Ctr.body (plainFor_of_name pn_2) ?_
  intro p e s m below meth c T X hx hby hml hown hnm hret hlk hZ eT
  have hml : c.maxLocals = 15 := hml
  have hown : s.vm.findClass "com/example/callweave/callweave/FramePopPinLaw" = some m.cls := hown
  have hnm : meth.name = "law" := hnm
  have hret : meth.sig.returnType = (some .boolean) := hret
  refine Run.cast (show entryFrame m #[(.int p1), (.int p2), (.int p3), (.int p4), (.int p5), (.int p6)] maxLocals = mkF m 0 #[.val (.int p1), .val (.int p2), .val (.int p3), .val (.int p4), .val (.int p5), .val (.int p6), .unset, .unset, .unset, .unset, .unset, .unset, .unset, .unset, .unset] [] from by first | (simp [entryFrame, mkF, argsToLocals, Value.category, maxLocals]; done) | rfl) ?_
  have wd0 := wd
  obtain ⟨S_w_cache, E_w_cache, S_w_high, B_w_cache⟩ := wd
  have wd := wd0
  have N : Fr Z.heap.size [] := Fr.nil _
  refine q_iloadN (pc' := 1) X hx (hb hby at_0) rfl rfl ?_
  refine q_iconst (pc' := 2) (z := (3 : Int32)) X hx (hb hby at_1) rfl rfl ?_
  refine q_iand (pc' := 3) (z := (p1 &&& (3 : Int32))) X hx (hb hby at_2) rfl rfl ?_
  refine q_istore (pc' := 5) (l' := #[.val (.int p1), .val (.int p2), .val (.int p3), .val (.int p4), .val (.int p5), .val (.int p6), .val (.int (p1 &&& (3 : Int32))), .unset, .unset, .unset, .unset, .unset, .unset, .unset, .unset]) X hx (hb hby at_3) rfl rfl ?_
  refine q_iloadN (pc' := 6) X hx (hb hby at_5) rfl rfl ?_
  refine q_iload (pc' := 8) X hx (hb hby at_6) rfl rfl ?_
  refine q_iconst (pc' := 9) (z := (0 : Int32)) X hx (hb hby at_8) rfl rfl ?_
  refine q_callC (pc' := 12) (y := y3) (rest := []) X hx hZ hown (hb hby at_9) (t0 hw) (t1 hw) (t2 hw) (t3 hw) (by decide) eT [(.int p2), (.int p6), (.int (0 : Int32))] (own_word hw wd p2 p6 (0 : Int32) O) (by rw [hml]; rfl) (lenOf pd_4 rfl) (W := 0) rfl (by decide) (by decide) (by decide) (by decide) rfl ?_
  rintro _ T _ X ⟨vv_1, rfl, NL, KL, B_vv_1⟩
  have hr_vv_1 := B_vv_1.isRef
  have N := N.app NL
  obtain ⟨h_2, eT⟩ : ∃ z, T.heap = z := ⟨_, rfl⟩
  rw [eT] at KL B_vv_1
  have O := ext_keep O KL all0
  show Run p e below _ (T.setTop (mkF m 12 _ [vv_1]))
  refine q_astore (pc' := 14) (l' := #[.val (.int p1), .val (.int p2), .val (.int p3), .val (.int p4), .val (.int p5), .val (.int p6), .val (.int (p1 &&& (3 : Int32))), .val vv_1, .unset, .unset, .unset, .unset, .unset, .unset, .unset]) X hx (hb hby at_12) hr_vv_1 (by rcases ref_cases hr_vv_1 with rfl | ⟨_, rfl⟩ <;> rfl) rfl ?_
  refine q_iloadN (pc' := 15) X hx (hb hby at_14) rfl rfl ?_
  refine q_iload (pc' := 17) X hx (hb hby at_15) rfl rfl ?_
  refine q_iconst (pc' := 18) (z := (1 : Int32)) X hx (hb hby at_17) rfl rfl ?_
  refine q_callC (pc' := 21) (y := y3) (rest := []) X hx hZ hown (hb hby at_18) (t0 hw) (t1 hw) (t2 hw) (t3 hw) (by decide) eT [(.int p3), (.int p6), (.int (1 : Int32))] (own_word hw wd p3 p6 (1 : Int32) O) (by rw [hml]; rfl) (lenOf pd_4 rfl) (W := 0) rfl (by decide) (by decide) (by decide) (by decide) rfl ?_
  rintro _ T _ X ⟨vv_3, rfl, NL, KL, B_vv_3⟩
  have hr_vv_3 := B_vv_3.isRef
  have N := N.app NL
  obtain ⟨h_4, eT⟩ : ∃ z, T.heap = z := ⟨_, rfl⟩
  rw [eT] at KL B_vv_3
  have O := ext_keep O KL all0
  have B_vv_1 := B_vv_1.keep KL (fun _ _ => nin0)
  show Run p e below _ (T.setTop (mkF m 21 _ [vv_3]))
  refine q_astore (pc' := 23) (l' := #[.val (.int p1), .val (.int p2), .val (.int p3), .val (.int p4), .val (.int p5), .val (.int p6), .val (.int (p1 &&& (3 : Int32))), .val vv_1, .val vv_3, .unset, .unset, .unset, .unset, .unset, .unset]) X hx (hb hby at_21) hr_vv_3 (by rcases ref_cases hr_vv_3 with rfl | ⟨_, rfl⟩ <;> rfl) rfl ?_
  refine q_iloadN (pc' := 24) X hx (hb hby at_23) rfl rfl ?_
  refine q_iload (pc' := 26) X hx (hb hby at_24) rfl rfl ?_
  refine q_iconst (pc' := 27) (z := (2 : Int32)) X hx (hb hby at_26) rfl rfl ?_
  refine q_callC (pc' := 30) (y := y3) (rest := []) X hx hZ hown (hb hby at_27) (t0 hw) (t1 hw) (t2 hw) (t3 hw) (by decide) eT [(.int p4), (.int p6), (.int (2 : Int32))] (own_word hw wd p4 p6 (2 : Int32) O) (by rw [hml]; rfl) (lenOf pd_4 rfl) (W := 0) rfl (by decide) (by decide) (by decide) (by decide) rfl ?_
  rintro _ T _ X ⟨vv_5, rfl, NL, KL, B_vv_5⟩
  have hr_vv_5 := B_vv_5.isRef
  have N := N.app NL
  obtain ⟨h_6, eT⟩ : ∃ z, T.heap = z := ⟨_, rfl⟩
  rw [eT] at KL B_vv_5
  have O := ext_keep O KL all0
  have B_vv_1 := B_vv_1.keep KL (fun _ _ => nin0)
  have B_vv_3 := B_vv_3.keep KL (fun _ _ => nin0)
  show Run p e below _ (T.setTop (mkF m 30 _ [vv_5]))
  refine q_astore (pc' := 32) (l' := #[.val (.int p1), .val (.int p2), .val (.int p3), .val (.int p4), .val (.int p5), .val (.int p6), .val (.int (p1 &&& (3 : Int32))), .val vv_1, .val vv_3, .val vv_5, .unset, .unset, .unset, .unset, .unset]) X hx (hb hby at_30) hr_vv_5 (by rcases ref_cases hr_vv_5 with rfl | ⟨_, rfl⟩ <;> rfl) rfl ?_
  refine q_iload (pc' := 34) X hx (hb hby at_32) rfl rfl ?_
  refine q_iload (pc' := 36) X hx (hb hby at_34) rfl rfl ?_
  refine q_iconst (pc' := 37) (z := (3 : Int32)) X hx (hb hby at_36) rfl rfl ?_
  refine q_callC (pc' := 40) (y := y3) (rest := []) X hx hZ hown (hb hby at_37) (t0 hw) (t1 hw) (t2 hw) (t3 hw) (by decide) eT [(.int p5), (.int p6), (.int (3 : Int32))] (own_word hw wd p5 p6 (3 : Int32) O) (by rw [hml]; rfl) (lenOf pd_4 rfl) (W := 0) rfl (by decide) (by decide) (by decide) (by decide) rfl ?_
  rintro _ T _ X ⟨vv_7, rfl, NL, KL, B_vv_7⟩
  have hr_vv_7 := B_vv_7.isRef
  have N := N.app NL
  obtain ⟨h_8, eT⟩ : ∃ z, T.heap = z := ⟨_, rfl⟩
  rw [eT] at KL B_vv_7
  have O := ext_keep O KL all0
  have B_vv_1 := B_vv_1.keep KL (fun _ _ => nin0)
  have B_vv_3 := B_vv_3.keep KL (fun _ _ => nin0)
  have B_vv_5 := B_vv_5.keep KL (fun _ _ => nin0)
  show Run p e below _ (T.setTop (mkF m 40 _ [vv_7]))
  refine q_astore (pc' := 42) (l' := #[.val (.int p1), .val (.int p2), .val (.int p3), .val (.int p4), .val (.int p5), .val (.int p6), .val (.int (p1 &&& (3 : Int32))), .val vv_1, .val vv_3, .val vv_5, .val vv_7, .unset, .unset, .unset, .unset]) X hx (hb hby at_40) hr_vv_7 (by rcases ref_cases hr_vv_7 with rfl | ⟨_, rfl⟩ <;> rfl) rfl ?_
  refine q_new (pc' := 45) X hx hZ hown (hb hby at_42) (t11 hw) (t12 hw) (t13 hw) eT (by decide) (by decide) rfl ?_
  intro T h_9 b42_8 X eT Ex gb Ax Dx
  have g_b42_8 : Z.heap.size ≤ b42_8 := Nat.le_trans O.1 (Nat.le_of_eq gb.symm)
  have O := ext_trans O Ex
  have B_vv_1 := B_vv_1.ext Ex
  have B_vv_3 := B_vv_3.ext Ex
  have B_vv_5 := B_vv_5.ext Ex
  have B_vv_7 := B_vv_7.ext Ex
  have E_b42_8 := Ax
  have F_locals_b42_8 : Fld Z h_9 b42_8 "com/example/callweave/callweave/Frame" "locals" "[Ljava/lang/Object;" .null := Dx (Or.inr (t23 hw)) (ty := (.array (.object "java/lang/Object"))) (by decide)
  have F_stack_b42_8 : Fld Z h_9 b42_8 "com/example/callweave/callweave/Frame" "stack" "[Ljava/lang/Object;" .null := Dx (Or.inr (t29 hw)) (ty := (.array (.object "java/lang/Object"))) (by decide)
  have F_depth_b42_8 : Fld Z h_9 b42_8 "com/example/callweave/callweave/Frame" "depth" "I" (.int (0 : Int32)) := Dx (Or.inl (t36 hw)) (ty := .int) (by decide)
  refine q_dup (pc' := 46) X hx (hb hby at_45) rfl rfl ?_
  refine q_iconst (pc' := 47) (z := (1 : Int32)) X hx (hb hby at_46) rfl rfl ?_
  refine q_iconst (pc' := 48) (z := (3 : Int32)) X hx (hb hby at_47) rfl rfl ?_
  refine q_null (pc' := 49) X hx (hb hby at_48) rfl ?_
  refine q_cast (pc' := 52) X hx hZ hown (hb hby at_49) (t47 hw) eT (Or.inl rfl) rfl ?_
  intro T X eT
  have ub_b42_8 := fun r (E : Exa Z _ r "java/lang/Integer") => (ne_exa E E_b42_8 (by decide) : r ≠ b42_8)
  have lt_b42_8 := E_b42_8.lt
  refine q_callN (pc' := 55) (y := y7) (rest := [(.ref b42_8)]) (b := b42_8) X hx hZ hown (hb hby at_52) rfl (t14 hw) (t15 hw) (t13 hw) (t16 hw) (by decide) eT [(.int (1 : Int32)), (.int (3 : Int32)), .null] (c4_init hw wd  O E_b42_8 F_locals_b42_8 F_stack_b42_8 F_depth_b42_8 g_b42_8) (by rw [hml]; rfl) (lenOf pd_6 rfl) (W := 1) rfl (by decide) (by decide) (by decide) (by decide) rfl ?_
  rintro _ T _ X ⟨b6_0_c10, b22_4_c10, k_b6_0_c10, k_b22_4_c10, rfl, NL, KL, szn_b6_0_c10, szn_b22_4_c10, E_b42_8, F_locals_b42_8, F_stack_b42_8, F_depth_b42_8, V_b6_0_c10, Ov_b6_0_c10, V_b22_4_c10, Ov_b22_4_c10, ne_b6_0_c10_b22_4_c10⟩
  have N := N.app NL
  have ne_b42_8_b6_0_c10 : b42_8 ≠ b6_0_c10 := Nat.ne_of_lt (Nat.lt_of_lt_of_le lt_b42_8 szn_b6_0_c10)
  have g_b6_0_c10 : Z.heap.size ≤ b6_0_c10 := Nat.le_trans O.1 szn_b6_0_c10
  have ne_b42_8_b22_4_c10 : b42_8 ≠ b22_4_c10 := Nat.ne_of_lt (Nat.lt_of_lt_of_le lt_b42_8 szn_b22_4_c10)
  have g_b22_4_c10 : Z.heap.size ≤ b22_4_c10 := Nat.le_trans O.1 szn_b22_4_c10
  obtain ⟨h_11, eT⟩ : ∃ z, T.heap = z := ⟨_, rfl⟩
  rw [eT] at KL E_b42_8 F_locals_b42_8 F_stack_b42_8 F_depth_b42_8 V_b6_0_c10 V_b22_4_c10
  have O := ext_keep O KL (allS g_b42_8 all0)
  have B_vv_1 := B_vv_1.keep KL (fun r E => (ninS (ub_b42_8 r E) nin0))
  have B_vv_3 := B_vv_3.keep KL (fun r E => (ninS (ub_b42_8 r E) nin0))
  have B_vv_5 := B_vv_5.keep KL (fun r E => (ninS (ub_b42_8 r E) nin0))
  have B_vv_7 := B_vv_7.keep KL (fun r E => (ninS (ub_b42_8 r E) nin0))
  show Run p e below _ (T.setTop (mkF m 55 _ [(.ref b42_8)]))
  refine q_astore (pc' := 57) (l' := #[.val (.int p1), .val (.int p2), .val (.int p3), .val (.int p4), .val (.int p5), .val (.int p6), .val (.int (p1 &&& (3 : Int32))), .val vv_1, .val vv_3, .val vv_5, .val vv_7, .val (.ref b42_8), .unset, .unset, .unset]) X hx (hb hby at_55) rfl rfl rfl ?_
  rcases own_sel p1 with hi | hi | hi | hi
  · rw [hi]
    refine q_iload (pc' := 59) X hx (hb hby at_57) rfl rfl ?_
    refine q_iconst (pc' := 60) (z := (1 : Int32)) X hx (hb hby at_59) rfl rfl ?_
    refine q_icmpYes (pc' := 70) X hx (hb hby at_60) (by decide) (by decide) (by decide) ?_
    refine q_iload (pc' := 72) X hx (hb hby at_70) rfl rfl ?_
    refine q_iconst (pc' := 73) (z := (2 : Int32)) X hx (hb hby at_72) rfl rfl ?_
    refine q_icmpYes (pc' := 83) X hx (hb hby at_73) (by decide) (by decide) (by decide) ?_
    refine q_iload (pc' := 85) X hx (hb hby at_83) rfl rfl ?_
    refine q_iconst (pc' := 86) (z := (3 : Int32)) X hx (hb hby at_85) rfl rfl ?_
    refine q_icmpYes (pc' := 96) X hx (hb hby at_86) (by decide) (by decide) (by decide) ?_
    refine q_iload (pc' := 98) X hx (hb hby at_96) rfl rfl ?_
    refine q_ifNo (pc' := 101) X hx (hb hby at_98) (by decide) rfl ?_
    refine q_aload (pc' := 103) X hx (hb hby at_101) rfl rfl rfl ?_
    refine q_aload (pc' := 105) X hx (hb hby at_103) rfl hr_vv_7 rfl ?_
    have ub_b42_8 := fun r (E : Exa Z _ r "java/lang/Integer") => (ne_exa E E_b42_8 (by decide) : r ≠ b42_8)
    have ub_b22_4_c10 := fun r (E : Exa Z _ r "java/lang/Integer") => (Exa.neArv E V_b22_4_c10 (t60 hw) : r ≠ b22_4_c10)
    refine q_callV (pc' := 108) (y := y8) (rest := []) X hx hZ hown (hb hby at_105) (t30 hw) (t31 hw) (t33 hw) (t32 hw) (t13 hw) (t34 hw) (by decide) eT E_b42_8 [vv_7] (c6_push hw wd (p5) O hr_vv_7 B_vv_7 E_b42_8 F_locals_b42_8 F_stack_b42_8 F_depth_b42_8 V_b6_0_c10 Ov_b6_0_c10 V_b22_4_c10 Ov_b22_4_c10 g_b42_8 ne_b6_0_c10_b22_4_c10 g_b22_4_c10) (by rw [hml]; rfl) (lenOf pd_7 rfl) (W := 0) rfl (by decide) (by decide) (by decide) (by decide) rfl ?_
    rintro _ T _ X ⟨rfl, NL, KL, E_b42_8, F_locals_b42_8, F_stack_b42_8, F_depth_b42_8, V_b22_4_c10⟩
    have N := N.app NL
    obtain ⟨h_13, eT⟩ : ∃ z, T.heap = z := ⟨_, rfl⟩
    rw [eT] at KL E_b42_8 F_locals_b42_8 F_stack_b42_8 F_depth_b42_8 V_b22_4_c10
    have O := ext_keep O KL (allS g_b42_8 (allS g_b22_4_c10 all0))
    have B_vv_1 := B_vv_1.keep KL (fun r E => (ninS (ub_b42_8 r E) (ninS (ub_b22_4_c10 r E) nin0)))
    have B_vv_3 := B_vv_3.keep KL (fun r E => (ninS (ub_b42_8 r E) (ninS (ub_b22_4_c10 r E) nin0)))
    have B_vv_5 := B_vv_5.keep KL (fun r E => (ninS (ub_b42_8 r E) (ninS (ub_b22_4_c10 r E) nin0)))
    have B_vv_7 := B_vv_7.keep KL (fun r E => (ninS (ub_b42_8 r E) (ninS (ub_b22_4_c10 r E) nin0)))
    have V_b6_0_c10 := V_b6_0_c10.keep KL (ninS (Ne.symm ne_b42_8_b6_0_c10) (ninS ne_b6_0_c10_b22_4_c10 nin0))
    show Run p e below _ (T.setTop (mkF m 108 _ []))
    refine q_aload (pc' := 110) X hx (hb hby at_108) rfl rfl rfl ?_
    have ub_b42_8 := fun r (E : Exa Z _ r "java/lang/Integer") => (ne_exa E E_b42_8 (by decide) : r ≠ b42_8)
    have ub_b22_4_c10 := fun r (E : Exa Z _ r "java/lang/Integer") => (Exa.neArv E V_b22_4_c10 (t60 hw) : r ≠ b22_4_c10)
    refine q_callV (pc' := 113) (y := y10) (rest := []) X hx hZ hown (hb hby at_110) (t38 hw) (t39 hw) (t41 hw) (t40 hw) (t13 hw) (t42 hw) (by decide) eT E_b42_8 [] (c7_pop hw wd (p5) O hr_vv_7 B_vv_7 V_b6_0_c10 Ov_b6_0_c10 E_b42_8 F_locals_b42_8 F_stack_b42_8 F_depth_b42_8 V_b22_4_c10 Ov_b22_4_c10 g_b42_8 ne_b6_0_c10_b22_4_c10 g_b22_4_c10) (by rw [hml]; rfl) (lenOf pd_9 rfl) (W := 0) rfl (by decide) (by decide) (by decide) (by decide) rfl ?_
    rintro _ T _ X ⟨rfl, NL, KL, E_b42_8, F_locals_b42_8, F_stack_b42_8, F_depth_b42_8, V_b22_4_c10⟩
    have N := N.app NL
    obtain ⟨h_15, eT⟩ : ∃ z, T.heap = z := ⟨_, rfl⟩
    rw [eT] at KL E_b42_8 F_locals_b42_8 F_stack_b42_8 F_depth_b42_8 V_b22_4_c10
    have O := ext_keep O KL (allS g_b42_8 (allS g_b22_4_c10 all0))
    have B_vv_1 := B_vv_1.keep KL (fun r E => (ninS (ub_b42_8 r E) (ninS (ub_b22_4_c10 r E) nin0)))
    have B_vv_3 := B_vv_3.keep KL (fun r E => (ninS (ub_b42_8 r E) (ninS (ub_b22_4_c10 r E) nin0)))
    have B_vv_5 := B_vv_5.keep KL (fun r E => (ninS (ub_b42_8 r E) (ninS (ub_b22_4_c10 r E) nin0)))
    have B_vv_7 := B_vv_7.keep KL (fun r E => (ninS (ub_b42_8 r E) (ninS (ub_b22_4_c10 r E) nin0)))
    have V_b6_0_c10 := V_b6_0_c10.keep KL (ninS (Ne.symm ne_b42_8_b6_0_c10) (ninS ne_b6_0_c10_b22_4_c10 nin0))
    show Run p e below _ (T.setTop (mkF m 113 _ [vv_7]))
    refine q_cast (pc' := 116) X hx hZ hown (hb hby at_113) (t47 hw) eT (B_vv_7.ins (t48 hw)) rfl ?_
    intro T X eT
    refine q_aload (pc' := 118) X hx (hb hby at_116) rfl hr_vv_7 rfl ?_
    refine q_callC (pc' := 121) (y := y5) (rest := []) X hx hZ hown (hb hby at_118) (t49 hw) (t50 hw) (t2 hw) (t51 hw) (by decide) eT [vv_7, vv_7] (own_same hw wd p5 O hr_vv_7 B_vv_7) (by rw [hml]; rfl) (lenOf pd_10 rfl) (W := 0) rfl (by decide) (by decide) (by decide) (by decide) rfl ?_
    rintro _ T _ X ⟨rfl, rfl, eT⟩
    rw [List.append_nil] at X
    show Run p e below _ (T.setTop (mkF m 121 _ [(.int (1 : Int32))]))
    refine Run.retB X hx hlk hret (hb hby at_121) rfl (by decide) (by decide) ?_
    try rw [eT]
    exact ⟨rfl, N⟩
  · rw [hi]
    refine q_iload (pc' := 59) X hx (hb hby at_57) rfl rfl ?_
    refine q_iconst (pc' := 60) (z := (1 : Int32)) X hx (hb hby at_59) rfl rfl ?_
    refine q_icmpNo (pc' := 63) X hx (hb hby at_60) (by decide) rfl ?_
    refine q_aload (pc' := 65) X hx (hb hby at_63) rfl rfl rfl ?_
    refine q_aload (pc' := 67) X hx (hb hby at_65) rfl hr_vv_1 rfl ?_
    have ub_b42_8 := fun r (E : Exa Z _ r "java/lang/Integer") => (ne_exa E E_b42_8 (by decide) : r ≠ b42_8)
    have ub_b22_4_c10 := fun r (E : Exa Z _ r "java/lang/Integer") => (Exa.neArv E V_b22_4_c10 (t60 hw) : r ≠ b22_4_c10)
    refine q_callV (pc' := 70) (y := y8) (rest := []) X hx hZ hown (hb hby at_67) (t30 hw) (t31 hw) (t33 hw) (t32 hw) (t13 hw) (t34 hw) (by decide) eT E_b42_8 [vv_1] (c9_push hw wd (p2) O hr_vv_1 B_vv_1 E_b42_8 F_locals_b42_8 F_stack_b42_8 F_depth_b42_8 V_b6_0_c10 Ov_b6_0_c10 V_b22_4_c10 Ov_b22_4_c10 g_b42_8 ne_b6_0_c10_b22_4_c10 g_b22_4_c10) (by rw [hml]; rfl) (lenOf pd_7 rfl) (W := 0) rfl (by decide) (by decide) (by decide) (by decide) rfl ?_
    rintro _ T _ X ⟨rfl, NL, KL, E_b42_8, F_locals_b42_8, F_stack_b42_8, F_depth_b42_8, V_b22_4_c10⟩
    have N := N.app NL
    obtain ⟨h_13, eT⟩ : ∃ z, T.heap = z := ⟨_, rfl⟩
    rw [eT] at KL E_b42_8 F_locals_b42_8 F_stack_b42_8 F_depth_b42_8 V_b22_4_c10
    have O := ext_keep O KL (allS g_b42_8 (allS g_b22_4_c10 all0))
    have B_vv_1 := B_vv_1.keep KL (fun r E => (ninS (ub_b42_8 r E) (ninS (ub_b22_4_c10 r E) nin0)))
    have B_vv_3 := B_vv_3.keep KL (fun r E => (ninS (ub_b42_8 r E) (ninS (ub_b22_4_c10 r E) nin0)))
    have B_vv_5 := B_vv_5.keep KL (fun r E => (ninS (ub_b42_8 r E) (ninS (ub_b22_4_c10 r E) nin0)))
    have B_vv_7 := B_vv_7.keep KL (fun r E => (ninS (ub_b42_8 r E) (ninS (ub_b22_4_c10 r E) nin0)))
    have V_b6_0_c10 := V_b6_0_c10.keep KL (ninS (Ne.symm ne_b42_8_b6_0_c10) (ninS ne_b6_0_c10_b22_4_c10 nin0))
    show Run p e below _ (T.setTop (mkF m 70 _ []))
    refine q_iload (pc' := 72) X hx (hb hby at_70) rfl rfl ?_
    refine q_iconst (pc' := 73) (z := (2 : Int32)) X hx (hb hby at_72) rfl rfl ?_
    refine q_icmpYes (pc' := 83) X hx (hb hby at_73) (by decide) (by decide) (by decide) ?_
    refine q_iload (pc' := 85) X hx (hb hby at_83) rfl rfl ?_
    refine q_iconst (pc' := 86) (z := (3 : Int32)) X hx (hb hby at_85) rfl rfl ?_
    refine q_icmpYes (pc' := 96) X hx (hb hby at_86) (by decide) (by decide) (by decide) ?_
    refine q_iload (pc' := 98) X hx (hb hby at_96) rfl rfl ?_
    refine q_ifYes (pc' := 122) X hx (hb hby at_98) (by decide) (by decide) (by decide) ?_
    refine q_iload (pc' := 124) X hx (hb hby at_122) rfl rfl ?_
    refine q_iconst (pc' := 125) (z := (3 : Int32)) X hx (hb hby at_124) rfl rfl ?_
    refine q_icmpYes (pc' := 135) X hx (hb hby at_125) (by decide) (by decide) (by decide) ?_
    refine q_iload (pc' := 137) X hx (hb hby at_135) rfl rfl ?_
    refine q_iconst (pc' := 138) (z := (2 : Int32)) X hx (hb hby at_137) rfl rfl ?_
    refine q_icmpYes (pc' := 148) X hx (hb hby at_138) (by decide) (by decide) (by decide) ?_
    refine q_aload (pc' := 150) X hx (hb hby at_148) rfl hr_vv_1 rfl ?_
    refine q_astore (pc' := 152) (l' := #[.val (.int p1), .val (.int p2), .val (.int p3), .val (.int p4), .val (.int p5), .val (.int p6), .val (.int (1 : Int32)), .val vv_1, .val vv_3, .val vv_5, .val vv_7, .val (.ref b42_8), .val vv_1, .unset, .unset]) X hx (hb hby at_150) hr_vv_1 (by rcases ref_cases hr_vv_1 with rfl | ⟨_, rfl⟩ <;> rfl) rfl ?_
    refine q_aload (pc' := 154) X hx (hb hby at_152) rfl rfl rfl ?_
    have ub_b42_8 := fun r (E : Exa Z _ r "java/lang/Integer") => (ne_exa E E_b42_8 (by decide) : r ≠ b42_8)
    have ub_b22_4_c10 := fun r (E : Exa Z _ r "java/lang/Integer") => (Exa.neArv E V_b22_4_c10 (t60 hw) : r ≠ b22_4_c10)
    refine q_callV (pc' := 157) (y := y10) (rest := []) X hx hZ hown (hb hby at_154) (t38 hw) (t39 hw) (t41 hw) (t40 hw) (t13 hw) (t42 hw) (by decide) eT E_b42_8 [] (c10_pop hw wd (p2) O hr_vv_1 B_vv_1 V_b6_0_c10 Ov_b6_0_c10 E_b42_8 F_locals_b42_8 F_stack_b42_8 F_depth_b42_8 V_b22_4_c10 Ov_b22_4_c10 g_b42_8 ne_b6_0_c10_b22_4_c10 g_b22_4_c10) (by rw [hml]; rfl) (lenOf pd_9 rfl) (W := 0) rfl (by decide) (by decide) (by decide) (by decide) rfl ?_
    rintro _ T _ X ⟨rfl, NL, KL, E_b42_8, F_locals_b42_8, F_stack_b42_8, F_depth_b42_8, V_b22_4_c10⟩
    have N := N.app NL
    obtain ⟨h_15, eT⟩ : ∃ z, T.heap = z := ⟨_, rfl⟩
    rw [eT] at KL E_b42_8 F_locals_b42_8 F_stack_b42_8 F_depth_b42_8 V_b22_4_c10
    have O := ext_keep O KL (allS g_b42_8 (allS g_b22_4_c10 all0))
    have B_vv_1 := B_vv_1.keep KL (fun r E => (ninS (ub_b42_8 r E) (ninS (ub_b22_4_c10 r E) nin0)))
    have B_vv_3 := B_vv_3.keep KL (fun r E => (ninS (ub_b42_8 r E) (ninS (ub_b22_4_c10 r E) nin0)))
    have B_vv_5 := B_vv_5.keep KL (fun r E => (ninS (ub_b42_8 r E) (ninS (ub_b22_4_c10 r E) nin0)))
    have B_vv_7 := B_vv_7.keep KL (fun r E => (ninS (ub_b42_8 r E) (ninS (ub_b22_4_c10 r E) nin0)))
    have V_b6_0_c10 := V_b6_0_c10.keep KL (ninS (Ne.symm ne_b42_8_b6_0_c10) (ninS ne_b6_0_c10_b22_4_c10 nin0))
    show Run p e below _ (T.setTop (mkF m 157 _ [vv_1]))
    refine q_cast (pc' := 160) X hx hZ hown (hb hby at_157) (t47 hw) eT (B_vv_1.ins (t48 hw)) rfl ?_
    intro T X eT
    refine q_aload (pc' := 162) X hx (hb hby at_160) rfl hr_vv_1 rfl ?_
    refine q_callC (pc' := 165) (y := y5) (rest := []) X hx hZ hown (hb hby at_162) (t49 hw) (t50 hw) (t2 hw) (t51 hw) (by decide) eT [vv_1, vv_1] (own_same hw wd p2 O hr_vv_1 B_vv_1) (by rw [hml]; rfl) (lenOf pd_10 rfl) (W := 0) rfl (by decide) (by decide) (by decide) (by decide) rfl ?_
    rintro _ T _ X ⟨rfl, rfl, eT⟩
    rw [List.append_nil] at X
    show Run p e below _ (T.setTop (mkF m 165 _ [(.int (1 : Int32))]))
    refine q_istore (pc' := 167) (l' := #[.val (.int p1), .val (.int p2), .val (.int p3), .val (.int p4), .val (.int p5), .val (.int p6), .val (.int (1 : Int32)), .val vv_1, .val vv_3, .val vv_5, .val vv_7, .val (.ref b42_8), .val vv_1, .val (.int (1 : Int32)), .unset]) X hx (hb hby at_165) rfl rfl ?_
    refine q_aload (pc' := 169) X hx (hb hby at_167) rfl rfl rfl ?_
    refine q_aload (pc' := 171) X hx (hb hby at_169) rfl hr_vv_7 rfl ?_
    have ub_b42_8 := fun r (E : Exa Z _ r "java/lang/Integer") => (ne_exa E E_b42_8 (by decide) : r ≠ b42_8)
    have ub_b22_4_c10 := fun r (E : Exa Z _ r "java/lang/Integer") => (Exa.neArv E V_b22_4_c10 (t60 hw) : r ≠ b22_4_c10)
    refine q_callV (pc' := 174) (y := y8) (rest := []) X hx hZ hown (hb hby at_171) (t30 hw) (t31 hw) (t33 hw) (t32 hw) (t13 hw) (t34 hw) (by decide) eT E_b42_8 [vv_7] (c6_push hw wd (p5) O hr_vv_7 B_vv_7 E_b42_8 F_locals_b42_8 F_stack_b42_8 F_depth_b42_8 V_b6_0_c10 Ov_b6_0_c10 V_b22_4_c10 Ov_b22_4_c10 g_b42_8 ne_b6_0_c10_b22_4_c10 g_b22_4_c10) (by rw [hml]; rfl) (lenOf pd_7 rfl) (W := 0) rfl (by decide) (by decide) (by decide) (by decide) rfl ?_
    rintro _ T _ X ⟨rfl, NL, KL, E_b42_8, F_locals_b42_8, F_stack_b42_8, F_depth_b42_8, V_b22_4_c10⟩
    have N := N.app NL
    obtain ⟨h_17, eT⟩ : ∃ z, T.heap = z := ⟨_, rfl⟩
    rw [eT] at KL E_b42_8 F_locals_b42_8 F_stack_b42_8 F_depth_b42_8 V_b22_4_c10
    have O := ext_keep O KL (allS g_b42_8 (allS g_b22_4_c10 all0))
    have B_vv_1 := B_vv_1.keep KL (fun r E => (ninS (ub_b42_8 r E) (ninS (ub_b22_4_c10 r E) nin0)))
    have B_vv_3 := B_vv_3.keep KL (fun r E => (ninS (ub_b42_8 r E) (ninS (ub_b22_4_c10 r E) nin0)))
    have B_vv_5 := B_vv_5.keep KL (fun r E => (ninS (ub_b42_8 r E) (ninS (ub_b22_4_c10 r E) nin0)))
    have B_vv_7 := B_vv_7.keep KL (fun r E => (ninS (ub_b42_8 r E) (ninS (ub_b22_4_c10 r E) nin0)))
    have V_b6_0_c10 := V_b6_0_c10.keep KL (ninS (Ne.symm ne_b42_8_b6_0_c10) (ninS ne_b6_0_c10_b22_4_c10 nin0))
    show Run p e below _ (T.setTop (mkF m 174 _ []))
    refine q_iload (pc' := 176) X hx (hb hby at_174) rfl rfl ?_
    refine q_ifNo (pc' := 179) X hx (hb hby at_176) (by decide) rfl ?_
    refine q_aload (pc' := 181) X hx (hb hby at_179) rfl rfl rfl ?_
    have ub_b42_8 := fun r (E : Exa Z _ r "java/lang/Integer") => (ne_exa E E_b42_8 (by decide) : r ≠ b42_8)
    have ub_b22_4_c10 := fun r (E : Exa Z _ r "java/lang/Integer") => (Exa.neArv E V_b22_4_c10 (t60 hw) : r ≠ b22_4_c10)
    refine q_callV (pc' := 184) (y := y10) (rest := []) X hx hZ hown (hb hby at_181) (t38 hw) (t39 hw) (t41 hw) (t40 hw) (t13 hw) (t42 hw) (by decide) eT E_b42_8 [] (c7_pop hw wd (p5) O hr_vv_7 B_vv_7 V_b6_0_c10 Ov_b6_0_c10 E_b42_8 F_locals_b42_8 F_stack_b42_8 F_depth_b42_8 V_b22_4_c10 Ov_b22_4_c10 g_b42_8 ne_b6_0_c10_b22_4_c10 g_b22_4_c10) (by rw [hml]; rfl) (lenOf pd_9 rfl) (W := 0) rfl (by decide) (by decide) (by decide) (by decide) rfl ?_
    rintro _ T _ X ⟨rfl, NL, KL, E_b42_8, F_locals_b42_8, F_stack_b42_8, F_depth_b42_8, V_b22_4_c10⟩
    have N := N.app NL
    obtain ⟨h_19, eT⟩ : ∃ z, T.heap = z := ⟨_, rfl⟩
    rw [eT] at KL E_b42_8 F_locals_b42_8 F_stack_b42_8 F_depth_b42_8 V_b22_4_c10
    have O := ext_keep O KL (allS g_b42_8 (allS g_b22_4_c10 all0))
    have B_vv_1 := B_vv_1.keep KL (fun r E => (ninS (ub_b42_8 r E) (ninS (ub_b22_4_c10 r E) nin0)))
    have B_vv_3 := B_vv_3.keep KL (fun r E => (ninS (ub_b42_8 r E) (ninS (ub_b22_4_c10 r E) nin0)))
    have B_vv_5 := B_vv_5.keep KL (fun r E => (ninS (ub_b42_8 r E) (ninS (ub_b22_4_c10 r E) nin0)))
    have B_vv_7 := B_vv_7.keep KL (fun r E => (ninS (ub_b42_8 r E) (ninS (ub_b22_4_c10 r E) nin0)))
    have V_b6_0_c10 := V_b6_0_c10.keep KL (ninS (Ne.symm ne_b42_8_b6_0_c10) (ninS ne_b6_0_c10_b22_4_c10 nin0))
    show Run p e below _ (T.setTop (mkF m 184 _ [vv_7]))
    refine q_cast (pc' := 187) X hx hZ hown (hb hby at_184) (t47 hw) eT (B_vv_7.ins (t48 hw)) rfl ?_
    intro T X eT
    refine q_aload (pc' := 189) X hx (hb hby at_187) rfl hr_vv_7 rfl ?_
    refine q_callC (pc' := 192) (y := y5) (rest := []) X hx hZ hown (hb hby at_189) (t49 hw) (t50 hw) (t2 hw) (t51 hw) (by decide) eT [vv_7, vv_7] (own_same hw wd p5 O hr_vv_7 B_vv_7) (by rw [hml]; rfl) (lenOf pd_10 rfl) (W := 0) rfl (by decide) (by decide) (by decide) (by decide) rfl ?_
    rintro _ T _ X ⟨rfl, rfl, eT⟩
    rw [List.append_nil] at X
    show Run p e below _ (T.setTop (mkF m 192 _ [(.int (1 : Int32))]))
    refine q_ifNo (pc' := 195) X hx (hb hby at_192) (by decide) rfl ?_
    refine q_iconst (pc' := 196) (z := (1 : Int32)) X hx (hb hby at_195) rfl rfl ?_
    refine q_goto (pc' := 200) X hx (hb hby at_196) (by decide) (by decide) ?_
    refine q_istore (pc' := 202) (l' := #[.val (.int p1), .val (.int p2), .val (.int p3), .val (.int p4), .val (.int p5), .val (.int p6), .val (.int (1 : Int32)), .val vv_1, .val vv_3, .val vv_5, .val vv_7, .val (.ref b42_8), .val vv_1, .val (.int (1 : Int32)), .unset]) X hx (hb hby at_200) rfl rfl ?_
    refine q_iload (pc' := 204) X hx (hb hby at_202) rfl rfl ?_
    refine q_iconst (pc' := 205) (z := (2 : Int32)) X hx (hb hby at_204) rfl rfl ?_
    refine q_icmpYes (pc' := 251) X hx (hb hby at_205) (by decide) (by decide) (by decide) ?_
    refine q_iload (pc' := 253) X hx (hb hby at_251) rfl rfl ?_
    refine q_iconst (pc' := 254) (z := (3 : Int32)) X hx (hb hby at_253) rfl rfl ?_
    refine q_icmpYes (pc' := 285) X hx (hb hby at_254) (by decide) (by decide) (by decide) ?_
    refine q_iload (pc' := 287) X hx (hb hby at_285) rfl rfl ?_
    refine Run.retB X hx hlk hret (hb hby at_287) rfl (by decide) (by decide) ?_
    try rw [eT]
    exact ⟨rfl, N⟩
  · rw [hi]
    refine q_iload (pc' := 59) X hx (hb hby at_57) rfl rfl ?_
    refine q_iconst (pc' := 60) (z := (1 : Int32)) X hx (hb hby at_59) rfl rfl ?_
    refine q_icmpNo (pc' := 63) X hx (hb hby at_60) (by decide) rfl ?_
    refine q_aload (pc' := 65) X hx (hb hby at_63) rfl rfl rfl ?_
    refine q_aload (pc' := 67) X hx (hb hby at_65) rfl hr_vv_1 rfl ?_
    have ub_b42_8 := fun r (E : Exa Z _ r "java/lang/Integer") => (ne_exa E E_b42_8 (by decide) : r ≠ b42_8)
    have ub_b22_4_c10 := fun r (E : Exa Z _ r "java/lang/Integer") => (Exa.neArv E V_b22_4_c10 (t60 hw) : r ≠ b22_4_c10)
    refine q_callV (pc' := 70) (y := y8) (rest := []) X hx hZ hown (hb hby at_67) (t30 hw) (t31 hw) (t33 hw) (t32 hw) (t13 hw) (t34 hw) (by decide) eT E_b42_8 [vv_1] (c9_push hw wd (p2) O hr_vv_1 B_vv_1 E_b42_8 F_locals_b42_8 F_stack_b42_8 F_depth_b42_8 V_b6_0_c10 Ov_b6_0_c10 V_b22_4_c10 Ov_b22_4_c10 g_b42_8 ne_b6_0_c10_b22_4_c10 g_b22_4_c10) (by rw [hml]; rfl) (lenOf pd_7 rfl) (W := 0) rfl (by decide) (by decide) (by decide) (by decide) rfl ?_
    rintro _ T _ X ⟨rfl, NL, KL, E_b42_8, F_locals_b42_8, F_stack_b42_8, F_depth_b42_8, V_b22_4_c10⟩
    have N := N.app NL
    obtain ⟨h_13, eT⟩ : ∃ z, T.heap = z := ⟨_, rfl⟩
    rw [eT] at KL E_b42_8 F_locals_b42_8 F_stack_b42_8 F_depth_b42_8 V_b22_4_c10
    have O := ext_keep O KL (allS g_b42_8 (allS g_b22_4_c10 all0))
    have B_vv_1 := B_vv_1.keep KL (fun r E => (ninS (ub_b42_8 r E) (ninS (ub_b22_4_c10 r E) nin0)))
    have B_vv_3 := B_vv_3.keep KL (fun r E => (ninS (ub_b42_8 r E) (ninS (ub_b22_4_c10 r E) nin0)))
    have B_vv_5 := B_vv_5.keep KL (fun r E => (ninS (ub_b42_8 r E) (ninS (ub_b22_4_c10 r E) nin0)))
    have B_vv_7 := B_vv_7.keep KL (fun r E => (ninS (ub_b42_8 r E) (ninS (ub_b22_4_c10 r E) nin0)))
    have V_b6_0_c10 := V_b6_0_c10.keep KL (ninS (Ne.symm ne_b42_8_b6_0_c10) (ninS ne_b6_0_c10_b22_4_c10 nin0))
    show Run p e below _ (T.setTop (mkF m 70 _ []))
    refine q_iload (pc' := 72) X hx (hb hby at_70) rfl rfl ?_
    refine q_iconst (pc' := 73) (z := (2 : Int32)) X hx (hb hby at_72) rfl rfl ?_
    refine q_icmpNo (pc' := 76) X hx (hb hby at_73) (by decide) rfl ?_
    refine q_aload (pc' := 78) X hx (hb hby at_76) rfl rfl rfl ?_
    refine q_aload (pc' := 80) X hx (hb hby at_78) rfl hr_vv_3 rfl ?_
    have ub_b42_8 := fun r (E : Exa Z _ r "java/lang/Integer") => (ne_exa E E_b42_8 (by decide) : r ≠ b42_8)
    have ub_b22_4_c10 := fun r (E : Exa Z _ r "java/lang/Integer") => (Exa.neArv E V_b22_4_c10 (t60 hw) : r ≠ b22_4_c10)
    refine q_callV (pc' := 83) (y := y8) (rest := []) X hx hZ hown (hb hby at_80) (t30 hw) (t31 hw) (t33 hw) (t32 hw) (t13 hw) (t34 hw) (by decide) eT E_b42_8 [vv_3] (c12_push hw wd (p2) (p3) O hr_vv_3 hr_vv_1 B_vv_1 B_vv_3 V_b6_0_c10 Ov_b6_0_c10 E_b42_8 F_locals_b42_8 F_stack_b42_8 F_depth_b42_8 V_b22_4_c10 Ov_b22_4_c10 g_b42_8 ne_b6_0_c10_b22_4_c10 g_b22_4_c10) (by rw [hml]; rfl) (lenOf pd_7 rfl) (W := 0) rfl (by decide) (by decide) (by decide) (by decide) rfl ?_
    rintro _ T _ X ⟨rfl, NL, KL, E_b42_8, F_locals_b42_8, F_stack_b42_8, F_depth_b42_8, V_b22_4_c10⟩
    have N := N.app NL
    obtain ⟨h_15, eT⟩ : ∃ z, T.heap = z := ⟨_, rfl⟩
    rw [eT] at KL E_b42_8 F_locals_b42_8 F_stack_b42_8 F_depth_b42_8 V_b22_4_c10
    have O := ext_keep O KL (allS g_b42_8 (allS g_b22_4_c10 all0))
    have B_vv_1 := B_vv_1.keep KL (fun r E => (ninS (ub_b42_8 r E) (ninS (ub_b22_4_c10 r E) nin0)))
    have B_vv_3 := B_vv_3.keep KL (fun r E => (ninS (ub_b42_8 r E) (ninS (ub_b22_4_c10 r E) nin0)))
    have B_vv_5 := B_vv_5.keep KL (fun r E => (ninS (ub_b42_8 r E) (ninS (ub_b22_4_c10 r E) nin0)))
    have B_vv_7 := B_vv_7.keep KL (fun r E => (ninS (ub_b42_8 r E) (ninS (ub_b22_4_c10 r E) nin0)))
    have V_b6_0_c10 := V_b6_0_c10.keep KL (ninS (Ne.symm ne_b42_8_b6_0_c10) (ninS ne_b6_0_c10_b22_4_c10 nin0))
    show Run p e below _ (T.setTop (mkF m 83 _ []))
    refine q_iload (pc' := 85) X hx (hb hby at_83) rfl rfl ?_
    refine q_iconst (pc' := 86) (z := (3 : Int32)) X hx (hb hby at_85) rfl rfl ?_
    refine q_icmpYes (pc' := 96) X hx (hb hby at_86) (by decide) (by decide) (by decide) ?_
    refine q_iload (pc' := 98) X hx (hb hby at_96) rfl rfl ?_
    refine q_ifYes (pc' := 122) X hx (hb hby at_98) (by decide) (by decide) (by decide) ?_
    refine q_iload (pc' := 124) X hx (hb hby at_122) rfl rfl ?_
    refine q_iconst (pc' := 125) (z := (3 : Int32)) X hx (hb hby at_124) rfl rfl ?_
    refine q_icmpYes (pc' := 135) X hx (hb hby at_125) (by decide) (by decide) (by decide) ?_
    refine q_iload (pc' := 137) X hx (hb hby at_135) rfl rfl ?_
    refine q_iconst (pc' := 138) (z := (2 : Int32)) X hx (hb hby at_137) rfl rfl ?_
    refine q_icmpNo (pc' := 141) X hx (hb hby at_138) (by decide) rfl ?_
    refine q_aload (pc' := 143) X hx (hb hby at_141) rfl hr_vv_3 rfl ?_
    refine q_astore (pc' := 145) (l' := #[.val (.int p1), .val (.int p2), .val (.int p3), .val (.int p4), .val (.int p5), .val (.int p6), .val (.int (2 : Int32)), .val vv_1, .val vv_3, .val vv_5, .val vv_7, .val (.ref b42_8), .val vv_3, .unset, .unset]) X hx (hb hby at_143) hr_vv_3 (by rcases ref_cases hr_vv_3 with rfl | ⟨_, rfl⟩ <;> rfl) rfl ?_
    refine q_goto (pc' := 152) X hx (hb hby at_145) (by decide) (by decide) ?_
    refine q_aload (pc' := 154) X hx (hb hby at_152) rfl rfl rfl ?_
    have ub_b42_8 := fun r (E : Exa Z _ r "java/lang/Integer") => (ne_exa E E_b42_8 (by decide) : r ≠ b42_8)
    have ub_b22_4_c10 := fun r (E : Exa Z _ r "java/lang/Integer") => (Exa.neArv E V_b22_4_c10 (t60 hw) : r ≠ b22_4_c10)
    refine q_callV (pc' := 157) (y := y10) (rest := []) X hx hZ hown (hb hby at_154) (t38 hw) (t39 hw) (t41 hw) (t40 hw) (t13 hw) (t42 hw) (by decide) eT E_b42_8 [] (c13_pop hw wd (p2) (p3) O hr_vv_3 hr_vv_1 B_vv_1 B_vv_3 V_b6_0_c10 Ov_b6_0_c10 E_b42_8 F_locals_b42_8 F_stack_b42_8 F_depth_b42_8 V_b22_4_c10 Ov_b22_4_c10 g_b42_8 ne_b6_0_c10_b22_4_c10 g_b22_4_c10) (by rw [hml]; rfl) (lenOf pd_9 rfl) (W := 0) rfl (by decide) (by decide) (by decide) (by decide) rfl ?_
    rintro _ T _ X ⟨rfl, NL, KL, E_b42_8, F_locals_b42_8, F_stack_b42_8, F_depth_b42_8, V_b22_4_c10⟩
    have N := N.app NL
    obtain ⟨h_17, eT⟩ : ∃ z, T.heap = z := ⟨_, rfl⟩
    rw [eT] at KL E_b42_8 F_locals_b42_8 F_stack_b42_8 F_depth_b42_8 V_b22_4_c10
    have O := ext_keep O KL (allS g_b42_8 (allS g_b22_4_c10 all0))
    have B_vv_1 := B_vv_1.keep KL (fun r E => (ninS (ub_b42_8 r E) (ninS (ub_b22_4_c10 r E) nin0)))
    have B_vv_3 := B_vv_3.keep KL (fun r E => (ninS (ub_b42_8 r E) (ninS (ub_b22_4_c10 r E) nin0)))
    have B_vv_5 := B_vv_5.keep KL (fun r E => (ninS (ub_b42_8 r E) (ninS (ub_b22_4_c10 r E) nin0)))
    have B_vv_7 := B_vv_7.keep KL (fun r E => (ninS (ub_b42_8 r E) (ninS (ub_b22_4_c10 r E) nin0)))
    have V_b6_0_c10 := V_b6_0_c10.keep KL (ninS (Ne.symm ne_b42_8_b6_0_c10) (ninS ne_b6_0_c10_b22_4_c10 nin0))
    show Run p e below _ (T.setTop (mkF m 157 _ [vv_3]))
    refine q_cast (pc' := 160) X hx hZ hown (hb hby at_157) (t47 hw) eT (B_vv_3.ins (t48 hw)) rfl ?_
    intro T X eT
    refine q_aload (pc' := 162) X hx (hb hby at_160) rfl hr_vv_3 rfl ?_
    refine q_callC (pc' := 165) (y := y5) (rest := []) X hx hZ hown (hb hby at_162) (t49 hw) (t50 hw) (t2 hw) (t51 hw) (by decide) eT [vv_3, vv_3] (own_same hw wd p3 O hr_vv_3 B_vv_3) (by rw [hml]; rfl) (lenOf pd_10 rfl) (W := 0) rfl (by decide) (by decide) (by decide) (by decide) rfl ?_
    rintro _ T _ X ⟨rfl, rfl, eT⟩
    rw [List.append_nil] at X
    show Run p e below _ (T.setTop (mkF m 165 _ [(.int (1 : Int32))]))
    refine q_istore (pc' := 167) (l' := #[.val (.int p1), .val (.int p2), .val (.int p3), .val (.int p4), .val (.int p5), .val (.int p6), .val (.int (2 : Int32)), .val vv_1, .val vv_3, .val vv_5, .val vv_7, .val (.ref b42_8), .val vv_3, .val (.int (1 : Int32)), .unset]) X hx (hb hby at_165) rfl rfl ?_
    refine q_aload (pc' := 169) X hx (hb hby at_167) rfl rfl rfl ?_
    refine q_aload (pc' := 171) X hx (hb hby at_169) rfl hr_vv_7 rfl ?_
    have ub_b42_8 := fun r (E : Exa Z _ r "java/lang/Integer") => (ne_exa E E_b42_8 (by decide) : r ≠ b42_8)
    have ub_b22_4_c10 := fun r (E : Exa Z _ r "java/lang/Integer") => (Exa.neArv E V_b22_4_c10 (t60 hw) : r ≠ b22_4_c10)
    refine q_callV (pc' := 174) (y := y8) (rest := []) X hx hZ hown (hb hby at_171) (t30 hw) (t31 hw) (t33 hw) (t32 hw) (t13 hw) (t34 hw) (by decide) eT E_b42_8 [vv_7] (c15_push hw wd (p2) (p5) O hr_vv_7 hr_vv_1 B_vv_1 B_vv_7 V_b6_0_c10 Ov_b6_0_c10 E_b42_8 F_locals_b42_8 F_stack_b42_8 F_depth_b42_8 V_b22_4_c10 Ov_b22_4_c10 g_b42_8 ne_b6_0_c10_b22_4_c10 g_b22_4_c10) (by rw [hml]; rfl) (lenOf pd_7 rfl) (W := 0) rfl (by decide) (by decide) (by decide) (by decide) rfl ?_
    rintro _ T _ X ⟨rfl, NL, KL, E_b42_8, F_locals_b42_8, F_stack_b42_8, F_depth_b42_8, V_b22_4_c10⟩
    have N := N.app NL
    obtain ⟨h_19, eT⟩ : ∃ z, T.heap = z := ⟨_, rfl⟩
    rw [eT] at KL E_b42_8 F_locals_b42_8 F_stack_b42_8 F_depth_b42_8 V_b22_4_c10
    have O := ext_keep O KL (allS g_b42_8 (allS g_b22_4_c10 all0))
    have B_vv_1 := B_vv_1.keep KL (fun r E => (ninS (ub_b42_8 r E) (ninS (ub_b22_4_c10 r E) nin0)))
    have B_vv_3 := B_vv_3.keep KL (fun r E => (ninS (ub_b42_8 r E) (ninS (ub_b22_4_c10 r E) nin0)))
    have B_vv_5 := B_vv_5.keep KL (fun r E => (ninS (ub_b42_8 r E) (ninS (ub_b22_4_c10 r E) nin0)))
    have B_vv_7 := B_vv_7.keep KL (fun r E => (ninS (ub_b42_8 r E) (ninS (ub_b22_4_c10 r E) nin0)))
    have V_b6_0_c10 := V_b6_0_c10.keep KL (ninS (Ne.symm ne_b42_8_b6_0_c10) (ninS ne_b6_0_c10_b22_4_c10 nin0))
    show Run p e below _ (T.setTop (mkF m 174 _ []))
    refine q_iload (pc' := 176) X hx (hb hby at_174) rfl rfl ?_
    refine q_ifNo (pc' := 179) X hx (hb hby at_176) (by decide) rfl ?_
    refine q_aload (pc' := 181) X hx (hb hby at_179) rfl rfl rfl ?_
    have ub_b42_8 := fun r (E : Exa Z _ r "java/lang/Integer") => (ne_exa E E_b42_8 (by decide) : r ≠ b42_8)
    have ub_b22_4_c10 := fun r (E : Exa Z _ r "java/lang/Integer") => (Exa.neArv E V_b22_4_c10 (t60 hw) : r ≠ b22_4_c10)
    refine q_callV (pc' := 184) (y := y10) (rest := []) X hx hZ hown (hb hby at_181) (t38 hw) (t39 hw) (t41 hw) (t40 hw) (t13 hw) (t42 hw) (by decide) eT E_b42_8 [] (c16_pop hw wd (p2) (p5) O hr_vv_7 hr_vv_1 B_vv_1 B_vv_7 V_b6_0_c10 Ov_b6_0_c10 E_b42_8 F_locals_b42_8 F_stack_b42_8 F_depth_b42_8 V_b22_4_c10 Ov_b22_4_c10 g_b42_8 ne_b6_0_c10_b22_4_c10 g_b22_4_c10) (by rw [hml]; rfl) (lenOf pd_9 rfl) (W := 0) rfl (by decide) (by decide) (by decide) (by decide) rfl ?_
    rintro _ T _ X ⟨rfl, NL, KL, E_b42_8, F_locals_b42_8, F_stack_b42_8, F_depth_b42_8, V_b22_4_c10⟩
    have N := N.app NL
    obtain ⟨h_21, eT⟩ : ∃ z, T.heap = z := ⟨_, rfl⟩
    rw [eT] at KL E_b42_8 F_locals_b42_8 F_stack_b42_8 F_depth_b42_8 V_b22_4_c10
    have O := ext_keep O KL (allS g_b42_8 (allS g_b22_4_c10 all0))
    have B_vv_1 := B_vv_1.keep KL (fun r E => (ninS (ub_b42_8 r E) (ninS (ub_b22_4_c10 r E) nin0)))
    have B_vv_3 := B_vv_3.keep KL (fun r E => (ninS (ub_b42_8 r E) (ninS (ub_b22_4_c10 r E) nin0)))
    have B_vv_5 := B_vv_5.keep KL (fun r E => (ninS (ub_b42_8 r E) (ninS (ub_b22_4_c10 r E) nin0)))
    have B_vv_7 := B_vv_7.keep KL (fun r E => (ninS (ub_b42_8 r E) (ninS (ub_b22_4_c10 r E) nin0)))
    have V_b6_0_c10 := V_b6_0_c10.keep KL (ninS (Ne.symm ne_b42_8_b6_0_c10) (ninS ne_b6_0_c10_b22_4_c10 nin0))
    show Run p e below _ (T.setTop (mkF m 184 _ [vv_7]))
    refine q_cast (pc' := 187) X hx hZ hown (hb hby at_184) (t47 hw) eT (B_vv_7.ins (t48 hw)) rfl ?_
    intro T X eT
    refine q_aload (pc' := 189) X hx (hb hby at_187) rfl hr_vv_7 rfl ?_
    refine q_callC (pc' := 192) (y := y5) (rest := []) X hx hZ hown (hb hby at_189) (t49 hw) (t50 hw) (t2 hw) (t51 hw) (by decide) eT [vv_7, vv_7] (own_same hw wd p5 O hr_vv_7 B_vv_7) (by rw [hml]; rfl) (lenOf pd_10 rfl) (W := 0) rfl (by decide) (by decide) (by decide) (by decide) rfl ?_
    rintro _ T _ X ⟨rfl, rfl, eT⟩
    rw [List.append_nil] at X
    show Run p e below _ (T.setTop (mkF m 192 _ [(.int (1 : Int32))]))
    refine q_ifNo (pc' := 195) X hx (hb hby at_192) (by decide) rfl ?_
    refine q_iconst (pc' := 196) (z := (1 : Int32)) X hx (hb hby at_195) rfl rfl ?_
    refine q_goto (pc' := 200) X hx (hb hby at_196) (by decide) (by decide) ?_
    refine q_istore (pc' := 202) (l' := #[.val (.int p1), .val (.int p2), .val (.int p3), .val (.int p4), .val (.int p5), .val (.int p6), .val (.int (2 : Int32)), .val vv_1, .val vv_3, .val vv_5, .val vv_7, .val (.ref b42_8), .val vv_3, .val (.int (1 : Int32)), .unset]) X hx (hb hby at_200) rfl rfl ?_
    refine q_iload (pc' := 204) X hx (hb hby at_202) rfl rfl ?_
    refine q_iconst (pc' := 205) (z := (2 : Int32)) X hx (hb hby at_204) rfl rfl ?_
    refine q_icmpNo (pc' := 208) X hx (hb hby at_205) (by decide) rfl ?_
    refine q_iload (pc' := 210) X hx (hb hby at_208) rfl rfl ?_
    refine q_iconst (pc' := 211) (z := (3 : Int32)) X hx (hb hby at_210) rfl rfl ?_
    refine q_icmpYes (pc' := 219) X hx (hb hby at_211) (by decide) (by decide) (by decide) ?_
    refine q_aload (pc' := 221) X hx (hb hby at_219) rfl hr_vv_1 rfl ?_
    refine q_astore (pc' := 223) (l' := #[.val (.int p1), .val (.int p2), .val (.int p3), .val (.int p4), .val (.int p5), .val (.int p6), .val (.int (2 : Int32)), .val vv_1, .val vv_3, .val vv_5, .val vv_7, .val (.ref b42_8), .val vv_3, .val (.int (1 : Int32)), .val vv_1]) X hx (hb hby at_221) hr_vv_1 (by rcases ref_cases hr_vv_1 with rfl | ⟨_, rfl⟩ <;> rfl) rfl ?_
    refine q_iload (pc' := 225) X hx (hb hby at_223) rfl rfl ?_
    refine q_ifNo (pc' := 228) X hx (hb hby at_225) (by decide) rfl ?_
    refine q_aload (pc' := 230) X hx (hb hby at_228) rfl rfl rfl ?_
    have ub_b42_8 := fun r (E : Exa Z _ r "java/lang/Integer") => (ne_exa E E_b42_8 (by decide) : r ≠ b42_8)
    have ub_b22_4_c10 := fun r (E : Exa Z _ r "java/lang/Integer") => (Exa.neArv E V_b22_4_c10 (t60 hw) : r ≠ b22_4_c10)
    refine q_callV (pc' := 233) (y := y10) (rest := []) X hx hZ hown (hb hby at_230) (t38 hw) (t39 hw) (t41 hw) (t40 hw) (t13 hw) (t42 hw) (by decide) eT E_b42_8 [] (c10_pop hw wd (p2) O hr_vv_1 B_vv_1 V_b6_0_c10 Ov_b6_0_c10 E_b42_8 F_locals_b42_8 F_stack_b42_8 F_depth_b42_8 V_b22_4_c10 Ov_b22_4_c10 g_b42_8 ne_b6_0_c10_b22_4_c10 g_b22_4_c10) (by rw [hml]; rfl) (lenOf pd_9 rfl) (W := 0) rfl (by decide) (by decide) (by decide) (by decide) rfl ?_
    rintro _ T _ X ⟨rfl, NL, KL, E_b42_8, F_locals_b42_8, F_stack_b42_8, F_depth_b42_8, V_b22_4_c10⟩
    have N := N.app NL
    obtain ⟨h_23, eT⟩ : ∃ z, T.heap = z := ⟨_, rfl⟩
    rw [eT] at KL E_b42_8 F_locals_b42_8 F_stack_b42_8 F_depth_b42_8 V_b22_4_c10
    have O := ext_keep O KL (allS g_b42_8 (allS g_b22_4_c10 all0))
    have B_vv_1 := B_vv_1.keep KL (fun r E => (ninS (ub_b42_8 r E) (ninS (ub_b22_4_c10 r E) nin0)))
    have B_vv_3 := B_vv_3.keep KL (fun r E => (ninS (ub_b42_8 r E) (ninS (ub_b22_4_c10 r E) nin0)))
    have B_vv_5 := B_vv_5.keep KL (fun r E => (ninS (ub_b42_8 r E) (ninS (ub_b22_4_c10 r E) nin0)))
    have B_vv_7 := B_vv_7.keep KL (fun r E => (ninS (ub_b42_8 r E) (ninS (ub_b22_4_c10 r E) nin0)))
    have V_b6_0_c10 := V_b6_0_c10.keep KL (ninS (Ne.symm ne_b42_8_b6_0_c10) (ninS ne_b6_0_c10_b22_4_c10 nin0))
    show Run p e below _ (T.setTop (mkF m 233 _ [vv_1]))
    refine q_cast (pc' := 236) X hx hZ hown (hb hby at_233) (t47 hw) eT (B_vv_1.ins (t48 hw)) rfl ?_
    intro T X eT
    refine q_aload (pc' := 238) X hx (hb hby at_236) rfl hr_vv_1 rfl ?_
    refine q_callC (pc' := 241) (y := y5) (rest := []) X hx hZ hown (hb hby at_238) (t49 hw) (t50 hw) (t2 hw) (t51 hw) (by decide) eT [vv_1, vv_1] (own_same hw wd p2 O hr_vv_1 B_vv_1) (by rw [hml]; rfl) (lenOf pd_10 rfl) (W := 0) rfl (by decide) (by decide) (by decide) (by decide) rfl ?_
    rintro _ T _ X ⟨rfl, rfl, eT⟩
    rw [List.append_nil] at X
    show Run p e below _ (T.setTop (mkF m 241 _ [(.int (1 : Int32))]))
    refine q_ifNo (pc' := 244) X hx (hb hby at_241) (by decide) rfl ?_
    refine q_iconst (pc' := 245) (z := (1 : Int32)) X hx (hb hby at_244) rfl rfl ?_
    refine q_goto (pc' := 249) X hx (hb hby at_245) (by decide) (by decide) ?_
    refine q_istore (pc' := 251) (l' := #[.val (.int p1), .val (.int p2), .val (.int p3), .val (.int p4), .val (.int p5), .val (.int p6), .val (.int (2 : Int32)), .val vv_1, .val vv_3, .val vv_5, .val vv_7, .val (.ref b42_8), .val vv_3, .val (.int (1 : Int32)), .val vv_1]) X hx (hb hby at_249) rfl rfl ?_
    refine q_iload (pc' := 253) X hx (hb hby at_251) rfl rfl ?_
    refine q_iconst (pc' := 254) (z := (3 : Int32)) X hx (hb hby at_253) rfl rfl ?_
    refine q_icmpYes (pc' := 285) X hx (hb hby at_254) (by decide) (by decide) (by decide) ?_
    refine q_iload (pc' := 287) X hx (hb hby at_285) rfl rfl ?_
    refine Run.retB X hx hlk hret (hb hby at_287) rfl (by decide) (by decide) ?_
    try rw [eT]
    exact ⟨rfl, N⟩
  · rw [hi]
    refine q_iload (pc' := 59) X hx (hb hby at_57) rfl rfl ?_
    refine q_iconst (pc' := 60) (z := (1 : Int32)) X hx (hb hby at_59) rfl rfl ?_
    refine q_icmpNo (pc' := 63) X hx (hb hby at_60) (by decide) rfl ?_
    refine q_aload (pc' := 65) X hx (hb hby at_63) rfl rfl rfl ?_
    refine q_aload (pc' := 67) X hx (hb hby at_65) rfl hr_vv_1 rfl ?_
    have ub_b42_8 := fun r (E : Exa Z _ r "java/lang/Integer") => (ne_exa E E_b42_8 (by decide) : r ≠ b42_8)
    have ub_b22_4_c10 := fun r (E : Exa Z _ r "java/lang/Integer") => (Exa.neArv E V_b22_4_c10 (t60 hw) : r ≠ b22_4_c10)
    refine q_callV (pc' := 70) (y := y8) (rest := []) X hx hZ hown (hb hby at_67) (t30 hw) (t31 hw) (t33 hw) (t32 hw) (t13 hw) (t34 hw) (by decide) eT E_b42_8 [vv_1] (c9_push hw wd (p2) O hr_vv_1 B_vv_1 E_b42_8 F_locals_b42_8 F_stack_b42_8 F_depth_b42_8 V_b6_0_c10 Ov_b6_0_c10 V_b22_4_c10 Ov_b22_4_c10 g_b42_8 ne_b6_0_c10_b22_4_c10 g_b22_4_c10) (by rw [hml]; rfl) (lenOf pd_7 rfl) (W := 0) rfl (by decide) (by decide) (by decide) (by decide) rfl ?_
    rintro _ T _ X ⟨rfl, NL, KL, E_b42_8, F_locals_b42_8, F_stack_b42_8, F_depth_b42_8, V_b22_4_c10⟩
    have N := N.app NL
    obtain ⟨h_13, eT⟩ : ∃ z, T.heap = z := ⟨_, rfl⟩
    rw [eT] at KL E_b42_8 F_locals_b42_8 F_stack_b42_8 F_depth_b42_8 V_b22_4_c10
    have O := ext_keep O KL (allS g_b42_8 (allS g_b22_4_c10 all0))
    have B_vv_1 := B_vv_1.keep KL (fun r E => (ninS (ub_b42_8 r E) (ninS (ub_b22_4_c10 r E) nin0)))
    have B_vv_3 := B_vv_3.keep KL (fun r E => (ninS (ub_b42_8 r E) (ninS (ub_b22_4_c10 r E) nin0)))
    have B_vv_5 := B_vv_5.keep KL (fun r E => (ninS (ub_b42_8 r E) (ninS (ub_b22_4_c10 r E) nin0)))
    have B_vv_7 := B_vv_7.keep KL (fun r E => (ninS (ub_b42_8 r E) (ninS (ub_b22_4_c10 r E) nin0)))
    have V_b6_0_c10 := V_b6_0_c10.keep KL (ninS (Ne.symm ne_b42_8_b6_0_c10) (ninS ne_b6_0_c10_b22_4_c10 nin0))
    show Run p e below _ (T.setTop (mkF m 70 _ []))
    refine q_iload (pc' := 72) X hx (hb hby at_70) rfl rfl ?_
    refine q_iconst (pc' := 73) (z := (2 : Int32)) X hx (hb hby at_72) rfl rfl ?_
    refine q_icmpNo (pc' := 76) X hx (hb hby at_73) (by decide) rfl ?_
    refine q_aload (pc' := 78) X hx (hb hby at_76) rfl rfl rfl ?_
    refine q_aload (pc' := 80) X hx (hb hby at_78) rfl hr_vv_3 rfl ?_
    have ub_b42_8 := fun r (E : Exa Z _ r "java/lang/Integer") => (ne_exa E E_b42_8 (by decide) : r ≠ b42_8)
    have ub_b22_4_c10 := fun r (E : Exa Z _ r "java/lang/Integer") => (Exa.neArv E V_b22_4_c10 (t60 hw) : r ≠ b22_4_c10)
    refine q_callV (pc' := 83) (y := y8) (rest := []) X hx hZ hown (hb hby at_80) (t30 hw) (t31 hw) (t33 hw) (t32 hw) (t13 hw) (t34 hw) (by decide) eT E_b42_8 [vv_3] (c12_push hw wd (p2) (p3) O hr_vv_3 hr_vv_1 B_vv_1 B_vv_3 V_b6_0_c10 Ov_b6_0_c10 E_b42_8 F_locals_b42_8 F_stack_b42_8 F_depth_b42_8 V_b22_4_c10 Ov_b22_4_c10 g_b42_8 ne_b6_0_c10_b22_4_c10 g_b22_4_c10) (by rw [hml]; rfl) (lenOf pd_7 rfl) (W := 0) rfl (by decide) (by decide) (by decide) (by decide) rfl ?_
    rintro _ T _ X ⟨rfl, NL, KL, E_b42_8, F_locals_b42_8, F_stack_b42_8, F_depth_b42_8, V_b22_4_c10⟩
    have N := N.app NL
    obtain ⟨h_15, eT⟩ : ∃ z, T.heap = z := ⟨_, rfl⟩
    rw [eT] at KL E_b42_8 F_locals_b42_8 F_stack_b42_8 F_depth_b42_8 V_b22_4_c10
    have O := ext_keep O KL (allS g_b42_8 (allS g_b22_4_c10 all0))
    have B_vv_1 := B_vv_1.keep KL (fun r E => (ninS (ub_b42_8 r E) (ninS (ub_b22_4_c10 r E) nin0)))
    have B_vv_3 := B_vv_3.keep KL (fun r E => (ninS (ub_b42_8 r E) (ninS (ub_b22_4_c10 r E) nin0)))
    have B_vv_5 := B_vv_5.keep KL (fun r E => (ninS (ub_b42_8 r E) (ninS (ub_b22_4_c10 r E) nin0)))
    have B_vv_7 := B_vv_7.keep KL (fun r E => (ninS (ub_b42_8 r E) (ninS (ub_b22_4_c10 r E) nin0)))
    have V_b6_0_c10 := V_b6_0_c10.keep KL (ninS (Ne.symm ne_b42_8_b6_0_c10) (ninS ne_b6_0_c10_b22_4_c10 nin0))
    show Run p e below _ (T.setTop (mkF m 83 _ []))
    refine q_iload (pc' := 85) X hx (hb hby at_83) rfl rfl ?_
    refine q_iconst (pc' := 86) (z := (3 : Int32)) X hx (hb hby at_85) rfl rfl ?_
    refine q_icmpNo (pc' := 89) X hx (hb hby at_86) (by decide) rfl ?_
    refine q_aload (pc' := 91) X hx (hb hby at_89) rfl rfl rfl ?_
    refine q_aload (pc' := 93) X hx (hb hby at_91) rfl hr_vv_5 rfl ?_
    have ub_b42_8 := fun r (E : Exa Z _ r "java/lang/Integer") => (ne_exa E E_b42_8 (by decide) : r ≠ b42_8)
    have ub_b22_4_c10 := fun r (E : Exa Z _ r "java/lang/Integer") => (Exa.neArv E V_b22_4_c10 (t60 hw) : r ≠ b22_4_c10)
    refine q_callV (pc' := 96) (y := y8) (rest := []) X hx hZ hown (hb hby at_93) (t30 hw) (t31 hw) (t33 hw) (t32 hw) (t13 hw) (t34 hw) (by decide) eT E_b42_8 [vv_5] (c18_push hw wd (p2) (p3) (p4) O hr_vv_5 hr_vv_3 hr_vv_1 B_vv_1 B_vv_3 B_vv_5 V_b6_0_c10 Ov_b6_0_c10 E_b42_8 F_locals_b42_8 F_stack_b42_8 F_depth_b42_8 V_b22_4_c10 Ov_b22_4_c10 g_b42_8 ne_b6_0_c10_b22_4_c10 g_b22_4_c10) (by rw [hml]; rfl) (lenOf pd_7 rfl) (W := 0) rfl (by decide) (by decide) (by decide) (by decide) rfl ?_
    rintro _ T _ X ⟨rfl, NL, KL, E_b42_8, F_locals_b42_8, F_stack_b42_8, F_depth_b42_8, V_b22_4_c10⟩
    have N := N.app NL
    obtain ⟨h_17, eT⟩ : ∃ z, T.heap = z := ⟨_, rfl⟩
    rw [eT] at KL E_b42_8 F_locals_b42_8 F_stack_b42_8 F_depth_b42_8 V_b22_4_c10
    have O := ext_keep O KL (allS g_b42_8 (allS g_b22_4_c10 all0))
    have B_vv_1 := B_vv_1.keep KL (fun r E => (ninS (ub_b42_8 r E) (ninS (ub_b22_4_c10 r E) nin0)))
    have B_vv_3 := B_vv_3.keep KL (fun r E => (ninS (ub_b42_8 r E) (ninS (ub_b22_4_c10 r E) nin0)))
    have B_vv_5 := B_vv_5.keep KL (fun r E => (ninS (ub_b42_8 r E) (ninS (ub_b22_4_c10 r E) nin0)))
    have B_vv_7 := B_vv_7.keep KL (fun r E => (ninS (ub_b42_8 r E) (ninS (ub_b22_4_c10 r E) nin0)))
    have V_b6_0_c10 := V_b6_0_c10.keep KL (ninS (Ne.symm ne_b42_8_b6_0_c10) (ninS ne_b6_0_c10_b22_4_c10 nin0))
    show Run p e below _ (T.setTop (mkF m 96 _ []))
    refine q_iload (pc' := 98) X hx (hb hby at_96) rfl rfl ?_
    refine q_ifYes (pc' := 122) X hx (hb hby at_98) (by decide) (by decide) (by decide) ?_
    refine q_iload (pc' := 124) X hx (hb hby at_122) rfl rfl ?_
    refine q_iconst (pc' := 125) (z := (3 : Int32)) X hx (hb hby at_124) rfl rfl ?_
    refine q_icmpNo (pc' := 128) X hx (hb hby at_125) (by decide) rfl ?_
    refine q_aload (pc' := 130) X hx (hb hby at_128) rfl hr_vv_5 rfl ?_
    refine q_astore (pc' := 132) (l' := #[.val (.int p1), .val (.int p2), .val (.int p3), .val (.int p4), .val (.int p5), .val (.int p6), .val (.int (3 : Int32)), .val vv_1, .val vv_3, .val vv_5, .val vv_7, .val (.ref b42_8), .val vv_5, .unset, .unset]) X hx (hb hby at_130) hr_vv_5 (by rcases ref_cases hr_vv_5 with rfl | ⟨_, rfl⟩ <;> rfl) rfl ?_
    refine q_goto (pc' := 152) X hx (hb hby at_132) (by decide) (by decide) ?_
    refine q_aload (pc' := 154) X hx (hb hby at_152) rfl rfl rfl ?_
    have ub_b42_8 := fun r (E : Exa Z _ r "java/lang/Integer") => (ne_exa E E_b42_8 (by decide) : r ≠ b42_8)
    have ub_b22_4_c10 := fun r (E : Exa Z _ r "java/lang/Integer") => (Exa.neArv E V_b22_4_c10 (t60 hw) : r ≠ b22_4_c10)
    refine q_callV (pc' := 157) (y := y10) (rest := []) X hx hZ hown (hb hby at_154) (t38 hw) (t39 hw) (t41 hw) (t40 hw) (t13 hw) (t42 hw) (by decide) eT E_b42_8 [] (c19_pop hw wd (p2) (p3) (p4) O hr_vv_5 hr_vv_3 hr_vv_1 B_vv_1 B_vv_3 B_vv_5 V_b6_0_c10 Ov_b6_0_c10 E_b42_8 F_locals_b42_8 F_stack_b42_8 F_depth_b42_8 V_b22_4_c10 Ov_b22_4_c10 g_b42_8 ne_b6_0_c10_b22_4_c10 g_b22_4_c10) (by rw [hml]; rfl) (lenOf pd_9 rfl) (W := 0) rfl (by decide) (by decide) (by decide) (by decide) rfl ?_
    rintro _ T _ X ⟨rfl, NL, KL, E_b42_8, F_locals_b42_8, F_stack_b42_8, F_depth_b42_8, V_b22_4_c10⟩
    have N := N.app NL
    obtain ⟨h_19, eT⟩ : ∃ z, T.heap = z := ⟨_, rfl⟩
    rw [eT] at KL E_b42_8 F_locals_b42_8 F_stack_b42_8 F_depth_b42_8 V_b22_4_c10
    have O := ext_keep O KL (allS g_b42_8 (allS g_b22_4_c10 all0))
    have B_vv_1 := B_vv_1.keep KL (fun r E => (ninS (ub_b42_8 r E) (ninS (ub_b22_4_c10 r E) nin0)))
    have B_vv_3 := B_vv_3.keep KL (fun r E => (ninS (ub_b42_8 r E) (ninS (ub_b22_4_c10 r E) nin0)))
    have B_vv_5 := B_vv_5.keep KL (fun r E => (ninS (ub_b42_8 r E) (ninS (ub_b22_4_c10 r E) nin0)))
    have B_vv_7 := B_vv_7.keep KL (fun r E => (ninS (ub_b42_8 r E) (ninS (ub_b22_4_c10 r E) nin0)))
    have V_b6_0_c10 := V_b6_0_c10.keep KL (ninS (Ne.symm ne_b42_8_b6_0_c10) (ninS ne_b6_0_c10_b22_4_c10 nin0))
    show Run p e below _ (T.setTop (mkF m 157 _ [vv_5]))
    refine q_cast (pc' := 160) X hx hZ hown (hb hby at_157) (t47 hw) eT (B_vv_5.ins (t48 hw)) rfl ?_
    intro T X eT
    refine q_aload (pc' := 162) X hx (hb hby at_160) rfl hr_vv_5 rfl ?_
    refine q_callC (pc' := 165) (y := y5) (rest := []) X hx hZ hown (hb hby at_162) (t49 hw) (t50 hw) (t2 hw) (t51 hw) (by decide) eT [vv_5, vv_5] (own_same hw wd p4 O hr_vv_5 B_vv_5) (by rw [hml]; rfl) (lenOf pd_10 rfl) (W := 0) rfl (by decide) (by decide) (by decide) (by decide) rfl ?_
    rintro _ T _ X ⟨rfl, rfl, eT⟩
    rw [List.append_nil] at X
    show Run p e below _ (T.setTop (mkF m 165 _ [(.int (1 : Int32))]))
    refine q_istore (pc' := 167) (l' := #[.val (.int p1), .val (.int p2), .val (.int p3), .val (.int p4), .val (.int p5), .val (.int p6), .val (.int (3 : Int32)), .val vv_1, .val vv_3, .val vv_5, .val vv_7, .val (.ref b42_8), .val vv_5, .val (.int (1 : Int32)), .unset]) X hx (hb hby at_165) rfl rfl ?_
    refine q_aload (pc' := 169) X hx (hb hby at_167) rfl rfl rfl ?_
    refine q_aload (pc' := 171) X hx (hb hby at_169) rfl hr_vv_7 rfl ?_
    have ub_b42_8 := fun r (E : Exa Z _ r "java/lang/Integer") => (ne_exa E E_b42_8 (by decide) : r ≠ b42_8)
    have ub_b22_4_c10 := fun r (E : Exa Z _ r "java/lang/Integer") => (Exa.neArv E V_b22_4_c10 (t60 hw) : r ≠ b22_4_c10)
    refine q_callV (pc' := 174) (y := y8) (rest := []) X hx hZ hown (hb hby at_171) (t30 hw) (t31 hw) (t33 hw) (t32 hw) (t13 hw) (t34 hw) (by decide) eT E_b42_8 [vv_7] (c21_push hw wd (p2) (p3) (p5) O hr_vv_7 hr_vv_3 hr_vv_1 B_vv_1 B_vv_3 B_vv_7 V_b6_0_c10 Ov_b6_0_c10 E_b42_8 F_locals_b42_8 F_stack_b42_8 F_depth_b42_8 V_b22_4_c10 Ov_b22_4_c10 g_b42_8 ne_b6_0_c10_b22_4_c10 g_b22_4_c10) (by rw [hml]; rfl) (lenOf pd_7 rfl) (W := 0) rfl (by decide) (by decide) (by decide) (by decide) rfl ?_
    rintro _ T _ X ⟨rfl, NL, KL, E_b42_8, F_locals_b42_8, F_stack_b42_8, F_depth_b42_8, V_b22_4_c10⟩
    have N := N.app NL
    obtain ⟨h_21, eT⟩ : ∃ z, T.heap = z := ⟨_, rfl⟩
    rw [eT] at KL E_b42_8 F_locals_b42_8 F_stack_b42_8 F_depth_b42_8 V_b22_4_c10
    have O := ext_keep O KL (allS g_b42_8 (allS g_b22_4_c10 all0))
    have B_vv_1 := B_vv_1.keep KL (fun r E => (ninS (ub_b42_8 r E) (ninS (ub_b22_4_c10 r E) nin0)))
    have B_vv_3 := B_vv_3.keep KL (fun r E => (ninS (ub_b42_8 r E) (ninS (ub_b22_4_c10 r E) nin0)))
    have B_vv_5 := B_vv_5.keep KL (fun r E => (ninS (ub_b42_8 r E) (ninS (ub_b22_4_c10 r E) nin0)))
    have B_vv_7 := B_vv_7.keep KL (fun r E => (ninS (ub_b42_8 r E) (ninS (ub_b22_4_c10 r E) nin0)))
    have V_b6_0_c10 := V_b6_0_c10.keep KL (ninS (Ne.symm ne_b42_8_b6_0_c10) (ninS ne_b6_0_c10_b22_4_c10 nin0))
    show Run p e below _ (T.setTop (mkF m 174 _ []))
    refine q_iload (pc' := 176) X hx (hb hby at_174) rfl rfl ?_
    refine q_ifNo (pc' := 179) X hx (hb hby at_176) (by decide) rfl ?_
    refine q_aload (pc' := 181) X hx (hb hby at_179) rfl rfl rfl ?_
    have ub_b42_8 := fun r (E : Exa Z _ r "java/lang/Integer") => (ne_exa E E_b42_8 (by decide) : r ≠ b42_8)
    have ub_b22_4_c10 := fun r (E : Exa Z _ r "java/lang/Integer") => (Exa.neArv E V_b22_4_c10 (t60 hw) : r ≠ b22_4_c10)
    refine q_callV (pc' := 184) (y := y10) (rest := []) X hx hZ hown (hb hby at_181) (t38 hw) (t39 hw) (t41 hw) (t40 hw) (t13 hw) (t42 hw) (by decide) eT E_b42_8 [] (c22_pop hw wd (p2) (p3) (p5) O hr_vv_7 hr_vv_3 hr_vv_1 B_vv_1 B_vv_3 B_vv_7 V_b6_0_c10 Ov_b6_0_c10 E_b42_8 F_locals_b42_8 F_stack_b42_8 F_depth_b42_8 V_b22_4_c10 Ov_b22_4_c10 g_b42_8 ne_b6_0_c10_b22_4_c10 g_b22_4_c10) (by rw [hml]; rfl) (lenOf pd_9 rfl) (W := 0) rfl (by decide) (by decide) (by decide) (by decide) rfl ?_
    rintro _ T _ X ⟨rfl, NL, KL, E_b42_8, F_locals_b42_8, F_stack_b42_8, F_depth_b42_8, V_b22_4_c10⟩
    have N := N.app NL
    obtain ⟨h_23, eT⟩ : ∃ z, T.heap = z := ⟨_, rfl⟩
    rw [eT] at KL E_b42_8 F_locals_b42_8 F_stack_b42_8 F_depth_b42_8 V_b22_4_c10
    have O := ext_keep O KL (allS g_b42_8 (allS g_b22_4_c10 all0))
    have B_vv_1 := B_vv_1.keep KL (fun r E => (ninS (ub_b42_8 r E) (ninS (ub_b22_4_c10 r E) nin0)))
    have B_vv_3 := B_vv_3.keep KL (fun r E => (ninS (ub_b42_8 r E) (ninS (ub_b22_4_c10 r E) nin0)))
    have B_vv_5 := B_vv_5.keep KL (fun r E => (ninS (ub_b42_8 r E) (ninS (ub_b22_4_c10 r E) nin0)))
    have B_vv_7 := B_vv_7.keep KL (fun r E => (ninS (ub_b42_8 r E) (ninS (ub_b22_4_c10 r E) nin0)))
    have V_b6_0_c10 := V_b6_0_c10.keep KL (ninS (Ne.symm ne_b42_8_b6_0_c10) (ninS ne_b6_0_c10_b22_4_c10 nin0))
    show Run p e below _ (T.setTop (mkF m 184 _ [vv_7]))
    refine q_cast (pc' := 187) X hx hZ hown (hb hby at_184) (t47 hw) eT (B_vv_7.ins (t48 hw)) rfl ?_
    intro T X eT
    refine q_aload (pc' := 189) X hx (hb hby at_187) rfl hr_vv_7 rfl ?_
    refine q_callC (pc' := 192) (y := y5) (rest := []) X hx hZ hown (hb hby at_189) (t49 hw) (t50 hw) (t2 hw) (t51 hw) (by decide) eT [vv_7, vv_7] (own_same hw wd p5 O hr_vv_7 B_vv_7) (by rw [hml]; rfl) (lenOf pd_10 rfl) (W := 0) rfl (by decide) (by decide) (by decide) (by decide) rfl ?_
    rintro _ T _ X ⟨rfl, rfl, eT⟩
    rw [List.append_nil] at X
    show Run p e below _ (T.setTop (mkF m 192 _ [(.int (1 : Int32))]))
    refine q_ifNo (pc' := 195) X hx (hb hby at_192) (by decide) rfl ?_
    refine q_iconst (pc' := 196) (z := (1 : Int32)) X hx (hb hby at_195) rfl rfl ?_
    refine q_goto (pc' := 200) X hx (hb hby at_196) (by decide) (by decide) ?_
    refine q_istore (pc' := 202) (l' := #[.val (.int p1), .val (.int p2), .val (.int p3), .val (.int p4), .val (.int p5), .val (.int p6), .val (.int (3 : Int32)), .val vv_1, .val vv_3, .val vv_5, .val vv_7, .val (.ref b42_8), .val vv_5, .val (.int (1 : Int32)), .unset]) X hx (hb hby at_200) rfl rfl ?_
    refine q_iload (pc' := 204) X hx (hb hby at_202) rfl rfl ?_
    refine q_iconst (pc' := 205) (z := (2 : Int32)) X hx (hb hby at_204) rfl rfl ?_
    refine q_icmpNo (pc' := 208) X hx (hb hby at_205) (by decide) rfl ?_
    refine q_iload (pc' := 210) X hx (hb hby at_208) rfl rfl ?_
    refine q_iconst (pc' := 211) (z := (3 : Int32)) X hx (hb hby at_210) rfl rfl ?_
    refine q_icmpNo (pc' := 214) X hx (hb hby at_211) (by decide) rfl ?_
    refine q_aload (pc' := 216) X hx (hb hby at_214) rfl hr_vv_3 rfl ?_
    refine q_goto (pc' := 221) X hx (hb hby at_216) (by decide) (by decide) ?_
    refine q_astore (pc' := 223) (l' := #[.val (.int p1), .val (.int p2), .val (.int p3), .val (.int p4), .val (.int p5), .val (.int p6), .val (.int (3 : Int32)), .val vv_1, .val vv_3, .val vv_5, .val vv_7, .val (.ref b42_8), .val vv_5, .val (.int (1 : Int32)), .val vv_3]) X hx (hb hby at_221) hr_vv_3 (by rcases ref_cases hr_vv_3 with rfl | ⟨_, rfl⟩ <;> rfl) rfl ?_
    refine q_iload (pc' := 225) X hx (hb hby at_223) rfl rfl ?_
    refine q_ifNo (pc' := 228) X hx (hb hby at_225) (by decide) rfl ?_
    refine q_aload (pc' := 230) X hx (hb hby at_228) rfl rfl rfl ?_
    have ub_b42_8 := fun r (E : Exa Z _ r "java/lang/Integer") => (ne_exa E E_b42_8 (by decide) : r ≠ b42_8)
    have ub_b22_4_c10 := fun r (E : Exa Z _ r "java/lang/Integer") => (Exa.neArv E V_b22_4_c10 (t60 hw) : r ≠ b22_4_c10)
    refine q_callV (pc' := 233) (y := y10) (rest := []) X hx hZ hown (hb hby at_230) (t38 hw) (t39 hw) (t41 hw) (t40 hw) (t13 hw) (t42 hw) (by decide) eT E_b42_8 [] (c13_pop hw wd (p2) (p3) O hr_vv_3 hr_vv_1 B_vv_1 B_vv_3 V_b6_0_c10 Ov_b6_0_c10 E_b42_8 F_locals_b42_8 F_stack_b42_8 F_depth_b42_8 V_b22_4_c10 Ov_b22_4_c10 g_b42_8 ne_b6_0_c10_b22_4_c10 g_b22_4_c10) (by rw [hml]; rfl) (lenOf pd_9 rfl) (W := 0) rfl (by decide) (by decide) (by decide) (by decide) rfl ?_
    rintro _ T _ X ⟨rfl, NL, KL, E_b42_8, F_locals_b42_8, F_stack_b42_8, F_depth_b42_8, V_b22_4_c10⟩
    have N := N.app NL
    obtain ⟨h_25, eT⟩ : ∃ z, T.heap = z := ⟨_, rfl⟩
    rw [eT] at KL E_b42_8 F_locals_b42_8 F_stack_b42_8 F_depth_b42_8 V_b22_4_c10
    have O := ext_keep O KL (allS g_b42_8 (allS g_b22_4_c10 all0))
    have B_vv_1 := B_vv_1.keep KL (fun r E => (ninS (ub_b42_8 r E) (ninS (ub_b22_4_c10 r E) nin0)))
    have B_vv_3 := B_vv_3.keep KL (fun r E => (ninS (ub_b42_8 r E) (ninS (ub_b22_4_c10 r E) nin0)))
    have B_vv_5 := B_vv_5.keep KL (fun r E => (ninS (ub_b42_8 r E) (ninS (ub_b22_4_c10 r E) nin0)))
    have B_vv_7 := B_vv_7.keep KL (fun r E => (ninS (ub_b42_8 r E) (ninS (ub_b22_4_c10 r E) nin0)))
    have V_b6_0_c10 := V_b6_0_c10.keep KL (ninS (Ne.symm ne_b42_8_b6_0_c10) (ninS ne_b6_0_c10_b22_4_c10 nin0))
    show Run p e below _ (T.setTop (mkF m 233 _ [vv_3]))
    refine q_cast (pc' := 236) X hx hZ hown (hb hby at_233) (t47 hw) eT (B_vv_3.ins (t48 hw)) rfl ?_
    intro T X eT
    refine q_aload (pc' := 238) X hx (hb hby at_236) rfl hr_vv_3 rfl ?_
    refine q_callC (pc' := 241) (y := y5) (rest := []) X hx hZ hown (hb hby at_238) (t49 hw) (t50 hw) (t2 hw) (t51 hw) (by decide) eT [vv_3, vv_3] (own_same hw wd p3 O hr_vv_3 B_vv_3) (by rw [hml]; rfl) (lenOf pd_10 rfl) (W := 0) rfl (by decide) (by decide) (by decide) (by decide) rfl ?_
    rintro _ T _ X ⟨rfl, rfl, eT⟩
    rw [List.append_nil] at X
    show Run p e below _ (T.setTop (mkF m 241 _ [(.int (1 : Int32))]))
    refine q_ifNo (pc' := 244) X hx (hb hby at_241) (by decide) rfl ?_
    refine q_iconst (pc' := 245) (z := (1 : Int32)) X hx (hb hby at_244) rfl rfl ?_
    refine q_goto (pc' := 249) X hx (hb hby at_245) (by decide) (by decide) ?_
    refine q_istore (pc' := 251) (l' := #[.val (.int p1), .val (.int p2), .val (.int p3), .val (.int p4), .val (.int p5), .val (.int p6), .val (.int (3 : Int32)), .val vv_1, .val vv_3, .val vv_5, .val vv_7, .val (.ref b42_8), .val vv_5, .val (.int (1 : Int32)), .val vv_3]) X hx (hb hby at_249) rfl rfl ?_
    refine q_iload (pc' := 253) X hx (hb hby at_251) rfl rfl ?_
    refine q_iconst (pc' := 254) (z := (3 : Int32)) X hx (hb hby at_253) rfl rfl ?_
    refine q_icmpNo (pc' := 257) X hx (hb hby at_254) (by decide) rfl ?_
    refine q_iload (pc' := 259) X hx (hb hby at_257) rfl rfl ?_
    refine q_ifNo (pc' := 262) X hx (hb hby at_259) (by decide) rfl ?_
    refine q_aload (pc' := 264) X hx (hb hby at_262) rfl rfl rfl ?_
    have ub_b42_8 := fun r (E : Exa Z _ r "java/lang/Integer") => (ne_exa E E_b42_8 (by decide) : r ≠ b42_8)
    have ub_b22_4_c10 := fun r (E : Exa Z _ r "java/lang/Integer") => (Exa.neArv E V_b22_4_c10 (t60 hw) : r ≠ b22_4_c10)
    refine q_callV (pc' := 267) (y := y10) (rest := []) X hx hZ hown (hb hby at_264) (t38 hw) (t39 hw) (t41 hw) (t40 hw) (t13 hw) (t42 hw) (by decide) eT E_b42_8 [] (c10_pop hw wd (p2) O hr_vv_1 B_vv_1 V_b6_0_c10 Ov_b6_0_c10 E_b42_8 F_locals_b42_8 F_stack_b42_8 F_depth_b42_8 V_b22_4_c10 Ov_b22_4_c10 g_b42_8 ne_b6_0_c10_b22_4_c10 g_b22_4_c10) (by rw [hml]; rfl) (lenOf pd_9 rfl) (W := 0) rfl (by decide) (by decide) (by decide) (by decide) rfl ?_
    rintro _ T _ X ⟨rfl, NL, KL, E_b42_8, F_locals_b42_8, F_stack_b42_8, F_depth_b42_8, V_b22_4_c10⟩
    have N := N.app NL
    obtain ⟨h_27, eT⟩ : ∃ z, T.heap = z := ⟨_, rfl⟩
    rw [eT] at KL E_b42_8 F_locals_b42_8 F_stack_b42_8 F_depth_b42_8 V_b22_4_c10
    have O := ext_keep O KL (allS g_b42_8 (allS g_b22_4_c10 all0))
    have B_vv_1 := B_vv_1.keep KL (fun r E => (ninS (ub_b42_8 r E) (ninS (ub_b22_4_c10 r E) nin0)))
    have B_vv_3 := B_vv_3.keep KL (fun r E => (ninS (ub_b42_8 r E) (ninS (ub_b22_4_c10 r E) nin0)))
    have B_vv_5 := B_vv_5.keep KL (fun r E => (ninS (ub_b42_8 r E) (ninS (ub_b22_4_c10 r E) nin0)))
    have B_vv_7 := B_vv_7.keep KL (fun r E => (ninS (ub_b42_8 r E) (ninS (ub_b22_4_c10 r E) nin0)))
    have V_b6_0_c10 := V_b6_0_c10.keep KL (ninS (Ne.symm ne_b42_8_b6_0_c10) (ninS ne_b6_0_c10_b22_4_c10 nin0))
    show Run p e below _ (T.setTop (mkF m 267 _ [vv_1]))
    refine q_cast (pc' := 270) X hx hZ hown (hb hby at_267) (t47 hw) eT (B_vv_1.ins (t48 hw)) rfl ?_
    intro T X eT
    refine q_aload (pc' := 272) X hx (hb hby at_270) rfl hr_vv_1 rfl ?_
    refine q_callC (pc' := 275) (y := y5) (rest := []) X hx hZ hown (hb hby at_272) (t49 hw) (t50 hw) (t2 hw) (t51 hw) (by decide) eT [vv_1, vv_1] (own_same hw wd p2 O hr_vv_1 B_vv_1) (by rw [hml]; rfl) (lenOf pd_10 rfl) (W := 0) rfl (by decide) (by decide) (by decide) (by decide) rfl ?_
    rintro _ T _ X ⟨rfl, rfl, eT⟩
    rw [List.append_nil] at X
    show Run p e below _ (T.setTop (mkF m 275 _ [(.int (1 : Int32))]))
    refine q_ifNo (pc' := 278) X hx (hb hby at_275) (by decide) rfl ?_
    refine q_iconst (pc' := 279) (z := (1 : Int32)) X hx (hb hby at_278) rfl rfl ?_
    refine q_goto (pc' := 283) X hx (hb hby at_279) (by decide) (by decide) ?_
    refine q_istore (pc' := 285) (l' := #[.val (.int p1), .val (.int p2), .val (.int p3), .val (.int p4), .val (.int p5), .val (.int p6), .val (.int (3 : Int32)), .val vv_1, .val vv_3, .val vv_5, .val vv_7, .val (.ref b42_8), .val vv_5, .val (.int (1 : Int32)), .val vv_3]) X hx (hb hby at_283) rfl rfl ?_
    refine q_iload (pc' := 287) X hx (hb hby at_285) rfl rfl ?_
    refine Run.retB X hx hlk hret (hb hby at_287) rfl (by decide) (by decide) ?_
    try rw [eT]
    exact ⟨rfl, N⟩
set_option maxRecDepth 65536 in
set_option maxHeartbeats 40000000 in
theorem comes_1 {Post : Tables → Env → Array Value → State → Outcome → State → Prop} (hpost : ∀ tb e args s v u, (limb_1_1.after args s (.returned v) u = true ∧ limb_1_2.after args s (.returned v) u = true ∧ True) → FrameEnd s (.returned v) u (Jvm.fieldLocs frame_1_writes args s ++ Jvm.arrayLocs frame_1_arrays args s ++ Jvm.staticLocs frame_1_statics s) 24 128 → Post tb e args s (.returned v) u) :
    ArmFor flags0 classFile x code maxLocals ret World_1 tables_1 room_1 Calls_1 rest_1 Pre_1 Post := by
  intro l hfl _ _ p e ha hc hk s m args below hf hA hF happ hP
  obtain ⟨hcalls, hrest, hpre⟩ := hP
  obtain ⟨-, -, -, hnamed, -, -, -, hat⟩ := (Spec.applies_iff hf).mp happ
  obtain ⟨hg, hn⟩ := and_e (Cond.before_iff.mp (show (Jvm.Cond.and given_1 narrow_1).before args s = true from hpre))
  obtain ⟨y0_l, y0_r⟩ := and_e hg
  obtain ⟨y1_l, y1_r⟩ := and_e y0_r
  obtain ⟨y2_l, y2_r⟩ := and_e y1_r
  obtain ⟨y3_l, y3_r⟩ := and_e y2_r
  obtain ⟨y4_l, y4_r⟩ := and_e y3_r
  obtain ⟨y5_l, y5_r⟩ := and_e y4_r
  obtain ⟨w0, w1, w2, w3, w4, w5, rfl⟩ : ∃ w0 w1 w2 w3 w4 w5 : Value, args = #[w0, w1, w2, w3, w4, w5] := by
    have hs : args.size = 6 := by simpa [Cond.value, given_1] using y0_l
    obtain ⟨L⟩ := args
    match L, hs with
    | [w0, w1, w2, w3, w4, w5], _ => exact ⟨w0, w1, w2, w3, w4, w5, rfl⟩
  have hw := fun d (hd : d ∈ tables_1) => atoms_spec (ws := Jvm.Cond.code x code maxLocals ret :: tables_1) hat d (List.mem_cons_of_mem _ hd)
  have hfit : Fit s := fun {y c} hc i hi => by
    obtain ⟨ha, rfl⟩ := Array.getElem?_eq_some_iff.mp hc
    have q := List.all_eq_true.mp ((Array.all_eq_true_iff_forall_mem.mp hF) _ (Array.getElem_mem ha)) i (List.mem_range.mpr hi)
    simpa [Array.getElem?_eq_getElem hi] using q
  obtain ⟨hsets, hown0⟩ := atoms_of _ (rest_1_c_eq ▸ (show rest_1_c.before _ s = true from hrest))
  obtain ⟨i0, ei0⟩ := is_v y1_l
  obtain rfl : w0 = (.int i0) := Option.some.inj ei0
  obtain ⟨i1, ei1⟩ := is_v y2_l
  obtain rfl : w1 = (.int i1) := Option.some.inj ei1
  obtain ⟨i2, ei2⟩ := is_v y3_l
  obtain rfl : w2 = (.int i2) := Option.some.inj ei2
  obtain ⟨i3, ei3⟩ := is_v y4_l
  obtain rfl : w3 = (.int i3) := Option.some.inj ei3
  obtain ⟨i4, ei4⟩ := is_v y5_l
  obtain rfl : w4 = (.int i4) := Option.some.inj ei4
  obtain ⟨i5, ei5⟩ := is_v y5_r
  obtain rfl : w5 = (.int i5) := Option.some.inj ei5
  obtain ⟨w_cache, ev_w_cache⟩ := exa_v (Cond.before_iff.mp (hsets _ (List.mem_of_getElem? (i := 5) rfl)))
  obtain ⟨cl_w_cache, Ar_w_cache⟩ := Arr.start ev_w_cache (Cond.before_iff.mp (hsets _ (List.mem_of_getElem? (i := 4) rfl)))
  have wd : World s w_cache cl_w_cache := ⟨(Sta.start ev_w_cache (Or.inr ⟨(t9 hw), (hsets _ (List.mem_of_getElem? (i := 2) rfl))⟩)), (Exa.start ev_w_cache (Cond.before_iff.mp (hsets _ (List.mem_of_getElem? (i := 5) rfl)))), (Sta.start (eqv_i (Term.int_eval (127 : Int32)) (Cond.before_iff.mp (hsets _ (List.mem_of_getElem? (i := 3) rfl)))) (Or.inl (hsets _ (List.mem_of_getElem? (i := 1) rfl)))), (cache_start (fun _ => ev_w_cache) Ar_w_cache (Cond.before_iff.mp (hsets _ (List.mem_of_getElem? (i := 6) rfl))) (Cond.before_iff.mp (hsets _ (List.mem_of_getElem? (i := 7) rfl))))⟩
  obtain ⟨n, o, h1, h2, h3, _, L, rfl, ⟨rfl, N⟩, hq⟩ := (law_all hw wd i0 i1 i2 i3 i4 i5 (ext_refl _)) tables_1 p e ha hc hk s m _ below hf ((Spec.applies_iff_loose hf).mp happ).1 ⟨rfl, State.Warmed39.refl s, rfl⟩ trivial
  refine ⟨n, _, h1, h2, h3, hpost _ _ _ _ _ _ ⟨Cond.after_iff.mpr rfl, Cond.after_iff.mpr (eq_i res_at (Term.int_eval (1)) rfl), trivial⟩ ⟨hq.1, hq.2.1, (hq.2.2.sift fun y hy => Or.inr (N y hy)).mono (by decide) (by decide)⟩⟩
theorem main_1_1 : Claimed_1_1 := comes_1 fun _ _ _ _ _ _ h hF => ⟨h.1, hF⟩
theorem main_1_2 : Claimed_1_2 := comes_1 fun _ _ _ _ _ _ h hF => ⟨h.2.1, hF⟩
end Jvm.Pilot.@@N@@
namespace Jvm.Pilot.@@N@@
open Jvm Jvm.ClassFile Sem Op Lib Jvm.Free Jvm.Stand Jvm.Pilot.@@N@@.Jvm.D
/-! MADE BY PROGRAM (witnessworld.py) out of the Statement's table words and the real class files: 18 classes; the members and pool entries that the words name. The judged class is class 1, her method 3. -/
namespace start1
open Jvm.ClassFile
def u (s : String) : CpInfo := .utf8 (stringToUtf16 s)
/-- a pool by its gaps: so many unusable entries, then the entry; so many at the end -/
def gap : Nat → List CpInfo → List CpInfo
  | 0, r => r
  | n + 1, r => .unusable :: gap n r
def poolList (es : List (Nat × CpInfo)) (last : Nat) : List CpInfo := es.foldr (fun e r => gap e.1 (e.2 :: r)) (gap last [])
def pool (es : List (Nat × CpInfo)) (last : Nat) : Array CpInfo := ⟨poolList es last⟩
def fileOf (pool : Array CpInfo) (this : Nat) (attrs : Array Attribute := #[]) (ms : Array MethodInfo := #[]) (fl : Nat := 33) (sup : Nat := 0) (ifs : Array Nat := #[]) (fds : Array FieldInfo := #[]) : ClassFile where
  minorVersion := 0
  majorVersion := 65
  constantPool := pool
  accessFlags := fl
  thisClass := this
  superClass := sup
  interfaces := ifs
  fields := fds
  methods := ms
  attributes := attrs
def plain (name : String) (sup : Option ClassId) : Class where
  name := name
  kind := .ordinary
  loader := none
  accessFlags := 33
  super := sup
  interfaces := #[]
  cf := none
  fields := #[]
  methods := #[]
  instanceTypes := #[]
  staticTypes := #[]
  resolved := #[]
  callSites := []
  init := .initialized
  statics := none
  mirror := none

def pool0 : Array CpInfo := pool [(5, u "<init>"), (0, u "()V"), (1, .class_ 10), (1, u "java/lang/Object")] 113

def k0c0 : Code := { maxStack := 0, maxLocals := 1, code := object_method_1_code, exceptionTable := #[], attributes := #[] }
def k0m0 : Method := { name := "<init>", desc := "()V", sig := { parameters := [], returnType := none }, accessFlags := 1, code := some k0c0 }
/-- java/lang/Object -/
def k0 : Class := { plain "java/lang/Object" none with
  accessFlags := 33
  interfaces := #[]
  cf := some (fileOf pool0 8 #[] #[{ accessFlags := 1, nameIndex := 5, descriptorIndex := 6, attributes := #[] }] 33 0 #[] #[])
  fields := #[]
  methods := #[k0m0]
  instanceTypes := #[]
  staticTypes := #[]
  resolved := Array.replicate 124 none
  statics := none }

def pool1 : Array CpInfo := pool [(2, .class_ 4), (1, u "java/lang/Object"), (0, u "<init>"), (0, u "()V"), (0, .methodref 8 9), (0, .class_ 10), (0, .nameAndType 11 12), (0, u "java/lang/Integer"), (0, u "intValue"), (0, u "()I"), (0, .methodref 8 14), (0, .nameAndType 15 16), (0, u "valueOf"), (0, u "(I)Ljava/lang/Integer;"), (0, .methodref 18 19), (0, .class_ 20), (0, .nameAndType 21 22), (0, u "com/example/callweave/callweave/FramePopPinLaw"), (0, u "word"), (0, u "(III)Ljava/lang/Integer;"), (0, .class_ 24), (0, u "com/example/callweave/callweave/Frame"), (0, .methodref 23 26), (0, .nameAndType 5 27), (0, u "(IILjava/lang/Object;)V"), (0, .methodref 23 29), (0, .nameAndType 30 31), (0, u "push"), (0, u "(Ljava/lang/Object;)V"), (0, .methodref 23 33), (0, .nameAndType 34 35), (0, u "pop"), (0, u "()Ljava/lang/Object;"), (0, .methodref 18 37), (0, .nameAndType 38 39), (0, u "same"), (0, u "(Ljava/lang/Integer;Ljava/lang/Integer;)Z"), (3, u "law"), (0, u "(IIIIII)Z")] 2

def k1m0 : Method := { name := "<init>", desc := "()V", sig := { parameters := [], returnType := none }, accessFlags := 1, code := none }
def k1c1 : Code := { maxStack := 2, maxLocals := 2, code := method_2_code, exceptionTable := #[], attributes := #[] }
def k1m1 : Method := { name := "same", desc := "(Ljava/lang/Integer;Ljava/lang/Integer;)Z", sig := { parameters := [(.object "java/lang/Integer"), (.object "java/lang/Integer")], returnType := some .boolean }, accessFlags := 10, code := some k1c1 }
def k1c2 : Code := { maxStack := 2, maxLocals := 3, code := method_3_code, exceptionTable := #[], attributes := #[] }
def k1m2 : Method := { name := "word", desc := "(III)Ljava/lang/Integer;", sig := { parameters := [.int, .int, .int], returnType := some (.object "java/lang/Integer") }, accessFlags := 10, code := some k1c2 }
def k1c3 : Code := { maxStack := 5, maxLocals := 15, code := code, exceptionTable := #[], attributes := #[] }
def k1m3 : Method := { name := "law", desc := "(IIIIII)Z", sig := { parameters := [.int, .int, .int, .int, .int, .int], returnType := some .boolean }, accessFlags := 9, code := some k1c3 }
/-- com/example/callweave/callweave/FramePopPinLaw -/
def k1 : Class := { plain "com/example/callweave/callweave/FramePopPinLaw" (some 0) with
  accessFlags := 49
  interfaces := #[]
  cf := some (fileOf pool1 18 #[] #[{ accessFlags := 1, nameIndex := 5, descriptorIndex := 6, attributes := #[] }, { accessFlags := 10, nameIndex := 38, descriptorIndex := 39, attributes := #[] }, { accessFlags := 10, nameIndex := 21, descriptorIndex := 22, attributes := #[] }, { accessFlags := 9, nameIndex := 43, descriptorIndex := 44, attributes := #[] }] 49 2 #[] #[])
  fields := #[]
  methods := #[k1m0, k1m1, k1m2, k1m3]
  instanceTypes := #[]
  staticTypes := #[]
  resolved := Array.replicate 47 none
  statics := none }

def pool2 : Array CpInfo := pool [(1, .class_ 2), (0, u "java/io/Serializable"), (0, .class_ 4), (0, u "java/lang/Object")] 2

/-- java/io/Serializable -/
def k2 : Class := { plain "java/io/Serializable" (some 0) with
  accessFlags := 1537
  interfaces := #[]
  cf := some (fileOf pool2 1 #[] #[] 1537 3 #[] #[])
  fields := #[]
  methods := #[]
  instanceTypes := #[]
  staticTypes := #[]
  resolved := Array.replicate 7 none
  statics := none }

def pool3 : Array CpInfo := pool [(1, .methodref 2 3), (0, .class_ 4), (0, .nameAndType 5 6), (0, u "java/lang/Object"), (0, u "<init>"), (0, u "()V"), (1, .class_ 10), (1, u "java/lang/Number"), (2, .class_ 14), (0, u "java/io/Serializable"), (0, u "serialVersionUID"), (0, u "J")] 20

def k3c0 : Code := { maxStack := 1, maxLocals := 1, code := jdk_18_method_1_code, exceptionTable := #[], attributes := #[] }
def k3m0 : Method := { name := "<init>", desc := "()V", sig := { parameters := [], returnType := none }, accessFlags := 1, code := some k3c0 }
/-- java/lang/Number -/
def k3 : Class := { plain "java/lang/Number" (some 0) with
  accessFlags := 1057
  interfaces := #[2]
  cf := some (fileOf pool3 8 #[] #[{ accessFlags := 1, nameIndex := 5, descriptorIndex := 6, attributes := #[] }] 1057 2 #[13] #[{ accessFlags := 26, nameIndex := 15, descriptorIndex := 16, attributes := #[] }])
  fields := #[{ name := "serialVersionUID", type := .long, accessFlags := 26, slot := 0, constantValue := 0 }]
  methods := #[k3m0]
  instanceTypes := #[]
  staticTypes := #[.long]
  resolved := Array.replicate 37 none
  statics := none }

def pool4 : Array CpInfo := pool [(1, .class_ 2), (0, u "java/lang/Comparable"), (0, .class_ 4), (0, u "java/lang/Object")] 7

/-- java/lang/Comparable -/
def k4 : Class := { plain "java/lang/Comparable" (some 0) with
  accessFlags := 1537
  interfaces := #[]
  cf := some (fileOf pool4 1 #[] #[] 1537 3 #[] #[])
  fields := #[]
  methods := #[]
  instanceTypes := #[]
  staticTypes := #[]
  resolved := Array.replicate 12 none
  statics := none }

def pool5 : Array CpInfo := pool [(1, .class_ 2), (0, u "java/lang/constant/Constable"), (0, .class_ 4), (0, u "java/lang/Object")] 6

/-- java/lang/constant/Constable -/
def k5 : Class := { plain "java/lang/constant/Constable" (some 0) with
  accessFlags := 1537
  interfaces := #[]
  cf := some (fileOf pool5 1 #[] #[] 1537 3 #[] #[])
  fields := #[]
  methods := #[]
  instanceTypes := #[]
  staticTypes := #[]
  resolved := Array.replicate 11 none
  statics := none }

def pool6 : Array CpInfo := pool [(1, .class_ 2), (0, u "java/lang/constant/ConstantDesc"), (0, .class_ 4), (0, u "java/lang/Object")] 32

/-- java/lang/constant/ConstantDesc -/
def k6 : Class := { plain "java/lang/constant/ConstantDesc" (some 0) with
  accessFlags := 1537
  interfaces := #[]
  cf := some (fileOf pool6 1 #[] #[] 1537 3 #[] #[])
  fields := #[]
  methods := #[]
  instanceTypes := #[]
  staticTypes := #[]
  resolved := Array.replicate 37 none
  statics := none }

def pool7 : Array CpInfo := pool [(1, .class_ 2), (0, u "java/lang/Integer"), (16, u "digits"), (0, u "[C"), (46, u "<init>"), (17, u "DigitOnes"), (0, u "[B"), (2, u "DigitTens"), (10, .nameAndType 67 101), (0, u "()V"), (19, u "()I"), (65, u "valueOf"), (0, u "(I)Ljava/lang/Integer;"), (0, .class_ 190), (0, u "java/lang/Integer$IntegerCache"), (0, .fieldref 189 192), (0, .nameAndType 193 194), (0, u "high"), (0, u "I"), (0, .fieldref 189 196), (0, .nameAndType 197 198), (0, u "cache"), (0, u "[Ljava/lang/Integer;"), (0, .methodref 1 200), (0, .nameAndType 67 201), (0, u "(I)V"), (0, .methodref 203 100), (0, .class_ 204), (0, u "java/lang/Number"), (0, .fieldref 1 206), (0, .nameAndType 207 194), (0, u "value"), (5, u "intValue"), (88, u "TYPE"), (0, u "Ljava/lang/Class;"), (0, .class_ 305), (0, u "java/lang/Comparable"), (0, .class_ 307), (0, u "java/lang/constant/Constable"), (0, .class_ 309), (0, u "java/lang/constant/ConstantDesc"), (0, u "MIN_VALUE"), (1, u "MAX_VALUE"), (3, u "SIZE"), (1, u "BYTES"), (1, u "serialVersionUID"), (0, u "J")] 131

def k7c0 : Code := { maxStack := 3, maxLocals := 1, code := jdk_33_method_22_code, exceptionTable := #[], attributes := #[] }
def k7m0 : Method := { name := "valueOf", desc := "(I)Ljava/lang/Integer;", sig := { parameters := [.int], returnType := some (.object "java/lang/Integer") }, accessFlags := 9, code := some k7c0 }
def k7c1 : Code := { maxStack := 2, maxLocals := 2, code := jdk_33_method_23_code, exceptionTable := #[], attributes := #[] }
def k7m1 : Method := { name := "<init>", desc := "(I)V", sig := { parameters := [.int], returnType := none }, accessFlags := 1, code := some k7c1 }
def k7c2 : Code := { maxStack := 1, maxLocals := 1, code := jdk_33_method_27_code, exceptionTable := #[], attributes := #[] }
def k7m2 : Method := { name := "intValue", desc := "()I", sig := { parameters := [], returnType := some .int }, accessFlags := 1, code := some k7c2 }
/-- java/lang/Integer -/
def k7 : Class := { plain "java/lang/Integer" (some 3) with
  accessFlags := 49
  interfaces := #[4, 5, 6]
  cf := some (fileOf pool7 1 #[.nestMembers #[189]] #[{ accessFlags := 9, nameIndex := 187, descriptorIndex := 188, attributes := #[] }, { accessFlags := 1, nameIndex := 67, descriptorIndex := 201, attributes := #[] }, { accessFlags := 1, nameIndex := 213, descriptorIndex := 121, attributes := #[] }] 49 203 #[304, 306, 308] #[{ accessFlags := 25, nameIndex := 310, descriptorIndex := 194, attributes := #[] }, { accessFlags := 25, nameIndex := 312, descriptorIndex := 194, attributes := #[] }, { accessFlags := 25, nameIndex := 302, descriptorIndex := 303, attributes := #[] }, { accessFlags := 24, nameIndex := 19, descriptorIndex := 20, attributes := #[] }, { accessFlags := 24, nameIndex := 89, descriptorIndex := 86, attributes := #[] }, { accessFlags := 24, nameIndex := 85, descriptorIndex := 86, attributes := #[] }, { accessFlags := 18, nameIndex := 207, descriptorIndex := 194, attributes := #[] }, { accessFlags := 25, nameIndex := 316, descriptorIndex := 194, attributes := #[] }, { accessFlags := 25, nameIndex := 318, descriptorIndex := 194, attributes := #[] }, { accessFlags := 26, nameIndex := 320, descriptorIndex := 321, attributes := #[] }])
  fields := #[{ name := "MIN_VALUE", type := .int, accessFlags := 25, slot := 0, constantValue := 0 }, { name := "MAX_VALUE", type := .int, accessFlags := 25, slot := 1, constantValue := 0 }, { name := "TYPE", type := (.object "java/lang/Class"), accessFlags := 25, slot := 2, constantValue := 0 }, { name := "digits", type := (.array .char), accessFlags := 24, slot := 3, constantValue := 0 }, { name := "DigitTens", type := (.array .byte), accessFlags := 24, slot := 4, constantValue := 0 }, { name := "DigitOnes", type := (.array .byte), accessFlags := 24, slot := 5, constantValue := 0 }, { name := "value", type := .int, accessFlags := 18, slot := 0, constantValue := 0 }, { name := "SIZE", type := .int, accessFlags := 25, slot := 6, constantValue := 0 }, { name := "BYTES", type := .int, accessFlags := 25, slot := 7, constantValue := 0 }, { name := "serialVersionUID", type := .long, accessFlags := 26, slot := 8, constantValue := 0 }]
  methods := #[k7m0, k7m1, k7m2]
  instanceTypes := #[.int]
  staticTypes := #[.int, .int, (.object "java/lang/Class"), (.array .char), (.array .byte), (.array .byte), .int, .int, .long]
  resolved := Array.replicate 453 none
  statics := none }

def pool8 : Array CpInfo := pool [(2, .class_ 4), (1, u "java/lang/Object"), (0, u "<init>"), (0, u "()V"), (0, .class_ 8), (0, u "java/lang/Integer"), (7, .class_ 18), (1, u "java/lang/Integer$IntegerCache"), (0, u "$assertionsDisabled"), (0, u "Z"), (26, u "high"), (0, u "I"), (8, u "archivedCache"), (0, u "[Ljava/lang/Integer;"), (12, u "cache"), (0, u "low")] 27

def k8m0 : Method := { name := "<init>", desc := "()V", sig := { parameters := [], returnType := none }, accessFlags := 2, code := none }
/-- java/lang/Integer$IntegerCache -/
def k8 : Class := { plain "java/lang/Integer$IntegerCache" (some 0) with
  accessFlags := 48
  interfaces := #[]
  cf := some (fileOf pool8 16 #[.nestHost 7] #[{ accessFlags := 2, nameIndex := 5, descriptorIndex := 6, attributes := #[] }] 48 2 #[] #[{ accessFlags := 24, nameIndex := 72, descriptorIndex := 48, attributes := #[] }, { accessFlags := 24, nameIndex := 47, descriptorIndex := 48, attributes := #[] }, { accessFlags := 24, nameIndex := 71, descriptorIndex := 58, attributes := #[] }, { accessFlags := 8, nameIndex := 57, descriptorIndex := 58, attributes := #[] }, { accessFlags := 4120, nameIndex := 19, descriptorIndex := 20, attributes := #[] }])
  fields := #[{ name := "low", type := .int, accessFlags := 24, slot := 0, constantValue := 0 }, { name := "high", type := .int, accessFlags := 24, slot := 1, constantValue := 0 }, { name := "cache", type := (.array (.object "java/lang/Integer")), accessFlags := 24, slot := 2, constantValue := 0 }, { name := "archivedCache", type := (.array (.object "java/lang/Integer")), accessFlags := 8, slot := 3, constantValue := 0 }, { name := "$assertionsDisabled", type := .boolean, accessFlags := 4120, slot := 4, constantValue := 0 }]
  methods := #[k8m0]
  instanceTypes := #[]
  staticTypes := #[.int, .int, (.array (.object "java/lang/Integer")), (.array (.object "java/lang/Integer")), .boolean]
  resolved := Array.replicate 100 none
  statics := some 0 }

def pool9 : Array CpInfo := pool [(1, .methodref 2 3), (0, .class_ 4), (0, .nameAndType 5 6), (0, u "java/lang/Object"), (0, u "<init>"), (0, u "()V"), (0, .fieldref 8 9), (0, .class_ 10), (0, .nameAndType 11 12), (0, u "com/example/callweave/callweave/Frame"), (0, u "locals"), (0, u "[Ljava/lang/Object;"), (0, .methodref 14 15), (0, .class_ 16), (0, .nameAndType 17 18), (0, u "java/util/Arrays"), (0, u "fill"), (0, u "([Ljava/lang/Object;Ljava/lang/Object;)V"), (0, .fieldref 8 20), (0, .nameAndType 21 12), (0, u "stack"), (4, u "()Ljava/lang/Object;"), (0, .fieldref 8 28), (0, .nameAndType 29 30), (0, u "depth"), (0, u "I"), (12, u "push"), (0, u "(Ljava/lang/Object;)V"), (4, .methodref 8 50), (0, .nameAndType 51 52), (0, u "word"), (0, u "(Ljava/lang/Object;)Ljava/lang/Object;"), (31, u "(IILjava/lang/Object;)V"), (17, u "pop")] 28

def k9c0 : Code := { maxStack := 2, maxLocals := 4, code := prog_8_method_1_code, exceptionTable := #[], attributes := #[] }
def k9m0 : Method := { name := "<init>", desc := "(IILjava/lang/Object;)V", sig := { parameters := [.int, .int, (.object "java/lang/Object")], returnType := none }, accessFlags := 0, code := some k9c0 }
def k9c1 : Code := { maxStack := 5, maxLocals := 2, code := prog_8_method_7_code, exceptionTable := #[], attributes := #[] }
def k9m1 : Method := { name := "push", desc := "(Ljava/lang/Object;)V", sig := { parameters := [(.object "java/lang/Object")], returnType := none }, accessFlags := 0, code := some k9c1 }
def k9c2 : Code := { maxStack := 5, maxLocals := 2, code := prog_8_method_8_code, exceptionTable := #[], attributes := #[] }
def k9m2 : Method := { name := "pop", desc := "()Ljava/lang/Object;", sig := { parameters := [], returnType := some (.object "java/lang/Object") }, accessFlags := 0, code := some k9c2 }
def k9c3 : Code := { maxStack := 1, maxLocals := 2, code := prog_8_method_11_code, exceptionTable := #[], attributes := #[] }
def k9m3 : Method := { name := "word", desc := "(Ljava/lang/Object;)Ljava/lang/Object;", sig := { parameters := [(.object "java/lang/Object")], returnType := some (.object "java/lang/Object") }, accessFlags := 2, code := some k9c3 }
/-- com/example/callweave/callweave/Frame -/
def k9 : Class := { plain "com/example/callweave/callweave/Frame" (some 0) with
  accessFlags := 48
  interfaces := #[]
  cf := some (fileOf pool9 8 #[] #[{ accessFlags := 0, nameIndex := 5, descriptorIndex := 84, attributes := #[] }, { accessFlags := 0, nameIndex := 43, descriptorIndex := 44, attributes := #[] }, { accessFlags := 0, nameIndex := 102, descriptorIndex := 26, attributes := #[] }, { accessFlags := 2, nameIndex := 51, descriptorIndex := 52, attributes := #[] }] 48 2 #[] #[{ accessFlags := 18, nameIndex := 11, descriptorIndex := 12, attributes := #[] }, { accessFlags := 18, nameIndex := 21, descriptorIndex := 12, attributes := #[] }, { accessFlags := 2, nameIndex := 29, descriptorIndex := 30, attributes := #[] }])
  fields := #[{ name := "locals", type := (.array (.object "java/lang/Object")), accessFlags := 18, slot := 0, constantValue := 0 }, { name := "stack", type := (.array (.object "java/lang/Object")), accessFlags := 18, slot := 1, constantValue := 0 }, { name := "depth", type := .int, accessFlags := 2, slot := 2, constantValue := 0 }]
  methods := #[k9m0, k9m1, k9m2, k9m3]
  instanceTypes := #[(.array (.object "java/lang/Object")), (.array (.object "java/lang/Object")), .int]
  staticTypes := #[]
  resolved := Array.replicate 131 none
  statics := none }

def pool10 : Array CpInfo := pool [(2, .class_ 4), (1, u "java/lang/Object"), (0, u "<init>"), (0, u "()V"), (7, .class_ 16), (1, u "java/util/Arrays"), (57, .class_ 76), (1, u "java/util/Arrays$NaturalOrder"), (36, .class_ 115), (1, u "java/util/Arrays$LegacyMergeSort"), (1, u "Z"), (257, .class_ 376), (0, u "java/util/Arrays$ArrayList"), (68, u "$assertionsDisabled"), (269, u "MIN_ARRAY_SORT_GRAN"), (0, u "I"), (2, u "INSERTIONSORT_THRESHOLD"), (120, u "fill"), (17, u "([Ljava/lang/Object;Ljava/lang/Object;)V"), (116, .class_ 976), (0, u "java/util/Arrays$ArrayItr")] 52

def k10m0 : Method := { name := "<init>", desc := "()V", sig := { parameters := [], returnType := none }, accessFlags := 2, code := none }
def k10c1 : Code := { maxStack := 3, maxLocals := 4, code := jdk_65_method_117_code, exceptionTable := #[], attributes := #[] }
def k10m1 : Method := { name := "fill", desc := "([Ljava/lang/Object;Ljava/lang/Object;)V", sig := { parameters := [(.array (.object "java/lang/Object")), (.object "java/lang/Object")], returnType := none }, accessFlags := 9, code := some k10c1 }
/-- java/util/Arrays -/
def k10 : Class := { plain "java/util/Arrays" (some 0) with
  accessFlags := 49
  interfaces := #[]
  cf := some (fileOf pool10 14 #[.nestMembers #[975, 375, 113, 74]] #[{ accessFlags := 2, nameIndex := 5, descriptorIndex := 6, attributes := #[] }, { accessFlags := 9, nameIndex := 840, descriptorIndex := 858, attributes := #[] }] 49 2 #[] #[{ accessFlags := 26, nameIndex := 715, descriptorIndex := 716, attributes := #[] }, { accessFlags := 26, nameIndex := 719, descriptorIndex := 716, attributes := #[] }, { accessFlags := 4120, nameIndex := 445, descriptorIndex := 117, attributes := #[] }])
  fields := #[{ name := "MIN_ARRAY_SORT_GRAN", type := .int, accessFlags := 26, slot := 0, constantValue := 0 }, { name := "INSERTIONSORT_THRESHOLD", type := .int, accessFlags := 26, slot := 1, constantValue := 0 }, { name := "$assertionsDisabled", type := .boolean, accessFlags := 4120, slot := 2, constantValue := 0 }]
  methods := #[k10m0, k10m1]
  instanceTypes := #[]
  staticTypes := #[.int, .int, .boolean]
  resolved := Array.replicate 1029 none
  statics := none }

def pool11 : Array CpInfo := pool [(1, u "java/lang/Cloneable"), (0, .class_ 1), (0, u "java/lang/Object"), (0, .class_ 3)] 3

/-- java/lang/Cloneable -/
def k11 : Class := { plain "java/lang/Cloneable" (some 0) with
  accessFlags := 1537
  interfaces := #[]
  cf := some (fileOf pool11 2 #[] #[] 1537 4 #[] #[])
  fields := #[]
  methods := #[]
  instanceTypes := #[]
  staticTypes := #[]
  resolved := Array.replicate 8 none
  statics := none }

/-- the primitive byte -/
def k12 : Class := { plain "byte" none with kind := .primitive 'B', accessFlags := 0x411 }
/-- [B -/
def k13 : Class := { plain "[B" (some 0) with kind := .array 12 .byte, interfaces := #[11, 2], accessFlags := 1041 }

/-- the primitive int -/
def k14 : Class := { plain "int" none with kind := .primitive 'I', accessFlags := 0x411 }
/-- [I -/
def k15 : Class := { plain "[I" (some 0) with kind := .array 14 .int, interfaces := #[11, 2], accessFlags := 1041 }

/-- [Ljava/lang/Integer; -/
def k16 : Class := { plain "[Ljava/lang/Integer;" (some 0) with kind := .array 7 (.object "java/lang/Integer"), interfaces := #[11, 2], accessFlags := 1041 }

/-- [Ljava/lang/Object; -/
def k17 : Class := { plain "[Ljava/lang/Object;" (some 0) with kind := .array 0 (.object "java/lang/Object"), interfaces := #[11, 2], accessFlags := 1041 }

def heap : Heap := #[{ cls := 8, slots := #[.int 0, .int 127, .ref 1, .null, .int 0], vm := .statics 8 },
  { cls := 16, slots := #[.ref 2, .ref 3, .ref 4, .ref 5, .ref 6, .ref 7, .ref 8, .ref 9, .ref 10, .ref 11, .ref 12, .ref 13, .ref 14, .ref 15, .ref 16, .ref 17, .ref 18, .ref 19, .ref 20, .ref 21, .ref 22, .ref 23, .ref 24, .ref 25, .ref 26, .ref 27, .ref 28, .ref 29, .ref 30, .ref 31, .ref 32, .ref 33, .ref 34, .ref 35, .ref 36, .ref 37, .ref 38, .ref 39, .ref 40, .ref 41, .ref 42, .ref 43, .ref 44, .ref 45, .ref 46, .ref 47, .ref 48, .ref 49, .ref 50, .ref 51, .ref 52, .ref 53, .ref 54, .ref 55, .ref 56, .ref 57, .ref 58, .ref 59, .ref 60, .ref 61, .ref 62, .ref 63, .ref 64, .ref 65, .ref 66, .ref 67, .ref 68, .ref 69, .ref 70, .ref 71, .ref 72, .ref 73, .ref 74, .ref 75, .ref 76, .ref 77, .ref 78, .ref 79, .ref 80, .ref 81, .ref 82, .ref 83, .ref 84, .ref 85, .ref 86, .ref 87, .ref 88, .ref 89, .ref 90, .ref 91, .ref 92, .ref 93, .ref 94, .ref 95, .ref 96, .ref 97, .ref 98, .ref 99, .ref 100, .ref 101, .ref 102, .ref 103, .ref 104, .ref 105, .ref 106, .ref 107, .ref 108, .ref 109, .ref 110, .ref 111, .ref 112, .ref 113, .ref 114, .ref 115, .ref 116, .ref 117, .ref 118, .ref 119, .ref 120, .ref 121, .ref 122, .ref 123, .ref 124, .ref 125, .ref 126, .ref 127, .ref 128, .ref 129, .ref 130, .ref 131, .ref 132, .ref 133, .ref 134, .ref 135, .ref 136, .ref 137, .ref 138, .ref 139, .ref 140, .ref 141, .ref 142, .ref 143, .ref 144, .ref 145, .ref 146, .ref 147, .ref 148, .ref 149, .ref 150, .ref 151, .ref 152, .ref 153, .ref 154, .ref 155, .ref 156, .ref 157, .ref 158, .ref 159, .ref 160, .ref 161, .ref 162, .ref 163, .ref 164, .ref 165, .ref 166, .ref 167, .ref 168, .ref 169, .ref 170, .ref 171, .ref 172, .ref 173, .ref 174, .ref 175, .ref 176, .ref 177, .ref 178, .ref 179, .ref 180, .ref 181, .ref 182, .ref 183, .ref 184, .ref 185, .ref 186, .ref 187, .ref 188, .ref 189, .ref 190, .ref 191, .ref 192, .ref 193, .ref 194, .ref 195, .ref 196, .ref 197, .ref 198, .ref 199, .ref 200, .ref 201, .ref 202, .ref 203, .ref 204, .ref 205, .ref 206, .ref 207, .ref 208, .ref 209, .ref 210, .ref 211, .ref 212, .ref 213, .ref 214, .ref 215, .ref 216, .ref 217, .ref 218, .ref 219, .ref 220, .ref 221, .ref 222, .ref 223, .ref 224, .ref 225, .ref 226, .ref 227, .ref 228, .ref 229, .ref 230, .ref 231, .ref 232, .ref 233, .ref 234, .ref 235, .ref 236, .ref 237, .ref 238, .ref 239, .ref 240, .ref 241, .ref 242, .ref 243, .ref 244, .ref 245, .ref 246, .ref 247, .ref 248, .ref 249, .ref 250, .ref 251, .ref 252, .ref 253, .ref 254, .ref 255, .ref 256, .ref 257], vm := .none },
  { cls := 7, slots := #[.int (-128)], vm := .none },
  { cls := 7, slots := #[.int (-127)], vm := .none },
  { cls := 7, slots := #[.int (-126)], vm := .none },
  { cls := 7, slots := #[.int (-125)], vm := .none },
  { cls := 7, slots := #[.int (-124)], vm := .none },
  { cls := 7, slots := #[.int (-123)], vm := .none },
  { cls := 7, slots := #[.int (-122)], vm := .none },
  { cls := 7, slots := #[.int (-121)], vm := .none },
  { cls := 7, slots := #[.int (-120)], vm := .none },
  { cls := 7, slots := #[.int (-119)], vm := .none },
  { cls := 7, slots := #[.int (-118)], vm := .none },
  { cls := 7, slots := #[.int (-117)], vm := .none },
  { cls := 7, slots := #[.int (-116)], vm := .none },
  { cls := 7, slots := #[.int (-115)], vm := .none },
  { cls := 7, slots := #[.int (-114)], vm := .none },
  { cls := 7, slots := #[.int (-113)], vm := .none },
  { cls := 7, slots := #[.int (-112)], vm := .none },
  { cls := 7, slots := #[.int (-111)], vm := .none },
  { cls := 7, slots := #[.int (-110)], vm := .none },
  { cls := 7, slots := #[.int (-109)], vm := .none },
  { cls := 7, slots := #[.int (-108)], vm := .none },
  { cls := 7, slots := #[.int (-107)], vm := .none },
  { cls := 7, slots := #[.int (-106)], vm := .none },
  { cls := 7, slots := #[.int (-105)], vm := .none },
  { cls := 7, slots := #[.int (-104)], vm := .none },
  { cls := 7, slots := #[.int (-103)], vm := .none },
  { cls := 7, slots := #[.int (-102)], vm := .none },
  { cls := 7, slots := #[.int (-101)], vm := .none },
  { cls := 7, slots := #[.int (-100)], vm := .none },
  { cls := 7, slots := #[.int (-99)], vm := .none },
  { cls := 7, slots := #[.int (-98)], vm := .none },
  { cls := 7, slots := #[.int (-97)], vm := .none },
  { cls := 7, slots := #[.int (-96)], vm := .none },
  { cls := 7, slots := #[.int (-95)], vm := .none },
  { cls := 7, slots := #[.int (-94)], vm := .none },
  { cls := 7, slots := #[.int (-93)], vm := .none },
  { cls := 7, slots := #[.int (-92)], vm := .none },
  { cls := 7, slots := #[.int (-91)], vm := .none },
  { cls := 7, slots := #[.int (-90)], vm := .none },
  { cls := 7, slots := #[.int (-89)], vm := .none },
  { cls := 7, slots := #[.int (-88)], vm := .none },
  { cls := 7, slots := #[.int (-87)], vm := .none },
  { cls := 7, slots := #[.int (-86)], vm := .none },
  { cls := 7, slots := #[.int (-85)], vm := .none },
  { cls := 7, slots := #[.int (-84)], vm := .none },
  { cls := 7, slots := #[.int (-83)], vm := .none },
  { cls := 7, slots := #[.int (-82)], vm := .none },
  { cls := 7, slots := #[.int (-81)], vm := .none },
  { cls := 7, slots := #[.int (-80)], vm := .none },
  { cls := 7, slots := #[.int (-79)], vm := .none },
  { cls := 7, slots := #[.int (-78)], vm := .none },
  { cls := 7, slots := #[.int (-77)], vm := .none },
  { cls := 7, slots := #[.int (-76)], vm := .none },
  { cls := 7, slots := #[.int (-75)], vm := .none },
  { cls := 7, slots := #[.int (-74)], vm := .none },
  { cls := 7, slots := #[.int (-73)], vm := .none },
  { cls := 7, slots := #[.int (-72)], vm := .none },
  { cls := 7, slots := #[.int (-71)], vm := .none },
  { cls := 7, slots := #[.int (-70)], vm := .none },
  { cls := 7, slots := #[.int (-69)], vm := .none },
  { cls := 7, slots := #[.int (-68)], vm := .none },
  { cls := 7, slots := #[.int (-67)], vm := .none },
  { cls := 7, slots := #[.int (-66)], vm := .none },
  { cls := 7, slots := #[.int (-65)], vm := .none },
  { cls := 7, slots := #[.int (-64)], vm := .none },
  { cls := 7, slots := #[.int (-63)], vm := .none },
  { cls := 7, slots := #[.int (-62)], vm := .none },
  { cls := 7, slots := #[.int (-61)], vm := .none },
  { cls := 7, slots := #[.int (-60)], vm := .none },
  { cls := 7, slots := #[.int (-59)], vm := .none },
  { cls := 7, slots := #[.int (-58)], vm := .none },
  { cls := 7, slots := #[.int (-57)], vm := .none },
  { cls := 7, slots := #[.int (-56)], vm := .none },
  { cls := 7, slots := #[.int (-55)], vm := .none },
  { cls := 7, slots := #[.int (-54)], vm := .none },
  { cls := 7, slots := #[.int (-53)], vm := .none },
  { cls := 7, slots := #[.int (-52)], vm := .none },
  { cls := 7, slots := #[.int (-51)], vm := .none },
  { cls := 7, slots := #[.int (-50)], vm := .none },
  { cls := 7, slots := #[.int (-49)], vm := .none },
  { cls := 7, slots := #[.int (-48)], vm := .none },
  { cls := 7, slots := #[.int (-47)], vm := .none },
  { cls := 7, slots := #[.int (-46)], vm := .none },
  { cls := 7, slots := #[.int (-45)], vm := .none },
  { cls := 7, slots := #[.int (-44)], vm := .none },
  { cls := 7, slots := #[.int (-43)], vm := .none },
  { cls := 7, slots := #[.int (-42)], vm := .none },
  { cls := 7, slots := #[.int (-41)], vm := .none },
  { cls := 7, slots := #[.int (-40)], vm := .none },
  { cls := 7, slots := #[.int (-39)], vm := .none },
  { cls := 7, slots := #[.int (-38)], vm := .none },
  { cls := 7, slots := #[.int (-37)], vm := .none },
  { cls := 7, slots := #[.int (-36)], vm := .none },
  { cls := 7, slots := #[.int (-35)], vm := .none },
  { cls := 7, slots := #[.int (-34)], vm := .none },
  { cls := 7, slots := #[.int (-33)], vm := .none },
  { cls := 7, slots := #[.int (-32)], vm := .none },
  { cls := 7, slots := #[.int (-31)], vm := .none },
  { cls := 7, slots := #[.int (-30)], vm := .none },
  { cls := 7, slots := #[.int (-29)], vm := .none },
  { cls := 7, slots := #[.int (-28)], vm := .none },
  { cls := 7, slots := #[.int (-27)], vm := .none },
  { cls := 7, slots := #[.int (-26)], vm := .none },
  { cls := 7, slots := #[.int (-25)], vm := .none },
  { cls := 7, slots := #[.int (-24)], vm := .none },
  { cls := 7, slots := #[.int (-23)], vm := .none },
  { cls := 7, slots := #[.int (-22)], vm := .none },
  { cls := 7, slots := #[.int (-21)], vm := .none },
  { cls := 7, slots := #[.int (-20)], vm := .none },
  { cls := 7, slots := #[.int (-19)], vm := .none },
  { cls := 7, slots := #[.int (-18)], vm := .none },
  { cls := 7, slots := #[.int (-17)], vm := .none },
  { cls := 7, slots := #[.int (-16)], vm := .none },
  { cls := 7, slots := #[.int (-15)], vm := .none },
  { cls := 7, slots := #[.int (-14)], vm := .none },
  { cls := 7, slots := #[.int (-13)], vm := .none },
  { cls := 7, slots := #[.int (-12)], vm := .none },
  { cls := 7, slots := #[.int (-11)], vm := .none },
  { cls := 7, slots := #[.int (-10)], vm := .none },
  { cls := 7, slots := #[.int (-9)], vm := .none },
  { cls := 7, slots := #[.int (-8)], vm := .none },
  { cls := 7, slots := #[.int (-7)], vm := .none },
  { cls := 7, slots := #[.int (-6)], vm := .none },
  { cls := 7, slots := #[.int (-5)], vm := .none },
  { cls := 7, slots := #[.int (-4)], vm := .none },
  { cls := 7, slots := #[.int (-3)], vm := .none },
  { cls := 7, slots := #[.int (-2)], vm := .none },
  { cls := 7, slots := #[.int (-1)], vm := .none },
  { cls := 7, slots := #[.int 0], vm := .none },
  { cls := 7, slots := #[.int 1], vm := .none },
  { cls := 7, slots := #[.int 2], vm := .none },
  { cls := 7, slots := #[.int 3], vm := .none },
  { cls := 7, slots := #[.int 4], vm := .none },
  { cls := 7, slots := #[.int 5], vm := .none },
  { cls := 7, slots := #[.int 6], vm := .none },
  { cls := 7, slots := #[.int 7], vm := .none },
  { cls := 7, slots := #[.int 8], vm := .none },
  { cls := 7, slots := #[.int 9], vm := .none },
  { cls := 7, slots := #[.int 10], vm := .none },
  { cls := 7, slots := #[.int 11], vm := .none },
  { cls := 7, slots := #[.int 12], vm := .none },
  { cls := 7, slots := #[.int 13], vm := .none },
  { cls := 7, slots := #[.int 14], vm := .none },
  { cls := 7, slots := #[.int 15], vm := .none },
  { cls := 7, slots := #[.int 16], vm := .none },
  { cls := 7, slots := #[.int 17], vm := .none },
  { cls := 7, slots := #[.int 18], vm := .none },
  { cls := 7, slots := #[.int 19], vm := .none },
  { cls := 7, slots := #[.int 20], vm := .none },
  { cls := 7, slots := #[.int 21], vm := .none },
  { cls := 7, slots := #[.int 22], vm := .none },
  { cls := 7, slots := #[.int 23], vm := .none },
  { cls := 7, slots := #[.int 24], vm := .none },
  { cls := 7, slots := #[.int 25], vm := .none },
  { cls := 7, slots := #[.int 26], vm := .none },
  { cls := 7, slots := #[.int 27], vm := .none },
  { cls := 7, slots := #[.int 28], vm := .none },
  { cls := 7, slots := #[.int 29], vm := .none },
  { cls := 7, slots := #[.int 30], vm := .none },
  { cls := 7, slots := #[.int 31], vm := .none },
  { cls := 7, slots := #[.int 32], vm := .none },
  { cls := 7, slots := #[.int 33], vm := .none },
  { cls := 7, slots := #[.int 34], vm := .none },
  { cls := 7, slots := #[.int 35], vm := .none },
  { cls := 7, slots := #[.int 36], vm := .none },
  { cls := 7, slots := #[.int 37], vm := .none },
  { cls := 7, slots := #[.int 38], vm := .none },
  { cls := 7, slots := #[.int 39], vm := .none },
  { cls := 7, slots := #[.int 40], vm := .none },
  { cls := 7, slots := #[.int 41], vm := .none },
  { cls := 7, slots := #[.int 42], vm := .none },
  { cls := 7, slots := #[.int 43], vm := .none },
  { cls := 7, slots := #[.int 44], vm := .none },
  { cls := 7, slots := #[.int 45], vm := .none },
  { cls := 7, slots := #[.int 46], vm := .none },
  { cls := 7, slots := #[.int 47], vm := .none },
  { cls := 7, slots := #[.int 48], vm := .none },
  { cls := 7, slots := #[.int 49], vm := .none },
  { cls := 7, slots := #[.int 50], vm := .none },
  { cls := 7, slots := #[.int 51], vm := .none },
  { cls := 7, slots := #[.int 52], vm := .none },
  { cls := 7, slots := #[.int 53], vm := .none },
  { cls := 7, slots := #[.int 54], vm := .none },
  { cls := 7, slots := #[.int 55], vm := .none },
  { cls := 7, slots := #[.int 56], vm := .none },
  { cls := 7, slots := #[.int 57], vm := .none },
  { cls := 7, slots := #[.int 58], vm := .none },
  { cls := 7, slots := #[.int 59], vm := .none },
  { cls := 7, slots := #[.int 60], vm := .none },
  { cls := 7, slots := #[.int 61], vm := .none },
  { cls := 7, slots := #[.int 62], vm := .none },
  { cls := 7, slots := #[.int 63], vm := .none },
  { cls := 7, slots := #[.int 64], vm := .none },
  { cls := 7, slots := #[.int 65], vm := .none },
  { cls := 7, slots := #[.int 66], vm := .none },
  { cls := 7, slots := #[.int 67], vm := .none },
  { cls := 7, slots := #[.int 68], vm := .none },
  { cls := 7, slots := #[.int 69], vm := .none },
  { cls := 7, slots := #[.int 70], vm := .none },
  { cls := 7, slots := #[.int 71], vm := .none },
  { cls := 7, slots := #[.int 72], vm := .none },
  { cls := 7, slots := #[.int 73], vm := .none },
  { cls := 7, slots := #[.int 74], vm := .none },
  { cls := 7, slots := #[.int 75], vm := .none },
  { cls := 7, slots := #[.int 76], vm := .none },
  { cls := 7, slots := #[.int 77], vm := .none },
  { cls := 7, slots := #[.int 78], vm := .none },
  { cls := 7, slots := #[.int 79], vm := .none },
  { cls := 7, slots := #[.int 80], vm := .none },
  { cls := 7, slots := #[.int 81], vm := .none },
  { cls := 7, slots := #[.int 82], vm := .none },
  { cls := 7, slots := #[.int 83], vm := .none },
  { cls := 7, slots := #[.int 84], vm := .none },
  { cls := 7, slots := #[.int 85], vm := .none },
  { cls := 7, slots := #[.int 86], vm := .none },
  { cls := 7, slots := #[.int 87], vm := .none },
  { cls := 7, slots := #[.int 88], vm := .none },
  { cls := 7, slots := #[.int 89], vm := .none },
  { cls := 7, slots := #[.int 90], vm := .none },
  { cls := 7, slots := #[.int 91], vm := .none },
  { cls := 7, slots := #[.int 92], vm := .none },
  { cls := 7, slots := #[.int 93], vm := .none },
  { cls := 7, slots := #[.int 94], vm := .none },
  { cls := 7, slots := #[.int 95], vm := .none },
  { cls := 7, slots := #[.int 96], vm := .none },
  { cls := 7, slots := #[.int 97], vm := .none },
  { cls := 7, slots := #[.int 98], vm := .none },
  { cls := 7, slots := #[.int 99], vm := .none },
  { cls := 7, slots := #[.int 100], vm := .none },
  { cls := 7, slots := #[.int 101], vm := .none },
  { cls := 7, slots := #[.int 102], vm := .none },
  { cls := 7, slots := #[.int 103], vm := .none },
  { cls := 7, slots := #[.int 104], vm := .none },
  { cls := 7, slots := #[.int 105], vm := .none },
  { cls := 7, slots := #[.int 106], vm := .none },
  { cls := 7, slots := #[.int 107], vm := .none },
  { cls := 7, slots := #[.int 108], vm := .none },
  { cls := 7, slots := #[.int 109], vm := .none },
  { cls := 7, slots := #[.int 110], vm := .none },
  { cls := 7, slots := #[.int 111], vm := .none },
  { cls := 7, slots := #[.int 112], vm := .none },
  { cls := 7, slots := #[.int 113], vm := .none },
  { cls := 7, slots := #[.int 114], vm := .none },
  { cls := 7, slots := #[.int 115], vm := .none },
  { cls := 7, slots := #[.int 116], vm := .none },
  { cls := 7, slots := #[.int 117], vm := .none },
  { cls := 7, slots := #[.int 118], vm := .none },
  { cls := 7, slots := #[.int 119], vm := .none },
  { cls := 7, slots := #[.int 120], vm := .none },
  { cls := 7, slots := #[.int 121], vm := .none },
  { cls := 7, slots := #[.int 122], vm := .none },
  { cls := 7, slots := #[.int 123], vm := .none },
  { cls := 7, slots := #[.int 124], vm := .none },
  { cls := 7, slots := #[.int 125], vm := .none },
  { cls := 7, slots := #[.int 126], vm := .none },
  { cls := 7, slots := #[.int 127], vm := .none }]
def classes : Array Class := #[k0, k1, k2, k3, k4, k5, k6, k7, k8, k9, k10, k11, k12, k13, k14, k15, k16, k17]
def interned : List (Array UInt16 × Addr) := []
def slotsUsed : Nat := 517
def theMethod : MethodId := ⟨1, 3⟩
def args0 : Array Value := #[.int 5, .int 5, .int 5, .int 5, .int 5, .int 5]
def aboutOver (below : List Frame) : State where
  vm := { classes := classes, interned := interned.toArray }
  heap := heap
  slotsUsed := slotsUsed
  threads := #[{ frames := .invoking theMethod args0 :: below }]
def below0 : List Frame := [.native { method := ⟨0, 0⟩, args := #[] }]
def about1 : State := aboutOver below0
def p0 : Program := .bare "" "" ""
def e0 : Env := launch0.env 0 0 0
theorem w_frames : about1.frames = Frame.invoking theMethod args0 :: below0 := rfl
set_option maxRecDepth 65536 in
theorem w_args : argsFit about1.vm theMethod args0 = true := by decide +kernel
set_option maxRecDepth 65536 in
theorem w_heap : heapFits about1 = true := by decide +kernel
set_option maxRecDepth 65536 in
theorem w_runnable : about1.curStatus? = some .runnable := by decide +kernel
set_option maxRecDepth 65536 in
theorem w_alone : about1.alone = true := by decide +kernel
set_option maxRecDepth 65536 in
theorem w_named : about1.methodNamed? x = some theMethod := by decide +kernel
set_option maxRecDepth 65536 in
theorem w_hears : about1.hears theMethod below0 = true := by decide +kernel
set_option maxRecDepth 65536 in
theorem w_ripe : about1.ripe theMethod args0 below0 = true := by decide +kernel
theorem w_running : about1.status = .running := rfl
set_option maxRecDepth 65536 in
theorem w_room : about1.hasRoom e0.platform room_1 = true :=
  launch0.hasRoom_least _ room_1 (by decide +kernel) (by decide +kernel) (by decide +kernel) (by decide +kernel) (by decide +kernel) (by decide +kernel)
theorem allAtoms_all (ts : List Jvm.Cond) (a : Array Jvm.Value) (st : Jvm.State) : (allAtoms ts).before a st = ts.all (fun c => c.before a st) := by
  induction ts with
  | nil => rfl
  | cons c t ih =>
    show (Jvm.Cond.and c (allAtoms t)).before a st = _
    rw [Jvm.Cond.before_and, ih, List.all_cons]
def words1 : List Jvm.Cond := Jvm.Cond.code x code maxLocals ret :: tables_1
/-- a 'code' word, met by the world's own term for the bytes: nothing is compared byte by byte -/
theorem code_word {y : MethodName} {bytes : ByteArray} {mx : Nat} {rt : Option FieldType} {a : Array Value} {s : State} {m : MethodId} {meth : Method} {c : Code} (h1 : s.methodNamed? y = some m) (h2 : s.vm.method? m = some meth) (h3 : meth.code = some c) (h4 : c.code = bytes)
    (h5 : (c.maxLocals == mx && c.exceptionTable.isEmpty && decide (c.maxStack ≤ mostOperands) && decide (meth.sig.returnType = rt) && !meth.locks && decide (parseMethodDescriptor y.desc = some meth.sig)) = true) : (Jvm.Cond.code y bytes mx rt).before a s = true := by
  simp only [Bool.and_eq_true, beq_iff_eq, Bool.not_eq_true', decide_eq_true_eq] at h5
  obtain ⟨⟨⟨⟨⟨g1, g2⟩, g3⟩, g4⟩, g5⟩, g6⟩ := h5
  simp [Cond.before, Cond.holds, Cond.value, h1, h2, h3, h4, g1, g2, g3, g4, g5, g6]
def isCode : Jvm.Cond → Bool
  | .code _ _ _ _ => true
  | _ => false
theorem all_split {L : List Jvm.Cond} {P : Jvm.Cond → Bool} (h1 : L.all (fun c => isCode c || P c) = true) (h2 : ∀ c ∈ L.filter isCode, P c = true) : L.all P = true := by
  refine List.all_eq_true.mpr fun c hc => ?_
  have h := List.all_eq_true.mp h1 c hc
  rcases Bool.eq_false_or_eq_true (isCode c) with hi | hi
  · exact h2 c (List.mem_filter.mpr ⟨hc, hi⟩)
  · simpa [hi] using h
set_option maxRecDepth 65536 in
theorem w_c0 : (Jvm.Cond.code x code maxLocals ret).before args0 about1 = true := code_word (m := ⟨1, 3⟩) (meth := k1m3) (c := k1c3) (by decide +kernel) rfl rfl rfl (by decide +kernel)
set_option maxRecDepth 65536 in
theorem w_c1 : (Jvm.Cond.code ({ cls := "com/example/callweave/callweave/FramePopPinLaw", name := "word", desc := "(III)Ljava/lang/Integer;" } : Jvm.MethodName) method_3_code (3 : Nat) (Option.some (Jvm.ClassFile.FieldType.object "java/lang/Integer"))).before args0 about1 = true := code_word (m := ⟨1, 2⟩) (meth := k1m2) (c := k1c2) (by decide +kernel) rfl rfl rfl (by decide +kernel)
set_option maxRecDepth 65536 in
theorem w_c2 : (Jvm.Cond.code ({ cls := "java/lang/Integer", name := "valueOf", desc := "(I)Ljava/lang/Integer;" } : Jvm.MethodName) jdk_33_method_22_code (1 : Nat) (Option.some (Jvm.ClassFile.FieldType.object "java/lang/Integer"))).before args0 about1 = true := code_word (m := ⟨7, 0⟩) (meth := k7m0) (c := k7c0) (by decide +kernel) rfl rfl rfl (by decide +kernel)
set_option maxRecDepth 65536 in
theorem w_c3 : (Jvm.Cond.code ({ cls := "com/example/callweave/callweave/Frame", name := "<init>", desc := "(IILjava/lang/Object;)V" } : Jvm.MethodName) prog_8_method_1_code (4 : Nat) (Option.none : Option Jvm.ClassFile.FieldType)).before args0 about1 = true := code_word (m := ⟨9, 0⟩) (meth := k9m0) (c := k9c0) (by decide +kernel) rfl rfl rfl (by decide +kernel)
set_option maxRecDepth 65536 in
theorem w_c4 : (Jvm.Cond.code ({ cls := "java/lang/Object", name := "<init>", desc := "()V" } : Jvm.MethodName) object_method_1_code (1 : Nat) (Option.none : Option Jvm.ClassFile.FieldType)).before args0 about1 = true := code_word (m := ⟨0, 0⟩) (meth := k0m0) (c := k0c0) (by decide +kernel) rfl rfl rfl (by decide +kernel)
set_option maxRecDepth 65536 in
theorem w_c5 : (Jvm.Cond.code ({ cls := "java/util/Arrays", name := "fill", desc := "([Ljava/lang/Object;Ljava/lang/Object;)V" } : Jvm.MethodName) jdk_65_method_117_code (4 : Nat) (Option.none : Option Jvm.ClassFile.FieldType)).before args0 about1 = true := code_word (m := ⟨10, 1⟩) (meth := k10m1) (c := k10c1) (by decide +kernel) rfl rfl rfl (by decide +kernel)
set_option maxRecDepth 65536 in
theorem w_c6 : (Jvm.Cond.code ({ cls := "com/example/callweave/callweave/Frame", name := "push", desc := "(Ljava/lang/Object;)V" } : Jvm.MethodName) prog_8_method_7_code (2 : Nat) (Option.none : Option Jvm.ClassFile.FieldType)).before args0 about1 = true := code_word (m := ⟨9, 1⟩) (meth := k9m1) (c := k9c1) (by decide +kernel) rfl rfl rfl (by decide +kernel)
set_option maxRecDepth 65536 in
theorem w_c7 : (Jvm.Cond.code ({ cls := "com/example/callweave/callweave/Frame", name := "pop", desc := "()Ljava/lang/Object;" } : Jvm.MethodName) prog_8_method_8_code (2 : Nat) (Option.some (Jvm.ClassFile.FieldType.object "java/lang/Object"))).before args0 about1 = true := code_word (m := ⟨9, 2⟩) (meth := k9m2) (c := k9c2) (by decide +kernel) rfl rfl rfl (by decide +kernel)
set_option maxRecDepth 65536 in
theorem w_c8 : (Jvm.Cond.code ({ cls := "com/example/callweave/callweave/Frame", name := "word", desc := "(Ljava/lang/Object;)Ljava/lang/Object;" } : Jvm.MethodName) prog_8_method_11_code (2 : Nat) (Option.some (Jvm.ClassFile.FieldType.object "java/lang/Object"))).before args0 about1 = true := code_word (m := ⟨9, 3⟩) (meth := k9m3) (c := k9c3) (by decide +kernel) rfl rfl rfl (by decide +kernel)
set_option maxRecDepth 65536 in
theorem w_c9 : (Jvm.Cond.code ({ cls := "com/example/callweave/callweave/FramePopPinLaw", name := "same", desc := "(Ljava/lang/Integer;Ljava/lang/Integer;)Z" } : Jvm.MethodName) method_2_code (2 : Nat) (Option.some Jvm.ClassFile.FieldType.boolean)).before args0 about1 = true := code_word (m := ⟨1, 1⟩) (meth := k1m1) (c := k1c1) (by decide +kernel) rfl rfl rfl (by decide +kernel)
set_option maxRecDepth 65536 in
theorem w_c10 : (Jvm.Cond.code ({ cls := "java/lang/Integer", name := "intValue", desc := "()I" } : Jvm.MethodName) jdk_33_method_27_code (1 : Nat) (Option.some Jvm.ClassFile.FieldType.int)).before args0 about1 = true := code_word (m := ⟨7, 2⟩) (meth := k7m2) (c := k7c2) (by decide +kernel) rfl rfl rfl (by decide +kernel)
set_option maxRecDepth 65536 in
theorem w_c11 : (Jvm.Cond.code ({ cls := "java/lang/Integer", name := "<init>", desc := "(I)V" } : Jvm.MethodName) jdk_33_method_23_code (2 : Nat) (Option.none : Option Jvm.ClassFile.FieldType)).before args0 about1 = true := code_word (m := ⟨7, 1⟩) (meth := k7m1) (c := k7c1) (by decide +kernel) rfl rfl rfl (by decide +kernel)
set_option maxRecDepth 65536 in
theorem w_c12 : (Jvm.Cond.code ({ cls := "java/lang/Number", name := "<init>", desc := "()V" } : Jvm.MethodName) jdk_18_method_1_code (1 : Nat) (Option.none : Option Jvm.ClassFile.FieldType)).before args0 about1 = true := code_word (m := ⟨3, 0⟩) (meth := k3m0) (c := k3c0) (by decide +kernel) rfl rfl rfl (by decide +kernel)
def codes1 : List Jvm.Cond := [Jvm.Cond.code x code maxLocals ret, Jvm.Cond.code ({ cls := "com/example/callweave/callweave/FramePopPinLaw", name := "word", desc := "(III)Ljava/lang/Integer;" } : Jvm.MethodName) method_3_code (3 : Nat) (Option.some (Jvm.ClassFile.FieldType.object "java/lang/Integer")), Jvm.Cond.code ({ cls := "java/lang/Integer", name := "valueOf", desc := "(I)Ljava/lang/Integer;" } : Jvm.MethodName) jdk_33_method_22_code (1 : Nat) (Option.some (Jvm.ClassFile.FieldType.object "java/lang/Integer")), Jvm.Cond.code ({ cls := "com/example/callweave/callweave/Frame", name := "<init>", desc := "(IILjava/lang/Object;)V" } : Jvm.MethodName) prog_8_method_1_code (4 : Nat) (Option.none : Option Jvm.ClassFile.FieldType), Jvm.Cond.code ({ cls := "java/lang/Object", name := "<init>", desc := "()V" } : Jvm.MethodName) object_method_1_code (1 : Nat) (Option.none : Option Jvm.ClassFile.FieldType), Jvm.Cond.code ({ cls := "java/util/Arrays", name := "fill", desc := "([Ljava/lang/Object;Ljava/lang/Object;)V" } : Jvm.MethodName) jdk_65_method_117_code (4 : Nat) (Option.none : Option Jvm.ClassFile.FieldType), Jvm.Cond.code ({ cls := "com/example/callweave/callweave/Frame", name := "push", desc := "(Ljava/lang/Object;)V" } : Jvm.MethodName) prog_8_method_7_code (2 : Nat) (Option.none : Option Jvm.ClassFile.FieldType), Jvm.Cond.code ({ cls := "com/example/callweave/callweave/Frame", name := "pop", desc := "()Ljava/lang/Object;" } : Jvm.MethodName) prog_8_method_8_code (2 : Nat) (Option.some (Jvm.ClassFile.FieldType.object "java/lang/Object")), Jvm.Cond.code ({ cls := "com/example/callweave/callweave/Frame", name := "word", desc := "(Ljava/lang/Object;)Ljava/lang/Object;" } : Jvm.MethodName) prog_8_method_11_code (2 : Nat) (Option.some (Jvm.ClassFile.FieldType.object "java/lang/Object")), Jvm.Cond.code ({ cls := "com/example/callweave/callweave/FramePopPinLaw", name := "same", desc := "(Ljava/lang/Integer;Ljava/lang/Integer;)Z" } : Jvm.MethodName) method_2_code (2 : Nat) (Option.some Jvm.ClassFile.FieldType.boolean), Jvm.Cond.code ({ cls := "java/lang/Integer", name := "intValue", desc := "()I" } : Jvm.MethodName) jdk_33_method_27_code (1 : Nat) (Option.some Jvm.ClassFile.FieldType.int), Jvm.Cond.code ({ cls := "java/lang/Integer", name := "<init>", desc := "(I)V" } : Jvm.MethodName) jdk_33_method_23_code (2 : Nat) (Option.none : Option Jvm.ClassFile.FieldType), Jvm.Cond.code ({ cls := "java/lang/Number", name := "<init>", desc := "()V" } : Jvm.MethodName) jdk_18_method_1_code (1 : Nat) (Option.none : Option Jvm.ClassFile.FieldType)]
set_option maxRecDepth 65536 in
theorem codes_eq : words1.filter isCode = codes1 := rfl
theorem w_codes : ∀ c ∈ words1.filter isCode, c.before args0 about1 = true := by
  rw [codes_eq]
  intro c hc
  simp only [codes1, List.mem_cons, List.not_mem_nil, or_false] at hc
  rcases hc with rfl | rfl | rfl | rfl | rfl | rfl | rfl | rfl | rfl | rfl | rfl | rfl | rfl
  · exact w_c0
  · exact w_c1
  · exact w_c2
  · exact w_c3
  · exact w_c4
  · exact w_c5
  · exact w_c6
  · exact w_c7
  · exact w_c8
  · exact w_c9
  · exact w_c10
  · exact w_c11
  · exact w_c12
set_option maxRecDepth 65536 in
theorem w_t1 : (words1.take 24).all (fun c => isCode c || c.before args0 about1) = true := by decide +kernel
set_option maxRecDepth 65536 in
theorem w_t2 : ((words1.drop 24).take 24).all (fun c => isCode c || c.before args0 about1) = true := by decide +kernel
set_option maxRecDepth 65536 in
theorem w_t3 : ((words1.drop 24).drop 24).all (fun c => isCode c || c.before args0 about1) = true := by decide +kernel
theorem w_tables : (allAtoms (Jvm.Cond.code x code maxLocals ret :: tables_1)).before args0 about1 = true := by
  rw [allAtoms_all]
  show words1.all (fun c => c.before args0 about1) = true
  refine all_split ?_ w_codes
  rw [← List.take_append_drop 24 words1, List.all_append, w_t1, ← List.take_append_drop 24 (words1.drop 24), List.all_append, w_t2, w_t3]
  rfl
set_option maxRecDepth 65536 in
theorem w_rest : rest_1_c.before args0 about1 = true := by decide +kernel
set_option maxRecDepth 65536 in
theorem w_case : (Jvm.Cond.and given_1 narrow_1).before args0 about1 = true := by decide +kernel
theorem w_applies : (headSpec (Jvm.Cond.code x code maxLocals ret :: tables_1) room_1).applies x e0.platform about1 = true :=
  (Spec.applies_iff w_frames).mpr ⟨w_running, w_runnable, w_alone, w_named, w_hears, w_ripe, w_room, w_tables⟩
theorem atStart : AtStart classFile x code maxLocals ret World_1 tables_1 room_1 Calls_1 rest_1 Pre_1 launch0 p0 e0 about1 theMethod args0 below0 :=
  ⟨lists_1, trivial, launch0.admits_env _ _ _, launch0.least_env, fairChoices_fair.cas, fairChoices_fair.clock, w_frames, w_args, w_heap, w_applies, trivial, w_rest, w_case⟩
end start1
theorem witness_1 : WitnessClaimed_1 := ⟨start1.p0, start1.e0, start1.about1, start1.theMethod, start1.args0, start1.below0, start1.atStart⟩
end Jvm.Pilot.@@N@@
