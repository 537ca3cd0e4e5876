import JvmDerived
import JvmDerived.Pilot.@@N@@Statement
import JvmDerived.Pilot.@@N@@Code
set_option linter.unusedVariables false
set_option linter.unusedSimpArgs false
namespace Jvm.OwnKit
open Sem ClassFile Op Lib Jvm.Stand Jvm.Free Jvm.LawKit Jvm.RoadKit
/-- from S on the body comes back, and F says how -/
def Run (p : Program) (e : Env) (below : List Frame) (F : Outcome → State → Prop) (S : State) : Prop :=
  ∃ s₂ o, Steps p.tables e below S s₂ ∧ s₂.status = .running ∧ Ended s₂ below o ∧ F o s₂
def Nar (s : State) (rm : Room) (Q : Option Value → Heap → List Loc → Prop) (o : Outcome) (t : State) : Prop := ∃ v L, o = .returned v ∧ Q v t.heap L ∧ FrameEnd s o t L rm.cells rm.slots
/-- a body's contract at these arguments and this heap -/
def Ctr (l : Launch) (Z : State) (y : MethodName) (bytes : ByteArray) (maxL : Nat) (ret : Option FieldType) (rm : Room) (as : Array Value) (h0 : Heap) (Q : Option Value → Heap → List Loc → Prop) : Prop :=
  ∀ ws : List Jvm.Cond, MetFree l y (head1 (Jvm.Cond.code y bytes maxL ret :: ws) rm) (fun a U => a = as ∧ Z.Warmed39 U.vm ∧ U.heap = h0) (fun _ _ _ _ _ => True) (fun _ U o U' => ∃ v L, o = .returned v ∧ Q v U'.heap L ∧ FrameEnd U o U' L rm.cells rm.slots)
theorem Ctr.body {l : Launch} {Z : State} {y : MethodName} {bytes : ByteArray} {maxL : Nat} {ret : Option FieldType} {rm : Room} {as : Array Value} {h0 : Heap} {Q : Option Value → Heap → List Loc → Prop} (hp : plainFor y = true)
    (body : ∀ (p : Program) (e : Env) (s : State) (m : MethodId) (below : List Frame) (meth : Method) (c : Code) (T : State), Stand p l e rm s m as below meth c T [] 0 0 → p.tables.exec = Jvm.exec → c.code = bytes → c.maxLocals = maxL → s.vm.findClass y.cls = some m.cls → meth.name = y.name → meth.sig.returnType = ret → meth.locks = false → Z.Warmed39 s.vm → T.heap = h0 → Run p e below (Nar s rm Q) (T.setTop (entryFrame m as maxL))) :
    Ctr l Z y bytes maxL ret rm as h0 Q := by
  intro ws
  refine MetFree.of_bodySF hp hisR ?_
  intro p e s m args below meth c s₁ Bd hml hP hK
  obtain ⟨rfl, hZ, hh⟩ := hP
  exact body p e s m below meth c s₁ (Stand.of_body Bd) Bd.exec Bd.bytes hml (findClass_of_methodNamed Bd.named) (name_of_methodNamed Bd.named Bd.method).1 Bd.returns (BodyLoose.notSynchronized Bd) hZ (by rw [← hh, Bd.state]; rfl)
section Walk
variable {p : Program} {l : Launch} {e : Env} {R : Room} {s : State} {m : MethodId} {args : Array Value} {below : List Frame} {meth : Method} {c : Code} {T : State} {locs : List Loc} {cells slots : Nat} {Z : State} {a0 : Array Value} {h h' h1 h2 : Heap} {Q : Option Value → Heap → List Loc → Prop} {F : Outcome → State → Prop}
theorem Run.via {S S' : State} (f : ∀ t, Steps p.tables e below S' t → Steps p.tables e below S t) (k : Run p e below F S') : Run p e below F S := by
  obtain ⟨s₂, o, q1, q2⟩ := k
  exact ⟨s₂, o, f _ q1, q2⟩
theorem Run.cast {g g' : JFrame} (q : g = g') (k : Run p e below F (T.setTop g')) : Run p e below F (T.setTop g) := q ▸ k
theorem Run.ret (X : Stand p l e R s m args below meth c T locs cells slots) (hx : p.tables.exec = Jvm.exec) (hlk : meth.locks = false) {pc : Nat} {Ls : Array Slot} {w : Value} {t : FieldType} {i : Instr} {rest : List Value} (hret : meth.sig.returnType = some t) (hd : decode c.code pc = .ok (i, 1)) (hn : narrow t w = w)
    (hi : (i = .ireturn ∧ (t = .int ∨ t = .boolean ∨ t = .byte ∨ t = .char ∨ t = .short) ∧ ∃ z, w = .int z) ∨ (i = .lreturn ∧ t = .long ∧ ∃ z, w = .long z) ∨ (i = .dreturn ∧ t = .double ∧ ∃ z, w = .double z) ∨ (i = .freturn ∧ t = .float ∧ ∃ z, w = .float z) ∨ (i = .areturn ∧ t.isReference = true ∧ w.isRef = true))
    (hc : cells ≤ R.cells) (hs : slots ≤ R.slots) (hq : Q (some w) T.heap locs) : Run p e below (Nar s R Q) (T.setTop (mkF m pc Ls (w :: rest))) := by
  obtain ⟨fs, hr, hrun, hended, hW, hsame⟩ := X.leave (v := some w) (fun q => by rw [hret] at q; cases q) hlk
  exact ⟨_, _, retOut X hx hret hn hi hd hr, hrun, hended, _, _, rfl, hq, ⟨_, rfl⟩, hW, hsame.mono hc hs⟩
theorem Run.retB (X : Stand p l e R s m args below meth c T locs cells slots) (hx : p.tables.exec = Jvm.exec) (hlk : meth.locks = false) {pc : Nat} {Ls : Array Slot} {z : Int32} {rest : List Value} (hret : meth.sig.returnType = some .boolean) (hd : decode c.code pc = .ok (.ireturn, 1)) (hn : narrow .boolean (.int z) = .int z)
    (hc : cells ≤ R.cells) (hs : slots ≤ R.slots) (hq : Q (some (.int z)) T.heap locs) : Run p e below (Nar s R Q) (T.setTop (mkF m pc Ls (.int z :: rest))) :=
  Run.ret X hx hlk hret hd hn (Or.inl ⟨rfl, Or.inr (Or.inl rfl), z, rfl⟩) hc hs hq
theorem Run.retI (X : Stand p l e R s m args below meth c T locs cells slots) (hx : p.tables.exec = Jvm.exec) (hlk : meth.locks = false) {pc : Nat} {Ls : Array Slot} {z : Int32} {rest : List Value} (hret : meth.sig.returnType = some .int) (hd : decode c.code pc = .ok (.ireturn, 1))
    (hc : cells ≤ R.cells) (hs : slots ≤ R.slots) (hq : Q (some (.int z)) T.heap locs) : Run p e below (Nar s R Q) (T.setTop (mkF m pc Ls (.int z :: rest))) :=
  Run.ret X hx hlk hret hd rfl (Or.inl ⟨rfl, Or.inl rfl, z, rfl⟩) hc hs hq
theorem narrow_ref {t : FieldType} {w : Value} (h : w.isRef = true) : narrow t w = w := by
  cases w <;> simp [Value.isRef] at h <;> cases t <;> rfl
theorem Run.retR (X : Stand p l e R s m args below meth c T locs cells slots) (hx : p.tables.exec = Jvm.exec) (hlk : meth.locks = false) {pc : Nat} {Ls : Array Slot} {w : Value} {t : FieldType} {rest : List Value} (hret : meth.sig.returnType = some t) (hd : decode c.code pc = .ok (.areturn, 1)) (ht : t.isReference = true) (hw : w.isRef = true)
    (hc : cells ≤ R.cells) (hs : slots ≤ R.slots) (hq : Q (some w) T.heap locs) : Run p e below (Nar s R Q) (T.setTop (mkF m pc Ls (w :: rest))) :=
  Run.ret X hx hlk hret hd (Jvm.OwnKit.narrow_ref hw) (Or.inr (Or.inr (Or.inr (Or.inr ⟨rfl, ht, hw⟩)))) hc hs hq
theorem Run.retV (X : Stand p l e R s m args below meth c T locs cells slots) (hx : p.tables.exec = Jvm.exec) (hlk : meth.locks = false) {pc : Nat} {Ls : Array Slot} (hret : meth.sig.returnType = none) (hd : decode c.code pc = .ok (.return_, 1))
    (hc : cells ≤ R.cells) (hs : slots ≤ R.slots) (hq : Q none T.heap locs) : Run p e below (Nar s R Q) (T.setTop (mkF m pc Ls [])) := by
  obtain ⟨fs, hr, hrun, hended, hW, hsame⟩ := X.leave (v := none) (fun _ => rfl) hlk
  exact ⟨_, _, X.returnOut hx hret hd hr, hrun, hended, _, _, rfl, hq, ⟨_, rfl⟩, hW, hsame.mono hc hs⟩
/-- a static callee by its contract -/
theorem callC (X : Stand p l e R s m args below meth c T locs cells slots) (hx : p.tables.exec = Jvm.exec) (hZ : Z.Warmed39 s.vm) {own : String} {index : Nat} {y : MethodName} {bytes : ByteArray} {maxL : Nat} {ret : Option FieldType} {rm : Room} {P : Option Value → Heap → List Loc → Prop} (hown : s.vm.findClass own = some m.cls)
    (w1 : (Cond.methodLink own index y).before a0 Z = true) (w2 : (Cond.static y).before a0 Z = true) (w3 : (Cond.initialized y.cls).before a0 Z = true) (w4 : (Cond.code y bytes maxL ret).before a0 Z = true) (hy : y.cls ≠ "java/lang/invoke/MethodHandle" ∧ y.cls ≠ "java/lang/invoke/VarHandle")
    (eT : T.heap = h) {argsL rest : List Value} (K : Ctr l Z y bytes maxL ret rm argsL.toArray h P) {g : JFrame} (hg : g.method = m) (hsize : g.locals.size = c.maxLocals) (hs : g.stack = argsL.reverse ++ rest) (hd : decode c.code g.pc = .ok (.invokestatic index, 3))
    (hlen : ∀ sig, parseMethodDescriptor y.desc = some sig → argsL.length = sig.parameters.length) {W : Nat} (hW : 2 * g.monitorRoom + (rest.map fun v => v.category).sum ≤ W) (hf : rm.frames + 1 ≤ R.frames) (hl : W + (maxL + 11) + rm.locals ≤ R.locals) (hc : cells + rm.cells ≤ R.cells) (hsl : slots + rm.slots ≤ R.slots) :
    ∃ (v : Option Value) (T' : State) (L : List Loc), Stand p l e R s m args below meth c T' (locs ++ L) (cells + rm.cells) (slots + rm.slots) ∧ P v T'.heap L ∧
      ∀ target, Steps p.tables e below (T'.setTop { g with pc := g.pc + 3, stack := v.toList ++ rest }) target → Steps p.tables e below (T.setTop g) target := by
  obtain ⟨v, vm₁, ⟨T', L', k', n'⟩, -, X', ⟨L, hQ, l1, l2, l3⟩, st⟩ := Jvm.LawKit.callS X hx (y := y) hown (mvT hZ w1) (mvT hZ w2) (mvT hZ w3) (mvT hZ w4) hy (backOf (W := W) (K []) hZ w4 w3 hf hl) (g := g) hg hsize (argsL := argsL) (rest := rest) hlen hs hW hd (fun _ _ => ⟨rfl, eT, hc, hsl⟩)
  dsimp only [Pt.U, Pt.locs, Pt.cells, Pt.slots] at X' l1 l2 l3 st hQ
  subst l1 l2 l3
  exact ⟨v, T', L, X', hQ, st⟩
/-- an instance method by its contract -/
theorem callV (X : Stand p l e R s m args below meth c T locs cells slots) (hx : p.tables.exec = Jvm.exec) (hZ : Z.Warmed39 s.vm) {own C : String} {index : Nat} {y : MethodName} {bytes : ByteArray} {maxL : Nat} {ret : Option FieldType} {rm : Room} {P : Option Value → Heap → List Loc → Prop} (hown : s.vm.findClass own = some m.cls)
    (w1 : (Cond.methodLink own index y).before a0 Z = true) (w2 : (Cond.declares y).before a0 Z = true) (w5 : (Cond.selects C y y).before a0 Z = true) (w6 : (Cond.instanceMethod y).before a0 Z = true) (w3 : (Cond.initialized y.cls).before a0 Z = true) (w4 : (Cond.code y bytes maxL ret).before a0 Z = true) (hy : y.cls ≠ "java/lang/invoke/MethodHandle" ∧ y.cls ≠ "java/lang/invoke/VarHandle")
    (eT : T.heap = h) {b : Addr} (E : Exa Z h b C) {argsL rest : List Value} (K : Ctr l Z y bytes maxL ret rm (.ref b :: argsL).toArray h P) {g : JFrame} (hg : g.method = m) (hsize : g.locals.size = c.maxLocals) (hs : g.stack = argsL.reverse ++ .ref b :: rest) (hd : decode c.code g.pc = .ok (.invokevirtual index, 3))
    (hlen : ∀ sig, parseMethodDescriptor y.desc = some sig → argsL.length = sig.parameters.length) {W : Nat} (hW : 2 * g.monitorRoom + (rest.map fun v => v.category).sum ≤ W) (hf : rm.frames + 1 ≤ R.frames) (hl : W + (maxL + 11) + rm.locals ≤ R.locals) (hc : cells + rm.cells ≤ R.cells) (hsl : slots + rm.slots ≤ R.slots) :
    ∃ (v : Option Value) (T' : State) (L : List Loc), Stand p l e R s m args below meth c T' (locs ++ L) (cells + rm.cells) (slots + rm.slots) ∧ P v T'.heap L ∧
      ∀ target, Steps p.tables e below (T'.setTop { g with pc := g.pc + 3, stack := v.toList ++ rest }) target → Steps p.tables e below (T.setTop g) target := by
  obtain ⟨cq, kq, qa, qb, qc⟩ := isOf hZ eT E
  obtain ⟨v, vm₁, ⟨T', L', k', n'⟩, -, X', ⟨L, hQ, l1, l2, l3⟩, st⟩ := X.virtualBack hx (y := y) (z := y) hown (mvT hZ w1) (mvT hZ w2) (notFace_of_selects (args := #[]) (mvT hZ w5)) (mvT hZ w5) (mvT hZ w6) hy (backOf (W := W) (K []) hZ w4 w3 hf hl) qa qc (g := g) hg hsize (Steps.refl _) (argsL := argsL) (rest := rest) hlen hs hW hd (fun _ _ => ⟨rfl, eT, hc, hsl⟩)
  dsimp only [Pt.U, Pt.locs, Pt.cells, Pt.slots] at X' l1 l2 l3 st hQ
  subst l1 l2 l3
  exact ⟨v, T', L, X', hQ, fun _ k => st.trans k⟩
/-- a constructor by its contract -/
theorem callN (X : Stand p l e R s m args below meth c T locs cells slots) (hx : p.tables.exec = Jvm.exec) (hZ : Z.Warmed39 s.vm) {own : String} {index : Nat} {y : MethodName} {bytes : ByteArray} {maxL : Nat} {rm : Room} {P : Option Value → Heap → List Loc → Prop} (hy1 : y.name = "<init>") (hown : s.vm.findClass own = some m.cls)
    (w1 : (Cond.methodLink own index y).before a0 Z = true) (w6 : (Cond.instanceMethod y).before a0 Z = true) (w3 : (Cond.initialized y.cls).before a0 Z = true) (w4 : (Cond.code y bytes maxL none).before a0 Z = true) (hy : y.cls ≠ "java/lang/invoke/MethodHandle" ∧ y.cls ≠ "java/lang/invoke/VarHandle")
    (eT : T.heap = h) {b : Addr} {argsL rest : List Value} (K : Ctr l Z y bytes maxL none rm (.ref b :: argsL).toArray h P) {g : JFrame} (hg : g.method = m) (hsize : g.locals.size = c.maxLocals) (hs : g.stack = argsL.reverse ++ .ref b :: rest) (hd : decode c.code g.pc = .ok (.invokespecial index, 3))
    (hlen : ∀ sig, parseMethodDescriptor y.desc = some sig → argsL.length = sig.parameters.length) {W : Nat} (hW : 2 * g.monitorRoom + (rest.map fun v => v.category).sum ≤ W) (hf : rm.frames + 1 ≤ R.frames) (hl : W + (maxL + 11) + rm.locals ≤ R.locals) (hc : cells + rm.cells ≤ R.cells) (hsl : slots + rm.slots ≤ R.slots) :
    ∃ (v : Option Value) (T' : State) (L : List Loc), Stand p l e R s m args below meth c T' (locs ++ L) (cells + rm.cells) (slots + rm.slots) ∧ P v T'.heap L ∧
      ∀ target, Steps p.tables e below (T'.setTop { g with pc := g.pc + 3, stack := v.toList ++ rest }) target → Steps p.tables e below (T.setTop g) target := by
  obtain ⟨v, vm₁, ⟨T', L', k', n'⟩, -, X', ⟨L, hQ, l1, l2, l3⟩, st⟩ := X.specialBack hx (y := y) hy1 hown (mvT hZ w1) (mvT hZ w6) (mvT hZ w4) hy (backOf (W := W) (K []) hZ w4 w3 hf hl) (g := g) hg hsize (Steps.refl _) (a := b) (argsL := argsL) (rest := rest) hlen hs hW hd (fun _ _ => ⟨rfl, eT, hc, hsl⟩)
  dsimp only [Pt.U, Pt.locs, Pt.cells, Pt.slots] at X' l1 l2 l3 st hQ
  subst l1 l2 l3
  exact ⟨v, T', L, X', hQ, fun _ k => st.trans k⟩
/-- a private method by its contract -/
theorem callP (X : Stand p l e R s m args below meth c T locs cells slots) (hx : p.tables.exec = Jvm.exec) (hZ : Z.Warmed39 s.vm) {own : String} {index nn : Nat} {y : MethodName} {bytes : ByteArray} {maxL : Nat} {ret : Option FieldType} {rm : Room} {P : Option Value → Heap → List Loc → Prop} (hown : s.vm.findClass own = some m.cls)
    (w1 : (Cond.methodLink own index y).before a0 Z = true) (w6 : (Cond.instanceMethod y).before a0 Z = true) (w7 : (Cond.privateMethod y).before a0 Z = true) (w8 : (Cond.instantiable y.cls nn).before a0 Z = true) (w3 : (Cond.initialized y.cls).before a0 Z = true) (w4 : (Cond.code y bytes maxL ret).before a0 Z = true) (hy : y.cls ≠ "java/lang/invoke/MethodHandle" ∧ y.cls ≠ "java/lang/invoke/VarHandle")
    (eT : T.heap = h) {b : Addr} {C : String} (E : Exa Z h b C) {argsL rest : List Value} (K : Ctr l Z y bytes maxL ret rm (.ref b :: argsL).toArray h P) {g : JFrame} (hg : g.method = m) (hsize : g.locals.size = c.maxLocals) (hs : g.stack = argsL.reverse ++ .ref b :: rest) (hd : decode c.code g.pc = .ok (.invokevirtual index, 3))
    (hlen : ∀ sig, parseMethodDescriptor y.desc = some sig → argsL.length = sig.parameters.length) {W : Nat} (hW : 2 * g.monitorRoom + (rest.map fun v => v.category).sum ≤ W) (hf : rm.frames + 1 ≤ R.frames) (hl : W + (maxL + 11) + rm.locals ≤ R.locals) (hc : cells + rm.cells ≤ R.cells) (hsl : slots + rm.slots ≤ R.slots) :
    ∃ (v : Option Value) (T' : State) (L : List Loc), Stand p l e R s m args below meth c T' (locs ++ L) (cells + rm.cells) (slots + rm.slots) ∧ P v T'.heap L ∧
      ∀ target, Steps p.tables e below (T'.setTop { g with pc := g.pc + 3, stack := v.toList ++ rest }) target → Steps p.tables e below (T.setTop g) target := by
  obtain ⟨cl, q1, q2⟩ := E.cell
  have hpr : s.PrivateAt y := Cond.privateMethod_at (mvP hZ w7 (args := #[]))
  obtain ⟨cI, kI, i1, i2, -, i4, -⟩ := Cond.instantiable_spec (mvT hZ w8 : (Cond.instantiable y.cls nn).before args s = true)
  have hsel : (Cond.selects y.cls y y).before args s = true := selects_self_of_private i1 i2 (Bool.or_eq_false_iff.mp i4).1 hpr (mvT hZ w6) hy
  obtain ⟨v, vm₁, ⟨T', L', k', n'⟩, -, X', ⟨L, hQ, l1, l2, l3⟩, st⟩ := X.privateBack hx (y := y) hown (mvT hZ w1) (mvT hZ w6) hsel hpr (mvT hZ w4) hy (backOf (W := W) (K []) hZ w4 w3 hf hl) (g := g) hg hsize (Steps.refl _) (a := b) (cell := cl) (by rw [eT]; exact q1) q2 (argsL := argsL) (rest := rest) hlen hs hW hd (fun _ _ => ⟨rfl, eT, hc, hsl⟩)
  dsimp only [Pt.U, Pt.locs, Pt.cells, Pt.slots] at X' l1 l2 l3 st hQ
  subst l1 l2 l3
  exact ⟨v, T', L, X', hQ, fun _ k => st.trans k⟩
/-! arrays of references -/
theorem aaldV (X : Stand p l e R s m args below meth c T locs cells slots) (hx : p.tables.exec = Jvm.exec) (hZ : Z.Warmed39 s.vm) (eT : T.heap = h) {a : Addr} {k : ClassId} {ty : FieldType} {z j : Int32} {vs : List Value} {dv v : Value} (A : Arv Z h a k ty z vs dv) (hty : ty.isReference = true) (hj : ¬ j < 0 ∧ j < z) (hv : vs.getD j.toNatClampNeg dv = v)
    {g : JFrame} (hg : g.method = m) {rest : List Value} (hs : g.stack = .int j :: .ref a :: rest) (hd : decode c.code g.pc = .ok (.aaload, 1)) :
    ∀ target, Steps p.tables e below (T.setTop { g with pc := g.pc + 1, stack := v :: rest }) target → Steps p.tables e below (T.setTop g) target := by
  obtain ⟨cl, A, -, S, -, H, -⟩ := A
  have hin := inb_of S hj
  exact fun t q => X.aaload hx (by rw [eT]; exact A.1) (State.isArrayOf_alike hZ.alike A.2.1) hty A.2.2 hin (H.at hin hv) hg hs hd t q
theorem lenV (X : Stand p l e R s m args below meth c T locs cells slots) (hx : p.tables.exec = Jvm.exec) (hZ : Z.Warmed39 s.vm) (eT : T.heap = h) {a : Addr} {k : ClassId} {ty : FieldType} {z : Int32} {vs : List Value} {dv : Value} (A : Arv Z h a k ty z vs dv)
    {g : JFrame} (hg : g.method = m) {rest : List Value} (hs : g.stack = .ref a :: rest) (hd : decode c.code g.pc = .ok (.arraylength, 1)) :
    ∀ target, Steps p.tables e below (T.setTop { g with pc := g.pc + 1, stack := .int z :: rest }) target → Steps p.tables e below (T.setTop g) target := by
  obtain ⟨cl, A, -, S, N, -, -⟩ := A
  intro t q
  refine X.arraylength hx (by rw [eT]; exact A.1) (State.isArrayOf_alike hZ.alike A.2.1) hg hs hd t ?_
  rw [len_of S N]
  exact q
theorem aastV (X : Stand p l e R s m args below meth c T locs cells slots) (hx : p.tables.exec = Jvm.exec) (hZ : Z.Warmed39 s.vm) (eT : T.heap = h) {a : Addr} {k : ClassId} {ty : FieldType} {z j : Int32} {vs : List Value} {dv v : Value} (A : Arv Z h a k ty z vs dv) (hty : ty.isReference = true) (hj : ¬ j < 0 ∧ j < z) {i : Nat} (hi : j.toNatClampNeg = i) (hlen : i < vs.length)
    (F : ∀ cl, Arr Z h a cl ty → cl.cls = k → Sto Z h a v) (hfit : fits ty v = true) {g : JFrame} (hg : g.method = m) {rest : List Value} (hs : g.stack = v :: .int j :: .ref a :: rest) (hd : decode c.code g.pc = .ok (.aastore, 1)) :
    ∃ T' h', Stand p l e R s m args below meth c T' (locs ++ [⟨a, j.toNatClampNeg⟩]) cells slots ∧ T'.heap = h' ∧ Wr h h' a j.toNatClampNeg v ∧ Arv Z h' a k ty z (vs.set i v) dv ∧
      ∀ target, Steps p.tables e below (T'.setTop { g with pc := g.pc + 1, stack := rest }) target → Steps p.tables e below (T.setTop g) target := by
  obtain ⟨cl, A, q, S, N, H, G⟩ := A
  have hin := inb_of S hj
  obtain ⟨T', h', X', e', W, st⟩ := stR X hx hZ eT A (j := j) (v := v) hin hty (F cl A q) hg hs hd
  exact ⟨T', h', X', e', W, Arv.set A q S N H G hfit W i hi hlen, st⟩
/-- a cast of null or of one of the class -/
theorem castVV (X : Stand p l e R s m args below meth c T locs cells slots) (hx : p.tables.exec = Jvm.exec) (hZ : Z.Warmed39 s.vm) {own K : String} {index : Nat} (hown : s.vm.findClass own = some m.cls) (w : (Cond.classLink own index K).before a0 Z = true) (eT : T.heap = h) {v : Value} (B : v = .null ∨ ∃ r, v = .ref r ∧ Ins Z h r K true)
    {g : JFrame} (hg : g.method = m) {rest : List Value} (hs : g.stack = v :: rest) (hd : decode c.code g.pc = .ok (.checkcast index, 3)) :
    ∃ T', Stand p l e R s m args below meth c T' locs cells slots ∧ T'.heap = h ∧ ∀ target, Steps p.tables e below (T'.setTop { g with pc := g.pc + 3 }) target → Steps p.tables e below (T.setTop g) target := by
  rcases B with rfl | ⟨r, rfl, I⟩
  · exact ⟨T, X, eT, fun t q => X.checkcastNull hx hg hs hd t q⟩
  · exact castY X hx hZ hown w eT I hg hs hd
theorem cat_ref {v : Value} (q : v.isRef = true) : v.category = 1 := by cases v <;> simp [Value.isRef] at q <;> rfl
theorem fits_isRef {t : FieldType} {v : Value} (r : t.isReference = true) (q : v.isRef = true) : fits t v = true := by cases v <;> simp [Value.isRef] at q <;> cases t <;> first | rfl | (simp [FieldType.isReference] at r)
theorem ext_of_keep (K : Keep h h1 []) : Ext h h1 := ⟨K.1, fun x c q => K.2.1 x c q nin0⟩
/-! heaps that only grow -/
theorem ext_refl (h : Heap) : Ext h h := ⟨Nat.le_refl _, fun _ _ q => q⟩
theorem ext_trans (a : Ext h h1) (b : Ext h1 h2) : Ext h h2 := ⟨Nat.le_trans a.1 b.1, fun x q r => b.2 x q (a.2 x q r)⟩
/-- what lies at or above h's end was written: h stands -/
theorem ext_keep {ws : List Addr} (a : Ext h h1) (K : Keep h1 h2 ws) (q : ∀ x ∈ ws, h.size ≤ x) : Ext h h2 := ⟨Nat.le_trans a.1 K.1, fun x c r => K.2.1 x c (a.2 x c r) fun z => absurd (Array.getElem?_eq_some_iff.mp r).1 (Nat.not_lt.mpr (q x z))⟩
theorem ext_wr {a : Addr} {sl : Nat} {v : Value} (x : Ext h h1) (W : Wr h1 h2 a sl v) (q : h.size ≤ a) : Ext h h2 := ext_keep x (Keep.of_wr W) (allS q all0)
theorem keep_ext {ws : List Addr} (E : Ext h h1) : Keep h h1 ws := (Keep.refl h ws).ext E
end Walk
section Rows
variable {p : Program} {l : Launch} {e : Env} {R : Room} {s : State} {m : MethodId} {args : Array Value} {below : List Frame} {meth : Method} {c : Code} {T : State} {locs : List Loc} {cells slots : Nat} {Z : State} {a0 : Array Value} {h : Heap} {F : Outcome → State → Prop} {pc pc' : Nat} {Ls : Array Slot} {rest : List Value}
theorem q_iloadN (X : Stand p l e R s m args below meth c T locs cells slots) (hx : p.tables.exec = Jvm.exec) {k : Fin 4} {v : Int32} (hd : decode c.code pc = .ok (.iload_n k, 1)) (hl : Ls[k.val]? = some (.val (.int v))) (hp : pc + 1 = pc') (go : Run p e below F (T.setTop (mkF m pc' Ls (.int v :: rest)))) : Run p e below F (T.setTop (mkF m pc Ls rest)) := by
  subst hp
  exact Run.via (fun _ q => XS.iloadN X.here hx rfl hd hl q) go
theorem q_iload (X : Stand p l e R s m args below meth c T locs cells slots) (hx : p.tables.exec = Jvm.exec) {k : Nat} {v : Int32} (hd : decode c.code pc = .ok (.iload k, 2)) (hl : Ls[k]? = some (.val (.int v))) (hp : pc + 2 = pc') (go : Run p e below F (T.setTop (mkF m pc' Ls (.int v :: rest)))) : Run p e below F (T.setTop (mkF m pc Ls rest)) := by
  subst hp
  exact Run.via (fun _ q => XS.iload X.here hx rfl hd hl q) go
theorem q_aloadN (X : Stand p l e R s m args below meth c T locs cells slots) (hx : p.tables.exec = Jvm.exec) {k : Fin 4} {v : Value} (hd : decode c.code pc = .ok (.aload_n k, 1)) (hl : Ls[k.val]? = some (.val v)) (hv : v.isRef = true) (hp : pc + 1 = pc') (go : Run p e below F (T.setTop (mkF m pc' Ls (v :: rest)))) : Run p e below F (T.setTop (mkF m pc Ls rest)) := by
  subst hp
  exact Run.via (fun _ q => XS.aloadN X.here hx rfl hd hl hv q) go
theorem q_aload (X : Stand p l e R s m args below meth c T locs cells slots) (hx : p.tables.exec = Jvm.exec) {k : Nat} {v : Value} (hd : decode c.code pc = .ok (.aload k, 2)) (hl : Ls[k]? = some (.val v)) (hv : v.isRef = true) (hp : pc + 2 = pc') (go : Run p e below F (T.setTop (mkF m pc' Ls (v :: rest)))) : Run p e below F (T.setTop (mkF m pc Ls rest)) := by
  subst hp
  exact Run.via (fun _ q => XS.aload X.here hx rfl hd hl hv q) go
theorem q_istoreN (X : Stand p l e R s m args below meth c T locs cells slots) (hx : p.tables.exec = Jvm.exec) {k : Fin 4} {v : Int32} {l' : Array Slot} (hd : decode c.code pc = .ok (.istore_n k, 1)) (hl : storeLocals Ls k.val (.int v) = some l') (hp : pc + 1 = pc') (go : Run p e below F (T.setTop (mkF m pc' l' rest))) : Run p e below F (T.setTop (mkF m pc Ls (.int v :: rest))) := by
  subst hp
  exact Run.via (fun _ q => XS.istoreN X.here hx rfl hd rfl hl q) go
theorem q_istore (X : Stand p l e R s m args below meth c T locs cells slots) (hx : p.tables.exec = Jvm.exec) {k : Nat} {v : Int32} {l' : Array Slot} (hd : decode c.code pc = .ok (.istore k, 2)) (hl : storeLocals Ls k (.int v) = some l') (hp : pc + 2 = pc') (go : Run p e below F (T.setTop (mkF m pc' l' rest))) : Run p e below F (T.setTop (mkF m pc Ls (.int v :: rest))) := by
  subst hp
  exact Run.via (fun _ q => XS.istore X.here hx rfl hd rfl hl q) go
theorem q_astoreN (X : Stand p l e R s m args below meth c T locs cells slots) (hx : p.tables.exec = Jvm.exec) {k : Fin 4} {v : Value} {l' : Array Slot} (hd : decode c.code pc = .ok (.astore_n k, 1)) (hv : v.isRef = true) (hl : storeLocals Ls k.val v = some l') (hp : pc + 1 = pc') (go : Run p e below F (T.setTop (mkF m pc' l' rest))) : Run p e below F (T.setTop (mkF m pc Ls (v :: rest))) := by
  subst hp
  exact Run.via (fun _ q => XS.astoreN X.here hx rfl hd rfl hv hl q) go
theorem q_astore (X : Stand p l e R s m args below meth c T locs cells slots) (hx : p.tables.exec = Jvm.exec) {k : Nat} {v : Value} {l' : Array Slot} (hd : decode c.code pc = .ok (.astore k, 2)) (hv : v.isRef = true) (hl : storeLocals Ls k v = some l') (hp : pc + 2 = pc') (go : Run p e below F (T.setTop (mkF m pc' l' rest))) : Run p e below F (T.setTop (mkF m pc Ls (v :: rest))) := by
  subst hp
  exact Run.via (fun _ q => XS.astore X.here hx rfl hd rfl hv hl q) go
theorem q_iconst (X : Stand p l e R s m args below meth c T locs cells slots) (hx : p.tables.exec = Jvm.exec) {i : Int} {z : Int32} (hd : decode c.code pc = .ok (.iconst i, 1)) (hz : Int32.ofInt i = z) (hp : pc + 1 = pc') (go : Run p e below F (T.setTop (mkF m pc' Ls (.int z :: rest)))) : Run p e below F (T.setTop (mkF m pc Ls rest)) := by
  subst hp
  exact Run.via (fun _ q => XS.iconst X.here hx rfl hd (by rw [hz]; exact q)) go
theorem q_bipush (X : Stand p l e R s m args below meth c T locs cells slots) (hx : p.tables.exec = Jvm.exec) {i : Int} {z : Int32} (hd : decode c.code pc = .ok (.bipush i, 2)) (hz : (Int8.ofInt i).toInt32 = z) (hp : pc + 2 = pc') (go : Run p e below F (T.setTop (mkF m pc' Ls (.int z :: rest)))) : Run p e below F (T.setTop (mkF m pc Ls rest)) := by
  subst hp
  exact Run.via (fun _ q => XS.bipush X.here hx rfl hd (by rw [hz]; exact q)) go
theorem q_sipush (X : Stand p l e R s m args below meth c T locs cells slots) (hx : p.tables.exec = Jvm.exec) {i : Int} {z : Int32} (hd : decode c.code pc = .ok (.sipush i, 3)) (hz : (Int16.ofInt i).toInt32 = z) (hp : pc + 3 = pc') (go : Run p e below F (T.setTop (mkF m pc' Ls (.int z :: rest)))) : Run p e below F (T.setTop (mkF m pc Ls rest)) := by
  subst hp
  exact Run.via (fun _ q => XS.sipush X.here hx rfl hd (by rw [hz]; exact q)) go
theorem q_null (X : Stand p l e R s m args below meth c T locs cells slots) (hx : p.tables.exec = Jvm.exec)  (hd : decode c.code pc = .ok (.aconst_null, 1))  (hp : pc + 1 = pc') (go : Run p e below F (T.setTop (mkF m pc' Ls (.null :: rest)))) : Run p e below F (T.setTop (mkF m pc Ls rest)) := by
  subst hp
  exact Run.via (fun _ q => XS.aconstNull X.here hx rfl hd q) go
theorem q_iadd (X : Stand p l e R s m args below meth c T locs cells slots) (hx : p.tables.exec = Jvm.exec) {x y z : Int32} (hd : decode c.code pc = .ok (.iadd, 1)) (hz : x + y = z) (hp : pc + 1 = pc') (go : Run p e below F (T.setTop (mkF m pc' Ls (.int z :: rest)))) : Run p e below F (T.setTop (mkF m pc Ls (.int y :: .int x :: rest))) := by
  subst hp
  exact Run.via (fun _ q => XS.iadd X.here hx rfl hd rfl (by rw [hz]; exact q)) go
theorem q_isub (X : Stand p l e R s m args below meth c T locs cells slots) (hx : p.tables.exec = Jvm.exec) {x y z : Int32} (hd : decode c.code pc = .ok (.isub, 1)) (hz : x - y = z) (hp : pc + 1 = pc') (go : Run p e below F (T.setTop (mkF m pc' Ls (.int z :: rest)))) : Run p e below F (T.setTop (mkF m pc Ls (.int y :: .int x :: rest))) := by
  subst hp
  exact Run.via (fun _ q => XS.isub X.here hx rfl hd rfl (by rw [hz]; exact q)) go
theorem q_imul (X : Stand p l e R s m args below meth c T locs cells slots) (hx : p.tables.exec = Jvm.exec) {x y z : Int32} (hd : decode c.code pc = .ok (.imul, 1)) (hz : x * y = z) (hp : pc + 1 = pc') (go : Run p e below F (T.setTop (mkF m pc' Ls (.int z :: rest)))) : Run p e below F (T.setTop (mkF m pc Ls (.int y :: .int x :: rest))) := by
  subst hp
  exact Run.via (fun _ q => XS.imul X.here hx rfl hd rfl (by rw [hz]; exact q)) go
theorem q_iand (X : Stand p l e R s m args below meth c T locs cells slots) (hx : p.tables.exec = Jvm.exec) {x y z : Int32} (hd : decode c.code pc = .ok (.iand, 1)) (hz : x &&& y = z) (hp : pc + 1 = pc') (go : Run p e below F (T.setTop (mkF m pc' Ls (.int z :: rest)))) : Run p e below F (T.setTop (mkF m pc Ls (.int y :: .int x :: rest))) := by
  subst hp
  exact Run.via (fun _ q => XS.iand X.here hx rfl hd rfl (by rw [hz]; exact q)) go
theorem q_ior (X : Stand p l e R s m args below meth c T locs cells slots) (hx : p.tables.exec = Jvm.exec) {x y z : Int32} (hd : decode c.code pc = .ok (.ior, 1)) (hz : x ||| y = z) (hp : pc + 1 = pc') (go : Run p e below F (T.setTop (mkF m pc' Ls (.int z :: rest)))) : Run p e below F (T.setTop (mkF m pc Ls (.int y :: .int x :: rest))) := by
  subst hp
  exact Run.via (fun _ q => XS.ior X.here hx rfl hd rfl (by rw [hz]; exact q)) go
theorem q_ixor (X : Stand p l e R s m args below meth c T locs cells slots) (hx : p.tables.exec = Jvm.exec) {x y z : Int32} (hd : decode c.code pc = .ok (.ixor, 1)) (hz : x ^^^ y = z) (hp : pc + 1 = pc') (go : Run p e below F (T.setTop (mkF m pc' Ls (.int z :: rest)))) : Run p e below F (T.setTop (mkF m pc Ls (.int y :: .int x :: rest))) := by
  subst hp
  exact Run.via (fun _ q => XS.ixor X.here hx rfl hd rfl (by rw [hz]; exact q)) go
theorem q_ishr (X : Stand p l e R s m args below meth c T locs cells slots) (hx : p.tables.exec = Jvm.exec) {x y z : Int32} (hd : decode c.code pc = .ok (.ishr, 1)) (hz : x >>> (y &&& 31) = z) (hp : pc + 1 = pc') (go : Run p e below F (T.setTop (mkF m pc' Ls (.int z :: rest)))) : Run p e below F (T.setTop (mkF m pc Ls (.int y :: .int x :: rest))) := by
  subst hp
  exact Run.via (fun _ q => XS.ishr X.here hx rfl hd rfl (by rw [hz]; exact q)) go
theorem q_ishl (X : Stand p l e R s m args below meth c T locs cells slots) (hx : p.tables.exec = Jvm.exec) {x y z : Int32} (hd : decode c.code pc = .ok (.ishl, 1)) (hz : x <<< (y &&& 31) = z) (hp : pc + 1 = pc') (go : Run p e below F (T.setTop (mkF m pc' Ls (.int z :: rest)))) : Run p e below F (T.setTop (mkF m pc Ls (.int y :: .int x :: rest))) := by
  subst hp
  exact Run.via (fun _ q => XS.ishl X.here hx rfl hd rfl (by rw [hz]; exact q)) go
theorem q_iushr (X : Stand p l e R s m args below meth c T locs cells slots) (hx : p.tables.exec = Jvm.exec) {x y z : Int32} (hd : decode c.code pc = .ok (.iushr, 1)) (hz : (x.toUInt32 >>> (y &&& 31).toUInt32).toInt32 = z) (hp : pc + 1 = pc') (go : Run p e below F (T.setTop (mkF m pc' Ls (.int z :: rest)))) : Run p e below F (T.setTop (mkF m pc Ls (.int y :: .int x :: rest))) := by
  subst hp
  exact Run.via (fun _ q => XS.iushr X.here hx rfl hd rfl (by rw [hz]; exact q)) go
theorem q_idiv (X : Stand p l e R s m args below meth c T locs cells slots) (hx : p.tables.exec = Jvm.exec) {x y z : Int32} (hd : decode c.code pc = .ok (.idiv, 1)) (hy : y ≠ 0) (hz : x / y = z) (hp : pc + 1 = pc') (go : Run p e below F (T.setTop (mkF m pc' Ls (.int z :: rest)))) : Run p e below F (T.setTop (mkF m pc Ls (.int y :: .int x :: rest))) := by
  subst hp
  exact Run.via (fun _ q => XS.idiv X.here hx rfl hd rfl hy (by rw [hz]; exact q)) go
theorem q_irem (X : Stand p l e R s m args below meth c T locs cells slots) (hx : p.tables.exec = Jvm.exec) {x y z : Int32} (hd : decode c.code pc = .ok (.irem, 1)) (hy : y ≠ 0) (hz : x % y = z) (hp : pc + 1 = pc') (go : Run p e below F (T.setTop (mkF m pc' Ls (.int z :: rest)))) : Run p e below F (T.setTop (mkF m pc Ls (.int y :: .int x :: rest))) := by
  subst hp
  exact Run.via (fun _ q => iremM X hx rfl hd rfl hy (by rw [hz]; exact q)) go
theorem q_iinc (X : Stand p l e R s m args below meth c T locs cells slots) (hx : p.tables.exec = Jvm.exec) {k : Nat} {i : Int} {x : Int32} {l' : Array Slot} (hd : decode c.code pc = .ok (.iinc k i, 3)) (hl : Ls[k]? = some (.val (.int x))) (hl' : storeLocals Ls k (.int (x + Int32.ofInt i)) = some l') (hp : pc + 3 = pc') (go : Run p e below F (T.setTop (mkF m pc' l' rest))) : Run p e below F (T.setTop (mkF m pc Ls rest)) := by
  subst hp
  exact Run.via (fun _ q => XS.iinc X.here hx rfl hd hl hl' q) go
theorem q_dup (X : Stand p l e R s m args below meth c T locs cells slots) (hx : p.tables.exec = Jvm.exec) {x : Value} (hd : decode c.code pc = .ok (.dup, 1)) (hc : x.category = 1) (hp : pc + 1 = pc') (go : Run p e below F (T.setTop (mkF m pc' Ls (x :: x :: rest)))) : Run p e below F (T.setTop (mkF m pc Ls (x :: rest))) := by
  subst hp
  exact Run.via (fun _ q => XS.dup X.here hx rfl hd rfl hc q) go
theorem q_dupX1 (X : Stand p l e R s m args below meth c T locs cells slots) (hx : p.tables.exec = Jvm.exec) {x y : Value} (hd : decode c.code pc = .ok (.dup_x1, 1)) (hc : x.category = 1) (hc' : y.category = 1) (hp : pc + 1 = pc') (go : Run p e below F (T.setTop (mkF m pc' Ls (x :: y :: x :: rest)))) : Run p e below F (T.setTop (mkF m pc Ls (x :: y :: rest))) := by
  subst hp
  exact Run.via (fun _ q => XS.dupX1 X.here hx rfl hd rfl hc hc' q) go
theorem q_pop (X : Stand p l e R s m args below meth c T locs cells slots) (hx : p.tables.exec = Jvm.exec) {x : Value} (hd : decode c.code pc = .ok (.pop, 1)) (hc : x.category = 1) (hp : pc + 1 = pc') (go : Run p e below F (T.setTop (mkF m pc' Ls rest))) : Run p e below F (T.setTop (mkF m pc Ls (x :: rest))) := by
  subst hp
  exact Run.via (fun _ q => XS.pop X.here hx rfl hd rfl hc q) go
theorem q_goto (X : Stand p l e R s m args below meth c T locs cells slots) (hx : p.tables.exec = Jvm.exec) {o : Int} (hd : decode c.code pc = .ok (.goto o, 3))  (ho : 0 ≤ (pc : Int) + o) (hp : ((pc : Int) + o).toNat = pc') (go : Run p e below F (T.setTop (mkF m pc' Ls rest))) : Run p e below F (T.setTop (mkF m pc Ls rest)) := by
  subst hp
  exact Run.via (fun _ q => XS.goto X.here hx rfl rfl hd ho rfl q) go
theorem q_ifYes (X : Stand p l e R s m args below meth c T locs cells slots) (hx : p.tables.exec = Jvm.exec) {cd : ClassFile.Cond} {x : Int32} {o : Int} (hd : decode c.code pc = .ok (.ifCond cd o, 3)) (hc : ifCond.holds cd x = true) (ho : 0 ≤ (pc : Int) + o) (hp : ((pc : Int) + o).toNat = pc') (go : Run p e below F (T.setTop (mkF m pc' Ls rest))) : Run p e below F (T.setTop (mkF m pc Ls (.int x :: rest))) := by
  subst hp
  exact Run.via (fun _ q => XS.ifYes X.here hx rfl rfl hd rfl hc ho rfl q) go
theorem q_ifNo (X : Stand p l e R s m args below meth c T locs cells slots) (hx : p.tables.exec = Jvm.exec) {cd : ClassFile.Cond} {x : Int32} {o : Int} (hd : decode c.code pc = .ok (.ifCond cd o, 3)) (hc : ifCond.holds cd x = false) (hp : pc + 3 = pc') (go : Run p e below F (T.setTop (mkF m pc' Ls rest))) : Run p e below F (T.setTop (mkF m pc Ls (.int x :: rest))) := by
  subst hp
  exact Run.via (fun _ q => XS.ifNo X.here hx rfl hd rfl hc q) go
theorem q_icmpYes (X : Stand p l e R s m args below meth c T locs cells slots) (hx : p.tables.exec = Jvm.exec) {cd : ClassFile.Cond} {x y : Int32} {o : Int} (hd : decode c.code pc = .ok (.if_icmp cd o, 3)) (hc : if_icmp.holds cd x y = true) (ho : 0 ≤ (pc : Int) + o) (hp : ((pc : Int) + o).toNat = pc') (go : Run p e below F (T.setTop (mkF m pc' Ls rest))) : Run p e below F (T.setTop (mkF m pc Ls (.int y :: .int x :: rest))) := by
  subst hp
  exact Run.via (fun _ q => XS.icmpYes X.here hx rfl rfl hd rfl hc ho rfl q) go
theorem q_icmpNo (X : Stand p l e R s m args below meth c T locs cells slots) (hx : p.tables.exec = Jvm.exec) {cd : ClassFile.Cond} {x y : Int32} {o : Int} (hd : decode c.code pc = .ok (.if_icmp cd o, 3)) (hc : if_icmp.holds cd x y = false) (hp : pc + 3 = pc') (go : Run p e below F (T.setTop (mkF m pc' Ls rest))) : Run p e below F (T.setTop (mkF m pc Ls (.int y :: .int x :: rest))) := by
  subst hp
  exact Run.via (fun _ q => XS.icmpNo X.here hx rfl hd rfl hc q) go
theorem q_ifnullYes (X : Stand p l e R s m args below meth c T locs cells slots) (hx : p.tables.exec = Jvm.exec) {o : Int} (hd : decode c.code pc = .ok (.ifnull o, 3))  (ho : 0 ≤ (pc : Int) + o) (hp : ((pc : Int) + o).toNat = pc') (go : Run p e below F (T.setTop (mkF m pc' Ls rest))) : Run p e below F (T.setTop (mkF m pc Ls (.null :: rest))) := by
  subst hp
  exact Run.via (fun _ q => XS.ifnullYes X.here hx rfl rfl hd rfl ho rfl q) go
theorem q_ifnullNo (X : Stand p l e R s m args below meth c T locs cells slots) (hx : p.tables.exec = Jvm.exec) {o : Int} {b : Addr} (hd : decode c.code pc = .ok (.ifnull o, 3))  (hp : pc + 3 = pc') (go : Run p e below F (T.setTop (mkF m pc' Ls rest))) : Run p e below F (T.setTop (mkF m pc Ls (.ref b :: rest))) := by
  subst hp
  exact Run.via (fun _ q => XS.ifnullNo X.here hx rfl hd rfl q) go
theorem q_ifnonnullYes (X : Stand p l e R s m args below meth c T locs cells slots) (hx : p.tables.exec = Jvm.exec) {o : Int} {b : Addr} (hd : decode c.code pc = .ok (.ifnonnull o, 3))  (ho : 0 ≤ (pc : Int) + o) (hp : ((pc : Int) + o).toNat = pc') (go : Run p e below F (T.setTop (mkF m pc' Ls rest))) : Run p e below F (T.setTop (mkF m pc Ls (.ref b :: rest))) := by
  subst hp
  exact Run.via (fun _ q => XS.ifnonnullYes X.here hx rfl rfl hd rfl ho rfl q) go
theorem q_ifnonnullNo (X : Stand p l e R s m args below meth c T locs cells slots) (hx : p.tables.exec = Jvm.exec) {o : Int} (hd : decode c.code pc = .ok (.ifnonnull o, 3))  (hp : pc + 3 = pc') (go : Run p e below F (T.setTop (mkF m pc' Ls rest))) : Run p e below F (T.setTop (mkF m pc Ls (.null :: rest))) := by
  subst hp
  exact Run.via (fun _ q => XS.ifnonnullNo X.here hx rfl hd rfl q) go
theorem q_acmp (X : Stand p l e R s m args below meth c T locs cells slots) (hx : p.tables.exec = Jvm.exec) {cd : ACond} {x y : Value} {o : Int} (hd : decode c.code pc = .ok (.if_acmp cd o, 3)) (h1 : x.isRef = true) (h2 : y.isRef = true) {same : Bool} (hq : decide (x = y) = same) (ho : 0 ≤ (pc : Int) + o) (hp : pc' = if acV cd same = true then ((pc : Int) + o).toNat else pc + 3) (go : Run p e below F (T.setTop (mkF m pc' Ls rest))) : Run p e below F (T.setTop (mkF m pc Ls (y :: x :: rest))) :=
  Run.via (fun _ q => Jvm.RoadKit.acmp X hx rfl h1 h2 rfl hd rfl hq ho hp q) go
theorem q_ldc (X : Stand p l e R s m args below meth c T locs cells slots) (hx : p.tables.exec = Jvm.exec) (hZ : Z.Warmed39 s.vm) {own : String} {index : Nat} (hown : s.vm.findClass own = some m.cls) {v : Int32} (hd : decode c.code pc = .ok (.ldc index, 2)) (w : (Cond.constant own index v).before a0 Z = true) (hp : pc + 2 = pc') (go : Run p e below F (T.setTop (mkF m pc' Ls (.int v :: rest)))) : Run p e below F (T.setTop (mkF m pc Ls rest)) := by
  subst hp
  exact Run.via (X.ldcInt hx hown (mvT hZ w) (g := mkF m pc Ls rest) rfl hd) go
theorem q_getS (X : Stand p l e R s m args below meth c T locs cells slots) (hx : p.tables.exec = Jvm.exec) (hZ : Z.Warmed39 s.vm) {own : String} {index : Nat} (hown : s.vm.findClass own = some m.cls) {R0 n d host : String} {v : Value} (hd : decode c.code pc = .ok (.getstatic index, 3)) (w : (Cond.fieldLink own index R0 n d).before a0 Z = true ∨ (Cond.fieldLinkNest own index R0 n d host).before a0 Z = true) (eT : T.heap = h) (Fs : Sta Z h R0 n d v) (hp : pc + 3 = pc') (go : ∀ T', Stand p l e R s m args below meth c T' locs cells slots → T'.heap = h → Run p e below F (T'.setTop (mkF m pc' Ls (v :: rest)))) : Run p e below F (T.setTop (mkF m pc Ls rest)) := by
  subst hp
  obtain ⟨T', X', e', st⟩ := getS2 X hx hZ hown w Via.refl eT Fs (g := mkF m pc Ls rest) rfl hd
  exact Run.via st (go T' X' e')
theorem q_getF (X : Stand p l e R s m args below meth c T locs cells slots) (hx : p.tables.exec = Jvm.exec) (hZ : Z.Warmed39 s.vm) {own : String} {index : Nat} (hown : s.vm.findClass own = some m.cls) {R0 n d host : String} {a : Addr} {v : Value} (hd : decode c.code pc = .ok (.getfield index, 3)) (w : (Cond.fieldLink own index R0 n d).before a0 Z = true ∨ (Cond.fieldLinkNest own index R0 n d host).before a0 Z = true) (eT : T.heap = h) (Fs : Fld Z h a R0 n d v) (hp : pc + 3 = pc') (go : ∀ T', Stand p l e R s m args below meth c T' locs cells slots → T'.heap = h → Run p e below F (T'.setTop (mkF m pc' Ls (v :: rest)))) : Run p e below F (T.setTop (mkF m pc Ls (.ref a :: rest))) := by
  subst hp
  obtain ⟨T', X', e', st⟩ := getF X hx hZ hown w Via.refl eT Fs (g := mkF m pc Ls (.ref a :: rest)) rfl rfl hd
  exact Run.via st (go T' X' e')
theorem q_putF (X : Stand p l e R s m args below meth c T locs cells slots) (hx : p.tables.exec = Jvm.exec) (hZ : Z.Warmed39 s.vm) {own : String} {index : Nat} (hown : s.vm.findClass own = some m.cls) {R0 n d host C : String} {kk : Nat} {ty : FieldType} {a : Addr} {v old : Value} (hd : decode c.code pc = .ok (.putfield index, 3)) (w : (Cond.fieldLink own index R0 n d).before a0 Z = true ∨ (Cond.fieldLinkNest own index R0 n d host).before a0 Z = true) (eT : T.heap = h) (Fs : Fld Z h a R0 n d old) (E : Exa Z h a C) (Lw : (Cond.lays C R0 n d).before a0 Z = true ∨ ((Cond.laysFinal C R0 n d).before a0 Z = true ∧ own = R0 ∧ meth.name = "<init>")) (wi : (Cond.instantiable C kk).before a0 Z = true) (hty : parseFieldDescriptor d = some ty) (hn : narrow ty v = v) (hf : fits ty v = true) (hp : pc + 3 = pc') (go : ∀ T' h', Stand p l e R s m args below meth c T' (locs ++ [⟨a, Jvm.RoadKit.slotOf Z R0 n d⟩]) cells slots → T'.heap = h' → Wr h h' a (Jvm.RoadKit.slotOf Z R0 n d) v → Run p e below F (T'.setTop (mkF m pc' Ls rest))) : Run p e below F (T.setTop (mkF m pc Ls (v :: .ref a :: rest))) := by
  subst hp
  obtain ⟨T', h', X', e', W, st⟩ := putF X hx hZ hown w Via.refl eT Fs E Lw wi hty hn hf (g := mkF m pc Ls (v :: .ref a :: rest)) rfl rfl hd
  exact Run.via st (go T' h' X' e' W)
theorem q_putFN (X : Stand p l e R s m args below meth c T locs cells slots) (hx : p.tables.exec = Jvm.exec) (hZ : Z.Warmed39 s.vm) {own : String} {index : Nat} (hown : s.vm.findClass own = some m.cls) {R0 n d C : String} {kk : Nat} {ty : FieldType} {a : Addr} {v v' old : Value} (hd : decode c.code pc = .ok (.putfield index, 3)) (w : (Cond.fieldLink own index R0 n d).before a0 Z = true) (eT : T.heap = h) (Fs : Fld Z h a R0 n d old) (E : Exa Z h a C) (Lw : (Cond.lays C R0 n d).before a0 Z = true ∨ ((Cond.laysFinal C R0 n d).before a0 Z = true ∧ own = R0 ∧ meth.name = "<init>")) (wi : (Cond.instantiable C kk).before a0 Z = true) (hty : parseFieldDescriptor d = some ty) (hn : narrow ty v = v') (hf : fits ty v' = true) (hp : pc + 3 = pc') (go : ∀ T' h', Stand p l e R s m args below meth c T' (locs ++ [⟨a, Jvm.RoadKit.slotOf Z R0 n d⟩]) cells slots → T'.heap = h' → Wr h h' a (Jvm.RoadKit.slotOf Z R0 n d) v' → Run p e below F (T'.setTop (mkF m pc' Ls rest))) : Run p e below F (T.setTop (mkF m pc Ls (v :: .ref a :: rest))) := by
  subst hp
  obtain ⟨T', h', X', e', W, st⟩ := putFN X hx hZ hown w Via.refl eT Fs E Lw wi hty hn hf (g := mkF m pc Ls (v :: .ref a :: rest)) rfl rfl hd
  exact Run.via st (go T' h' X' e' W)
theorem q_new (X : Stand p l e R s m args below meth c T locs cells slots) (hx : p.tables.exec = Jvm.exec) (hZ : Z.Warmed39 s.vm) {own : String} {index : Nat} (hown : s.vm.findClass own = some m.cls) {C : String} {n : Nat} (hd : decode c.code pc = .ok (.new index, 3)) (w : (Cond.classLink own index C).before a0 Z = true) (wi : (Cond.instantiable C n).before a0 Z = true) (wz : (Cond.initialized C).before a0 Z = true) (eT : T.heap = h) (hc : cells + 1 ≤ R.cells) (hl : slots + n ≤ R.slots) (hp : pc + 3 = pc') (go : ∀ T' h' b, Stand p l e R s m args below meth c T' locs (cells + 1) (slots + n) → T'.heap = h' → Ext h h' → b = h.size → Exa Z h' b C → (∀ {O nm d : String} {ty : FieldType}, Laid Z a0 C O nm d → parseFieldDescriptor d = some ty → Fld Z h' b O nm d (defaultValue ty)) → Run p e below F (T'.setTop (mkF m pc' Ls (.ref b :: rest)))) : Run p e below F (T.setTop (mkF m pc Ls rest)) := by
  subst hp
  obtain ⟨T', h', X', e', E, A, D, -, st⟩ := newO X hx hZ hown w wi wz eT (g := mkF m pc Ls rest) rfl hd hc hl
  exact Run.via st (go T' h' _ X' e' E rfl A D)
theorem q_anew (X : Stand p l e R s m args below meth c T locs cells slots) (hx : p.tables.exec = Jvm.exec) (hZ : Z.Warmed39 s.vm) {own : String} {index : Nat} (hown : s.vm.findClass own = some m.cls) {C : String} {z : Int32} {cap : Nat} (hd : decode c.code pc = .ok (.anewarray index, 3)) (w1 : (Cond.classLink own index C).before a0 Z = true) (w2 : (Cond.arrayOver (.object C)).before a0 Z = true) (eT : T.heap = h) (hn : ¬ z < 0) (hcap : z.toNatClampNeg ≤ cap) (hb : cap * 8 ≤ 536870912) (hc : cells + 1 ≤ R.cells) (hl : slots + cap ≤ R.slots) (hp : pc + 3 = pc') (go : ∀ T' h' b cA, Stand p l e R s m args below meth c T' locs (cells + 1) (slots + cap) → T'.heap = h' → Ext h h' → b = h.size → Arr Z h' b (newA cA (.object C) z) (.object C) → Ovr Z cA C → Run p e below F (T'.setTop (mkF m pc' Ls (.ref b :: rest)))) : Run p e below F (T.setTop (mkF m pc Ls (.int z :: rest))) := by
  subst hp
  obtain ⟨T', h', cA, X', e', E, A, O, st⟩ := newR X hx hZ hown w1 w2 eT (g := mkF m pc Ls (.int z :: rest)) rfl hd rfl hn hcap hb hc hl
  exact Run.via st (go T' h' _ cA X' e' E rfl A O)
theorem q_cast (X : Stand p l e R s m args below meth c T locs cells slots) (hx : p.tables.exec = Jvm.exec) (hZ : Z.Warmed39 s.vm) {own : String} {index : Nat} (hown : s.vm.findClass own = some m.cls) {K : String} {v : Value} (hd : decode c.code pc = .ok (.checkcast index, 3)) (w : (Cond.classLink own index K).before a0 Z = true) (eT : T.heap = h) (B : v = .null ∨ ∃ r, v = .ref r ∧ Ins Z h r K true) (hp : pc + 3 = pc') (go : ∀ T', Stand p l e R s m args below meth c T' locs cells slots → T'.heap = h → Run p e below F (T'.setTop (mkF m pc' Ls (v :: rest)))) : Run p e below F (T.setTop (mkF m pc Ls (v :: rest))) := by
  subst hp
  obtain ⟨T', X', e', st⟩ := castVV X hx hZ hown w eT B (g := mkF m pc Ls (v :: rest)) rfl rfl hd
  exact Run.via st (go T' X' e')
theorem q_aald (X : Stand p l e R s m args below meth c T locs cells slots) (hx : p.tables.exec = Jvm.exec) (hZ : Z.Warmed39 s.vm) {a : Addr} {k : ClassId} {ty : FieldType} {z j : Int32} {vs : List Value} {dv v : Value} (hd : decode c.code pc = .ok (.aaload, 1)) (eT : T.heap = h) (A : Arv Z h a k ty z vs dv) (hty : ty.isReference = true) (hj : ¬ j < 0 ∧ j < z) (hv : vs.getD j.toNatClampNeg dv = v) (hp : pc + 1 = pc') (go : Run p e below F (T.setTop (mkF m pc' Ls (v :: rest)))) : Run p e below F (T.setTop (mkF m pc Ls (.int j :: .ref a :: rest))) := by
  subst hp
  exact Run.via (aaldV X hx hZ eT A hty hj hv (g := mkF m pc Ls (.int j :: .ref a :: rest)) rfl rfl hd) go
theorem q_len (X : Stand p l e R s m args below meth c T locs cells slots) (hx : p.tables.exec = Jvm.exec) (hZ : Z.Warmed39 s.vm) {a : Addr} {k : ClassId} {ty : FieldType} {z : Int32} {vs : List Value} {dv : Value} (hd : decode c.code pc = .ok (.arraylength, 1)) (eT : T.heap = h) (A : Arv Z h a k ty z vs dv) (hp : pc + 1 = pc') (go : Run p e below F (T.setTop (mkF m pc' Ls (.int z :: rest)))) : Run p e below F (T.setTop (mkF m pc Ls (.ref a :: rest))) := by
  subst hp
  exact Run.via (lenV X hx hZ eT A (g := mkF m pc Ls (.ref a :: rest)) rfl rfl hd) go
theorem q_aast (X : Stand p l e R s m args below meth c T locs cells slots) (hx : p.tables.exec = Jvm.exec) (hZ : Z.Warmed39 s.vm) {a : Addr} {k : ClassId} {ty : FieldType} {z j : Int32} {vs : List Value} {dv v : Value} (hd : decode c.code pc = .ok (.aastore, 1)) (eT : T.heap = h) (A : Arv Z h a k ty z vs dv) (hty : ty.isReference = true) (hj : ¬ j < 0 ∧ j < z) {i : Nat} (hi : j.toNatClampNeg = i) (hlen : i < vs.length) (Fs : ∀ cl, Arr Z h a cl ty → cl.cls = k → Sto Z h a v) (hfit : fits ty v = true) (hp : pc + 1 = pc') (go : ∀ T' h', Stand p l e R s m args below meth c T' (locs ++ [⟨a, j.toNatClampNeg⟩]) cells slots → T'.heap = h' → Wr h h' a j.toNatClampNeg v → Arv Z h' a k ty z (vs.set i v) dv → Run p e below F (T'.setTop (mkF m pc' Ls rest))) : Run p e below F (T.setTop (mkF m pc Ls (v :: .int j :: .ref a :: rest))) := by
  subst hp
  obtain ⟨T', h', X', e', W, A', st⟩ := aastV X hx hZ eT A hty hj hi hlen Fs hfit (g := mkF m pc Ls (v :: .int j :: .ref a :: rest)) rfl rfl hd
  exact Run.via st (go T' h' X' e' W A')
theorem q_initO (X : Stand p l e R s m args below meth c T locs cells slots) (hx : p.tables.exec = Jvm.exec) (hZ : Z.Warmed39 s.vm) {own : String} {index : Nat} (hown : s.vm.findClass own = some m.cls) {a : Addr} (hd : decode c.code pc = .ok (.invokespecial index, 3)) (w1 : (Cond.methodLink own index Lib.objectInit).before a0 Z = true) (w2 : (Cond.instanceMethod Lib.objectInit).before a0 Z = true) (w3 : (Cond.code Lib.objectInit ⟨#[0xb1]⟩ 1 none).before a0 Z = true) (eT : T.heap = h) (hsize : Ls.size = c.maxLocals) (hf : 1 ≤ R.frames) {W : Nat} (hW : (rest.map fun v => v.category).sum = W) (hl : W + 12 ≤ R.locals) (hp : pc + 3 = pc') (go : ∀ T', Stand p l e R s m args below meth c T' locs cells slots → T'.heap = h → Run p e below F (T'.setTop (mkF m pc' Ls rest))) : Run p e below F (T.setTop (mkF m pc Ls (.ref a :: rest))) := by
  subst hp
  obtain ⟨T', X', e', st⟩ := initO X hx hZ hown w1 w2 w3 eT (g := mkF m pc Ls (.ref a :: rest)) rfl hsize rfl hd hf (W := W) (by show 2 * 0 + _ ≤ _; omega) hl
  exact Run.via st (go T' X' e')
theorem q_callC (X : Stand p l e R s m args below meth c T locs cells slots) (hx : p.tables.exec = Jvm.exec) (hZ : Z.Warmed39 s.vm) {own : String} {index : Nat} (hown : s.vm.findClass own = some m.cls) {y : MethodName} {bytes : ByteArray} {maxL : Nat} {rm : Room} {P : Option Value → Heap → List Loc → Prop} {ret : Option FieldType} (hd : decode c.code pc = .ok (.invokestatic index, 3)) (w1 : (Cond.methodLink own index y).before a0 Z = true) (w2 : (Cond.static y).before a0 Z = true) (w3 : (Cond.initialized y.cls).before a0 Z = true) (w4 : (Cond.code y bytes maxL ret).before a0 Z = true) (hy : y.cls ≠ "java/lang/invoke/MethodHandle" ∧ y.cls ≠ "java/lang/invoke/VarHandle") (eT : T.heap = h) (argsL : List Value) (K : Ctr l Z y bytes maxL ret rm argsL.toArray h P) (hsize : Ls.size = c.maxLocals) (hlen : ∀ sig, parseMethodDescriptor y.desc = some sig → argsL.length = sig.parameters.length) {W : Nat} (hW : (rest.map fun v => v.category).sum = W) (hf : rm.frames + 1 ≤ R.frames) (hl : W + (maxL + 11) + rm.locals ≤ R.locals) (hc : cells + rm.cells ≤ R.cells) (hsl : slots + rm.slots ≤ R.slots) (hp : pc + 3 = pc') (go : ∀ v T' L, Stand p l e R s m args below meth c T' (locs ++ L) (cells + rm.cells) (slots + rm.slots) → P v T'.heap L → Run p e below F (T'.setTop (mkF m pc' Ls (v.toList ++ rest)))) : Run p e below F (T.setTop (mkF m pc Ls (argsL.reverse ++ rest))) := by
  subst hp
  obtain ⟨v, T', L, X', q, st⟩ := callC X hx hZ hown w1 w2 w3 w4 hy eT (argsL := argsL) (rest := rest) K (g := mkF m pc Ls (argsL.reverse ++ rest)) rfl hsize rfl hd hlen (W := W) (by show 2 * 0 + _ ≤ _; omega) hf hl hc hsl
  exact Run.via st (go v T' L X' q)
theorem q_callV (X : Stand p l e R s m args below meth c T locs cells slots) (hx : p.tables.exec = Jvm.exec) (hZ : Z.Warmed39 s.vm) {own : String} {index : Nat} (hown : s.vm.findClass own = some m.cls) {y : MethodName} {bytes : ByteArray} {maxL : Nat} {rm : Room} {P : Option Value → Heap → List Loc → Prop} {ret : Option FieldType} {C : String} {b : Addr} (hd : decode c.code pc = .ok (.invokevirtual index, 3)) (w1 : (Cond.methodLink own index y).before a0 Z = true) (w2 : (Cond.declares y).before a0 Z = true) (w5 : (Cond.selects C y y).before a0 Z = true) (w6 : (Cond.instanceMethod y).before a0 Z = true) (w3 : (Cond.initialized y.cls).before a0 Z = true) (w4 : (Cond.code y bytes maxL ret).before a0 Z = true) (hy : y.cls ≠ "java/lang/invoke/MethodHandle" ∧ y.cls ≠ "java/lang/invoke/VarHandle") (eT : T.heap = h) (E : Exa Z h b C) (argsL : List Value) (K : Ctr l Z y bytes maxL ret rm (.ref b :: argsL).toArray h P) (hsize : Ls.size = c.maxLocals) (hlen : ∀ sig, parseMethodDescriptor y.desc = some sig → argsL.length = sig.parameters.length) {W : Nat} (hW : (rest.map fun v => v.category).sum = W) (hf : rm.frames + 1 ≤ R.frames) (hl : W + (maxL + 11) + rm.locals ≤ R.locals) (hc : cells + rm.cells ≤ R.cells) (hsl : slots + rm.slots ≤ R.slots) (hp : pc + 3 = pc') (go : ∀ v T' L, Stand p l e R s m args below meth c T' (locs ++ L) (cells + rm.cells) (slots + rm.slots) → P v T'.heap L → Run p e below F (T'.setTop (mkF m pc' Ls (v.toList ++ rest)))) : Run p e below F (T.setTop (mkF m pc Ls (argsL.reverse ++ .ref b :: rest))) := by
  subst hp
  obtain ⟨v, T', L, X', q, st⟩ := callV X hx hZ hown w1 w2 w5 w6 w3 w4 hy eT E (argsL := argsL) (rest := rest) K (g := mkF m pc Ls (argsL.reverse ++ .ref b :: rest)) rfl hsize rfl hd hlen (W := W) (by show 2 * 0 + _ ≤ _; omega) hf hl hc hsl
  exact Run.via st (go v T' L X' q)
theorem q_callN (X : Stand p l e R s m args below meth c T locs cells slots) (hx : p.tables.exec = Jvm.exec) (hZ : Z.Warmed39 s.vm) {own : String} {index : Nat} (hown : s.vm.findClass own = some m.cls) {y : MethodName} {bytes : ByteArray} {maxL : Nat} {rm : Room} {P : Option Value → Heap → List Loc → Prop} {b : Addr} (hd : decode c.code pc = .ok (.invokespecial index, 3)) (hy1 : y.name = "<init>") (w1 : (Cond.methodLink own index y).before a0 Z = true) (w6 : (Cond.instanceMethod y).before a0 Z = true) (w3 : (Cond.initialized y.cls).before a0 Z = true) (w4 : (Cond.code y bytes maxL none).before a0 Z = true) (hy : y.cls ≠ "java/lang/invoke/MethodHandle" ∧ y.cls ≠ "java/lang/invoke/VarHandle") (eT : T.heap = h) (argsL : List Value) (K : Ctr l Z y bytes maxL none rm (.ref b :: argsL).toArray h P) (hsize : Ls.size = c.maxLocals) (hlen : ∀ sig, parseMethodDescriptor y.desc = some sig → argsL.length = sig.parameters.length) {W : Nat} (hW : (rest.map fun v => v.category).sum = W) (hf : rm.frames + 1 ≤ R.frames) (hl : W + (maxL + 11) + rm.locals ≤ R.locals) (hc : cells + rm.cells ≤ R.cells) (hsl : slots + rm.slots ≤ R.slots) (hp : pc + 3 = pc') (go : ∀ v T' L, Stand p l e R s m args below meth c T' (locs ++ L) (cells + rm.cells) (slots + rm.slots) → P v T'.heap L → Run p e below F (T'.setTop (mkF m pc' Ls (v.toList ++ rest)))) : Run p e below F (T.setTop (mkF m pc Ls (argsL.reverse ++ .ref b :: rest))) := by
  subst hp
  obtain ⟨v, T', L, X', q, st⟩ := callN X hx hZ hy1 hown w1 w6 w3 w4 hy eT (argsL := argsL) (rest := rest) K (g := mkF m pc Ls (argsL.reverse ++ .ref b :: rest)) rfl hsize rfl hd hlen (W := W) (by show 2 * 0 + _ ≤ _; omega) hf hl hc hsl
  exact Run.via st (go v T' L X' q)
theorem q_callP (X : Stand p l e R s m args below meth c T locs cells slots) (hx : p.tables.exec = Jvm.exec) (hZ : Z.Warmed39 s.vm) {own : String} {index : Nat} (hown : s.vm.findClass own = some m.cls) {y : MethodName} {bytes : ByteArray} {maxL : Nat} {rm : Room} {P : Option Value → Heap → List Loc → Prop} {ret : Option FieldType} {C : String} {b : Addr} {nn : Nat} (hd : decode c.code pc = .ok (.invokevirtual index, 3)) (w1 : (Cond.methodLink own index y).before a0 Z = true) (w6 : (Cond.instanceMethod y).before a0 Z = true) (w7 : (Cond.privateMethod y).before a0 Z = true) (w8 : (Cond.instantiable y.cls nn).before a0 Z = true) (w3 : (Cond.initialized y.cls).before a0 Z = true) (w4 : (Cond.code y bytes maxL ret).before a0 Z = true) (hy : y.cls ≠ "java/lang/invoke/MethodHandle" ∧ y.cls ≠ "java/lang/invoke/VarHandle") (eT : T.heap = h) (E : Exa Z h b C) (argsL : List Value) (K : Ctr l Z y bytes maxL ret rm (.ref b :: argsL).toArray h P) (hsize : Ls.size = c.maxLocals) (hlen : ∀ sig, parseMethodDescriptor y.desc = some sig → argsL.length = sig.parameters.length) {W : Nat} (hW : (rest.map fun v => v.category).sum = W) (hf : rm.frames + 1 ≤ R.frames) (hl : W + (maxL + 11) + rm.locals ≤ R.locals) (hc : cells + rm.cells ≤ R.cells) (hsl : slots + rm.slots ≤ R.slots) (hp : pc + 3 = pc') (go : ∀ v T' L, Stand p l e R s m args below meth c T' (locs ++ L) (cells + rm.cells) (slots + rm.slots) → P v T'.heap L → Run p e below F (T'.setTop (mkF m pc' Ls (v.toList ++ rest)))) : Run p e below F (T.setTop (mkF m pc Ls (argsL.reverse ++ .ref b :: rest))) := by
  subst hp
  obtain ⟨v, T', L, X', q, st⟩ := callP X hx hZ hown w1 w6 w7 w8 w3 w4 hy eT E (argsL := argsL) (rest := rest) K (g := mkF m pc Ls (argsL.reverse ++ .ref b :: rest)) rfl hsize rfl hd hlen (W := W) (by show 2 * 0 + _ ≤ _; omega) hf hl hc hsl
  exact Run.via st (go v T' L X' q)
end Rows
section Wide
variable {p : Program} {l : Launch} {e : Env} {R : Room} {s : State} {m : MethodId} {args : Array Value} {below : List Frame} {meth : Method} {c : Code} {T : State} {locs : List Loc} {cells slots : Nat} {Z : State} {a0 : Array Value} {h : Heap} {F : Outcome → State → Prop} {Q : Option Value → Heap → List Loc → Prop} {vm : Vm} {pc pc' : Nat} {Ls : Array Slot} {rest : List Value}
def Wid (s : State) (rm : Room) (Q : Option Value → Heap → List Loc → Prop) (o : Outcome) (t : State) : Prop := ∃ v L, o = .returned v ∧ Q v t.heap L ∧ ReturnedEndW s o t L rm.cells rm.slots
def CtrW (l : Launch) (Z : State) (y : MethodName) (bytes : ByteArray) (maxL : Nat) (ret : Option FieldType) (rm : Room) (as : Array Value) (h0 : Heap) (Q : Option Value → Heap → List Loc → Prop) : Prop :=
  ∀ ws : List Jvm.Cond, MetFree l y (head1 (Jvm.Cond.code y bytes maxL ret :: ws) rm) (fun a U => a = as ∧ Z.Warmed39 U.vm ∧ U.heap = h0) (fun _ _ _ _ _ => True) (fun _ U o U' => ∃ v L, o = .returned v ∧ Q v U'.heap L ∧ ReturnedEndW U o U' L rm.cells rm.slots)
theorem CtrW.body {y : MethodName} {bytes : ByteArray} {maxL : Nat} {ret : Option FieldType} {rm : Room} {as : Array Value} {h0 : Heap} (hp : plainFor y = true)
    (body : ∀ (p : Program) (e : Env) (s : State) (m : MethodId) (below : List Frame) (meth : Method) (c : Code) (T : State) (vm : Vm) (k : Nat), Stand p l e rm (s.setVm vm) m as below meth c T [] 0 0 → p.tables.exec = Jvm.exec → c.code = bytes → c.maxLocals = maxL → (s.setVm vm).vm.findClass y.cls = some m.cls → meth.name = y.name → meth.sig.returnType = ret → meth.locks = false → Z.Warmed39 (s.setVm vm).vm → T.heap = h0 → s.Since vm k → k ≤ h0.size → Run p e below (Wid s rm Q) (T.setTop (entryFrame m as maxL))) :
    CtrW l Z y bytes maxL ret rm as h0 Q := by
  intro ws
  refine MetFree.of_bodySF hp hisR ?_
  intro p e s m args below meth c s₁ Bd hml hP hK
  obtain ⟨rfl, hZ, hh⟩ := hP
  exact body p e s m below meth c s₁ s.vm 0 (Stand.of_body Bd) Bd.exec Bd.bytes hml (findClass_of_methodNamed Bd.named) (name_of_methodNamed Bd.named Bd.method).1 Bd.returns (BodyLoose.notSynchronized Bd) hZ (by rw [← hh, Bd.state]; rfl) ((State.WarmedH.refl s).since 0) (Nat.zero_le _)
theorem Run.retW (X : Stand p l e R (s.setVm vm) m args below meth c T locs cells slots) (hx : p.tables.exec = Jvm.exec) (hlk : meth.locks = false) {k : Nat} (hS : s.Since vm k) (hk : k ≤ T.heap.size) {w : Value} {t : FieldType} {i : Instr} (hret : meth.sig.returnType = some t) (hd : decode c.code pc = .ok (i, 1)) (hn : narrow t w = w)
    (hi : (i = .ireturn ∧ (t = .int ∨ t = .boolean ∨ t = .byte ∨ t = .char ∨ t = .short) ∧ ∃ z, w = .int z) ∨ (i = .lreturn ∧ t = .long ∧ ∃ z, w = .long z) ∨ (i = .dreturn ∧ t = .double ∧ ∃ z, w = .double z) ∨ (i = .freturn ∧ t = .float ∧ ∃ z, w = .float z) ∨ (i = .areturn ∧ t.isReference = true ∧ w.isRef = true))
    (hc : cells ≤ R.cells) (hs : slots ≤ R.slots) (hq : Q (some w) T.heap locs) : Run p e below (Wid s R Q) (T.setTop (mkF m pc Ls (w :: rest))) := by
  obtain ⟨fs, hr, hrun, hended, hW⟩ := X.leaveW hS hk (v := some w) (fun q => by rw [hret] at q; cases q) hlk
  exact ⟨_, _, retOut X hx hret hn hi hd hr, hrun, hended, _, _, rfl, hq, hW.1, hW.2.1, hW.2.2.1, hW.2.2.2.mono hc hs⟩
theorem Run.retBW (X : Stand p l e R (s.setVm vm) m args below meth c T locs cells slots) (hx : p.tables.exec = Jvm.exec) (hlk : meth.locks = false) {k : Nat} (hS : s.Since vm k) (hk : k ≤ T.heap.size) {z : Int32} (hret : meth.sig.returnType = some .boolean) (hd : decode c.code pc = .ok (.ireturn, 1)) (hn : narrow .boolean (.int z) = .int z)
    (hc : cells ≤ R.cells) (hs : slots ≤ R.slots) (hq : Q (some (.int z)) T.heap locs) : Run p e below (Wid s R Q) (T.setTop (mkF m pc Ls (.int z :: rest))) :=
  Run.retW X hx hlk hS hk hret hd hn (Or.inl ⟨rfl, Or.inr (Or.inl rfl), z, rfl⟩) hc hs hq
theorem Run.retRW (X : Stand p l e R (s.setVm vm) m args below meth c T locs cells slots) (hx : p.tables.exec = Jvm.exec) (hlk : meth.locks = false) {k : Nat} (hS : s.Since vm k) (hk : k ≤ T.heap.size) {w : Value} {t : FieldType} (hret : meth.sig.returnType = some t) (hd : decode c.code pc = .ok (.areturn, 1)) (ht : t.isReference = true) (hw : w.isRef = true)
    (hc : cells ≤ R.cells) (hs : slots ≤ R.slots) (hq : Q (some w) T.heap locs) : Run p e below (Wid s R Q) (T.setTop (mkF m pc Ls (w :: rest))) :=
  Run.retW X hx hlk hS hk hret hd (Jvm.OwnKit.narrow_ref hw) (Or.inr (Or.inr (Or.inr (Or.inr ⟨rfl, ht, hw⟩)))) hc hs hq
theorem q_ldcS (X : Stand p l e R (s.setVm vm) m args below meth c T locs cells slots) (hx : p.tables.exec = Jvm.exec) (hZ : Z.Warmed39 (s.setVm vm).vm) {own : String} {index : Nat} (hown : (s.setVm vm).vm.findClass own = some m.cls) {k : Nat} (hS : s.Since vm k) (hk : k ≤ h.size) {text : String} (hd : decode c.code pc = .ok (.ldc index, 2)) (w : (Cond.stringLink own index text).before a0 Z = true) (wS : ∀ a ∈ Bundle.stringAtoms, a.before a0 Z = true) (eT : T.heap = h) {n : Nat} (hn : 4 * text.toList.length ≤ n) (hbig : n ≤ 536870912) (hc : cells + 2 ≤ R.cells) (hl : slots + (n + 4) ≤ R.slots) (hp : pc + 2 = pc')
    (go : ∀ a T' h' k', Stand p l e R (s.setVm T'.vm) m args below meth c T' locs (cells + 2) (slots + (n + 4)) → T'.heap = h' → Ext h h' → s.Since T'.vm k' → k' ≤ h'.size → Z.Warmed39 (s.setVm T'.vm).vm → (s.setVm T'.vm).vm.findClass own = some m.cls → Run p e below F (T'.setTop (mkF m pc' Ls (.ref a :: rest)))) : Run p e below F (T.setTop (mkF m pc Ls rest)) := by
  subst hp
  obtain ⟨a, T', h', k', X', e', E, hS', hk', hZ', hown', st⟩ := ldcS X hx hZ hown w wS eT hS hk (g := mkF m pc Ls rest) rfl hd hn hbig hc hl
  exact Run.via st (go a T' h' k' X' e' E hS' hk' hZ' hown')
theorem q_callCW (X : Stand p l e R (s.setVm vm) m args below meth c T locs cells slots) (hx : p.tables.exec = Jvm.exec) (hZ : Z.Warmed39 (s.setVm vm).vm) {own : String} {index : Nat} (hown : (s.setVm vm).vm.findClass own = some m.cls) {k : Nat} (hS : s.Since vm k) (hk : k ≤ h.size) {y : MethodName} {bytes : ByteArray} {maxL : Nat} {rm : Room} {P : Option Value → Heap → List Loc → Prop} {ret : Option FieldType} (hd : decode c.code pc = .ok (.invokestatic index, 3)) (w1 : (Cond.methodLink own index y).before a0 Z = true) (w2 : (Cond.static y).before a0 Z = true) (w3 : (Cond.initialized y.cls).before a0 Z = true) (w4 : (Cond.code y bytes maxL ret).before a0 Z = true) (hy : y.cls ≠ "java/lang/invoke/MethodHandle" ∧ y.cls ≠ "java/lang/invoke/VarHandle") (eT : T.heap = h) (argsL : List Value) (K : CtrW l Z y bytes maxL ret rm argsL.toArray h P) (hsize : Ls.size = c.maxLocals) (hlen : ∀ sig, parseMethodDescriptor y.desc = some sig → argsL.length = sig.parameters.length) {W : Nat} (hW : (rest.map fun v => v.category).sum = W) (hf : rm.frames + 1 ≤ R.frames) (hl : W + (maxL + 11) + rm.locals ≤ R.locals) (hc : cells + rm.cells ≤ R.cells) (hsl : slots + rm.slots ≤ R.slots) (hp : pc + 3 = pc')
    (go : ∀ v T' L k', Stand p l e R (s.setVm T'.vm) m args below meth c T' (locs ++ L) (cells + rm.cells) (slots + rm.slots) → P v T'.heap L → s.Since T'.vm k' → k' ≤ T'.heap.size → Z.Warmed39 (s.setVm T'.vm).vm → (s.setVm T'.vm).vm.findClass own = some m.cls → Run p e below F (T'.setTop (mkF m pc' Ls (v.toList ++ rest)))) : Run p e below F (T.setTop (mkF m pc Ls (argsL.reverse ++ rest))) := by
  subst hp
  obtain ⟨v, vm₁, ⟨T', L', k', n'⟩, -, X', hS', hg, ⟨L, hQ, l1, l2, l3⟩, st⟩ := callSS X hx (y := y) hown (mvT hZ w1) (mvT hZ w2) (mvT hZ w3) (mvT hZ w4) hy (backOfS (W := W) (K []) hZ w4 w3 hf hl) (g := mkF m pc Ls (argsL.reverse ++ rest)) rfl hsize (argsL := argsL) (rest := rest) hlen rfl (by show 2 * 0 + _ ≤ _; omega) hd (fun _ _ => ⟨rfl, eT, hc, hsl⟩)
  dsimp only [Pt.U, Pt.locs, Pt.cells, Pt.slots] at X' hS' hg l1 l2 l3 st hQ
  subst l1 l2 l3
  exact Run.via (fun _ q => st.trans q) (go v T' L _ X' hQ (hS.trans hS' (Nat.le_trans (by rw [eT]; exact hk) hg)) (Nat.le_refl _) (State.Warmed39.trans (t := s.setVm vm) hZ hS'.1) (by rw [show (s.setVm T'.vm).vm = T'.vm from rfl, hS'.1.alike.findClass]; exact hown))
theorem q_callVW (X : Stand p l e R (s.setVm vm) m args below meth c T locs cells slots) (hx : p.tables.exec = Jvm.exec) (hZ : Z.Warmed39 (s.setVm vm).vm) {own : String} {index : Nat} (hown : (s.setVm vm).vm.findClass own = some m.cls) {k : Nat} (hS : s.Since vm k) (hk : k ≤ h.size) {y : MethodName} {bytes : ByteArray} {maxL : Nat} {rm : Room} {P : Option Value → Heap → List Loc → Prop} {ret : Option FieldType} {C : String} {b : Addr} (hd : decode c.code pc = .ok (.invokevirtual index, 3)) (w1 : (Cond.methodLink own index y).before a0 Z = true) (w2 : (Cond.declares y).before a0 Z = true) (w5 : (Cond.selects C y y).before a0 Z = true) (w6 : (Cond.instanceMethod y).before a0 Z = true) (w3 : (Cond.initialized y.cls).before a0 Z = true) (w4 : (Cond.code y bytes maxL ret).before a0 Z = true) (hy : y.cls ≠ "java/lang/invoke/MethodHandle" ∧ y.cls ≠ "java/lang/invoke/VarHandle") (eT : T.heap = h) (E : Exa Z h b C) (argsL : List Value) (K : CtrW l Z y bytes maxL ret rm (.ref b :: argsL).toArray h P) (hsize : Ls.size = c.maxLocals) (hlen : ∀ sig, parseMethodDescriptor y.desc = some sig → argsL.length = sig.parameters.length) {W : Nat} (hW : (rest.map fun v => v.category).sum = W) (hf : rm.frames + 1 ≤ R.frames) (hl : W + (maxL + 11) + rm.locals ≤ R.locals) (hc : cells + rm.cells ≤ R.cells) (hsl : slots + rm.slots ≤ R.slots) (hp : pc + 3 = pc')
    (go : ∀ v T' L k', Stand p l e R (s.setVm T'.vm) m args below meth c T' (locs ++ L) (cells + rm.cells) (slots + rm.slots) → P v T'.heap L → s.Since T'.vm k' → k' ≤ T'.heap.size → Z.Warmed39 (s.setVm T'.vm).vm → (s.setVm T'.vm).vm.findClass own = some m.cls → Run p e below F (T'.setTop (mkF m pc' Ls (v.toList ++ rest)))) : Run p e below F (T.setTop (mkF m pc Ls (argsL.reverse ++ .ref b :: rest))) := by
  subst hp
  obtain ⟨cq, kq, qa, qb, qc⟩ := isOf hZ eT E
  obtain ⟨v, vm₁, ⟨T', L', k', n'⟩, -, X', hS', hg, ⟨L, hQ, l1, l2, l3⟩, st⟩ := X.virtualBackS hx (y := y) (z := y) hown (mvT hZ w1) (mvT hZ w2) (notFace_of_selects (args := #[]) (mvT hZ w5)) (mvT hZ w5) (mvT hZ w6) hy (backOfS (W := W) (K []) hZ w4 w3 hf hl) qa qc (g := mkF m pc Ls (argsL.reverse ++ .ref b :: rest)) rfl hsize (Steps.refl _) (argsL := argsL) (rest := rest) hlen rfl (by show 2 * 0 + _ ≤ _; omega) hd (fun _ _ => ⟨rfl, eT, hc, hsl⟩)
  dsimp only [Pt.U, Pt.locs, Pt.cells, Pt.slots] at X' hS' hg l1 l2 l3 st hQ
  subst l1 l2 l3
  exact Run.via (fun _ q => st.trans q) (go v T' L _ X' hQ (hS.trans hS' (Nat.le_trans (by rw [eT]; exact hk) hg)) (Nat.le_refl _) (State.Warmed39.trans (t := s.setVm vm) hZ hS'.1) (by rw [show (s.setVm T'.vm).vm = T'.vm from rfl, hS'.1.alike.findClass]; exact hown))
end Wide
/-! null, or a box that holds p -/
section Boxes
variable {Z : State} {h h' : Heap} {v w : Value} {q : Int32} {a : Addr} {sl : Nat} {ws : List Addr} {a0 : Array Value}
def Box (Z : State) (h : Heap) (v : Value) (q : Int32) : Prop := v = .null ∨ ∃ r, v = .ref r ∧ Exa Z h r "java/lang/Integer" ∧ Fld Z h r "java/lang/Integer" "value" "I" (.int q)
theorem Box.isRef (B : Box Z h v q) : v.isRef = true := by
  rcases B with rfl | ⟨r, rfl, -⟩ <;> rfl
theorem Box.ext (E : Ext h h') (B : Box Z h v q) : Box Z h' v q := by
  rcases B with rfl | ⟨r, rfl, x, f⟩
  · exact Or.inl rfl
  · exact Or.inr ⟨r, rfl, x.ext E, f.ext E⟩
theorem Box.wr (B : Box Z h v q) (W : Wr h h' a sl w) (u : ∀ r, Exa Z h r "java/lang/Integer" → r ≠ a) : Box Z h' v q := by
  rcases B with rfl | ⟨r, rfl, x, f⟩
  · exact Or.inl rfl
  · exact Or.inr ⟨r, rfl, x.wr W, f.other W (Or.inl (u r x))⟩
theorem Box.keep (B : Box Z h v q) (K : Keep h h' ws) (u : ∀ r, Exa Z h r "java/lang/Integer" → r ∉ ws) : Box Z h' v q := by
  rcases B with rfl | ⟨r, rfl, x, f⟩
  · exact Or.inl rfl
  · exact Or.inr ⟨r, rfl, x.keep K, f.keep K (u r x)⟩
theorem Box.ins (B : Box Z h v q) {K : String} (w : (Cond.castable "java/lang/Integer" K).before a0 Z = true) : v = .null ∨ ∃ r, v = .ref r ∧ Ins Z h r K true := by
  rcases B with rfl | ⟨r, rfl, x, f⟩
  · exact Or.inl rfl
  · exact Or.inr ⟨r, rfl, Ins.of_exa x w⟩
theorem Box.at {r : Addr} (B : Box Z h (.ref r) q) : Exa Z h r "java/lang/Integer" ∧ Fld Z h r "java/lang/Integer" "value" "I" (.int q) := by
  rcases B with u | ⟨r', u, x, f⟩
  · cases u
  · cases u
    exact ⟨x, f⟩
theorem sto_ins {c : Cell} {ty : FieldType} {k : ClassId} {C : String} (A : Arr Z h a c ty) (u : c.cls = k) (O : Ovr Z k C) (I : v = .null ∨ ∃ r, v = .ref r ∧ Ins Z h r C true) : Sto Z h a v := by
  rcases I with rfl | ⟨r, rfl, I⟩
  · exact Or.inl rfl
  · exact Sto.ofV A u O I
/-- null, or an old object of the class -/
def OldV (Z : State) (v : Value) (C : String) : Prop := v = .null ∨ ∃ r, v = .ref r ∧ Exa Z Z.heap r C
theorem OldV.isRef {C : String} (B : OldV Z v C) : v.isRef = true := by
  rcases B with rfl | ⟨r, rfl, -⟩ <;> rfl
theorem OldV.ins {C : String} (B : OldV Z v C) (O : Ext Z.heap h) : v = .null ∨ ∃ r, v = .ref r ∧ Ins Z h r C true := by
  rcases B with rfl | ⟨r, rfl, x⟩
  · exact Or.inl rfl
  · exact Or.inr ⟨r, rfl, Ins.self (x.ext O)⟩
end Boxes
/-! from the words of a case to facts at the start -/
section Start
variable {args : Array Value} {s : State} {t u : Term} {a b : Addr} {C n d : String} {k : Int32}
theorem fld_int (ev : t.eval args s none [] s = some (.ref a)) (q : (Cond.eq (Term.field t C n d) (Term.int k)).value args s none s [] = some true) : Fld s s.heap a C n d (.int k) := by
  refine Fld.start ?_
  rw [← fld_at ev (C := C) (n := n) (dd := d)]
  obtain ⟨x, y, e1, e2, k1, k2⟩ := cmp_v (Or.inl q)
  have e3 : (Term.int k).eval args s none [] s = some (.int k) := Term.int_eval k
  rw [e3] at e2
  cases e2
  obtain ⟨z, rfl⟩ := k2
  rw [e1]
  simp [Cond.value, e1, e3] at q
  rw [q]
theorem fld_null (ev : t.eval args s none [] s = some (.ref a)) (q : (Cond.eq (Term.field t C n d) .null).value args s none s [] = some true) : Fld s s.heap a C n d .null := by
  refine Fld.start ?_
  rw [← fld_at ev (C := C) (n := n) (dd := d)]
  exact null_v q
theorem fld_ref (ev : t.eval args s none [] s = some (.ref a)) (ev2 : u.eval args s none [] s = some (.ref b)) (q : (Cond.eq (Term.field t C n d) u).value args s none s [] = some true) : Fld s s.heap a C n d (.ref b) := by
  refine Fld.start ?_
  rw [← fld_at ev (C := C) (n := n) (dd := d)]
  obtain ⟨x, y, e1, e2, k1, k2⟩ := cmp_v (Or.inl q)
  rw [ev2] at e2
  cases e2
  have hx : x.isRef = true := by
    obtain ⟨-, r⟩ := k2
    exact r
  rw [e1]
  have := gotT (eq_R e1 ev2 hx rfl) q
  rw [this]
theorem eqv_r {X : Term} (ev2 : u.eval args s none [] s = some (.ref b)) (q : (Cond.eq X u).value args s none s [] = some true) : X.eval args s none [] s = some (.ref b) := by
  obtain ⟨x, y, e1, e2, k1, k2⟩ := cmp_v (Or.inl q)
  rw [ev2] at e2
  cases e2
  have hx : x.isRef = true := by
    obtain ⟨-, r⟩ := k2
    exact r
  rw [e1, gotT (eq_R e1 ev2 hx rfl) q]
theorem elem_start {c : Cell} {X : Term} {j : Int32} {v : Value} (ev : t.eval args s none [] s = some (.ref a)) (A : s.heap[a]? = some c) (q : (Term.elem t (Term.int j)).eval args s none [] s = some v) : c.slots[j.toNatClampNeg]? = some v :=
  (elem_in q ev (Term.int_eval j) A).2
theorem len_start {c : Cell} {ty : FieldType} {z : Int32} (et : t.eval args s none [] s = some (.ref a)) (A : Arr s s.heap a c ty) (q : (Cond.eq (Term.length t) (Term.int z)).value args s none s [] = some true) : c.slots.size < 2 ^ 31 ∧ c.slots.size.toInt32 = z := by
  have ev := eqv_i (Term.int_eval z) q
  have ha := A.fin (Vm.Alike.refl _)
  simp only [Term.eval, et, ha, Option.bind_eq_bind, Option.bind_some, Option.pure_def] at ev
  by_cases r : c.slots.size < 2 ^ 31
  · rw [if_pos r] at ev
    refine ⟨r, ?_⟩
    cases ev
    rfl
  · rw [if_neg r] at ev
    cases ev
theorem cache_start {c : Cell} (et : ∀ idx, t.eval args s none idx s = some (.ref a)) (A : Arr s s.heap a c (.object "java/lang/Integer")) (h6 : (Cond.eq (Term.length t) (Term.int 256)).value args s none s [] = some true)
    (h7 : (Cond.all t (.and (.exactly (.elem t (.index 0)) "java/lang/Integer") (.eq (.field (.elem t (.index 0)) "java/lang/Integer" "value" "I") (.sub (.index 0) (.int 128))))).value args s none s [] = some true) : Bxs s a c "java/lang/Integer" "I" 256 (fun j => .int (j - 128)) := by
  obtain ⟨q1, q2⟩ := len_start (et []) A h6
  refine Bxs.start et A q1 q2 (by decide) h7 fun X j nn u => ?_
  have e1 : (Term.sub (.index 0) (.int 128)).eval args s none [j.toNatClampNeg] s = some (.int (j - 128)) := by
    simp [Term.eval, idx_at nn, Term.int_eval, (back32 nn).1]
  exact eqv_i e1 u
theorem arv0_start {c : Cell} {ty : FieldType} (hf : Fit s) (et : t.eval args s none [] s = some (.ref a)) (A : Arr s s.heap a c ty) (q : (Cond.eq (Term.length t) (Term.int 0)).value args s none s [] = some true) : Arv s s.heap a c.cls ty 0 [] .null := by
  obtain ⟨q1, q2⟩ := len_start et A q
  exact Arv.start hf A q1 q2 (by decide) rfl trivial
end Start
theorem cache_idx {p : Int32} (h1 : if_icmp.holds .lt p (-128) = false) (h2 : if_icmp.holds .gt p 127 = false) {c : Cell} (S : c.slots.size = (256 : Int32).toNatClampNeg) : ¬ ((p + 128) < 0 ∨ c.slots.size ≤ (p + 128).toNatClampNeg) := by
  have a1 : ¬ p < -128 := by simpa [if_icmp.holds] using h1
  have a2 : ¬ 127 < p := by simpa [if_icmp.holds] using h2
  have q := c_iadd p 128
  have r1 := rng32 p
  have r2 := rng32 (p + 128)
  have k1 : (-128 : Int32).toInt = -128 := by decide
  have k2 : (127 : Int32).toInt = 127 := by decide
  have k3 : (128 : Int32).toInt = 128 := by decide
  have k4 : (256 : Int32).toInt = 256 := by decide
  have k5 : (0 : Int32).toInt = 0 := by decide
  rw [Int32.lt_iff_toInt_lt] at a1 a2
  refine inb_of S ⟨?_, ?_⟩ <;> rw [Int32.lt_iff_toInt_lt] <;> omega
theorem back128 (p : Int32) : p + 128 - 128 = p := by
  have q := c_iadd p 128
  have q2 := c_isub (p + 128) 128
  have r1 := rng32 p
  have r2 := rng32 (p + 128 - 128)
  refine Int32.toInt_inj.mp ?_
  omega
end Jvm.OwnKit
namespace Jvm.Pilot.@@N@@
open Jvm Jvm.ClassFile Sem Op Lib Jvm.Free Jvm.Stand Jvm.LawKit Jvm.RoadKit Jvm.OwnKit Bundle Jvm.Pilot.@@N@@.Jvm.D
abbrev y0 : MethodName := ⟨"com/example/wicker_store/wickerstore/GenericPropertyMatcherStringMatcherPinLaw", "pick", "(I)Lcom/example/wicker_store/wickerstore/ExampleMatcher$StringMatcher;"⟩
abbrev y1 : MethodName := ⟨"com/example/wicker_store/wickerstore/ExampleMatcher$GenericPropertyMatcher", "<init>", "(Lcom/example/wicker_store/wickerstore/ExampleMatcher$StringMatcher;Ljava/lang/Boolean;)V"⟩
abbrev y2 : MethodName := ⟨"com/example/wicker_store/wickerstore/ExampleMatcher$GenericPropertyMatcher", "<init>", "()V"⟩
abbrev y3 : MethodName := ⟨"com/example/wicker_store/wickerstore/ExampleMatcher$GenericPropertyMatcher", "getIgnoreCase", "()Ljava/lang/Boolean;"⟩
abbrev y4 : MethodName := ⟨"com/example/wicker_store/wickerstore/ExampleMatcher$GenericPropertyMatcher", "getStringMatcher", "()Lcom/example/wicker_store/wickerstore/ExampleMatcher$StringMatcher;"⟩
abbrev y5 : MethodName := ⟨"java/util/Objects", "requireNonNull", "(Ljava/lang/Object;Ljava/lang/String;)Ljava/lang/Object;"⟩
abbrev y6 : MethodName := ⟨"com/example/wicker_store/wickerstore/ExampleMatcher$GenericPropertyMatcher", "stringMatcher", "(Lcom/example/wicker_store/wickerstore/ExampleMatcher$StringMatcher;)Lcom/example/wicker_store/wickerstore/ExampleMatcher$GenericPropertyMatcher;"⟩
abbrev y7 : MethodName := ⟨"java/lang/Boolean", "valueOf", "(Z)Ljava/lang/Boolean;"⟩
abbrev y8 : MethodName := ⟨"com/example/wicker_store/wickerstore/ExampleMatcher$GenericPropertyMatcher", "ignoreCase", "(Z)Lcom/example/wicker_store/wickerstore/ExampleMatcher$GenericPropertyMatcher;"⟩
theorem t0 {a0 : Array Value} {Z : State} (hw : ∀ d ∈ tables_1, d.before a0 Z = true) : (Jvm.Cond.methodLink "com/example/wicker_store/wickerstore/GenericPropertyMatcherStringMatcherPinLaw" (29 : Nat) ({ cls := "com/example/wicker_store/wickerstore/GenericPropertyMatcherStringMatcherPinLaw", name := "pick", desc := "(I)Lcom/example/wicker_store/wickerstore/ExampleMatcher$StringMatcher;" } : Jvm.MethodName)).before a0 Z = true := hw _ (List.mem_of_getElem? (i := 0) rfl)
theorem t1 {a0 : Array Value} {Z : State} (hw : ∀ d ∈ tables_1, d.before a0 Z = true) : (Jvm.Cond.static ({ cls := "com/example/wicker_store/wickerstore/GenericPropertyMatcherStringMatcherPinLaw", name := "pick", desc := "(I)Lcom/example/wicker_store/wickerstore/ExampleMatcher$StringMatcher;" } : Jvm.MethodName)).before a0 Z = true := hw _ (List.mem_of_getElem? (i := 1) rfl)
theorem t2 {a0 : Array Value} {Z : State} (hw : ∀ d ∈ tables_1, d.before a0 Z = true) : (Jvm.Cond.initialized "com/example/wicker_store/wickerstore/GenericPropertyMatcherStringMatcherPinLaw").before a0 Z = true := hw _ (List.mem_of_getElem? (i := 2) rfl)
theorem t3 {a0 : Array Value} {Z : State} (hw : ∀ d ∈ tables_1, d.before a0 Z = true) : (Jvm.Cond.code ({ cls := "com/example/wicker_store/wickerstore/GenericPropertyMatcherStringMatcherPinLaw", name := "pick", desc := "(I)Lcom/example/wicker_store/wickerstore/ExampleMatcher$StringMatcher;" } : Jvm.MethodName) method_2_code (2 : Nat) (Option.some (Jvm.ClassFile.FieldType.object "com/example/wicker_store/wickerstore/ExampleMatcher$StringMatcher"))).before a0 Z = true := hw _ (List.mem_of_getElem? (i := 3) rfl)
theorem t4 {a0 : Array Value} {Z : State} (hw : ∀ d ∈ tables_1, d.before a0 Z = true) : (Jvm.Cond.constant "com/example/wicker_store/wickerstore/GenericPropertyMatcherStringMatcherPinLaw" (7 : Nat) (2147483647 : Int32)).before a0 Z = true := hw _ (List.mem_of_getElem? (i := 4) rfl)
theorem t5 {a0 : Array Value} {Z : State} (hw : ∀ d ∈ tables_1, d.before a0 Z = true) : (Jvm.Cond.fieldLink "com/example/wicker_store/wickerstore/GenericPropertyMatcherStringMatcherPinLaw" (8 : Nat) "com/example/wicker_store/wickerstore/ExampleMatcher$StringMatcher" "DEFAULT" "Lcom/example/wicker_store/wickerstore/ExampleMatcher$StringMatcher;").before a0 Z = true := hw _ (List.mem_of_getElem? (i := 5) rfl)
theorem t6 {a0 : Array Value} {Z : State} (hw : ∀ d ∈ tables_1, d.before a0 Z = true) : (Jvm.Cond.initialized "com/example/wicker_store/wickerstore/ExampleMatcher$StringMatcher").before a0 Z = true := hw _ (List.mem_of_getElem? (i := 6) rfl)
theorem t7 {a0 : Array Value} {Z : State} (hw : ∀ d ∈ tables_1, d.before a0 Z = true) : (Jvm.Cond.laysStatic "com/example/wicker_store/wickerstore/ExampleMatcher$StringMatcher" "DEFAULT" "Lcom/example/wicker_store/wickerstore/ExampleMatcher$StringMatcher;").before a0 Z = true := hw _ (List.mem_of_getElem? (i := 7) rfl)
theorem t8 {a0 : Array Value} {Z : State} (hw : ∀ d ∈ tables_1, d.before a0 Z = true) : (Jvm.Cond.fieldLink "com/example/wicker_store/wickerstore/GenericPropertyMatcherStringMatcherPinLaw" (20 : Nat) "com/example/wicker_store/wickerstore/ExampleMatcher$StringMatcher" "ENDING" "Lcom/example/wicker_store/wickerstore/ExampleMatcher$StringMatcher;").before a0 Z = true := hw _ (List.mem_of_getElem? (i := 8) rfl)
theorem t9 {a0 : Array Value} {Z : State} (hw : ∀ d ∈ tables_1, d.before a0 Z = true) : (Jvm.Cond.laysStatic "com/example/wicker_store/wickerstore/ExampleMatcher$StringMatcher" "ENDING" "Lcom/example/wicker_store/wickerstore/ExampleMatcher$StringMatcher;").before a0 Z = true := hw _ (List.mem_of_getElem? (i := 9) rfl)
theorem t10 {a0 : Array Value} {Z : State} (hw : ∀ d ∈ tables_1, d.before a0 Z = true) : (Jvm.Cond.classLink "com/example/wicker_store/wickerstore/GenericPropertyMatcherStringMatcherPinLaw" (35 : Nat) "com/example/wicker_store/wickerstore/ExampleMatcher$GenericPropertyMatcher").before a0 Z = true := hw _ (List.mem_of_getElem? (i := 10) rfl)
theorem t11 {a0 : Array Value} {Z : State} (hw : ∀ d ∈ tables_1, d.before a0 Z = true) : (Jvm.Cond.instantiable "com/example/wicker_store/wickerstore/ExampleMatcher$GenericPropertyMatcher" (2 : Nat)).before a0 Z = true := hw _ (List.mem_of_getElem? (i := 11) rfl)
theorem t12 {a0 : Array Value} {Z : State} (hw : ∀ d ∈ tables_1, d.before a0 Z = true) : (Jvm.Cond.initialized "com/example/wicker_store/wickerstore/ExampleMatcher$GenericPropertyMatcher").before a0 Z = true := hw _ (List.mem_of_getElem? (i := 12) rfl)
theorem t13 {a0 : Array Value} {Z : State} (hw : ∀ d ∈ tables_1, d.before a0 Z = true) : (Jvm.Cond.methodLink "com/example/wicker_store/wickerstore/GenericPropertyMatcherStringMatcherPinLaw" (37 : Nat) ({ cls := "com/example/wicker_store/wickerstore/ExampleMatcher$GenericPropertyMatcher", name := "<init>", desc := "()V" } : Jvm.MethodName)).before a0 Z = true := hw _ (List.mem_of_getElem? (i := 13) rfl)
theorem t14 {a0 : Array Value} {Z : State} (hw : ∀ d ∈ tables_1, d.before a0 Z = true) : (Jvm.Cond.instanceMethod ({ cls := "com/example/wicker_store/wickerstore/ExampleMatcher$GenericPropertyMatcher", name := "<init>", desc := "()V" } : Jvm.MethodName)).before a0 Z = true := hw _ (List.mem_of_getElem? (i := 14) rfl)
theorem t15 {a0 : Array Value} {Z : State} (hw : ∀ d ∈ tables_1, d.before a0 Z = true) : (Jvm.Cond.code ({ cls := "com/example/wicker_store/wickerstore/ExampleMatcher$GenericPropertyMatcher", name := "<init>", desc := "()V" } : Jvm.MethodName) prog_4_method_1_code (1 : Nat) (Option.none : Option Jvm.ClassFile.FieldType)).before a0 Z = true := hw _ (List.mem_of_getElem? (i := 15) rfl)
theorem t16 {a0 : Array Value} {Z : State} (hw : ∀ d ∈ tables_1, d.before a0 Z = true) : (Jvm.Cond.methodLink "com/example/wicker_store/wickerstore/ExampleMatcher$GenericPropertyMatcher" (1 : Nat) ({ cls := "com/example/wicker_store/wickerstore/ExampleMatcher$GenericPropertyMatcher", name := "<init>", desc := "(Lcom/example/wicker_store/wickerstore/ExampleMatcher$StringMatcher;Ljava/lang/Boolean;)V" } : Jvm.MethodName)).before a0 Z = true := hw _ (List.mem_of_getElem? (i := 16) rfl)
theorem t17 {a0 : Array Value} {Z : State} (hw : ∀ d ∈ tables_1, d.before a0 Z = true) : (Jvm.Cond.instanceMethod ({ cls := "com/example/wicker_store/wickerstore/ExampleMatcher$GenericPropertyMatcher", name := "<init>", desc := "(Lcom/example/wicker_store/wickerstore/ExampleMatcher$StringMatcher;Ljava/lang/Boolean;)V" } : Jvm.MethodName)).before a0 Z = true := hw _ (List.mem_of_getElem? (i := 17) rfl)
theorem t18 {a0 : Array Value} {Z : State} (hw : ∀ d ∈ tables_1, d.before a0 Z = true) : (Jvm.Cond.code ({ cls := "com/example/wicker_store/wickerstore/ExampleMatcher$GenericPropertyMatcher", name := "<init>", desc := "(Lcom/example/wicker_store/wickerstore/ExampleMatcher$StringMatcher;Ljava/lang/Boolean;)V" } : Jvm.MethodName) prog_4_method_2_code (3 : Nat) (Option.none : Option Jvm.ClassFile.FieldType)).before a0 Z = true := hw _ (List.mem_of_getElem? (i := 18) rfl)
theorem t19 {a0 : Array Value} {Z : State} (hw : ∀ d ∈ tables_1, d.before a0 Z = true) : (Jvm.Cond.methodLink "com/example/wicker_store/wickerstore/ExampleMatcher$GenericPropertyMatcher" (7 : Nat) ({ cls := "java/lang/Object", name := "<init>", desc := "()V" } : Jvm.MethodName)).before a0 Z = true := hw _ (List.mem_of_getElem? (i := 19) rfl)
theorem t20 {a0 : Array Value} {Z : State} (hw : ∀ d ∈ tables_1, d.before a0 Z = true) : (Jvm.Cond.instanceMethod ({ cls := "java/lang/Object", name := "<init>", desc := "()V" } : Jvm.MethodName)).before a0 Z = true := hw _ (List.mem_of_getElem? (i := 20) rfl)
theorem t21 {a0 : Array Value} {Z : State} (hw : ∀ d ∈ tables_1, d.before a0 Z = true) : (Jvm.Cond.code ({ cls := "java/lang/Object", name := "<init>", desc := "()V" } : Jvm.MethodName) object_method_1_code (1 : Nat) (Option.none : Option Jvm.ClassFile.FieldType)).before a0 Z = true := hw _ (List.mem_of_getElem? (i := 21) rfl)
theorem t22 {a0 : Array Value} {Z : State} (hw : ∀ d ∈ tables_1, d.before a0 Z = true) : (Jvm.Cond.fieldLink "com/example/wicker_store/wickerstore/ExampleMatcher$GenericPropertyMatcher" (12 : Nat) "com/example/wicker_store/wickerstore/ExampleMatcher$GenericPropertyMatcher" "stringMatcher" "Lcom/example/wicker_store/wickerstore/ExampleMatcher$StringMatcher;").before a0 Z = true := hw _ (List.mem_of_getElem? (i := 22) rfl)
theorem t23 {a0 : Array Value} {Z : State} (hw : ∀ d ∈ tables_1, d.before a0 Z = true) : (Jvm.Cond.laysFinal "com/example/wicker_store/wickerstore/ExampleMatcher$GenericPropertyMatcher" "com/example/wicker_store/wickerstore/ExampleMatcher$GenericPropertyMatcher" "stringMatcher" "Lcom/example/wicker_store/wickerstore/ExampleMatcher$StringMatcher;").before a0 Z = true := hw _ (List.mem_of_getElem? (i := 23) rfl)
theorem t24 {a0 : Array Value} {Z : State} (hw : ∀ d ∈ tables_1, d.before a0 Z = true) : (Jvm.Cond.fieldLink "com/example/wicker_store/wickerstore/ExampleMatcher$GenericPropertyMatcher" (16 : Nat) "com/example/wicker_store/wickerstore/ExampleMatcher$GenericPropertyMatcher" "ignoringCase" "Ljava/lang/Boolean;").before a0 Z = true := hw _ (List.mem_of_getElem? (i := 24) rfl)
theorem t25 {a0 : Array Value} {Z : State} (hw : ∀ d ∈ tables_1, d.before a0 Z = true) : (Jvm.Cond.laysFinal "com/example/wicker_store/wickerstore/ExampleMatcher$GenericPropertyMatcher" "com/example/wicker_store/wickerstore/ExampleMatcher$GenericPropertyMatcher" "ignoringCase" "Ljava/lang/Boolean;").before a0 Z = true := hw _ (List.mem_of_getElem? (i := 25) rfl)
theorem t26 {a0 : Array Value} {Z : State} (hw : ∀ d ∈ tables_1, d.before a0 Z = true) : (Jvm.Cond.methodLink "com/example/wicker_store/wickerstore/GenericPropertyMatcherStringMatcherPinLaw" (38 : Nat) ({ cls := "com/example/wicker_store/wickerstore/ExampleMatcher$GenericPropertyMatcher", name := "stringMatcher", desc := "(Lcom/example/wicker_store/wickerstore/ExampleMatcher$StringMatcher;)Lcom/example/wicker_store/wickerstore/ExampleMatcher$GenericPropertyMatcher;" } : Jvm.MethodName)).before a0 Z = true := hw _ (List.mem_of_getElem? (i := 26) rfl)
theorem t27 {a0 : Array Value} {Z : State} (hw : ∀ d ∈ tables_1, d.before a0 Z = true) : (Jvm.Cond.declares ({ cls := "com/example/wicker_store/wickerstore/ExampleMatcher$GenericPropertyMatcher", name := "stringMatcher", desc := "(Lcom/example/wicker_store/wickerstore/ExampleMatcher$StringMatcher;)Lcom/example/wicker_store/wickerstore/ExampleMatcher$GenericPropertyMatcher;" } : Jvm.MethodName)).before a0 Z = true := hw _ (List.mem_of_getElem? (i := 27) rfl)
theorem t28 {a0 : Array Value} {Z : State} (hw : ∀ d ∈ tables_1, d.before a0 Z = true) : (Jvm.Cond.instanceMethod ({ cls := "com/example/wicker_store/wickerstore/ExampleMatcher$GenericPropertyMatcher", name := "stringMatcher", desc := "(Lcom/example/wicker_store/wickerstore/ExampleMatcher$StringMatcher;)Lcom/example/wicker_store/wickerstore/ExampleMatcher$GenericPropertyMatcher;" } : Jvm.MethodName)).before a0 Z = true := hw _ (List.mem_of_getElem? (i := 28) rfl)
theorem t29 {a0 : Array Value} {Z : State} (hw : ∀ d ∈ tables_1, d.before a0 Z = true) : (Jvm.Cond.selects "com/example/wicker_store/wickerstore/ExampleMatcher$GenericPropertyMatcher" ({ cls := "com/example/wicker_store/wickerstore/ExampleMatcher$GenericPropertyMatcher", name := "stringMatcher", desc := "(Lcom/example/wicker_store/wickerstore/ExampleMatcher$StringMatcher;)Lcom/example/wicker_store/wickerstore/ExampleMatcher$GenericPropertyMatcher;" } : Jvm.MethodName) ({ cls := "com/example/wicker_store/wickerstore/ExampleMatcher$GenericPropertyMatcher", name := "stringMatcher", desc := "(Lcom/example/wicker_store/wickerstore/ExampleMatcher$StringMatcher;)Lcom/example/wicker_store/wickerstore/ExampleMatcher$GenericPropertyMatcher;" } : Jvm.MethodName)).before a0 Z = true := hw _ (List.mem_of_getElem? (i := 29) rfl)
theorem t30 {a0 : Array Value} {Z : State} (hw : ∀ d ∈ tables_1, d.before a0 Z = true) : (Jvm.Cond.code ({ cls := "com/example/wicker_store/wickerstore/ExampleMatcher$GenericPropertyMatcher", name := "stringMatcher", desc := "(Lcom/example/wicker_store/wickerstore/ExampleMatcher$StringMatcher;)Lcom/example/wicker_store/wickerstore/ExampleMatcher$GenericPropertyMatcher;" } : Jvm.MethodName) prog_4_method_10_code (2 : Nat) (Option.some (Jvm.ClassFile.FieldType.object "com/example/wicker_store/wickerstore/ExampleMatcher$GenericPropertyMatcher"))).before a0 Z = true := hw _ (List.mem_of_getElem? (i := 30) rfl)
theorem t31 {a0 : Array Value} {Z : State} (hw : ∀ d ∈ tables_1, d.before a0 Z = true) : (Jvm.Cond.classLink "com/example/wicker_store/wickerstore/ExampleMatcher$GenericPropertyMatcher" (2 : Nat) "com/example/wicker_store/wickerstore/ExampleMatcher$GenericPropertyMatcher").before a0 Z = true := hw _ (List.mem_of_getElem? (i := 31) rfl)
theorem t32 {a0 : Array Value} {Z : State} (hw : ∀ d ∈ tables_1, d.before a0 Z = true) : (Jvm.Cond.stringLink "com/example/wicker_store/wickerstore/ExampleMatcher$GenericPropertyMatcher" (48 : Nat) "string matcher").before a0 Z = true := hw _ (List.mem_of_getElem? (i := 32) rfl)
theorem t33 {a0 : Array Value} {Z : State} (hw : ∀ d ∈ tables_1, d.before a0 Z = true) : (Jvm.Cond.initialized "java/lang/String").before a0 Z = true := hw _ (List.mem_of_getElem? (i := 33) rfl)
theorem t34 {a0 : Array Value} {Z : State} (hw : ∀ d ∈ tables_1, d.before a0 Z = true) : (Jvm.Cond.instantiable "java/lang/String" (4 : Nat)).before a0 Z = true := hw _ (List.mem_of_getElem? (i := 34) rfl)
theorem t35 {a0 : Array Value} {Z : State} (hw : ∀ d ∈ tables_1, d.before a0 Z = true) : (Jvm.Cond.arrayClass Jvm.ClassFile.FieldType.byte).before a0 Z = true := hw _ (List.mem_of_getElem? (i := 35) rfl)
theorem t36 {a0 : Array Value} {Z : State} (hw : ∀ d ∈ tables_1, d.before a0 Z = true) : (Jvm.Cond.laysFinal "java/lang/String" "java/lang/String" "value" "[B").before a0 Z = true := hw _ (List.mem_of_getElem? (i := 36) rfl)
theorem t37 {a0 : Array Value} {Z : State} (hw : ∀ d ∈ tables_1, d.before a0 Z = true) : (Jvm.Cond.laysFinal "java/lang/String" "java/lang/String" "coder" "B").before a0 Z = true := hw _ (List.mem_of_getElem? (i := 37) rfl)
theorem t38 {a0 : Array Value} {Z : State} (hw : ∀ d ∈ tables_1, d.before a0 Z = true) : (Jvm.Cond.soleField "java/lang/String" "value").before a0 Z = true := hw _ (List.mem_of_getElem? (i := 38) rfl)
theorem t39 {a0 : Array Value} {Z : State} (hw : ∀ d ∈ tables_1, d.before a0 Z = true) : (Jvm.Cond.soleField "java/lang/String" "coder").before a0 Z = true := hw _ (List.mem_of_getElem? (i := 39) rfl)
theorem t40 {a0 : Array Value} {Z : State} (hw : ∀ d ∈ tables_1, d.before a0 Z = true) : (Jvm.Cond.methodLink "com/example/wicker_store/wickerstore/ExampleMatcher$GenericPropertyMatcher" (50 : Nat) ({ cls := "java/util/Objects", name := "requireNonNull", desc := "(Ljava/lang/Object;Ljava/lang/String;)Ljava/lang/Object;" } : Jvm.MethodName)).before a0 Z = true := hw _ (List.mem_of_getElem? (i := 40) rfl)
theorem t41 {a0 : Array Value} {Z : State} (hw : ∀ d ∈ tables_1, d.before a0 Z = true) : (Jvm.Cond.static ({ cls := "java/util/Objects", name := "requireNonNull", desc := "(Ljava/lang/Object;Ljava/lang/String;)Ljava/lang/Object;" } : Jvm.MethodName)).before a0 Z = true := hw _ (List.mem_of_getElem? (i := 41) rfl)
theorem t42 {a0 : Array Value} {Z : State} (hw : ∀ d ∈ tables_1, d.before a0 Z = true) : (Jvm.Cond.initialized "java/util/Objects").before a0 Z = true := hw _ (List.mem_of_getElem? (i := 42) rfl)
theorem t43 {a0 : Array Value} {Z : State} (hw : ∀ d ∈ tables_1, d.before a0 Z = true) : (Jvm.Cond.code ({ cls := "java/util/Objects", name := "requireNonNull", desc := "(Ljava/lang/Object;Ljava/lang/String;)Ljava/lang/Object;" } : Jvm.MethodName) jdk_31_method_11_code (2 : Nat) (Option.some (Jvm.ClassFile.FieldType.object "java/lang/Object"))).before a0 Z = true := hw _ (List.mem_of_getElem? (i := 43) rfl)
theorem t44 {a0 : Array Value} {Z : State} (hw : ∀ d ∈ tables_1, d.before a0 Z = true) : (Jvm.Cond.classLink "com/example/wicker_store/wickerstore/ExampleMatcher$GenericPropertyMatcher" (32 : Nat) "com/example/wicker_store/wickerstore/ExampleMatcher$StringMatcher").before a0 Z = true := hw _ (List.mem_of_getElem? (i := 44) rfl)
theorem t46 {a0 : Array Value} {Z : State} (hw : ∀ d ∈ tables_1, d.before a0 Z = true) : (Jvm.Cond.methodLink "com/example/wicker_store/wickerstore/GenericPropertyMatcherStringMatcherPinLaw" (42 : Nat) ({ cls := "com/example/wicker_store/wickerstore/ExampleMatcher$GenericPropertyMatcher", name := "ignoreCase", desc := "(Z)Lcom/example/wicker_store/wickerstore/ExampleMatcher$GenericPropertyMatcher;" } : Jvm.MethodName)).before a0 Z = true := hw _ (List.mem_of_getElem? (i := 46) rfl)
theorem t47 {a0 : Array Value} {Z : State} (hw : ∀ d ∈ tables_1, d.before a0 Z = true) : (Jvm.Cond.declares ({ cls := "com/example/wicker_store/wickerstore/ExampleMatcher$GenericPropertyMatcher", name := "ignoreCase", desc := "(Z)Lcom/example/wicker_store/wickerstore/ExampleMatcher$GenericPropertyMatcher;" } : Jvm.MethodName)).before a0 Z = true := hw _ (List.mem_of_getElem? (i := 47) rfl)
theorem t48 {a0 : Array Value} {Z : State} (hw : ∀ d ∈ tables_1, d.before a0 Z = true) : (Jvm.Cond.instanceMethod ({ cls := "com/example/wicker_store/wickerstore/ExampleMatcher$GenericPropertyMatcher", name := "ignoreCase", desc := "(Z)Lcom/example/wicker_store/wickerstore/ExampleMatcher$GenericPropertyMatcher;" } : Jvm.MethodName)).before a0 Z = true := hw _ (List.mem_of_getElem? (i := 48) rfl)
theorem t49 {a0 : Array Value} {Z : State} (hw : ∀ d ∈ tables_1, d.before a0 Z = true) : (Jvm.Cond.selects "com/example/wicker_store/wickerstore/ExampleMatcher$GenericPropertyMatcher" ({ cls := "com/example/wicker_store/wickerstore/ExampleMatcher$GenericPropertyMatcher", name := "ignoreCase", desc := "(Z)Lcom/example/wicker_store/wickerstore/ExampleMatcher$GenericPropertyMatcher;" } : Jvm.MethodName) ({ cls := "com/example/wicker_store/wickerstore/ExampleMatcher$GenericPropertyMatcher", name := "ignoreCase", desc := "(Z)Lcom/example/wicker_store/wickerstore/ExampleMatcher$GenericPropertyMatcher;" } : Jvm.MethodName)).before a0 Z = true := hw _ (List.mem_of_getElem? (i := 49) rfl)
theorem t50 {a0 : Array Value} {Z : State} (hw : ∀ d ∈ tables_1, d.before a0 Z = true) : (Jvm.Cond.code ({ cls := "com/example/wicker_store/wickerstore/ExampleMatcher$GenericPropertyMatcher", name := "ignoreCase", desc := "(Z)Lcom/example/wicker_store/wickerstore/ExampleMatcher$GenericPropertyMatcher;" } : Jvm.MethodName) prog_4_method_12_code (2 : Nat) (Option.some (Jvm.ClassFile.FieldType.object "com/example/wicker_store/wickerstore/ExampleMatcher$GenericPropertyMatcher"))).before a0 Z = true := hw _ (List.mem_of_getElem? (i := 50) rfl)
theorem t51 {a0 : Array Value} {Z : State} (hw : ∀ d ∈ tables_1, d.before a0 Z = true) : (Jvm.Cond.methodLink "com/example/wicker_store/wickerstore/ExampleMatcher$GenericPropertyMatcher" (56 : Nat) ({ cls := "java/lang/Boolean", name := "valueOf", desc := "(Z)Ljava/lang/Boolean;" } : Jvm.MethodName)).before a0 Z = true := hw _ (List.mem_of_getElem? (i := 51) rfl)
theorem t52 {a0 : Array Value} {Z : State} (hw : ∀ d ∈ tables_1, d.before a0 Z = true) : (Jvm.Cond.static ({ cls := "java/lang/Boolean", name := "valueOf", desc := "(Z)Ljava/lang/Boolean;" } : Jvm.MethodName)).before a0 Z = true := hw _ (List.mem_of_getElem? (i := 52) rfl)
theorem t53 {a0 : Array Value} {Z : State} (hw : ∀ d ∈ tables_1, d.before a0 Z = true) : (Jvm.Cond.initialized "java/lang/Boolean").before a0 Z = true := hw _ (List.mem_of_getElem? (i := 53) rfl)
theorem t54 {a0 : Array Value} {Z : State} (hw : ∀ d ∈ tables_1, d.before a0 Z = true) : (Jvm.Cond.code ({ cls := "java/lang/Boolean", name := "valueOf", desc := "(Z)Ljava/lang/Boolean;" } : Jvm.MethodName) jdk_2055_method_5_code (1 : Nat) (Option.some (Jvm.ClassFile.FieldType.object "java/lang/Boolean"))).before a0 Z = true := hw _ (List.mem_of_getElem? (i := 54) rfl)
theorem t55 {a0 : Array Value} {Z : State} (hw : ∀ d ∈ tables_1, d.before a0 Z = true) : (Jvm.Cond.fieldLink "java/lang/Boolean" (31 : Nat) "java/lang/Boolean" "FALSE" "Ljava/lang/Boolean;").before a0 Z = true := hw _ (List.mem_of_getElem? (i := 55) rfl)
theorem t56 {a0 : Array Value} {Z : State} (hw : ∀ d ∈ tables_1, d.before a0 Z = true) : (Jvm.Cond.methodLink "com/example/wicker_store/wickerstore/GenericPropertyMatcherStringMatcherPinLaw" (46 : Nat) ({ cls := "com/example/wicker_store/wickerstore/ExampleMatcher$GenericPropertyMatcher", name := "getIgnoreCase", desc := "()Ljava/lang/Boolean;" } : Jvm.MethodName)).before a0 Z = true := hw _ (List.mem_of_getElem? (i := 56) rfl)
theorem t57 {a0 : Array Value} {Z : State} (hw : ∀ d ∈ tables_1, d.before a0 Z = true) : (Jvm.Cond.declares ({ cls := "com/example/wicker_store/wickerstore/ExampleMatcher$GenericPropertyMatcher", name := "getIgnoreCase", desc := "()Ljava/lang/Boolean;" } : Jvm.MethodName)).before a0 Z = true := hw _ (List.mem_of_getElem? (i := 57) rfl)
theorem t58 {a0 : Array Value} {Z : State} (hw : ∀ d ∈ tables_1, d.before a0 Z = true) : (Jvm.Cond.instanceMethod ({ cls := "com/example/wicker_store/wickerstore/ExampleMatcher$GenericPropertyMatcher", name := "getIgnoreCase", desc := "()Ljava/lang/Boolean;" } : Jvm.MethodName)).before a0 Z = true := hw _ (List.mem_of_getElem? (i := 58) rfl)
theorem t59 {a0 : Array Value} {Z : State} (hw : ∀ d ∈ tables_1, d.before a0 Z = true) : (Jvm.Cond.selects "com/example/wicker_store/wickerstore/ExampleMatcher$GenericPropertyMatcher" ({ cls := "com/example/wicker_store/wickerstore/ExampleMatcher$GenericPropertyMatcher", name := "getIgnoreCase", desc := "()Ljava/lang/Boolean;" } : Jvm.MethodName) ({ cls := "com/example/wicker_store/wickerstore/ExampleMatcher$GenericPropertyMatcher", name := "getIgnoreCase", desc := "()Ljava/lang/Boolean;" } : Jvm.MethodName)).before a0 Z = true := hw _ (List.mem_of_getElem? (i := 59) rfl)
theorem t60 {a0 : Array Value} {Z : State} (hw : ∀ d ∈ tables_1, d.before a0 Z = true) : (Jvm.Cond.code ({ cls := "com/example/wicker_store/wickerstore/ExampleMatcher$GenericPropertyMatcher", name := "getIgnoreCase", desc := "()Ljava/lang/Boolean;" } : Jvm.MethodName) prog_4_method_15_code (1 : Nat) (Option.some (Jvm.ClassFile.FieldType.object "java/lang/Boolean"))).before a0 Z = true := hw _ (List.mem_of_getElem? (i := 60) rfl)
theorem t61 {a0 : Array Value} {Z : State} (hw : ∀ d ∈ tables_1, d.before a0 Z = true) : (Jvm.Cond.methodLink "com/example/wicker_store/wickerstore/GenericPropertyMatcherStringMatcherPinLaw" (50 : Nat) ({ cls := "com/example/wicker_store/wickerstore/ExampleMatcher$GenericPropertyMatcher", name := "getStringMatcher", desc := "()Lcom/example/wicker_store/wickerstore/ExampleMatcher$StringMatcher;" } : Jvm.MethodName)).before a0 Z = true := hw _ (List.mem_of_getElem? (i := 61) rfl)
theorem t62 {a0 : Array Value} {Z : State} (hw : ∀ d ∈ tables_1, d.before a0 Z = true) : (Jvm.Cond.declares ({ cls := "com/example/wicker_store/wickerstore/ExampleMatcher$GenericPropertyMatcher", name := "getStringMatcher", desc := "()Lcom/example/wicker_store/wickerstore/ExampleMatcher$StringMatcher;" } : Jvm.MethodName)).before a0 Z = true := hw _ (List.mem_of_getElem? (i := 62) rfl)
theorem t63 {a0 : Array Value} {Z : State} (hw : ∀ d ∈ tables_1, d.before a0 Z = true) : (Jvm.Cond.instanceMethod ({ cls := "com/example/wicker_store/wickerstore/ExampleMatcher$GenericPropertyMatcher", name := "getStringMatcher", desc := "()Lcom/example/wicker_store/wickerstore/ExampleMatcher$StringMatcher;" } : Jvm.MethodName)).before a0 Z = true := hw _ (List.mem_of_getElem? (i := 63) rfl)
theorem t64 {a0 : Array Value} {Z : State} (hw : ∀ d ∈ tables_1, d.before a0 Z = true) : (Jvm.Cond.selects "com/example/wicker_store/wickerstore/ExampleMatcher$GenericPropertyMatcher" ({ cls := "com/example/wicker_store/wickerstore/ExampleMatcher$GenericPropertyMatcher", name := "getStringMatcher", desc := "()Lcom/example/wicker_store/wickerstore/ExampleMatcher$StringMatcher;" } : Jvm.MethodName) ({ cls := "com/example/wicker_store/wickerstore/ExampleMatcher$GenericPropertyMatcher", name := "getStringMatcher", desc := "()Lcom/example/wicker_store/wickerstore/ExampleMatcher$StringMatcher;" } : Jvm.MethodName)).before a0 Z = true := hw _ (List.mem_of_getElem? (i := 64) rfl)
theorem t65 {a0 : Array Value} {Z : State} (hw : ∀ d ∈ tables_1, d.before a0 Z = true) : (Jvm.Cond.code ({ cls := "com/example/wicker_store/wickerstore/ExampleMatcher$GenericPropertyMatcher", name := "getStringMatcher", desc := "()Lcom/example/wicker_store/wickerstore/ExampleMatcher$StringMatcher;" } : Jvm.MethodName) prog_4_method_14_code (1 : Nat) (Option.some (Jvm.ClassFile.FieldType.object "com/example/wicker_store/wickerstore/ExampleMatcher$StringMatcher"))).before a0 Z = true := hw _ (List.mem_of_getElem? (i := 65) rfl)
theorem t66 {a0 : Array Value} {Z : State} (hw : ∀ d ∈ tables_1, d.before a0 Z = true) : (Jvm.Cond.fieldLink "com/example/wicker_store/wickerstore/GenericPropertyMatcherStringMatcherPinLaw" (14 : Nat) "com/example/wicker_store/wickerstore/ExampleMatcher$StringMatcher" "EXACT" "Lcom/example/wicker_store/wickerstore/ExampleMatcher$StringMatcher;").before a0 Z = true := hw _ (List.mem_of_getElem? (i := 66) rfl)
theorem t67 {a0 : Array Value} {Z : State} (hw : ∀ d ∈ tables_1, d.before a0 Z = true) : (Jvm.Cond.laysStatic "com/example/wicker_store/wickerstore/ExampleMatcher$StringMatcher" "EXACT" "Lcom/example/wicker_store/wickerstore/ExampleMatcher$StringMatcher;").before a0 Z = true := hw _ (List.mem_of_getElem? (i := 67) rfl)
theorem t68 {a0 : Array Value} {Z : State} (hw : ∀ d ∈ tables_1, d.before a0 Z = true) : (Jvm.Cond.fieldLink "com/example/wicker_store/wickerstore/GenericPropertyMatcherStringMatcherPinLaw" (26 : Nat) "com/example/wicker_store/wickerstore/ExampleMatcher$StringMatcher" "REGEX" "Lcom/example/wicker_store/wickerstore/ExampleMatcher$StringMatcher;").before a0 Z = true := hw _ (List.mem_of_getElem? (i := 68) rfl)
theorem t69 {a0 : Array Value} {Z : State} (hw : ∀ d ∈ tables_1, d.before a0 Z = true) : (Jvm.Cond.laysStatic "com/example/wicker_store/wickerstore/ExampleMatcher$StringMatcher" "REGEX" "Lcom/example/wicker_store/wickerstore/ExampleMatcher$StringMatcher;").before a0 Z = true := hw _ (List.mem_of_getElem? (i := 69) rfl)
theorem t70 {a0 : Array Value} {Z : State} (hw : ∀ d ∈ tables_1, d.before a0 Z = true) : (Jvm.Cond.fieldLink "com/example/wicker_store/wickerstore/GenericPropertyMatcherStringMatcherPinLaw" (17 : Nat) "com/example/wicker_store/wickerstore/ExampleMatcher$StringMatcher" "STARTING" "Lcom/example/wicker_store/wickerstore/ExampleMatcher$StringMatcher;").before a0 Z = true := hw _ (List.mem_of_getElem? (i := 70) rfl)
theorem t71 {a0 : Array Value} {Z : State} (hw : ∀ d ∈ tables_1, d.before a0 Z = true) : (Jvm.Cond.laysStatic "com/example/wicker_store/wickerstore/ExampleMatcher$StringMatcher" "STARTING" "Lcom/example/wicker_store/wickerstore/ExampleMatcher$StringMatcher;").before a0 Z = true := hw _ (List.mem_of_getElem? (i := 71) rfl)
theorem t72 {a0 : Array Value} {Z : State} (hw : ∀ d ∈ tables_1, d.before a0 Z = true) : (Jvm.Cond.fieldLink "com/example/wicker_store/wickerstore/GenericPropertyMatcherStringMatcherPinLaw" (23 : Nat) "com/example/wicker_store/wickerstore/ExampleMatcher$StringMatcher" "CONTAINING" "Lcom/example/wicker_store/wickerstore/ExampleMatcher$StringMatcher;").before a0 Z = true := hw _ (List.mem_of_getElem? (i := 72) rfl)
theorem t73 {a0 : Array Value} {Z : State} (hw : ∀ d ∈ tables_1, d.before a0 Z = true) : (Jvm.Cond.laysStatic "com/example/wicker_store/wickerstore/ExampleMatcher$StringMatcher" "CONTAINING" "Lcom/example/wicker_store/wickerstore/ExampleMatcher$StringMatcher;").before a0 Z = true := hw _ (List.mem_of_getElem? (i := 73) rfl)
theorem t74 {a0 : Array Value} {Z : State} (hw : ∀ d ∈ tables_1, d.before a0 Z = true) : (Jvm.Cond.fieldLink "java/lang/Boolean" (27 : Nat) "java/lang/Boolean" "TRUE" "Ljava/lang/Boolean;").before a0 Z = true := hw _ (List.mem_of_getElem? (i := 74) rfl)
def World (Z : State) (w_DEFAULT : Addr) (w_ENDING : Addr) (w_EXACT : Addr) (w_REGEX : Addr) (w_STARTING : Addr) (w_CONTAINING : Addr) (w_FALSE : Addr) (w_TRUE : Addr) : Prop :=
  Sta Z Z.heap "com/example/wicker_store/wickerstore/ExampleMatcher$StringMatcher" "DEFAULT" "Lcom/example/wicker_store/wickerstore/ExampleMatcher$StringMatcher;" (.ref w_DEFAULT) ∧
  Exa Z Z.heap w_DEFAULT "com/example/wicker_store/wickerstore/ExampleMatcher$StringMatcher" ∧
  Sta Z Z.heap "com/example/wicker_store/wickerstore/ExampleMatcher$StringMatcher" "ENDING" "Lcom/example/wicker_store/wickerstore/ExampleMatcher$StringMatcher;" (.ref w_ENDING) ∧
  Exa Z Z.heap w_ENDING "com/example/wicker_store/wickerstore/ExampleMatcher$StringMatcher" ∧
  Sta Z Z.heap "com/example/wicker_store/wickerstore/ExampleMatcher$StringMatcher" "EXACT" "Lcom/example/wicker_store/wickerstore/ExampleMatcher$StringMatcher;" (.ref w_EXACT) ∧
  Exa Z Z.heap w_EXACT "com/example/wicker_store/wickerstore/ExampleMatcher$StringMatcher" ∧
  Sta Z Z.heap "com/example/wicker_store/wickerstore/ExampleMatcher$StringMatcher" "REGEX" "Lcom/example/wicker_store/wickerstore/ExampleMatcher$StringMatcher;" (.ref w_REGEX) ∧
  Exa Z Z.heap w_REGEX "com/example/wicker_store/wickerstore/ExampleMatcher$StringMatcher" ∧
  Sta Z Z.heap "com/example/wicker_store/wickerstore/ExampleMatcher$StringMatcher" "STARTING" "Lcom/example/wicker_store/wickerstore/ExampleMatcher$StringMatcher;" (.ref w_STARTING) ∧
  Exa Z Z.heap w_STARTING "com/example/wicker_store/wickerstore/ExampleMatcher$StringMatcher" ∧
  Sta Z Z.heap "com/example/wicker_store/wickerstore/ExampleMatcher$StringMatcher" "CONTAINING" "Lcom/example/wicker_store/wickerstore/ExampleMatcher$StringMatcher;" (.ref w_CONTAINING) ∧
  Exa Z Z.heap w_CONTAINING "com/example/wicker_store/wickerstore/ExampleMatcher$StringMatcher" ∧
  Sta Z Z.heap "java/lang/Boolean" "FALSE" "Ljava/lang/Boolean;" (.ref w_FALSE) ∧
  Exa Z Z.heap w_FALSE "java/lang/Boolean" ∧
  Sta Z Z.heap "java/lang/Boolean" "TRUE" "Ljava/lang/Boolean;" (.ref w_TRUE) ∧
  Exa Z Z.heap w_TRUE "java/lang/Boolean" ∧
  Fld Z Z.heap w_FALSE "java/lang/Boolean" "value" "Z" (.int (0 : Int32)) ∧
  Fld Z Z.heap w_TRUE "java/lang/Boolean" "value" "Z" (.int (1 : Int32))
theorem own_strings {a0 : Array Value} {Z : State} (hw : ∀ d ∈ tables_1, d.before a0 Z = true) : ∀ a ∈ Bundle.stringAtoms, a.before a0 Z = true := by
  intro d hd
  simp only [Bundle.stringAtoms, List.mem_cons, List.not_mem_nil, or_false] at hd
  rcases hd with rfl | rfl | rfl | rfl | rfl | rfl | rfl
  · exact t33 hw
  · exact t34 hw
  · exact t35 hw
  · exact t36 hw
  · exact t37 hw
  · exact t38 hw
  · exact t39 hw
theorem pn_0 : plainName "com/example/wicker_store/wickerstore/GenericPropertyMatcherStringMatcherPinLaw" = true := by first | (simp [plainName, overriddenIn]; done) | decide +kernel
theorem d_method_2_code_0 : decode method_2_code 0 = .ok (.iload_n 0, 1) := by decide +kernel
theorem d_method_2_code_1 : decode method_2_code 1 = .ok (.ldc 7, 2) := by decide +kernel
theorem d_method_2_code_3 : decode method_2_code 3 = .ok (.iand, 1) := by decide +kernel
theorem d_method_2_code_4 : decode method_2_code 4 = .ok (.bipush 6, 2) := by decide +kernel
theorem d_method_2_code_6 : decode method_2_code 6 = .ok (.irem, 1) := by decide +kernel
theorem d_method_2_code_7 : decode method_2_code 7 = .ok (.istore_n 1, 1) := by decide +kernel
theorem d_method_2_code_8 : decode method_2_code 8 = .ok (.iload_n 1, 1) := by decide +kernel
theorem d_method_2_code_9 : decode method_2_code 9 = .ok (.ifCond .ne 7, 3) := by decide +kernel
theorem d_method_2_code_16 : decode method_2_code 16 = .ok (.iload_n 1, 1) := by decide +kernel
theorem d_method_2_code_17 : decode method_2_code 17 = .ok (.iconst 1, 1) := by decide +kernel
theorem d_method_2_code_18 : decode method_2_code 18 = .ok (.if_icmp .ne 7, 3) := by decide +kernel
theorem d_method_2_code_25 : decode method_2_code 25 = .ok (.iload_n 1, 1) := by decide +kernel
theorem d_method_2_code_26 : decode method_2_code 26 = .ok (.iconst 2, 1) := by decide +kernel
theorem d_method_2_code_27 : decode method_2_code 27 = .ok (.if_icmp .ne 7, 3) := by decide +kernel
theorem d_method_2_code_34 : decode method_2_code 34 = .ok (.iload_n 1, 1) := by decide +kernel
theorem d_method_2_code_35 : decode method_2_code 35 = .ok (.iconst 3, 1) := by decide +kernel
theorem d_method_2_code_36 : decode method_2_code 36 = .ok (.if_icmp .ne 7, 3) := by decide +kernel
theorem d_method_2_code_43 : decode method_2_code 43 = .ok (.iload_n 1, 1) := by decide +kernel
theorem d_method_2_code_44 : decode method_2_code 44 = .ok (.iconst 4, 1) := by decide +kernel
theorem d_method_2_code_45 : decode method_2_code 45 = .ok (.if_icmp .ne 7, 3) := by decide +kernel
theorem d_method_2_code_52 : decode method_2_code 52 = .ok (.getstatic 26, 3) := by decide +kernel
theorem d_method_2_code_55 : decode method_2_code 55 = .ok (.areturn, 1) := by decide +kernel
theorem d_method_2_code_48 : decode method_2_code 48 = .ok (.getstatic 23, 3) := by decide +kernel
theorem d_method_2_code_51 : decode method_2_code 51 = .ok (.areturn, 1) := by decide +kernel
theorem d_method_2_code_39 : decode method_2_code 39 = .ok (.getstatic 20, 3) := by decide +kernel
theorem d_method_2_code_42 : decode method_2_code 42 = .ok (.areturn, 1) := by decide +kernel
theorem d_method_2_code_30 : decode method_2_code 30 = .ok (.getstatic 17, 3) := by decide +kernel
theorem d_method_2_code_33 : decode method_2_code 33 = .ok (.areturn, 1) := by decide +kernel
theorem d_method_2_code_21 : decode method_2_code 21 = .ok (.getstatic 14, 3) := by decide +kernel
theorem d_method_2_code_24 : decode method_2_code 24 = .ok (.areturn, 1) := by decide +kernel
theorem d_method_2_code_12 : decode method_2_code 12 = .ok (.getstatic 8, 3) := by decide +kernel
theorem d_method_2_code_15 : decode method_2_code 15 = .ok (.areturn, 1) := by decide +kernel
set_option maxRecDepth 65536 in
set_option maxHeartbeats 40000000 in
theorem own_pick {l : Launch} {Z : State} {a0 : Array Value} (hw : ∀ d ∈ tables_1, d.before a0 Z = true) {w_DEFAULT : Addr} {w_ENDING : Addr} {w_EXACT : Addr} {w_REGEX : Addr} {w_STARTING : Addr} {w_CONTAINING : Addr} {w_FALSE : Addr} {w_TRUE : Addr} (wd : World Z w_DEFAULT w_ENDING w_EXACT w_REGEX w_STARTING w_CONTAINING w_FALSE w_TRUE) (x0 : Int32) {h0 : Heap} (O : Ext Z.heap h0) :
    Ctr l Z y0 method_2_code 2 (some (.object "com/example/wicker_store/wickerstore/ExampleMatcher$StringMatcher")) ({ frames := 0, cells := 0, slots := 0, locals := 0 } : Room) #[(.int x0)] h0 (fun v h L => ∃ r, v = some (.ref r) ∧ L = [] ∧ h = h0 ∧ Exa Z Z.heap r "com/example/wicker_store/wickerstore/ExampleMatcher$StringMatcher") := by
  refine Ctr.body (plainFor_of_name pn_0) ?_
  intro p e s m below meth c T X hx hby hml hown hnm hret hlk hZ eT
  have hml : c.maxLocals = 2 := hml
  have hown : s.vm.findClass "com/example/wicker_store/wickerstore/GenericPropertyMatcherStringMatcherPinLaw" = some m.cls := hown
  have hnm : meth.name = "pick" := hnm
  have hret : meth.sig.returnType = (some (.object "com/example/wicker_store/wickerstore/ExampleMatcher$StringMatcher")) := hret
  refine Run.cast (show entryFrame m #[(.int x0)] 2 = mkF m 0 #[.val (.int x0), .unset] [] from by first | (simp [entryFrame, mkF, argsToLocals, Value.category]; done) | rfl) ?_
  have wd0 := wd
  obtain ⟨S_w_DEFAULT, E_w_DEFAULT, S_w_ENDING, E_w_ENDING, S_w_EXACT, E_w_EXACT, S_w_REGEX, E_w_REGEX, S_w_STARTING, E_w_STARTING, S_w_CONTAINING, E_w_CONTAINING, S_w_FALSE, E_w_FALSE, S_w_TRUE, E_w_TRUE, F_value_w_FALSE, F_value_w_TRUE⟩ := wd
  have wd := wd0
  refine q_iloadN (pc' := 1) X hx (hb hby d_method_2_code_0) rfl rfl ?_
  refine q_ldc (pc' := 3) (v := (2147483647 : Int32)) X hx hZ hown (hb hby d_method_2_code_1) (t4 hw) rfl ?_
  refine q_iand (pc' := 4) (z := (x0 &&& (2147483647 : Int32))) X hx (hb hby d_method_2_code_3) rfl rfl ?_
  refine q_bipush (pc' := 6) (z := (6 : Int32)) X hx (hb hby d_method_2_code_4) rfl rfl ?_
  refine q_irem (pc' := 7) (z := ((x0 &&& (2147483647 : Int32)) % (6 : Int32))) X hx (hb hby d_method_2_code_6) (by decide) rfl rfl ?_
  refine q_istoreN (pc' := 8) (l' := #[.val (.int x0), .val (.int ((x0 &&& (2147483647 : Int32)) % (6 : Int32)))]) X hx (hb hby d_method_2_code_7) rfl rfl ?_
  refine q_iloadN (pc' := 9) X hx (hb hby d_method_2_code_8) rfl rfl ?_
  rcases Bool.eq_false_or_eq_true (ifCond.holds .ne ((x0 &&& (2147483647 : Int32)) % (6 : Int32))) with hc9 | hc9
  · refine q_ifYes (pc' := 16) X hx (hb hby d_method_2_code_9) hc9 (by decide) (by decide) ?_
    refine q_iloadN (pc' := 17) X hx (hb hby d_method_2_code_16) rfl rfl ?_
    refine q_iconst (pc' := 18) (z := (1 : Int32)) X hx (hb hby d_method_2_code_17) rfl rfl ?_
    rcases Bool.eq_false_or_eq_true (if_icmp.holds .ne ((x0 &&& (2147483647 : Int32)) % (6 : Int32)) (1 : Int32)) with hc18 | hc18
    · refine q_icmpYes (pc' := 25) X hx (hb hby d_method_2_code_18) hc18 (by decide) (by decide) ?_
      refine q_iloadN (pc' := 26) X hx (hb hby d_method_2_code_25) rfl rfl ?_
      refine q_iconst (pc' := 27) (z := (2 : Int32)) X hx (hb hby d_method_2_code_26) rfl rfl ?_
      rcases Bool.eq_false_or_eq_true (if_icmp.holds .ne ((x0 &&& (2147483647 : Int32)) % (6 : Int32)) (2 : Int32)) with hc27 | hc27
      · refine q_icmpYes (pc' := 34) X hx (hb hby d_method_2_code_27) hc27 (by decide) (by decide) ?_
        refine q_iloadN (pc' := 35) X hx (hb hby d_method_2_code_34) rfl rfl ?_
        refine q_iconst (pc' := 36) (z := (3 : Int32)) X hx (hb hby d_method_2_code_35) rfl rfl ?_
        rcases Bool.eq_false_or_eq_true (if_icmp.holds .ne ((x0 &&& (2147483647 : Int32)) % (6 : Int32)) (3 : Int32)) with hc36 | hc36
        · refine q_icmpYes (pc' := 43) X hx (hb hby d_method_2_code_36) hc36 (by decide) (by decide) ?_
          refine q_iloadN (pc' := 44) X hx (hb hby d_method_2_code_43) rfl rfl ?_
          refine q_iconst (pc' := 45) (z := (4 : Int32)) X hx (hb hby d_method_2_code_44) rfl rfl ?_
          rcases Bool.eq_false_or_eq_true (if_icmp.holds .ne ((x0 &&& (2147483647 : Int32)) % (6 : Int32)) (4 : Int32)) with hc45 | hc45
          · refine q_icmpYes (pc' := 52) X hx (hb hby d_method_2_code_45) hc45 (by decide) (by decide) ?_
            refine q_getS (pc' := 55) X hx hZ hown (hb hby d_method_2_code_52) (host := "") (Or.inl (t68 hw)) eT (S_w_REGEX.ext O) rfl ?_
            intro T X eT
            refine Run.retR X hx hlk hret (hb hby d_method_2_code_55) rfl rfl (by decide) (by decide) ?_
            try rw [eT]
            exact ⟨_, rfl, rfl, rfl, E_w_REGEX⟩
          · refine q_icmpNo (pc' := 48) X hx (hb hby d_method_2_code_45) hc45 rfl ?_
            refine q_getS (pc' := 51) X hx hZ hown (hb hby d_method_2_code_48) (host := "") (Or.inl (t72 hw)) eT (S_w_CONTAINING.ext O) rfl ?_
            intro T X eT
            refine Run.retR X hx hlk hret (hb hby d_method_2_code_51) rfl rfl (by decide) (by decide) ?_
            try rw [eT]
            exact ⟨_, rfl, rfl, rfl, E_w_CONTAINING⟩
        · refine q_icmpNo (pc' := 39) X hx (hb hby d_method_2_code_36) hc36 rfl ?_
          refine q_getS (pc' := 42) X hx hZ hown (hb hby d_method_2_code_39) (host := "") (Or.inl (t8 hw)) eT (S_w_ENDING.ext O) rfl ?_
          intro T X eT
          refine Run.retR X hx hlk hret (hb hby d_method_2_code_42) rfl rfl (by decide) (by decide) ?_
          try rw [eT]
          exact ⟨_, rfl, rfl, rfl, E_w_ENDING⟩
      · refine q_icmpNo (pc' := 30) X hx (hb hby d_method_2_code_27) hc27 rfl ?_
        refine q_getS (pc' := 33) X hx hZ hown (hb hby d_method_2_code_30) (host := "") (Or.inl (t70 hw)) eT (S_w_STARTING.ext O) rfl ?_
        intro T X eT
        refine Run.retR X hx hlk hret (hb hby d_method_2_code_33) rfl rfl (by decide) (by decide) ?_
        try rw [eT]
        exact ⟨_, rfl, rfl, rfl, E_w_STARTING⟩
    · refine q_icmpNo (pc' := 21) X hx (hb hby d_method_2_code_18) hc18 rfl ?_
      refine q_getS (pc' := 24) X hx hZ hown (hb hby d_method_2_code_21) (host := "") (Or.inl (t66 hw)) eT (S_w_EXACT.ext O) rfl ?_
      intro T X eT
      refine Run.retR X hx hlk hret (hb hby d_method_2_code_24) rfl rfl (by decide) (by decide) ?_
      try rw [eT]
      exact ⟨_, rfl, rfl, rfl, E_w_EXACT⟩
  · refine q_ifNo (pc' := 12) X hx (hb hby d_method_2_code_9) hc9 rfl ?_
    refine q_getS (pc' := 15) X hx hZ hown (hb hby d_method_2_code_12) (host := "") (Or.inl (t5 hw)) eT (S_w_DEFAULT.ext O) rfl ?_
    intro T X eT
    refine Run.retR X hx hlk hret (hb hby d_method_2_code_15) rfl rfl (by decide) (by decide) ?_
    try rw [eT]
    exact ⟨_, rfl, rfl, rfl, E_w_DEFAULT⟩
theorem own_sel (x : Int32) : (x &&& (2147483647 : Int32)) % (3 : Int32) = (0 : Int32) ∨ (x &&& (2147483647 : Int32)) % (3 : Int32) = (1 : Int32) ∨ (x &&& (2147483647 : Int32)) % (3 : Int32) = (2 : Int32) := by
  have q := (c_and x 2147483647 (by decide)).1
  have q2 := (c_irem (x &&& 2147483647) 3 3 (by decide)).1 q
  have r : ((x &&& 2147483647) % 3).toInt = 0 ∨ ((x &&& 2147483647) % 3).toInt = 1 ∨ ((x &&& 2147483647) % 3).toInt = 2 := by omega
  rcases r with r | r | r <;> simp [← Int32.toInt_inj, r]
theorem pd_0 : parseMethodDescriptor "(I)Lcom/example/wicker_store/wickerstore/ExampleMatcher$StringMatcher;" = some ⟨[.int], some (.object "com/example/wicker_store/wickerstore/ExampleMatcher$StringMatcher")⟩ := by decide +kernel
theorem pn_1 : plainName "com/example/wicker_store/wickerstore/ExampleMatcher$GenericPropertyMatcher" = true := by first | (simp [plainName, overriddenIn]; done) | decide +kernel
theorem d_prog_4_method_1_code_0 : decode prog_4_method_1_code 0 = .ok (.aload_n 0, 1) := by decide +kernel
theorem d_prog_4_method_1_code_1 : decode prog_4_method_1_code 1 = .ok (.aconst_null, 1) := by decide +kernel
theorem d_prog_4_method_1_code_2 : decode prog_4_method_1_code 2 = .ok (.aconst_null, 1) := by decide +kernel
theorem d_prog_4_method_1_code_3 : decode prog_4_method_1_code 3 = .ok (.invokespecial 1, 3) := by decide +kernel
theorem d_prog_4_method_2_code_0 : decode prog_4_method_2_code 0 = .ok (.aload_n 0, 1) := by decide +kernel
theorem d_prog_4_method_2_code_1 : decode prog_4_method_2_code 1 = .ok (.invokespecial 7, 3) := by decide +kernel
theorem d_prog_4_method_2_code_4 : decode prog_4_method_2_code 4 = .ok (.aload_n 0, 1) := by decide +kernel
theorem d_prog_4_method_2_code_5 : decode prog_4_method_2_code 5 = .ok (.aload_n 1, 1) := by decide +kernel
theorem d_prog_4_method_2_code_6 : decode prog_4_method_2_code 6 = .ok (.putfield 12, 3) := by decide +kernel
theorem d_prog_4_method_2_code_9 : decode prog_4_method_2_code 9 = .ok (.aload_n 0, 1) := by decide +kernel
theorem d_prog_4_method_2_code_10 : decode prog_4_method_2_code 10 = .ok (.aload_n 2, 1) := by decide +kernel
theorem d_prog_4_method_2_code_11 : decode prog_4_method_2_code 11 = .ok (.putfield 16, 3) := by decide +kernel
theorem d_prog_4_method_2_code_14 : decode prog_4_method_2_code 14 = .ok (.return_, 1) := by decide +kernel
set_option maxRecDepth 65536 in
set_option maxHeartbeats 40000000 in
theorem c2_init {l : Launch} {Z : State} {a0 : Array Value} (hw : ∀ d ∈ tables_1, d.before a0 Z = true) {w_DEFAULT : Addr} {w_ENDING : Addr} {w_EXACT : Addr} {w_REGEX : Addr} {w_STARTING : Addr} {w_CONTAINING : Addr} {w_FALSE : Addr} {w_TRUE : Addr} (wd : World Z w_DEFAULT w_ENDING w_EXACT w_REGEX w_STARTING w_CONTAINING w_FALSE w_TRUE)  {h0 : Heap} (O : Ext Z.heap h0) {o0 : Addr} (E_o0 : Exa Z h0 o0 "com/example/wicker_store/wickerstore/ExampleMatcher$GenericPropertyMatcher") (F_stringMatcher_o0 : Fld Z h0 o0 "com/example/wicker_store/wickerstore/ExampleMatcher$GenericPropertyMatcher" "stringMatcher" "Lcom/example/wicker_store/wickerstore/ExampleMatcher$StringMatcher;" .null) (F_ignoringCase_o0 : Fld Z h0 o0 "com/example/wicker_store/wickerstore/ExampleMatcher$GenericPropertyMatcher" "ignoringCase" "Ljava/lang/Boolean;" .null) (g_o0 : Z.heap.size ≤ o0) :
    Ctr l Z y1 prog_4_method_2_code 3 none ({ frames := 1, cells := 0, slots := 0, locals := 12 } : Room) #[(.ref o0), .null, .null] h0 (fun v h L => v = none ∧ Fr Z.heap.size L ∧ Keep h0 h [o0] ∧ Exa Z h o0 "com/example/wicker_store/wickerstore/ExampleMatcher$GenericPropertyMatcher" ∧ Fld Z h o0 "com/example/wicker_store/wickerstore/ExampleMatcher$GenericPropertyMatcher" "stringMatcher" "Lcom/example/wicker_store/wickerstore/ExampleMatcher$StringMatcher;" .null ∧ Fld Z h o0 "com/example/wicker_store/wickerstore/ExampleMatcher$GenericPropertyMatcher" "ignoringCase" "Ljava/lang/Boolean;" .null) := by
  refine Ctr.body (plainFor_of_name pn_1) ?_
  intro p e s m below meth c T X hx hby hml hown hnm hret hlk hZ eT
  have hml : c.maxLocals = 3 := hml
  have hown : s.vm.findClass "com/example/wicker_store/wickerstore/ExampleMatcher$GenericPropertyMatcher" = some m.cls := hown
  have hnm : meth.name = "<init>" := hnm
  have hret : meth.sig.returnType = none := hret
  refine Run.cast (show entryFrame m #[(.ref o0), .null, .null] 3 = mkF m 0 #[.val (.ref o0), .val .null, .val .null] [] from by first | (simp [entryFrame, mkF, argsToLocals, Value.category]; done) | rfl) ?_
  have wd0 := wd
  obtain ⟨S_w_DEFAULT, E_w_DEFAULT, S_w_ENDING, E_w_ENDING, S_w_EXACT, E_w_EXACT, S_w_REGEX, E_w_REGEX, S_w_STARTING, E_w_STARTING, S_w_CONTAINING, E_w_CONTAINING, S_w_FALSE, E_w_FALSE, S_w_TRUE, E_w_TRUE, F_value_w_FALSE, F_value_w_TRUE⟩ := wd
  have wd := wd0
  have N : Fr Z.heap.size [] := Fr.nil _
  have KK : Keep h0 h0 [o0] := Keep.refl h0 [o0]
  refine q_aloadN (pc' := 1) X hx (hb hby d_prog_4_method_2_code_0) rfl rfl rfl ?_
  refine q_initO (pc' := 4) X hx hZ hown (hb hby d_prog_4_method_2_code_1) (t19 hw) (t20 hw) (t21 hw) eT (by rw [hml]; rfl) (by decide) (W := 0) rfl (by decide) rfl ?_
  intro T X eT
  refine q_aloadN (pc' := 5) X hx (hb hby d_prog_4_method_2_code_4) rfl rfl rfl ?_
  refine q_aloadN (pc' := 6) X hx (hb hby d_prog_4_method_2_code_5) rfl rfl rfl ?_
  refine q_putF (pc' := 9) X hx hZ hown (hb hby d_prog_4_method_2_code_6) (host := "") (Or.inl (t22 hw)) eT F_stringMatcher_o0 E_o0 (Or.inr ⟨(t23 hw), rfl, hnm⟩) (t11 hw) (ty := (.object "com/example/wicker_store/wickerstore/ExampleMatcher$StringMatcher")) (by decide) rfl rfl rfl ?_
  intro T h_1 X eT Wx
  have N := Fr.snoc X N g_o0
  have O := ext_wr O Wx g_o0
  have KK := KK.wr Wx (Or.inl (List.mem_of_getElem? (i := 0) rfl))
  have E_o0 := E_o0.wr Wx
  have F_stringMatcher_o0 := F_stringMatcher_o0.same Wx
  have F_ignoringCase_o0 := F_ignoringCase_o0.other Wx (Or.inr (slot_ne (Or.inr (t25 hw)) (Or.inr (t23 hw)) (by decide) (t := (.object "java/lang/Boolean")) (t' := (.object "com/example/wicker_store/wickerstore/ExampleMatcher$StringMatcher")) (by decide) (by decide)))
  refine q_aloadN (pc' := 10) X hx (hb hby d_prog_4_method_2_code_9) rfl rfl rfl ?_
  refine q_aloadN (pc' := 11) X hx (hb hby d_prog_4_method_2_code_10) rfl rfl rfl ?_
  refine q_putF (pc' := 14) X hx hZ hown (hb hby d_prog_4_method_2_code_11) (host := "") (Or.inl (t24 hw)) eT F_ignoringCase_o0 E_o0 (Or.inr ⟨(t25 hw), rfl, hnm⟩) (t11 hw) (ty := (.object "java/lang/Boolean")) (by decide) rfl rfl rfl ?_
  intro T h_2 X eT Wx
  have N := Fr.snoc X N g_o0
  have O := ext_wr O Wx g_o0
  have KK := KK.wr Wx (Or.inl (List.mem_of_getElem? (i := 0) rfl))
  have E_o0 := E_o0.wr Wx
  have F_stringMatcher_o0 := F_stringMatcher_o0.other Wx (Or.inr (slot_ne (Or.inr (t23 hw)) (Or.inr (t25 hw)) (by decide) (t := (.object "com/example/wicker_store/wickerstore/ExampleMatcher$StringMatcher")) (t' := (.object "java/lang/Boolean")) (by decide) (by decide)))
  have F_ignoringCase_o0 := F_ignoringCase_o0.same Wx
  refine Run.retV X hx hlk hret (hb hby d_prog_4_method_2_code_14) (by decide) (by decide) ?_
  try rw [eT]
  exact ⟨rfl, N, KK, E_o0, F_stringMatcher_o0, F_ignoringCase_o0⟩
theorem pd_1 : parseMethodDescriptor "(Lcom/example/wicker_store/wickerstore/ExampleMatcher$StringMatcher;Ljava/lang/Boolean;)V" = some ⟨[(.object "com/example/wicker_store/wickerstore/ExampleMatcher$StringMatcher"), (.object "java/lang/Boolean")], none⟩ := by decide +kernel
theorem d_prog_4_method_1_code_6 : decode prog_4_method_1_code 6 = .ok (.return_, 1) := by decide +kernel
set_option maxRecDepth 65536 in
set_option maxHeartbeats 40000000 in
theorem c1_init {l : Launch} {Z : State} {a0 : Array Value} (hw : ∀ d ∈ tables_1, d.before a0 Z = true) {w_DEFAULT : Addr} {w_ENDING : Addr} {w_EXACT : Addr} {w_REGEX : Addr} {w_STARTING : Addr} {w_CONTAINING : Addr} {w_FALSE : Addr} {w_TRUE : Addr} (wd : World Z w_DEFAULT w_ENDING w_EXACT w_REGEX w_STARTING w_CONTAINING w_FALSE w_TRUE)  {h0 : Heap} (O : Ext Z.heap h0) {o0 : Addr} (E_o0 : Exa Z h0 o0 "com/example/wicker_store/wickerstore/ExampleMatcher$GenericPropertyMatcher") (F_stringMatcher_o0 : Fld Z h0 o0 "com/example/wicker_store/wickerstore/ExampleMatcher$GenericPropertyMatcher" "stringMatcher" "Lcom/example/wicker_store/wickerstore/ExampleMatcher$StringMatcher;" .null) (F_ignoringCase_o0 : Fld Z h0 o0 "com/example/wicker_store/wickerstore/ExampleMatcher$GenericPropertyMatcher" "ignoringCase" "Ljava/lang/Boolean;" .null) (g_o0 : Z.heap.size ≤ o0) :
    Ctr l Z y2 prog_4_method_1_code 1 none ({ frames := 2, cells := 0, slots := 0, locals := 26 } : Room) #[(.ref o0)] h0 (fun v h L => v = none ∧ Fr Z.heap.size L ∧ Keep h0 h [o0] ∧ Exa Z h o0 "com/example/wicker_store/wickerstore/ExampleMatcher$GenericPropertyMatcher" ∧ Fld Z h o0 "com/example/wicker_store/wickerstore/ExampleMatcher$GenericPropertyMatcher" "stringMatcher" "Lcom/example/wicker_store/wickerstore/ExampleMatcher$StringMatcher;" .null ∧ Fld Z h o0 "com/example/wicker_store/wickerstore/ExampleMatcher$GenericPropertyMatcher" "ignoringCase" "Ljava/lang/Boolean;" .null) := by
  refine Ctr.body (plainFor_of_name pn_1) ?_
  intro p e s m below meth c T X hx hby hml hown hnm hret hlk hZ eT
  have hml : c.maxLocals = 1 := hml
  have hown : s.vm.findClass "com/example/wicker_store/wickerstore/ExampleMatcher$GenericPropertyMatcher" = some m.cls := hown
  have hnm : meth.name = "<init>" := hnm
  have hret : meth.sig.returnType = none := hret
  refine Run.cast (show entryFrame m #[(.ref o0)] 1 = mkF m 0 #[.val (.ref o0)] [] from by first | (simp [entryFrame, mkF, argsToLocals, Value.category]; done) | rfl) ?_
  have wd0 := wd
  obtain ⟨S_w_DEFAULT, E_w_DEFAULT, S_w_ENDING, E_w_ENDING, S_w_EXACT, E_w_EXACT, S_w_REGEX, E_w_REGEX, S_w_STARTING, E_w_STARTING, S_w_CONTAINING, E_w_CONTAINING, S_w_FALSE, E_w_FALSE, S_w_TRUE, E_w_TRUE, F_value_w_FALSE, F_value_w_TRUE⟩ := wd
  have wd := wd0
  have N : Fr Z.heap.size [] := Fr.nil _
  have KK : Keep h0 h0 [o0] := Keep.refl h0 [o0]
  refine q_aloadN (pc' := 1) X hx (hb hby d_prog_4_method_1_code_0) rfl rfl rfl ?_
  refine q_null (pc' := 2) X hx (hb hby d_prog_4_method_1_code_1) rfl ?_
  refine q_null (pc' := 3) X hx (hb hby d_prog_4_method_1_code_2) rfl ?_
  refine q_callN (pc' := 6) (y := y1) (rest := []) (b := o0) X hx hZ hown (hb hby d_prog_4_method_1_code_3) rfl (t16 hw) (t17 hw) (t12 hw) (t18 hw) (by decide) eT [.null, .null] (c2_init hw wd  O E_o0 F_stringMatcher_o0 F_ignoringCase_o0 g_o0) (by rw [hml]; rfl) (lenOf pd_1 rfl) (W := 0) rfl (by decide) (by decide) (by decide) (by decide) rfl ?_
  rintro _ T _ X ⟨rfl, NL, KL, E_o0, F_stringMatcher_o0, F_ignoringCase_o0⟩
  have N := N.app NL
  obtain ⟨h_2, eT⟩ : ∃ z, T.heap = z := ⟨_, rfl⟩
  rw [eT] at KL E_o0 F_stringMatcher_o0 F_ignoringCase_o0
  have O := ext_keep O KL (allS g_o0 all0)
  have KK := KK.trans KL (allS (Or.inl (List.mem_of_getElem? (i := 0) rfl)) all0)
  show Run p e below _ (T.setTop (mkF m 6 _ []))
  refine Run.retV X hx hlk hret (hb hby d_prog_4_method_1_code_6) (by decide) (by decide) ?_
  try rw [eT]
  exact ⟨rfl, N, KK, E_o0, F_stringMatcher_o0, F_ignoringCase_o0⟩
theorem pd_2 : parseMethodDescriptor "()V" = some ⟨[], none⟩ := by decide +kernel
theorem d_prog_4_method_15_code_0 : decode prog_4_method_15_code 0 = .ok (.aload_n 0, 1) := by decide +kernel
theorem d_prog_4_method_15_code_1 : decode prog_4_method_15_code 1 = .ok (.getfield 16, 3) := by decide +kernel
theorem d_prog_4_method_15_code_4 : decode prog_4_method_15_code 4 = .ok (.areturn, 1) := by decide +kernel
set_option maxRecDepth 65536 in
set_option maxHeartbeats 40000000 in
theorem c3_getIgnoreCase {l : Launch} {Z : State} {a0 : Array Value} (hw : ∀ d ∈ tables_1, d.before a0 Z = true) {w_DEFAULT : Addr} {w_ENDING : Addr} {w_EXACT : Addr} {w_REGEX : Addr} {w_STARTING : Addr} {w_CONTAINING : Addr} {w_FALSE : Addr} {w_TRUE : Addr} (wd : World Z w_DEFAULT w_ENDING w_EXACT w_REGEX w_STARTING w_CONTAINING w_FALSE w_TRUE)  {h0 : Heap} (O : Ext Z.heap h0) {o0 : Addr} (E_o0 : Exa Z h0 o0 "com/example/wicker_store/wickerstore/ExampleMatcher$GenericPropertyMatcher") (F_stringMatcher_o0 : Fld Z h0 o0 "com/example/wicker_store/wickerstore/ExampleMatcher$GenericPropertyMatcher" "stringMatcher" "Lcom/example/wicker_store/wickerstore/ExampleMatcher$StringMatcher;" .null) (F_ignoringCase_o0 : Fld Z h0 o0 "com/example/wicker_store/wickerstore/ExampleMatcher$GenericPropertyMatcher" "ignoringCase" "Ljava/lang/Boolean;" .null) :
    Ctr l Z y3 prog_4_method_15_code 1 (some (.object "java/lang/Boolean")) ({ frames := 0, cells := 0, slots := 0, locals := 0 } : Room) #[(.ref o0)] h0 (fun v h L => v = some .null ∧ L = [] ∧ h = h0) := by
  refine Ctr.body (plainFor_of_name pn_1) ?_
  intro p e s m below meth c T X hx hby hml hown hnm hret hlk hZ eT
  have hml : c.maxLocals = 1 := hml
  have hown : s.vm.findClass "com/example/wicker_store/wickerstore/ExampleMatcher$GenericPropertyMatcher" = some m.cls := hown
  have hnm : meth.name = "getIgnoreCase" := hnm
  have hret : meth.sig.returnType = (some (.object "java/lang/Boolean")) := hret
  refine Run.cast (show entryFrame m #[(.ref o0)] 1 = mkF m 0 #[.val (.ref o0)] [] from by first | (simp [entryFrame, mkF, argsToLocals, Value.category]; done) | rfl) ?_
  have wd0 := wd
  obtain ⟨S_w_DEFAULT, E_w_DEFAULT, S_w_ENDING, E_w_ENDING, S_w_EXACT, E_w_EXACT, S_w_REGEX, E_w_REGEX, S_w_STARTING, E_w_STARTING, S_w_CONTAINING, E_w_CONTAINING, S_w_FALSE, E_w_FALSE, S_w_TRUE, E_w_TRUE, F_value_w_FALSE, F_value_w_TRUE⟩ := wd
  have wd := wd0
  have N : Fr Z.heap.size [] := Fr.nil _
  have KK : Keep h0 h0 [] := Keep.refl h0 []
  refine q_aloadN (pc' := 1) X hx (hb hby d_prog_4_method_15_code_0) rfl rfl rfl ?_
  refine q_getF (pc' := 4) X hx hZ hown (hb hby d_prog_4_method_15_code_1) (host := "") (Or.inl (t24 hw)) eT F_ignoringCase_o0 rfl ?_
  intro T X eT
  refine Run.retR X hx hlk hret (hb hby d_prog_4_method_15_code_4) rfl rfl (by decide) (by decide) ?_
  try rw [eT]
  exact ⟨rfl, rfl, rfl⟩
theorem pd_3 : parseMethodDescriptor "()Ljava/lang/Boolean;" = some ⟨[], some (.object "java/lang/Boolean")⟩ := by decide +kernel
theorem d_prog_4_method_14_code_0 : decode prog_4_method_14_code 0 = .ok (.aload_n 0, 1) := by decide +kernel
theorem d_prog_4_method_14_code_1 : decode prog_4_method_14_code 1 = .ok (.getfield 12, 3) := by decide +kernel
theorem d_prog_4_method_14_code_4 : decode prog_4_method_14_code 4 = .ok (.areturn, 1) := by decide +kernel
set_option maxRecDepth 65536 in
set_option maxHeartbeats 40000000 in
theorem c4_getStringMatcher {l : Launch} {Z : State} {a0 : Array Value} (hw : ∀ d ∈ tables_1, d.before a0 Z = true) {w_DEFAULT : Addr} {w_ENDING : Addr} {w_EXACT : Addr} {w_REGEX : Addr} {w_STARTING : Addr} {w_CONTAINING : Addr} {w_FALSE : Addr} {w_TRUE : Addr} (wd : World Z w_DEFAULT w_ENDING w_EXACT w_REGEX w_STARTING w_CONTAINING w_FALSE w_TRUE)  {h0 : Heap} (O : Ext Z.heap h0) {o0 : Addr} (E_o0 : Exa Z h0 o0 "com/example/wicker_store/wickerstore/ExampleMatcher$GenericPropertyMatcher") (F_stringMatcher_o0 : Fld Z h0 o0 "com/example/wicker_store/wickerstore/ExampleMatcher$GenericPropertyMatcher" "stringMatcher" "Lcom/example/wicker_store/wickerstore/ExampleMatcher$StringMatcher;" .null) (F_ignoringCase_o0 : Fld Z h0 o0 "com/example/wicker_store/wickerstore/ExampleMatcher$GenericPropertyMatcher" "ignoringCase" "Ljava/lang/Boolean;" .null) :
    Ctr l Z y4 prog_4_method_14_code 1 (some (.object "com/example/wicker_store/wickerstore/ExampleMatcher$StringMatcher")) ({ frames := 0, cells := 0, slots := 0, locals := 0 } : Room) #[(.ref o0)] h0 (fun v h L => v = some .null ∧ L = [] ∧ h = h0) := by
  refine Ctr.body (plainFor_of_name pn_1) ?_
  intro p e s m below meth c T X hx hby hml hown hnm hret hlk hZ eT
  have hml : c.maxLocals = 1 := hml
  have hown : s.vm.findClass "com/example/wicker_store/wickerstore/ExampleMatcher$GenericPropertyMatcher" = some m.cls := hown
  have hnm : meth.name = "getStringMatcher" := hnm
  have hret : meth.sig.returnType = (some (.object "com/example/wicker_store/wickerstore/ExampleMatcher$StringMatcher")) := hret
  refine Run.cast (show entryFrame m #[(.ref o0)] 1 = mkF m 0 #[.val (.ref o0)] [] from by first | (simp [entryFrame, mkF, argsToLocals, Value.category]; done) | rfl) ?_
  have wd0 := wd
  obtain ⟨S_w_DEFAULT, E_w_DEFAULT, S_w_ENDING, E_w_ENDING, S_w_EXACT, E_w_EXACT, S_w_REGEX, E_w_REGEX, S_w_STARTING, E_w_STARTING, S_w_CONTAINING, E_w_CONTAINING, S_w_FALSE, E_w_FALSE, S_w_TRUE, E_w_TRUE, F_value_w_FALSE, F_value_w_TRUE⟩ := wd
  have wd := wd0
  have N : Fr Z.heap.size [] := Fr.nil _
  have KK : Keep h0 h0 [] := Keep.refl h0 []
  refine q_aloadN (pc' := 1) X hx (hb hby d_prog_4_method_14_code_0) rfl rfl rfl ?_
  refine q_getF (pc' := 4) X hx hZ hown (hb hby d_prog_4_method_14_code_1) (host := "") (Or.inl (t22 hw)) eT F_stringMatcher_o0 rfl ?_
  intro T X eT
  refine Run.retR X hx hlk hret (hb hby d_prog_4_method_14_code_4) rfl rfl (by decide) (by decide) ?_
  try rw [eT]
  exact ⟨rfl, rfl, rfl⟩
theorem pd_4 : parseMethodDescriptor "()Lcom/example/wicker_store/wickerstore/ExampleMatcher$StringMatcher;" = some ⟨[], some (.object "com/example/wicker_store/wickerstore/ExampleMatcher$StringMatcher")⟩ := by decide +kernel
theorem d_prog_4_method_10_code_0 : decode prog_4_method_10_code 0 = .ok (.new 2, 3) := by decide +kernel
theorem d_prog_4_method_10_code_3 : decode prog_4_method_10_code 3 = .ok (.dup, 1) := by decide +kernel
theorem d_prog_4_method_10_code_4 : decode prog_4_method_10_code 4 = .ok (.aload_n 1, 1) := by decide +kernel
theorem d_prog_4_method_10_code_5 : decode prog_4_method_10_code 5 = .ok (.ldc 48, 2) := by decide +kernel
theorem d_prog_4_method_10_code_7 : decode prog_4_method_10_code 7 = .ok (.invokestatic 50, 3) := by decide +kernel
theorem pn_2 : plainName "java/util/Objects" = true := by first | (simp [plainName, overriddenIn]; done) | decide +kernel
theorem d_jdk_31_method_11_code_0 : decode jdk_31_method_11_code 0 = .ok (.aload_n 0, 1) := by decide +kernel
theorem d_jdk_31_method_11_code_1 : decode jdk_31_method_11_code 1 = .ok (.ifnonnull 12, 3) := by decide +kernel
theorem d_jdk_31_method_11_code_13 : decode jdk_31_method_11_code 13 = .ok (.aload_n 0, 1) := by decide +kernel
theorem d_jdk_31_method_11_code_14 : decode jdk_31_method_11_code 14 = .ok (.areturn, 1) := by decide +kernel
set_option maxRecDepth 65536 in
set_option maxHeartbeats 40000000 in
theorem c6_requireNonNull {l : Launch} {Z : State} {a0 : Array Value} (hw : ∀ d ∈ tables_1, d.before a0 Z = true) {w_DEFAULT : Addr} {w_ENDING : Addr} {w_EXACT : Addr} {w_REGEX : Addr} {w_STARTING : Addr} {w_CONTAINING : Addr} {w_FALSE : Addr} {w_TRUE : Addr} (wd : World Z w_DEFAULT w_ENDING w_EXACT w_REGEX w_STARTING w_CONTAINING w_FALSE w_TRUE)  {h0 : Heap} (O : Ext Z.heap h0) {o0 : Addr} {o1 : Addr} (E_o0 : Exa Z h0 o0 "com/example/wicker_store/wickerstore/ExampleMatcher$StringMatcher") :
    Ctr l Z y5 jdk_31_method_11_code 2 (some (.object "java/lang/Object")) ({ frames := 0, cells := 0, slots := 0, locals := 0 } : Room) #[(.ref o0), (.ref o1)] h0 (fun v h L => v = some (.ref o0) ∧ L = [] ∧ h = h0) := by
  refine Ctr.body (plainFor_of_name pn_2) ?_
  intro p e s m below meth c T X hx hby hml hown hnm hret hlk hZ eT
  have hml : c.maxLocals = 2 := hml
  have hown : s.vm.findClass "java/util/Objects" = some m.cls := hown
  have hnm : meth.name = "requireNonNull" := hnm
  have hret : meth.sig.returnType = (some (.object "java/lang/Object")) := hret
  refine Run.cast (show entryFrame m #[(.ref o0), (.ref o1)] 2 = mkF m 0 #[.val (.ref o0), .val (.ref o1)] [] from by first | (simp [entryFrame, mkF, argsToLocals, Value.category]; done) | rfl) ?_
  have wd0 := wd
  obtain ⟨S_w_DEFAULT, E_w_DEFAULT, S_w_ENDING, E_w_ENDING, S_w_EXACT, E_w_EXACT, S_w_REGEX, E_w_REGEX, S_w_STARTING, E_w_STARTING, S_w_CONTAINING, E_w_CONTAINING, S_w_FALSE, E_w_FALSE, S_w_TRUE, E_w_TRUE, F_value_w_FALSE, F_value_w_TRUE⟩ := wd
  have wd := wd0
  have N : Fr Z.heap.size [] := Fr.nil _
  have KK : Keep h0 h0 [] := Keep.refl h0 []
  refine q_aloadN (pc' := 1) X hx (hb hby d_jdk_31_method_11_code_0) rfl rfl rfl ?_
  refine q_ifnonnullYes (pc' := 13) X hx (hb hby d_jdk_31_method_11_code_1) (by decide) (by decide) ?_
  refine q_aloadN (pc' := 14) X hx (hb hby d_jdk_31_method_11_code_13) rfl rfl rfl ?_
  refine Run.retR X hx hlk hret (hb hby d_jdk_31_method_11_code_14) rfl rfl (by decide) (by decide) ?_
  try rw [eT]
  exact ⟨rfl, rfl, rfl⟩
theorem pd_5 : parseMethodDescriptor "(Ljava/lang/Object;Ljava/lang/String;)Ljava/lang/Object;" = some ⟨[(.object "java/lang/Object"), (.object "java/lang/String")], some (.object "java/lang/Object")⟩ := by decide +kernel
theorem d_prog_4_method_10_code_10 : decode prog_4_method_10_code 10 = .ok (.checkcast 32, 3) := by decide +kernel
theorem d_prog_4_method_10_code_13 : decode prog_4_method_10_code 13 = .ok (.aload_n 0, 1) := by decide +kernel
theorem d_prog_4_method_10_code_14 : decode prog_4_method_10_code 14 = .ok (.getfield 16, 3) := by decide +kernel
theorem d_prog_4_method_10_code_17 : decode prog_4_method_10_code 17 = .ok (.invokespecial 1, 3) := by decide +kernel
set_option maxRecDepth 65536 in
set_option maxHeartbeats 40000000 in
theorem c7_init {l : Launch} {Z : State} {a0 : Array Value} (hw : ∀ d ∈ tables_1, d.before a0 Z = true) {w_DEFAULT : Addr} {w_ENDING : Addr} {w_EXACT : Addr} {w_REGEX : Addr} {w_STARTING : Addr} {w_CONTAINING : Addr} {w_FALSE : Addr} {w_TRUE : Addr} (wd : World Z w_DEFAULT w_ENDING w_EXACT w_REGEX w_STARTING w_CONTAINING w_FALSE w_TRUE)  {h0 : Heap} (O : Ext Z.heap h0) {o0 : Addr} {o1 : Addr} (E_o1 : Exa Z h0 o1 "com/example/wicker_store/wickerstore/ExampleMatcher$StringMatcher") (E_o0 : Exa Z h0 o0 "com/example/wicker_store/wickerstore/ExampleMatcher$GenericPropertyMatcher") (F_stringMatcher_o0 : Fld Z h0 o0 "com/example/wicker_store/wickerstore/ExampleMatcher$GenericPropertyMatcher" "stringMatcher" "Lcom/example/wicker_store/wickerstore/ExampleMatcher$StringMatcher;" .null) (F_ignoringCase_o0 : Fld Z h0 o0 "com/example/wicker_store/wickerstore/ExampleMatcher$GenericPropertyMatcher" "ignoringCase" "Ljava/lang/Boolean;" .null) (g_o0 : Z.heap.size ≤ o0) :
    Ctr l Z y1 prog_4_method_2_code 3 none ({ frames := 1, cells := 0, slots := 0, locals := 12 } : Room) #[(.ref o0), (.ref o1), .null] h0 (fun v h L => v = none ∧ Fr Z.heap.size L ∧ Keep h0 h [o0] ∧ Exa Z h o0 "com/example/wicker_store/wickerstore/ExampleMatcher$GenericPropertyMatcher" ∧ Fld Z h o0 "com/example/wicker_store/wickerstore/ExampleMatcher$GenericPropertyMatcher" "stringMatcher" "Lcom/example/wicker_store/wickerstore/ExampleMatcher$StringMatcher;" (.ref o1) ∧ Fld Z h o0 "com/example/wicker_store/wickerstore/ExampleMatcher$GenericPropertyMatcher" "ignoringCase" "Ljava/lang/Boolean;" .null) := by
  refine Ctr.body (plainFor_of_name pn_1) ?_
  intro p e s m below meth c T X hx hby hml hown hnm hret hlk hZ eT
  have hml : c.maxLocals = 3 := hml
  have hown : s.vm.findClass "com/example/wicker_store/wickerstore/ExampleMatcher$GenericPropertyMatcher" = some m.cls := hown
  have hnm : meth.name = "<init>" := hnm
  have hret : meth.sig.returnType = none := hret
  refine Run.cast (show entryFrame m #[(.ref o0), (.ref o1), .null] 3 = mkF m 0 #[.val (.ref o0), .val (.ref o1), .val .null] [] from by first | (simp [entryFrame, mkF, argsToLocals, Value.category]; done) | rfl) ?_
  have wd0 := wd
  obtain ⟨S_w_DEFAULT, E_w_DEFAULT, S_w_ENDING, E_w_ENDING, S_w_EXACT, E_w_EXACT, S_w_REGEX, E_w_REGEX, S_w_STARTING, E_w_STARTING, S_w_CONTAINING, E_w_CONTAINING, S_w_FALSE, E_w_FALSE, S_w_TRUE, E_w_TRUE, F_value_w_FALSE, F_value_w_TRUE⟩ := wd
  have wd := wd0
  have N : Fr Z.heap.size [] := Fr.nil _
  have KK : Keep h0 h0 [o0] := Keep.refl h0 [o0]
  refine q_aloadN (pc' := 1) X hx (hb hby d_prog_4_method_2_code_0) rfl rfl rfl ?_
  refine q_initO (pc' := 4) X hx hZ hown (hb hby d_prog_4_method_2_code_1) (t19 hw) (t20 hw) (t21 hw) eT (by rw [hml]; rfl) (by decide) (W := 0) rfl (by decide) rfl ?_
  intro T X eT
  refine q_aloadN (pc' := 5) X hx (hb hby d_prog_4_method_2_code_4) rfl rfl rfl ?_
  refine q_aloadN (pc' := 6) X hx (hb hby d_prog_4_method_2_code_5) rfl rfl rfl ?_
  refine q_putF (pc' := 9) X hx hZ hown (hb hby d_prog_4_method_2_code_6) (host := "") (Or.inl (t22 hw)) eT F_stringMatcher_o0 E_o0 (Or.inr ⟨(t23 hw), rfl, hnm⟩) (t11 hw) (ty := (.object "com/example/wicker_store/wickerstore/ExampleMatcher$StringMatcher")) (by decide) rfl rfl rfl ?_
  intro T h_1 X eT Wx
  have N := Fr.snoc X N g_o0
  have O := ext_wr O Wx g_o0
  have KK := KK.wr Wx (Or.inl (List.mem_of_getElem? (i := 0) rfl))
  have E_o1 := E_o1.wr Wx
  have E_o0 := E_o0.wr Wx
  have F_stringMatcher_o0 := F_stringMatcher_o0.same Wx
  have F_ignoringCase_o0 := F_ignoringCase_o0.other Wx (Or.inr (slot_ne (Or.inr (t25 hw)) (Or.inr (t23 hw)) (by decide) (t := (.object "java/lang/Boolean")) (t' := (.object "com/example/wicker_store/wickerstore/ExampleMatcher$StringMatcher")) (by decide) (by decide)))
  refine q_aloadN (pc' := 10) X hx (hb hby d_prog_4_method_2_code_9) rfl rfl rfl ?_
  refine q_aloadN (pc' := 11) X hx (hb hby d_prog_4_method_2_code_10) rfl rfl rfl ?_
  refine q_putF (pc' := 14) X hx hZ hown (hb hby d_prog_4_method_2_code_11) (host := "") (Or.inl (t24 hw)) eT F_ignoringCase_o0 E_o0 (Or.inr ⟨(t25 hw), rfl, hnm⟩) (t11 hw) (ty := (.object "java/lang/Boolean")) (by decide) rfl rfl rfl ?_
  intro T h_2 X eT Wx
  have N := Fr.snoc X N g_o0
  have O := ext_wr O Wx g_o0
  have KK := KK.wr Wx (Or.inl (List.mem_of_getElem? (i := 0) rfl))
  have E_o1 := E_o1.wr Wx
  have E_o0 := E_o0.wr Wx
  have F_stringMatcher_o0 := F_stringMatcher_o0.other Wx (Or.inr (slot_ne (Or.inr (t23 hw)) (Or.inr (t25 hw)) (by decide) (t := (.object "com/example/wicker_store/wickerstore/ExampleMatcher$StringMatcher")) (t' := (.object "java/lang/Boolean")) (by decide) (by decide)))
  have F_ignoringCase_o0 := F_ignoringCase_o0.same Wx
  refine Run.retV X hx hlk hret (hb hby d_prog_4_method_2_code_14) (by decide) (by decide) ?_
  try rw [eT]
  exact ⟨rfl, N, KK, E_o0, F_stringMatcher_o0, F_ignoringCase_o0⟩
theorem d_prog_4_method_10_code_20 : decode prog_4_method_10_code 20 = .ok (.areturn, 1) := by decide +kernel
set_option maxRecDepth 65536 in
set_option maxHeartbeats 40000000 in
theorem c5_stringMatcher {l : Launch} {Z : State} {a0 : Array Value} (hw : ∀ d ∈ tables_1, d.before a0 Z = true) {w_DEFAULT : Addr} {w_ENDING : Addr} {w_EXACT : Addr} {w_REGEX : Addr} {w_STARTING : Addr} {w_CONTAINING : Addr} {w_FALSE : Addr} {w_TRUE : Addr} (wd : World Z w_DEFAULT w_ENDING w_EXACT w_REGEX w_STARTING w_CONTAINING w_FALSE w_TRUE)  {h0 : Heap} (O : Ext Z.heap h0) {o0 : Addr} {o1 : Addr} (E_o1 : Exa Z h0 o1 "com/example/wicker_store/wickerstore/ExampleMatcher$StringMatcher") (E_o0 : Exa Z h0 o0 "com/example/wicker_store/wickerstore/ExampleMatcher$GenericPropertyMatcher") (F_stringMatcher_o0 : Fld Z h0 o0 "com/example/wicker_store/wickerstore/ExampleMatcher$GenericPropertyMatcher" "stringMatcher" "Lcom/example/wicker_store/wickerstore/ExampleMatcher$StringMatcher;" .null) (F_ignoringCase_o0 : Fld Z h0 o0 "com/example/wicker_store/wickerstore/ExampleMatcher$GenericPropertyMatcher" "ignoringCase" "Ljava/lang/Boolean;" .null) :
    CtrW l Z y6 prog_4_method_10_code 2 (some (.object "com/example/wicker_store/wickerstore/ExampleMatcher$GenericPropertyMatcher")) ({ frames := 2, cells := 3, slots := 62, locals := 27 } : Room) #[(.ref o0), (.ref o1)] h0 (fun v h L => ∃ (b0_0 : Addr), v = some (.ref b0_0) ∧ Fr Z.heap.size L ∧ Keep h0 h [] ∧ h0.size ≤ b0_0 ∧ Exa Z h b0_0 "com/example/wicker_store/wickerstore/ExampleMatcher$GenericPropertyMatcher" ∧ Fld Z h b0_0 "com/example/wicker_store/wickerstore/ExampleMatcher$GenericPropertyMatcher" "stringMatcher" "Lcom/example/wicker_store/wickerstore/ExampleMatcher$StringMatcher;" (.ref o1) ∧ Fld Z h b0_0 "com/example/wicker_store/wickerstore/ExampleMatcher$GenericPropertyMatcher" "ignoringCase" "Ljava/lang/Boolean;" .null) := by
  refine CtrW.body (plainFor_of_name pn_1) ?_
  intro p e s m below meth c T vm kS X hx hby hml hown hnm hret hlk hZ eT hS hk
  have hml : c.maxLocals = 2 := hml
  have hown : (s.setVm vm).vm.findClass "com/example/wicker_store/wickerstore/ExampleMatcher$GenericPropertyMatcher" = some m.cls := hown
  have hnm : meth.name = "stringMatcher" := hnm
  have hret : meth.sig.returnType = (some (.object "com/example/wicker_store/wickerstore/ExampleMatcher$GenericPropertyMatcher")) := hret
  refine Run.cast (show entryFrame m #[(.ref o0), (.ref o1)] 2 = mkF m 0 #[.val (.ref o0), .val (.ref o1)] [] from by first | (simp [entryFrame, mkF, argsToLocals, Value.category]; done) | rfl) ?_
  have wd0 := wd
  obtain ⟨S_w_DEFAULT, E_w_DEFAULT, S_w_ENDING, E_w_ENDING, S_w_EXACT, E_w_EXACT, S_w_REGEX, E_w_REGEX, S_w_STARTING, E_w_STARTING, S_w_CONTAINING, E_w_CONTAINING, S_w_FALSE, E_w_FALSE, S_w_TRUE, E_w_TRUE, F_value_w_FALSE, F_value_w_TRUE⟩ := wd
  have wd := wd0
  have N : Fr Z.heap.size [] := Fr.nil _
  have KK : Keep h0 h0 [] := Keep.refl h0 []
  refine q_new (pc' := 3) X hx hZ hown (hb hby d_prog_4_method_10_code_0) (t31 hw) (t11 hw) (t12 hw) eT (by decide) (by decide) rfl ?_
  intro T h_1 b0_0 X eT Ex gb Ax Dx
  have ne_o0_b0_0 : o0 ≠ b0_0 := Nat.ne_of_lt (Nat.lt_of_lt_of_le E_o0.lt (Nat.le_of_eq gb.symm))
  have ne_o1_b0_0 : o1 ≠ b0_0 := Nat.ne_of_lt (Nat.lt_of_lt_of_le E_o1.lt (Nat.le_of_eq gb.symm))
  have g_b0_0 : Z.heap.size ≤ b0_0 := Nat.le_trans O.1 (Nat.le_of_eq gb.symm)
  have sz_b0_0 : h0.size ≤ b0_0 := Nat.le_trans KK.1 (Nat.le_of_eq gb.symm)
  have KK := KK.ext Ex
  have O := ext_trans O Ex
  have hk := Nat.le_trans hk Ex.1
  have E_o1 := E_o1.ext Ex
  have E_o0 := E_o0.ext Ex
  have F_stringMatcher_o0 := F_stringMatcher_o0.ext Ex
  have F_ignoringCase_o0 := F_ignoringCase_o0.ext Ex
  have E_b0_0 := Ax
  have F_stringMatcher_b0_0 : Fld Z h_1 b0_0 "com/example/wicker_store/wickerstore/ExampleMatcher$GenericPropertyMatcher" "stringMatcher" "Lcom/example/wicker_store/wickerstore/ExampleMatcher$StringMatcher;" .null := Dx (Or.inr (t23 hw)) (ty := (.object "com/example/wicker_store/wickerstore/ExampleMatcher$StringMatcher")) (by decide)
  have F_ignoringCase_b0_0 : Fld Z h_1 b0_0 "com/example/wicker_store/wickerstore/ExampleMatcher$GenericPropertyMatcher" "ignoringCase" "Ljava/lang/Boolean;" .null := Dx (Or.inr (t25 hw)) (ty := (.object "java/lang/Boolean")) (by decide)
  refine q_dup (pc' := 4) X hx (hb hby d_prog_4_method_10_code_3) rfl rfl ?_
  refine q_aloadN (pc' := 5) X hx (hb hby d_prog_4_method_10_code_4) rfl rfl rfl ?_
  refine q_ldcS (pc' := 7) X hx hZ hown hS hk (hb hby d_prog_4_method_10_code_5) (t32 hw) (own_strings hw) eT (n := 56) (by decide) (by decide) (by decide) (by decide) rfl ?_
  intro str_2 T h_2 kS X eT Ex hS hk hZ hown
  have KK := KK.ext Ex
  have O := ext_trans O Ex
  have E_o1 := E_o1.ext Ex
  have E_o0 := E_o0.ext Ex
  have F_stringMatcher_o0 := F_stringMatcher_o0.ext Ex
  have F_ignoringCase_o0 := F_ignoringCase_o0.ext Ex
  have E_b0_0 := E_b0_0.ext Ex
  have F_stringMatcher_b0_0 := F_stringMatcher_b0_0.ext Ex
  have F_ignoringCase_b0_0 := F_ignoringCase_b0_0.ext Ex
  refine q_callC (pc' := 10) (y := y5) (rest := [(.ref b0_0), (.ref b0_0)]) X hx hZ hown (hb hby d_prog_4_method_10_code_7) (t40 hw) (t41 hw) (t42 hw) (t43 hw) (by decide) eT [(.ref o1), (.ref str_2)] (c6_requireNonNull hw wd  O E_o1) (by rw [hml]; rfl) (lenOf pd_5 rfl) (W := 2) rfl (by decide) (by decide) (by decide) (by decide) rfl ?_
  rintro _ T _ X ⟨rfl, rfl, eT⟩
  rw [List.append_nil] at X
  show Run p e below _ (T.setTop (mkF m 10 _ [(.ref o1), (.ref b0_0), (.ref b0_0)]))
  refine q_cast (pc' := 13) X hx hZ hown (hb hby d_prog_4_method_10_code_10) (t44 hw) eT (Or.inr ⟨_, rfl, Ins.self E_o1⟩) rfl ?_
  intro T X eT
  refine q_aloadN (pc' := 14) X hx (hb hby d_prog_4_method_10_code_13) rfl rfl rfl ?_
  refine q_getF (pc' := 17) X hx hZ hown (hb hby d_prog_4_method_10_code_14) (host := "") (Or.inl (t24 hw)) eT F_ignoringCase_o0 rfl ?_
  intro T X eT
  refine q_callN (pc' := 20) (y := y1) (rest := [(.ref b0_0)]) (b := b0_0) X hx hZ hown (hb hby d_prog_4_method_10_code_17) rfl (t16 hw) (t17 hw) (t12 hw) (t18 hw) (by decide) eT [(.ref o1), .null] (c7_init hw wd  O E_o1 E_b0_0 F_stringMatcher_b0_0 F_ignoringCase_b0_0 g_b0_0) (by rw [hml]; rfl) (lenOf pd_1 rfl) (W := 1) rfl (by decide) (by decide) (by decide) (by decide) rfl ?_
  rintro _ T _ X ⟨rfl, NL, KL, E_b0_0, F_stringMatcher_b0_0, F_ignoringCase_b0_0⟩
  have N := N.app NL
  obtain ⟨h_4, eT⟩ : ∃ z, T.heap = z := ⟨_, rfl⟩
  rw [eT] at KL E_b0_0 F_stringMatcher_b0_0 F_ignoringCase_b0_0
  have O := ext_keep O KL (allS g_b0_0 all0)
  have KK := KK.trans KL (allS (Or.inr sz_b0_0) all0)
  have hk := Nat.le_trans hk KL.1
  have E_o1 := E_o1.keep KL
  have E_o0 := E_o0.keep KL
  have F_stringMatcher_o0 := F_stringMatcher_o0.keep KL (ninS ne_o0_b0_0 nin0)
  have F_ignoringCase_o0 := F_ignoringCase_o0.keep KL (ninS ne_o0_b0_0 nin0)
  show Run p e below _ (T.setTop (mkF m 20 _ [(.ref b0_0)]))
  refine Run.retRW X hx hlk hS (by rw [eT]; exact hk) hret (hb hby d_prog_4_method_10_code_20) rfl rfl (by decide) (by decide) ?_
  try rw [eT]
  exact ⟨b0_0, rfl, N, KK, sz_b0_0, E_b0_0, F_stringMatcher_b0_0, F_ignoringCase_b0_0⟩
theorem pd_6 : parseMethodDescriptor "(Lcom/example/wicker_store/wickerstore/ExampleMatcher$StringMatcher;)Lcom/example/wicker_store/wickerstore/ExampleMatcher$GenericPropertyMatcher;" = some ⟨[(.object "com/example/wicker_store/wickerstore/ExampleMatcher$StringMatcher")], some (.object "com/example/wicker_store/wickerstore/ExampleMatcher$GenericPropertyMatcher")⟩ := by decide +kernel
set_option maxRecDepth 65536 in
set_option maxHeartbeats 40000000 in
theorem c8_getStringMatcher {l : Launch} {Z : State} {a0 : Array Value} (hw : ∀ d ∈ tables_1, d.before a0 Z = true) {w_DEFAULT : Addr} {w_ENDING : Addr} {w_EXACT : Addr} {w_REGEX : Addr} {w_STARTING : Addr} {w_CONTAINING : Addr} {w_FALSE : Addr} {w_TRUE : Addr} (wd : World Z w_DEFAULT w_ENDING w_EXACT w_REGEX w_STARTING w_CONTAINING w_FALSE w_TRUE)  {h0 : Heap} (O : Ext Z.heap h0) {o0 : Addr} {o1 : Addr} (E_o1 : Exa Z h0 o1 "com/example/wicker_store/wickerstore/ExampleMatcher$StringMatcher") (E_o0 : Exa Z h0 o0 "com/example/wicker_store/wickerstore/ExampleMatcher$GenericPropertyMatcher") (F_stringMatcher_o0 : Fld Z h0 o0 "com/example/wicker_store/wickerstore/ExampleMatcher$GenericPropertyMatcher" "stringMatcher" "Lcom/example/wicker_store/wickerstore/ExampleMatcher$StringMatcher;" (.ref o1)) (F_ignoringCase_o0 : Fld Z h0 o0 "com/example/wicker_store/wickerstore/ExampleMatcher$GenericPropertyMatcher" "ignoringCase" "Ljava/lang/Boolean;" .null) :
    Ctr l Z y4 prog_4_method_14_code 1 (some (.object "com/example/wicker_store/wickerstore/ExampleMatcher$StringMatcher")) ({ frames := 0, cells := 0, slots := 0, locals := 0 } : Room) #[(.ref o0)] h0 (fun v h L => v = some (.ref o1) ∧ L = [] ∧ h = h0) := by
  refine Ctr.body (plainFor_of_name pn_1) ?_
  intro p e s m below meth c T X hx hby hml hown hnm hret hlk hZ eT
  have hml : c.maxLocals = 1 := hml
  have hown : s.vm.findClass "com/example/wicker_store/wickerstore/ExampleMatcher$GenericPropertyMatcher" = some m.cls := hown
  have hnm : meth.name = "getStringMatcher" := hnm
  have hret : meth.sig.returnType = (some (.object "com/example/wicker_store/wickerstore/ExampleMatcher$StringMatcher")) := hret
  refine Run.cast (show entryFrame m #[(.ref o0)] 1 = mkF m 0 #[.val (.ref o0)] [] from by first | (simp [entryFrame, mkF, argsToLocals, Value.category]; done) | rfl) ?_
  have wd0 := wd
  obtain ⟨S_w_DEFAULT, E_w_DEFAULT, S_w_ENDING, E_w_ENDING, S_w_EXACT, E_w_EXACT, S_w_REGEX, E_w_REGEX, S_w_STARTING, E_w_STARTING, S_w_CONTAINING, E_w_CONTAINING, S_w_FALSE, E_w_FALSE, S_w_TRUE, E_w_TRUE, F_value_w_FALSE, F_value_w_TRUE⟩ := wd
  have wd := wd0
  have N : Fr Z.heap.size [] := Fr.nil _
  have KK : Keep h0 h0 [] := Keep.refl h0 []
  refine q_aloadN (pc' := 1) X hx (hb hby d_prog_4_method_14_code_0) rfl rfl rfl ?_
  refine q_getF (pc' := 4) X hx hZ hown (hb hby d_prog_4_method_14_code_1) (host := "") (Or.inl (t22 hw)) eT F_stringMatcher_o0 rfl ?_
  intro T X eT
  refine Run.retR X hx hlk hret (hb hby d_prog_4_method_14_code_4) rfl rfl (by decide) (by decide) ?_
  try rw [eT]
  exact ⟨rfl, rfl, rfl⟩
set_option maxRecDepth 65536 in
set_option maxHeartbeats 40000000 in
theorem c9_getIgnoreCase {l : Launch} {Z : State} {a0 : Array Value} (hw : ∀ d ∈ tables_1, d.before a0 Z = true) {w_DEFAULT : Addr} {w_ENDING : Addr} {w_EXACT : Addr} {w_REGEX : Addr} {w_STARTING : Addr} {w_CONTAINING : Addr} {w_FALSE : Addr} {w_TRUE : Addr} (wd : World Z w_DEFAULT w_ENDING w_EXACT w_REGEX w_STARTING w_CONTAINING w_FALSE w_TRUE)  {h0 : Heap} (O : Ext Z.heap h0) {o0 : Addr} {o1 : Addr} (E_o1 : Exa Z h0 o1 "com/example/wicker_store/wickerstore/ExampleMatcher$StringMatcher") (E_o0 : Exa Z h0 o0 "com/example/wicker_store/wickerstore/ExampleMatcher$GenericPropertyMatcher") (F_stringMatcher_o0 : Fld Z h0 o0 "com/example/wicker_store/wickerstore/ExampleMatcher$GenericPropertyMatcher" "stringMatcher" "Lcom/example/wicker_store/wickerstore/ExampleMatcher$StringMatcher;" (.ref o1)) (F_ignoringCase_o0 : Fld Z h0 o0 "com/example/wicker_store/wickerstore/ExampleMatcher$GenericPropertyMatcher" "ignoringCase" "Ljava/lang/Boolean;" .null) :
    Ctr l Z y3 prog_4_method_15_code 1 (some (.object "java/lang/Boolean")) ({ frames := 0, cells := 0, slots := 0, locals := 0 } : Room) #[(.ref o0)] h0 (fun v h L => v = some .null ∧ L = [] ∧ h = h0) := by
  refine Ctr.body (plainFor_of_name pn_1) ?_
  intro p e s m below meth c T X hx hby hml hown hnm hret hlk hZ eT
  have hml : c.maxLocals = 1 := hml
  have hown : s.vm.findClass "com/example/wicker_store/wickerstore/ExampleMatcher$GenericPropertyMatcher" = some m.cls := hown
  have hnm : meth.name = "getIgnoreCase" := hnm
  have hret : meth.sig.returnType = (some (.object "java/lang/Boolean")) := hret
  refine Run.cast (show entryFrame m #[(.ref o0)] 1 = mkF m 0 #[.val (.ref o0)] [] from by first | (simp [entryFrame, mkF, argsToLocals, Value.category]; done) | rfl) ?_
  have wd0 := wd
  obtain ⟨S_w_DEFAULT, E_w_DEFAULT, S_w_ENDING, E_w_ENDING, S_w_EXACT, E_w_EXACT, S_w_REGEX, E_w_REGEX, S_w_STARTING, E_w_STARTING, S_w_CONTAINING, E_w_CONTAINING, S_w_FALSE, E_w_FALSE, S_w_TRUE, E_w_TRUE, F_value_w_FALSE, F_value_w_TRUE⟩ := wd
  have wd := wd0
  have N : Fr Z.heap.size [] := Fr.nil _
  have KK : Keep h0 h0 [] := Keep.refl h0 []
  refine q_aloadN (pc' := 1) X hx (hb hby d_prog_4_method_15_code_0) rfl rfl rfl ?_
  refine q_getF (pc' := 4) X hx hZ hown (hb hby d_prog_4_method_15_code_1) (host := "") (Or.inl (t24 hw)) eT F_ignoringCase_o0 rfl ?_
  intro T X eT
  refine Run.retR X hx hlk hret (hb hby d_prog_4_method_15_code_4) rfl rfl (by decide) (by decide) ?_
  try rw [eT]
  exact ⟨rfl, rfl, rfl⟩
theorem d_prog_4_method_12_code_0 : decode prog_4_method_12_code 0 = .ok (.new 2, 3) := by decide +kernel
theorem d_prog_4_method_12_code_3 : decode prog_4_method_12_code 3 = .ok (.dup, 1) := by decide +kernel
theorem d_prog_4_method_12_code_4 : decode prog_4_method_12_code 4 = .ok (.aload_n 0, 1) := by decide +kernel
theorem d_prog_4_method_12_code_5 : decode prog_4_method_12_code 5 = .ok (.getfield 12, 3) := by decide +kernel
theorem d_prog_4_method_12_code_8 : decode prog_4_method_12_code 8 = .ok (.iload_n 1, 1) := by decide +kernel
theorem d_prog_4_method_12_code_9 : decode prog_4_method_12_code 9 = .ok (.invokestatic 56, 3) := by decide +kernel
theorem pn_3 : plainName "java/lang/Boolean" = true := by first | (simp [plainName, overriddenIn]; done) | decide +kernel
theorem d_jdk_2055_method_5_code_0 : decode jdk_2055_method_5_code 0 = .ok (.iload_n 0, 1) := by decide +kernel
theorem d_jdk_2055_method_5_code_1 : decode jdk_2055_method_5_code 1 = .ok (.ifCond .eq 9, 3) := by decide +kernel
theorem d_jdk_2055_method_5_code_4 : decode jdk_2055_method_5_code 4 = .ok (.getstatic 27, 3) := by decide +kernel
theorem d_jdk_2055_method_5_code_7 : decode jdk_2055_method_5_code 7 = .ok (.goto 6, 3) := by decide +kernel
theorem d_jdk_2055_method_5_code_13 : decode jdk_2055_method_5_code 13 = .ok (.areturn, 1) := by decide +kernel
set_option maxRecDepth 65536 in
set_option maxHeartbeats 40000000 in
theorem c11_valueOf {l : Launch} {Z : State} {a0 : Array Value} (hw : ∀ d ∈ tables_1, d.before a0 Z = true) {w_DEFAULT : Addr} {w_ENDING : Addr} {w_EXACT : Addr} {w_REGEX : Addr} {w_STARTING : Addr} {w_CONTAINING : Addr} {w_FALSE : Addr} {w_TRUE : Addr} (wd : World Z w_DEFAULT w_ENDING w_EXACT w_REGEX w_STARTING w_CONTAINING w_FALSE w_TRUE)  {h0 : Heap} (O : Ext Z.heap h0)  :
    Ctr l Z y7 jdk_2055_method_5_code 1 (some (.object "java/lang/Boolean")) ({ frames := 0, cells := 0, slots := 0, locals := 0 } : Room) #[(.int (1 : Int32))] h0 (fun v h L => v = some (.ref w_TRUE) ∧ L = [] ∧ h = h0) := by
  refine Ctr.body (plainFor_of_name pn_3) ?_
  intro p e s m below meth c T X hx hby hml hown hnm hret hlk hZ eT
  have hml : c.maxLocals = 1 := hml
  have hown : s.vm.findClass "java/lang/Boolean" = some m.cls := hown
  have hnm : meth.name = "valueOf" := hnm
  have hret : meth.sig.returnType = (some (.object "java/lang/Boolean")) := hret
  refine Run.cast (show entryFrame m #[(.int (1 : Int32))] 1 = mkF m 0 #[.val (.int (1 : Int32))] [] from by first | (simp [entryFrame, mkF, argsToLocals, Value.category]; done) | rfl) ?_
  have wd0 := wd
  obtain ⟨S_w_DEFAULT, E_w_DEFAULT, S_w_ENDING, E_w_ENDING, S_w_EXACT, E_w_EXACT, S_w_REGEX, E_w_REGEX, S_w_STARTING, E_w_STARTING, S_w_CONTAINING, E_w_CONTAINING, S_w_FALSE, E_w_FALSE, S_w_TRUE, E_w_TRUE, F_value_w_FALSE, F_value_w_TRUE⟩ := wd
  have wd := wd0
  have N : Fr Z.heap.size [] := Fr.nil _
  have KK : Keep h0 h0 [] := Keep.refl h0 []
  refine q_iloadN (pc' := 1) X hx (hb hby d_jdk_2055_method_5_code_0) rfl rfl ?_
  refine q_ifNo (pc' := 4) X hx (hb hby d_jdk_2055_method_5_code_1) (by decide) rfl ?_
  refine q_getS (pc' := 7) X hx hZ hown (hb hby d_jdk_2055_method_5_code_4) (host := "") (Or.inl (t74 hw)) eT (S_w_TRUE.ext O) rfl ?_
  intro T X eT
  refine q_goto (pc' := 13) X hx (hb hby d_jdk_2055_method_5_code_7) (by decide) (by decide) ?_
  refine Run.retR X hx hlk hret (hb hby d_jdk_2055_method_5_code_13) rfl rfl (by decide) (by decide) ?_
  try rw [eT]
  exact ⟨rfl, rfl, rfl⟩
theorem pd_7 : parseMethodDescriptor "(Z)Ljava/lang/Boolean;" = some ⟨[.boolean], some (.object "java/lang/Boolean")⟩ := by decide +kernel
theorem d_prog_4_method_12_code_12 : decode prog_4_method_12_code 12 = .ok (.invokespecial 1, 3) := by decide +kernel
set_option maxRecDepth 65536 in
set_option maxHeartbeats 40000000 in
theorem c12_init {l : Launch} {Z : State} {a0 : Array Value} (hw : ∀ d ∈ tables_1, d.before a0 Z = true) {w_DEFAULT : Addr} {w_ENDING : Addr} {w_EXACT : Addr} {w_REGEX : Addr} {w_STARTING : Addr} {w_CONTAINING : Addr} {w_FALSE : Addr} {w_TRUE : Addr} (wd : World Z w_DEFAULT w_ENDING w_EXACT w_REGEX w_STARTING w_CONTAINING w_FALSE w_TRUE)  {h0 : Heap} (O : Ext Z.heap h0) {o0 : Addr} (E_o0 : Exa Z h0 o0 "com/example/wicker_store/wickerstore/ExampleMatcher$GenericPropertyMatcher") (F_stringMatcher_o0 : Fld Z h0 o0 "com/example/wicker_store/wickerstore/ExampleMatcher$GenericPropertyMatcher" "stringMatcher" "Lcom/example/wicker_store/wickerstore/ExampleMatcher$StringMatcher;" .null) (F_ignoringCase_o0 : Fld Z h0 o0 "com/example/wicker_store/wickerstore/ExampleMatcher$GenericPropertyMatcher" "ignoringCase" "Ljava/lang/Boolean;" .null) (g_o0 : Z.heap.size ≤ o0) :
    Ctr l Z y1 prog_4_method_2_code 3 none ({ frames := 1, cells := 0, slots := 0, locals := 12 } : Room) #[(.ref o0), .null, (.ref w_TRUE)] h0 (fun v h L => v = none ∧ Fr Z.heap.size L ∧ Keep h0 h [o0] ∧ Exa Z h o0 "com/example/wicker_store/wickerstore/ExampleMatcher$GenericPropertyMatcher" ∧ Fld Z h o0 "com/example/wicker_store/wickerstore/ExampleMatcher$GenericPropertyMatcher" "stringMatcher" "Lcom/example/wicker_store/wickerstore/ExampleMatcher$StringMatcher;" .null ∧ Fld Z h o0 "com/example/wicker_store/wickerstore/ExampleMatcher$GenericPropertyMatcher" "ignoringCase" "Ljava/lang/Boolean;" (.ref w_TRUE)) := by
  refine Ctr.body (plainFor_of_name pn_1) ?_
  intro p e s m below meth c T X hx hby hml hown hnm hret hlk hZ eT
  have hml : c.maxLocals = 3 := hml
  have hown : s.vm.findClass "com/example/wicker_store/wickerstore/ExampleMatcher$GenericPropertyMatcher" = some m.cls := hown
  have hnm : meth.name = "<init>" := hnm
  have hret : meth.sig.returnType = none := hret
  refine Run.cast (show entryFrame m #[(.ref o0), .null, (.ref w_TRUE)] 3 = mkF m 0 #[.val (.ref o0), .val .null, .val (.ref w_TRUE)] [] from by first | (simp [entryFrame, mkF, argsToLocals, Value.category]; done) | rfl) ?_
  have wd0 := wd
  obtain ⟨S_w_DEFAULT, E_w_DEFAULT, S_w_ENDING, E_w_ENDING, S_w_EXACT, E_w_EXACT, S_w_REGEX, E_w_REGEX, S_w_STARTING, E_w_STARTING, S_w_CONTAINING, E_w_CONTAINING, S_w_FALSE, E_w_FALSE, S_w_TRUE, E_w_TRUE, F_value_w_FALSE, F_value_w_TRUE⟩ := wd
  have wd := wd0
  have N : Fr Z.heap.size [] := Fr.nil _
  have KK : Keep h0 h0 [o0] := Keep.refl h0 [o0]
  refine q_aloadN (pc' := 1) X hx (hb hby d_prog_4_method_2_code_0) rfl rfl rfl ?_
  refine q_initO (pc' := 4) X hx hZ hown (hb hby d_prog_4_method_2_code_1) (t19 hw) (t20 hw) (t21 hw) eT (by rw [hml]; rfl) (by decide) (W := 0) rfl (by decide) rfl ?_
  intro T X eT
  refine q_aloadN (pc' := 5) X hx (hb hby d_prog_4_method_2_code_4) rfl rfl rfl ?_
  refine q_aloadN (pc' := 6) X hx (hb hby d_prog_4_method_2_code_5) rfl rfl rfl ?_
  refine q_putF (pc' := 9) X hx hZ hown (hb hby d_prog_4_method_2_code_6) (host := "") (Or.inl (t22 hw)) eT F_stringMatcher_o0 E_o0 (Or.inr ⟨(t23 hw), rfl, hnm⟩) (t11 hw) (ty := (.object "com/example/wicker_store/wickerstore/ExampleMatcher$StringMatcher")) (by decide) rfl rfl rfl ?_
  intro T h_1 X eT Wx
  have N := Fr.snoc X N g_o0
  have O := ext_wr O Wx g_o0
  have KK := KK.wr Wx (Or.inl (List.mem_of_getElem? (i := 0) rfl))
  have E_o0 := E_o0.wr Wx
  have F_stringMatcher_o0 := F_stringMatcher_o0.same Wx
  have F_ignoringCase_o0 := F_ignoringCase_o0.other Wx (Or.inr (slot_ne (Or.inr (t25 hw)) (Or.inr (t23 hw)) (by decide) (t := (.object "java/lang/Boolean")) (t' := (.object "com/example/wicker_store/wickerstore/ExampleMatcher$StringMatcher")) (by decide) (by decide)))
  refine q_aloadN (pc' := 10) X hx (hb hby d_prog_4_method_2_code_9) rfl rfl rfl ?_
  refine q_aloadN (pc' := 11) X hx (hb hby d_prog_4_method_2_code_10) rfl rfl rfl ?_
  refine q_putF (pc' := 14) X hx hZ hown (hb hby d_prog_4_method_2_code_11) (host := "") (Or.inl (t24 hw)) eT F_ignoringCase_o0 E_o0 (Or.inr ⟨(t25 hw), rfl, hnm⟩) (t11 hw) (ty := (.object "java/lang/Boolean")) (by decide) rfl rfl rfl ?_
  intro T h_2 X eT Wx
  have N := Fr.snoc X N g_o0
  have O := ext_wr O Wx g_o0
  have KK := KK.wr Wx (Or.inl (List.mem_of_getElem? (i := 0) rfl))
  have E_o0 := E_o0.wr Wx
  have F_stringMatcher_o0 := F_stringMatcher_o0.other Wx (Or.inr (slot_ne (Or.inr (t23 hw)) (Or.inr (t25 hw)) (by decide) (t := (.object "com/example/wicker_store/wickerstore/ExampleMatcher$StringMatcher")) (t' := (.object "java/lang/Boolean")) (by decide) (by decide)))
  have F_ignoringCase_o0 := F_ignoringCase_o0.same Wx
  refine Run.retV X hx hlk hret (hb hby d_prog_4_method_2_code_14) (by decide) (by decide) ?_
  try rw [eT]
  exact ⟨rfl, N, KK, E_o0, F_stringMatcher_o0, F_ignoringCase_o0⟩
theorem d_prog_4_method_12_code_15 : decode prog_4_method_12_code 15 = .ok (.areturn, 1) := by decide +kernel
set_option maxRecDepth 65536 in
set_option maxHeartbeats 40000000 in
theorem c10_ignoreCase {l : Launch} {Z : State} {a0 : Array Value} (hw : ∀ d ∈ tables_1, d.before a0 Z = true) {w_DEFAULT : Addr} {w_ENDING : Addr} {w_EXACT : Addr} {w_REGEX : Addr} {w_STARTING : Addr} {w_CONTAINING : Addr} {w_FALSE : Addr} {w_TRUE : Addr} (wd : World Z w_DEFAULT w_ENDING w_EXACT w_REGEX w_STARTING w_CONTAINING w_FALSE w_TRUE)  {h0 : Heap} (O : Ext Z.heap h0) {o0 : Addr} (E_o0 : Exa Z h0 o0 "com/example/wicker_store/wickerstore/ExampleMatcher$GenericPropertyMatcher") (F_stringMatcher_o0 : Fld Z h0 o0 "com/example/wicker_store/wickerstore/ExampleMatcher$GenericPropertyMatcher" "stringMatcher" "Lcom/example/wicker_store/wickerstore/ExampleMatcher$StringMatcher;" .null) (F_ignoringCase_o0 : Fld Z h0 o0 "com/example/wicker_store/wickerstore/ExampleMatcher$GenericPropertyMatcher" "ignoringCase" "Ljava/lang/Boolean;" .null) :
    Ctr l Z y8 prog_4_method_12_code 2 (some (.object "com/example/wicker_store/wickerstore/ExampleMatcher$GenericPropertyMatcher")) ({ frames := 2, cells := 1, slots := 2, locals := 27 } : Room) #[(.ref o0), (.int (1 : Int32))] h0 (fun v h L => ∃ (b0_0 : Addr), v = some (.ref b0_0) ∧ Fr Z.heap.size L ∧ Keep h0 h [] ∧ h0.size ≤ b0_0 ∧ Exa Z h b0_0 "com/example/wicker_store/wickerstore/ExampleMatcher$GenericPropertyMatcher" ∧ Fld Z h b0_0 "com/example/wicker_store/wickerstore/ExampleMatcher$GenericPropertyMatcher" "stringMatcher" "Lcom/example/wicker_store/wickerstore/ExampleMatcher$StringMatcher;" .null ∧ Fld Z h b0_0 "com/example/wicker_store/wickerstore/ExampleMatcher$GenericPropertyMatcher" "ignoringCase" "Ljava/lang/Boolean;" (.ref w_TRUE)) := by
  refine Ctr.body (plainFor_of_name pn_1) ?_
  intro p e s m below meth c T X hx hby hml hown hnm hret hlk hZ eT
  have hml : c.maxLocals = 2 := hml
  have hown : s.vm.findClass "com/example/wicker_store/wickerstore/ExampleMatcher$GenericPropertyMatcher" = some m.cls := hown
  have hnm : meth.name = "ignoreCase" := hnm
  have hret : meth.sig.returnType = (some (.object "com/example/wicker_store/wickerstore/ExampleMatcher$GenericPropertyMatcher")) := hret
  refine Run.cast (show entryFrame m #[(.ref o0), (.int (1 : Int32))] 2 = mkF m 0 #[.val (.ref o0), .val (.int (1 : Int32))] [] from by first | (simp [entryFrame, mkF, argsToLocals, Value.category]; done) | rfl) ?_
  have wd0 := wd
  obtain ⟨S_w_DEFAULT, E_w_DEFAULT, S_w_ENDING, E_w_ENDING, S_w_EXACT, E_w_EXACT, S_w_REGEX, E_w_REGEX, S_w_STARTING, E_w_STARTING, S_w_CONTAINING, E_w_CONTAINING, S_w_FALSE, E_w_FALSE, S_w_TRUE, E_w_TRUE, F_value_w_FALSE, F_value_w_TRUE⟩ := wd
  have wd := wd0
  have N : Fr Z.heap.size [] := Fr.nil _
  have KK : Keep h0 h0 [] := Keep.refl h0 []
  refine q_new (pc' := 3) X hx hZ hown (hb hby d_prog_4_method_12_code_0) (t31 hw) (t11 hw) (t12 hw) eT (by decide) (by decide) rfl ?_
  intro T h_1 b0_0 X eT Ex gb Ax Dx
  have ne_o0_b0_0 : o0 ≠ b0_0 := Nat.ne_of_lt (Nat.lt_of_lt_of_le E_o0.lt (Nat.le_of_eq gb.symm))
  have g_b0_0 : Z.heap.size ≤ b0_0 := Nat.le_trans O.1 (Nat.le_of_eq gb.symm)
  have sz_b0_0 : h0.size ≤ b0_0 := Nat.le_trans KK.1 (Nat.le_of_eq gb.symm)
  have KK := KK.ext Ex
  have O := ext_trans O Ex
  have E_o0 := E_o0.ext Ex
  have F_stringMatcher_o0 := F_stringMatcher_o0.ext Ex
  have F_ignoringCase_o0 := F_ignoringCase_o0.ext Ex
  have E_b0_0 := Ax
  have F_stringMatcher_b0_0 : Fld Z h_1 b0_0 "com/example/wicker_store/wickerstore/ExampleMatcher$GenericPropertyMatcher" "stringMatcher" "Lcom/example/wicker_store/wickerstore/ExampleMatcher$StringMatcher;" .null := Dx (Or.inr (t23 hw)) (ty := (.object "com/example/wicker_store/wickerstore/ExampleMatcher$StringMatcher")) (by decide)
  have F_ignoringCase_b0_0 : Fld Z h_1 b0_0 "com/example/wicker_store/wickerstore/ExampleMatcher$GenericPropertyMatcher" "ignoringCase" "Ljava/lang/Boolean;" .null := Dx (Or.inr (t25 hw)) (ty := (.object "java/lang/Boolean")) (by decide)
  refine q_dup (pc' := 4) X hx (hb hby d_prog_4_method_12_code_3) rfl rfl ?_
  refine q_aloadN (pc' := 5) X hx (hb hby d_prog_4_method_12_code_4) rfl rfl rfl ?_
  refine q_getF (pc' := 8) X hx hZ hown (hb hby d_prog_4_method_12_code_5) (host := "") (Or.inl (t22 hw)) eT F_stringMatcher_o0 rfl ?_
  intro T X eT
  refine q_iloadN (pc' := 9) X hx (hb hby d_prog_4_method_12_code_8) rfl rfl ?_
  refine q_callC (pc' := 12) (y := y7) (rest := [.null, (.ref b0_0), (.ref b0_0)]) X hx hZ hown (hb hby d_prog_4_method_12_code_9) (t51 hw) (t52 hw) (t53 hw) (t54 hw) (by decide) eT [(.int (1 : Int32))] (c11_valueOf hw wd  O) (by rw [hml]; rfl) (lenOf pd_7 rfl) (W := 3) rfl (by decide) (by decide) (by decide) (by decide) rfl ?_
  rintro _ T _ X ⟨rfl, rfl, eT⟩
  rw [List.append_nil] at X
  show Run p e below _ (T.setTop (mkF m 12 _ [(.ref w_TRUE), .null, (.ref b0_0), (.ref b0_0)]))
  refine q_callN (pc' := 15) (y := y1) (rest := [(.ref b0_0)]) (b := b0_0) X hx hZ hown (hb hby d_prog_4_method_12_code_12) rfl (t16 hw) (t17 hw) (t12 hw) (t18 hw) (by decide) eT [.null, (.ref w_TRUE)] (c12_init hw wd  O E_b0_0 F_stringMatcher_b0_0 F_ignoringCase_b0_0 g_b0_0) (by rw [hml]; rfl) (lenOf pd_1 rfl) (W := 1) rfl (by decide) (by decide) (by decide) (by decide) rfl ?_
  rintro _ T _ X ⟨rfl, NL, KL, E_b0_0, F_stringMatcher_b0_0, F_ignoringCase_b0_0⟩
  have N := N.app NL
  obtain ⟨h_3, eT⟩ : ∃ z, T.heap = z := ⟨_, rfl⟩
  rw [eT] at KL E_b0_0 F_stringMatcher_b0_0 F_ignoringCase_b0_0
  have O := ext_keep O KL (allS g_b0_0 all0)
  have KK := KK.trans KL (allS (Or.inr sz_b0_0) all0)
  have E_o0 := E_o0.keep KL
  have F_stringMatcher_o0 := F_stringMatcher_o0.keep KL (ninS ne_o0_b0_0 nin0)
  have F_ignoringCase_o0 := F_ignoringCase_o0.keep KL (ninS ne_o0_b0_0 nin0)
  show Run p e below _ (T.setTop (mkF m 15 _ [(.ref b0_0)]))
  refine Run.retR X hx hlk hret (hb hby d_prog_4_method_12_code_15) rfl rfl (by decide) (by decide) ?_
  try rw [eT]
  exact ⟨b0_0, rfl, N, KK, sz_b0_0, E_b0_0, F_stringMatcher_b0_0, F_ignoringCase_b0_0⟩
theorem pd_8 : parseMethodDescriptor "(Z)Lcom/example/wicker_store/wickerstore/ExampleMatcher$GenericPropertyMatcher;" = some ⟨[.boolean], some (.object "com/example/wicker_store/wickerstore/ExampleMatcher$GenericPropertyMatcher")⟩ := by decide +kernel
set_option maxRecDepth 65536 in
set_option maxHeartbeats 40000000 in
theorem c13_getIgnoreCase {l : Launch} {Z : State} {a0 : Array Value} (hw : ∀ d ∈ tables_1, d.before a0 Z = true) {w_DEFAULT : Addr} {w_ENDING : Addr} {w_EXACT : Addr} {w_REGEX : Addr} {w_STARTING : Addr} {w_CONTAINING : Addr} {w_FALSE : Addr} {w_TRUE : Addr} (wd : World Z w_DEFAULT w_ENDING w_EXACT w_REGEX w_STARTING w_CONTAINING w_FALSE w_TRUE)  {h0 : Heap} (O : Ext Z.heap h0) {o0 : Addr} (E_o0 : Exa Z h0 o0 "com/example/wicker_store/wickerstore/ExampleMatcher$GenericPropertyMatcher") (F_stringMatcher_o0 : Fld Z h0 o0 "com/example/wicker_store/wickerstore/ExampleMatcher$GenericPropertyMatcher" "stringMatcher" "Lcom/example/wicker_store/wickerstore/ExampleMatcher$StringMatcher;" .null) (F_ignoringCase_o0 : Fld Z h0 o0 "com/example/wicker_store/wickerstore/ExampleMatcher$GenericPropertyMatcher" "ignoringCase" "Ljava/lang/Boolean;" (.ref w_TRUE)) :
    Ctr l Z y3 prog_4_method_15_code 1 (some (.object "java/lang/Boolean")) ({ frames := 0, cells := 0, slots := 0, locals := 0 } : Room) #[(.ref o0)] h0 (fun v h L => v = some (.ref w_TRUE) ∧ L = [] ∧ h = h0) := by
  refine Ctr.body (plainFor_of_name pn_1) ?_
  intro p e s m below meth c T X hx hby hml hown hnm hret hlk hZ eT
  have hml : c.maxLocals = 1 := hml
  have hown : s.vm.findClass "com/example/wicker_store/wickerstore/ExampleMatcher$GenericPropertyMatcher" = some m.cls := hown
  have hnm : meth.name = "getIgnoreCase" := hnm
  have hret : meth.sig.returnType = (some (.object "java/lang/Boolean")) := hret
  refine Run.cast (show entryFrame m #[(.ref o0)] 1 = mkF m 0 #[.val (.ref o0)] [] from by first | (simp [entryFrame, mkF, argsToLocals, Value.category]; done) | rfl) ?_
  have wd0 := wd
  obtain ⟨S_w_DEFAULT, E_w_DEFAULT, S_w_ENDING, E_w_ENDING, S_w_EXACT, E_w_EXACT, S_w_REGEX, E_w_REGEX, S_w_STARTING, E_w_STARTING, S_w_CONTAINING, E_w_CONTAINING, S_w_FALSE, E_w_FALSE, S_w_TRUE, E_w_TRUE, F_value_w_FALSE, F_value_w_TRUE⟩ := wd
  have wd := wd0
  have N : Fr Z.heap.size [] := Fr.nil _
  have KK : Keep h0 h0 [] := Keep.refl h0 []
  refine q_aloadN (pc' := 1) X hx (hb hby d_prog_4_method_15_code_0) rfl rfl rfl ?_
  refine q_getF (pc' := 4) X hx hZ hown (hb hby d_prog_4_method_15_code_1) (host := "") (Or.inl (t24 hw)) eT F_ignoringCase_o0 rfl ?_
  intro T X eT
  refine Run.retR X hx hlk hret (hb hby d_prog_4_method_15_code_4) rfl rfl (by decide) (by decide) ?_
  try rw [eT]
  exact ⟨rfl, rfl, rfl⟩
set_option maxRecDepth 65536 in
set_option maxHeartbeats 40000000 in
theorem c14_getStringMatcher {l : Launch} {Z : State} {a0 : Array Value} (hw : ∀ d ∈ tables_1, d.before a0 Z = true) {w_DEFAULT : Addr} {w_ENDING : Addr} {w_EXACT : Addr} {w_REGEX : Addr} {w_STARTING : Addr} {w_CONTAINING : Addr} {w_FALSE : Addr} {w_TRUE : Addr} (wd : World Z w_DEFAULT w_ENDING w_EXACT w_REGEX w_STARTING w_CONTAINING w_FALSE w_TRUE)  {h0 : Heap} (O : Ext Z.heap h0) {o0 : Addr} (E_o0 : Exa Z h0 o0 "com/example/wicker_store/wickerstore/ExampleMatcher$GenericPropertyMatcher") (F_stringMatcher_o0 : Fld Z h0 o0 "com/example/wicker_store/wickerstore/ExampleMatcher$GenericPropertyMatcher" "stringMatcher" "Lcom/example/wicker_store/wickerstore/ExampleMatcher$StringMatcher;" .null) (F_ignoringCase_o0 : Fld Z h0 o0 "com/example/wicker_store/wickerstore/ExampleMatcher$GenericPropertyMatcher" "ignoringCase" "Ljava/lang/Boolean;" (.ref w_TRUE)) :
    Ctr l Z y4 prog_4_method_14_code 1 (some (.object "com/example/wicker_store/wickerstore/ExampleMatcher$StringMatcher")) ({ frames := 0, cells := 0, slots := 0, locals := 0 } : Room) #[(.ref o0)] h0 (fun v h L => v = some .null ∧ L = [] ∧ h = h0) := by
  refine Ctr.body (plainFor_of_name pn_1) ?_
  intro p e s m below meth c T X hx hby hml hown hnm hret hlk hZ eT
  have hml : c.maxLocals = 1 := hml
  have hown : s.vm.findClass "com/example/wicker_store/wickerstore/ExampleMatcher$GenericPropertyMatcher" = some m.cls := hown
  have hnm : meth.name = "getStringMatcher" := hnm
  have hret : meth.sig.returnType = (some (.object "com/example/wicker_store/wickerstore/ExampleMatcher$StringMatcher")) := hret
  refine Run.cast (show entryFrame m #[(.ref o0)] 1 = mkF m 0 #[.val (.ref o0)] [] from by first | (simp [entryFrame, mkF, argsToLocals, Value.category]; done) | rfl) ?_
  have wd0 := wd
  obtain ⟨S_w_DEFAULT, E_w_DEFAULT, S_w_ENDING, E_w_ENDING, S_w_EXACT, E_w_EXACT, S_w_REGEX, E_w_REGEX, S_w_STARTING, E_w_STARTING, S_w_CONTAINING, E_w_CONTAINING, S_w_FALSE, E_w_FALSE, S_w_TRUE, E_w_TRUE, F_value_w_FALSE, F_value_w_TRUE⟩ := wd
  have wd := wd0
  have N : Fr Z.heap.size [] := Fr.nil _
  have KK : Keep h0 h0 [] := Keep.refl h0 []
  refine q_aloadN (pc' := 1) X hx (hb hby d_prog_4_method_14_code_0) rfl rfl rfl ?_
  refine q_getF (pc' := 4) X hx hZ hown (hb hby d_prog_4_method_14_code_1) (host := "") (Or.inl (t22 hw)) eT F_stringMatcher_o0 rfl ?_
  intro T X eT
  refine Run.retR X hx hlk hret (hb hby d_prog_4_method_14_code_4) rfl rfl (by decide) (by decide) ?_
  try rw [eT]
  exact ⟨rfl, rfl, rfl⟩
set_option maxRecDepth 65536 in
set_option maxHeartbeats 40000000 in
theorem c16_init {l : Launch} {Z : State} {a0 : Array Value} (hw : ∀ d ∈ tables_1, d.before a0 Z = true) {w_DEFAULT : Addr} {w_ENDING : Addr} {w_EXACT : Addr} {w_REGEX : Addr} {w_STARTING : Addr} {w_CONTAINING : Addr} {w_FALSE : Addr} {w_TRUE : Addr} (wd : World Z w_DEFAULT w_ENDING w_EXACT w_REGEX w_STARTING w_CONTAINING w_FALSE w_TRUE)  {h0 : Heap} (O : Ext Z.heap h0) {o0 : Addr} {o1 : Addr} (E_o1 : Exa Z h0 o1 "com/example/wicker_store/wickerstore/ExampleMatcher$StringMatcher") (E_o0 : Exa Z h0 o0 "com/example/wicker_store/wickerstore/ExampleMatcher$GenericPropertyMatcher") (F_stringMatcher_o0 : Fld Z h0 o0 "com/example/wicker_store/wickerstore/ExampleMatcher$GenericPropertyMatcher" "stringMatcher" "Lcom/example/wicker_store/wickerstore/ExampleMatcher$StringMatcher;" .null) (F_ignoringCase_o0 : Fld Z h0 o0 "com/example/wicker_store/wickerstore/ExampleMatcher$GenericPropertyMatcher" "ignoringCase" "Ljava/lang/Boolean;" .null) (g_o0 : Z.heap.size ≤ o0) :
    Ctr l Z y1 prog_4_method_2_code 3 none ({ frames := 1, cells := 0, slots := 0, locals := 12 } : Room) #[(.ref o0), (.ref o1), (.ref w_TRUE)] h0 (fun v h L => v = none ∧ Fr Z.heap.size L ∧ Keep h0 h [o0] ∧ Exa Z h o0 "com/example/wicker_store/wickerstore/ExampleMatcher$GenericPropertyMatcher" ∧ Fld Z h o0 "com/example/wicker_store/wickerstore/ExampleMatcher$GenericPropertyMatcher" "stringMatcher" "Lcom/example/wicker_store/wickerstore/ExampleMatcher$StringMatcher;" (.ref o1) ∧ Fld Z h o0 "com/example/wicker_store/wickerstore/ExampleMatcher$GenericPropertyMatcher" "ignoringCase" "Ljava/lang/Boolean;" (.ref w_TRUE)) := by
  refine Ctr.body (plainFor_of_name pn_1) ?_
  intro p e s m below meth c T X hx hby hml hown hnm hret hlk hZ eT
  have hml : c.maxLocals = 3 := hml
  have hown : s.vm.findClass "com/example/wicker_store/wickerstore/ExampleMatcher$GenericPropertyMatcher" = some m.cls := hown
  have hnm : meth.name = "<init>" := hnm
  have hret : meth.sig.returnType = none := hret
  refine Run.cast (show entryFrame m #[(.ref o0), (.ref o1), (.ref w_TRUE)] 3 = mkF m 0 #[.val (.ref o0), .val (.ref o1), .val (.ref w_TRUE)] [] from by first | (simp [entryFrame, mkF, argsToLocals, Value.category]; done) | rfl) ?_
  have wd0 := wd
  obtain ⟨S_w_DEFAULT, E_w_DEFAULT, S_w_ENDING, E_w_ENDING, S_w_EXACT, E_w_EXACT, S_w_REGEX, E_w_REGEX, S_w_STARTING, E_w_STARTING, S_w_CONTAINING, E_w_CONTAINING, S_w_FALSE, E_w_FALSE, S_w_TRUE, E_w_TRUE, F_value_w_FALSE, F_value_w_TRUE⟩ := wd
  have wd := wd0
  have N : Fr Z.heap.size [] := Fr.nil _
  have KK : Keep h0 h0 [o0] := Keep.refl h0 [o0]
  refine q_aloadN (pc' := 1) X hx (hb hby d_prog_4_method_2_code_0) rfl rfl rfl ?_
  refine q_initO (pc' := 4) X hx hZ hown (hb hby d_prog_4_method_2_code_1) (t19 hw) (t20 hw) (t21 hw) eT (by rw [hml]; rfl) (by decide) (W := 0) rfl (by decide) rfl ?_
  intro T X eT
  refine q_aloadN (pc' := 5) X hx (hb hby d_prog_4_method_2_code_4) rfl rfl rfl ?_
  refine q_aloadN (pc' := 6) X hx (hb hby d_prog_4_method_2_code_5) rfl rfl rfl ?_
  refine q_putF (pc' := 9) X hx hZ hown (hb hby d_prog_4_method_2_code_6) (host := "") (Or.inl (t22 hw)) eT F_stringMatcher_o0 E_o0 (Or.inr ⟨(t23 hw), rfl, hnm⟩) (t11 hw) (ty := (.object "com/example/wicker_store/wickerstore/ExampleMatcher$StringMatcher")) (by decide) rfl rfl rfl ?_
  intro T h_1 X eT Wx
  have N := Fr.snoc X N g_o0
  have O := ext_wr O Wx g_o0
  have KK := KK.wr Wx (Or.inl (List.mem_of_getElem? (i := 0) rfl))
  have E_o1 := E_o1.wr Wx
  have E_o0 := E_o0.wr Wx
  have F_stringMatcher_o0 := F_stringMatcher_o0.same Wx
  have F_ignoringCase_o0 := F_ignoringCase_o0.other Wx (Or.inr (slot_ne (Or.inr (t25 hw)) (Or.inr (t23 hw)) (by decide) (t := (.object "java/lang/Boolean")) (t' := (.object "com/example/wicker_store/wickerstore/ExampleMatcher$StringMatcher")) (by decide) (by decide)))
  refine q_aloadN (pc' := 10) X hx (hb hby d_prog_4_method_2_code_9) rfl rfl rfl ?_
  refine q_aloadN (pc' := 11) X hx (hb hby d_prog_4_method_2_code_10) rfl rfl rfl ?_
  refine q_putF (pc' := 14) X hx hZ hown (hb hby d_prog_4_method_2_code_11) (host := "") (Or.inl (t24 hw)) eT F_ignoringCase_o0 E_o0 (Or.inr ⟨(t25 hw), rfl, hnm⟩) (t11 hw) (ty := (.object "java/lang/Boolean")) (by decide) rfl rfl rfl ?_
  intro T h_2 X eT Wx
  have N := Fr.snoc X N g_o0
  have O := ext_wr O Wx g_o0
  have KK := KK.wr Wx (Or.inl (List.mem_of_getElem? (i := 0) rfl))
  have E_o1 := E_o1.wr Wx
  have E_o0 := E_o0.wr Wx
  have F_stringMatcher_o0 := F_stringMatcher_o0.other Wx (Or.inr (slot_ne (Or.inr (t23 hw)) (Or.inr (t25 hw)) (by decide) (t := (.object "com/example/wicker_store/wickerstore/ExampleMatcher$StringMatcher")) (t' := (.object "java/lang/Boolean")) (by decide) (by decide)))
  have F_ignoringCase_o0 := F_ignoringCase_o0.same Wx
  refine Run.retV X hx hlk hret (hb hby d_prog_4_method_2_code_14) (by decide) (by decide) ?_
  try rw [eT]
  exact ⟨rfl, N, KK, E_o0, F_stringMatcher_o0, F_ignoringCase_o0⟩
set_option maxRecDepth 65536 in
set_option maxHeartbeats 40000000 in
theorem c15_stringMatcher {l : Launch} {Z : State} {a0 : Array Value} (hw : ∀ d ∈ tables_1, d.before a0 Z = true) {w_DEFAULT : Addr} {w_ENDING : Addr} {w_EXACT : Addr} {w_REGEX : Addr} {w_STARTING : Addr} {w_CONTAINING : Addr} {w_FALSE : Addr} {w_TRUE : Addr} (wd : World Z w_DEFAULT w_ENDING w_EXACT w_REGEX w_STARTING w_CONTAINING w_FALSE w_TRUE)  {h0 : Heap} (O : Ext Z.heap h0) {o0 : Addr} {o1 : Addr} (E_o1 : Exa Z h0 o1 "com/example/wicker_store/wickerstore/ExampleMatcher$StringMatcher") (E_o0 : Exa Z h0 o0 "com/example/wicker_store/wickerstore/ExampleMatcher$GenericPropertyMatcher") (F_stringMatcher_o0 : Fld Z h0 o0 "com/example/wicker_store/wickerstore/ExampleMatcher$GenericPropertyMatcher" "stringMatcher" "Lcom/example/wicker_store/wickerstore/ExampleMatcher$StringMatcher;" .null) (F_ignoringCase_o0 : Fld Z h0 o0 "com/example/wicker_store/wickerstore/ExampleMatcher$GenericPropertyMatcher" "ignoringCase" "Ljava/lang/Boolean;" (.ref w_TRUE)) :
    CtrW l Z y6 prog_4_method_10_code 2 (some (.object "com/example/wicker_store/wickerstore/ExampleMatcher$GenericPropertyMatcher")) ({ frames := 2, cells := 3, slots := 62, locals := 27 } : Room) #[(.ref o0), (.ref o1)] h0 (fun v h L => ∃ (b0_0 : Addr), v = some (.ref b0_0) ∧ Fr Z.heap.size L ∧ Keep h0 h [] ∧ h0.size ≤ b0_0 ∧ Exa Z h b0_0 "com/example/wicker_store/wickerstore/ExampleMatcher$GenericPropertyMatcher" ∧ Fld Z h b0_0 "com/example/wicker_store/wickerstore/ExampleMatcher$GenericPropertyMatcher" "stringMatcher" "Lcom/example/wicker_store/wickerstore/ExampleMatcher$StringMatcher;" (.ref o1) ∧ Fld Z h b0_0 "com/example/wicker_store/wickerstore/ExampleMatcher$GenericPropertyMatcher" "ignoringCase" "Ljava/lang/Boolean;" (.ref w_TRUE)) := by
  refine CtrW.body (plainFor_of_name pn_1) ?_
  intro p e s m below meth c T vm kS X hx hby hml hown hnm hret hlk hZ eT hS hk
  have hml : c.maxLocals = 2 := hml
  have hown : (s.setVm vm).vm.findClass "com/example/wicker_store/wickerstore/ExampleMatcher$GenericPropertyMatcher" = some m.cls := hown
  have hnm : meth.name = "stringMatcher" := hnm
  have hret : meth.sig.returnType = (some (.object "com/example/wicker_store/wickerstore/ExampleMatcher$GenericPropertyMatcher")) := hret
  refine Run.cast (show entryFrame m #[(.ref o0), (.ref o1)] 2 = mkF m 0 #[.val (.ref o0), .val (.ref o1)] [] from by first | (simp [entryFrame, mkF, argsToLocals, Value.category]; done) | rfl) ?_
  have wd0 := wd
  obtain ⟨S_w_DEFAULT, E_w_DEFAULT, S_w_ENDING, E_w_ENDING, S_w_EXACT, E_w_EXACT, S_w_REGEX, E_w_REGEX, S_w_STARTING, E_w_STARTING, S_w_CONTAINING, E_w_CONTAINING, S_w_FALSE, E_w_FALSE, S_w_TRUE, E_w_TRUE, F_value_w_FALSE, F_value_w_TRUE⟩ := wd
  have wd := wd0
  have N : Fr Z.heap.size [] := Fr.nil _
  have KK : Keep h0 h0 [] := Keep.refl h0 []
  refine q_new (pc' := 3) X hx hZ hown (hb hby d_prog_4_method_10_code_0) (t31 hw) (t11 hw) (t12 hw) eT (by decide) (by decide) rfl ?_
  intro T h_1 b0_0 X eT Ex gb Ax Dx
  have ne_o0_b0_0 : o0 ≠ b0_0 := Nat.ne_of_lt (Nat.lt_of_lt_of_le E_o0.lt (Nat.le_of_eq gb.symm))
  have ne_o1_b0_0 : o1 ≠ b0_0 := Nat.ne_of_lt (Nat.lt_of_lt_of_le E_o1.lt (Nat.le_of_eq gb.symm))
  have g_b0_0 : Z.heap.size ≤ b0_0 := Nat.le_trans O.1 (Nat.le_of_eq gb.symm)
  have sz_b0_0 : h0.size ≤ b0_0 := Nat.le_trans KK.1 (Nat.le_of_eq gb.symm)
  have KK := KK.ext Ex
  have O := ext_trans O Ex
  have hk := Nat.le_trans hk Ex.1
  have E_o1 := E_o1.ext Ex
  have E_o0 := E_o0.ext Ex
  have F_stringMatcher_o0 := F_stringMatcher_o0.ext Ex
  have F_ignoringCase_o0 := F_ignoringCase_o0.ext Ex
  have E_b0_0 := Ax
  have F_stringMatcher_b0_0 : Fld Z h_1 b0_0 "com/example/wicker_store/wickerstore/ExampleMatcher$GenericPropertyMatcher" "stringMatcher" "Lcom/example/wicker_store/wickerstore/ExampleMatcher$StringMatcher;" .null := Dx (Or.inr (t23 hw)) (ty := (.object "com/example/wicker_store/wickerstore/ExampleMatcher$StringMatcher")) (by decide)
  have F_ignoringCase_b0_0 : Fld Z h_1 b0_0 "com/example/wicker_store/wickerstore/ExampleMatcher$GenericPropertyMatcher" "ignoringCase" "Ljava/lang/Boolean;" .null := Dx (Or.inr (t25 hw)) (ty := (.object "java/lang/Boolean")) (by decide)
  refine q_dup (pc' := 4) X hx (hb hby d_prog_4_method_10_code_3) rfl rfl ?_
  refine q_aloadN (pc' := 5) X hx (hb hby d_prog_4_method_10_code_4) rfl rfl rfl ?_
  refine q_ldcS (pc' := 7) X hx hZ hown hS hk (hb hby d_prog_4_method_10_code_5) (t32 hw) (own_strings hw) eT (n := 56) (by decide) (by decide) (by decide) (by decide) rfl ?_
  intro str_2 T h_2 kS X eT Ex hS hk hZ hown
  have KK := KK.ext Ex
  have O := ext_trans O Ex
  have E_o1 := E_o1.ext Ex
  have E_o0 := E_o0.ext Ex
  have F_stringMatcher_o0 := F_stringMatcher_o0.ext Ex
  have F_ignoringCase_o0 := F_ignoringCase_o0.ext Ex
  have E_b0_0 := E_b0_0.ext Ex
  have F_stringMatcher_b0_0 := F_stringMatcher_b0_0.ext Ex
  have F_ignoringCase_b0_0 := F_ignoringCase_b0_0.ext Ex
  refine q_callC (pc' := 10) (y := y5) (rest := [(.ref b0_0), (.ref b0_0)]) X hx hZ hown (hb hby d_prog_4_method_10_code_7) (t40 hw) (t41 hw) (t42 hw) (t43 hw) (by decide) eT [(.ref o1), (.ref str_2)] (c6_requireNonNull hw wd  O E_o1) (by rw [hml]; rfl) (lenOf pd_5 rfl) (W := 2) rfl (by decide) (by decide) (by decide) (by decide) rfl ?_
  rintro _ T _ X ⟨rfl, rfl, eT⟩
  rw [List.append_nil] at X
  show Run p e below _ (T.setTop (mkF m 10 _ [(.ref o1), (.ref b0_0), (.ref b0_0)]))
  refine q_cast (pc' := 13) X hx hZ hown (hb hby d_prog_4_method_10_code_10) (t44 hw) eT (Or.inr ⟨_, rfl, Ins.self E_o1⟩) rfl ?_
  intro T X eT
  refine q_aloadN (pc' := 14) X hx (hb hby d_prog_4_method_10_code_13) rfl rfl rfl ?_
  refine q_getF (pc' := 17) X hx hZ hown (hb hby d_prog_4_method_10_code_14) (host := "") (Or.inl (t24 hw)) eT F_ignoringCase_o0 rfl ?_
  intro T X eT
  refine q_callN (pc' := 20) (y := y1) (rest := [(.ref b0_0)]) (b := b0_0) X hx hZ hown (hb hby d_prog_4_method_10_code_17) rfl (t16 hw) (t17 hw) (t12 hw) (t18 hw) (by decide) eT [(.ref o1), (.ref w_TRUE)] (c16_init hw wd  O E_o1 E_b0_0 F_stringMatcher_b0_0 F_ignoringCase_b0_0 g_b0_0) (by rw [hml]; rfl) (lenOf pd_1 rfl) (W := 1) rfl (by decide) (by decide) (by decide) (by decide) rfl ?_
  rintro _ T _ X ⟨rfl, NL, KL, E_b0_0, F_stringMatcher_b0_0, F_ignoringCase_b0_0⟩
  have N := N.app NL
  obtain ⟨h_4, eT⟩ : ∃ z, T.heap = z := ⟨_, rfl⟩
  rw [eT] at KL E_b0_0 F_stringMatcher_b0_0 F_ignoringCase_b0_0
  have O := ext_keep O KL (allS g_b0_0 all0)
  have KK := KK.trans KL (allS (Or.inr sz_b0_0) all0)
  have hk := Nat.le_trans hk KL.1
  have E_o1 := E_o1.keep KL
  have E_o0 := E_o0.keep KL
  have F_stringMatcher_o0 := F_stringMatcher_o0.keep KL (ninS ne_o0_b0_0 nin0)
  have F_ignoringCase_o0 := F_ignoringCase_o0.keep KL (ninS ne_o0_b0_0 nin0)
  show Run p e below _ (T.setTop (mkF m 20 _ [(.ref b0_0)]))
  refine Run.retRW X hx hlk hS (by rw [eT]; exact hk) hret (hb hby d_prog_4_method_10_code_20) rfl rfl (by decide) (by decide) ?_
  try rw [eT]
  exact ⟨b0_0, rfl, N, KK, sz_b0_0, E_b0_0, F_stringMatcher_b0_0, F_ignoringCase_b0_0⟩
set_option maxRecDepth 65536 in
set_option maxHeartbeats 40000000 in
theorem c17_getStringMatcher {l : Launch} {Z : State} {a0 : Array Value} (hw : ∀ d ∈ tables_1, d.before a0 Z = true) {w_DEFAULT : Addr} {w_ENDING : Addr} {w_EXACT : Addr} {w_REGEX : Addr} {w_STARTING : Addr} {w_CONTAINING : Addr} {w_FALSE : Addr} {w_TRUE : Addr} (wd : World Z w_DEFAULT w_ENDING w_EXACT w_REGEX w_STARTING w_CONTAINING w_FALSE w_TRUE)  {h0 : Heap} (O : Ext Z.heap h0) {o0 : Addr} {o1 : Addr} (E_o1 : Exa Z h0 o1 "com/example/wicker_store/wickerstore/ExampleMatcher$StringMatcher") (E_o0 : Exa Z h0 o0 "com/example/wicker_store/wickerstore/ExampleMatcher$GenericPropertyMatcher") (F_stringMatcher_o0 : Fld Z h0 o0 "com/example/wicker_store/wickerstore/ExampleMatcher$GenericPropertyMatcher" "stringMatcher" "Lcom/example/wicker_store/wickerstore/ExampleMatcher$StringMatcher;" (.ref o1)) (F_ignoringCase_o0 : Fld Z h0 o0 "com/example/wicker_store/wickerstore/ExampleMatcher$GenericPropertyMatcher" "ignoringCase" "Ljava/lang/Boolean;" (.ref w_TRUE)) :
    Ctr l Z y4 prog_4_method_14_code 1 (some (.object "com/example/wicker_store/wickerstore/ExampleMatcher$StringMatcher")) ({ frames := 0, cells := 0, slots := 0, locals := 0 } : Room) #[(.ref o0)] h0 (fun v h L => v = some (.ref o1) ∧ L = [] ∧ h = h0) := by
  refine Ctr.body (plainFor_of_name pn_1) ?_
  intro p e s m below meth c T X hx hby hml hown hnm hret hlk hZ eT
  have hml : c.maxLocals = 1 := hml
  have hown : s.vm.findClass "com/example/wicker_store/wickerstore/ExampleMatcher$GenericPropertyMatcher" = some m.cls := hown
  have hnm : meth.name = "getStringMatcher" := hnm
  have hret : meth.sig.returnType = (some (.object "com/example/wicker_store/wickerstore/ExampleMatcher$StringMatcher")) := hret
  refine Run.cast (show entryFrame m #[(.ref o0)] 1 = mkF m 0 #[.val (.ref o0)] [] from by first | (simp [entryFrame, mkF, argsToLocals, Value.category]; done) | rfl) ?_
  have wd0 := wd
  obtain ⟨S_w_DEFAULT, E_w_DEFAULT, S_w_ENDING, E_w_ENDING, S_w_EXACT, E_w_EXACT, S_w_REGEX, E_w_REGEX, S_w_STARTING, E_w_STARTING, S_w_CONTAINING, E_w_CONTAINING, S_w_FALSE, E_w_FALSE, S_w_TRUE, E_w_TRUE, F_value_w_FALSE, F_value_w_TRUE⟩ := wd
  have wd := wd0
  have N : Fr Z.heap.size [] := Fr.nil _
  have KK : Keep h0 h0 [] := Keep.refl h0 []
  refine q_aloadN (pc' := 1) X hx (hb hby d_prog_4_method_14_code_0) rfl rfl rfl ?_
  refine q_getF (pc' := 4) X hx hZ hown (hb hby d_prog_4_method_14_code_1) (host := "") (Or.inl (t22 hw)) eT F_stringMatcher_o0 rfl ?_
  intro T X eT
  refine Run.retR X hx hlk hret (hb hby d_prog_4_method_14_code_4) rfl rfl (by decide) (by decide) ?_
  try rw [eT]
  exact ⟨rfl, rfl, rfl⟩
set_option maxRecDepth 65536 in
set_option maxHeartbeats 40000000 in
theorem c18_getIgnoreCase {l : Launch} {Z : State} {a0 : Array Value} (hw : ∀ d ∈ tables_1, d.before a0 Z = true) {w_DEFAULT : Addr} {w_ENDING : Addr} {w_EXACT : Addr} {w_REGEX : Addr} {w_STARTING : Addr} {w_CONTAINING : Addr} {w_FALSE : Addr} {w_TRUE : Addr} (wd : World Z w_DEFAULT w_ENDING w_EXACT w_REGEX w_STARTING w_CONTAINING w_FALSE w_TRUE)  {h0 : Heap} (O : Ext Z.heap h0) {o0 : Addr} {o1 : Addr} (E_o1 : Exa Z h0 o1 "com/example/wicker_store/wickerstore/ExampleMatcher$StringMatcher") (E_o0 : Exa Z h0 o0 "com/example/wicker_store/wickerstore/ExampleMatcher$GenericPropertyMatcher") (F_stringMatcher_o0 : Fld Z h0 o0 "com/example/wicker_store/wickerstore/ExampleMatcher$GenericPropertyMatcher" "stringMatcher" "Lcom/example/wicker_store/wickerstore/ExampleMatcher$StringMatcher;" (.ref o1)) (F_ignoringCase_o0 : Fld Z h0 o0 "com/example/wicker_store/wickerstore/ExampleMatcher$GenericPropertyMatcher" "ignoringCase" "Ljava/lang/Boolean;" (.ref w_TRUE)) :
    Ctr l Z y3 prog_4_method_15_code 1 (some (.object "java/lang/Boolean")) ({ frames := 0, cells := 0, slots := 0, locals := 0 } : Room) #[(.ref o0)] h0 (fun v h L => v = some (.ref w_TRUE) ∧ L = [] ∧ h = h0) := by
  refine Ctr.body (plainFor_of_name pn_1) ?_
  intro p e s m below meth c T X hx hby hml hown hnm hret hlk hZ eT
  have hml : c.maxLocals = 1 := hml
  have hown : s.vm.findClass "com/example/wicker_store/wickerstore/ExampleMatcher$GenericPropertyMatcher" = some m.cls := hown
  have hnm : meth.name = "getIgnoreCase" := hnm
  have hret : meth.sig.returnType = (some (.object "java/lang/Boolean")) := hret
  refine Run.cast (show entryFrame m #[(.ref o0)] 1 = mkF m 0 #[.val (.ref o0)] [] from by first | (simp [entryFrame, mkF, argsToLocals, Value.category]; done) | rfl) ?_
  have wd0 := wd
  obtain ⟨S_w_DEFAULT, E_w_DEFAULT, S_w_ENDING, E_w_ENDING, S_w_EXACT, E_w_EXACT, S_w_REGEX, E_w_REGEX, S_w_STARTING, E_w_STARTING, S_w_CONTAINING, E_w_CONTAINING, S_w_FALSE, E_w_FALSE, S_w_TRUE, E_w_TRUE, F_value_w_FALSE, F_value_w_TRUE⟩ := wd
  have wd := wd0
  have N : Fr Z.heap.size [] := Fr.nil _
  have KK : Keep h0 h0 [] := Keep.refl h0 []
  refine q_aloadN (pc' := 1) X hx (hb hby d_prog_4_method_15_code_0) rfl rfl rfl ?_
  refine q_getF (pc' := 4) X hx hZ hown (hb hby d_prog_4_method_15_code_1) (host := "") (Or.inl (t24 hw)) eT F_ignoringCase_o0 rfl ?_
  intro T X eT
  refine Run.retR X hx hlk hret (hb hby d_prog_4_method_15_code_4) rfl rfl (by decide) (by decide) ?_
  try rw [eT]
  exact ⟨rfl, rfl, rfl⟩
theorem d_jdk_2055_method_5_code_10 : decode jdk_2055_method_5_code 10 = .ok (.getstatic 31, 3) := by decide +kernel
set_option maxRecDepth 65536 in
set_option maxHeartbeats 40000000 in
theorem c20_valueOf {l : Launch} {Z : State} {a0 : Array Value} (hw : ∀ d ∈ tables_1, d.before a0 Z = true) {w_DEFAULT : Addr} {w_ENDING : Addr} {w_EXACT : Addr} {w_REGEX : Addr} {w_STARTING : Addr} {w_CONTAINING : Addr} {w_FALSE : Addr} {w_TRUE : Addr} (wd : World Z w_DEFAULT w_ENDING w_EXACT w_REGEX w_STARTING w_CONTAINING w_FALSE w_TRUE)  {h0 : Heap} (O : Ext Z.heap h0)  :
    Ctr l Z y7 jdk_2055_method_5_code 1 (some (.object "java/lang/Boolean")) ({ frames := 0, cells := 0, slots := 0, locals := 0 } : Room) #[(.int (0 : Int32))] h0 (fun v h L => v = some (.ref w_FALSE) ∧ L = [] ∧ h = h0) := by
  refine Ctr.body (plainFor_of_name pn_3) ?_
  intro p e s m below meth c T X hx hby hml hown hnm hret hlk hZ eT
  have hml : c.maxLocals = 1 := hml
  have hown : s.vm.findClass "java/lang/Boolean" = some m.cls := hown
  have hnm : meth.name = "valueOf" := hnm
  have hret : meth.sig.returnType = (some (.object "java/lang/Boolean")) := hret
  refine Run.cast (show entryFrame m #[(.int (0 : Int32))] 1 = mkF m 0 #[.val (.int (0 : Int32))] [] from by first | (simp [entryFrame, mkF, argsToLocals, Value.category]; done) | rfl) ?_
  have wd0 := wd
  obtain ⟨S_w_DEFAULT, E_w_DEFAULT, S_w_ENDING, E_w_ENDING, S_w_EXACT, E_w_EXACT, S_w_REGEX, E_w_REGEX, S_w_STARTING, E_w_STARTING, S_w_CONTAINING, E_w_CONTAINING, S_w_FALSE, E_w_FALSE, S_w_TRUE, E_w_TRUE, F_value_w_FALSE, F_value_w_TRUE⟩ := wd
  have wd := wd0
  have N : Fr Z.heap.size [] := Fr.nil _
  have KK : Keep h0 h0 [] := Keep.refl h0 []
  refine q_iloadN (pc' := 1) X hx (hb hby d_jdk_2055_method_5_code_0) rfl rfl ?_
  refine q_ifYes (pc' := 10) X hx (hb hby d_jdk_2055_method_5_code_1) (by decide) (by decide) (by decide) ?_
  refine q_getS (pc' := 13) X hx hZ hown (hb hby d_jdk_2055_method_5_code_10) (host := "") (Or.inl (t55 hw)) eT (S_w_FALSE.ext O) rfl ?_
  intro T X eT
  refine Run.retR X hx hlk hret (hb hby d_jdk_2055_method_5_code_13) rfl rfl (by decide) (by decide) ?_
  try rw [eT]
  exact ⟨rfl, rfl, rfl⟩
set_option maxRecDepth 65536 in
set_option maxHeartbeats 40000000 in
theorem c21_init {l : Launch} {Z : State} {a0 : Array Value} (hw : ∀ d ∈ tables_1, d.before a0 Z = true) {w_DEFAULT : Addr} {w_ENDING : Addr} {w_EXACT : Addr} {w_REGEX : Addr} {w_STARTING : Addr} {w_CONTAINING : Addr} {w_FALSE : Addr} {w_TRUE : Addr} (wd : World Z w_DEFAULT w_ENDING w_EXACT w_REGEX w_STARTING w_CONTAINING w_FALSE w_TRUE)  {h0 : Heap} (O : Ext Z.heap h0) {o0 : Addr} (E_o0 : Exa Z h0 o0 "com/example/wicker_store/wickerstore/ExampleMatcher$GenericPropertyMatcher") (F_stringMatcher_o0 : Fld Z h0 o0 "com/example/wicker_store/wickerstore/ExampleMatcher$GenericPropertyMatcher" "stringMatcher" "Lcom/example/wicker_store/wickerstore/ExampleMatcher$StringMatcher;" .null) (F_ignoringCase_o0 : Fld Z h0 o0 "com/example/wicker_store/wickerstore/ExampleMatcher$GenericPropertyMatcher" "ignoringCase" "Ljava/lang/Boolean;" .null) (g_o0 : Z.heap.size ≤ o0) :
    Ctr l Z y1 prog_4_method_2_code 3 none ({ frames := 1, cells := 0, slots := 0, locals := 12 } : Room) #[(.ref o0), .null, (.ref w_FALSE)] h0 (fun v h L => v = none ∧ Fr Z.heap.size L ∧ Keep h0 h [o0] ∧ Exa Z h o0 "com/example/wicker_store/wickerstore/ExampleMatcher$GenericPropertyMatcher" ∧ Fld Z h o0 "com/example/wicker_store/wickerstore/ExampleMatcher$GenericPropertyMatcher" "stringMatcher" "Lcom/example/wicker_store/wickerstore/ExampleMatcher$StringMatcher;" .null ∧ Fld Z h o0 "com/example/wicker_store/wickerstore/ExampleMatcher$GenericPropertyMatcher" "ignoringCase" "Ljava/lang/Boolean;" (.ref w_FALSE)) := by
  refine Ctr.body (plainFor_of_name pn_1) ?_
  intro p e s m below meth c T X hx hby hml hown hnm hret hlk hZ eT
  have hml : c.maxLocals = 3 := hml
  have hown : s.vm.findClass "com/example/wicker_store/wickerstore/ExampleMatcher$GenericPropertyMatcher" = some m.cls := hown
  have hnm : meth.name = "<init>" := hnm
  have hret : meth.sig.returnType = none := hret
  refine Run.cast (show entryFrame m #[(.ref o0), .null, (.ref w_FALSE)] 3 = mkF m 0 #[.val (.ref o0), .val .null, .val (.ref w_FALSE)] [] from by first | (simp [entryFrame, mkF, argsToLocals, Value.category]; done) | rfl) ?_
  have wd0 := wd
  obtain ⟨S_w_DEFAULT, E_w_DEFAULT, S_w_ENDING, E_w_ENDING, S_w_EXACT, E_w_EXACT, S_w_REGEX, E_w_REGEX, S_w_STARTING, E_w_STARTING, S_w_CONTAINING, E_w_CONTAINING, S_w_FALSE, E_w_FALSE, S_w_TRUE, E_w_TRUE, F_value_w_FALSE, F_value_w_TRUE⟩ := wd
  have wd := wd0
  have N : Fr Z.heap.size [] := Fr.nil _
  have KK : Keep h0 h0 [o0] := Keep.refl h0 [o0]
  refine q_aloadN (pc' := 1) X hx (hb hby d_prog_4_method_2_code_0) rfl rfl rfl ?_
  refine q_initO (pc' := 4) X hx hZ hown (hb hby d_prog_4_method_2_code_1) (t19 hw) (t20 hw) (t21 hw) eT (by rw [hml]; rfl) (by decide) (W := 0) rfl (by decide) rfl ?_
  intro T X eT
  refine q_aloadN (pc' := 5) X hx (hb hby d_prog_4_method_2_code_4) rfl rfl rfl ?_
  refine q_aloadN (pc' := 6) X hx (hb hby d_prog_4_method_2_code_5) rfl rfl rfl ?_
  refine q_putF (pc' := 9) X hx hZ hown (hb hby d_prog_4_method_2_code_6) (host := "") (Or.inl (t22 hw)) eT F_stringMatcher_o0 E_o0 (Or.inr ⟨(t23 hw), rfl, hnm⟩) (t11 hw) (ty := (.object "com/example/wicker_store/wickerstore/ExampleMatcher$StringMatcher")) (by decide) rfl rfl rfl ?_
  intro T h_1 X eT Wx
  have N := Fr.snoc X N g_o0
  have O := ext_wr O Wx g_o0
  have KK := KK.wr Wx (Or.inl (List.mem_of_getElem? (i := 0) rfl))
  have E_o0 := E_o0.wr Wx
  have F_stringMatcher_o0 := F_stringMatcher_o0.same Wx
  have F_ignoringCase_o0 := F_ignoringCase_o0.other Wx (Or.inr (slot_ne (Or.inr (t25 hw)) (Or.inr (t23 hw)) (by decide) (t := (.object "java/lang/Boolean")) (t' := (.object "com/example/wicker_store/wickerstore/ExampleMatcher$StringMatcher")) (by decide) (by decide)))
  refine q_aloadN (pc' := 10) X hx (hb hby d_prog_4_method_2_code_9) rfl rfl rfl ?_
  refine q_aloadN (pc' := 11) X hx (hb hby d_prog_4_method_2_code_10) rfl rfl rfl ?_
  refine q_putF (pc' := 14) X hx hZ hown (hb hby d_prog_4_method_2_code_11) (host := "") (Or.inl (t24 hw)) eT F_ignoringCase_o0 E_o0 (Or.inr ⟨(t25 hw), rfl, hnm⟩) (t11 hw) (ty := (.object "java/lang/Boolean")) (by decide) rfl rfl rfl ?_
  intro T h_2 X eT Wx
  have N := Fr.snoc X N g_o0
  have O := ext_wr O Wx g_o0
  have KK := KK.wr Wx (Or.inl (List.mem_of_getElem? (i := 0) rfl))
  have E_o0 := E_o0.wr Wx
  have F_stringMatcher_o0 := F_stringMatcher_o0.other Wx (Or.inr (slot_ne (Or.inr (t23 hw)) (Or.inr (t25 hw)) (by decide) (t := (.object "com/example/wicker_store/wickerstore/ExampleMatcher$StringMatcher")) (t' := (.object "java/lang/Boolean")) (by decide) (by decide)))
  have F_ignoringCase_o0 := F_ignoringCase_o0.same Wx
  refine Run.retV X hx hlk hret (hb hby d_prog_4_method_2_code_14) (by decide) (by decide) ?_
  try rw [eT]
  exact ⟨rfl, N, KK, E_o0, F_stringMatcher_o0, F_ignoringCase_o0⟩
set_option maxRecDepth 65536 in
set_option maxHeartbeats 40000000 in
theorem c19_ignoreCase {l : Launch} {Z : State} {a0 : Array Value} (hw : ∀ d ∈ tables_1, d.before a0 Z = true) {w_DEFAULT : Addr} {w_ENDING : Addr} {w_EXACT : Addr} {w_REGEX : Addr} {w_STARTING : Addr} {w_CONTAINING : Addr} {w_FALSE : Addr} {w_TRUE : Addr} (wd : World Z w_DEFAULT w_ENDING w_EXACT w_REGEX w_STARTING w_CONTAINING w_FALSE w_TRUE)  {h0 : Heap} (O : Ext Z.heap h0) {o0 : Addr} (E_o0 : Exa Z h0 o0 "com/example/wicker_store/wickerstore/ExampleMatcher$GenericPropertyMatcher") (F_stringMatcher_o0 : Fld Z h0 o0 "com/example/wicker_store/wickerstore/ExampleMatcher$GenericPropertyMatcher" "stringMatcher" "Lcom/example/wicker_store/wickerstore/ExampleMatcher$StringMatcher;" .null) (F_ignoringCase_o0 : Fld Z h0 o0 "com/example/wicker_store/wickerstore/ExampleMatcher$GenericPropertyMatcher" "ignoringCase" "Ljava/lang/Boolean;" .null) :
    Ctr l Z y8 prog_4_method_12_code 2 (some (.object "com/example/wicker_store/wickerstore/ExampleMatcher$GenericPropertyMatcher")) ({ frames := 2, cells := 1, slots := 2, locals := 27 } : Room) #[(.ref o0), (.int (0 : Int32))] h0 (fun v h L => ∃ (b0_0 : Addr), v = some (.ref b0_0) ∧ Fr Z.heap.size L ∧ Keep h0 h [] ∧ h0.size ≤ b0_0 ∧ Exa Z h b0_0 "com/example/wicker_store/wickerstore/ExampleMatcher$GenericPropertyMatcher" ∧ Fld Z h b0_0 "com/example/wicker_store/wickerstore/ExampleMatcher$GenericPropertyMatcher" "stringMatcher" "Lcom/example/wicker_store/wickerstore/ExampleMatcher$StringMatcher;" .null ∧ Fld Z h b0_0 "com/example/wicker_store/wickerstore/ExampleMatcher$GenericPropertyMatcher" "ignoringCase" "Ljava/lang/Boolean;" (.ref w_FALSE)) := by
  refine Ctr.body (plainFor_of_name pn_1) ?_
  intro p e s m below meth c T X hx hby hml hown hnm hret hlk hZ eT
  have hml : c.maxLocals = 2 := hml
  have hown : s.vm.findClass "com/example/wicker_store/wickerstore/ExampleMatcher$GenericPropertyMatcher" = some m.cls := hown
  have hnm : meth.name = "ignoreCase" := hnm
  have hret : meth.sig.returnType = (some (.object "com/example/wicker_store/wickerstore/ExampleMatcher$GenericPropertyMatcher")) := hret
  refine Run.cast (show entryFrame m #[(.ref o0), (.int (0 : Int32))] 2 = mkF m 0 #[.val (.ref o0), .val (.int (0 : Int32))] [] from by first | (simp [entryFrame, mkF, argsToLocals, Value.category]; done) | rfl) ?_
  have wd0 := wd
  obtain ⟨S_w_DEFAULT, E_w_DEFAULT, S_w_ENDING, E_w_ENDING, S_w_EXACT, E_w_EXACT, S_w_REGEX, E_w_REGEX, S_w_STARTING, E_w_STARTING, S_w_CONTAINING, E_w_CONTAINING, S_w_FALSE, E_w_FALSE, S_w_TRUE, E_w_TRUE, F_value_w_FALSE, F_value_w_TRUE⟩ := wd
  have wd := wd0
  have N : Fr Z.heap.size [] := Fr.nil _
  have KK : Keep h0 h0 [] := Keep.refl h0 []
  refine q_new (pc' := 3) X hx hZ hown (hb hby d_prog_4_method_12_code_0) (t31 hw) (t11 hw) (t12 hw) eT (by decide) (by decide) rfl ?_
  intro T h_1 b0_0 X eT Ex gb Ax Dx
  have ne_o0_b0_0 : o0 ≠ b0_0 := Nat.ne_of_lt (Nat.lt_of_lt_of_le E_o0.lt (Nat.le_of_eq gb.symm))
  have g_b0_0 : Z.heap.size ≤ b0_0 := Nat.le_trans O.1 (Nat.le_of_eq gb.symm)
  have sz_b0_0 : h0.size ≤ b0_0 := Nat.le_trans KK.1 (Nat.le_of_eq gb.symm)
  have KK := KK.ext Ex
  have O := ext_trans O Ex
  have E_o0 := E_o0.ext Ex
  have F_stringMatcher_o0 := F_stringMatcher_o0.ext Ex
  have F_ignoringCase_o0 := F_ignoringCase_o0.ext Ex
  have E_b0_0 := Ax
  have F_stringMatcher_b0_0 : Fld Z h_1 b0_0 "com/example/wicker_store/wickerstore/ExampleMatcher$GenericPropertyMatcher" "stringMatcher" "Lcom/example/wicker_store/wickerstore/ExampleMatcher$StringMatcher;" .null := Dx (Or.inr (t23 hw)) (ty := (.object "com/example/wicker_store/wickerstore/ExampleMatcher$StringMatcher")) (by decide)
  have F_ignoringCase_b0_0 : Fld Z h_1 b0_0 "com/example/wicker_store/wickerstore/ExampleMatcher$GenericPropertyMatcher" "ignoringCase" "Ljava/lang/Boolean;" .null := Dx (Or.inr (t25 hw)) (ty := (.object "java/lang/Boolean")) (by decide)
  refine q_dup (pc' := 4) X hx (hb hby d_prog_4_method_12_code_3) rfl rfl ?_
  refine q_aloadN (pc' := 5) X hx (hb hby d_prog_4_method_12_code_4) rfl rfl rfl ?_
  refine q_getF (pc' := 8) X hx hZ hown (hb hby d_prog_4_method_12_code_5) (host := "") (Or.inl (t22 hw)) eT F_stringMatcher_o0 rfl ?_
  intro T X eT
  refine q_iloadN (pc' := 9) X hx (hb hby d_prog_4_method_12_code_8) rfl rfl ?_
  refine q_callC (pc' := 12) (y := y7) (rest := [.null, (.ref b0_0), (.ref b0_0)]) X hx hZ hown (hb hby d_prog_4_method_12_code_9) (t51 hw) (t52 hw) (t53 hw) (t54 hw) (by decide) eT [(.int (0 : Int32))] (c20_valueOf hw wd  O) (by rw [hml]; rfl) (lenOf pd_7 rfl) (W := 3) rfl (by decide) (by decide) (by decide) (by decide) rfl ?_
  rintro _ T _ X ⟨rfl, rfl, eT⟩
  rw [List.append_nil] at X
  show Run p e below _ (T.setTop (mkF m 12 _ [(.ref w_FALSE), .null, (.ref b0_0), (.ref b0_0)]))
  refine q_callN (pc' := 15) (y := y1) (rest := [(.ref b0_0)]) (b := b0_0) X hx hZ hown (hb hby d_prog_4_method_12_code_12) rfl (t16 hw) (t17 hw) (t12 hw) (t18 hw) (by decide) eT [.null, (.ref w_FALSE)] (c21_init hw wd  O E_b0_0 F_stringMatcher_b0_0 F_ignoringCase_b0_0 g_b0_0) (by rw [hml]; rfl) (lenOf pd_1 rfl) (W := 1) rfl (by decide) (by decide) (by decide) (by decide) rfl ?_
  rintro _ T _ X ⟨rfl, NL, KL, E_b0_0, F_stringMatcher_b0_0, F_ignoringCase_b0_0⟩
  have N := N.app NL
  obtain ⟨h_3, eT⟩ : ∃ z, T.heap = z := ⟨_, rfl⟩
  rw [eT] at KL E_b0_0 F_stringMatcher_b0_0 F_ignoringCase_b0_0
  have O := ext_keep O KL (allS g_b0_0 all0)
  have KK := KK.trans KL (allS (Or.inr sz_b0_0) all0)
  have E_o0 := E_o0.keep KL
  have F_stringMatcher_o0 := F_stringMatcher_o0.keep KL (ninS ne_o0_b0_0 nin0)
  have F_ignoringCase_o0 := F_ignoringCase_o0.keep KL (ninS ne_o0_b0_0 nin0)
  show Run p e below _ (T.setTop (mkF m 15 _ [(.ref b0_0)]))
  refine Run.retR X hx hlk hret (hb hby d_prog_4_method_12_code_15) rfl rfl (by decide) (by decide) ?_
  try rw [eT]
  exact ⟨b0_0, rfl, N, KK, sz_b0_0, E_b0_0, F_stringMatcher_b0_0, F_ignoringCase_b0_0⟩
set_option maxRecDepth 65536 in
set_option maxHeartbeats 40000000 in
theorem c22_getIgnoreCase {l : Launch} {Z : State} {a0 : Array Value} (hw : ∀ d ∈ tables_1, d.before a0 Z = true) {w_DEFAULT : Addr} {w_ENDING : Addr} {w_EXACT : Addr} {w_REGEX : Addr} {w_STARTING : Addr} {w_CONTAINING : Addr} {w_FALSE : Addr} {w_TRUE : Addr} (wd : World Z w_DEFAULT w_ENDING w_EXACT w_REGEX w_STARTING w_CONTAINING w_FALSE w_TRUE)  {h0 : Heap} (O : Ext Z.heap h0) {o0 : Addr} (E_o0 : Exa Z h0 o0 "com/example/wicker_store/wickerstore/ExampleMatcher$GenericPropertyMatcher") (F_stringMatcher_o0 : Fld Z h0 o0 "com/example/wicker_store/wickerstore/ExampleMatcher$GenericPropertyMatcher" "stringMatcher" "Lcom/example/wicker_store/wickerstore/ExampleMatcher$StringMatcher;" .null) (F_ignoringCase_o0 : Fld Z h0 o0 "com/example/wicker_store/wickerstore/ExampleMatcher$GenericPropertyMatcher" "ignoringCase" "Ljava/lang/Boolean;" (.ref w_FALSE)) :
    Ctr l Z y3 prog_4_method_15_code 1 (some (.object "java/lang/Boolean")) ({ frames := 0, cells := 0, slots := 0, locals := 0 } : Room) #[(.ref o0)] h0 (fun v h L => v = some (.ref w_FALSE) ∧ L = [] ∧ h = h0) := by
  refine Ctr.body (plainFor_of_name pn_1) ?_
  intro p e s m below meth c T X hx hby hml hown hnm hret hlk hZ eT
  have hml : c.maxLocals = 1 := hml
  have hown : s.vm.findClass "com/example/wicker_store/wickerstore/ExampleMatcher$GenericPropertyMatcher" = some m.cls := hown
  have hnm : meth.name = "getIgnoreCase" := hnm
  have hret : meth.sig.returnType = (some (.object "java/lang/Boolean")) := hret
  refine Run.cast (show entryFrame m #[(.ref o0)] 1 = mkF m 0 #[.val (.ref o0)] [] from by first | (simp [entryFrame, mkF, argsToLocals, Value.category]; done) | rfl) ?_
  have wd0 := wd
  obtain ⟨S_w_DEFAULT, E_w_DEFAULT, S_w_ENDING, E_w_ENDING, S_w_EXACT, E_w_EXACT, S_w_REGEX, E_w_REGEX, S_w_STARTING, E_w_STARTING, S_w_CONTAINING, E_w_CONTAINING, S_w_FALSE, E_w_FALSE, S_w_TRUE, E_w_TRUE, F_value_w_FALSE, F_value_w_TRUE⟩ := wd
  have wd := wd0
  have N : Fr Z.heap.size [] := Fr.nil _
  have KK : Keep h0 h0 [] := Keep.refl h0 []
  refine q_aloadN (pc' := 1) X hx (hb hby d_prog_4_method_15_code_0) rfl rfl rfl ?_
  refine q_getF (pc' := 4) X hx hZ hown (hb hby d_prog_4_method_15_code_1) (host := "") (Or.inl (t24 hw)) eT F_ignoringCase_o0 rfl ?_
  intro T X eT
  refine Run.retR X hx hlk hret (hb hby d_prog_4_method_15_code_4) rfl rfl (by decide) (by decide) ?_
  try rw [eT]
  exact ⟨rfl, rfl, rfl⟩
set_option maxRecDepth 65536 in
set_option maxHeartbeats 40000000 in
theorem c23_getStringMatcher {l : Launch} {Z : State} {a0 : Array Value} (hw : ∀ d ∈ tables_1, d.before a0 Z = true) {w_DEFAULT : Addr} {w_ENDING : Addr} {w_EXACT : Addr} {w_REGEX : Addr} {w_STARTING : Addr} {w_CONTAINING : Addr} {w_FALSE : Addr} {w_TRUE : Addr} (wd : World Z w_DEFAULT w_ENDING w_EXACT w_REGEX w_STARTING w_CONTAINING w_FALSE w_TRUE)  {h0 : Heap} (O : Ext Z.heap h0) {o0 : Addr} (E_o0 : Exa Z h0 o0 "com/example/wicker_store/wickerstore/ExampleMatcher$GenericPropertyMatcher") (F_stringMatcher_o0 : Fld Z h0 o0 "com/example/wicker_store/wickerstore/ExampleMatcher$GenericPropertyMatcher" "stringMatcher" "Lcom/example/wicker_store/wickerstore/ExampleMatcher$StringMatcher;" .null) (F_ignoringCase_o0 : Fld Z h0 o0 "com/example/wicker_store/wickerstore/ExampleMatcher$GenericPropertyMatcher" "ignoringCase" "Ljava/lang/Boolean;" (.ref w_FALSE)) :
    Ctr l Z y4 prog_4_method_14_code 1 (some (.object "com/example/wicker_store/wickerstore/ExampleMatcher$StringMatcher")) ({ frames := 0, cells := 0, slots := 0, locals := 0 } : Room) #[(.ref o0)] h0 (fun v h L => v = some .null ∧ L = [] ∧ h = h0) := by
  refine Ctr.body (plainFor_of_name pn_1) ?_
  intro p e s m below meth c T X hx hby hml hown hnm hret hlk hZ eT
  have hml : c.maxLocals = 1 := hml
  have hown : s.vm.findClass "com/example/wicker_store/wickerstore/ExampleMatcher$GenericPropertyMatcher" = some m.cls := hown
  have hnm : meth.name = "getStringMatcher" := hnm
  have hret : meth.sig.returnType = (some (.object "com/example/wicker_store/wickerstore/ExampleMatcher$StringMatcher")) := hret
  refine Run.cast (show entryFrame m #[(.ref o0)] 1 = mkF m 0 #[.val (.ref o0)] [] from by first | (simp [entryFrame, mkF, argsToLocals, Value.category]; done) | rfl) ?_
  have wd0 := wd
  obtain ⟨S_w_DEFAULT, E_w_DEFAULT, S_w_ENDING, E_w_ENDING, S_w_EXACT, E_w_EXACT, S_w_REGEX, E_w_REGEX, S_w_STARTING, E_w_STARTING, S_w_CONTAINING, E_w_CONTAINING, S_w_FALSE, E_w_FALSE, S_w_TRUE, E_w_TRUE, F_value_w_FALSE, F_value_w_TRUE⟩ := wd
  have wd := wd0
  have N : Fr Z.heap.size [] := Fr.nil _
  have KK : Keep h0 h0 [] := Keep.refl h0 []
  refine q_aloadN (pc' := 1) X hx (hb hby d_prog_4_method_14_code_0) rfl rfl rfl ?_
  refine q_getF (pc' := 4) X hx hZ hown (hb hby d_prog_4_method_14_code_1) (host := "") (Or.inl (t22 hw)) eT F_stringMatcher_o0 rfl ?_
  intro T X eT
  refine Run.retR X hx hlk hret (hb hby d_prog_4_method_14_code_4) rfl rfl (by decide) (by decide) ?_
  try rw [eT]
  exact ⟨rfl, rfl, rfl⟩
set_option maxRecDepth 65536 in
set_option maxHeartbeats 40000000 in
theorem c25_init {l : Launch} {Z : State} {a0 : Array Value} (hw : ∀ d ∈ tables_1, d.before a0 Z = true) {w_DEFAULT : Addr} {w_ENDING : Addr} {w_EXACT : Addr} {w_REGEX : Addr} {w_STARTING : Addr} {w_CONTAINING : Addr} {w_FALSE : Addr} {w_TRUE : Addr} (wd : World Z w_DEFAULT w_ENDING w_EXACT w_REGEX w_STARTING w_CONTAINING w_FALSE w_TRUE)  {h0 : Heap} (O : Ext Z.heap h0) {o0 : Addr} {o1 : Addr} (E_o1 : Exa Z h0 o1 "com/example/wicker_store/wickerstore/ExampleMatcher$StringMatcher") (E_o0 : Exa Z h0 o0 "com/example/wicker_store/wickerstore/ExampleMatcher$GenericPropertyMatcher") (F_stringMatcher_o0 : Fld Z h0 o0 "com/example/wicker_store/wickerstore/ExampleMatcher$GenericPropertyMatcher" "stringMatcher" "Lcom/example/wicker_store/wickerstore/ExampleMatcher$StringMatcher;" .null) (F_ignoringCase_o0 : Fld Z h0 o0 "com/example/wicker_store/wickerstore/ExampleMatcher$GenericPropertyMatcher" "ignoringCase" "Ljava/lang/Boolean;" .null) (g_o0 : Z.heap.size ≤ o0) :
    Ctr l Z y1 prog_4_method_2_code 3 none ({ frames := 1, cells := 0, slots := 0, locals := 12 } : Room) #[(.ref o0), (.ref o1), (.ref w_FALSE)] h0 (fun v h L => v = none ∧ Fr Z.heap.size L ∧ Keep h0 h [o0] ∧ Exa Z h o0 "com/example/wicker_store/wickerstore/ExampleMatcher$GenericPropertyMatcher" ∧ Fld Z h o0 "com/example/wicker_store/wickerstore/ExampleMatcher$GenericPropertyMatcher" "stringMatcher" "Lcom/example/wicker_store/wickerstore/ExampleMatcher$StringMatcher;" (.ref o1) ∧ Fld Z h o0 "com/example/wicker_store/wickerstore/ExampleMatcher$GenericPropertyMatcher" "ignoringCase" "Ljava/lang/Boolean;" (.ref w_FALSE)) := by
  refine Ctr.body (plainFor_of_name pn_1) ?_
  intro p e s m below meth c T X hx hby hml hown hnm hret hlk hZ eT
  have hml : c.maxLocals = 3 := hml
  have hown : s.vm.findClass "com/example/wicker_store/wickerstore/ExampleMatcher$GenericPropertyMatcher" = some m.cls := hown
  have hnm : meth.name = "<init>" := hnm
  have hret : meth.sig.returnType = none := hret
  refine Run.cast (show entryFrame m #[(.ref o0), (.ref o1), (.ref w_FALSE)] 3 = mkF m 0 #[.val (.ref o0), .val (.ref o1), .val (.ref w_FALSE)] [] from by first | (simp [entryFrame, mkF, argsToLocals, Value.category]; done) | rfl) ?_
  have wd0 := wd
  obtain ⟨S_w_DEFAULT, E_w_DEFAULT, S_w_ENDING, E_w_ENDING, S_w_EXACT, E_w_EXACT, S_w_REGEX, E_w_REGEX, S_w_STARTING, E_w_STARTING, S_w_CONTAINING, E_w_CONTAINING, S_w_FALSE, E_w_FALSE, S_w_TRUE, E_w_TRUE, F_value_w_FALSE, F_value_w_TRUE⟩ := wd
  have wd := wd0
  have N : Fr Z.heap.size [] := Fr.nil _
  have KK : Keep h0 h0 [o0] := Keep.refl h0 [o0]
  refine q_aloadN (pc' := 1) X hx (hb hby d_prog_4_method_2_code_0) rfl rfl rfl ?_
  refine q_initO (pc' := 4) X hx hZ hown (hb hby d_prog_4_method_2_code_1) (t19 hw) (t20 hw) (t21 hw) eT (by rw [hml]; rfl) (by decide) (W := 0) rfl (by decide) rfl ?_
  intro T X eT
  refine q_aloadN (pc' := 5) X hx (hb hby d_prog_4_method_2_code_4) rfl rfl rfl ?_
  refine q_aloadN (pc' := 6) X hx (hb hby d_prog_4_method_2_code_5) rfl rfl rfl ?_
  refine q_putF (pc' := 9) X hx hZ hown (hb hby d_prog_4_method_2_code_6) (host := "") (Or.inl (t22 hw)) eT F_stringMatcher_o0 E_o0 (Or.inr ⟨(t23 hw), rfl, hnm⟩) (t11 hw) (ty := (.object "com/example/wicker_store/wickerstore/ExampleMatcher$StringMatcher")) (by decide) rfl rfl rfl ?_
  intro T h_1 X eT Wx
  have N := Fr.snoc X N g_o0
  have O := ext_wr O Wx g_o0
  have KK := KK.wr Wx (Or.inl (List.mem_of_getElem? (i := 0) rfl))
  have E_o1 := E_o1.wr Wx
  have E_o0 := E_o0.wr Wx
  have F_stringMatcher_o0 := F_stringMatcher_o0.same Wx
  have F_ignoringCase_o0 := F_ignoringCase_o0.other Wx (Or.inr (slot_ne (Or.inr (t25 hw)) (Or.inr (t23 hw)) (by decide) (t := (.object "java/lang/Boolean")) (t' := (.object "com/example/wicker_store/wickerstore/ExampleMatcher$StringMatcher")) (by decide) (by decide)))
  refine q_aloadN (pc' := 10) X hx (hb hby d_prog_4_method_2_code_9) rfl rfl rfl ?_
  refine q_aloadN (pc' := 11) X hx (hb hby d_prog_4_method_2_code_10) rfl rfl rfl ?_
  refine q_putF (pc' := 14) X hx hZ hown (hb hby d_prog_4_method_2_code_11) (host := "") (Or.inl (t24 hw)) eT F_ignoringCase_o0 E_o0 (Or.inr ⟨(t25 hw), rfl, hnm⟩) (t11 hw) (ty := (.object "java/lang/Boolean")) (by decide) rfl rfl rfl ?_
  intro T h_2 X eT Wx
  have N := Fr.snoc X N g_o0
  have O := ext_wr O Wx g_o0
  have KK := KK.wr Wx (Or.inl (List.mem_of_getElem? (i := 0) rfl))
  have E_o1 := E_o1.wr Wx
  have E_o0 := E_o0.wr Wx
  have F_stringMatcher_o0 := F_stringMatcher_o0.other Wx (Or.inr (slot_ne (Or.inr (t23 hw)) (Or.inr (t25 hw)) (by decide) (t := (.object "com/example/wicker_store/wickerstore/ExampleMatcher$StringMatcher")) (t' := (.object "java/lang/Boolean")) (by decide) (by decide)))
  have F_ignoringCase_o0 := F_ignoringCase_o0.same Wx
  refine Run.retV X hx hlk hret (hb hby d_prog_4_method_2_code_14) (by decide) (by decide) ?_
  try rw [eT]
  exact ⟨rfl, N, KK, E_o0, F_stringMatcher_o0, F_ignoringCase_o0⟩
set_option maxRecDepth 65536 in
set_option maxHeartbeats 40000000 in
theorem c24_stringMatcher {l : Launch} {Z : State} {a0 : Array Value} (hw : ∀ d ∈ tables_1, d.before a0 Z = true) {w_DEFAULT : Addr} {w_ENDING : Addr} {w_EXACT : Addr} {w_REGEX : Addr} {w_STARTING : Addr} {w_CONTAINING : Addr} {w_FALSE : Addr} {w_TRUE : Addr} (wd : World Z w_DEFAULT w_ENDING w_EXACT w_REGEX w_STARTING w_CONTAINING w_FALSE w_TRUE)  {h0 : Heap} (O : Ext Z.heap h0) {o0 : Addr} {o1 : Addr} (E_o1 : Exa Z h0 o1 "com/example/wicker_store/wickerstore/ExampleMatcher$StringMatcher") (E_o0 : Exa Z h0 o0 "com/example/wicker_store/wickerstore/ExampleMatcher$GenericPropertyMatcher") (F_stringMatcher_o0 : Fld Z h0 o0 "com/example/wicker_store/wickerstore/ExampleMatcher$GenericPropertyMatcher" "stringMatcher" "Lcom/example/wicker_store/wickerstore/ExampleMatcher$StringMatcher;" .null) (F_ignoringCase_o0 : Fld Z h0 o0 "com/example/wicker_store/wickerstore/ExampleMatcher$GenericPropertyMatcher" "ignoringCase" "Ljava/lang/Boolean;" (.ref w_FALSE)) :
    CtrW l Z y6 prog_4_method_10_code 2 (some (.object "com/example/wicker_store/wickerstore/ExampleMatcher$GenericPropertyMatcher")) ({ frames := 2, cells := 3, slots := 62, locals := 27 } : Room) #[(.ref o0), (.ref o1)] h0 (fun v h L => ∃ (b0_0 : Addr), v = some (.ref b0_0) ∧ Fr Z.heap.size L ∧ Keep h0 h [] ∧ h0.size ≤ b0_0 ∧ Exa Z h b0_0 "com/example/wicker_store/wickerstore/ExampleMatcher$GenericPropertyMatcher" ∧ Fld Z h b0_0 "com/example/wicker_store/wickerstore/ExampleMatcher$GenericPropertyMatcher" "stringMatcher" "Lcom/example/wicker_store/wickerstore/ExampleMatcher$StringMatcher;" (.ref o1) ∧ Fld Z h b0_0 "com/example/wicker_store/wickerstore/ExampleMatcher$GenericPropertyMatcher" "ignoringCase" "Ljava/lang/Boolean;" (.ref w_FALSE)) := by
  refine CtrW.body (plainFor_of_name pn_1) ?_
  intro p e s m below meth c T vm kS X hx hby hml hown hnm hret hlk hZ eT hS hk
  have hml : c.maxLocals = 2 := hml
  have hown : (s.setVm vm).vm.findClass "com/example/wicker_store/wickerstore/ExampleMatcher$GenericPropertyMatcher" = some m.cls := hown
  have hnm : meth.name = "stringMatcher" := hnm
  have hret : meth.sig.returnType = (some (.object "com/example/wicker_store/wickerstore/ExampleMatcher$GenericPropertyMatcher")) := hret
  refine Run.cast (show entryFrame m #[(.ref o0), (.ref o1)] 2 = mkF m 0 #[.val (.ref o0), .val (.ref o1)] [] from by first | (simp [entryFrame, mkF, argsToLocals, Value.category]; done) | rfl) ?_
  have wd0 := wd
  obtain ⟨S_w_DEFAULT, E_w_DEFAULT, S_w_ENDING, E_w_ENDING, S_w_EXACT, E_w_EXACT, S_w_REGEX, E_w_REGEX, S_w_STARTING, E_w_STARTING, S_w_CONTAINING, E_w_CONTAINING, S_w_FALSE, E_w_FALSE, S_w_TRUE, E_w_TRUE, F_value_w_FALSE, F_value_w_TRUE⟩ := wd
  have wd := wd0
  have N : Fr Z.heap.size [] := Fr.nil _
  have KK : Keep h0 h0 [] := Keep.refl h0 []
  refine q_new (pc' := 3) X hx hZ hown (hb hby d_prog_4_method_10_code_0) (t31 hw) (t11 hw) (t12 hw) eT (by decide) (by decide) rfl ?_
  intro T h_1 b0_0 X eT Ex gb Ax Dx
  have ne_o0_b0_0 : o0 ≠ b0_0 := Nat.ne_of_lt (Nat.lt_of_lt_of_le E_o0.lt (Nat.le_of_eq gb.symm))
  have ne_o1_b0_0 : o1 ≠ b0_0 := Nat.ne_of_lt (Nat.lt_of_lt_of_le E_o1.lt (Nat.le_of_eq gb.symm))
  have g_b0_0 : Z.heap.size ≤ b0_0 := Nat.le_trans O.1 (Nat.le_of_eq gb.symm)
  have sz_b0_0 : h0.size ≤ b0_0 := Nat.le_trans KK.1 (Nat.le_of_eq gb.symm)
  have KK := KK.ext Ex
  have O := ext_trans O Ex
  have hk := Nat.le_trans hk Ex.1
  have E_o1 := E_o1.ext Ex
  have E_o0 := E_o0.ext Ex
  have F_stringMatcher_o0 := F_stringMatcher_o0.ext Ex
  have F_ignoringCase_o0 := F_ignoringCase_o0.ext Ex
  have E_b0_0 := Ax
  have F_stringMatcher_b0_0 : Fld Z h_1 b0_0 "com/example/wicker_store/wickerstore/ExampleMatcher$GenericPropertyMatcher" "stringMatcher" "Lcom/example/wicker_store/wickerstore/ExampleMatcher$StringMatcher;" .null := Dx (Or.inr (t23 hw)) (ty := (.object "com/example/wicker_store/wickerstore/ExampleMatcher$StringMatcher")) (by decide)
  have F_ignoringCase_b0_0 : Fld Z h_1 b0_0 "com/example/wicker_store/wickerstore/ExampleMatcher$GenericPropertyMatcher" "ignoringCase" "Ljava/lang/Boolean;" .null := Dx (Or.inr (t25 hw)) (ty := (.object "java/lang/Boolean")) (by decide)
  refine q_dup (pc' := 4) X hx (hb hby d_prog_4_method_10_code_3) rfl rfl ?_
  refine q_aloadN (pc' := 5) X hx (hb hby d_prog_4_method_10_code_4) rfl rfl rfl ?_
  refine q_ldcS (pc' := 7) X hx hZ hown hS hk (hb hby d_prog_4_method_10_code_5) (t32 hw) (own_strings hw) eT (n := 56) (by decide) (by decide) (by decide) (by decide) rfl ?_
  intro str_2 T h_2 kS X eT Ex hS hk hZ hown
  have KK := KK.ext Ex
  have O := ext_trans O Ex
  have E_o1 := E_o1.ext Ex
  have E_o0 := E_o0.ext Ex
  have F_stringMatcher_o0 := F_stringMatcher_o0.ext Ex
  have F_ignoringCase_o0 := F_ignoringCase_o0.ext Ex
  have E_b0_0 := E_b0_0.ext Ex
  have F_stringMatcher_b0_0 := F_stringMatcher_b0_0.ext Ex
  have F_ignoringCase_b0_0 := F_ignoringCase_b0_0.ext Ex
  refine q_callC (pc' := 10) (y := y5) (rest := [(.ref b0_0), (.ref b0_0)]) X hx hZ hown (hb hby d_prog_4_method_10_code_7) (t40 hw) (t41 hw) (t42 hw) (t43 hw) (by decide) eT [(.ref o1), (.ref str_2)] (c6_requireNonNull hw wd  O E_o1) (by rw [hml]; rfl) (lenOf pd_5 rfl) (W := 2) rfl (by decide) (by decide) (by decide) (by decide) rfl ?_
  rintro _ T _ X ⟨rfl, rfl, eT⟩
  rw [List.append_nil] at X
  show Run p e below _ (T.setTop (mkF m 10 _ [(.ref o1), (.ref b0_0), (.ref b0_0)]))
  refine q_cast (pc' := 13) X hx hZ hown (hb hby d_prog_4_method_10_code_10) (t44 hw) eT (Or.inr ⟨_, rfl, Ins.self E_o1⟩) rfl ?_
  intro T X eT
  refine q_aloadN (pc' := 14) X hx (hb hby d_prog_4_method_10_code_13) rfl rfl rfl ?_
  refine q_getF (pc' := 17) X hx hZ hown (hb hby d_prog_4_method_10_code_14) (host := "") (Or.inl (t24 hw)) eT F_ignoringCase_o0 rfl ?_
  intro T X eT
  refine q_callN (pc' := 20) (y := y1) (rest := [(.ref b0_0)]) (b := b0_0) X hx hZ hown (hb hby d_prog_4_method_10_code_17) rfl (t16 hw) (t17 hw) (t12 hw) (t18 hw) (by decide) eT [(.ref o1), (.ref w_FALSE)] (c25_init hw wd  O E_o1 E_b0_0 F_stringMatcher_b0_0 F_ignoringCase_b0_0 g_b0_0) (by rw [hml]; rfl) (lenOf pd_1 rfl) (W := 1) rfl (by decide) (by decide) (by decide) (by decide) rfl ?_
  rintro _ T _ X ⟨rfl, NL, KL, E_b0_0, F_stringMatcher_b0_0, F_ignoringCase_b0_0⟩
  have N := N.app NL
  obtain ⟨h_4, eT⟩ : ∃ z, T.heap = z := ⟨_, rfl⟩
  rw [eT] at KL E_b0_0 F_stringMatcher_b0_0 F_ignoringCase_b0_0
  have O := ext_keep O KL (allS g_b0_0 all0)
  have KK := KK.trans KL (allS (Or.inr sz_b0_0) all0)
  have hk := Nat.le_trans hk KL.1
  have E_o1 := E_o1.keep KL
  have E_o0 := E_o0.keep KL
  have F_stringMatcher_o0 := F_stringMatcher_o0.keep KL (ninS ne_o0_b0_0 nin0)
  have F_ignoringCase_o0 := F_ignoringCase_o0.keep KL (ninS ne_o0_b0_0 nin0)
  show Run p e below _ (T.setTop (mkF m 20 _ [(.ref b0_0)]))
  refine Run.retRW X hx hlk hS (by rw [eT]; exact hk) hret (hb hby d_prog_4_method_10_code_20) rfl rfl (by decide) (by decide) ?_
  try rw [eT]
  exact ⟨b0_0, rfl, N, KK, sz_b0_0, E_b0_0, F_stringMatcher_b0_0, F_ignoringCase_b0_0⟩
set_option maxRecDepth 65536 in
set_option maxHeartbeats 40000000 in
theorem c26_getStringMatcher {l : Launch} {Z : State} {a0 : Array Value} (hw : ∀ d ∈ tables_1, d.before a0 Z = true) {w_DEFAULT : Addr} {w_ENDING : Addr} {w_EXACT : Addr} {w_REGEX : Addr} {w_STARTING : Addr} {w_CONTAINING : Addr} {w_FALSE : Addr} {w_TRUE : Addr} (wd : World Z w_DEFAULT w_ENDING w_EXACT w_REGEX w_STARTING w_CONTAINING w_FALSE w_TRUE)  {h0 : Heap} (O : Ext Z.heap h0) {o0 : Addr} {o1 : Addr} (E_o1 : Exa Z h0 o1 "com/example/wicker_store/wickerstore/ExampleMatcher$StringMatcher") (E_o0 : Exa Z h0 o0 "com/example/wicker_store/wickerstore/ExampleMatcher$GenericPropertyMatcher") (F_stringMatcher_o0 : Fld Z h0 o0 "com/example/wicker_store/wickerstore/ExampleMatcher$GenericPropertyMatcher" "stringMatcher" "Lcom/example/wicker_store/wickerstore/ExampleMatcher$StringMatcher;" (.ref o1)) (F_ignoringCase_o0 : Fld Z h0 o0 "com/example/wicker_store/wickerstore/ExampleMatcher$GenericPropertyMatcher" "ignoringCase" "Ljava/lang/Boolean;" (.ref w_FALSE)) :
    Ctr l Z y4 prog_4_method_14_code 1 (some (.object "com/example/wicker_store/wickerstore/ExampleMatcher$StringMatcher")) ({ frames := 0, cells := 0, slots := 0, locals := 0 } : Room) #[(.ref o0)] h0 (fun v h L => v = some (.ref o1) ∧ L = [] ∧ h = h0) := by
  refine Ctr.body (plainFor_of_name pn_1) ?_
  intro p e s m below meth c T X hx hby hml hown hnm hret hlk hZ eT
  have hml : c.maxLocals = 1 := hml
  have hown : s.vm.findClass "com/example/wicker_store/wickerstore/ExampleMatcher$GenericPropertyMatcher" = some m.cls := hown
  have hnm : meth.name = "getStringMatcher" := hnm
  have hret : meth.sig.returnType = (some (.object "com/example/wicker_store/wickerstore/ExampleMatcher$StringMatcher")) := hret
  refine Run.cast (show entryFrame m #[(.ref o0)] 1 = mkF m 0 #[.val (.ref o0)] [] from by first | (simp [entryFrame, mkF, argsToLocals, Value.category]; done) | rfl) ?_
  have wd0 := wd
  obtain ⟨S_w_DEFAULT, E_w_DEFAULT, S_w_ENDING, E_w_ENDING, S_w_EXACT, E_w_EXACT, S_w_REGEX, E_w_REGEX, S_w_STARTING, E_w_STARTING, S_w_CONTAINING, E_w_CONTAINING, S_w_FALSE, E_w_FALSE, S_w_TRUE, E_w_TRUE, F_value_w_FALSE, F_value_w_TRUE⟩ := wd
  have wd := wd0
  have N : Fr Z.heap.size [] := Fr.nil _
  have KK : Keep h0 h0 [] := Keep.refl h0 []
  refine q_aloadN (pc' := 1) X hx (hb hby d_prog_4_method_14_code_0) rfl rfl rfl ?_
  refine q_getF (pc' := 4) X hx hZ hown (hb hby d_prog_4_method_14_code_1) (host := "") (Or.inl (t22 hw)) eT F_stringMatcher_o0 rfl ?_
  intro T X eT
  refine Run.retR X hx hlk hret (hb hby d_prog_4_method_14_code_4) rfl rfl (by decide) (by decide) ?_
  try rw [eT]
  exact ⟨rfl, rfl, rfl⟩
set_option maxRecDepth 65536 in
set_option maxHeartbeats 40000000 in
theorem c27_getIgnoreCase {l : Launch} {Z : State} {a0 : Array Value} (hw : ∀ d ∈ tables_1, d.before a0 Z = true) {w_DEFAULT : Addr} {w_ENDING : Addr} {w_EXACT : Addr} {w_REGEX : Addr} {w_STARTING : Addr} {w_CONTAINING : Addr} {w_FALSE : Addr} {w_TRUE : Addr} (wd : World Z w_DEFAULT w_ENDING w_EXACT w_REGEX w_STARTING w_CONTAINING w_FALSE w_TRUE)  {h0 : Heap} (O : Ext Z.heap h0) {o0 : Addr} {o1 : Addr} (E_o1 : Exa Z h0 o1 "com/example/wicker_store/wickerstore/ExampleMatcher$StringMatcher") (E_o0 : Exa Z h0 o0 "com/example/wicker_store/wickerstore/ExampleMatcher$GenericPropertyMatcher") (F_stringMatcher_o0 : Fld Z h0 o0 "com/example/wicker_store/wickerstore/ExampleMatcher$GenericPropertyMatcher" "stringMatcher" "Lcom/example/wicker_store/wickerstore/ExampleMatcher$StringMatcher;" (.ref o1)) (F_ignoringCase_o0 : Fld Z h0 o0 "com/example/wicker_store/wickerstore/ExampleMatcher$GenericPropertyMatcher" "ignoringCase" "Ljava/lang/Boolean;" (.ref w_FALSE)) :
    Ctr l Z y3 prog_4_method_15_code 1 (some (.object "java/lang/Boolean")) ({ frames := 0, cells := 0, slots := 0, locals := 0 } : Room) #[(.ref o0)] h0 (fun v h L => v = some (.ref w_FALSE) ∧ L = [] ∧ h = h0) := by
  refine Ctr.body (plainFor_of_name pn_1) ?_
  intro p e s m below meth c T X hx hby hml hown hnm hret hlk hZ eT
  have hml : c.maxLocals = 1 := hml
  have hown : s.vm.findClass "com/example/wicker_store/wickerstore/ExampleMatcher$GenericPropertyMatcher" = some m.cls := hown
  have hnm : meth.name = "getIgnoreCase" := hnm
  have hret : meth.sig.returnType = (some (.object "java/lang/Boolean")) := hret
  refine Run.cast (show entryFrame m #[(.ref o0)] 1 = mkF m 0 #[.val (.ref o0)] [] from by first | (simp [entryFrame, mkF, argsToLocals, Value.category]; done) | rfl) ?_
  have wd0 := wd
  obtain ⟨S_w_DEFAULT, E_w_DEFAULT, S_w_ENDING, E_w_ENDING, S_w_EXACT, E_w_EXACT, S_w_REGEX, E_w_REGEX, S_w_STARTING, E_w_STARTING, S_w_CONTAINING, E_w_CONTAINING, S_w_FALSE, E_w_FALSE, S_w_TRUE, E_w_TRUE, F_value_w_FALSE, F_value_w_TRUE⟩ := wd
  have wd := wd0
  have N : Fr Z.heap.size [] := Fr.nil _
  have KK : Keep h0 h0 [] := Keep.refl h0 []
  refine q_aloadN (pc' := 1) X hx (hb hby d_prog_4_method_15_code_0) rfl rfl rfl ?_
  refine q_getF (pc' := 4) X hx hZ hown (hb hby d_prog_4_method_15_code_1) (host := "") (Or.inl (t24 hw)) eT F_ignoringCase_o0 rfl ?_
  intro T X eT
  refine Run.retR X hx hlk hret (hb hby d_prog_4_method_15_code_4) rfl rfl (by decide) (by decide) ?_
  try rw [eT]
  exact ⟨rfl, rfl, rfl⟩
set_option maxRecDepth 65536 in
set_option maxHeartbeats 40000000 in
theorem c28_stringMatcher {l : Launch} {Z : State} {a0 : Array Value} (hw : ∀ d ∈ tables_1, d.before a0 Z = true) {w_DEFAULT : Addr} {w_ENDING : Addr} {w_EXACT : Addr} {w_REGEX : Addr} {w_STARTING : Addr} {w_CONTAINING : Addr} {w_FALSE : Addr} {w_TRUE : Addr} (wd : World Z w_DEFAULT w_ENDING w_EXACT w_REGEX w_STARTING w_CONTAINING w_FALSE w_TRUE)  {h0 : Heap} (O : Ext Z.heap h0) {o0 : Addr} {o1 : Addr} {o2 : Addr} (E_o2 : Exa Z h0 o2 "com/example/wicker_store/wickerstore/ExampleMatcher$StringMatcher") (E_o1 : Exa Z h0 o1 "com/example/wicker_store/wickerstore/ExampleMatcher$StringMatcher") (E_o0 : Exa Z h0 o0 "com/example/wicker_store/wickerstore/ExampleMatcher$GenericPropertyMatcher") (F_stringMatcher_o0 : Fld Z h0 o0 "com/example/wicker_store/wickerstore/ExampleMatcher$GenericPropertyMatcher" "stringMatcher" "Lcom/example/wicker_store/wickerstore/ExampleMatcher$StringMatcher;" (.ref o1)) (F_ignoringCase_o0 : Fld Z h0 o0 "com/example/wicker_store/wickerstore/ExampleMatcher$GenericPropertyMatcher" "ignoringCase" "Ljava/lang/Boolean;" .null) :
    CtrW l Z y6 prog_4_method_10_code 2 (some (.object "com/example/wicker_store/wickerstore/ExampleMatcher$GenericPropertyMatcher")) ({ frames := 2, cells := 3, slots := 62, locals := 27 } : Room) #[(.ref o0), (.ref o2)] h0 (fun v h L => ∃ (b0_0 : Addr), v = some (.ref b0_0) ∧ Fr Z.heap.size L ∧ Keep h0 h [] ∧ h0.size ≤ b0_0 ∧ Exa Z h b0_0 "com/example/wicker_store/wickerstore/ExampleMatcher$GenericPropertyMatcher" ∧ Fld Z h b0_0 "com/example/wicker_store/wickerstore/ExampleMatcher$GenericPropertyMatcher" "stringMatcher" "Lcom/example/wicker_store/wickerstore/ExampleMatcher$StringMatcher;" (.ref o2) ∧ Fld Z h b0_0 "com/example/wicker_store/wickerstore/ExampleMatcher$GenericPropertyMatcher" "ignoringCase" "Ljava/lang/Boolean;" .null) := by
  refine CtrW.body (plainFor_of_name pn_1) ?_
  intro p e s m below meth c T vm kS X hx hby hml hown hnm hret hlk hZ eT hS hk
  have hml : c.maxLocals = 2 := hml
  have hown : (s.setVm vm).vm.findClass "com/example/wicker_store/wickerstore/ExampleMatcher$GenericPropertyMatcher" = some m.cls := hown
  have hnm : meth.name = "stringMatcher" := hnm
  have hret : meth.sig.returnType = (some (.object "com/example/wicker_store/wickerstore/ExampleMatcher$GenericPropertyMatcher")) := hret
  refine Run.cast (show entryFrame m #[(.ref o0), (.ref o2)] 2 = mkF m 0 #[.val (.ref o0), .val (.ref o2)] [] from by first | (simp [entryFrame, mkF, argsToLocals, Value.category]; done) | rfl) ?_
  have wd0 := wd
  obtain ⟨S_w_DEFAULT, E_w_DEFAULT, S_w_ENDING, E_w_ENDING, S_w_EXACT, E_w_EXACT, S_w_REGEX, E_w_REGEX, S_w_STARTING, E_w_STARTING, S_w_CONTAINING, E_w_CONTAINING, S_w_FALSE, E_w_FALSE, S_w_TRUE, E_w_TRUE, F_value_w_FALSE, F_value_w_TRUE⟩ := wd
  have wd := wd0
  have N : Fr Z.heap.size [] := Fr.nil _
  have KK : Keep h0 h0 [] := Keep.refl h0 []
  refine q_new (pc' := 3) X hx hZ hown (hb hby d_prog_4_method_10_code_0) (t31 hw) (t11 hw) (t12 hw) eT (by decide) (by decide) rfl ?_
  intro T h_1 b0_0 X eT Ex gb Ax Dx
  have ne_o0_b0_0 : o0 ≠ b0_0 := Nat.ne_of_lt (Nat.lt_of_lt_of_le E_o0.lt (Nat.le_of_eq gb.symm))
  have ne_o1_b0_0 : o1 ≠ b0_0 := Nat.ne_of_lt (Nat.lt_of_lt_of_le E_o1.lt (Nat.le_of_eq gb.symm))
  have ne_o2_b0_0 : o2 ≠ b0_0 := Nat.ne_of_lt (Nat.lt_of_lt_of_le E_o2.lt (Nat.le_of_eq gb.symm))
  have g_b0_0 : Z.heap.size ≤ b0_0 := Nat.le_trans O.1 (Nat.le_of_eq gb.symm)
  have sz_b0_0 : h0.size ≤ b0_0 := Nat.le_trans KK.1 (Nat.le_of_eq gb.symm)
  have KK := KK.ext Ex
  have O := ext_trans O Ex
  have hk := Nat.le_trans hk Ex.1
  have E_o2 := E_o2.ext Ex
  have E_o1 := E_o1.ext Ex
  have E_o0 := E_o0.ext Ex
  have F_stringMatcher_o0 := F_stringMatcher_o0.ext Ex
  have F_ignoringCase_o0 := F_ignoringCase_o0.ext Ex
  have E_b0_0 := Ax
  have F_stringMatcher_b0_0 : Fld Z h_1 b0_0 "com/example/wicker_store/wickerstore/ExampleMatcher$GenericPropertyMatcher" "stringMatcher" "Lcom/example/wicker_store/wickerstore/ExampleMatcher$StringMatcher;" .null := Dx (Or.inr (t23 hw)) (ty := (.object "com/example/wicker_store/wickerstore/ExampleMatcher$StringMatcher")) (by decide)
  have F_ignoringCase_b0_0 : Fld Z h_1 b0_0 "com/example/wicker_store/wickerstore/ExampleMatcher$GenericPropertyMatcher" "ignoringCase" "Ljava/lang/Boolean;" .null := Dx (Or.inr (t25 hw)) (ty := (.object "java/lang/Boolean")) (by decide)
  refine q_dup (pc' := 4) X hx (hb hby d_prog_4_method_10_code_3) rfl rfl ?_
  refine q_aloadN (pc' := 5) X hx (hb hby d_prog_4_method_10_code_4) rfl rfl rfl ?_
  refine q_ldcS (pc' := 7) X hx hZ hown hS hk (hb hby d_prog_4_method_10_code_5) (t32 hw) (own_strings hw) eT (n := 56) (by decide) (by decide) (by decide) (by decide) rfl ?_
  intro str_2 T h_2 kS X eT Ex hS hk hZ hown
  have KK := KK.ext Ex
  have O := ext_trans O Ex
  have E_o2 := E_o2.ext Ex
  have E_o1 := E_o1.ext Ex
  have E_o0 := E_o0.ext Ex
  have F_stringMatcher_o0 := F_stringMatcher_o0.ext Ex
  have F_ignoringCase_o0 := F_ignoringCase_o0.ext Ex
  have E_b0_0 := E_b0_0.ext Ex
  have F_stringMatcher_b0_0 := F_stringMatcher_b0_0.ext Ex
  have F_ignoringCase_b0_0 := F_ignoringCase_b0_0.ext Ex
  refine q_callC (pc' := 10) (y := y5) (rest := [(.ref b0_0), (.ref b0_0)]) X hx hZ hown (hb hby d_prog_4_method_10_code_7) (t40 hw) (t41 hw) (t42 hw) (t43 hw) (by decide) eT [(.ref o2), (.ref str_2)] (c6_requireNonNull hw wd  O E_o2) (by rw [hml]; rfl) (lenOf pd_5 rfl) (W := 2) rfl (by decide) (by decide) (by decide) (by decide) rfl ?_
  rintro _ T _ X ⟨rfl, rfl, eT⟩
  rw [List.append_nil] at X
  show Run p e below _ (T.setTop (mkF m 10 _ [(.ref o2), (.ref b0_0), (.ref b0_0)]))
  refine q_cast (pc' := 13) X hx hZ hown (hb hby d_prog_4_method_10_code_10) (t44 hw) eT (Or.inr ⟨_, rfl, Ins.self E_o2⟩) rfl ?_
  intro T X eT
  refine q_aloadN (pc' := 14) X hx (hb hby d_prog_4_method_10_code_13) rfl rfl rfl ?_
  refine q_getF (pc' := 17) X hx hZ hown (hb hby d_prog_4_method_10_code_14) (host := "") (Or.inl (t24 hw)) eT F_ignoringCase_o0 rfl ?_
  intro T X eT
  refine q_callN (pc' := 20) (y := y1) (rest := [(.ref b0_0)]) (b := b0_0) X hx hZ hown (hb hby d_prog_4_method_10_code_17) rfl (t16 hw) (t17 hw) (t12 hw) (t18 hw) (by decide) eT [(.ref o2), .null] (c7_init hw wd  O E_o2 E_b0_0 F_stringMatcher_b0_0 F_ignoringCase_b0_0 g_b0_0) (by rw [hml]; rfl) (lenOf pd_1 rfl) (W := 1) rfl (by decide) (by decide) (by decide) (by decide) rfl ?_
  rintro _ T _ X ⟨rfl, NL, KL, E_b0_0, F_stringMatcher_b0_0, F_ignoringCase_b0_0⟩
  have N := N.app NL
  obtain ⟨h_4, eT⟩ : ∃ z, T.heap = z := ⟨_, rfl⟩
  rw [eT] at KL E_b0_0 F_stringMatcher_b0_0 F_ignoringCase_b0_0
  have O := ext_keep O KL (allS g_b0_0 all0)
  have KK := KK.trans KL (allS (Or.inr sz_b0_0) all0)
  have hk := Nat.le_trans hk KL.1
  have E_o2 := E_o2.keep KL
  have E_o1 := E_o1.keep KL
  have E_o0 := E_o0.keep KL
  have F_stringMatcher_o0 := F_stringMatcher_o0.keep KL (ninS ne_o0_b0_0 nin0)
  have F_ignoringCase_o0 := F_ignoringCase_o0.keep KL (ninS ne_o0_b0_0 nin0)
  show Run p e below _ (T.setTop (mkF m 20 _ [(.ref b0_0)]))
  refine Run.retRW X hx hlk hS (by rw [eT]; exact hk) hret (hb hby d_prog_4_method_10_code_20) rfl rfl (by decide) (by decide) ?_
  try rw [eT]
  exact ⟨b0_0, rfl, N, KK, sz_b0_0, E_b0_0, F_stringMatcher_b0_0, F_ignoringCase_b0_0⟩
set_option maxRecDepth 65536 in
set_option maxHeartbeats 40000000 in
theorem c29_ignoreCase {l : Launch} {Z : State} {a0 : Array Value} (hw : ∀ d ∈ tables_1, d.before a0 Z = true) {w_DEFAULT : Addr} {w_ENDING : Addr} {w_EXACT : Addr} {w_REGEX : Addr} {w_STARTING : Addr} {w_CONTAINING : Addr} {w_FALSE : Addr} {w_TRUE : Addr} (wd : World Z w_DEFAULT w_ENDING w_EXACT w_REGEX w_STARTING w_CONTAINING w_FALSE w_TRUE)  {h0 : Heap} (O : Ext Z.heap h0) {o0 : Addr} {o1 : Addr} (E_o1 : Exa Z h0 o1 "com/example/wicker_store/wickerstore/ExampleMatcher$StringMatcher") (E_o0 : Exa Z h0 o0 "com/example/wicker_store/wickerstore/ExampleMatcher$GenericPropertyMatcher") (F_stringMatcher_o0 : Fld Z h0 o0 "com/example/wicker_store/wickerstore/ExampleMatcher$GenericPropertyMatcher" "stringMatcher" "Lcom/example/wicker_store/wickerstore/ExampleMatcher$StringMatcher;" (.ref o1)) (F_ignoringCase_o0 : Fld Z h0 o0 "com/example/wicker_store/wickerstore/ExampleMatcher$GenericPropertyMatcher" "ignoringCase" "Ljava/lang/Boolean;" .null) :
    Ctr l Z y8 prog_4_method_12_code 2 (some (.object "com/example/wicker_store/wickerstore/ExampleMatcher$GenericPropertyMatcher")) ({ frames := 2, cells := 1, slots := 2, locals := 27 } : Room) #[(.ref o0), (.int (1 : Int32))] h0 (fun v h L => ∃ (b0_0 : Addr), v = some (.ref b0_0) ∧ Fr Z.heap.size L ∧ Keep h0 h [] ∧ h0.size ≤ b0_0 ∧ Exa Z h b0_0 "com/example/wicker_store/wickerstore/ExampleMatcher$GenericPropertyMatcher" ∧ Fld Z h b0_0 "com/example/wicker_store/wickerstore/ExampleMatcher$GenericPropertyMatcher" "stringMatcher" "Lcom/example/wicker_store/wickerstore/ExampleMatcher$StringMatcher;" (.ref o1) ∧ Fld Z h b0_0 "com/example/wicker_store/wickerstore/ExampleMatcher$GenericPropertyMatcher" "ignoringCase" "Ljava/lang/Boolean;" (.ref w_TRUE)) := by
  refine Ctr.body (plainFor_of_name pn_1) ?_
  intro p e s m below meth c T X hx hby hml hown hnm hret hlk hZ eT
  have hml : c.maxLocals = 2 := hml
  have hown : s.vm.findClass "com/example/wicker_store/wickerstore/ExampleMatcher$GenericPropertyMatcher" = some m.cls := hown
  have hnm : meth.name = "ignoreCase" := hnm
  have hret : meth.sig.returnType = (some (.object "com/example/wicker_store/wickerstore/ExampleMatcher$GenericPropertyMatcher")) := hret
  refine Run.cast (show entryFrame m #[(.ref o0), (.int (1 : Int32))] 2 = mkF m 0 #[.val (.ref o0), .val (.int (1 : Int32))] [] from by first | (simp [entryFrame, mkF, argsToLocals, Value.category]; done) | rfl) ?_
  have wd0 := wd
  obtain ⟨S_w_DEFAULT, E_w_DEFAULT, S_w_ENDING, E_w_ENDING, S_w_EXACT, E_w_EXACT, S_w_REGEX, E_w_REGEX, S_w_STARTING, E_w_STARTING, S_w_CONTAINING, E_w_CONTAINING, S_w_FALSE, E_w_FALSE, S_w_TRUE, E_w_TRUE, F_value_w_FALSE, F_value_w_TRUE⟩ := wd
  have wd := wd0
  have N : Fr Z.heap.size [] := Fr.nil _
  have KK : Keep h0 h0 [] := Keep.refl h0 []
  refine q_new (pc' := 3) X hx hZ hown (hb hby d_prog_4_method_12_code_0) (t31 hw) (t11 hw) (t12 hw) eT (by decide) (by decide) rfl ?_
  intro T h_1 b0_0 X eT Ex gb Ax Dx
  have ne_o0_b0_0 : o0 ≠ b0_0 := Nat.ne_of_lt (Nat.lt_of_lt_of_le E_o0.lt (Nat.le_of_eq gb.symm))
  have ne_o1_b0_0 : o1 ≠ b0_0 := Nat.ne_of_lt (Nat.lt_of_lt_of_le E_o1.lt (Nat.le_of_eq gb.symm))
  have g_b0_0 : Z.heap.size ≤ b0_0 := Nat.le_trans O.1 (Nat.le_of_eq gb.symm)
  have sz_b0_0 : h0.size ≤ b0_0 := Nat.le_trans KK.1 (Nat.le_of_eq gb.symm)
  have KK := KK.ext Ex
  have O := ext_trans O Ex
  have E_o1 := E_o1.ext Ex
  have E_o0 := E_o0.ext Ex
  have F_stringMatcher_o0 := F_stringMatcher_o0.ext Ex
  have F_ignoringCase_o0 := F_ignoringCase_o0.ext Ex
  have E_b0_0 := Ax
  have F_stringMatcher_b0_0 : Fld Z h_1 b0_0 "com/example/wicker_store/wickerstore/ExampleMatcher$GenericPropertyMatcher" "stringMatcher" "Lcom/example/wicker_store/wickerstore/ExampleMatcher$StringMatcher;" .null := Dx (Or.inr (t23 hw)) (ty := (.object "com/example/wicker_store/wickerstore/ExampleMatcher$StringMatcher")) (by decide)
  have F_ignoringCase_b0_0 : Fld Z h_1 b0_0 "com/example/wicker_store/wickerstore/ExampleMatcher$GenericPropertyMatcher" "ignoringCase" "Ljava/lang/Boolean;" .null := Dx (Or.inr (t25 hw)) (ty := (.object "java/lang/Boolean")) (by decide)
  refine q_dup (pc' := 4) X hx (hb hby d_prog_4_method_12_code_3) rfl rfl ?_
  refine q_aloadN (pc' := 5) X hx (hb hby d_prog_4_method_12_code_4) rfl rfl rfl ?_
  refine q_getF (pc' := 8) X hx hZ hown (hb hby d_prog_4_method_12_code_5) (host := "") (Or.inl (t22 hw)) eT F_stringMatcher_o0 rfl ?_
  intro T X eT
  refine q_iloadN (pc' := 9) X hx (hb hby d_prog_4_method_12_code_8) rfl rfl ?_
  refine q_callC (pc' := 12) (y := y7) (rest := [(.ref o1), (.ref b0_0), (.ref b0_0)]) X hx hZ hown (hb hby d_prog_4_method_12_code_9) (t51 hw) (t52 hw) (t53 hw) (t54 hw) (by decide) eT [(.int (1 : Int32))] (c11_valueOf hw wd  O) (by rw [hml]; rfl) (lenOf pd_7 rfl) (W := 3) rfl (by decide) (by decide) (by decide) (by decide) rfl ?_
  rintro _ T _ X ⟨rfl, rfl, eT⟩
  rw [List.append_nil] at X
  show Run p e below _ (T.setTop (mkF m 12 _ [(.ref w_TRUE), (.ref o1), (.ref b0_0), (.ref b0_0)]))
  refine q_callN (pc' := 15) (y := y1) (rest := [(.ref b0_0)]) (b := b0_0) X hx hZ hown (hb hby d_prog_4_method_12_code_12) rfl (t16 hw) (t17 hw) (t12 hw) (t18 hw) (by decide) eT [(.ref o1), (.ref w_TRUE)] (c16_init hw wd  O E_o1 E_b0_0 F_stringMatcher_b0_0 F_ignoringCase_b0_0 g_b0_0) (by rw [hml]; rfl) (lenOf pd_1 rfl) (W := 1) rfl (by decide) (by decide) (by decide) (by decide) rfl ?_
  rintro _ T _ X ⟨rfl, NL, KL, E_b0_0, F_stringMatcher_b0_0, F_ignoringCase_b0_0⟩
  have N := N.app NL
  obtain ⟨h_3, eT⟩ : ∃ z, T.heap = z := ⟨_, rfl⟩
  rw [eT] at KL E_b0_0 F_stringMatcher_b0_0 F_ignoringCase_b0_0
  have O := ext_keep O KL (allS g_b0_0 all0)
  have KK := KK.trans KL (allS (Or.inr sz_b0_0) all0)
  have E_o1 := E_o1.keep KL
  have E_o0 := E_o0.keep KL
  have F_stringMatcher_o0 := F_stringMatcher_o0.keep KL (ninS ne_o0_b0_0 nin0)
  have F_ignoringCase_o0 := F_ignoringCase_o0.keep KL (ninS ne_o0_b0_0 nin0)
  show Run p e below _ (T.setTop (mkF m 15 _ [(.ref b0_0)]))
  refine Run.retR X hx hlk hret (hb hby d_prog_4_method_12_code_15) rfl rfl (by decide) (by decide) ?_
  try rw [eT]
  exact ⟨b0_0, rfl, N, KK, sz_b0_0, E_b0_0, F_stringMatcher_b0_0, F_ignoringCase_b0_0⟩
set_option maxRecDepth 65536 in
set_option maxHeartbeats 40000000 in
theorem c30_stringMatcher {l : Launch} {Z : State} {a0 : Array Value} (hw : ∀ d ∈ tables_1, d.before a0 Z = true) {w_DEFAULT : Addr} {w_ENDING : Addr} {w_EXACT : Addr} {w_REGEX : Addr} {w_STARTING : Addr} {w_CONTAINING : Addr} {w_FALSE : Addr} {w_TRUE : Addr} (wd : World Z w_DEFAULT w_ENDING w_EXACT w_REGEX w_STARTING w_CONTAINING w_FALSE w_TRUE)  {h0 : Heap} (O : Ext Z.heap h0) {o0 : Addr} {o1 : Addr} {o2 : Addr} (E_o2 : Exa Z h0 o2 "com/example/wicker_store/wickerstore/ExampleMatcher$StringMatcher") (E_o1 : Exa Z h0 o1 "com/example/wicker_store/wickerstore/ExampleMatcher$StringMatcher") (E_o0 : Exa Z h0 o0 "com/example/wicker_store/wickerstore/ExampleMatcher$GenericPropertyMatcher") (F_stringMatcher_o0 : Fld Z h0 o0 "com/example/wicker_store/wickerstore/ExampleMatcher$GenericPropertyMatcher" "stringMatcher" "Lcom/example/wicker_store/wickerstore/ExampleMatcher$StringMatcher;" (.ref o1)) (F_ignoringCase_o0 : Fld Z h0 o0 "com/example/wicker_store/wickerstore/ExampleMatcher$GenericPropertyMatcher" "ignoringCase" "Ljava/lang/Boolean;" (.ref w_TRUE)) :
    CtrW l Z y6 prog_4_method_10_code 2 (some (.object "com/example/wicker_store/wickerstore/ExampleMatcher$GenericPropertyMatcher")) ({ frames := 2, cells := 3, slots := 62, locals := 27 } : Room) #[(.ref o0), (.ref o2)] h0 (fun v h L => ∃ (b0_0 : Addr), v = some (.ref b0_0) ∧ Fr Z.heap.size L ∧ Keep h0 h [] ∧ h0.size ≤ b0_0 ∧ Exa Z h b0_0 "com/example/wicker_store/wickerstore/ExampleMatcher$GenericPropertyMatcher" ∧ Fld Z h b0_0 "com/example/wicker_store/wickerstore/ExampleMatcher$GenericPropertyMatcher" "stringMatcher" "Lcom/example/wicker_store/wickerstore/ExampleMatcher$StringMatcher;" (.ref o2) ∧ Fld Z h b0_0 "com/example/wicker_store/wickerstore/ExampleMatcher$GenericPropertyMatcher" "ignoringCase" "Ljava/lang/Boolean;" (.ref w_TRUE)) := by
  refine CtrW.body (plainFor_of_name pn_1) ?_
  intro p e s m below meth c T vm kS X hx hby hml hown hnm hret hlk hZ eT hS hk
  have hml : c.maxLocals = 2 := hml
  have hown : (s.setVm vm).vm.findClass "com/example/wicker_store/wickerstore/ExampleMatcher$GenericPropertyMatcher" = some m.cls := hown
  have hnm : meth.name = "stringMatcher" := hnm
  have hret : meth.sig.returnType = (some (.object "com/example/wicker_store/wickerstore/ExampleMatcher$GenericPropertyMatcher")) := hret
  refine Run.cast (show entryFrame m #[(.ref o0), (.ref o2)] 2 = mkF m 0 #[.val (.ref o0), .val (.ref o2)] [] from by first | (simp [entryFrame, mkF, argsToLocals, Value.category]; done) | rfl) ?_
  have wd0 := wd
  obtain ⟨S_w_DEFAULT, E_w_DEFAULT, S_w_ENDING, E_w_ENDING, S_w_EXACT, E_w_EXACT, S_w_REGEX, E_w_REGEX, S_w_STARTING, E_w_STARTING, S_w_CONTAINING, E_w_CONTAINING, S_w_FALSE, E_w_FALSE, S_w_TRUE, E_w_TRUE, F_value_w_FALSE, F_value_w_TRUE⟩ := wd
  have wd := wd0
  have N : Fr Z.heap.size [] := Fr.nil _
  have KK : Keep h0 h0 [] := Keep.refl h0 []
  refine q_new (pc' := 3) X hx hZ hown (hb hby d_prog_4_method_10_code_0) (t31 hw) (t11 hw) (t12 hw) eT (by decide) (by decide) rfl ?_
  intro T h_1 b0_0 X eT Ex gb Ax Dx
  have ne_o0_b0_0 : o0 ≠ b0_0 := Nat.ne_of_lt (Nat.lt_of_lt_of_le E_o0.lt (Nat.le_of_eq gb.symm))
  have ne_o1_b0_0 : o1 ≠ b0_0 := Nat.ne_of_lt (Nat.lt_of_lt_of_le E_o1.lt (Nat.le_of_eq gb.symm))
  have ne_o2_b0_0 : o2 ≠ b0_0 := Nat.ne_of_lt (Nat.lt_of_lt_of_le E_o2.lt (Nat.le_of_eq gb.symm))
  have g_b0_0 : Z.heap.size ≤ b0_0 := Nat.le_trans O.1 (Nat.le_of_eq gb.symm)
  have sz_b0_0 : h0.size ≤ b0_0 := Nat.le_trans KK.1 (Nat.le_of_eq gb.symm)
  have KK := KK.ext Ex
  have O := ext_trans O Ex
  have hk := Nat.le_trans hk Ex.1
  have E_o2 := E_o2.ext Ex
  have E_o1 := E_o1.ext Ex
  have E_o0 := E_o0.ext Ex
  have F_stringMatcher_o0 := F_stringMatcher_o0.ext Ex
  have F_ignoringCase_o0 := F_ignoringCase_o0.ext Ex
  have E_b0_0 := Ax
  have F_stringMatcher_b0_0 : Fld Z h_1 b0_0 "com/example/wicker_store/wickerstore/ExampleMatcher$GenericPropertyMatcher" "stringMatcher" "Lcom/example/wicker_store/wickerstore/ExampleMatcher$StringMatcher;" .null := Dx (Or.inr (t23 hw)) (ty := (.object "com/example/wicker_store/wickerstore/ExampleMatcher$StringMatcher")) (by decide)
  have F_ignoringCase_b0_0 : Fld Z h_1 b0_0 "com/example/wicker_store/wickerstore/ExampleMatcher$GenericPropertyMatcher" "ignoringCase" "Ljava/lang/Boolean;" .null := Dx (Or.inr (t25 hw)) (ty := (.object "java/lang/Boolean")) (by decide)
  refine q_dup (pc' := 4) X hx (hb hby d_prog_4_method_10_code_3) rfl rfl ?_
  refine q_aloadN (pc' := 5) X hx (hb hby d_prog_4_method_10_code_4) rfl rfl rfl ?_
  refine q_ldcS (pc' := 7) X hx hZ hown hS hk (hb hby d_prog_4_method_10_code_5) (t32 hw) (own_strings hw) eT (n := 56) (by decide) (by decide) (by decide) (by decide) rfl ?_
  intro str_2 T h_2 kS X eT Ex hS hk hZ hown
  have KK := KK.ext Ex
  have O := ext_trans O Ex
  have E_o2 := E_o2.ext Ex
  have E_o1 := E_o1.ext Ex
  have E_o0 := E_o0.ext Ex
  have F_stringMatcher_o0 := F_stringMatcher_o0.ext Ex
  have F_ignoringCase_o0 := F_ignoringCase_o0.ext Ex
  have E_b0_0 := E_b0_0.ext Ex
  have F_stringMatcher_b0_0 := F_stringMatcher_b0_0.ext Ex
  have F_ignoringCase_b0_0 := F_ignoringCase_b0_0.ext Ex
  refine q_callC (pc' := 10) (y := y5) (rest := [(.ref b0_0), (.ref b0_0)]) X hx hZ hown (hb hby d_prog_4_method_10_code_7) (t40 hw) (t41 hw) (t42 hw) (t43 hw) (by decide) eT [(.ref o2), (.ref str_2)] (c6_requireNonNull hw wd  O E_o2) (by rw [hml]; rfl) (lenOf pd_5 rfl) (W := 2) rfl (by decide) (by decide) (by decide) (by decide) rfl ?_
  rintro _ T _ X ⟨rfl, rfl, eT⟩
  rw [List.append_nil] at X
  show Run p e below _ (T.setTop (mkF m 10 _ [(.ref o2), (.ref b0_0), (.ref b0_0)]))
  refine q_cast (pc' := 13) X hx hZ hown (hb hby d_prog_4_method_10_code_10) (t44 hw) eT (Or.inr ⟨_, rfl, Ins.self E_o2⟩) rfl ?_
  intro T X eT
  refine q_aloadN (pc' := 14) X hx (hb hby d_prog_4_method_10_code_13) rfl rfl rfl ?_
  refine q_getF (pc' := 17) X hx hZ hown (hb hby d_prog_4_method_10_code_14) (host := "") (Or.inl (t24 hw)) eT F_ignoringCase_o0 rfl ?_
  intro T X eT
  refine q_callN (pc' := 20) (y := y1) (rest := [(.ref b0_0)]) (b := b0_0) X hx hZ hown (hb hby d_prog_4_method_10_code_17) rfl (t16 hw) (t17 hw) (t12 hw) (t18 hw) (by decide) eT [(.ref o2), (.ref w_TRUE)] (c16_init hw wd  O E_o2 E_b0_0 F_stringMatcher_b0_0 F_ignoringCase_b0_0 g_b0_0) (by rw [hml]; rfl) (lenOf pd_1 rfl) (W := 1) rfl (by decide) (by decide) (by decide) (by decide) rfl ?_
  rintro _ T _ X ⟨rfl, NL, KL, E_b0_0, F_stringMatcher_b0_0, F_ignoringCase_b0_0⟩
  have N := N.app NL
  obtain ⟨h_4, eT⟩ : ∃ z, T.heap = z := ⟨_, rfl⟩
  rw [eT] at KL E_b0_0 F_stringMatcher_b0_0 F_ignoringCase_b0_0
  have O := ext_keep O KL (allS g_b0_0 all0)
  have KK := KK.trans KL (allS (Or.inr sz_b0_0) all0)
  have hk := Nat.le_trans hk KL.1
  have E_o2 := E_o2.keep KL
  have E_o1 := E_o1.keep KL
  have E_o0 := E_o0.keep KL
  have F_stringMatcher_o0 := F_stringMatcher_o0.keep KL (ninS ne_o0_b0_0 nin0)
  have F_ignoringCase_o0 := F_ignoringCase_o0.keep KL (ninS ne_o0_b0_0 nin0)
  show Run p e below _ (T.setTop (mkF m 20 _ [(.ref b0_0)]))
  refine Run.retRW X hx hlk hS (by rw [eT]; exact hk) hret (hb hby d_prog_4_method_10_code_20) rfl rfl (by decide) (by decide) ?_
  try rw [eT]
  exact ⟨b0_0, rfl, N, KK, sz_b0_0, E_b0_0, F_stringMatcher_b0_0, F_ignoringCase_b0_0⟩
set_option maxRecDepth 65536 in
set_option maxHeartbeats 40000000 in
theorem c31_ignoreCase {l : Launch} {Z : State} {a0 : Array Value} (hw : ∀ d ∈ tables_1, d.before a0 Z = true) {w_DEFAULT : Addr} {w_ENDING : Addr} {w_EXACT : Addr} {w_REGEX : Addr} {w_STARTING : Addr} {w_CONTAINING : Addr} {w_FALSE : Addr} {w_TRUE : Addr} (wd : World Z w_DEFAULT w_ENDING w_EXACT w_REGEX w_STARTING w_CONTAINING w_FALSE w_TRUE)  {h0 : Heap} (O : Ext Z.heap h0) {o0 : Addr} {o1 : Addr} (E_o1 : Exa Z h0 o1 "com/example/wicker_store/wickerstore/ExampleMatcher$StringMatcher") (E_o0 : Exa Z h0 o0 "com/example/wicker_store/wickerstore/ExampleMatcher$GenericPropertyMatcher") (F_stringMatcher_o0 : Fld Z h0 o0 "com/example/wicker_store/wickerstore/ExampleMatcher$GenericPropertyMatcher" "stringMatcher" "Lcom/example/wicker_store/wickerstore/ExampleMatcher$StringMatcher;" (.ref o1)) (F_ignoringCase_o0 : Fld Z h0 o0 "com/example/wicker_store/wickerstore/ExampleMatcher$GenericPropertyMatcher" "ignoringCase" "Ljava/lang/Boolean;" .null) :
    Ctr l Z y8 prog_4_method_12_code 2 (some (.object "com/example/wicker_store/wickerstore/ExampleMatcher$GenericPropertyMatcher")) ({ frames := 2, cells := 1, slots := 2, locals := 27 } : Room) #[(.ref o0), (.int (0 : Int32))] h0 (fun v h L => ∃ (b0_0 : Addr), v = some (.ref b0_0) ∧ Fr Z.heap.size L ∧ Keep h0 h [] ∧ h0.size ≤ b0_0 ∧ Exa Z h b0_0 "com/example/wicker_store/wickerstore/ExampleMatcher$GenericPropertyMatcher" ∧ Fld Z h b0_0 "com/example/wicker_store/wickerstore/ExampleMatcher$GenericPropertyMatcher" "stringMatcher" "Lcom/example/wicker_store/wickerstore/ExampleMatcher$StringMatcher;" (.ref o1) ∧ Fld Z h b0_0 "com/example/wicker_store/wickerstore/ExampleMatcher$GenericPropertyMatcher" "ignoringCase" "Ljava/lang/Boolean;" (.ref w_FALSE)) := by
  refine Ctr.body (plainFor_of_name pn_1) ?_
  intro p e s m below meth c T X hx hby hml hown hnm hret hlk hZ eT
  have hml : c.maxLocals = 2 := hml
  have hown : s.vm.findClass "com/example/wicker_store/wickerstore/ExampleMatcher$GenericPropertyMatcher" = some m.cls := hown
  have hnm : meth.name = "ignoreCase" := hnm
  have hret : meth.sig.returnType = (some (.object "com/example/wicker_store/wickerstore/ExampleMatcher$GenericPropertyMatcher")) := hret
  refine Run.cast (show entryFrame m #[(.ref o0), (.int (0 : Int32))] 2 = mkF m 0 #[.val (.ref o0), .val (.int (0 : Int32))] [] from by first | (simp [entryFrame, mkF, argsToLocals, Value.category]; done) | rfl) ?_
  have wd0 := wd
  obtain ⟨S_w_DEFAULT, E_w_DEFAULT, S_w_ENDING, E_w_ENDING, S_w_EXACT, E_w_EXACT, S_w_REGEX, E_w_REGEX, S_w_STARTING, E_w_STARTING, S_w_CONTAINING, E_w_CONTAINING, S_w_FALSE, E_w_FALSE, S_w_TRUE, E_w_TRUE, F_value_w_FALSE, F_value_w_TRUE⟩ := wd
  have wd := wd0
  have N : Fr Z.heap.size [] := Fr.nil _
  have KK : Keep h0 h0 [] := Keep.refl h0 []
  refine q_new (pc' := 3) X hx hZ hown (hb hby d_prog_4_method_12_code_0) (t31 hw) (t11 hw) (t12 hw) eT (by decide) (by decide) rfl ?_
  intro T h_1 b0_0 X eT Ex gb Ax Dx
  have ne_o0_b0_0 : o0 ≠ b0_0 := Nat.ne_of_lt (Nat.lt_of_lt_of_le E_o0.lt (Nat.le_of_eq gb.symm))
  have ne_o1_b0_0 : o1 ≠ b0_0 := Nat.ne_of_lt (Nat.lt_of_lt_of_le E_o1.lt (Nat.le_of_eq gb.symm))
  have g_b0_0 : Z.heap.size ≤ b0_0 := Nat.le_trans O.1 (Nat.le_of_eq gb.symm)
  have sz_b0_0 : h0.size ≤ b0_0 := Nat.le_trans KK.1 (Nat.le_of_eq gb.symm)
  have KK := KK.ext Ex
  have O := ext_trans O Ex
  have E_o1 := E_o1.ext Ex
  have E_o0 := E_o0.ext Ex
  have F_stringMatcher_o0 := F_stringMatcher_o0.ext Ex
  have F_ignoringCase_o0 := F_ignoringCase_o0.ext Ex
  have E_b0_0 := Ax
  have F_stringMatcher_b0_0 : Fld Z h_1 b0_0 "com/example/wicker_store/wickerstore/ExampleMatcher$GenericPropertyMatcher" "stringMatcher" "Lcom/example/wicker_store/wickerstore/ExampleMatcher$StringMatcher;" .null := Dx (Or.inr (t23 hw)) (ty := (.object "com/example/wicker_store/wickerstore/ExampleMatcher$StringMatcher")) (by decide)
  have F_ignoringCase_b0_0 : Fld Z h_1 b0_0 "com/example/wicker_store/wickerstore/ExampleMatcher$GenericPropertyMatcher" "ignoringCase" "Ljava/lang/Boolean;" .null := Dx (Or.inr (t25 hw)) (ty := (.object "java/lang/Boolean")) (by decide)
  refine q_dup (pc' := 4) X hx (hb hby d_prog_4_method_12_code_3) rfl rfl ?_
  refine q_aloadN (pc' := 5) X hx (hb hby d_prog_4_method_12_code_4) rfl rfl rfl ?_
  refine q_getF (pc' := 8) X hx hZ hown (hb hby d_prog_4_method_12_code_5) (host := "") (Or.inl (t22 hw)) eT F_stringMatcher_o0 rfl ?_
  intro T X eT
  refine q_iloadN (pc' := 9) X hx (hb hby d_prog_4_method_12_code_8) rfl rfl ?_
  refine q_callC (pc' := 12) (y := y7) (rest := [(.ref o1), (.ref b0_0), (.ref b0_0)]) X hx hZ hown (hb hby d_prog_4_method_12_code_9) (t51 hw) (t52 hw) (t53 hw) (t54 hw) (by decide) eT [(.int (0 : Int32))] (c20_valueOf hw wd  O) (by rw [hml]; rfl) (lenOf pd_7 rfl) (W := 3) rfl (by decide) (by decide) (by decide) (by decide) rfl ?_
  rintro _ T _ X ⟨rfl, rfl, eT⟩
  rw [List.append_nil] at X
  show Run p e below _ (T.setTop (mkF m 12 _ [(.ref w_FALSE), (.ref o1), (.ref b0_0), (.ref b0_0)]))
  refine q_callN (pc' := 15) (y := y1) (rest := [(.ref b0_0)]) (b := b0_0) X hx hZ hown (hb hby d_prog_4_method_12_code_12) rfl (t16 hw) (t17 hw) (t12 hw) (t18 hw) (by decide) eT [(.ref o1), (.ref w_FALSE)] (c25_init hw wd  O E_o1 E_b0_0 F_stringMatcher_b0_0 F_ignoringCase_b0_0 g_b0_0) (by rw [hml]; rfl) (lenOf pd_1 rfl) (W := 1) rfl (by decide) (by decide) (by decide) (by decide) rfl ?_
  rintro _ T _ X ⟨rfl, NL, KL, E_b0_0, F_stringMatcher_b0_0, F_ignoringCase_b0_0⟩
  have N := N.app NL
  obtain ⟨h_3, eT⟩ : ∃ z, T.heap = z := ⟨_, rfl⟩
  rw [eT] at KL E_b0_0 F_stringMatcher_b0_0 F_ignoringCase_b0_0
  have O := ext_keep O KL (allS g_b0_0 all0)
  have KK := KK.trans KL (allS (Or.inr sz_b0_0) all0)
  have E_o1 := E_o1.keep KL
  have E_o0 := E_o0.keep KL
  have F_stringMatcher_o0 := F_stringMatcher_o0.keep KL (ninS ne_o0_b0_0 nin0)
  have F_ignoringCase_o0 := F_ignoringCase_o0.keep KL (ninS ne_o0_b0_0 nin0)
  show Run p e below _ (T.setTop (mkF m 15 _ [(.ref b0_0)]))
  refine Run.retR X hx hlk hret (hb hby d_prog_4_method_12_code_15) rfl rfl (by decide) (by decide) ?_
  try rw [eT]
  exact ⟨b0_0, rfl, N, KK, sz_b0_0, E_b0_0, F_stringMatcher_b0_0, F_ignoringCase_b0_0⟩
set_option maxRecDepth 65536 in
set_option maxHeartbeats 40000000 in
theorem c32_stringMatcher {l : Launch} {Z : State} {a0 : Array Value} (hw : ∀ d ∈ tables_1, d.before a0 Z = true) {w_DEFAULT : Addr} {w_ENDING : Addr} {w_EXACT : Addr} {w_REGEX : Addr} {w_STARTING : Addr} {w_CONTAINING : Addr} {w_FALSE : Addr} {w_TRUE : Addr} (wd : World Z w_DEFAULT w_ENDING w_EXACT w_REGEX w_STARTING w_CONTAINING w_FALSE w_TRUE)  {h0 : Heap} (O : Ext Z.heap h0) {o0 : Addr} {o1 : Addr} {o2 : Addr} (E_o2 : Exa Z h0 o2 "com/example/wicker_store/wickerstore/ExampleMatcher$StringMatcher") (E_o1 : Exa Z h0 o1 "com/example/wicker_store/wickerstore/ExampleMatcher$StringMatcher") (E_o0 : Exa Z h0 o0 "com/example/wicker_store/wickerstore/ExampleMatcher$GenericPropertyMatcher") (F_stringMatcher_o0 : Fld Z h0 o0 "com/example/wicker_store/wickerstore/ExampleMatcher$GenericPropertyMatcher" "stringMatcher" "Lcom/example/wicker_store/wickerstore/ExampleMatcher$StringMatcher;" (.ref o1)) (F_ignoringCase_o0 : Fld Z h0 o0 "com/example/wicker_store/wickerstore/ExampleMatcher$GenericPropertyMatcher" "ignoringCase" "Ljava/lang/Boolean;" (.ref w_FALSE)) :
    CtrW l Z y6 prog_4_method_10_code 2 (some (.object "com/example/wicker_store/wickerstore/ExampleMatcher$GenericPropertyMatcher")) ({ frames := 2, cells := 3, slots := 62, locals := 27 } : Room) #[(.ref o0), (.ref o2)] h0 (fun v h L => ∃ (b0_0 : Addr), v = some (.ref b0_0) ∧ Fr Z.heap.size L ∧ Keep h0 h [] ∧ h0.size ≤ b0_0 ∧ Exa Z h b0_0 "com/example/wicker_store/wickerstore/ExampleMatcher$GenericPropertyMatcher" ∧ Fld Z h b0_0 "com/example/wicker_store/wickerstore/ExampleMatcher$GenericPropertyMatcher" "stringMatcher" "Lcom/example/wicker_store/wickerstore/ExampleMatcher$StringMatcher;" (.ref o2) ∧ Fld Z h b0_0 "com/example/wicker_store/wickerstore/ExampleMatcher$GenericPropertyMatcher" "ignoringCase" "Ljava/lang/Boolean;" (.ref w_FALSE)) := by
  refine CtrW.body (plainFor_of_name pn_1) ?_
  intro p e s m below meth c T vm kS X hx hby hml hown hnm hret hlk hZ eT hS hk
  have hml : c.maxLocals = 2 := hml
  have hown : (s.setVm vm).vm.findClass "com/example/wicker_store/wickerstore/ExampleMatcher$GenericPropertyMatcher" = some m.cls := hown
  have hnm : meth.name = "stringMatcher" := hnm
  have hret : meth.sig.returnType = (some (.object "com/example/wicker_store/wickerstore/ExampleMatcher$GenericPropertyMatcher")) := hret
  refine Run.cast (show entryFrame m #[(.ref o0), (.ref o2)] 2 = mkF m 0 #[.val (.ref o0), .val (.ref o2)] [] from by first | (simp [entryFrame, mkF, argsToLocals, Value.category]; done) | rfl) ?_
  have wd0 := wd
  obtain ⟨S_w_DEFAULT, E_w_DEFAULT, S_w_ENDING, E_w_ENDING, S_w_EXACT, E_w_EXACT, S_w_REGEX, E_w_REGEX, S_w_STARTING, E_w_STARTING, S_w_CONTAINING, E_w_CONTAINING, S_w_FALSE, E_w_FALSE, S_w_TRUE, E_w_TRUE, F_value_w_FALSE, F_value_w_TRUE⟩ := wd
  have wd := wd0
  have N : Fr Z.heap.size [] := Fr.nil _
  have KK : Keep h0 h0 [] := Keep.refl h0 []
  refine q_new (pc' := 3) X hx hZ hown (hb hby d_prog_4_method_10_code_0) (t31 hw) (t11 hw) (t12 hw) eT (by decide) (by decide) rfl ?_
  intro T h_1 b0_0 X eT Ex gb Ax Dx
  have ne_o0_b0_0 : o0 ≠ b0_0 := Nat.ne_of_lt (Nat.lt_of_lt_of_le E_o0.lt (Nat.le_of_eq gb.symm))
  have ne_o1_b0_0 : o1 ≠ b0_0 := Nat.ne_of_lt (Nat.lt_of_lt_of_le E_o1.lt (Nat.le_of_eq gb.symm))
  have ne_o2_b0_0 : o2 ≠ b0_0 := Nat.ne_of_lt (Nat.lt_of_lt_of_le E_o2.lt (Nat.le_of_eq gb.symm))
  have g_b0_0 : Z.heap.size ≤ b0_0 := Nat.le_trans O.1 (Nat.le_of_eq gb.symm)
  have sz_b0_0 : h0.size ≤ b0_0 := Nat.le_trans KK.1 (Nat.le_of_eq gb.symm)
  have KK := KK.ext Ex
  have O := ext_trans O Ex
  have hk := Nat.le_trans hk Ex.1
  have E_o2 := E_o2.ext Ex
  have E_o1 := E_o1.ext Ex
  have E_o0 := E_o0.ext Ex
  have F_stringMatcher_o0 := F_stringMatcher_o0.ext Ex
  have F_ignoringCase_o0 := F_ignoringCase_o0.ext Ex
  have E_b0_0 := Ax
  have F_stringMatcher_b0_0 : Fld Z h_1 b0_0 "com/example/wicker_store/wickerstore/ExampleMatcher$GenericPropertyMatcher" "stringMatcher" "Lcom/example/wicker_store/wickerstore/ExampleMatcher$StringMatcher;" .null := Dx (Or.inr (t23 hw)) (ty := (.object "com/example/wicker_store/wickerstore/ExampleMatcher$StringMatcher")) (by decide)
  have F_ignoringCase_b0_0 : Fld Z h_1 b0_0 "com/example/wicker_store/wickerstore/ExampleMatcher$GenericPropertyMatcher" "ignoringCase" "Ljava/lang/Boolean;" .null := Dx (Or.inr (t25 hw)) (ty := (.object "java/lang/Boolean")) (by decide)
  refine q_dup (pc' := 4) X hx (hb hby d_prog_4_method_10_code_3) rfl rfl ?_
  refine q_aloadN (pc' := 5) X hx (hb hby d_prog_4_method_10_code_4) rfl rfl rfl ?_
  refine q_ldcS (pc' := 7) X hx hZ hown hS hk (hb hby d_prog_4_method_10_code_5) (t32 hw) (own_strings hw) eT (n := 56) (by decide) (by decide) (by decide) (by decide) rfl ?_
  intro str_2 T h_2 kS X eT Ex hS hk hZ hown
  have KK := KK.ext Ex
  have O := ext_trans O Ex
  have E_o2 := E_o2.ext Ex
  have E_o1 := E_o1.ext Ex
  have E_o0 := E_o0.ext Ex
  have F_stringMatcher_o0 := F_stringMatcher_o0.ext Ex
  have F_ignoringCase_o0 := F_ignoringCase_o0.ext Ex
  have E_b0_0 := E_b0_0.ext Ex
  have F_stringMatcher_b0_0 := F_stringMatcher_b0_0.ext Ex
  have F_ignoringCase_b0_0 := F_ignoringCase_b0_0.ext Ex
  refine q_callC (pc' := 10) (y := y5) (rest := [(.ref b0_0), (.ref b0_0)]) X hx hZ hown (hb hby d_prog_4_method_10_code_7) (t40 hw) (t41 hw) (t42 hw) (t43 hw) (by decide) eT [(.ref o2), (.ref str_2)] (c6_requireNonNull hw wd  O E_o2) (by rw [hml]; rfl) (lenOf pd_5 rfl) (W := 2) rfl (by decide) (by decide) (by decide) (by decide) rfl ?_
  rintro _ T _ X ⟨rfl, rfl, eT⟩
  rw [List.append_nil] at X
  show Run p e below _ (T.setTop (mkF m 10 _ [(.ref o2), (.ref b0_0), (.ref b0_0)]))
  refine q_cast (pc' := 13) X hx hZ hown (hb hby d_prog_4_method_10_code_10) (t44 hw) eT (Or.inr ⟨_, rfl, Ins.self E_o2⟩) rfl ?_
  intro T X eT
  refine q_aloadN (pc' := 14) X hx (hb hby d_prog_4_method_10_code_13) rfl rfl rfl ?_
  refine q_getF (pc' := 17) X hx hZ hown (hb hby d_prog_4_method_10_code_14) (host := "") (Or.inl (t24 hw)) eT F_ignoringCase_o0 rfl ?_
  intro T X eT
  refine q_callN (pc' := 20) (y := y1) (rest := [(.ref b0_0)]) (b := b0_0) X hx hZ hown (hb hby d_prog_4_method_10_code_17) rfl (t16 hw) (t17 hw) (t12 hw) (t18 hw) (by decide) eT [(.ref o2), (.ref w_FALSE)] (c25_init hw wd  O E_o2 E_b0_0 F_stringMatcher_b0_0 F_ignoringCase_b0_0 g_b0_0) (by rw [hml]; rfl) (lenOf pd_1 rfl) (W := 1) rfl (by decide) (by decide) (by decide) (by decide) rfl ?_
  rintro _ T _ X ⟨rfl, NL, KL, E_b0_0, F_stringMatcher_b0_0, F_ignoringCase_b0_0⟩
  have N := N.app NL
  obtain ⟨h_4, eT⟩ : ∃ z, T.heap = z := ⟨_, rfl⟩
  rw [eT] at KL E_b0_0 F_stringMatcher_b0_0 F_ignoringCase_b0_0
  have O := ext_keep O KL (allS g_b0_0 all0)
  have KK := KK.trans KL (allS (Or.inr sz_b0_0) all0)
  have hk := Nat.le_trans hk KL.1
  have E_o2 := E_o2.keep KL
  have E_o1 := E_o1.keep KL
  have E_o0 := E_o0.keep KL
  have F_stringMatcher_o0 := F_stringMatcher_o0.keep KL (ninS ne_o0_b0_0 nin0)
  have F_ignoringCase_o0 := F_ignoringCase_o0.keep KL (ninS ne_o0_b0_0 nin0)
  show Run p e below _ (T.setTop (mkF m 20 _ [(.ref b0_0)]))
  refine Run.retRW X hx hlk hS (by rw [eT]; exact hk) hret (hb hby d_prog_4_method_10_code_20) rfl rfl (by decide) (by decide) ?_
  try rw [eT]
  exact ⟨b0_0, rfl, N, KK, sz_b0_0, E_b0_0, F_stringMatcher_b0_0, F_ignoringCase_b0_0⟩
set_option maxRecDepth 65536 in
set_option maxHeartbeats 40000000 in
theorem law_all {l : Launch} {Z : State} {a0 : Array Value} (hw : ∀ d ∈ tables_1, d.before a0 Z = true) {w_DEFAULT : Addr} {w_ENDING : Addr} {w_EXACT : Addr} {w_REGEX : Addr} {w_STARTING : Addr} {w_CONTAINING : Addr} {w_FALSE : Addr} {w_TRUE : Addr} (wd : World Z w_DEFAULT w_ENDING w_EXACT w_REGEX w_STARTING w_CONTAINING w_FALSE w_TRUE) (p1 : Int32) (p2 : Int32) (p3 : Int32) {h0 : Heap} (O : Ext Z.heap h0) :
    CtrW l Z x code maxLocals ret room_1 #[(.int p1), (.int p2), (.int p3)] h0 (fun v h L => v = some (.int (1 : Int32)) ∧ Fr Z.heap.size L) := by
  refine CtrW.body (plainFor_of_name pn_0) ?_
  intro p e s m below meth c T vm kS X hx hby hml hown hnm hret hlk hZ eT hS hk
  have hml : c.maxLocals = 10 := hml
  have hown : (s.setVm vm).vm.findClass "com/example/wicker_store/wickerstore/GenericPropertyMatcherStringMatcherPinLaw" = some m.cls := hown
  have hnm : meth.name = "law" := hnm
  have hret : meth.sig.returnType = (some .boolean) := hret
  refine Run.cast (show entryFrame m #[(.int p1), (.int p2), (.int p3)] maxLocals = mkF m 0 #[.val (.int p1), .val (.int p2), .val (.int p3), .unset, .unset, .unset, .unset, .unset, .unset, .unset] [] from by first | (simp [entryFrame, mkF, argsToLocals, Value.category, maxLocals]; done) | rfl) ?_
  have wd0 := wd
  obtain ⟨S_w_DEFAULT, E_w_DEFAULT, S_w_ENDING, E_w_ENDING, S_w_EXACT, E_w_EXACT, S_w_REGEX, E_w_REGEX, S_w_STARTING, E_w_STARTING, S_w_CONTAINING, E_w_CONTAINING, S_w_FALSE, E_w_FALSE, S_w_TRUE, E_w_TRUE, F_value_w_FALSE, F_value_w_TRUE⟩ := wd
  have wd := wd0
  have N : Fr Z.heap.size [] := Fr.nil _
  refine q_iloadN (pc' := 1) X hx (hb hby at_0) rfl rfl ?_
  refine q_callC (pc' := 4) (y := y0) (rest := []) X hx hZ hown (hb hby at_1) (t0 hw) (t1 hw) (t2 hw) (t3 hw) (by decide) eT [(.int p1)] (own_pick hw wd p1 O) (by rw [hml]; rfl) (lenOf pd_0 rfl) (W := 0) rfl (by decide) (by decide) (by decide) (by decide) rfl ?_
  rintro _ T _ X ⟨sm_1, rfl, rfl, eT, Eo⟩
  rw [List.append_nil] at X
  have E_sm_1 := Eo.ext O
  show Run p e below _ (T.setTop (mkF m 4 _ [(.ref sm_1)]))
  refine q_astoreN (pc' := 5) (l' := #[.val (.int p1), .val (.int p2), .val (.int p3), .val (.ref sm_1), .unset, .unset, .unset, .unset, .unset, .unset]) X hx (hb hby at_4) rfl rfl rfl ?_
  refine q_iloadN (pc' := 6) X hx (hb hby at_5) rfl rfl ?_
  refine q_ldc (pc' := 8) (v := (2147483647 : Int32)) X hx hZ hown (hb hby at_6) (t4 hw) rfl ?_
  refine q_iand (pc' := 9) (z := (p2 &&& (2147483647 : Int32))) X hx (hb hby at_8) rfl rfl ?_
  refine q_bipush (pc' := 11) (z := (7 : Int32)) X hx (hb hby at_9) rfl rfl ?_
  refine q_irem (pc' := 12) (z := ((p2 &&& (2147483647 : Int32)) % (7 : Int32))) X hx (hb hby at_11) (by decide) rfl rfl ?_
  refine q_istore (pc' := 14) (l' := #[.val (.int p1), .val (.int p2), .val (.int p3), .val (.ref sm_1), .val (.int ((p2 &&& (2147483647 : Int32)) % (7 : Int32))), .unset, .unset, .unset, .unset, .unset]) X hx (hb hby at_12) rfl rfl ?_
  refine q_null (pc' := 15) X hx (hb hby at_14) rfl ?_
  refine q_astore (pc' := 17) (l' := #[.val (.int p1), .val (.int p2), .val (.int p3), .val (.ref sm_1), .val (.int ((p2 &&& (2147483647 : Int32)) % (7 : Int32))), .val .null, .unset, .unset, .unset, .unset]) X hx (hb hby at_15) rfl rfl rfl ?_
  refine q_iload (pc' := 19) X hx (hb hby at_17) rfl rfl ?_
  refine q_bipush (pc' := 21) (z := (6 : Int32)) X hx (hb hby at_19) rfl rfl ?_
  rcases Bool.eq_false_or_eq_true (if_icmp.holds .eq ((p2 &&& (2147483647 : Int32)) % (7 : Int32)) (6 : Int32)) with hc21 | hc21
  · refine q_icmpYes (pc' := 31) X hx (hb hby at_21) hc21 (by decide) (by decide) ?_
    refine q_iloadN (pc' := 32) X hx (hb hby at_31) rfl rfl ?_
    refine q_ldc (pc' := 34) (v := (2147483647 : Int32)) X hx hZ hown (hb hby at_32) (t4 hw) rfl ?_
    refine q_iand (pc' := 35) (z := (p3 &&& (2147483647 : Int32))) X hx (hb hby at_34) rfl rfl ?_
    refine q_iconst (pc' := 36) (z := (3 : Int32)) X hx (hb hby at_35) rfl rfl ?_
    refine q_irem (pc' := 37) (z := ((p3 &&& (2147483647 : Int32)) % (3 : Int32))) X hx (hb hby at_36) (by decide) rfl rfl ?_
    refine q_istore (pc' := 39) (l' := #[.val (.int p1), .val (.int p2), .val (.int p3), .val (.ref sm_1), .val (.int ((p2 &&& (2147483647 : Int32)) % (7 : Int32))), .val .null, .val (.int ((p3 &&& (2147483647 : Int32)) % (3 : Int32))), .unset, .unset, .unset]) X hx (hb hby at_37) rfl rfl ?_
    rcases own_sel p3 with hi | hi | hi
    · rw [hi]
      refine q_new (pc' := 42) X hx hZ hown (hb hby at_39) (t10 hw) (t11 hw) (t12 hw) eT (by decide) (by decide) rfl ?_
      intro T h_2 b39_1 X eT Ex gb Ax Dx
      have g_b39_1 : Z.heap.size ≤ b39_1 := Nat.le_trans O.1 (Nat.le_of_eq gb.symm)
      have O := ext_trans O Ex
      have hk := Nat.le_trans hk Ex.1
      have E_sm_1 := E_sm_1.ext Ex
      have E_b39_1 := Ax
      have F_stringMatcher_b39_1 : Fld Z h_2 b39_1 "com/example/wicker_store/wickerstore/ExampleMatcher$GenericPropertyMatcher" "stringMatcher" "Lcom/example/wicker_store/wickerstore/ExampleMatcher$StringMatcher;" .null := Dx (Or.inr (t23 hw)) (ty := (.object "com/example/wicker_store/wickerstore/ExampleMatcher$StringMatcher")) (by decide)
      have F_ignoringCase_b39_1 : Fld Z h_2 b39_1 "com/example/wicker_store/wickerstore/ExampleMatcher$GenericPropertyMatcher" "ignoringCase" "Ljava/lang/Boolean;" .null := Dx (Or.inr (t25 hw)) (ty := (.object "java/lang/Boolean")) (by decide)
      refine q_dup (pc' := 43) X hx (hb hby at_42) rfl rfl ?_
      refine q_callN (pc' := 46) (y := y2) (rest := [(.ref b39_1)]) (b := b39_1) X hx hZ hown (hb hby at_43) rfl (t13 hw) (t14 hw) (t12 hw) (t15 hw) (by decide) eT [] (c1_init hw wd  O E_b39_1 F_stringMatcher_b39_1 F_ignoringCase_b39_1 g_b39_1) (by rw [hml]; rfl) (lenOf pd_2 rfl) (W := 1) rfl (by decide) (by decide) (by decide) (by decide) rfl ?_
      rintro _ T _ X ⟨rfl, NL, KL, E_b39_1, F_stringMatcher_b39_1, F_ignoringCase_b39_1⟩
      have N := N.app NL
      obtain ⟨h_4, eT⟩ : ∃ z, T.heap = z := ⟨_, rfl⟩
      rw [eT] at KL E_b39_1 F_stringMatcher_b39_1 F_ignoringCase_b39_1
      have O := ext_keep O KL (allS g_b39_1 all0)
      have hk := Nat.le_trans hk KL.1
      have E_sm_1 := E_sm_1.keep KL
      show Run p e below _ (T.setTop (mkF m 46 _ [(.ref b39_1)]))
      refine q_astore (pc' := 48) (l' := #[.val (.int p1), .val (.int p2), .val (.int p3), .val (.ref sm_1), .val (.int ((p2 &&& (2147483647 : Int32)) % (7 : Int32))), .val .null, .val (.int (0 : Int32)), .val (.ref b39_1), .unset, .unset]) X hx (hb hby at_46) rfl rfl rfl ?_
      refine q_aload (pc' := 50) X hx (hb hby at_48) rfl rfl rfl ?_
      refine q_ifnullYes (pc' := 62) X hx (hb hby at_50) (by decide) (by decide) ?_
      refine q_iload (pc' := 64) X hx (hb hby at_62) rfl rfl ?_
      refine q_iconst (pc' := 65) (z := (1 : Int32)) X hx (hb hby at_64) rfl rfl ?_
      refine q_icmpYes (pc' := 79) X hx (hb hby at_65) (by decide) (by decide) (by decide) ?_
      refine q_iload (pc' := 81) X hx (hb hby at_79) rfl rfl ?_
      refine q_iconst (pc' := 82) (z := (2 : Int32)) X hx (hb hby at_81) rfl rfl ?_
      refine q_icmpYes (pc' := 93) X hx (hb hby at_82) (by decide) (by decide) (by decide) ?_
      refine q_aload (pc' := 95) X hx (hb hby at_93) rfl rfl rfl ?_
      refine q_callV (pc' := 98) (y := y3) (rest := []) X hx hZ hown (hb hby at_95) (t56 hw) (t57 hw) (t59 hw) (t58 hw) (t12 hw) (t60 hw) (by decide) eT E_b39_1 [] (c3_getIgnoreCase hw wd  O E_b39_1 F_stringMatcher_b39_1 F_ignoringCase_b39_1) (by rw [hml]; rfl) (lenOf pd_3 rfl) (W := 0) rfl (by decide) (by decide) (by decide) (by decide) rfl ?_
      rintro _ T _ X ⟨rfl, rfl, eT⟩
      rw [List.append_nil] at X
      show Run p e below _ (T.setTop (mkF m 98 _ [.null]))
      refine q_astore (pc' := 100) (l' := #[.val (.int p1), .val (.int p2), .val (.int p3), .val (.ref sm_1), .val (.int ((p2 &&& (2147483647 : Int32)) % (7 : Int32))), .val .null, .val (.int (0 : Int32)), .val (.ref b39_1), .val .null, .unset]) X hx (hb hby at_98) rfl rfl rfl ?_
      refine q_iload (pc' := 102) X hx (hb hby at_100) rfl rfl ?_
      refine q_ifNo (pc' := 105) X hx (hb hby at_102) (by decide) rfl ?_
      refine q_iconst (pc' := 106) (z := (1 : Int32)) X hx (hb hby at_105) rfl rfl ?_
      refine q_goto (pc' := 110) X hx (hb hby at_106) (by decide) (by decide) ?_
      refine q_aload (pc' := 112) X hx (hb hby at_110) rfl rfl rfl ?_
      refine q_ifnonnullNo (pc' := 115) X hx (hb hby at_112) rfl ?_
      refine q_iconst (pc' := 116) (z := (1 : Int32)) X hx (hb hby at_115) rfl rfl ?_
      refine q_goto (pc' := 120) X hx (hb hby at_116) (by decide) (by decide) ?_
      refine q_icmpYes (pc' := 125) X hx (hb hby at_120) (by decide) (by decide) (by decide) ?_
      refine q_aload (pc' := 127) X hx (hb hby at_125) rfl rfl rfl ?_
      refine q_callV (pc' := 130) (y := y4) (rest := []) X hx hZ hown (hb hby at_127) (t61 hw) (t62 hw) (t64 hw) (t63 hw) (t12 hw) (t65 hw) (by decide) eT E_b39_1 [] (c4_getStringMatcher hw wd  O E_b39_1 F_stringMatcher_b39_1 F_ignoringCase_b39_1) (by rw [hml]; rfl) (lenOf pd_4 rfl) (W := 0) rfl (by decide) (by decide) (by decide) (by decide) rfl ?_
      rintro _ T _ X ⟨rfl, rfl, eT⟩
      rw [List.append_nil] at X
      show Run p e below _ (T.setTop (mkF m 130 _ [.null]))
      refine q_aload (pc' := 132) X hx (hb hby at_130) rfl rfl rfl ?_
      refine q_acmp (pc' := 137) (same := true) X hx (hb hby at_132) rfl rfl (decide_eq_true rfl) (by decide) (by decide) ?_
      refine q_aload (pc' := 139) X hx (hb hby at_137) rfl rfl rfl ?_
      refine q_aloadN (pc' := 140) X hx (hb hby at_139) rfl rfl rfl ?_
      have lt_b39_1 := E_b39_1.lt
      have lt_sm_1 := E_sm_1.lt
      refine q_callVW (pc' := 143) (y := y6) (rest := []) X hx hZ hown hS hk (hb hby at_140) (t26 hw) (t27 hw) (t29 hw) (t28 hw) (t12 hw) (t30 hw) (by decide) eT E_b39_1 [(.ref sm_1)] (c5_stringMatcher hw wd  O E_sm_1 E_b39_1 F_stringMatcher_b39_1 F_ignoringCase_b39_1) (by rw [hml]; rfl) (lenOf pd_6 rfl) (W := 0) rfl (by decide) (by decide) (by decide) (by decide) rfl ?_
      rintro _ T _ kS X ⟨b0_0_c5, rfl, NL, KL, szn_b0_0_c5, E_b0_0_c5, F_stringMatcher_b0_0_c5, F_ignoringCase_b0_0_c5⟩ hS hk hZ hown
      have N := N.app NL
      have ne_b39_1_b0_0_c5 : b39_1 ≠ b0_0_c5 := Nat.ne_of_lt (Nat.lt_of_lt_of_le lt_b39_1 szn_b0_0_c5)
      have ne_sm_1_b0_0_c5 : sm_1 ≠ b0_0_c5 := Nat.ne_of_lt (Nat.lt_of_lt_of_le lt_sm_1 szn_b0_0_c5)
      have g_b0_0_c5 : Z.heap.size ≤ b0_0_c5 := Nat.le_trans O.1 szn_b0_0_c5
      obtain ⟨h_6, eT⟩ : ∃ z, T.heap = z := ⟨_, rfl⟩
      rw [eT] at KL E_b0_0_c5 F_stringMatcher_b0_0_c5 F_ignoringCase_b0_0_c5 hk
      have O := ext_keep O KL all0
      have E_sm_1 := E_sm_1.keep KL
      have E_b39_1 := E_b39_1.keep KL
      have F_stringMatcher_b39_1 := F_stringMatcher_b39_1.keep KL nin0
      have F_ignoringCase_b39_1 := F_ignoringCase_b39_1.keep KL nin0
      show Run p e below _ (T.setTop (mkF m 143 _ [(.ref b0_0_c5)]))
      refine q_astore (pc' := 145) (l' := #[.val (.int p1), .val (.int p2), .val (.int p3), .val (.ref sm_1), .val (.int ((p2 &&& (2147483647 : Int32)) % (7 : Int32))), .val .null, .val (.int (0 : Int32)), .val (.ref b39_1), .val .null, .val (.ref b0_0_c5)]) X hx (hb hby at_143) rfl rfl rfl ?_
      refine q_aload (pc' := 147) X hx (hb hby at_145) rfl rfl rfl ?_
      refine q_ifnullNo (pc' := 150) X hx (hb hby at_147) rfl ?_
      refine q_aload (pc' := 152) X hx (hb hby at_150) rfl rfl rfl ?_
      refine q_aload (pc' := 154) X hx (hb hby at_152) rfl rfl rfl ?_
      refine q_acmp (pc' := 159) (same := false) X hx (hb hby at_154) rfl rfl (decide_eq_false fun q => (Ne.symm ne_b39_1_b0_0_c5) (Value.ref.inj q)) (by decide) (by decide) ?_
      refine q_aload (pc' := 161) X hx (hb hby at_159) rfl rfl rfl ?_
      refine q_callV (pc' := 164) (y := y4) (rest := []) X hx hZ hown (hb hby at_161) (t61 hw) (t62 hw) (t64 hw) (t63 hw) (t12 hw) (t65 hw) (by decide) eT E_b0_0_c5 [] (c8_getStringMatcher hw wd  O E_sm_1 E_b0_0_c5 F_stringMatcher_b0_0_c5 F_ignoringCase_b0_0_c5) (by rw [hml]; rfl) (lenOf pd_4 rfl) (W := 0) rfl (by decide) (by decide) (by decide) (by decide) rfl ?_
      rintro _ T _ X ⟨rfl, rfl, eT⟩
      rw [List.append_nil] at X
      show Run p e below _ (T.setTop (mkF m 164 _ [(.ref sm_1)]))
      refine q_aloadN (pc' := 165) X hx (hb hby at_164) rfl rfl rfl ?_
      refine q_acmp (pc' := 170) (same := true) X hx (hb hby at_165) rfl rfl (decide_eq_true rfl) (by decide) (by decide) ?_
      refine q_aload (pc' := 172) X hx (hb hby at_170) rfl rfl rfl ?_
      refine q_callV (pc' := 175) (y := y3) (rest := []) X hx hZ hown (hb hby at_172) (t56 hw) (t57 hw) (t59 hw) (t58 hw) (t12 hw) (t60 hw) (by decide) eT E_b0_0_c5 [] (c9_getIgnoreCase hw wd  O E_sm_1 E_b0_0_c5 F_stringMatcher_b0_0_c5 F_ignoringCase_b0_0_c5) (by rw [hml]; rfl) (lenOf pd_3 rfl) (W := 0) rfl (by decide) (by decide) (by decide) (by decide) rfl ?_
      rintro _ T _ X ⟨rfl, rfl, eT⟩
      rw [List.append_nil] at X
      show Run p e below _ (T.setTop (mkF m 175 _ [.null]))
      refine q_aload (pc' := 177) X hx (hb hby at_175) rfl rfl rfl ?_
      refine q_acmp (pc' := 182) (same := true) X hx (hb hby at_177) rfl rfl (decide_eq_true rfl) (by decide) (by decide) ?_
      refine q_aload (pc' := 184) X hx (hb hby at_182) rfl rfl rfl ?_
      refine q_callV (pc' := 187) (y := y4) (rest := []) X hx hZ hown (hb hby at_184) (t61 hw) (t62 hw) (t64 hw) (t63 hw) (t12 hw) (t65 hw) (by decide) eT E_b39_1 [] (c4_getStringMatcher hw wd  O E_b39_1 F_stringMatcher_b39_1 F_ignoringCase_b39_1) (by rw [hml]; rfl) (lenOf pd_4 rfl) (W := 0) rfl (by decide) (by decide) (by decide) (by decide) rfl ?_
      rintro _ T _ X ⟨rfl, rfl, eT⟩
      rw [List.append_nil] at X
      show Run p e below _ (T.setTop (mkF m 187 _ [.null]))
      refine q_aload (pc' := 189) X hx (hb hby at_187) rfl rfl rfl ?_
      refine q_acmp (pc' := 194) (same := true) X hx (hb hby at_189) rfl rfl (decide_eq_true rfl) (by decide) (by decide) ?_
      refine q_aload (pc' := 196) X hx (hb hby at_194) rfl rfl rfl ?_
      refine q_callV (pc' := 199) (y := y3) (rest := []) X hx hZ hown (hb hby at_196) (t56 hw) (t57 hw) (t59 hw) (t58 hw) (t12 hw) (t60 hw) (by decide) eT E_b39_1 [] (c3_getIgnoreCase hw wd  O E_b39_1 F_stringMatcher_b39_1 F_ignoringCase_b39_1) (by rw [hml]; rfl) (lenOf pd_3 rfl) (W := 0) rfl (by decide) (by decide) (by decide) (by decide) rfl ?_
      rintro _ T _ X ⟨rfl, rfl, eT⟩
      rw [List.append_nil] at X
      show Run p e below _ (T.setTop (mkF m 199 _ [.null]))
      refine q_aload (pc' := 201) X hx (hb hby at_199) rfl rfl rfl ?_
      refine q_acmp (pc' := 204) (same := true) X hx (hb hby at_201) rfl rfl (decide_eq_true rfl) (by decide) (by decide) ?_
      refine q_iconst (pc' := 205) (z := (1 : Int32)) X hx (hb hby at_204) rfl rfl ?_
      refine q_goto (pc' := 209) X hx (hb hby at_205) (by decide) (by decide) ?_
      refine Run.retBW X hx hlk hS (by rw [eT]; exact hk) hret (hb hby at_209) rfl (by decide) (by decide) ?_
      try rw [eT]
      exact ⟨rfl, N⟩
    · rw [hi]
      refine q_new (pc' := 42) X hx hZ hown (hb hby at_39) (t10 hw) (t11 hw) (t12 hw) eT (by decide) (by decide) rfl ?_
      intro T h_2 b39_1 X eT Ex gb Ax Dx
      have g_b39_1 : Z.heap.size ≤ b39_1 := Nat.le_trans O.1 (Nat.le_of_eq gb.symm)
      have O := ext_trans O Ex
      have hk := Nat.le_trans hk Ex.1
      have E_sm_1 := E_sm_1.ext Ex
      have E_b39_1 := Ax
      have F_stringMatcher_b39_1 : Fld Z h_2 b39_1 "com/example/wicker_store/wickerstore/ExampleMatcher$GenericPropertyMatcher" "stringMatcher" "Lcom/example/wicker_store/wickerstore/ExampleMatcher$StringMatcher;" .null := Dx (Or.inr (t23 hw)) (ty := (.object "com/example/wicker_store/wickerstore/ExampleMatcher$StringMatcher")) (by decide)
      have F_ignoringCase_b39_1 : Fld Z h_2 b39_1 "com/example/wicker_store/wickerstore/ExampleMatcher$GenericPropertyMatcher" "ignoringCase" "Ljava/lang/Boolean;" .null := Dx (Or.inr (t25 hw)) (ty := (.object "java/lang/Boolean")) (by decide)
      refine q_dup (pc' := 43) X hx (hb hby at_42) rfl rfl ?_
      refine q_callN (pc' := 46) (y := y2) (rest := [(.ref b39_1)]) (b := b39_1) X hx hZ hown (hb hby at_43) rfl (t13 hw) (t14 hw) (t12 hw) (t15 hw) (by decide) eT [] (c1_init hw wd  O E_b39_1 F_stringMatcher_b39_1 F_ignoringCase_b39_1 g_b39_1) (by rw [hml]; rfl) (lenOf pd_2 rfl) (W := 1) rfl (by decide) (by decide) (by decide) (by decide) rfl ?_
      rintro _ T _ X ⟨rfl, NL, KL, E_b39_1, F_stringMatcher_b39_1, F_ignoringCase_b39_1⟩
      have N := N.app NL
      obtain ⟨h_4, eT⟩ : ∃ z, T.heap = z := ⟨_, rfl⟩
      rw [eT] at KL E_b39_1 F_stringMatcher_b39_1 F_ignoringCase_b39_1
      have O := ext_keep O KL (allS g_b39_1 all0)
      have hk := Nat.le_trans hk KL.1
      have E_sm_1 := E_sm_1.keep KL
      show Run p e below _ (T.setTop (mkF m 46 _ [(.ref b39_1)]))
      refine q_astore (pc' := 48) (l' := #[.val (.int p1), .val (.int p2), .val (.int p3), .val (.ref sm_1), .val (.int ((p2 &&& (2147483647 : Int32)) % (7 : Int32))), .val .null, .val (.int (1 : Int32)), .val (.ref b39_1), .unset, .unset]) X hx (hb hby at_46) rfl rfl rfl ?_
      refine q_aload (pc' := 50) X hx (hb hby at_48) rfl rfl rfl ?_
      refine q_ifnullYes (pc' := 62) X hx (hb hby at_50) (by decide) (by decide) ?_
      refine q_iload (pc' := 64) X hx (hb hby at_62) rfl rfl ?_
      refine q_iconst (pc' := 65) (z := (1 : Int32)) X hx (hb hby at_64) rfl rfl ?_
      refine q_icmpNo (pc' := 68) X hx (hb hby at_65) (by decide) rfl ?_
      refine q_aload (pc' := 70) X hx (hb hby at_68) rfl rfl rfl ?_
      refine q_iconst (pc' := 71) (z := (1 : Int32)) X hx (hb hby at_70) rfl rfl ?_
      have lt_b39_1 := E_b39_1.lt
      refine q_callV (pc' := 74) (y := y8) (rest := []) X hx hZ hown (hb hby at_71) (t46 hw) (t47 hw) (t49 hw) (t48 hw) (t12 hw) (t50 hw) (by decide) eT E_b39_1 [(.int (1 : Int32))] (c10_ignoreCase hw wd  O E_b39_1 F_stringMatcher_b39_1 F_ignoringCase_b39_1) (by rw [hml]; rfl) (lenOf pd_8 rfl) (W := 0) rfl (by decide) (by decide) (by decide) (by decide) rfl ?_
      rintro _ T _ X ⟨b0_0_c5, rfl, NL, KL, szn_b0_0_c5, E_b0_0_c5, F_stringMatcher_b0_0_c5, F_ignoringCase_b0_0_c5⟩
      have N := N.app NL
      have ne_b39_1_b0_0_c5 : b39_1 ≠ b0_0_c5 := Nat.ne_of_lt (Nat.lt_of_lt_of_le lt_b39_1 szn_b0_0_c5)
      have g_b0_0_c5 : Z.heap.size ≤ b0_0_c5 := Nat.le_trans O.1 szn_b0_0_c5
      obtain ⟨h_6, eT⟩ : ∃ z, T.heap = z := ⟨_, rfl⟩
      rw [eT] at KL E_b0_0_c5 F_stringMatcher_b0_0_c5 F_ignoringCase_b0_0_c5
      have O := ext_keep O KL all0
      have hk := Nat.le_trans hk KL.1
      have E_sm_1 := E_sm_1.keep KL
      have E_b39_1 := E_b39_1.keep KL
      have F_stringMatcher_b39_1 := F_stringMatcher_b39_1.keep KL nin0
      have F_ignoringCase_b39_1 := F_ignoringCase_b39_1.keep KL nin0
      show Run p e below _ (T.setTop (mkF m 74 _ [(.ref b0_0_c5)]))
      refine q_astore (pc' := 76) (l' := #[.val (.int p1), .val (.int p2), .val (.int p3), .val (.ref sm_1), .val (.int ((p2 &&& (2147483647 : Int32)) % (7 : Int32))), .val .null, .val (.int (1 : Int32)), .val (.ref b0_0_c5), .unset, .unset]) X hx (hb hby at_74) rfl rfl rfl ?_
      refine q_goto (pc' := 93) X hx (hb hby at_76) (by decide) (by decide) ?_
      refine q_aload (pc' := 95) X hx (hb hby at_93) rfl rfl rfl ?_
      refine q_callV (pc' := 98) (y := y3) (rest := []) X hx hZ hown (hb hby at_95) (t56 hw) (t57 hw) (t59 hw) (t58 hw) (t12 hw) (t60 hw) (by decide) eT E_b0_0_c5 [] (c13_getIgnoreCase hw wd  O E_b0_0_c5 F_stringMatcher_b0_0_c5 F_ignoringCase_b0_0_c5) (by rw [hml]; rfl) (lenOf pd_3 rfl) (W := 0) rfl (by decide) (by decide) (by decide) (by decide) rfl ?_
      rintro _ T _ X ⟨rfl, rfl, eT⟩
      rw [List.append_nil] at X
      show Run p e below _ (T.setTop (mkF m 98 _ [(.ref w_TRUE)]))
      refine q_astore (pc' := 100) (l' := #[.val (.int p1), .val (.int p2), .val (.int p3), .val (.ref sm_1), .val (.int ((p2 &&& (2147483647 : Int32)) % (7 : Int32))), .val .null, .val (.int (1 : Int32)), .val (.ref b0_0_c5), .val (.ref w_TRUE), .unset]) X hx (hb hby at_98) rfl rfl rfl ?_
      refine q_iload (pc' := 102) X hx (hb hby at_100) rfl rfl ?_
      refine q_ifYes (pc' := 109) X hx (hb hby at_102) (by decide) (by decide) (by decide) ?_
      refine q_iconst (pc' := 110) (z := (0 : Int32)) X hx (hb hby at_109) rfl rfl ?_
      refine q_aload (pc' := 112) X hx (hb hby at_110) rfl rfl rfl ?_
      refine q_ifnonnullYes (pc' := 119) X hx (hb hby at_112) (by decide) (by decide) ?_
      refine q_iconst (pc' := 120) (z := (0 : Int32)) X hx (hb hby at_119) rfl rfl ?_
      refine q_icmpYes (pc' := 125) X hx (hb hby at_120) (by decide) (by decide) (by decide) ?_
      refine q_aload (pc' := 127) X hx (hb hby at_125) rfl rfl rfl ?_
      refine q_callV (pc' := 130) (y := y4) (rest := []) X hx hZ hown (hb hby at_127) (t61 hw) (t62 hw) (t64 hw) (t63 hw) (t12 hw) (t65 hw) (by decide) eT E_b0_0_c5 [] (c14_getStringMatcher hw wd  O E_b0_0_c5 F_stringMatcher_b0_0_c5 F_ignoringCase_b0_0_c5) (by rw [hml]; rfl) (lenOf pd_4 rfl) (W := 0) rfl (by decide) (by decide) (by decide) (by decide) rfl ?_
      rintro _ T _ X ⟨rfl, rfl, eT⟩
      rw [List.append_nil] at X
      show Run p e below _ (T.setTop (mkF m 130 _ [.null]))
      refine q_aload (pc' := 132) X hx (hb hby at_130) rfl rfl rfl ?_
      refine q_acmp (pc' := 137) (same := true) X hx (hb hby at_132) rfl rfl (decide_eq_true rfl) (by decide) (by decide) ?_
      refine q_aload (pc' := 139) X hx (hb hby at_137) rfl rfl rfl ?_
      refine q_aloadN (pc' := 140) X hx (hb hby at_139) rfl rfl rfl ?_
      have lt_b39_1 := E_b39_1.lt
      have lt_b0_0_c5 := E_b0_0_c5.lt
      have lt_sm_1 := E_sm_1.lt
      refine q_callVW (pc' := 143) (y := y6) (rest := []) X hx hZ hown hS hk (hb hby at_140) (t26 hw) (t27 hw) (t29 hw) (t28 hw) (t12 hw) (t30 hw) (by decide) eT E_b0_0_c5 [(.ref sm_1)] (c15_stringMatcher hw wd  O E_sm_1 E_b0_0_c5 F_stringMatcher_b0_0_c5 F_ignoringCase_b0_0_c5) (by rw [hml]; rfl) (lenOf pd_6 rfl) (W := 0) rfl (by decide) (by decide) (by decide) (by decide) rfl ?_
      rintro _ T _ kS X ⟨b0_0_c7, rfl, NL, KL, szn_b0_0_c7, E_b0_0_c7, F_stringMatcher_b0_0_c7, F_ignoringCase_b0_0_c7⟩ hS hk hZ hown
      have N := N.app NL
      have ne_b39_1_b0_0_c7 : b39_1 ≠ b0_0_c7 := Nat.ne_of_lt (Nat.lt_of_lt_of_le lt_b39_1 szn_b0_0_c7)
      have ne_b0_0_c5_b0_0_c7 : b0_0_c5 ≠ b0_0_c7 := Nat.ne_of_lt (Nat.lt_of_lt_of_le lt_b0_0_c5 szn_b0_0_c7)
      have ne_sm_1_b0_0_c7 : sm_1 ≠ b0_0_c7 := Nat.ne_of_lt (Nat.lt_of_lt_of_le lt_sm_1 szn_b0_0_c7)
      have g_b0_0_c7 : Z.heap.size ≤ b0_0_c7 := Nat.le_trans O.1 szn_b0_0_c7
      obtain ⟨h_8, eT⟩ : ∃ z, T.heap = z := ⟨_, rfl⟩
      rw [eT] at KL E_b0_0_c7 F_stringMatcher_b0_0_c7 F_ignoringCase_b0_0_c7 hk
      have O := ext_keep O KL all0
      have E_sm_1 := E_sm_1.keep KL
      have E_b39_1 := E_b39_1.keep KL
      have F_stringMatcher_b39_1 := F_stringMatcher_b39_1.keep KL nin0
      have F_ignoringCase_b39_1 := F_ignoringCase_b39_1.keep KL nin0
      have E_b0_0_c5 := E_b0_0_c5.keep KL
      have F_stringMatcher_b0_0_c5 := F_stringMatcher_b0_0_c5.keep KL nin0
      have F_ignoringCase_b0_0_c5 := F_ignoringCase_b0_0_c5.keep KL nin0
      show Run p e below _ (T.setTop (mkF m 143 _ [(.ref b0_0_c7)]))
      refine q_astore (pc' := 145) (l' := #[.val (.int p1), .val (.int p2), .val (.int p3), .val (.ref sm_1), .val (.int ((p2 &&& (2147483647 : Int32)) % (7 : Int32))), .val .null, .val (.int (1 : Int32)), .val (.ref b0_0_c5), .val (.ref w_TRUE), .val (.ref b0_0_c7)]) X hx (hb hby at_143) rfl rfl rfl ?_
      refine q_aload (pc' := 147) X hx (hb hby at_145) rfl rfl rfl ?_
      refine q_ifnullNo (pc' := 150) X hx (hb hby at_147) rfl ?_
      refine q_aload (pc' := 152) X hx (hb hby at_150) rfl rfl rfl ?_
      refine q_aload (pc' := 154) X hx (hb hby at_152) rfl rfl rfl ?_
      refine q_acmp (pc' := 159) (same := false) X hx (hb hby at_154) rfl rfl (decide_eq_false fun q => (Ne.symm ne_b0_0_c5_b0_0_c7) (Value.ref.inj q)) (by decide) (by decide) ?_
      refine q_aload (pc' := 161) X hx (hb hby at_159) rfl rfl rfl ?_
      refine q_callV (pc' := 164) (y := y4) (rest := []) X hx hZ hown (hb hby at_161) (t61 hw) (t62 hw) (t64 hw) (t63 hw) (t12 hw) (t65 hw) (by decide) eT E_b0_0_c7 [] (c17_getStringMatcher hw wd  O E_sm_1 E_b0_0_c7 F_stringMatcher_b0_0_c7 F_ignoringCase_b0_0_c7) (by rw [hml]; rfl) (lenOf pd_4 rfl) (W := 0) rfl (by decide) (by decide) (by decide) (by decide) rfl ?_
      rintro _ T _ X ⟨rfl, rfl, eT⟩
      rw [List.append_nil] at X
      show Run p e below _ (T.setTop (mkF m 164 _ [(.ref sm_1)]))
      refine q_aloadN (pc' := 165) X hx (hb hby at_164) rfl rfl rfl ?_
      refine q_acmp (pc' := 170) (same := true) X hx (hb hby at_165) rfl rfl (decide_eq_true rfl) (by decide) (by decide) ?_
      refine q_aload (pc' := 172) X hx (hb hby at_170) rfl rfl rfl ?_
      refine q_callV (pc' := 175) (y := y3) (rest := []) X hx hZ hown (hb hby at_172) (t56 hw) (t57 hw) (t59 hw) (t58 hw) (t12 hw) (t60 hw) (by decide) eT E_b0_0_c7 [] (c18_getIgnoreCase hw wd  O E_sm_1 E_b0_0_c7 F_stringMatcher_b0_0_c7 F_ignoringCase_b0_0_c7) (by rw [hml]; rfl) (lenOf pd_3 rfl) (W := 0) rfl (by decide) (by decide) (by decide) (by decide) rfl ?_
      rintro _ T _ X ⟨rfl, rfl, eT⟩
      rw [List.append_nil] at X
      show Run p e below _ (T.setTop (mkF m 175 _ [(.ref w_TRUE)]))
      refine q_aload (pc' := 177) X hx (hb hby at_175) rfl rfl rfl ?_
      refine q_acmp (pc' := 182) (same := true) X hx (hb hby at_177) rfl rfl (decide_eq_true rfl) (by decide) (by decide) ?_
      refine q_aload (pc' := 184) X hx (hb hby at_182) rfl rfl rfl ?_
      refine q_callV (pc' := 187) (y := y4) (rest := []) X hx hZ hown (hb hby at_184) (t61 hw) (t62 hw) (t64 hw) (t63 hw) (t12 hw) (t65 hw) (by decide) eT E_b0_0_c5 [] (c14_getStringMatcher hw wd  O E_b0_0_c5 F_stringMatcher_b0_0_c5 F_ignoringCase_b0_0_c5) (by rw [hml]; rfl) (lenOf pd_4 rfl) (W := 0) rfl (by decide) (by decide) (by decide) (by decide) rfl ?_
      rintro _ T _ X ⟨rfl, rfl, eT⟩
      rw [List.append_nil] at X
      show Run p e below _ (T.setTop (mkF m 187 _ [.null]))
      refine q_aload (pc' := 189) X hx (hb hby at_187) rfl rfl rfl ?_
      refine q_acmp (pc' := 194) (same := true) X hx (hb hby at_189) rfl rfl (decide_eq_true rfl) (by decide) (by decide) ?_
      refine q_aload (pc' := 196) X hx (hb hby at_194) rfl rfl rfl ?_
      refine q_callV (pc' := 199) (y := y3) (rest := []) X hx hZ hown (hb hby at_196) (t56 hw) (t57 hw) (t59 hw) (t58 hw) (t12 hw) (t60 hw) (by decide) eT E_b0_0_c5 [] (c13_getIgnoreCase hw wd  O E_b0_0_c5 F_stringMatcher_b0_0_c5 F_ignoringCase_b0_0_c5) (by rw [hml]; rfl) (lenOf pd_3 rfl) (W := 0) rfl (by decide) (by decide) (by decide) (by decide) rfl ?_
      rintro _ T _ X ⟨rfl, rfl, eT⟩
      rw [List.append_nil] at X
      show Run p e below _ (T.setTop (mkF m 199 _ [(.ref w_TRUE)]))
      refine q_aload (pc' := 201) X hx (hb hby at_199) rfl rfl rfl ?_
      refine q_acmp (pc' := 204) (same := true) X hx (hb hby at_201) rfl rfl (decide_eq_true rfl) (by decide) (by decide) ?_
      refine q_iconst (pc' := 205) (z := (1 : Int32)) X hx (hb hby at_204) rfl rfl ?_
      refine q_goto (pc' := 209) X hx (hb hby at_205) (by decide) (by decide) ?_
      refine Run.retBW X hx hlk hS (by rw [eT]; exact hk) hret (hb hby at_209) rfl (by decide) (by decide) ?_
      try rw [eT]
      exact ⟨rfl, N⟩
    · rw [hi]
      refine q_new (pc' := 42) X hx hZ hown (hb hby at_39) (t10 hw) (t11 hw) (t12 hw) eT (by decide) (by decide) rfl ?_
      intro T h_2 b39_1 X eT Ex gb Ax Dx
      have g_b39_1 : Z.heap.size ≤ b39_1 := Nat.le_trans O.1 (Nat.le_of_eq gb.symm)
      have O := ext_trans O Ex
      have hk := Nat.le_trans hk Ex.1
      have E_sm_1 := E_sm_1.ext Ex
      have E_b39_1 := Ax
      have F_stringMatcher_b39_1 : Fld Z h_2 b39_1 "com/example/wicker_store/wickerstore/ExampleMatcher$GenericPropertyMatcher" "stringMatcher" "Lcom/example/wicker_store/wickerstore/ExampleMatcher$StringMatcher;" .null := Dx (Or.inr (t23 hw)) (ty := (.object "com/example/wicker_store/wickerstore/ExampleMatcher$StringMatcher")) (by decide)
      have F_ignoringCase_b39_1 : Fld Z h_2 b39_1 "com/example/wicker_store/wickerstore/ExampleMatcher$GenericPropertyMatcher" "ignoringCase" "Ljava/lang/Boolean;" .null := Dx (Or.inr (t25 hw)) (ty := (.object "java/lang/Boolean")) (by decide)
      refine q_dup (pc' := 43) X hx (hb hby at_42) rfl rfl ?_
      refine q_callN (pc' := 46) (y := y2) (rest := [(.ref b39_1)]) (b := b39_1) X hx hZ hown (hb hby at_43) rfl (t13 hw) (t14 hw) (t12 hw) (t15 hw) (by decide) eT [] (c1_init hw wd  O E_b39_1 F_stringMatcher_b39_1 F_ignoringCase_b39_1 g_b39_1) (by rw [hml]; rfl) (lenOf pd_2 rfl) (W := 1) rfl (by decide) (by decide) (by decide) (by decide) rfl ?_
      rintro _ T _ X ⟨rfl, NL, KL, E_b39_1, F_stringMatcher_b39_1, F_ignoringCase_b39_1⟩
      have N := N.app NL
      obtain ⟨h_4, eT⟩ : ∃ z, T.heap = z := ⟨_, rfl⟩
      rw [eT] at KL E_b39_1 F_stringMatcher_b39_1 F_ignoringCase_b39_1
      have O := ext_keep O KL (allS g_b39_1 all0)
      have hk := Nat.le_trans hk KL.1
      have E_sm_1 := E_sm_1.keep KL
      show Run p e below _ (T.setTop (mkF m 46 _ [(.ref b39_1)]))
      refine q_astore (pc' := 48) (l' := #[.val (.int p1), .val (.int p2), .val (.int p3), .val (.ref sm_1), .val (.int ((p2 &&& (2147483647 : Int32)) % (7 : Int32))), .val .null, .val (.int (2 : Int32)), .val (.ref b39_1), .unset, .unset]) X hx (hb hby at_46) rfl rfl rfl ?_
      refine q_aload (pc' := 50) X hx (hb hby at_48) rfl rfl rfl ?_
      refine q_ifnullYes (pc' := 62) X hx (hb hby at_50) (by decide) (by decide) ?_
      refine q_iload (pc' := 64) X hx (hb hby at_62) rfl rfl ?_
      refine q_iconst (pc' := 65) (z := (1 : Int32)) X hx (hb hby at_64) rfl rfl ?_
      refine q_icmpYes (pc' := 79) X hx (hb hby at_65) (by decide) (by decide) (by decide) ?_
      refine q_iload (pc' := 81) X hx (hb hby at_79) rfl rfl ?_
      refine q_iconst (pc' := 82) (z := (2 : Int32)) X hx (hb hby at_81) rfl rfl ?_
      refine q_icmpNo (pc' := 85) X hx (hb hby at_82) (by decide) rfl ?_
      refine q_aload (pc' := 87) X hx (hb hby at_85) rfl rfl rfl ?_
      refine q_iconst (pc' := 88) (z := (0 : Int32)) X hx (hb hby at_87) rfl rfl ?_
      have lt_b39_1 := E_b39_1.lt
      refine q_callV (pc' := 91) (y := y8) (rest := []) X hx hZ hown (hb hby at_88) (t46 hw) (t47 hw) (t49 hw) (t48 hw) (t12 hw) (t50 hw) (by decide) eT E_b39_1 [(.int (0 : Int32))] (c19_ignoreCase hw wd  O E_b39_1 F_stringMatcher_b39_1 F_ignoringCase_b39_1) (by rw [hml]; rfl) (lenOf pd_8 rfl) (W := 0) rfl (by decide) (by decide) (by decide) (by decide) rfl ?_
      rintro _ T _ X ⟨b0_0_c5, rfl, NL, KL, szn_b0_0_c5, E_b0_0_c5, F_stringMatcher_b0_0_c5, F_ignoringCase_b0_0_c5⟩
      have N := N.app NL
      have ne_b39_1_b0_0_c5 : b39_1 ≠ b0_0_c5 := Nat.ne_of_lt (Nat.lt_of_lt_of_le lt_b39_1 szn_b0_0_c5)
      have g_b0_0_c5 : Z.heap.size ≤ b0_0_c5 := Nat.le_trans O.1 szn_b0_0_c5
      obtain ⟨h_6, eT⟩ : ∃ z, T.heap = z := ⟨_, rfl⟩
      rw [eT] at KL E_b0_0_c5 F_stringMatcher_b0_0_c5 F_ignoringCase_b0_0_c5
      have O := ext_keep O KL all0
      have hk := Nat.le_trans hk KL.1
      have E_sm_1 := E_sm_1.keep KL
      have E_b39_1 := E_b39_1.keep KL
      have F_stringMatcher_b39_1 := F_stringMatcher_b39_1.keep KL nin0
      have F_ignoringCase_b39_1 := F_ignoringCase_b39_1.keep KL nin0
      show Run p e below _ (T.setTop (mkF m 91 _ [(.ref b0_0_c5)]))
      refine q_astore (pc' := 93) (l' := #[.val (.int p1), .val (.int p2), .val (.int p3), .val (.ref sm_1), .val (.int ((p2 &&& (2147483647 : Int32)) % (7 : Int32))), .val .null, .val (.int (2 : Int32)), .val (.ref b0_0_c5), .unset, .unset]) X hx (hb hby at_91) rfl rfl rfl ?_
      refine q_aload (pc' := 95) X hx (hb hby at_93) rfl rfl rfl ?_
      refine q_callV (pc' := 98) (y := y3) (rest := []) X hx hZ hown (hb hby at_95) (t56 hw) (t57 hw) (t59 hw) (t58 hw) (t12 hw) (t60 hw) (by decide) eT E_b0_0_c5 [] (c22_getIgnoreCase hw wd  O E_b0_0_c5 F_stringMatcher_b0_0_c5 F_ignoringCase_b0_0_c5) (by rw [hml]; rfl) (lenOf pd_3 rfl) (W := 0) rfl (by decide) (by decide) (by decide) (by decide) rfl ?_
      rintro _ T _ X ⟨rfl, rfl, eT⟩
      rw [List.append_nil] at X
      show Run p e below _ (T.setTop (mkF m 98 _ [(.ref w_FALSE)]))
      refine q_astore (pc' := 100) (l' := #[.val (.int p1), .val (.int p2), .val (.int p3), .val (.ref sm_1), .val (.int ((p2 &&& (2147483647 : Int32)) % (7 : Int32))), .val .null, .val (.int (2 : Int32)), .val (.ref b0_0_c5), .val (.ref w_FALSE), .unset]) X hx (hb hby at_98) rfl rfl rfl ?_
      refine q_iload (pc' := 102) X hx (hb hby at_100) rfl rfl ?_
      refine q_ifYes (pc' := 109) X hx (hb hby at_102) (by decide) (by decide) (by decide) ?_
      refine q_iconst (pc' := 110) (z := (0 : Int32)) X hx (hb hby at_109) rfl rfl ?_
      refine q_aload (pc' := 112) X hx (hb hby at_110) rfl rfl rfl ?_
      refine q_ifnonnullYes (pc' := 119) X hx (hb hby at_112) (by decide) (by decide) ?_
      refine q_iconst (pc' := 120) (z := (0 : Int32)) X hx (hb hby at_119) rfl rfl ?_
      refine q_icmpYes (pc' := 125) X hx (hb hby at_120) (by decide) (by decide) (by decide) ?_
      refine q_aload (pc' := 127) X hx (hb hby at_125) rfl rfl rfl ?_
      refine q_callV (pc' := 130) (y := y4) (rest := []) X hx hZ hown (hb hby at_127) (t61 hw) (t62 hw) (t64 hw) (t63 hw) (t12 hw) (t65 hw) (by decide) eT E_b0_0_c5 [] (c23_getStringMatcher hw wd  O E_b0_0_c5 F_stringMatcher_b0_0_c5 F_ignoringCase_b0_0_c5) (by rw [hml]; rfl) (lenOf pd_4 rfl) (W := 0) rfl (by decide) (by decide) (by decide) (by decide) rfl ?_
      rintro _ T _ X ⟨rfl, rfl, eT⟩
      rw [List.append_nil] at X
      show Run p e below _ (T.setTop (mkF m 130 _ [.null]))
      refine q_aload (pc' := 132) X hx (hb hby at_130) rfl rfl rfl ?_
      refine q_acmp (pc' := 137) (same := true) X hx (hb hby at_132) rfl rfl (decide_eq_true rfl) (by decide) (by decide) ?_
      refine q_aload (pc' := 139) X hx (hb hby at_137) rfl rfl rfl ?_
      refine q_aloadN (pc' := 140) X hx (hb hby at_139) rfl rfl rfl ?_
      have lt_b39_1 := E_b39_1.lt
      have lt_b0_0_c5 := E_b0_0_c5.lt
      have lt_sm_1 := E_sm_1.lt
      refine q_callVW (pc' := 143) (y := y6) (rest := []) X hx hZ hown hS hk (hb hby at_140) (t26 hw) (t27 hw) (t29 hw) (t28 hw) (t12 hw) (t30 hw) (by decide) eT E_b0_0_c5 [(.ref sm_1)] (c24_stringMatcher hw wd  O E_sm_1 E_b0_0_c5 F_stringMatcher_b0_0_c5 F_ignoringCase_b0_0_c5) (by rw [hml]; rfl) (lenOf pd_6 rfl) (W := 0) rfl (by decide) (by decide) (by decide) (by decide) rfl ?_
      rintro _ T _ kS X ⟨b0_0_c7, rfl, NL, KL, szn_b0_0_c7, E_b0_0_c7, F_stringMatcher_b0_0_c7, F_ignoringCase_b0_0_c7⟩ hS hk hZ hown
      have N := N.app NL
      have ne_b39_1_b0_0_c7 : b39_1 ≠ b0_0_c7 := Nat.ne_of_lt (Nat.lt_of_lt_of_le lt_b39_1 szn_b0_0_c7)
      have ne_b0_0_c5_b0_0_c7 : b0_0_c5 ≠ b0_0_c7 := Nat.ne_of_lt (Nat.lt_of_lt_of_le lt_b0_0_c5 szn_b0_0_c7)
      have ne_sm_1_b0_0_c7 : sm_1 ≠ b0_0_c7 := Nat.ne_of_lt (Nat.lt_of_lt_of_le lt_sm_1 szn_b0_0_c7)
      have g_b0_0_c7 : Z.heap.size ≤ b0_0_c7 := Nat.le_trans O.1 szn_b0_0_c7
      obtain ⟨h_8, eT⟩ : ∃ z, T.heap = z := ⟨_, rfl⟩
      rw [eT] at KL E_b0_0_c7 F_stringMatcher_b0_0_c7 F_ignoringCase_b0_0_c7 hk
      have O := ext_keep O KL all0
      have E_sm_1 := E_sm_1.keep KL
      have E_b39_1 := E_b39_1.keep KL
      have F_stringMatcher_b39_1 := F_stringMatcher_b39_1.keep KL nin0
      have F_ignoringCase_b39_1 := F_ignoringCase_b39_1.keep KL nin0
      have E_b0_0_c5 := E_b0_0_c5.keep KL
      have F_stringMatcher_b0_0_c5 := F_stringMatcher_b0_0_c5.keep KL nin0
      have F_ignoringCase_b0_0_c5 := F_ignoringCase_b0_0_c5.keep KL nin0
      show Run p e below _ (T.setTop (mkF m 143 _ [(.ref b0_0_c7)]))
      refine q_astore (pc' := 145) (l' := #[.val (.int p1), .val (.int p2), .val (.int p3), .val (.ref sm_1), .val (.int ((p2 &&& (2147483647 : Int32)) % (7 : Int32))), .val .null, .val (.int (2 : Int32)), .val (.ref b0_0_c5), .val (.ref w_FALSE), .val (.ref b0_0_c7)]) X hx (hb hby at_143) rfl rfl rfl ?_
      refine q_aload (pc' := 147) X hx (hb hby at_145) rfl rfl rfl ?_
      refine q_ifnullNo (pc' := 150) X hx (hb hby at_147) rfl ?_
      refine q_aload (pc' := 152) X hx (hb hby at_150) rfl rfl rfl ?_
      refine q_aload (pc' := 154) X hx (hb hby at_152) rfl rfl rfl ?_
      refine q_acmp (pc' := 159) (same := false) X hx (hb hby at_154) rfl rfl (decide_eq_false fun q => (Ne.symm ne_b0_0_c5_b0_0_c7) (Value.ref.inj q)) (by decide) (by decide) ?_
      refine q_aload (pc' := 161) X hx (hb hby at_159) rfl rfl rfl ?_
      refine q_callV (pc' := 164) (y := y4) (rest := []) X hx hZ hown (hb hby at_161) (t61 hw) (t62 hw) (t64 hw) (t63 hw) (t12 hw) (t65 hw) (by decide) eT E_b0_0_c7 [] (c26_getStringMatcher hw wd  O E_sm_1 E_b0_0_c7 F_stringMatcher_b0_0_c7 F_ignoringCase_b0_0_c7) (by rw [hml]; rfl) (lenOf pd_4 rfl) (W := 0) rfl (by decide) (by decide) (by decide) (by decide) rfl ?_
      rintro _ T _ X ⟨rfl, rfl, eT⟩
      rw [List.append_nil] at X
      show Run p e below _ (T.setTop (mkF m 164 _ [(.ref sm_1)]))
      refine q_aloadN (pc' := 165) X hx (hb hby at_164) rfl rfl rfl ?_
      refine q_acmp (pc' := 170) (same := true) X hx (hb hby at_165) rfl rfl (decide_eq_true rfl) (by decide) (by decide) ?_
      refine q_aload (pc' := 172) X hx (hb hby at_170) rfl rfl rfl ?_
      refine q_callV (pc' := 175) (y := y3) (rest := []) X hx hZ hown (hb hby at_172) (t56 hw) (t57 hw) (t59 hw) (t58 hw) (t12 hw) (t60 hw) (by decide) eT E_b0_0_c7 [] (c27_getIgnoreCase hw wd  O E_sm_1 E_b0_0_c7 F_stringMatcher_b0_0_c7 F_ignoringCase_b0_0_c7) (by rw [hml]; rfl) (lenOf pd_3 rfl) (W := 0) rfl (by decide) (by decide) (by decide) (by decide) rfl ?_
      rintro _ T _ X ⟨rfl, rfl, eT⟩
      rw [List.append_nil] at X
      show Run p e below _ (T.setTop (mkF m 175 _ [(.ref w_FALSE)]))
      refine q_aload (pc' := 177) X hx (hb hby at_175) rfl rfl rfl ?_
      refine q_acmp (pc' := 182) (same := true) X hx (hb hby at_177) rfl rfl (decide_eq_true rfl) (by decide) (by decide) ?_
      refine q_aload (pc' := 184) X hx (hb hby at_182) rfl rfl rfl ?_
      refine q_callV (pc' := 187) (y := y4) (rest := []) X hx hZ hown (hb hby at_184) (t61 hw) (t62 hw) (t64 hw) (t63 hw) (t12 hw) (t65 hw) (by decide) eT E_b0_0_c5 [] (c23_getStringMatcher hw wd  O E_b0_0_c5 F_stringMatcher_b0_0_c5 F_ignoringCase_b0_0_c5) (by rw [hml]; rfl) (lenOf pd_4 rfl) (W := 0) rfl (by decide) (by decide) (by decide) (by decide) rfl ?_
      rintro _ T _ X ⟨rfl, rfl, eT⟩
      rw [List.append_nil] at X
      show Run p e below _ (T.setTop (mkF m 187 _ [.null]))
      refine q_aload (pc' := 189) X hx (hb hby at_187) rfl rfl rfl ?_
      refine q_acmp (pc' := 194) (same := true) X hx (hb hby at_189) rfl rfl (decide_eq_true rfl) (by decide) (by decide) ?_
      refine q_aload (pc' := 196) X hx (hb hby at_194) rfl rfl rfl ?_
      refine q_callV (pc' := 199) (y := y3) (rest := []) X hx hZ hown (hb hby at_196) (t56 hw) (t57 hw) (t59 hw) (t58 hw) (t12 hw) (t60 hw) (by decide) eT E_b0_0_c5 [] (c22_getIgnoreCase hw wd  O E_b0_0_c5 F_stringMatcher_b0_0_c5 F_ignoringCase_b0_0_c5) (by rw [hml]; rfl) (lenOf pd_3 rfl) (W := 0) rfl (by decide) (by decide) (by decide) (by decide) rfl ?_
      rintro _ T _ X ⟨rfl, rfl, eT⟩
      rw [List.append_nil] at X
      show Run p e below _ (T.setTop (mkF m 199 _ [(.ref w_FALSE)]))
      refine q_aload (pc' := 201) X hx (hb hby at_199) rfl rfl rfl ?_
      refine q_acmp (pc' := 204) (same := true) X hx (hb hby at_201) rfl rfl (decide_eq_true rfl) (by decide) (by decide) ?_
      refine q_iconst (pc' := 205) (z := (1 : Int32)) X hx (hb hby at_204) rfl rfl ?_
      refine q_goto (pc' := 209) X hx (hb hby at_205) (by decide) (by decide) ?_
      refine Run.retBW X hx hlk hS (by rw [eT]; exact hk) hret (hb hby at_209) rfl (by decide) (by decide) ?_
      try rw [eT]
      exact ⟨rfl, N⟩
  · refine q_icmpNo (pc' := 24) X hx (hb hby at_21) hc21 rfl ?_
    refine q_iload (pc' := 26) X hx (hb hby at_24) rfl rfl ?_
    refine q_callC (pc' := 29) (y := y0) (rest := []) X hx hZ hown (hb hby at_26) (t0 hw) (t1 hw) (t2 hw) (t3 hw) (by decide) eT [(.int ((p2 &&& (2147483647 : Int32)) % (7 : Int32)))] (own_pick hw wd ((p2 &&& (2147483647 : Int32)) % (7 : Int32)) O) (by rw [hml]; rfl) (lenOf pd_0 rfl) (W := 0) rfl (by decide) (by decide) (by decide) (by decide) rfl ?_
    rintro _ T _ X ⟨sm_2, rfl, rfl, eT, Eo⟩
    rw [List.append_nil] at X
    have E_sm_2 := Eo.ext O
    show Run p e below _ (T.setTop (mkF m 29 _ [(.ref sm_2)]))
    refine q_astore (pc' := 31) (l' := #[.val (.int p1), .val (.int p2), .val (.int p3), .val (.ref sm_1), .val (.int ((p2 &&& (2147483647 : Int32)) % (7 : Int32))), .val (.ref sm_2), .unset, .unset, .unset, .unset]) X hx (hb hby at_29) rfl rfl rfl ?_
    refine q_iloadN (pc' := 32) X hx (hb hby at_31) rfl rfl ?_
    refine q_ldc (pc' := 34) (v := (2147483647 : Int32)) X hx hZ hown (hb hby at_32) (t4 hw) rfl ?_
    refine q_iand (pc' := 35) (z := (p3 &&& (2147483647 : Int32))) X hx (hb hby at_34) rfl rfl ?_
    refine q_iconst (pc' := 36) (z := (3 : Int32)) X hx (hb hby at_35) rfl rfl ?_
    refine q_irem (pc' := 37) (z := ((p3 &&& (2147483647 : Int32)) % (3 : Int32))) X hx (hb hby at_36) (by decide) rfl rfl ?_
    refine q_istore (pc' := 39) (l' := #[.val (.int p1), .val (.int p2), .val (.int p3), .val (.ref sm_1), .val (.int ((p2 &&& (2147483647 : Int32)) % (7 : Int32))), .val (.ref sm_2), .val (.int ((p3 &&& (2147483647 : Int32)) % (3 : Int32))), .unset, .unset, .unset]) X hx (hb hby at_37) rfl rfl ?_
    rcases own_sel p3 with hi | hi | hi
    · rw [hi]
      refine q_new (pc' := 42) X hx hZ hown (hb hby at_39) (t10 hw) (t11 hw) (t12 hw) eT (by decide) (by decide) rfl ?_
      intro T h_3 b39_2 X eT Ex gb Ax Dx
      have g_b39_2 : Z.heap.size ≤ b39_2 := Nat.le_trans O.1 (Nat.le_of_eq gb.symm)
      have O := ext_trans O Ex
      have hk := Nat.le_trans hk Ex.1
      have E_sm_1 := E_sm_1.ext Ex
      have E_sm_2 := E_sm_2.ext Ex
      have E_b39_2 := Ax
      have F_stringMatcher_b39_2 : Fld Z h_3 b39_2 "com/example/wicker_store/wickerstore/ExampleMatcher$GenericPropertyMatcher" "stringMatcher" "Lcom/example/wicker_store/wickerstore/ExampleMatcher$StringMatcher;" .null := Dx (Or.inr (t23 hw)) (ty := (.object "com/example/wicker_store/wickerstore/ExampleMatcher$StringMatcher")) (by decide)
      have F_ignoringCase_b39_2 : Fld Z h_3 b39_2 "com/example/wicker_store/wickerstore/ExampleMatcher$GenericPropertyMatcher" "ignoringCase" "Ljava/lang/Boolean;" .null := Dx (Or.inr (t25 hw)) (ty := (.object "java/lang/Boolean")) (by decide)
      refine q_dup (pc' := 43) X hx (hb hby at_42) rfl rfl ?_
      refine q_callN (pc' := 46) (y := y2) (rest := [(.ref b39_2)]) (b := b39_2) X hx hZ hown (hb hby at_43) rfl (t13 hw) (t14 hw) (t12 hw) (t15 hw) (by decide) eT [] (c1_init hw wd  O E_b39_2 F_stringMatcher_b39_2 F_ignoringCase_b39_2 g_b39_2) (by rw [hml]; rfl) (lenOf pd_2 rfl) (W := 1) rfl (by decide) (by decide) (by decide) (by decide) rfl ?_
      rintro _ T _ X ⟨rfl, NL, KL, E_b39_2, F_stringMatcher_b39_2, F_ignoringCase_b39_2⟩
      have N := N.app NL
      obtain ⟨h_5, eT⟩ : ∃ z, T.heap = z := ⟨_, rfl⟩
      rw [eT] at KL E_b39_2 F_stringMatcher_b39_2 F_ignoringCase_b39_2
      have O := ext_keep O KL (allS g_b39_2 all0)
      have hk := Nat.le_trans hk KL.1
      have E_sm_1 := E_sm_1.keep KL
      have E_sm_2 := E_sm_2.keep KL
      show Run p e below _ (T.setTop (mkF m 46 _ [(.ref b39_2)]))
      refine q_astore (pc' := 48) (l' := #[.val (.int p1), .val (.int p2), .val (.int p3), .val (.ref sm_1), .val (.int ((p2 &&& (2147483647 : Int32)) % (7 : Int32))), .val (.ref sm_2), .val (.int (0 : Int32)), .val (.ref b39_2), .unset, .unset]) X hx (hb hby at_46) rfl rfl rfl ?_
      refine q_aload (pc' := 50) X hx (hb hby at_48) rfl rfl rfl ?_
      refine q_ifnullNo (pc' := 53) X hx (hb hby at_50) rfl ?_
      refine q_aload (pc' := 55) X hx (hb hby at_53) rfl rfl rfl ?_
      refine q_aload (pc' := 57) X hx (hb hby at_55) rfl rfl rfl ?_
      have lt_b39_2 := E_b39_2.lt
      have lt_sm_2 := E_sm_2.lt
      refine q_callVW (pc' := 60) (y := y6) (rest := []) X hx hZ hown hS hk (hb hby at_57) (t26 hw) (t27 hw) (t29 hw) (t28 hw) (t12 hw) (t30 hw) (by decide) eT E_b39_2 [(.ref sm_2)] (c5_stringMatcher hw wd  O E_sm_2 E_b39_2 F_stringMatcher_b39_2 F_ignoringCase_b39_2) (by rw [hml]; rfl) (lenOf pd_6 rfl) (W := 0) rfl (by decide) (by decide) (by decide) (by decide) rfl ?_
      rintro _ T _ kS X ⟨b0_0_c6, rfl, NL, KL, szn_b0_0_c6, E_b0_0_c6, F_stringMatcher_b0_0_c6, F_ignoringCase_b0_0_c6⟩ hS hk hZ hown
      have N := N.app NL
      have ne_b39_2_b0_0_c6 : b39_2 ≠ b0_0_c6 := Nat.ne_of_lt (Nat.lt_of_lt_of_le lt_b39_2 szn_b0_0_c6)
      have ne_sm_2_b0_0_c6 : sm_2 ≠ b0_0_c6 := Nat.ne_of_lt (Nat.lt_of_lt_of_le lt_sm_2 szn_b0_0_c6)
      have g_b0_0_c6 : Z.heap.size ≤ b0_0_c6 := Nat.le_trans O.1 szn_b0_0_c6
      obtain ⟨h_7, eT⟩ : ∃ z, T.heap = z := ⟨_, rfl⟩
      rw [eT] at KL E_b0_0_c6 F_stringMatcher_b0_0_c6 F_ignoringCase_b0_0_c6 hk
      have O := ext_keep O KL all0
      have E_sm_1 := E_sm_1.keep KL
      have E_sm_2 := E_sm_2.keep KL
      have E_b39_2 := E_b39_2.keep KL
      have F_stringMatcher_b39_2 := F_stringMatcher_b39_2.keep KL nin0
      have F_ignoringCase_b39_2 := F_ignoringCase_b39_2.keep KL nin0
      show Run p e below _ (T.setTop (mkF m 60 _ [(.ref b0_0_c6)]))
      refine q_astore (pc' := 62) (l' := #[.val (.int p1), .val (.int p2), .val (.int p3), .val (.ref sm_1), .val (.int ((p2 &&& (2147483647 : Int32)) % (7 : Int32))), .val (.ref sm_2), .val (.int (0 : Int32)), .val (.ref b0_0_c6), .unset, .unset]) X hx (hb hby at_60) rfl rfl rfl ?_
      refine q_iload (pc' := 64) X hx (hb hby at_62) rfl rfl ?_
      refine q_iconst (pc' := 65) (z := (1 : Int32)) X hx (hb hby at_64) rfl rfl ?_
      refine q_icmpYes (pc' := 79) X hx (hb hby at_65) (by decide) (by decide) (by decide) ?_
      refine q_iload (pc' := 81) X hx (hb hby at_79) rfl rfl ?_
      refine q_iconst (pc' := 82) (z := (2 : Int32)) X hx (hb hby at_81) rfl rfl ?_
      refine q_icmpYes (pc' := 93) X hx (hb hby at_82) (by decide) (by decide) (by decide) ?_
      refine q_aload (pc' := 95) X hx (hb hby at_93) rfl rfl rfl ?_
      refine q_callV (pc' := 98) (y := y3) (rest := []) X hx hZ hown (hb hby at_95) (t56 hw) (t57 hw) (t59 hw) (t58 hw) (t12 hw) (t60 hw) (by decide) eT E_b0_0_c6 [] (c9_getIgnoreCase hw wd  O E_sm_2 E_b0_0_c6 F_stringMatcher_b0_0_c6 F_ignoringCase_b0_0_c6) (by rw [hml]; rfl) (lenOf pd_3 rfl) (W := 0) rfl (by decide) (by decide) (by decide) (by decide) rfl ?_
      rintro _ T _ X ⟨rfl, rfl, eT⟩
      rw [List.append_nil] at X
      show Run p e below _ (T.setTop (mkF m 98 _ [.null]))
      refine q_astore (pc' := 100) (l' := #[.val (.int p1), .val (.int p2), .val (.int p3), .val (.ref sm_1), .val (.int ((p2 &&& (2147483647 : Int32)) % (7 : Int32))), .val (.ref sm_2), .val (.int (0 : Int32)), .val (.ref b0_0_c6), .val .null, .unset]) X hx (hb hby at_98) rfl rfl rfl ?_
      refine q_iload (pc' := 102) X hx (hb hby at_100) rfl rfl ?_
      refine q_ifNo (pc' := 105) X hx (hb hby at_102) (by decide) rfl ?_
      refine q_iconst (pc' := 106) (z := (1 : Int32)) X hx (hb hby at_105) rfl rfl ?_
      refine q_goto (pc' := 110) X hx (hb hby at_106) (by decide) (by decide) ?_
      refine q_aload (pc' := 112) X hx (hb hby at_110) rfl rfl rfl ?_
      refine q_ifnonnullNo (pc' := 115) X hx (hb hby at_112) rfl ?_
      refine q_iconst (pc' := 116) (z := (1 : Int32)) X hx (hb hby at_115) rfl rfl ?_
      refine q_goto (pc' := 120) X hx (hb hby at_116) (by decide) (by decide) ?_
      refine q_icmpYes (pc' := 125) X hx (hb hby at_120) (by decide) (by decide) (by decide) ?_
      refine q_aload (pc' := 127) X hx (hb hby at_125) rfl rfl rfl ?_
      refine q_callV (pc' := 130) (y := y4) (rest := []) X hx hZ hown (hb hby at_127) (t61 hw) (t62 hw) (t64 hw) (t63 hw) (t12 hw) (t65 hw) (by decide) eT E_b0_0_c6 [] (c8_getStringMatcher hw wd  O E_sm_2 E_b0_0_c6 F_stringMatcher_b0_0_c6 F_ignoringCase_b0_0_c6) (by rw [hml]; rfl) (lenOf pd_4 rfl) (W := 0) rfl (by decide) (by decide) (by decide) (by decide) rfl ?_
      rintro _ T _ X ⟨rfl, rfl, eT⟩
      rw [List.append_nil] at X
      show Run p e below _ (T.setTop (mkF m 130 _ [(.ref sm_2)]))
      refine q_aload (pc' := 132) X hx (hb hby at_130) rfl rfl rfl ?_
      refine q_acmp (pc' := 137) (same := true) X hx (hb hby at_132) rfl rfl (decide_eq_true rfl) (by decide) (by decide) ?_
      refine q_aload (pc' := 139) X hx (hb hby at_137) rfl rfl rfl ?_
      refine q_aloadN (pc' := 140) X hx (hb hby at_139) rfl rfl rfl ?_
      have lt_b39_2 := E_b39_2.lt
      have lt_b0_0_c6 := E_b0_0_c6.lt
      have lt_sm_2 := E_sm_2.lt
      have lt_sm_1 := E_sm_1.lt
      refine q_callVW (pc' := 143) (y := y6) (rest := []) X hx hZ hown hS hk (hb hby at_140) (t26 hw) (t27 hw) (t29 hw) (t28 hw) (t12 hw) (t30 hw) (by decide) eT E_b0_0_c6 [(.ref sm_1)] (c28_stringMatcher hw wd  O E_sm_1 E_sm_2 E_b0_0_c6 F_stringMatcher_b0_0_c6 F_ignoringCase_b0_0_c6) (by rw [hml]; rfl) (lenOf pd_6 rfl) (W := 0) rfl (by decide) (by decide) (by decide) (by decide) rfl ?_
      rintro _ T _ kS X ⟨b0_0_c8, rfl, NL, KL, szn_b0_0_c8, E_b0_0_c8, F_stringMatcher_b0_0_c8, F_ignoringCase_b0_0_c8⟩ hS hk hZ hown
      have N := N.app NL
      have ne_b39_2_b0_0_c8 : b39_2 ≠ b0_0_c8 := Nat.ne_of_lt (Nat.lt_of_lt_of_le lt_b39_2 szn_b0_0_c8)
      have ne_b0_0_c6_b0_0_c8 : b0_0_c6 ≠ b0_0_c8 := Nat.ne_of_lt (Nat.lt_of_lt_of_le lt_b0_0_c6 szn_b0_0_c8)
      have ne_sm_2_b0_0_c8 : sm_2 ≠ b0_0_c8 := Nat.ne_of_lt (Nat.lt_of_lt_of_le lt_sm_2 szn_b0_0_c8)
      have ne_sm_1_b0_0_c8 : sm_1 ≠ b0_0_c8 := Nat.ne_of_lt (Nat.lt_of_lt_of_le lt_sm_1 szn_b0_0_c8)
      have g_b0_0_c8 : Z.heap.size ≤ b0_0_c8 := Nat.le_trans O.1 szn_b0_0_c8
      obtain ⟨h_9, eT⟩ : ∃ z, T.heap = z := ⟨_, rfl⟩
      rw [eT] at KL E_b0_0_c8 F_stringMatcher_b0_0_c8 F_ignoringCase_b0_0_c8 hk
      have O := ext_keep O KL all0
      have E_sm_1 := E_sm_1.keep KL
      have E_sm_2 := E_sm_2.keep KL
      have E_b39_2 := E_b39_2.keep KL
      have F_stringMatcher_b39_2 := F_stringMatcher_b39_2.keep KL nin0
      have F_ignoringCase_b39_2 := F_ignoringCase_b39_2.keep KL nin0
      have E_b0_0_c6 := E_b0_0_c6.keep KL
      have F_stringMatcher_b0_0_c6 := F_stringMatcher_b0_0_c6.keep KL nin0
      have F_ignoringCase_b0_0_c6 := F_ignoringCase_b0_0_c6.keep KL nin0
      show Run p e below _ (T.setTop (mkF m 143 _ [(.ref b0_0_c8)]))
      refine q_astore (pc' := 145) (l' := #[.val (.int p1), .val (.int p2), .val (.int p3), .val (.ref sm_1), .val (.int ((p2 &&& (2147483647 : Int32)) % (7 : Int32))), .val (.ref sm_2), .val (.int (0 : Int32)), .val (.ref b0_0_c6), .val .null, .val (.ref b0_0_c8)]) X hx (hb hby at_143) rfl rfl rfl ?_
      refine q_aload (pc' := 147) X hx (hb hby at_145) rfl rfl rfl ?_
      refine q_ifnullNo (pc' := 150) X hx (hb hby at_147) rfl ?_
      refine q_aload (pc' := 152) X hx (hb hby at_150) rfl rfl rfl ?_
      refine q_aload (pc' := 154) X hx (hb hby at_152) rfl rfl rfl ?_
      refine q_acmp (pc' := 159) (same := false) X hx (hb hby at_154) rfl rfl (decide_eq_false fun q => (Ne.symm ne_b0_0_c6_b0_0_c8) (Value.ref.inj q)) (by decide) (by decide) ?_
      refine q_aload (pc' := 161) X hx (hb hby at_159) rfl rfl rfl ?_
      refine q_callV (pc' := 164) (y := y4) (rest := []) X hx hZ hown (hb hby at_161) (t61 hw) (t62 hw) (t64 hw) (t63 hw) (t12 hw) (t65 hw) (by decide) eT E_b0_0_c8 [] (c8_getStringMatcher hw wd  O E_sm_1 E_b0_0_c8 F_stringMatcher_b0_0_c8 F_ignoringCase_b0_0_c8) (by rw [hml]; rfl) (lenOf pd_4 rfl) (W := 0) rfl (by decide) (by decide) (by decide) (by decide) rfl ?_
      rintro _ T _ X ⟨rfl, rfl, eT⟩
      rw [List.append_nil] at X
      show Run p e below _ (T.setTop (mkF m 164 _ [(.ref sm_1)]))
      refine q_aloadN (pc' := 165) X hx (hb hby at_164) rfl rfl rfl ?_
      refine q_acmp (pc' := 170) (same := true) X hx (hb hby at_165) rfl rfl (decide_eq_true rfl) (by decide) (by decide) ?_
      refine q_aload (pc' := 172) X hx (hb hby at_170) rfl rfl rfl ?_
      refine q_callV (pc' := 175) (y := y3) (rest := []) X hx hZ hown (hb hby at_172) (t56 hw) (t57 hw) (t59 hw) (t58 hw) (t12 hw) (t60 hw) (by decide) eT E_b0_0_c8 [] (c9_getIgnoreCase hw wd  O E_sm_1 E_b0_0_c8 F_stringMatcher_b0_0_c8 F_ignoringCase_b0_0_c8) (by rw [hml]; rfl) (lenOf pd_3 rfl) (W := 0) rfl (by decide) (by decide) (by decide) (by decide) rfl ?_
      rintro _ T _ X ⟨rfl, rfl, eT⟩
      rw [List.append_nil] at X
      show Run p e below _ (T.setTop (mkF m 175 _ [.null]))
      refine q_aload (pc' := 177) X hx (hb hby at_175) rfl rfl rfl ?_
      refine q_acmp (pc' := 182) (same := true) X hx (hb hby at_177) rfl rfl (decide_eq_true rfl) (by decide) (by decide) ?_
      refine q_aload (pc' := 184) X hx (hb hby at_182) rfl rfl rfl ?_
      refine q_callV (pc' := 187) (y := y4) (rest := []) X hx hZ hown (hb hby at_184) (t61 hw) (t62 hw) (t64 hw) (t63 hw) (t12 hw) (t65 hw) (by decide) eT E_b0_0_c6 [] (c8_getStringMatcher hw wd  O E_sm_2 E_b0_0_c6 F_stringMatcher_b0_0_c6 F_ignoringCase_b0_0_c6) (by rw [hml]; rfl) (lenOf pd_4 rfl) (W := 0) rfl (by decide) (by decide) (by decide) (by decide) rfl ?_
      rintro _ T _ X ⟨rfl, rfl, eT⟩
      rw [List.append_nil] at X
      show Run p e below _ (T.setTop (mkF m 187 _ [(.ref sm_2)]))
      refine q_aload (pc' := 189) X hx (hb hby at_187) rfl rfl rfl ?_
      refine q_acmp (pc' := 194) (same := true) X hx (hb hby at_189) rfl rfl (decide_eq_true rfl) (by decide) (by decide) ?_
      refine q_aload (pc' := 196) X hx (hb hby at_194) rfl rfl rfl ?_
      refine q_callV (pc' := 199) (y := y3) (rest := []) X hx hZ hown (hb hby at_196) (t56 hw) (t57 hw) (t59 hw) (t58 hw) (t12 hw) (t60 hw) (by decide) eT E_b0_0_c6 [] (c9_getIgnoreCase hw wd  O E_sm_2 E_b0_0_c6 F_stringMatcher_b0_0_c6 F_ignoringCase_b0_0_c6) (by rw [hml]; rfl) (lenOf pd_3 rfl) (W := 0) rfl (by decide) (by decide) (by decide) (by decide) rfl ?_
      rintro _ T _ X ⟨rfl, rfl, eT⟩
      rw [List.append_nil] at X
      show Run p e below _ (T.setTop (mkF m 199 _ [.null]))
      refine q_aload (pc' := 201) X hx (hb hby at_199) rfl rfl rfl ?_
      refine q_acmp (pc' := 204) (same := true) X hx (hb hby at_201) rfl rfl (decide_eq_true rfl) (by decide) (by decide) ?_
      refine q_iconst (pc' := 205) (z := (1 : Int32)) X hx (hb hby at_204) rfl rfl ?_
      refine q_goto (pc' := 209) X hx (hb hby at_205) (by decide) (by decide) ?_
      refine Run.retBW X hx hlk hS (by rw [eT]; exact hk) hret (hb hby at_209) rfl (by decide) (by decide) ?_
      try rw [eT]
      exact ⟨rfl, N⟩
    · rw [hi]
      refine q_new (pc' := 42) X hx hZ hown (hb hby at_39) (t10 hw) (t11 hw) (t12 hw) eT (by decide) (by decide) rfl ?_
      intro T h_3 b39_2 X eT Ex gb Ax Dx
      have g_b39_2 : Z.heap.size ≤ b39_2 := Nat.le_trans O.1 (Nat.le_of_eq gb.symm)
      have O := ext_trans O Ex
      have hk := Nat.le_trans hk Ex.1
      have E_sm_1 := E_sm_1.ext Ex
      have E_sm_2 := E_sm_2.ext Ex
      have E_b39_2 := Ax
      have F_stringMatcher_b39_2 : Fld Z h_3 b39_2 "com/example/wicker_store/wickerstore/ExampleMatcher$GenericPropertyMatcher" "stringMatcher" "Lcom/example/wicker_store/wickerstore/ExampleMatcher$StringMatcher;" .null := Dx (Or.inr (t23 hw)) (ty := (.object "com/example/wicker_store/wickerstore/ExampleMatcher$StringMatcher")) (by decide)
      have F_ignoringCase_b39_2 : Fld Z h_3 b39_2 "com/example/wicker_store/wickerstore/ExampleMatcher$GenericPropertyMatcher" "ignoringCase" "Ljava/lang/Boolean;" .null := Dx (Or.inr (t25 hw)) (ty := (.object "java/lang/Boolean")) (by decide)
      refine q_dup (pc' := 43) X hx (hb hby at_42) rfl rfl ?_
      refine q_callN (pc' := 46) (y := y2) (rest := [(.ref b39_2)]) (b := b39_2) X hx hZ hown (hb hby at_43) rfl (t13 hw) (t14 hw) (t12 hw) (t15 hw) (by decide) eT [] (c1_init hw wd  O E_b39_2 F_stringMatcher_b39_2 F_ignoringCase_b39_2 g_b39_2) (by rw [hml]; rfl) (lenOf pd_2 rfl) (W := 1) rfl (by decide) (by decide) (by decide) (by decide) rfl ?_
      rintro _ T _ X ⟨rfl, NL, KL, E_b39_2, F_stringMatcher_b39_2, F_ignoringCase_b39_2⟩
      have N := N.app NL
      obtain ⟨h_5, eT⟩ : ∃ z, T.heap = z := ⟨_, rfl⟩
      rw [eT] at KL E_b39_2 F_stringMatcher_b39_2 F_ignoringCase_b39_2
      have O := ext_keep O KL (allS g_b39_2 all0)
      have hk := Nat.le_trans hk KL.1
      have E_sm_1 := E_sm_1.keep KL
      have E_sm_2 := E_sm_2.keep KL
      show Run p e below _ (T.setTop (mkF m 46 _ [(.ref b39_2)]))
      refine q_astore (pc' := 48) (l' := #[.val (.int p1), .val (.int p2), .val (.int p3), .val (.ref sm_1), .val (.int ((p2 &&& (2147483647 : Int32)) % (7 : Int32))), .val (.ref sm_2), .val (.int (1 : Int32)), .val (.ref b39_2), .unset, .unset]) X hx (hb hby at_46) rfl rfl rfl ?_
      refine q_aload (pc' := 50) X hx (hb hby at_48) rfl rfl rfl ?_
      refine q_ifnullNo (pc' := 53) X hx (hb hby at_50) rfl ?_
      refine q_aload (pc' := 55) X hx (hb hby at_53) rfl rfl rfl ?_
      refine q_aload (pc' := 57) X hx (hb hby at_55) rfl rfl rfl ?_
      have lt_b39_2 := E_b39_2.lt
      have lt_sm_2 := E_sm_2.lt
      refine q_callVW (pc' := 60) (y := y6) (rest := []) X hx hZ hown hS hk (hb hby at_57) (t26 hw) (t27 hw) (t29 hw) (t28 hw) (t12 hw) (t30 hw) (by decide) eT E_b39_2 [(.ref sm_2)] (c5_stringMatcher hw wd  O E_sm_2 E_b39_2 F_stringMatcher_b39_2 F_ignoringCase_b39_2) (by rw [hml]; rfl) (lenOf pd_6 rfl) (W := 0) rfl (by decide) (by decide) (by decide) (by decide) rfl ?_
      rintro _ T _ kS X ⟨b0_0_c6, rfl, NL, KL, szn_b0_0_c6, E_b0_0_c6, F_stringMatcher_b0_0_c6, F_ignoringCase_b0_0_c6⟩ hS hk hZ hown
      have N := N.app NL
      have ne_b39_2_b0_0_c6 : b39_2 ≠ b0_0_c6 := Nat.ne_of_lt (Nat.lt_of_lt_of_le lt_b39_2 szn_b0_0_c6)
      have ne_sm_2_b0_0_c6 : sm_2 ≠ b0_0_c6 := Nat.ne_of_lt (Nat.lt_of_lt_of_le lt_sm_2 szn_b0_0_c6)
      have g_b0_0_c6 : Z.heap.size ≤ b0_0_c6 := Nat.le_trans O.1 szn_b0_0_c6
      obtain ⟨h_7, eT⟩ : ∃ z, T.heap = z := ⟨_, rfl⟩
      rw [eT] at KL E_b0_0_c6 F_stringMatcher_b0_0_c6 F_ignoringCase_b0_0_c6 hk
      have O := ext_keep O KL all0
      have E_sm_1 := E_sm_1.keep KL
      have E_sm_2 := E_sm_2.keep KL
      have E_b39_2 := E_b39_2.keep KL
      have F_stringMatcher_b39_2 := F_stringMatcher_b39_2.keep KL nin0
      have F_ignoringCase_b39_2 := F_ignoringCase_b39_2.keep KL nin0
      show Run p e below _ (T.setTop (mkF m 60 _ [(.ref b0_0_c6)]))
      refine q_astore (pc' := 62) (l' := #[.val (.int p1), .val (.int p2), .val (.int p3), .val (.ref sm_1), .val (.int ((p2 &&& (2147483647 : Int32)) % (7 : Int32))), .val (.ref sm_2), .val (.int (1 : Int32)), .val (.ref b0_0_c6), .unset, .unset]) X hx (hb hby at_60) rfl rfl rfl ?_
      refine q_iload (pc' := 64) X hx (hb hby at_62) rfl rfl ?_
      refine q_iconst (pc' := 65) (z := (1 : Int32)) X hx (hb hby at_64) rfl rfl ?_
      refine q_icmpNo (pc' := 68) X hx (hb hby at_65) (by decide) rfl ?_
      refine q_aload (pc' := 70) X hx (hb hby at_68) rfl rfl rfl ?_
      refine q_iconst (pc' := 71) (z := (1 : Int32)) X hx (hb hby at_70) rfl rfl ?_
      have lt_b39_2 := E_b39_2.lt
      have lt_b0_0_c6 := E_b0_0_c6.lt
      have lt_sm_2 := E_sm_2.lt
      refine q_callV (pc' := 74) (y := y8) (rest := []) X hx hZ hown (hb hby at_71) (t46 hw) (t47 hw) (t49 hw) (t48 hw) (t12 hw) (t50 hw) (by decide) eT E_b0_0_c6 [(.int (1 : Int32))] (c29_ignoreCase hw wd  O E_sm_2 E_b0_0_c6 F_stringMatcher_b0_0_c6 F_ignoringCase_b0_0_c6) (by rw [hml]; rfl) (lenOf pd_8 rfl) (W := 0) rfl (by decide) (by decide) (by decide) (by decide) rfl ?_
      rintro _ T _ X ⟨b0_0_c8, rfl, NL, KL, szn_b0_0_c8, E_b0_0_c8, F_stringMatcher_b0_0_c8, F_ignoringCase_b0_0_c8⟩
      have N := N.app NL
      have ne_b39_2_b0_0_c8 : b39_2 ≠ b0_0_c8 := Nat.ne_of_lt (Nat.lt_of_lt_of_le lt_b39_2 szn_b0_0_c8)
      have ne_b0_0_c6_b0_0_c8 : b0_0_c6 ≠ b0_0_c8 := Nat.ne_of_lt (Nat.lt_of_lt_of_le lt_b0_0_c6 szn_b0_0_c8)
      have ne_sm_2_b0_0_c8 : sm_2 ≠ b0_0_c8 := Nat.ne_of_lt (Nat.lt_of_lt_of_le lt_sm_2 szn_b0_0_c8)
      have g_b0_0_c8 : Z.heap.size ≤ b0_0_c8 := Nat.le_trans O.1 szn_b0_0_c8
      obtain ⟨h_9, eT⟩ : ∃ z, T.heap = z := ⟨_, rfl⟩
      rw [eT] at KL E_b0_0_c8 F_stringMatcher_b0_0_c8 F_ignoringCase_b0_0_c8
      have O := ext_keep O KL all0
      have hk := Nat.le_trans hk KL.1
      have E_sm_1 := E_sm_1.keep KL
      have E_sm_2 := E_sm_2.keep KL
      have E_b39_2 := E_b39_2.keep KL
      have F_stringMatcher_b39_2 := F_stringMatcher_b39_2.keep KL nin0
      have F_ignoringCase_b39_2 := F_ignoringCase_b39_2.keep KL nin0
      have E_b0_0_c6 := E_b0_0_c6.keep KL
      have F_stringMatcher_b0_0_c6 := F_stringMatcher_b0_0_c6.keep KL nin0
      have F_ignoringCase_b0_0_c6 := F_ignoringCase_b0_0_c6.keep KL nin0
      show Run p e below _ (T.setTop (mkF m 74 _ [(.ref b0_0_c8)]))
      refine q_astore (pc' := 76) (l' := #[.val (.int p1), .val (.int p2), .val (.int p3), .val (.ref sm_1), .val (.int ((p2 &&& (2147483647 : Int32)) % (7 : Int32))), .val (.ref sm_2), .val (.int (1 : Int32)), .val (.ref b0_0_c8), .unset, .unset]) X hx (hb hby at_74) rfl rfl rfl ?_
      refine q_goto (pc' := 93) X hx (hb hby at_76) (by decide) (by decide) ?_
      refine q_aload (pc' := 95) X hx (hb hby at_93) rfl rfl rfl ?_
      refine q_callV (pc' := 98) (y := y3) (rest := []) X hx hZ hown (hb hby at_95) (t56 hw) (t57 hw) (t59 hw) (t58 hw) (t12 hw) (t60 hw) (by decide) eT E_b0_0_c8 [] (c18_getIgnoreCase hw wd  O E_sm_2 E_b0_0_c8 F_stringMatcher_b0_0_c8 F_ignoringCase_b0_0_c8) (by rw [hml]; rfl) (lenOf pd_3 rfl) (W := 0) rfl (by decide) (by decide) (by decide) (by decide) rfl ?_
      rintro _ T _ X ⟨rfl, rfl, eT⟩
      rw [List.append_nil] at X
      show Run p e below _ (T.setTop (mkF m 98 _ [(.ref w_TRUE)]))
      refine q_astore (pc' := 100) (l' := #[.val (.int p1), .val (.int p2), .val (.int p3), .val (.ref sm_1), .val (.int ((p2 &&& (2147483647 : Int32)) % (7 : Int32))), .val (.ref sm_2), .val (.int (1 : Int32)), .val (.ref b0_0_c8), .val (.ref w_TRUE), .unset]) X hx (hb hby at_98) rfl rfl rfl ?_
      refine q_iload (pc' := 102) X hx (hb hby at_100) rfl rfl ?_
      refine q_ifYes (pc' := 109) X hx (hb hby at_102) (by decide) (by decide) (by decide) ?_
      refine q_iconst (pc' := 110) (z := (0 : Int32)) X hx (hb hby at_109) rfl rfl ?_
      refine q_aload (pc' := 112) X hx (hb hby at_110) rfl rfl rfl ?_
      refine q_ifnonnullYes (pc' := 119) X hx (hb hby at_112) (by decide) (by decide) ?_
      refine q_iconst (pc' := 120) (z := (0 : Int32)) X hx (hb hby at_119) rfl rfl ?_
      refine q_icmpYes (pc' := 125) X hx (hb hby at_120) (by decide) (by decide) (by decide) ?_
      refine q_aload (pc' := 127) X hx (hb hby at_125) rfl rfl rfl ?_
      refine q_callV (pc' := 130) (y := y4) (rest := []) X hx hZ hown (hb hby at_127) (t61 hw) (t62 hw) (t64 hw) (t63 hw) (t12 hw) (t65 hw) (by decide) eT E_b0_0_c8 [] (c17_getStringMatcher hw wd  O E_sm_2 E_b0_0_c8 F_stringMatcher_b0_0_c8 F_ignoringCase_b0_0_c8) (by rw [hml]; rfl) (lenOf pd_4 rfl) (W := 0) rfl (by decide) (by decide) (by decide) (by decide) rfl ?_
      rintro _ T _ X ⟨rfl, rfl, eT⟩
      rw [List.append_nil] at X
      show Run p e below _ (T.setTop (mkF m 130 _ [(.ref sm_2)]))
      refine q_aload (pc' := 132) X hx (hb hby at_130) rfl rfl rfl ?_
      refine q_acmp (pc' := 137) (same := true) X hx (hb hby at_132) rfl rfl (decide_eq_true rfl) (by decide) (by decide) ?_
      refine q_aload (pc' := 139) X hx (hb hby at_137) rfl rfl rfl ?_
      refine q_aloadN (pc' := 140) X hx (hb hby at_139) rfl rfl rfl ?_
      have lt_b39_2 := E_b39_2.lt
      have lt_b0_0_c6 := E_b0_0_c6.lt
      have lt_b0_0_c8 := E_b0_0_c8.lt
      have lt_sm_2 := E_sm_2.lt
      have lt_sm_1 := E_sm_1.lt
      refine q_callVW (pc' := 143) (y := y6) (rest := []) X hx hZ hown hS hk (hb hby at_140) (t26 hw) (t27 hw) (t29 hw) (t28 hw) (t12 hw) (t30 hw) (by decide) eT E_b0_0_c8 [(.ref sm_1)] (c30_stringMatcher hw wd  O E_sm_1 E_sm_2 E_b0_0_c8 F_stringMatcher_b0_0_c8 F_ignoringCase_b0_0_c8) (by rw [hml]; rfl) (lenOf pd_6 rfl) (W := 0) rfl (by decide) (by decide) (by decide) (by decide) rfl ?_
      rintro _ T _ kS X ⟨b0_0_c10, rfl, NL, KL, szn_b0_0_c10, E_b0_0_c10, F_stringMatcher_b0_0_c10, F_ignoringCase_b0_0_c10⟩ hS hk hZ hown
      have N := N.app NL
      have ne_b39_2_b0_0_c10 : b39_2 ≠ b0_0_c10 := Nat.ne_of_lt (Nat.lt_of_lt_of_le lt_b39_2 szn_b0_0_c10)
      have ne_b0_0_c6_b0_0_c10 : b0_0_c6 ≠ b0_0_c10 := Nat.ne_of_lt (Nat.lt_of_lt_of_le lt_b0_0_c6 szn_b0_0_c10)
      have ne_b0_0_c8_b0_0_c10 : b0_0_c8 ≠ b0_0_c10 := Nat.ne_of_lt (Nat.lt_of_lt_of_le lt_b0_0_c8 szn_b0_0_c10)
      have ne_sm_2_b0_0_c10 : sm_2 ≠ b0_0_c10 := Nat.ne_of_lt (Nat.lt_of_lt_of_le lt_sm_2 szn_b0_0_c10)
      have ne_sm_1_b0_0_c10 : sm_1 ≠ b0_0_c10 := Nat.ne_of_lt (Nat.lt_of_lt_of_le lt_sm_1 szn_b0_0_c10)
      have g_b0_0_c10 : Z.heap.size ≤ b0_0_c10 := Nat.le_trans O.1 szn_b0_0_c10
      obtain ⟨h_11, eT⟩ : ∃ z, T.heap = z := ⟨_, rfl⟩
      rw [eT] at KL E_b0_0_c10 F_stringMatcher_b0_0_c10 F_ignoringCase_b0_0_c10 hk
      have O := ext_keep O KL all0
      have E_sm_1 := E_sm_1.keep KL
      have E_sm_2 := E_sm_2.keep KL
      have E_b39_2 := E_b39_2.keep KL
      have F_stringMatcher_b39_2 := F_stringMatcher_b39_2.keep KL nin0
      have F_ignoringCase_b39_2 := F_ignoringCase_b39_2.keep KL nin0
      have E_b0_0_c6 := E_b0_0_c6.keep KL
      have F_stringMatcher_b0_0_c6 := F_stringMatcher_b0_0_c6.keep KL nin0
      have F_ignoringCase_b0_0_c6 := F_ignoringCase_b0_0_c6.keep KL nin0
      have E_b0_0_c8 := E_b0_0_c8.keep KL
      have F_stringMatcher_b0_0_c8 := F_stringMatcher_b0_0_c8.keep KL nin0
      have F_ignoringCase_b0_0_c8 := F_ignoringCase_b0_0_c8.keep KL nin0
      show Run p e below _ (T.setTop (mkF m 143 _ [(.ref b0_0_c10)]))
      refine q_astore (pc' := 145) (l' := #[.val (.int p1), .val (.int p2), .val (.int p3), .val (.ref sm_1), .val (.int ((p2 &&& (2147483647 : Int32)) % (7 : Int32))), .val (.ref sm_2), .val (.int (1 : Int32)), .val (.ref b0_0_c8), .val (.ref w_TRUE), .val (.ref b0_0_c10)]) X hx (hb hby at_143) rfl rfl rfl ?_
      refine q_aload (pc' := 147) X hx (hb hby at_145) rfl rfl rfl ?_
      refine q_ifnullNo (pc' := 150) X hx (hb hby at_147) rfl ?_
      refine q_aload (pc' := 152) X hx (hb hby at_150) rfl rfl rfl ?_
      refine q_aload (pc' := 154) X hx (hb hby at_152) rfl rfl rfl ?_
      refine q_acmp (pc' := 159) (same := false) X hx (hb hby at_154) rfl rfl (decide_eq_false fun q => (Ne.symm ne_b0_0_c8_b0_0_c10) (Value.ref.inj q)) (by decide) (by decide) ?_
      refine q_aload (pc' := 161) X hx (hb hby at_159) rfl rfl rfl ?_
      refine q_callV (pc' := 164) (y := y4) (rest := []) X hx hZ hown (hb hby at_161) (t61 hw) (t62 hw) (t64 hw) (t63 hw) (t12 hw) (t65 hw) (by decide) eT E_b0_0_c10 [] (c17_getStringMatcher hw wd  O E_sm_1 E_b0_0_c10 F_stringMatcher_b0_0_c10 F_ignoringCase_b0_0_c10) (by rw [hml]; rfl) (lenOf pd_4 rfl) (W := 0) rfl (by decide) (by decide) (by decide) (by decide) rfl ?_
      rintro _ T _ X ⟨rfl, rfl, eT⟩
      rw [List.append_nil] at X
      show Run p e below _ (T.setTop (mkF m 164 _ [(.ref sm_1)]))
      refine q_aloadN (pc' := 165) X hx (hb hby at_164) rfl rfl rfl ?_
      refine q_acmp (pc' := 170) (same := true) X hx (hb hby at_165) rfl rfl (decide_eq_true rfl) (by decide) (by decide) ?_
      refine q_aload (pc' := 172) X hx (hb hby at_170) rfl rfl rfl ?_
      refine q_callV (pc' := 175) (y := y3) (rest := []) X hx hZ hown (hb hby at_172) (t56 hw) (t57 hw) (t59 hw) (t58 hw) (t12 hw) (t60 hw) (by decide) eT E_b0_0_c10 [] (c18_getIgnoreCase hw wd  O E_sm_1 E_b0_0_c10 F_stringMatcher_b0_0_c10 F_ignoringCase_b0_0_c10) (by rw [hml]; rfl) (lenOf pd_3 rfl) (W := 0) rfl (by decide) (by decide) (by decide) (by decide) rfl ?_
      rintro _ T _ X ⟨rfl, rfl, eT⟩
      rw [List.append_nil] at X
      show Run p e below _ (T.setTop (mkF m 175 _ [(.ref w_TRUE)]))
      refine q_aload (pc' := 177) X hx (hb hby at_175) rfl rfl rfl ?_
      refine q_acmp (pc' := 182) (same := true) X hx (hb hby at_177) rfl rfl (decide_eq_true rfl) (by decide) (by decide) ?_
      refine q_aload (pc' := 184) X hx (hb hby at_182) rfl rfl rfl ?_
      refine q_callV (pc' := 187) (y := y4) (rest := []) X hx hZ hown (hb hby at_184) (t61 hw) (t62 hw) (t64 hw) (t63 hw) (t12 hw) (t65 hw) (by decide) eT E_b0_0_c8 [] (c17_getStringMatcher hw wd  O E_sm_2 E_b0_0_c8 F_stringMatcher_b0_0_c8 F_ignoringCase_b0_0_c8) (by rw [hml]; rfl) (lenOf pd_4 rfl) (W := 0) rfl (by decide) (by decide) (by decide) (by decide) rfl ?_
      rintro _ T _ X ⟨rfl, rfl, eT⟩
      rw [List.append_nil] at X
      show Run p e below _ (T.setTop (mkF m 187 _ [(.ref sm_2)]))
      refine q_aload (pc' := 189) X hx (hb hby at_187) rfl rfl rfl ?_
      refine q_acmp (pc' := 194) (same := true) X hx (hb hby at_189) rfl rfl (decide_eq_true rfl) (by decide) (by decide) ?_
      refine q_aload (pc' := 196) X hx (hb hby at_194) rfl rfl rfl ?_
      refine q_callV (pc' := 199) (y := y3) (rest := []) X hx hZ hown (hb hby at_196) (t56 hw) (t57 hw) (t59 hw) (t58 hw) (t12 hw) (t60 hw) (by decide) eT E_b0_0_c8 [] (c18_getIgnoreCase hw wd  O E_sm_2 E_b0_0_c8 F_stringMatcher_b0_0_c8 F_ignoringCase_b0_0_c8) (by rw [hml]; rfl) (lenOf pd_3 rfl) (W := 0) rfl (by decide) (by decide) (by decide) (by decide) rfl ?_
      rintro _ T _ X ⟨rfl, rfl, eT⟩
      rw [List.append_nil] at X
      show Run p e below _ (T.setTop (mkF m 199 _ [(.ref w_TRUE)]))
      refine q_aload (pc' := 201) X hx (hb hby at_199) rfl rfl rfl ?_
      refine q_acmp (pc' := 204) (same := true) X hx (hb hby at_201) rfl rfl (decide_eq_true rfl) (by decide) (by decide) ?_
      refine q_iconst (pc' := 205) (z := (1 : Int32)) X hx (hb hby at_204) rfl rfl ?_
      refine q_goto (pc' := 209) X hx (hb hby at_205) (by decide) (by decide) ?_
      refine Run.retBW X hx hlk hS (by rw [eT]; exact hk) hret (hb hby at_209) rfl (by decide) (by decide) ?_
      try rw [eT]
      exact ⟨rfl, N⟩
    · rw [hi]
      refine q_new (pc' := 42) X hx hZ hown (hb hby at_39) (t10 hw) (t11 hw) (t12 hw) eT (by decide) (by decide) rfl ?_
      intro T h_3 b39_2 X eT Ex gb Ax Dx
      have g_b39_2 : Z.heap.size ≤ b39_2 := Nat.le_trans O.1 (Nat.le_of_eq gb.symm)
      have O := ext_trans O Ex
      have hk := Nat.le_trans hk Ex.1
      have E_sm_1 := E_sm_1.ext Ex
      have E_sm_2 := E_sm_2.ext Ex
      have E_b39_2 := Ax
      have F_stringMatcher_b39_2 : Fld Z h_3 b39_2 "com/example/wicker_store/wickerstore/ExampleMatcher$GenericPropertyMatcher" "stringMatcher" "Lcom/example/wicker_store/wickerstore/ExampleMatcher$StringMatcher;" .null := Dx (Or.inr (t23 hw)) (ty := (.object "com/example/wicker_store/wickerstore/ExampleMatcher$StringMatcher")) (by decide)
      have F_ignoringCase_b39_2 : Fld Z h_3 b39_2 "com/example/wicker_store/wickerstore/ExampleMatcher$GenericPropertyMatcher" "ignoringCase" "Ljava/lang/Boolean;" .null := Dx (Or.inr (t25 hw)) (ty := (.object "java/lang/Boolean")) (by decide)
      refine q_dup (pc' := 43) X hx (hb hby at_42) rfl rfl ?_
      refine q_callN (pc' := 46) (y := y2) (rest := [(.ref b39_2)]) (b := b39_2) X hx hZ hown (hb hby at_43) rfl (t13 hw) (t14 hw) (t12 hw) (t15 hw) (by decide) eT [] (c1_init hw wd  O E_b39_2 F_stringMatcher_b39_2 F_ignoringCase_b39_2 g_b39_2) (by rw [hml]; rfl) (lenOf pd_2 rfl) (W := 1) rfl (by decide) (by decide) (by decide) (by decide) rfl ?_
      rintro _ T _ X ⟨rfl, NL, KL, E_b39_2, F_stringMatcher_b39_2, F_ignoringCase_b39_2⟩
      have N := N.app NL
      obtain ⟨h_5, eT⟩ : ∃ z, T.heap = z := ⟨_, rfl⟩
      rw [eT] at KL E_b39_2 F_stringMatcher_b39_2 F_ignoringCase_b39_2
      have O := ext_keep O KL (allS g_b39_2 all0)
      have hk := Nat.le_trans hk KL.1
      have E_sm_1 := E_sm_1.keep KL
      have E_sm_2 := E_sm_2.keep KL
      show Run p e below _ (T.setTop (mkF m 46 _ [(.ref b39_2)]))
      refine q_astore (pc' := 48) (l' := #[.val (.int p1), .val (.int p2), .val (.int p3), .val (.ref sm_1), .val (.int ((p2 &&& (2147483647 : Int32)) % (7 : Int32))), .val (.ref sm_2), .val (.int (2 : Int32)), .val (.ref b39_2), .unset, .unset]) X hx (hb hby at_46) rfl rfl rfl ?_
      refine q_aload (pc' := 50) X hx (hb hby at_48) rfl rfl rfl ?_
      refine q_ifnullNo (pc' := 53) X hx (hb hby at_50) rfl ?_
      refine q_aload (pc' := 55) X hx (hb hby at_53) rfl rfl rfl ?_
      refine q_aload (pc' := 57) X hx (hb hby at_55) rfl rfl rfl ?_
      have lt_b39_2 := E_b39_2.lt
      have lt_sm_2 := E_sm_2.lt
      refine q_callVW (pc' := 60) (y := y6) (rest := []) X hx hZ hown hS hk (hb hby at_57) (t26 hw) (t27 hw) (t29 hw) (t28 hw) (t12 hw) (t30 hw) (by decide) eT E_b39_2 [(.ref sm_2)] (c5_stringMatcher hw wd  O E_sm_2 E_b39_2 F_stringMatcher_b39_2 F_ignoringCase_b39_2) (by rw [hml]; rfl) (lenOf pd_6 rfl) (W := 0) rfl (by decide) (by decide) (by decide) (by decide) rfl ?_
      rintro _ T _ kS X ⟨b0_0_c6, rfl, NL, KL, szn_b0_0_c6, E_b0_0_c6, F_stringMatcher_b0_0_c6, F_ignoringCase_b0_0_c6⟩ hS hk hZ hown
      have N := N.app NL
      have ne_b39_2_b0_0_c6 : b39_2 ≠ b0_0_c6 := Nat.ne_of_lt (Nat.lt_of_lt_of_le lt_b39_2 szn_b0_0_c6)
      have ne_sm_2_b0_0_c6 : sm_2 ≠ b0_0_c6 := Nat.ne_of_lt (Nat.lt_of_lt_of_le lt_sm_2 szn_b0_0_c6)
      have g_b0_0_c6 : Z.heap.size ≤ b0_0_c6 := Nat.le_trans O.1 szn_b0_0_c6
      obtain ⟨h_7, eT⟩ : ∃ z, T.heap = z := ⟨_, rfl⟩
      rw [eT] at KL E_b0_0_c6 F_stringMatcher_b0_0_c6 F_ignoringCase_b0_0_c6 hk
      have O := ext_keep O KL all0
      have E_sm_1 := E_sm_1.keep KL
      have E_sm_2 := E_sm_2.keep KL
      have E_b39_2 := E_b39_2.keep KL
      have F_stringMatcher_b39_2 := F_stringMatcher_b39_2.keep KL nin0
      have F_ignoringCase_b39_2 := F_ignoringCase_b39_2.keep KL nin0
      show Run p e below _ (T.setTop (mkF m 60 _ [(.ref b0_0_c6)]))
      refine q_astore (pc' := 62) (l' := #[.val (.int p1), .val (.int p2), .val (.int p3), .val (.ref sm_1), .val (.int ((p2 &&& (2147483647 : Int32)) % (7 : Int32))), .val (.ref sm_2), .val (.int (2 : Int32)), .val (.ref b0_0_c6), .unset, .unset]) X hx (hb hby at_60) rfl rfl rfl ?_
      refine q_iload (pc' := 64) X hx (hb hby at_62) rfl rfl ?_
      refine q_iconst (pc' := 65) (z := (1 : Int32)) X hx (hb hby at_64) rfl rfl ?_
      refine q_icmpYes (pc' := 79) X hx (hb hby at_65) (by decide) (by decide) (by decide) ?_
      refine q_iload (pc' := 81) X hx (hb hby at_79) rfl rfl ?_
      refine q_iconst (pc' := 82) (z := (2 : Int32)) X hx (hb hby at_81) rfl rfl ?_
      refine q_icmpNo (pc' := 85) X hx (hb hby at_82) (by decide) rfl ?_
      refine q_aload (pc' := 87) X hx (hb hby at_85) rfl rfl rfl ?_
      refine q_iconst (pc' := 88) (z := (0 : Int32)) X hx (hb hby at_87) rfl rfl ?_
      have lt_b39_2 := E_b39_2.lt
      have lt_b0_0_c6 := E_b0_0_c6.lt
      have lt_sm_2 := E_sm_2.lt
      refine q_callV (pc' := 91) (y := y8) (rest := []) X hx hZ hown (hb hby at_88) (t46 hw) (t47 hw) (t49 hw) (t48 hw) (t12 hw) (t50 hw) (by decide) eT E_b0_0_c6 [(.int (0 : Int32))] (c31_ignoreCase hw wd  O E_sm_2 E_b0_0_c6 F_stringMatcher_b0_0_c6 F_ignoringCase_b0_0_c6) (by rw [hml]; rfl) (lenOf pd_8 rfl) (W := 0) rfl (by decide) (by decide) (by decide) (by decide) rfl ?_
      rintro _ T _ X ⟨b0_0_c8, rfl, NL, KL, szn_b0_0_c8, E_b0_0_c8, F_stringMatcher_b0_0_c8, F_ignoringCase_b0_0_c8⟩
      have N := N.app NL
      have ne_b39_2_b0_0_c8 : b39_2 ≠ b0_0_c8 := Nat.ne_of_lt (Nat.lt_of_lt_of_le lt_b39_2 szn_b0_0_c8)
      have ne_b0_0_c6_b0_0_c8 : b0_0_c6 ≠ b0_0_c8 := Nat.ne_of_lt (Nat.lt_of_lt_of_le lt_b0_0_c6 szn_b0_0_c8)
      have ne_sm_2_b0_0_c8 : sm_2 ≠ b0_0_c8 := Nat.ne_of_lt (Nat.lt_of_lt_of_le lt_sm_2 szn_b0_0_c8)
      have g_b0_0_c8 : Z.heap.size ≤ b0_0_c8 := Nat.le_trans O.1 szn_b0_0_c8
      obtain ⟨h_9, eT⟩ : ∃ z, T.heap = z := ⟨_, rfl⟩
      rw [eT] at KL E_b0_0_c8 F_stringMatcher_b0_0_c8 F_ignoringCase_b0_0_c8
      have O := ext_keep O KL all0
      have hk := Nat.le_trans hk KL.1
      have E_sm_1 := E_sm_1.keep KL
      have E_sm_2 := E_sm_2.keep KL
      have E_b39_2 := E_b39_2.keep KL
      have F_stringMatcher_b39_2 := F_stringMatcher_b39_2.keep KL nin0
      have F_ignoringCase_b39_2 := F_ignoringCase_b39_2.keep KL nin0
      have E_b0_0_c6 := E_b0_0_c6.keep KL
      have F_stringMatcher_b0_0_c6 := F_stringMatcher_b0_0_c6.keep KL nin0
      have F_ignoringCase_b0_0_c6 := F_ignoringCase_b0_0_c6.keep KL nin0
      show Run p e below _ (T.setTop (mkF m 91 _ [(.ref b0_0_c8)]))
      refine q_astore (pc' := 93) (l' := #[.val (.int p1), .val (.int p2), .val (.int p3), .val (.ref sm_1), .val (.int ((p2 &&& (2147483647 : Int32)) % (7 : Int32))), .val (.ref sm_2), .val (.int (2 : Int32)), .val (.ref b0_0_c8), .unset, .unset]) X hx (hb hby at_91) rfl rfl rfl ?_
      refine q_aload (pc' := 95) X hx (hb hby at_93) rfl rfl rfl ?_
      refine q_callV (pc' := 98) (y := y3) (rest := []) X hx hZ hown (hb hby at_95) (t56 hw) (t57 hw) (t59 hw) (t58 hw) (t12 hw) (t60 hw) (by decide) eT E_b0_0_c8 [] (c27_getIgnoreCase hw wd  O E_sm_2 E_b0_0_c8 F_stringMatcher_b0_0_c8 F_ignoringCase_b0_0_c8) (by rw [hml]; rfl) (lenOf pd_3 rfl) (W := 0) rfl (by decide) (by decide) (by decide) (by decide) rfl ?_
      rintro _ T _ X ⟨rfl, rfl, eT⟩
      rw [List.append_nil] at X
      show Run p e below _ (T.setTop (mkF m 98 _ [(.ref w_FALSE)]))
      refine q_astore (pc' := 100) (l' := #[.val (.int p1), .val (.int p2), .val (.int p3), .val (.ref sm_1), .val (.int ((p2 &&& (2147483647 : Int32)) % (7 : Int32))), .val (.ref sm_2), .val (.int (2 : Int32)), .val (.ref b0_0_c8), .val (.ref w_FALSE), .unset]) X hx (hb hby at_98) rfl rfl rfl ?_
      refine q_iload (pc' := 102) X hx (hb hby at_100) rfl rfl ?_
      refine q_ifYes (pc' := 109) X hx (hb hby at_102) (by decide) (by decide) (by decide) ?_
      refine q_iconst (pc' := 110) (z := (0 : Int32)) X hx (hb hby at_109) rfl rfl ?_
      refine q_aload (pc' := 112) X hx (hb hby at_110) rfl rfl rfl ?_
      refine q_ifnonnullYes (pc' := 119) X hx (hb hby at_112) (by decide) (by decide) ?_
      refine q_iconst (pc' := 120) (z := (0 : Int32)) X hx (hb hby at_119) rfl rfl ?_
      refine q_icmpYes (pc' := 125) X hx (hb hby at_120) (by decide) (by decide) (by decide) ?_
      refine q_aload (pc' := 127) X hx (hb hby at_125) rfl rfl rfl ?_
      refine q_callV (pc' := 130) (y := y4) (rest := []) X hx hZ hown (hb hby at_127) (t61 hw) (t62 hw) (t64 hw) (t63 hw) (t12 hw) (t65 hw) (by decide) eT E_b0_0_c8 [] (c26_getStringMatcher hw wd  O E_sm_2 E_b0_0_c8 F_stringMatcher_b0_0_c8 F_ignoringCase_b0_0_c8) (by rw [hml]; rfl) (lenOf pd_4 rfl) (W := 0) rfl (by decide) (by decide) (by decide) (by decide) rfl ?_
      rintro _ T _ X ⟨rfl, rfl, eT⟩
      rw [List.append_nil] at X
      show Run p e below _ (T.setTop (mkF m 130 _ [(.ref sm_2)]))
      refine q_aload (pc' := 132) X hx (hb hby at_130) rfl rfl rfl ?_
      refine q_acmp (pc' := 137) (same := true) X hx (hb hby at_132) rfl rfl (decide_eq_true rfl) (by decide) (by decide) ?_
      refine q_aload (pc' := 139) X hx (hb hby at_137) rfl rfl rfl ?_
      refine q_aloadN (pc' := 140) X hx (hb hby at_139) rfl rfl rfl ?_
      have lt_b39_2 := E_b39_2.lt
      have lt_b0_0_c6 := E_b0_0_c6.lt
      have lt_b0_0_c8 := E_b0_0_c8.lt
      have lt_sm_2 := E_sm_2.lt
      have lt_sm_1 := E_sm_1.lt
      refine q_callVW (pc' := 143) (y := y6) (rest := []) X hx hZ hown hS hk (hb hby at_140) (t26 hw) (t27 hw) (t29 hw) (t28 hw) (t12 hw) (t30 hw) (by decide) eT E_b0_0_c8 [(.ref sm_1)] (c32_stringMatcher hw wd  O E_sm_1 E_sm_2 E_b0_0_c8 F_stringMatcher_b0_0_c8 F_ignoringCase_b0_0_c8) (by rw [hml]; rfl) (lenOf pd_6 rfl) (W := 0) rfl (by decide) (by decide) (by decide) (by decide) rfl ?_
      rintro _ T _ kS X ⟨b0_0_c10, rfl, NL, KL, szn_b0_0_c10, E_b0_0_c10, F_stringMatcher_b0_0_c10, F_ignoringCase_b0_0_c10⟩ hS hk hZ hown
      have N := N.app NL
      have ne_b39_2_b0_0_c10 : b39_2 ≠ b0_0_c10 := Nat.ne_of_lt (Nat.lt_of_lt_of_le lt_b39_2 szn_b0_0_c10)
      have ne_b0_0_c6_b0_0_c10 : b0_0_c6 ≠ b0_0_c10 := Nat.ne_of_lt (Nat.lt_of_lt_of_le lt_b0_0_c6 szn_b0_0_c10)
      have ne_b0_0_c8_b0_0_c10 : b0_0_c8 ≠ b0_0_c10 := Nat.ne_of_lt (Nat.lt_of_lt_of_le lt_b0_0_c8 szn_b0_0_c10)
      have ne_sm_2_b0_0_c10 : sm_2 ≠ b0_0_c10 := Nat.ne_of_lt (Nat.lt_of_lt_of_le lt_sm_2 szn_b0_0_c10)
      have ne_sm_1_b0_0_c10 : sm_1 ≠ b0_0_c10 := Nat.ne_of_lt (Nat.lt_of_lt_of_le lt_sm_1 szn_b0_0_c10)
      have g_b0_0_c10 : Z.heap.size ≤ b0_0_c10 := Nat.le_trans O.1 szn_b0_0_c10
      obtain ⟨h_11, eT⟩ : ∃ z, T.heap = z := ⟨_, rfl⟩
      rw [eT] at KL E_b0_0_c10 F_stringMatcher_b0_0_c10 F_ignoringCase_b0_0_c10 hk
      have O := ext_keep O KL all0
      have E_sm_1 := E_sm_1.keep KL
      have E_sm_2 := E_sm_2.keep KL
      have E_b39_2 := E_b39_2.keep KL
      have F_stringMatcher_b39_2 := F_stringMatcher_b39_2.keep KL nin0
      have F_ignoringCase_b39_2 := F_ignoringCase_b39_2.keep KL nin0
      have E_b0_0_c6 := E_b0_0_c6.keep KL
      have F_stringMatcher_b0_0_c6 := F_stringMatcher_b0_0_c6.keep KL nin0
      have F_ignoringCase_b0_0_c6 := F_ignoringCase_b0_0_c6.keep KL nin0
      have E_b0_0_c8 := E_b0_0_c8.keep KL
      have F_stringMatcher_b0_0_c8 := F_stringMatcher_b0_0_c8.keep KL nin0
      have F_ignoringCase_b0_0_c8 := F_ignoringCase_b0_0_c8.keep KL nin0
      show Run p e below _ (T.setTop (mkF m 143 _ [(.ref b0_0_c10)]))
      refine q_astore (pc' := 145) (l' := #[.val (.int p1), .val (.int p2), .val (.int p3), .val (.ref sm_1), .val (.int ((p2 &&& (2147483647 : Int32)) % (7 : Int32))), .val (.ref sm_2), .val (.int (2 : Int32)), .val (.ref b0_0_c8), .val (.ref w_FALSE), .val (.ref b0_0_c10)]) X hx (hb hby at_143) rfl rfl rfl ?_
      refine q_aload (pc' := 147) X hx (hb hby at_145) rfl rfl rfl ?_
      refine q_ifnullNo (pc' := 150) X hx (hb hby at_147) rfl ?_
      refine q_aload (pc' := 152) X hx (hb hby at_150) rfl rfl rfl ?_
      refine q_aload (pc' := 154) X hx (hb hby at_152) rfl rfl rfl ?_
      refine q_acmp (pc' := 159) (same := false) X hx (hb hby at_154) rfl rfl (decide_eq_false fun q => (Ne.symm ne_b0_0_c8_b0_0_c10) (Value.ref.inj q)) (by decide) (by decide) ?_
      refine q_aload (pc' := 161) X hx (hb hby at_159) rfl rfl rfl ?_
      refine q_callV (pc' := 164) (y := y4) (rest := []) X hx hZ hown (hb hby at_161) (t61 hw) (t62 hw) (t64 hw) (t63 hw) (t12 hw) (t65 hw) (by decide) eT E_b0_0_c10 [] (c26_getStringMatcher hw wd  O E_sm_1 E_b0_0_c10 F_stringMatcher_b0_0_c10 F_ignoringCase_b0_0_c10) (by rw [hml]; rfl) (lenOf pd_4 rfl) (W := 0) rfl (by decide) (by decide) (by decide) (by decide) rfl ?_
      rintro _ T _ X ⟨rfl, rfl, eT⟩
      rw [List.append_nil] at X
      show Run p e below _ (T.setTop (mkF m 164 _ [(.ref sm_1)]))
      refine q_aloadN (pc' := 165) X hx (hb hby at_164) rfl rfl rfl ?_
      refine q_acmp (pc' := 170) (same := true) X hx (hb hby at_165) rfl rfl (decide_eq_true rfl) (by decide) (by decide) ?_
      refine q_aload (pc' := 172) X hx (hb hby at_170) rfl rfl rfl ?_
      refine q_callV (pc' := 175) (y := y3) (rest := []) X hx hZ hown (hb hby at_172) (t56 hw) (t57 hw) (t59 hw) (t58 hw) (t12 hw) (t60 hw) (by decide) eT E_b0_0_c10 [] (c27_getIgnoreCase hw wd  O E_sm_1 E_b0_0_c10 F_stringMatcher_b0_0_c10 F_ignoringCase_b0_0_c10) (by rw [hml]; rfl) (lenOf pd_3 rfl) (W := 0) rfl (by decide) (by decide) (by decide) (by decide) rfl ?_
      rintro _ T _ X ⟨rfl, rfl, eT⟩
      rw [List.append_nil] at X
      show Run p e below _ (T.setTop (mkF m 175 _ [(.ref w_FALSE)]))
      refine q_aload (pc' := 177) X hx (hb hby at_175) rfl rfl rfl ?_
      refine q_acmp (pc' := 182) (same := true) X hx (hb hby at_177) rfl rfl (decide_eq_true rfl) (by decide) (by decide) ?_
      refine q_aload (pc' := 184) X hx (hb hby at_182) rfl rfl rfl ?_
      refine q_callV (pc' := 187) (y := y4) (rest := []) X hx hZ hown (hb hby at_184) (t61 hw) (t62 hw) (t64 hw) (t63 hw) (t12 hw) (t65 hw) (by decide) eT E_b0_0_c8 [] (c26_getStringMatcher hw wd  O E_sm_2 E_b0_0_c8 F_stringMatcher_b0_0_c8 F_ignoringCase_b0_0_c8) (by rw [hml]; rfl) (lenOf pd_4 rfl) (W := 0) rfl (by decide) (by decide) (by decide) (by decide) rfl ?_
      rintro _ T _ X ⟨rfl, rfl, eT⟩
      rw [List.append_nil] at X
      show Run p e below _ (T.setTop (mkF m 187 _ [(.ref sm_2)]))
      refine q_aload (pc' := 189) X hx (hb hby at_187) rfl rfl rfl ?_
      refine q_acmp (pc' := 194) (same := true) X hx (hb hby at_189) rfl rfl (decide_eq_true rfl) (by decide) (by decide) ?_
      refine q_aload (pc' := 196) X hx (hb hby at_194) rfl rfl rfl ?_
      refine q_callV (pc' := 199) (y := y3) (rest := []) X hx hZ hown (hb hby at_196) (t56 hw) (t57 hw) (t59 hw) (t58 hw) (t12 hw) (t60 hw) (by decide) eT E_b0_0_c8 [] (c27_getIgnoreCase hw wd  O E_sm_2 E_b0_0_c8 F_stringMatcher_b0_0_c8 F_ignoringCase_b0_0_c8) (by rw [hml]; rfl) (lenOf pd_3 rfl) (W := 0) rfl (by decide) (by decide) (by decide) (by decide) rfl ?_
      rintro _ T _ X ⟨rfl, rfl, eT⟩
      rw [List.append_nil] at X
      show Run p e below _ (T.setTop (mkF m 199 _ [(.ref w_FALSE)]))
      refine q_aload (pc' := 201) X hx (hb hby at_199) rfl rfl rfl ?_
      refine q_acmp (pc' := 204) (same := true) X hx (hb hby at_201) rfl rfl (decide_eq_true rfl) (by decide) (by decide) ?_
      refine q_iconst (pc' := 205) (z := (1 : Int32)) X hx (hb hby at_204) rfl rfl ?_
      refine q_goto (pc' := 209) X hx (hb hby at_205) (by decide) (by decide) ?_
      refine Run.retBW X hx hlk hS (by rw [eT]; exact hk) hret (hb hby at_209) rfl (by decide) (by decide) ?_
      try rw [eT]
      exact ⟨rfl, N⟩
set_option maxRecDepth 65536 in
set_option maxHeartbeats 40000000 in
theorem comes_1 {Post : Tables → Env → Array Value → State → Outcome → State → Prop} (hpost : ∀ tb e args s v u, (limb_1_1.after args s (.returned v) u = true ∧ limb_1_2.after args s (.returned v) u = true ∧ True) → ReturnedEndW s (.returned v) u (Jvm.fieldLocs frame_1_writes args s ++ Jvm.arrayLocs frame_1_arrays args s ++ Jvm.staticLocs frame_1_statics s) 24 1152 → Post tb e args s (.returned v) u) :
    ArmFor flags0 classFile x code maxLocals ret World_1 tables_1 room_1 Calls_1 rest_1 Pre_1 Post := by
  intro l hfl _ _ p e ha hc hk s m args below hf hA hF happ hP
  obtain ⟨hcalls, hrest, hpre⟩ := hP
  obtain ⟨-, -, -, hnamed, -, -, -, hat⟩ := (Spec.applies_iff hf).mp happ
  obtain ⟨hg, hn⟩ := and_e (Cond.before_iff.mp (show (Jvm.Cond.and given_1 narrow_1).before args s = true from hpre))
  obtain ⟨y0_l, y0_r⟩ := and_e hg
  obtain ⟨y1_l, y1_r⟩ := and_e y0_r
  obtain ⟨y2_l, y2_r⟩ := and_e y1_r
  obtain ⟨w0, w1, w2, rfl⟩ : ∃ w0 w1 w2 : Value, args = #[w0, w1, w2] := by
    have hs : args.size = 3 := by simpa [Cond.value, given_1] using y0_l
    obtain ⟨L⟩ := args
    match L, hs with
    | [w0, w1, w2], _ => exact ⟨w0, w1, w2, rfl⟩
  have hw := fun d (hd : d ∈ tables_1) => atoms_spec (ws := Jvm.Cond.code x code maxLocals ret :: tables_1) hat d (List.mem_cons_of_mem _ hd)
  have hfit : Fit s := fun {y c} hc i hi => by
    obtain ⟨ha, rfl⟩ := Array.getElem?_eq_some_iff.mp hc
    have q := List.all_eq_true.mp ((Array.all_eq_true_iff_forall_mem.mp hF) _ (Array.getElem_mem ha)) i (List.mem_range.mpr hi)
    simpa [Array.getElem?_eq_getElem hi] using q
  obtain ⟨hsets, hown0⟩ := atoms_of _ (rest_1_c_eq ▸ (show rest_1_c.before _ s = true from hrest))
  obtain ⟨i0, ei0⟩ := is_v y1_l
  obtain rfl : w0 = (.int i0) := Option.some.inj ei0
  obtain ⟨i1, ei1⟩ := is_v y2_l
  obtain rfl : w1 = (.int i1) := Option.some.inj ei1
  obtain ⟨i2, ei2⟩ := is_v y2_r
  obtain rfl : w2 = (.int i2) := Option.some.inj ei2
  obtain ⟨n0_l, n0_r⟩ := and_e hn
  obtain ⟨n1_l, n1_r⟩ := and_e n0_r
  obtain ⟨n2_l, n2_r⟩ := and_e n1_r
  obtain ⟨n3_l, n3_r⟩ := and_e n2_r
  obtain ⟨n4_l, n4_r⟩ := and_e n3_r
  obtain ⟨w_DEFAULT, ev_w_DEFAULT⟩ := exa_v n0_l
  obtain ⟨w_ENDING, ev_w_ENDING⟩ := exa_v n1_l
  obtain ⟨w_EXACT, ev_w_EXACT⟩ := exa_v n2_l
  obtain ⟨w_REGEX, ev_w_REGEX⟩ := exa_v n3_l
  obtain ⟨w_STARTING, ev_w_STARTING⟩ := exa_v n4_l
  obtain ⟨w_CONTAINING, ev_w_CONTAINING⟩ := exa_v n4_r
  obtain ⟨w_FALSE, ev_w_FALSE⟩ := exa_v (Cond.before_iff.mp (hsets _ (List.mem_of_getElem? (i := 2) rfl)))
  obtain ⟨w_TRUE, ev_w_TRUE⟩ := exa_v (Cond.before_iff.mp (hsets _ (List.mem_of_getElem? (i := 6) rfl)))
  have wd : World s w_DEFAULT w_ENDING w_EXACT w_REGEX w_STARTING w_CONTAINING w_FALSE w_TRUE := ⟨(Sta.start ev_w_DEFAULT (Or.inr ⟨(t6 hw), (t7 hw)⟩)), (Exa.start ev_w_DEFAULT n0_l), (Sta.start ev_w_ENDING (Or.inr ⟨(t6 hw), (t9 hw)⟩)), (Exa.start ev_w_ENDING n1_l), (Sta.start ev_w_EXACT (Or.inr ⟨(t6 hw), (t67 hw)⟩)), (Exa.start ev_w_EXACT n2_l), (Sta.start ev_w_REGEX (Or.inr ⟨(t6 hw), (t69 hw)⟩)), (Exa.start ev_w_REGEX n3_l), (Sta.start ev_w_STARTING (Or.inr ⟨(t6 hw), (t71 hw)⟩)), (Exa.start ev_w_STARTING n4_l), (Sta.start ev_w_CONTAINING (Or.inr ⟨(t6 hw), (t73 hw)⟩)), (Exa.start ev_w_CONTAINING n4_r), (Sta.start ev_w_FALSE (Or.inl (hsets _ (List.mem_of_getElem? (i := 1) rfl)))), (Exa.start ev_w_FALSE (Cond.before_iff.mp (hsets _ (List.mem_of_getElem? (i := 2) rfl)))), (Sta.start ev_w_TRUE (Or.inl (hsets _ (List.mem_of_getElem? (i := 5) rfl)))), (Exa.start ev_w_TRUE (Cond.before_iff.mp (hsets _ (List.mem_of_getElem? (i := 6) rfl)))), (fld_int ev_w_FALSE (Cond.before_iff.mp (hsets _ (List.mem_of_getElem? (i := 3) rfl)))), (fld_int ev_w_TRUE (Cond.before_iff.mp (hsets _ (List.mem_of_getElem? (i := 7) rfl))))⟩
  obtain ⟨n, o, h1, h2, h3, _, L, rfl, ⟨rfl, N⟩, hq⟩ := (law_all hw wd i0 i1 i2 (ext_refl _)) tables_1 p e ha hc hk s m _ below hf ((Spec.applies_iff_loose hf).mp happ).1 ⟨rfl, State.Warmed39.refl s, rfl⟩ trivial
  refine ⟨n, _, h1, h2, h3, hpost _ _ _ _ _ _ ⟨Cond.after_iff.mpr rfl, Cond.after_iff.mpr (eq_i res_at (Term.int_eval (1)) rfl), trivial⟩ ⟨hq.1, hq.2.1, hq.2.2.1, (hq.2.2.2.sift fun y hy => Or.inr (N y hy)).mono (by decide) (by decide)⟩⟩
theorem main_1_1 : Claimed_1_1 := comes_1 fun _ _ _ _ _ _ h hF => ⟨h.1, hF⟩
theorem main_1_2 : Claimed_1_2 := comes_1 fun _ _ _ _ _ _ h hF => ⟨h.2.1, hF⟩
end Jvm.Pilot.@@N@@
namespace Jvm.Pilot.@@N@@
open Jvm Jvm.ClassFile Sem Op Lib Jvm.Free Jvm.Stand Jvm.Pilot.@@N@@.Jvm.D
/-! MADE BY PROGRAM (witnessworld.py) out of the Statement's table words and the real class files: 18 classes; the members and pool entries that the words name. The judged class is class 1, her method 2. -/
namespace start1
open Jvm.ClassFile
def u (s : String) : CpInfo := .utf8 (stringToUtf16 s)
/-- a pool by its gaps: so many unusable entries, then the entry; so many at the end -/
def gap : Nat → List CpInfo → List CpInfo
  | 0, r => r
  | n + 1, r => .unusable :: gap n r
def poolList (es : List (Nat × CpInfo)) (last : Nat) : List CpInfo := es.foldr (fun e r => gap e.1 (e.2 :: r)) (gap last [])
def pool (es : List (Nat × CpInfo)) (last : Nat) : Array CpInfo := ⟨poolList es last⟩
def fileOf (pool : Array CpInfo) (this : Nat) (attrs : Array Attribute := #[]) (ms : Array MethodInfo := #[]) (fl : Nat := 33) (sup : Nat := 0) (ifs : Array Nat := #[]) (fds : Array FieldInfo := #[]) : ClassFile where
  minorVersion := 0
  majorVersion := 65
  constantPool := pool
  accessFlags := fl
  thisClass := this
  superClass := sup
  interfaces := ifs
  fields := fds
  methods := ms
  attributes := attrs
def plain (name : String) (sup : Option ClassId) : Class where
  name := name
  kind := .ordinary
  loader := none
  accessFlags := 33
  super := sup
  interfaces := #[]
  cf := none
  fields := #[]
  methods := #[]
  instanceTypes := #[]
  staticTypes := #[]
  resolved := #[]
  callSites := []
  init := .initialized
  statics := none
  mirror := none

def pool0 : Array CpInfo := pool [(5, u "<init>"), (0, u "()V"), (1, .class_ 10), (1, u "java/lang/Object")] 113

def k0c0 : Code := { maxStack := 0, maxLocals := 1, code := object_method_1_code, exceptionTable := #[], attributes := #[] }
def k0m0 : Method := { name := "<init>", desc := "()V", sig := { parameters := [], returnType := none }, accessFlags := 1, code := some k0c0 }
/-- java/lang/Object -/
def k0 : Class := { plain "java/lang/Object" none with
  accessFlags := 33
  interfaces := #[]
  cf := some (fileOf pool0 8 #[] #[{ accessFlags := 1, nameIndex := 5, descriptorIndex := 6, attributes := #[] }] 33 0 #[] #[])
  fields := #[]
  methods := #[k0m0]
  instanceTypes := #[]
  staticTypes := #[]
  resolved := Array.replicate 124 none
  statics := none }

def pool1 : Array CpInfo := pool [(2, .class_ 4), (0, .nameAndType 5 6), (0, u "java/lang/Object"), (0, u "<init>"), (0, u "()V"), (0, .integer 2147483647), (0, .fieldref 9 10), (0, .class_ 11), (0, .nameAndType 12 13), (0, u "com/example/wicker_store/wickerstore/ExampleMatcher$StringMatcher"), (0, u "DEFAULT"), (0, u "Lcom/example/wicker_store/wickerstore/ExampleMatcher$StringMatcher;"), (0, .fieldref 9 15), (0, .nameAndType 16 13), (0, u "EXACT"), (0, .fieldref 9 18), (0, .nameAndType 19 13), (0, u "STARTING"), (0, .fieldref 9 21), (0, .nameAndType 22 13), (0, u "ENDING"), (0, .fieldref 9 24), (0, .nameAndType 25 13), (0, u "CONTAINING"), (0, .fieldref 9 27), (0, .nameAndType 28 13), (0, u "REGEX"), (0, .methodref 30 31), (0, .class_ 32), (0, .nameAndType 33 34), (0, u "com/example/wicker_store/wickerstore/GenericPropertyMatcherStringMatcherPinLaw"), (0, u "pick"), (0, u "(I)Lcom/example/wicker_store/wickerstore/ExampleMatcher$StringMatcher;"), (0, .class_ 36), (0, u "com/example/wicker_store/wickerstore/ExampleMatcher$GenericPropertyMatcher"), (0, .methodref 35 3), (0, .methodref 35 39), (0, .nameAndType 40 41), (0, u "stringMatcher"), (0, u "(Lcom/example/wicker_store/wickerstore/ExampleMatcher$StringMatcher;)Lcom/example/wicker_store/wickerstore/ExampleMatcher$GenericPropertyMatcher;"), (0, .methodref 35 43), (0, .nameAndType 44 45), (0, u "ignoreCase"), (0, u "(Z)Lcom/example/wicker_store/wickerstore/ExampleMatcher$GenericPropertyMatcher;"), (0, .methodref 35 47), (0, .nameAndType 48 49), (0, u "getIgnoreCase"), (0, u "()Ljava/lang/Boolean;"), (0, .methodref 35 51), (0, .nameAndType 52 53), (0, u "getStringMatcher"), (0, u "()Lcom/example/wicker_store/wickerstore/ExampleMatcher$StringMatcher;"), (3, u "law"), (0, u "(III)Z")] 9

def k1m0 : Method := { name := "<init>", desc := "()V", sig := { parameters := [], returnType := none }, accessFlags := 2, code := none }
def k1c1 : Code := { maxStack := 2, maxLocals := 2, code := method_2_code, exceptionTable := #[], attributes := #[] }
def k1m1 : Method := { name := "pick", desc := "(I)Lcom/example/wicker_store/wickerstore/ExampleMatcher$StringMatcher;", sig := { parameters := [.int], returnType := some (.object "com/example/wicker_store/wickerstore/ExampleMatcher$StringMatcher") }, accessFlags := 10, code := some k1c1 }
def k1c2 : Code := { maxStack := 2, maxLocals := 10, code := code, exceptionTable := #[], attributes := #[] }
def k1m2 : Method := { name := "law", desc := "(III)Z", sig := { parameters := [.int, .int, .int], returnType := some .boolean }, accessFlags := 9, code := some k1c2 }
/-- com/example/wicker_store/wickerstore/GenericPropertyMatcherStringMatcherPinLaw -/
def k1 : Class := { plain "com/example/wicker_store/wickerstore/GenericPropertyMatcherStringMatcherPinLaw" (some 0) with
  accessFlags := 49
  interfaces := #[]
  cf := some (fileOf pool1 30 #[] #[{ accessFlags := 2, nameIndex := 5, descriptorIndex := 6, attributes := #[] }, { accessFlags := 10, nameIndex := 33, descriptorIndex := 34, attributes := #[] }, { accessFlags := 9, nameIndex := 57, descriptorIndex := 58, attributes := #[] }] 49 2 #[] #[])
  fields := #[]
  methods := #[k1m0, k1m1, k1m2]
  instanceTypes := #[]
  staticTypes := #[]
  resolved := Array.replicate 68 none
  statics := none }

def pool2 : Array CpInfo := pool [(1, .class_ 2), (0, u "java/lang/constant/Constable"), (0, .class_ 4), (0, u "java/lang/Object")] 6

/-- java/lang/constant/Constable -/
def k2 : Class := { plain "java/lang/constant/Constable" (some 0) with
  accessFlags := 1537
  interfaces := #[]
  cf := some (fileOf pool2 1 #[] #[] 1537 3 #[] #[])
  fields := #[]
  methods := #[]
  instanceTypes := #[]
  staticTypes := #[]
  resolved := Array.replicate 11 none
  statics := none }

def pool3 : Array CpInfo := pool [(1, .class_ 2), (0, u "java/lang/Comparable"), (0, .class_ 4), (0, u "java/lang/Object")] 7

/-- java/lang/Comparable -/
def k3 : Class := { plain "java/lang/Comparable" (some 0) with
  accessFlags := 1537
  interfaces := #[]
  cf := some (fileOf pool3 1 #[] #[] 1537 3 #[] #[])
  fields := #[]
  methods := #[]
  instanceTypes := #[]
  staticTypes := #[]
  resolved := Array.replicate 12 none
  statics := none }

def pool4 : Array CpInfo := pool [(1, .class_ 2), (0, u "java/io/Serializable"), (0, .class_ 4), (0, u "java/lang/Object")] 2

/-- java/io/Serializable -/
def k4 : Class := { plain "java/io/Serializable" (some 0) with
  accessFlags := 1537
  interfaces := #[]
  cf := some (fileOf pool4 1 #[] #[] 1537 3 #[] #[])
  fields := #[]
  methods := #[]
  instanceTypes := #[]
  staticTypes := #[]
  resolved := Array.replicate 7 none
  statics := none }

def pool5 : Array CpInfo := pool [(2, .class_ 4), (1, u "java/lang/Enum"), (0, u "name"), (0, u "Ljava/lang/String;"), (2, u "ordinal"), (0, u "I"), (1, .class_ 14), (1, u "java/lang/Object"), (4, u "hash"), (86, .class_ 108), (1, u "java/lang/Enum$EnumDesc"), (2, .class_ 112), (0, u "java/lang/constant/Constable"), (0, .class_ 114), (0, u "java/lang/Comparable"), (0, .class_ 116), (0, u "java/io/Serializable")] 87

/-- java/lang/Enum -/
def k5 : Class := { plain "java/lang/Enum" (some 0) with
  accessFlags := 1057
  interfaces := #[2, 3, 4]
  cf := some (fileOf pool5 2 #[.nestMembers #[106]] #[] 1057 12 #[111, 113, 115] #[{ accessFlags := 18, nameIndex := 5, descriptorIndex := 6, attributes := #[] }, { accessFlags := 18, nameIndex := 9, descriptorIndex := 10, attributes := #[] }, { accessFlags := 2, nameIndex := 19, descriptorIndex := 10, attributes := #[] }])
  fields := #[{ name := "name", type := (.object "java/lang/String"), accessFlags := 18, slot := 0, constantValue := 0 }, { name := "ordinal", type := .int, accessFlags := 18, slot := 1, constantValue := 0 }, { name := "hash", type := .int, accessFlags := 2, slot := 2, constantValue := 0 }]
  methods := #[]
  instanceTypes := #[(.object "java/lang/String"), .int, .int]
  staticTypes := #[]
  resolved := Array.replicate 204 none
  statics := none }

def pool6 : Array CpInfo := pool [(1, .class_ 2), (0, u "com/example/wicker_store/wickerstore/ExampleMatcher$StringMatcher"), (2, u "DEFAULT"), (0, u "Lcom/example/wicker_store/wickerstore/ExampleMatcher$StringMatcher;"), (2, u "EXACT"), (2, u "STARTING"), (2, u "ENDING"), (2, u "CONTAINING"), (2, u "REGEX"), (2, u "$VALUES"), (0, u "[Lcom/example/wicker_store/wickerstore/ExampleMatcher$StringMatcher;"), (6, .class_ 34), (1, u "java/lang/Enum"), (29, .class_ 65), (0, u "com/example/wicker_store/wickerstore/ExampleMatcher")] 2

/-- com/example/wicker_store/wickerstore/ExampleMatcher$StringMatcher -/
def k6 : Class := { plain "com/example/wicker_store/wickerstore/ExampleMatcher$StringMatcher" (some 5) with
  accessFlags := 16433
  interfaces := #[]
  cf := some (fileOf pool6 1 #[.nestHost 64] #[] 16433 32 #[] #[{ accessFlags := 16409, nameIndex := 5, descriptorIndex := 6, attributes := #[] }, { accessFlags := 16409, nameIndex := 9, descriptorIndex := 6, attributes := #[] }, { accessFlags := 16409, nameIndex := 12, descriptorIndex := 6, attributes := #[] }, { accessFlags := 16409, nameIndex := 15, descriptorIndex := 6, attributes := #[] }, { accessFlags := 16409, nameIndex := 18, descriptorIndex := 6, attributes := #[] }, { accessFlags := 16409, nameIndex := 21, descriptorIndex := 6, attributes := #[] }, { accessFlags := 4122, nameIndex := 24, descriptorIndex := 25, attributes := #[] }])
  fields := #[{ name := "DEFAULT", type := (.object "com/example/wicker_store/wickerstore/ExampleMatcher$StringMatcher"), accessFlags := 16409, slot := 0, constantValue := 0 }, { name := "EXACT", type := (.object "com/example/wicker_store/wickerstore/ExampleMatcher$StringMatcher"), accessFlags := 16409, slot := 1, constantValue := 0 }, { name := "STARTING", type := (.object "com/example/wicker_store/wickerstore/ExampleMatcher$StringMatcher"), accessFlags := 16409, slot := 2, constantValue := 0 }, { name := "ENDING", type := (.object "com/example/wicker_store/wickerstore/ExampleMatcher$StringMatcher"), accessFlags := 16409, slot := 3, constantValue := 0 }, { name := "CONTAINING", type := (.object "com/example/wicker_store/wickerstore/ExampleMatcher$StringMatcher"), accessFlags := 16409, slot := 4, constantValue := 0 }, { name := "REGEX", type := (.object "com/example/wicker_store/wickerstore/ExampleMatcher$StringMatcher"), accessFlags := 16409, slot := 5, constantValue := 0 }, { name := "$VALUES", type := (.array (.object "com/example/wicker_store/wickerstore/ExampleMatcher$StringMatcher")), accessFlags := 4122, slot := 6, constantValue := 0 }]
  methods := #[]
  instanceTypes := #[(.object "java/lang/String"), .int, .int]
  staticTypes := #[(.object "com/example/wicker_store/wickerstore/ExampleMatcher$StringMatcher"), (.object "com/example/wicker_store/wickerstore/ExampleMatcher$StringMatcher"), (.object "com/example/wicker_store/wickerstore/ExampleMatcher$StringMatcher"), (.object "com/example/wicker_store/wickerstore/ExampleMatcher$StringMatcher"), (.object "com/example/wicker_store/wickerstore/ExampleMatcher$StringMatcher"), (.object "com/example/wicker_store/wickerstore/ExampleMatcher$StringMatcher"), (.array (.object "com/example/wicker_store/wickerstore/ExampleMatcher$StringMatcher"))]
  resolved := Array.replicate 68 none
  statics := some 0 }

def pool7 : Array CpInfo := pool [(1, .methodref 2 3), (0, .class_ 4), (0, .nameAndType 5 6), (0, u "com/example/wicker_store/wickerstore/ExampleMatcher$GenericPropertyMatcher"), (0, u "<init>"), (0, u "(Lcom/example/wicker_store/wickerstore/ExampleMatcher$StringMatcher;Ljava/lang/Boolean;)V"), (0, .methodref 8 9), (0, .class_ 10), (0, .nameAndType 5 11), (0, u "java/lang/Object"), (0, u "()V"), (0, .fieldref 2 13), (0, .nameAndType 14 15), (0, u "stringMatcher"), (0, u "Lcom/example/wicker_store/wickerstore/ExampleMatcher$StringMatcher;"), (0, .fieldref 2 17), (0, .nameAndType 18 19), (0, u "ignoringCase"), (0, u "Ljava/lang/Boolean;"), (3, u "(Lcom/example/wicker_store/wickerstore/ExampleMatcher$StringMatcher;)Lcom/example/wicker_store/wickerstore/ExampleMatcher$GenericPropertyMatcher;"), (5, u "ignoreCase"), (0, u "(Z)Lcom/example/wicker_store/wickerstore/ExampleMatcher$GenericPropertyMatcher;"), (1, .class_ 34), (1, u "com/example/wicker_store/wickerstore/ExampleMatcher$StringMatcher"), (13, .string 49), (0, u "string matcher"), (0, .methodref 51 52), (0, .class_ 53), (0, .nameAndType 54 55), (0, u "java/util/Objects"), (0, u "requireNonNull"), (0, u "(Ljava/lang/Object;Ljava/lang/String;)Ljava/lang/Object;"), (0, .methodref 57 58), (0, .class_ 59), (0, .nameAndType 60 61), (0, u "java/lang/Boolean"), (0, u "valueOf"), (0, u "(Z)Ljava/lang/Boolean;"), (30, u "getStringMatcher"), (0, u "()Lcom/example/wicker_store/wickerstore/ExampleMatcher$StringMatcher;"), (0, u "getIgnoreCase"), (0, u "()Ljava/lang/Boolean;"), (6, .class_ 103), (0, u "com/example/wicker_store/wickerstore/ExampleMatcher")] 17

def k7c0 : Code := { maxStack := 3, maxLocals := 1, code := prog_4_method_1_code, exceptionTable := #[], attributes := #[] }
def k7m0 : Method := { name := "<init>", desc := "()V", sig := { parameters := [], returnType := none }, accessFlags := 1, code := some k7c0 }
def k7c1 : Code := { maxStack := 2, maxLocals := 3, code := prog_4_method_2_code, exceptionTable := #[], attributes := #[] }
def k7m1 : Method := { name := "<init>", desc := "(Lcom/example/wicker_store/wickerstore/ExampleMatcher$StringMatcher;Ljava/lang/Boolean;)V", sig := { parameters := [(.object "com/example/wicker_store/wickerstore/ExampleMatcher$StringMatcher"), (.object "java/lang/Boolean")], returnType := none }, accessFlags := 2, code := some k7c1 }
def k7c2 : Code := { maxStack := 4, maxLocals := 2, code := prog_4_method_10_code, exceptionTable := #[], attributes := #[] }
def k7m2 : Method := { name := "stringMatcher", desc := "(Lcom/example/wicker_store/wickerstore/ExampleMatcher$StringMatcher;)Lcom/example/wicker_store/wickerstore/ExampleMatcher$GenericPropertyMatcher;", sig := { parameters := [(.object "com/example/wicker_store/wickerstore/ExampleMatcher$StringMatcher")], returnType := some (.object "com/example/wicker_store/wickerstore/ExampleMatcher$GenericPropertyMatcher") }, accessFlags := 1, code := some k7c2 }
def k7c3 : Code := { maxStack := 4, maxLocals := 2, code := prog_4_method_12_code, exceptionTable := #[], attributes := #[] }
def k7m3 : Method := { name := "ignoreCase", desc := "(Z)Lcom/example/wicker_store/wickerstore/ExampleMatcher$GenericPropertyMatcher;", sig := { parameters := [.boolean], returnType := some (.object "com/example/wicker_store/wickerstore/ExampleMatcher$GenericPropertyMatcher") }, accessFlags := 1, code := some k7c3 }
def k7c4 : Code := { maxStack := 1, maxLocals := 1, code := prog_4_method_14_code, exceptionTable := #[], attributes := #[] }
def k7m4 : Method := { name := "getStringMatcher", desc := "()Lcom/example/wicker_store/wickerstore/ExampleMatcher$StringMatcher;", sig := { parameters := [], returnType := some (.object "com/example/wicker_store/wickerstore/ExampleMatcher$StringMatcher") }, accessFlags := 1, code := some k7c4 }
def k7c5 : Code := { maxStack := 1, maxLocals := 1, code := prog_4_method_15_code, exceptionTable := #[], attributes := #[] }
def k7m5 : Method := { name := "getIgnoreCase", desc := "()Ljava/lang/Boolean;", sig := { parameters := [], returnType := some (.object "java/lang/Boolean") }, accessFlags := 1, code := some k7c5 }
/-- com/example/wicker_store/wickerstore/ExampleMatcher$GenericPropertyMatcher -/
def k7 : Class := { plain "com/example/wicker_store/wickerstore/ExampleMatcher$GenericPropertyMatcher" (some 0) with
  accessFlags := 49
  interfaces := #[]
  cf := some (fileOf pool7 2 #[.nestHost 102] #[{ accessFlags := 1, nameIndex := 5, descriptorIndex := 11, attributes := #[] }, { accessFlags := 2, nameIndex := 5, descriptorIndex := 6, attributes := #[] }, { accessFlags := 1, nameIndex := 14, descriptorIndex := 23, attributes := #[] }, { accessFlags := 1, nameIndex := 29, descriptorIndex := 30, attributes := #[] }, { accessFlags := 1, nameIndex := 92, descriptorIndex := 93, attributes := #[] }, { accessFlags := 1, nameIndex := 94, descriptorIndex := 95, attributes := #[] }] 49 8 #[] #[{ accessFlags := 18, nameIndex := 14, descriptorIndex := 15, attributes := #[] }, { accessFlags := 18, nameIndex := 18, descriptorIndex := 19, attributes := #[] }])
  fields := #[{ name := "stringMatcher", type := (.object "com/example/wicker_store/wickerstore/ExampleMatcher$StringMatcher"), accessFlags := 18, slot := 0, constantValue := 0 }, { name := "ignoringCase", type := (.object "java/lang/Boolean"), accessFlags := 18, slot := 1, constantValue := 0 }]
  methods := #[k7m0, k7m1, k7m2, k7m3, k7m4, k7m5]
  instanceTypes := #[(.object "com/example/wicker_store/wickerstore/ExampleMatcher$StringMatcher"), (.object "java/lang/Boolean")]
  staticTypes := #[]
  resolved := Array.replicate 121 none
  statics := none }

def pool8 : Array CpInfo := pool [(2, .class_ 4), (1, u "java/lang/CharSequence"), (42, .class_ 48), (0, u "java/lang/CharSequence$1CodePointIterator"), (10, .class_ 60), (0, u "java/lang/CharSequence$1CharIterator"), (5, .class_ 67), (0, u "java/lang/Object")] 63

/-- java/lang/CharSequence -/
def k8 : Class := { plain "java/lang/CharSequence" (some 0) with
  accessFlags := 1537
  interfaces := #[]
  cf := some (fileOf pool8 2 #[.nestMembers #[47, 59]] #[] 1537 66 #[] #[])
  fields := #[]
  methods := #[]
  instanceTypes := #[]
  staticTypes := #[]
  resolved := Array.replicate 131 none
  statics := none }

def pool9 : Array CpInfo := pool [(1, .class_ 2), (0, u "java/lang/constant/ConstantDesc"), (0, .class_ 4), (0, u "java/lang/Object")] 32

/-- java/lang/constant/ConstantDesc -/
def k9 : Class := { plain "java/lang/constant/ConstantDesc" (some 0) with
  accessFlags := 1537
  interfaces := #[]
  cf := some (fileOf pool9 1 #[] #[] 1537 3 #[] #[])
  fields := #[]
  methods := #[]
  instanceTypes := #[]
  staticTypes := #[]
  resolved := Array.replicate 37 none
  statics := none }

def pool10 : Array CpInfo := pool [(2, .class_ 4), (1, u "java/lang/Object"), (0, u "<init>"), (0, u "()V"), (3, .class_ 12), (1, u "java/lang/String"), (0, u "value"), (0, u "[B"), (2, u "coder"), (0, u "B"), (2, u "hash"), (0, u "I"), (2, u "hashIsZero"), (0, u "Z"), (13, u "COMPACT_STRINGS"), (534, .class_ 576), (0, u "java/lang/CharSequence"), (22, u "CASE_INSENSITIVE_ORDER"), (0, u "Ljava/util/Comparator;"), (500, u "serialPersistentFields"), (0, u "[Ljava/io/ObjectStreamField;"), (0, .class_ 1104), (0, u "java/lang/String$CaseInsensitiveComparator"), (1, .class_ 1107), (0, u "java/io/Serializable"), (0, .class_ 1109), (0, u "java/lang/Comparable"), (0, .class_ 1111), (0, u "java/lang/constant/Constable"), (0, .class_ 1113), (0, u "java/lang/constant/ConstantDesc"), (2, u "serialVersionUID"), (0, u "J"), (3, u "REPL"), (0, u "C"), (2, u "LATIN1"), (1, u "UTF16")] 323

def k10m0 : Method := { name := "<init>", desc := "()V", sig := { parameters := [], returnType := none }, accessFlags := 1, code := none }
/-- java/lang/String -/
def k10 : Class := { plain "java/lang/String" (some 0) with
  accessFlags := 49
  interfaces := #[4, 3, 8, 2, 9]
  cf := some (fileOf pool10 10 #[.nestMembers #[1103]] #[{ accessFlags := 1, nameIndex := 5, descriptorIndex := 6, attributes := #[] }] 49 2 #[1106, 1108, 575, 1110, 1112] #[{ accessFlags := 18, nameIndex := 13, descriptorIndex := 14, attributes := #[] }, { accessFlags := 18, nameIndex := 17, descriptorIndex := 18, attributes := #[] }, { accessFlags := 2, nameIndex := 21, descriptorIndex := 22, attributes := #[] }, { accessFlags := 2, nameIndex := 25, descriptorIndex := 26, attributes := #[] }, { accessFlags := 26, nameIndex := 1116, descriptorIndex := 1117, attributes := #[] }, { accessFlags := 24, nameIndex := 40, descriptorIndex := 26, attributes := #[] }, { accessFlags := 26, nameIndex := 1101, descriptorIndex := 1102, attributes := #[] }, { accessFlags := 26, nameIndex := 1121, descriptorIndex := 1122, attributes := #[] }, { accessFlags := 25, nameIndex := 599, descriptorIndex := 600, attributes := #[] }, { accessFlags := 24, nameIndex := 1125, descriptorIndex := 18, attributes := #[] }, { accessFlags := 24, nameIndex := 1127, descriptorIndex := 18, attributes := #[] }])
  fields := #[{ name := "value", type := (.array .byte), accessFlags := 18, slot := 0, constantValue := 0 }, { name := "coder", type := .byte, accessFlags := 18, slot := 1, constantValue := 0 }, { name := "hash", type := .int, accessFlags := 2, slot := 2, constantValue := 0 }, { name := "hashIsZero", type := .boolean, accessFlags := 2, slot := 3, constantValue := 0 }, { name := "serialVersionUID", type := .long, accessFlags := 26, slot := 0, constantValue := 0 }, { name := "COMPACT_STRINGS", type := .boolean, accessFlags := 24, slot := 1, constantValue := 0 }, { name := "serialPersistentFields", type := (.array (.object "java/io/ObjectStreamField")), accessFlags := 26, slot := 2, constantValue := 0 }, { name := "REPL", type := .char, accessFlags := 26, slot := 3, constantValue := 0 }, { name := "CASE_INSENSITIVE_ORDER", type := (.object "java/util/Comparator"), accessFlags := 25, slot := 4, constantValue := 0 }, { name := "LATIN1", type := .byte, accessFlags := 24, slot := 5, constantValue := 0 }, { name := "UTF16", type := .byte, accessFlags := 24, slot := 6, constantValue := 0 }]
  methods := #[k10m0]
  instanceTypes := #[(.array .byte), .byte, .int, .boolean]
  staticTypes := #[.long, .boolean, (.array (.object "java/io/ObjectStreamField")), .char, (.object "java/util/Comparator"), .byte, .byte]
  resolved := Array.replicate 1451 none
  statics := none }

def pool11 : Array CpInfo := pool [(2, .class_ 4), (1, u "java/lang/Object"), (0, u "<init>"), (0, u "()V"), (35, .class_ 44), (1, u "java/util/Objects"), (0, u "requireNonNull"), (48, u "(Ljava/lang/Object;Ljava/lang/String;)Ljava/lang/Object;")] 89

def k11m0 : Method := { name := "<init>", desc := "()V", sig := { parameters := [], returnType := none }, accessFlags := 2, code := none }
def k11c1 : Code := { maxStack := 3, maxLocals := 2, code := jdk_31_method_11_code, exceptionTable := #[], attributes := #[] }
def k11m1 : Method := { name := "requireNonNull", desc := "(Ljava/lang/Object;Ljava/lang/String;)Ljava/lang/Object;", sig := { parameters := [(.object "java/lang/Object"), (.object "java/lang/String")], returnType := some (.object "java/lang/Object") }, accessFlags := 9, code := some k11c1 }
/-- java/util/Objects -/
def k11 : Class := { plain "java/util/Objects" (some 0) with
  accessFlags := 49
  interfaces := #[]
  cf := some (fileOf pool11 42 #[] #[{ accessFlags := 2, nameIndex := 5, descriptorIndex := 6, attributes := #[] }, { accessFlags := 9, nameIndex := 45, descriptorIndex := 94, attributes := #[] }] 49 2 #[] #[])
  fields := #[]
  methods := #[k11m0, k11m1]
  instanceTypes := #[]
  staticTypes := #[]
  resolved := Array.replicate 184 none
  statics := none }

def pool12 : Array CpInfo := pool [(2, .class_ 4), (1, u "java/lang/Object"), (3, .class_ 10), (1, u "java/lang/Boolean"), (0, u "value"), (0, u "Z"), (14, .fieldref 8 28), (0, .nameAndType 29 30), (0, u "TRUE"), (0, u "Ljava/lang/Boolean;"), (0, .fieldref 8 32), (0, .nameAndType 33 30), (0, u "FALSE"), (2, u "valueOf"), (50, u "TYPE"), (0, u "Ljava/lang/Class;"), (0, .class_ 90), (0, u "java/io/Serializable"), (0, .class_ 92), (0, u "java/lang/Comparable"), (0, .class_ 94), (0, u "java/lang/constant/Constable"), (2, u "serialVersionUID"), (0, u "J"), (18, u "(Z)Ljava/lang/Boolean;")] 34

def k12c0 : Code := { maxStack := 1, maxLocals := 1, code := jdk_2055_method_5_code, exceptionTable := #[], attributes := #[] }
def k12m0 : Method := { name := "valueOf", desc := "(Z)Ljava/lang/Boolean;", sig := { parameters := [.boolean], returnType := some (.object "java/lang/Boolean") }, accessFlags := 9, code := some k12c0 }
/-- java/lang/Boolean -/
def k12 : Class := { plain "java/lang/Boolean" (some 0) with
  accessFlags := 49
  interfaces := #[4, 3, 2]
  cf := some (fileOf pool12 8 #[] #[{ accessFlags := 9, nameIndex := 36, descriptorIndex := 117, attributes := #[] }] 49 2 #[89, 91, 93] #[{ accessFlags := 25, nameIndex := 29, descriptorIndex := 30, attributes := #[] }, { accessFlags := 25, nameIndex := 33, descriptorIndex := 30, attributes := #[] }, { accessFlags := 25, nameIndex := 87, descriptorIndex := 88, attributes := #[] }, { accessFlags := 18, nameIndex := 11, descriptorIndex := 12, attributes := #[] }, { accessFlags := 26, nameIndex := 97, descriptorIndex := 98, attributes := #[] }])
  fields := #[{ name := "TRUE", type := (.object "java/lang/Boolean"), accessFlags := 25, slot := 0, constantValue := 0 }, { name := "FALSE", type := (.object "java/lang/Boolean"), accessFlags := 25, slot := 1, constantValue := 0 }, { name := "TYPE", type := (.object "java/lang/Class"), accessFlags := 25, slot := 2, constantValue := 0 }, { name := "value", type := .boolean, accessFlags := 18, slot := 0, constantValue := 0 }, { name := "serialVersionUID", type := .long, accessFlags := 26, slot := 3, constantValue := 0 }]
  methods := #[k12m0]
  instanceTypes := #[.boolean]
  staticTypes := #[(.object "java/lang/Boolean"), (.object "java/lang/Boolean"), (.object "java/lang/Class"), .long]
  resolved := Array.replicate 152 none
  statics := some 1 }

def pool13 : Array CpInfo := pool [(1, u "java/lang/Cloneable"), (0, .class_ 1), (0, u "java/lang/Object"), (0, .class_ 3)] 3

/-- java/lang/Cloneable -/
def k13 : Class := { plain "java/lang/Cloneable" (some 0) with
  accessFlags := 1537
  interfaces := #[]
  cf := some (fileOf pool13 2 #[] #[] 1537 4 #[] #[])
  fields := #[]
  methods := #[]
  instanceTypes := #[]
  staticTypes := #[]
  resolved := Array.replicate 8 none
  statics := none }

/-- the primitive byte -/
def k14 : Class := { plain "byte" none with kind := .primitive 'B', accessFlags := 0x411 }
/-- [B -/
def k15 : Class := { plain "[B" (some 0) with kind := .array 14 .byte, interfaces := #[13, 4], accessFlags := 1041 }

/-- the primitive int -/
def k16 : Class := { plain "int" none with kind := .primitive 'I', accessFlags := 0x411 }
/-- [I -/
def k17 : Class := { plain "[I" (some 0) with kind := .array 16 .int, interfaces := #[13, 4], accessFlags := 1041 }

def heap : Heap := #[{ cls := 6, slots := #[.ref 2, .ref 4, .ref 6, .ref 3, .ref 7, .ref 5, .null], vm := .statics 6 },
  { cls := 12, slots := #[.ref 9, .ref 8, .null, .long 0], vm := .statics 12 },
  { cls := 6, slots := #[.null, .int 0, .int 0], vm := .none },
  { cls := 6, slots := #[.null, .int 0, .int 0], vm := .none },
  { cls := 6, slots := #[.null, .int 0, .int 0], vm := .none },
  { cls := 6, slots := #[.null, .int 0, .int 0], vm := .none },
  { cls := 6, slots := #[.null, .int 0, .int 0], vm := .none },
  { cls := 6, slots := #[.null, .int 0, .int 0], vm := .none },
  { cls := 12, slots := #[.int 0], vm := .none },
  { cls := 12, slots := #[.int 1], vm := .none }]
def classes : Array Class := #[k0, k1, k2, k3, k4, k5, k6, k7, k8, k9, k10, k11, k12, k13, k14, k15, k16, k17]
def interned : List (Array UInt16 × Addr) := []
def slotsUsed : Nat := 31
def theMethod : MethodId := ⟨1, 2⟩
def args0 : Array Value := #[.int 5, .int 5, .int 5]
def aboutOver (below : List Frame) : State where
  vm := { classes := classes, interned := interned.toArray }
  heap := heap
  slotsUsed := slotsUsed
  threads := #[{ frames := .invoking theMethod args0 :: below }]
def below0 : List Frame := [.native { method := ⟨0, 0⟩, args := #[] }]
def about1 : State := aboutOver below0
def p0 : Program := .bare "" "" ""
def e0 : Env := launch0.env 0 0 0
theorem w_frames : about1.frames = Frame.invoking theMethod args0 :: below0 := rfl
set_option maxRecDepth 65536 in
theorem w_args : argsFit about1.vm theMethod args0 = true := by decide +kernel
set_option maxRecDepth 65536 in
theorem w_heap : heapFits about1 = true := by decide +kernel
set_option maxRecDepth 65536 in
theorem w_runnable : about1.curStatus? = some .runnable := by decide +kernel
set_option maxRecDepth 65536 in
theorem w_alone : about1.alone = true := by decide +kernel
set_option maxRecDepth 65536 in
theorem w_named : about1.methodNamed? x = some theMethod := by decide +kernel
set_option maxRecDepth 65536 in
theorem w_hears : about1.hears theMethod below0 = true := by decide +kernel
set_option maxRecDepth 65536 in
theorem w_ripe : about1.ripe theMethod args0 below0 = true := by decide +kernel
theorem w_running : about1.status = .running := rfl
set_option maxRecDepth 65536 in
theorem w_room : about1.hasRoom e0.platform room_1 = true :=
  launch0.hasRoom_least _ room_1 (by decide +kernel) (by decide +kernel) (by decide +kernel) (by decide +kernel) (by decide +kernel) (by decide +kernel)
theorem allAtoms_all (ts : List Jvm.Cond) (a : Array Jvm.Value) (st : Jvm.State) : (allAtoms ts).before a st = ts.all (fun c => c.before a st) := by
  induction ts with
  | nil => rfl
  | cons c t ih =>
    show (Jvm.Cond.and c (allAtoms t)).before a st = _
    rw [Jvm.Cond.before_and, ih, List.all_cons]
def words1 : List Jvm.Cond := Jvm.Cond.code x code maxLocals ret :: tables_1
/-- a 'code' word, met by the world's own term for the bytes: nothing is compared byte by byte -/
theorem code_word {y : MethodName} {bytes : ByteArray} {mx : Nat} {rt : Option FieldType} {a : Array Value} {s : State} {m : MethodId} {meth : Method} {c : Code} (h1 : s.methodNamed? y = some m) (h2 : s.vm.method? m = some meth) (h3 : meth.code = some c) (h4 : c.code = bytes)
    (h5 : (c.maxLocals == mx && c.exceptionTable.isEmpty && decide (c.maxStack ≤ mostOperands) && decide (meth.sig.returnType = rt) && !meth.locks && decide (parseMethodDescriptor y.desc = some meth.sig)) = true) : (Jvm.Cond.code y bytes mx rt).before a s = true := by
  simp only [Bool.and_eq_true, beq_iff_eq, Bool.not_eq_true', decide_eq_true_eq] at h5
  obtain ⟨⟨⟨⟨⟨g1, g2⟩, g3⟩, g4⟩, g5⟩, g6⟩ := h5
  simp [Cond.before, Cond.holds, Cond.value, h1, h2, h3, h4, g1, g2, g3, g4, g5, g6]
def isCode : Jvm.Cond → Bool
  | .code _ _ _ _ => true
  | _ => false
theorem all_split {L : List Jvm.Cond} {P : Jvm.Cond → Bool} (h1 : L.all (fun c => isCode c || P c) = true) (h2 : ∀ c ∈ L.filter isCode, P c = true) : L.all P = true := by
  refine List.all_eq_true.mpr fun c hc => ?_
  have h := List.all_eq_true.mp h1 c hc
  rcases Bool.eq_false_or_eq_true (isCode c) with hi | hi
  · exact h2 c (List.mem_filter.mpr ⟨hc, hi⟩)
  · simpa [hi] using h
set_option maxRecDepth 65536 in
theorem w_c0 : (Jvm.Cond.code x code maxLocals ret).before args0 about1 = true := code_word (m := ⟨1, 2⟩) (meth := k1m2) (c := k1c2) (by decide +kernel) rfl rfl rfl (by decide +kernel)
set_option maxRecDepth 65536 in
theorem w_c1 : (Jvm.Cond.code ({ cls := "com/example/wicker_store/wickerstore/GenericPropertyMatcherStringMatcherPinLaw", name := "pick", desc := "(I)Lcom/example/wicker_store/wickerstore/ExampleMatcher$StringMatcher;" } : Jvm.MethodName) method_2_code (2 : Nat) (Option.some (Jvm.ClassFile.FieldType.object "com/example/wicker_store/wickerstore/ExampleMatcher$StringMatcher"))).before args0 about1 = true := code_word (m := ⟨1, 1⟩) (meth := k1m1) (c := k1c1) (by decide +kernel) rfl rfl rfl (by decide +kernel)
set_option maxRecDepth 65536 in
theorem w_c2 : (Jvm.Cond.code ({ cls := "com/example/wicker_store/wickerstore/ExampleMatcher$GenericPropertyMatcher", name := "<init>", desc := "()V" } : Jvm.MethodName) prog_4_method_1_code (1 : Nat) (Option.none : Option Jvm.ClassFile.FieldType)).before args0 about1 = true := code_word (m := ⟨7, 0⟩) (meth := k7m0) (c := k7c0) (by decide +kernel) rfl rfl rfl (by decide +kernel)
set_option maxRecDepth 65536 in
theorem w_c3 : (Jvm.Cond.code ({ cls := "com/example/wicker_store/wickerstore/ExampleMatcher$GenericPropertyMatcher", name := "<init>", desc := "(Lcom/example/wicker_store/wickerstore/ExampleMatcher$StringMatcher;Ljava/lang/Boolean;)V" } : Jvm.MethodName) prog_4_method_2_code (3 : Nat) (Option.none : Option Jvm.ClassFile.FieldType)).before args0 about1 = true := code_word (m := ⟨7, 1⟩) (meth := k7m1) (c := k7c1) (by decide +kernel) rfl rfl rfl (by decide +kernel)
set_option maxRecDepth 65536 in
theorem w_c4 : (Jvm.Cond.code ({ cls := "java/lang/Object", name := "<init>", desc := "()V" } : Jvm.MethodName) object_method_1_code (1 : Nat) (Option.none : Option Jvm.ClassFile.FieldType)).before args0 about1 = true := code_word (m := ⟨0, 0⟩) (meth := k0m0) (c := k0c0) (by decide +kernel) rfl rfl rfl (by decide +kernel)
set_option maxRecDepth 65536 in
theorem w_c5 : (Jvm.Cond.code ({ cls := "com/example/wicker_store/wickerstore/ExampleMatcher$GenericPropertyMatcher", name := "stringMatcher", desc := "(Lcom/example/wicker_store/wickerstore/ExampleMatcher$StringMatcher;)Lcom/example/wicker_store/wickerstore/ExampleMatcher$GenericPropertyMatcher;" } : Jvm.MethodName) prog_4_method_10_code (2 : Nat) (Option.some (Jvm.ClassFile.FieldType.object "com/example/wicker_store/wickerstore/ExampleMatcher$GenericPropertyMatcher"))).before args0 about1 = true := code_word (m := ⟨7, 2⟩) (meth := k7m2) (c := k7c2) (by decide +kernel) rfl rfl rfl (by decide +kernel)
set_option maxRecDepth 65536 in
theorem w_c6 : (Jvm.Cond.code ({ cls := "java/util/Objects", name := "requireNonNull", desc := "(Ljava/lang/Object;Ljava/lang/String;)Ljava/lang/Object;" } : Jvm.MethodName) jdk_31_method_11_code (2 : Nat) (Option.some (Jvm.ClassFile.FieldType.object "java/lang/Object"))).before args0 about1 = true := code_word (m := ⟨11, 1⟩) (meth := k11m1) (c := k11c1) (by decide +kernel) rfl rfl rfl (by decide +kernel)
set_option maxRecDepth 65536 in
theorem w_c7 : (Jvm.Cond.code ({ cls := "com/example/wicker_store/wickerstore/ExampleMatcher$GenericPropertyMatcher", name := "ignoreCase", desc := "(Z)Lcom/example/wicker_store/wickerstore/ExampleMatcher$GenericPropertyMatcher;" } : Jvm.MethodName) prog_4_method_12_code (2 : Nat) (Option.some (Jvm.ClassFile.FieldType.object "com/example/wicker_store/wickerstore/ExampleMatcher$GenericPropertyMatcher"))).before args0 about1 = true := code_word (m := ⟨7, 3⟩) (meth := k7m3) (c := k7c3) (by decide +kernel) rfl rfl rfl (by decide +kernel)
set_option maxRecDepth 65536 in
theorem w_c8 : (Jvm.Cond.code ({ cls := "java/lang/Boolean", name := "valueOf", desc := "(Z)Ljava/lang/Boolean;" } : Jvm.MethodName) jdk_2055_method_5_code (1 : Nat) (Option.some (Jvm.ClassFile.FieldType.object "java/lang/Boolean"))).before args0 about1 = true := code_word (m := ⟨12, 0⟩) (meth := k12m0) (c := k12c0) (by decide +kernel) rfl rfl rfl (by decide +kernel)
set_option maxRecDepth 65536 in
theorem w_c9 : (Jvm.Cond.code ({ cls := "com/example/wicker_store/wickerstore/ExampleMatcher$GenericPropertyMatcher", name := "getIgnoreCase", desc := "()Ljava/lang/Boolean;" } : Jvm.MethodName) prog_4_method_15_code (1 : Nat) (Option.some (Jvm.ClassFile.FieldType.object "java/lang/Boolean"))).before args0 about1 = true := code_word (m := ⟨7, 5⟩) (meth := k7m5) (c := k7c5) (by decide +kernel) rfl rfl rfl (by decide +kernel)
set_option maxRecDepth 65536 in
theorem w_c10 : (Jvm.Cond.code ({ cls := "com/example/wicker_store/wickerstore/ExampleMatcher$GenericPropertyMatcher", name := "getStringMatcher", desc := "()Lcom/example/wicker_store/wickerstore/ExampleMatcher$StringMatcher;" } : Jvm.MethodName) prog_4_method_14_code (1 : Nat) (Option.some (Jvm.ClassFile.FieldType.object "com/example/wicker_store/wickerstore/ExampleMatcher$StringMatcher"))).before args0 about1 = true := code_word (m := ⟨7, 4⟩) (meth := k7m4) (c := k7c4) (by decide +kernel) rfl rfl rfl (by decide +kernel)
def codes1 : List Jvm.Cond := [Jvm.Cond.code x code maxLocals ret, Jvm.Cond.code ({ cls := "com/example/wicker_store/wickerstore/GenericPropertyMatcherStringMatcherPinLaw", name := "pick", desc := "(I)Lcom/example/wicker_store/wickerstore/ExampleMatcher$StringMatcher;" } : Jvm.MethodName) method_2_code (2 : Nat) (Option.some (Jvm.ClassFile.FieldType.object "com/example/wicker_store/wickerstore/ExampleMatcher$StringMatcher")), Jvm.Cond.code ({ cls := "com/example/wicker_store/wickerstore/ExampleMatcher$GenericPropertyMatcher", name := "<init>", desc := "()V" } : Jvm.MethodName) prog_4_method_1_code (1 : Nat) (Option.none : Option Jvm.ClassFile.FieldType), Jvm.Cond.code ({ cls := "com/example/wicker_store/wickerstore/ExampleMatcher$GenericPropertyMatcher", name := "<init>", desc := "(Lcom/example/wicker_store/wickerstore/ExampleMatcher$StringMatcher;Ljava/lang/Boolean;)V" } : Jvm.MethodName) prog_4_method_2_code (3 : Nat) (Option.none : Option Jvm.ClassFile.FieldType), Jvm.Cond.code ({ cls := "java/lang/Object", name := "<init>", desc := "()V" } : Jvm.MethodName) object_method_1_code (1 : Nat) (Option.none : Option Jvm.ClassFile.FieldType), Jvm.Cond.code ({ cls := "com/example/wicker_store/wickerstore/ExampleMatcher$GenericPropertyMatcher", name := "stringMatcher", desc := "(Lcom/example/wicker_store/wickerstore/ExampleMatcher$StringMatcher;)Lcom/example/wicker_store/wickerstore/ExampleMatcher$GenericPropertyMatcher;" } : Jvm.MethodName) prog_4_method_10_code (2 : Nat) (Option.some (Jvm.ClassFile.FieldType.object "com/example/wicker_store/wickerstore/ExampleMatcher$GenericPropertyMatcher")), Jvm.Cond.code ({ cls := "java/util/Objects", name := "requireNonNull", desc := "(Ljava/lang/Object;Ljava/lang/String;)Ljava/lang/Object;" } : Jvm.MethodName) jdk_31_method_11_code (2 : Nat) (Option.some (Jvm.ClassFile.FieldType.object "java/lang/Object")), Jvm.Cond.code ({ cls := "com/example/wicker_store/wickerstore/ExampleMatcher$GenericPropertyMatcher", name := "ignoreCase", desc := "(Z)Lcom/example/wicker_store/wickerstore/ExampleMatcher$GenericPropertyMatcher;" } : Jvm.MethodName) prog_4_method_12_code (2 : Nat) (Option.some (Jvm.ClassFile.FieldType.object "com/example/wicker_store/wickerstore/ExampleMatcher$GenericPropertyMatcher")), Jvm.Cond.code ({ cls := "java/lang/Boolean", name := "valueOf", desc := "(Z)Ljava/lang/Boolean;" } : Jvm.MethodName) jdk_2055_method_5_code (1 : Nat) (Option.some (Jvm.ClassFile.FieldType.object "java/lang/Boolean")), Jvm.Cond.code ({ cls := "com/example/wicker_store/wickerstore/ExampleMatcher$GenericPropertyMatcher", name := "getIgnoreCase", desc := "()Ljava/lang/Boolean;" } : Jvm.MethodName) prog_4_method_15_code (1 : Nat) (Option.some (Jvm.ClassFile.FieldType.object "java/lang/Boolean")), Jvm.Cond.code ({ cls := "com/example/wicker_store/wickerstore/ExampleMatcher$GenericPropertyMatcher", name := "getStringMatcher", desc := "()Lcom/example/wicker_store/wickerstore/ExampleMatcher$StringMatcher;" } : Jvm.MethodName) prog_4_method_14_code (1 : Nat) (Option.some (Jvm.ClassFile.FieldType.object "com/example/wicker_store/wickerstore/ExampleMatcher$StringMatcher"))]
set_option maxRecDepth 65536 in
theorem codes_eq : words1.filter isCode = codes1 := rfl
theorem w_codes : ∀ c ∈ words1.filter isCode, c.before args0 about1 = true := by
  rw [codes_eq]
  intro c hc
  simp only [codes1, List.mem_cons, List.not_mem_nil, or_false] at hc
  rcases hc with rfl | rfl | rfl | rfl | rfl | rfl | rfl | rfl | rfl | rfl | rfl
  · exact w_c0
  · exact w_c1
  · exact w_c2
  · exact w_c3
  · exact w_c4
  · exact w_c5
  · exact w_c6
  · exact w_c7
  · exact w_c8
  · exact w_c9
  · exact w_c10
set_option maxRecDepth 65536 in
theorem w_t1 : (words1.take 24).all (fun c => isCode c || c.before args0 about1) = true := by decide +kernel
set_option maxRecDepth 65536 in
theorem w_t2 : ((words1.drop 24).take 24).all (fun c => isCode c || c.before args0 about1) = true := by decide +kernel
set_option maxRecDepth 65536 in
theorem w_t3 : (((words1.drop 24).drop 24).take 24).all (fun c => isCode c || c.before args0 about1) = true := by decide +kernel
set_option maxRecDepth 65536 in
theorem w_t4 : (((words1.drop 24).drop 24).drop 24).all (fun c => isCode c || c.before args0 about1) = true := by decide +kernel
theorem w_tables : (allAtoms (Jvm.Cond.code x code maxLocals ret :: tables_1)).before args0 about1 = true := by
  rw [allAtoms_all]
  show words1.all (fun c => c.before args0 about1) = true
  refine all_split ?_ w_codes
  rw [← List.take_append_drop 24 words1, List.all_append, w_t1, ← List.take_append_drop 24 (words1.drop 24), List.all_append, w_t2, ← List.take_append_drop 24 ((words1.drop 24).drop 24), List.all_append, w_t3, w_t4]
  rfl
set_option maxRecDepth 65536 in
theorem w_rest : rest_1_c.before args0 about1 = true := by decide +kernel
set_option maxRecDepth 65536 in
theorem w_case : (Jvm.Cond.and given_1 narrow_1).before args0 about1 = true := by decide +kernel
theorem w_applies : (headSpec (Jvm.Cond.code x code maxLocals ret :: tables_1) room_1).applies x e0.platform about1 = true :=
  (Spec.applies_iff w_frames).mpr ⟨w_running, w_runnable, w_alone, w_named, w_hears, w_ripe, w_room, w_tables⟩
theorem atStart : AtStart classFile x code maxLocals ret World_1 tables_1 room_1 Calls_1 rest_1 Pre_1 launch0 p0 e0 about1 theMethod args0 below0 :=
  ⟨lists_1, trivial, launch0.admits_env _ _ _, launch0.least_env, fairChoices_fair.cas, fairChoices_fair.clock, w_frames, w_args, w_heap, w_applies, trivial, w_rest, w_case⟩
end start1
theorem witness_1 : WitnessClaimed_1 := ⟨start1.p0, start1.e0, start1.about1, start1.theMethod, start1.args0, start1.below0, start1.atStart⟩
end Jvm.Pilot.@@N@@
