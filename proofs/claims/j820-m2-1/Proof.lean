import JvmDerived
import JvmDerived.Pilot.@@N@@Statement
import JvmDerived.Pilot.@@N@@Code
set_option linter.unusedVariables false
set_option linter.unusedSimpArgs false
namespace Jvm.OwnKit
open Sem ClassFile Op Lib Jvm.Stand Jvm.Free Jvm.LawKit Jvm.RoadKit
/-- from S on the body comes back, and F says how -/
def Run (p : Program) (e : Env) (below : List Frame) (F : Outcome → State → Prop) (S : State) : Prop :=
  ∃ s₂ o, Steps p.tables e below S s₂ ∧ s₂.status = .running ∧ Ended s₂ below o ∧ F o s₂
def Nar (s : State) (rm : Room) (Q : Option Value → Heap → List Loc → Prop) (o : Outcome) (t : State) : Prop := ∃ v L, o = .returned v ∧ Q v t.heap L ∧ FrameEnd s o t L rm.cells rm.slots
/-- a body's contract at these arguments and this heap -/
def Ctr (l : Launch) (Z : State) (y : MethodName) (bytes : ByteArray) (maxL : Nat) (ret : Option FieldType) (rm : Room) (as : Array Value) (h0 : Heap) (Q : Option Value → Heap → List Loc → Prop) : Prop :=
  ∀ ws : List Jvm.Cond, MetFree l y (head1 (Jvm.Cond.code y bytes maxL ret :: ws) rm) (fun a U => a = as ∧ Z.Warmed39 U.vm ∧ U.heap = h0) (fun _ _ _ _ _ => True) (fun _ U o U' => ∃ v L, o = .returned v ∧ Q v U'.heap L ∧ FrameEnd U o U' L rm.cells rm.slots)
theorem Ctr.body {l : Launch} {Z : State} {y : MethodName} {bytes : ByteArray} {maxL : Nat} {ret : Option FieldType} {rm : Room} {as : Array Value} {h0 : Heap} {Q : Option Value → Heap → List Loc → Prop} (hp : plainFor y = true)
    (body : ∀ (p : Program) (e : Env) (s : State) (m : MethodId) (below : List Frame) (meth : Method) (c : Code) (T : State), Stand p l e rm s m as below meth c T [] 0 0 → p.tables.exec = Jvm.exec → c.code = bytes → c.maxLocals = maxL → s.vm.findClass y.cls = some m.cls → meth.name = y.name → meth.sig.returnType = ret → meth.locks = false → Z.Warmed39 s.vm → T.heap = h0 → Run p e below (Nar s rm Q) (T.setTop (entryFrame m as maxL))) :
    Ctr l Z y bytes maxL ret rm as h0 Q := by
  intro ws
  refine MetFree.of_bodySF hp hisR ?_
  intro p e s m args below meth c s₁ Bd hml hP hK
  obtain ⟨rfl, hZ, hh⟩ := hP
  exact body p e s m below meth c s₁ (Stand.of_body Bd) Bd.exec Bd.bytes hml (findClass_of_methodNamed Bd.named) (name_of_methodNamed Bd.named Bd.method).1 Bd.returns (BodyLoose.notSynchronized Bd) hZ (by rw [← hh, Bd.state]; rfl)
section Walk
variable {p : Program} {l : Launch} {e : Env} {R : Room} {s : State} {m : MethodId} {args : Array Value} {below : List Frame} {meth : Method} {c : Code} {T : State} {locs : List Loc} {cells slots : Nat} {Z : State} {a0 : Array Value} {h h' h1 h2 : Heap} {Q : Option Value → Heap → List Loc → Prop} {F : Outcome → State → Prop}
theorem Run.via {S S' : State} (f : ∀ t, Steps p.tables e below S' t → Steps p.tables e below S t) (k : Run p e below F S') : Run p e below F S := by
  obtain ⟨s₂, o, q1, q2⟩ := k
  exact ⟨s₂, o, f _ q1, q2⟩
theorem Run.cast {g g' : JFrame} (q : g = g') (k : Run p e below F (T.setTop g')) : Run p e below F (T.setTop g) := q ▸ k
theorem Run.ret (X : Stand p l e R s m args below meth c T locs cells slots) (hx : p.tables.exec = Jvm.exec) (hlk : meth.locks = false) {pc : Nat} {Ls : Array Slot} {w : Value} {t : FieldType} {i : Instr} {rest : List Value} (hret : meth.sig.returnType = some t) (hd : decode c.code pc = .ok (i, 1)) (hn : narrow t w = w)
    (hi : (i = .ireturn ∧ (t = .int ∨ t = .boolean ∨ t = .byte ∨ t = .char ∨ t = .short) ∧ ∃ z, w = .int z) ∨ (i = .lreturn ∧ t = .long ∧ ∃ z, w = .long z) ∨ (i = .dreturn ∧ t = .double ∧ ∃ z, w = .double z) ∨ (i = .freturn ∧ t = .float ∧ ∃ z, w = .float z) ∨ (i = .areturn ∧ t.isReference = true ∧ w.isRef = true))
    (hc : cells ≤ R.cells) (hs : slots ≤ R.slots) (hq : Q (some w) T.heap locs) : Run p e below (Nar s R Q) (T.setTop (mkF m pc Ls (w :: rest))) := by
  obtain ⟨fs, hr, hrun, hended, hW, hsame⟩ := X.leave (v := some w) (fun q => by rw [hret] at q; cases q) hlk
  exact ⟨_, _, retOut X hx hret hn hi hd hr, hrun, hended, _, _, rfl, hq, ⟨_, rfl⟩, hW, hsame.mono hc hs⟩
theorem Run.retB (X : Stand p l e R s m args below meth c T locs cells slots) (hx : p.tables.exec = Jvm.exec) (hlk : meth.locks = false) {pc : Nat} {Ls : Array Slot} {z : Int32} {rest : List Value} (hret : meth.sig.returnType = some .boolean) (hd : decode c.code pc = .ok (.ireturn, 1)) (hn : narrow .boolean (.int z) = .int z)
    (hc : cells ≤ R.cells) (hs : slots ≤ R.slots) (hq : Q (some (.int z)) T.heap locs) : Run p e below (Nar s R Q) (T.setTop (mkF m pc Ls (.int z :: rest))) :=
  Run.ret X hx hlk hret hd hn (Or.inl ⟨rfl, Or.inr (Or.inl rfl), z, rfl⟩) hc hs hq
theorem Run.retI (X : Stand p l e R s m args below meth c T locs cells slots) (hx : p.tables.exec = Jvm.exec) (hlk : meth.locks = false) {pc : Nat} {Ls : Array Slot} {z : Int32} {rest : List Value} (hret : meth.sig.returnType = some .int) (hd : decode c.code pc = .ok (.ireturn, 1))
    (hc : cells ≤ R.cells) (hs : slots ≤ R.slots) (hq : Q (some (.int z)) T.heap locs) : Run p e below (Nar s R Q) (T.setTop (mkF m pc Ls (.int z :: rest))) :=
  Run.ret X hx hlk hret hd rfl (Or.inl ⟨rfl, Or.inl rfl, z, rfl⟩) hc hs hq
theorem narrow_ref {t : FieldType} {w : Value} (h : w.isRef = true) : narrow t w = w := by
  cases w <;> simp [Value.isRef] at h <;> cases t <;> rfl
theorem Run.retR (X : Stand p l e R s m args below meth c T locs cells slots) (hx : p.tables.exec = Jvm.exec) (hlk : meth.locks = false) {pc : Nat} {Ls : Array Slot} {w : Value} {t : FieldType} {rest : List Value} (hret : meth.sig.returnType = some t) (hd : decode c.code pc = .ok (.areturn, 1)) (ht : t.isReference = true) (hw : w.isRef = true)
    (hc : cells ≤ R.cells) (hs : slots ≤ R.slots) (hq : Q (some w) T.heap locs) : Run p e below (Nar s R Q) (T.setTop (mkF m pc Ls (w :: rest))) :=
  Run.ret X hx hlk hret hd (Jvm.OwnKit.narrow_ref hw) (Or.inr (Or.inr (Or.inr (Or.inr ⟨rfl, ht, hw⟩)))) hc hs hq
theorem Run.retV (X : Stand p l e R s m args below meth c T locs cells slots) (hx : p.tables.exec = Jvm.exec) (hlk : meth.locks = false) {pc : Nat} {Ls : Array Slot} (hret : meth.sig.returnType = none) (hd : decode c.code pc = .ok (.return_, 1))
    (hc : cells ≤ R.cells) (hs : slots ≤ R.slots) (hq : Q none T.heap locs) : Run p e below (Nar s R Q) (T.setTop (mkF m pc Ls [])) := by
  obtain ⟨fs, hr, hrun, hended, hW, hsame⟩ := X.leave (v := none) (fun _ => rfl) hlk
  exact ⟨_, _, X.returnOut hx hret hd hr, hrun, hended, _, _, rfl, hq, ⟨_, rfl⟩, hW, hsame.mono hc hs⟩
/-- a static callee by its contract -/
theorem callC (X : Stand p l e R s m args below meth c T locs cells slots) (hx : p.tables.exec = Jvm.exec) (hZ : Z.Warmed39 s.vm) {own : String} {index : Nat} {y : MethodName} {bytes : ByteArray} {maxL : Nat} {ret : Option FieldType} {rm : Room} {P : Option Value → Heap → List Loc → Prop} (hown : s.vm.findClass own = some m.cls)
    (w1 : (Cond.methodLink own index y).before a0 Z = true) (w2 : (Cond.static y).before a0 Z = true) (w3 : (Cond.initialized y.cls).before a0 Z = true) (w4 : (Cond.code y bytes maxL ret).before a0 Z = true) (hy : y.cls ≠ "java/lang/invoke/MethodHandle" ∧ y.cls ≠ "java/lang/invoke/VarHandle")
    (eT : T.heap = h) {argsL rest : List Value} (K : Ctr l Z y bytes maxL ret rm argsL.toArray h P) {g : JFrame} (hg : g.method = m) (hsize : g.locals.size = c.maxLocals) (hs : g.stack = argsL.reverse ++ rest) (hd : decode c.code g.pc = .ok (.invokestatic index, 3))
    (hlen : ∀ sig, parseMethodDescriptor y.desc = some sig → argsL.length = sig.parameters.length) {W : Nat} (hW : 2 * g.monitorRoom + (rest.map fun v => v.category).sum ≤ W) (hf : rm.frames + 1 ≤ R.frames) (hl : W + (maxL + 11) + rm.locals ≤ R.locals) (hc : cells + rm.cells ≤ R.cells) (hsl : slots + rm.slots ≤ R.slots) :
    ∃ (v : Option Value) (T' : State) (L : List Loc), Stand p l e R s m args below meth c T' (locs ++ L) (cells + rm.cells) (slots + rm.slots) ∧ P v T'.heap L ∧
      ∀ target, Steps p.tables e below (T'.setTop { g with pc := g.pc + 3, stack := v.toList ++ rest }) target → Steps p.tables e below (T.setTop g) target := by
  obtain ⟨v, vm₁, ⟨T', L', k', n'⟩, -, X', ⟨L, hQ, l1, l2, l3⟩, st⟩ := Jvm.LawKit.callS X hx (y := y) hown (mvT hZ w1) (mvT hZ w2) (mvT hZ w3) (mvT hZ w4) hy (backOf (W := W) (K []) hZ w4 w3 hf hl) (g := g) hg hsize (argsL := argsL) (rest := rest) hlen hs hW hd (fun _ _ => ⟨rfl, eT, hc, hsl⟩)
  dsimp only [Pt.U, Pt.locs, Pt.cells, Pt.slots] at X' l1 l2 l3 st hQ
  subst l1 l2 l3
  exact ⟨v, T', L, X', hQ, st⟩
/-- an instance method by its contract -/
theorem callV (X : Stand p l e R s m args below meth c T locs cells slots) (hx : p.tables.exec = Jvm.exec) (hZ : Z.Warmed39 s.vm) {own C : String} {index : Nat} {y : MethodName} {bytes : ByteArray} {maxL : Nat} {ret : Option FieldType} {rm : Room} {P : Option Value → Heap → List Loc → Prop} (hown : s.vm.findClass own = some m.cls)
    (w1 : (Cond.methodLink own index y).before a0 Z = true) (w2 : (Cond.declares y).before a0 Z = true) (w5 : (Cond.selects C y y).before a0 Z = true) (w6 : (Cond.instanceMethod y).before a0 Z = true) (w3 : (Cond.initialized y.cls).before a0 Z = true) (w4 : (Cond.code y bytes maxL ret).before a0 Z = true) (hy : y.cls ≠ "java/lang/invoke/MethodHandle" ∧ y.cls ≠ "java/lang/invoke/VarHandle")
    (eT : T.heap = h) {b : Addr} (E : Exa Z h b C) {argsL rest : List Value} (K : Ctr l Z y bytes maxL ret rm (.ref b :: argsL).toArray h P) {g : JFrame} (hg : g.method = m) (hsize : g.locals.size = c.maxLocals) (hs : g.stack = argsL.reverse ++ .ref b :: rest) (hd : decode c.code g.pc = .ok (.invokevirtual index, 3))
    (hlen : ∀ sig, parseMethodDescriptor y.desc = some sig → argsL.length = sig.parameters.length) {W : Nat} (hW : 2 * g.monitorRoom + (rest.map fun v => v.category).sum ≤ W) (hf : rm.frames + 1 ≤ R.frames) (hl : W + (maxL + 11) + rm.locals ≤ R.locals) (hc : cells + rm.cells ≤ R.cells) (hsl : slots + rm.slots ≤ R.slots) :
    ∃ (v : Option Value) (T' : State) (L : List Loc), Stand p l e R s m args below meth c T' (locs ++ L) (cells + rm.cells) (slots + rm.slots) ∧ P v T'.heap L ∧
      ∀ target, Steps p.tables e below (T'.setTop { g with pc := g.pc + 3, stack := v.toList ++ rest }) target → Steps p.tables e below (T.setTop g) target := by
  obtain ⟨cq, kq, qa, qb, qc⟩ := isOf hZ eT E
  obtain ⟨v, vm₁, ⟨T', L', k', n'⟩, -, X', ⟨L, hQ, l1, l2, l3⟩, st⟩ := X.virtualBack hx (y := y) (z := y) hown (mvT hZ w1) (mvT hZ w2) (notFace_of_selects (args := #[]) (mvT hZ w5)) (mvT hZ w5) (mvT hZ w6) hy (backOf (W := W) (K []) hZ w4 w3 hf hl) qa qc (g := g) hg hsize (Steps.refl _) (argsL := argsL) (rest := rest) hlen hs hW hd (fun _ _ => ⟨rfl, eT, hc, hsl⟩)
  dsimp only [Pt.U, Pt.locs, Pt.cells, Pt.slots] at X' l1 l2 l3 st hQ
  subst l1 l2 l3
  exact ⟨v, T', L, X', hQ, fun _ k => st.trans k⟩
/-- a constructor by its contract -/
theorem callN (X : Stand p l e R s m args below meth c T locs cells slots) (hx : p.tables.exec = Jvm.exec) (hZ : Z.Warmed39 s.vm) {own : String} {index : Nat} {y : MethodName} {bytes : ByteArray} {maxL : Nat} {rm : Room} {P : Option Value → Heap → List Loc → Prop} (hy1 : y.name = "<init>") (hown : s.vm.findClass own = some m.cls)
    (w1 : (Cond.methodLink own index y).before a0 Z = true) (w6 : (Cond.instanceMethod y).before a0 Z = true) (w3 : (Cond.initialized y.cls).before a0 Z = true) (w4 : (Cond.code y bytes maxL none).before a0 Z = true) (hy : y.cls ≠ "java/lang/invoke/MethodHandle" ∧ y.cls ≠ "java/lang/invoke/VarHandle")
    (eT : T.heap = h) {b : Addr} {argsL rest : List Value} (K : Ctr l Z y bytes maxL none rm (.ref b :: argsL).toArray h P) {g : JFrame} (hg : g.method = m) (hsize : g.locals.size = c.maxLocals) (hs : g.stack = argsL.reverse ++ .ref b :: rest) (hd : decode c.code g.pc = .ok (.invokespecial index, 3))
    (hlen : ∀ sig, parseMethodDescriptor y.desc = some sig → argsL.length = sig.parameters.length) {W : Nat} (hW : 2 * g.monitorRoom + (rest.map fun v => v.category).sum ≤ W) (hf : rm.frames + 1 ≤ R.frames) (hl : W + (maxL + 11) + rm.locals ≤ R.locals) (hc : cells + rm.cells ≤ R.cells) (hsl : slots + rm.slots ≤ R.slots) :
    ∃ (v : Option Value) (T' : State) (L : List Loc), Stand p l e R s m args below meth c T' (locs ++ L) (cells + rm.cells) (slots + rm.slots) ∧ P v T'.heap L ∧
      ∀ target, Steps p.tables e below (T'.setTop { g with pc := g.pc + 3, stack := v.toList ++ rest }) target → Steps p.tables e below (T.setTop g) target := by
  obtain ⟨v, vm₁, ⟨T', L', k', n'⟩, -, X', ⟨L, hQ, l1, l2, l3⟩, st⟩ := X.specialBack hx (y := y) hy1 hown (mvT hZ w1) (mvT hZ w6) (mvT hZ w4) hy (backOf (W := W) (K []) hZ w4 w3 hf hl) (g := g) hg hsize (Steps.refl _) (a := b) (argsL := argsL) (rest := rest) hlen hs hW hd (fun _ _ => ⟨rfl, eT, hc, hsl⟩)
  dsimp only [Pt.U, Pt.locs, Pt.cells, Pt.slots] at X' l1 l2 l3 st hQ
  subst l1 l2 l3
  exact ⟨v, T', L, X', hQ, fun _ k => st.trans k⟩
/-- a private method by its contract -/
theorem callP (X : Stand p l e R s m args below meth c T locs cells slots) (hx : p.tables.exec = Jvm.exec) (hZ : Z.Warmed39 s.vm) {own : String} {index nn : Nat} {y : MethodName} {bytes : ByteArray} {maxL : Nat} {ret : Option FieldType} {rm : Room} {P : Option Value → Heap → List Loc → Prop} (hown : s.vm.findClass own = some m.cls)
    (w1 : (Cond.methodLink own index y).before a0 Z = true) (w6 : (Cond.instanceMethod y).before a0 Z = true) (w7 : (Cond.privateMethod y).before a0 Z = true) (w8 : (Cond.instantiable y.cls nn).before a0 Z = true) (w3 : (Cond.initialized y.cls).before a0 Z = true) (w4 : (Cond.code y bytes maxL ret).before a0 Z = true) (hy : y.cls ≠ "java/lang/invoke/MethodHandle" ∧ y.cls ≠ "java/lang/invoke/VarHandle")
    (eT : T.heap = h) {b : Addr} {C : String} (E : Exa Z h b C) {argsL rest : List Value} (K : Ctr l Z y bytes maxL ret rm (.ref b :: argsL).toArray h P) {g : JFrame} (hg : g.method = m) (hsize : g.locals.size = c.maxLocals) (hs : g.stack = argsL.reverse ++ .ref b :: rest) (hd : decode c.code g.pc = .ok (.invokevirtual index, 3))
    (hlen : ∀ sig, parseMethodDescriptor y.desc = some sig → argsL.length = sig.parameters.length) {W : Nat} (hW : 2 * g.monitorRoom + (rest.map fun v => v.category).sum ≤ W) (hf : rm.frames + 1 ≤ R.frames) (hl : W + (maxL + 11) + rm.locals ≤ R.locals) (hc : cells + rm.cells ≤ R.cells) (hsl : slots + rm.slots ≤ R.slots) :
    ∃ (v : Option Value) (T' : State) (L : List Loc), Stand p l e R s m args below meth c T' (locs ++ L) (cells + rm.cells) (slots + rm.slots) ∧ P v T'.heap L ∧
      ∀ target, Steps p.tables e below (T'.setTop { g with pc := g.pc + 3, stack := v.toList ++ rest }) target → Steps p.tables e below (T.setTop g) target := by
  obtain ⟨cl, q1, q2⟩ := E.cell
  have hpr : s.PrivateAt y := Cond.privateMethod_at (mvP hZ w7 (args := #[]))
  obtain ⟨cI, kI, i1, i2, -, i4, -⟩ := Cond.instantiable_spec (mvT hZ w8 : (Cond.instantiable y.cls nn).before args s = true)
  have hsel : (Cond.selects y.cls y y).before args s = true := selects_self_of_private i1 i2 (Bool.or_eq_false_iff.mp i4).1 hpr (mvT hZ w6) hy
  obtain ⟨v, vm₁, ⟨T', L', k', n'⟩, -, X', ⟨L, hQ, l1, l2, l3⟩, st⟩ := X.privateBack hx (y := y) hown (mvT hZ w1) (mvT hZ w6) hsel hpr (mvT hZ w4) hy (backOf (W := W) (K []) hZ w4 w3 hf hl) (g := g) hg hsize (Steps.refl _) (a := b) (cell := cl) (by rw [eT]; exact q1) q2 (argsL := argsL) (rest := rest) hlen hs hW hd (fun _ _ => ⟨rfl, eT, hc, hsl⟩)
  dsimp only [Pt.U, Pt.locs, Pt.cells, Pt.slots] at X' l1 l2 l3 st hQ
  subst l1 l2 l3
  exact ⟨v, T', L, X', hQ, fun _ k => st.trans k⟩
/-! arrays of references -/
theorem aaldV (X : Stand p l e R s m args below meth c T locs cells slots) (hx : p.tables.exec = Jvm.exec) (hZ : Z.Warmed39 s.vm) (eT : T.heap = h) {a : Addr} {k : ClassId} {ty : FieldType} {z j : Int32} {vs : List Value} {dv v : Value} (A : Arv Z h a k ty z vs dv) (hty : ty.isReference = true) (hj : ¬ j < 0 ∧ j < z) (hv : vs.getD j.toNatClampNeg dv = v)
    {g : JFrame} (hg : g.method = m) {rest : List Value} (hs : g.stack = .int j :: .ref a :: rest) (hd : decode c.code g.pc = .ok (.aaload, 1)) :
    ∀ target, Steps p.tables e below (T.setTop { g with pc := g.pc + 1, stack := v :: rest }) target → Steps p.tables e below (T.setTop g) target := by
  obtain ⟨cl, A, -, S, -, H, -⟩ := A
  have hin := inb_of S hj
  exact fun t q => X.aaload hx (by rw [eT]; exact A.1) (State.isArrayOf_alike hZ.alike A.2.1) hty A.2.2 hin (H.at hin hv) hg hs hd t q
theorem lenV (X : Stand p l e R s m args below meth c T locs cells slots) (hx : p.tables.exec = Jvm.exec) (hZ : Z.Warmed39 s.vm) (eT : T.heap = h) {a : Addr} {k : ClassId} {ty : FieldType} {z : Int32} {vs : List Value} {dv : Value} (A : Arv Z h a k ty z vs dv)
    {g : JFrame} (hg : g.method = m) {rest : List Value} (hs : g.stack = .ref a :: rest) (hd : decode c.code g.pc = .ok (.arraylength, 1)) :
    ∀ target, Steps p.tables e below (T.setTop { g with pc := g.pc + 1, stack := .int z :: rest }) target → Steps p.tables e below (T.setTop g) target := by
  obtain ⟨cl, A, -, S, N, -, -⟩ := A
  intro t q
  refine X.arraylength hx (by rw [eT]; exact A.1) (State.isArrayOf_alike hZ.alike A.2.1) hg hs hd t ?_
  rw [len_of S N]
  exact q
theorem aastV (X : Stand p l e R s m args below meth c T locs cells slots) (hx : p.tables.exec = Jvm.exec) (hZ : Z.Warmed39 s.vm) (eT : T.heap = h) {a : Addr} {k : ClassId} {ty : FieldType} {z j : Int32} {vs : List Value} {dv v : Value} (A : Arv Z h a k ty z vs dv) (hty : ty.isReference = true) (hj : ¬ j < 0 ∧ j < z) {i : Nat} (hi : j.toNatClampNeg = i) (hlen : i < vs.length)
    (F : ∀ cl, Arr Z h a cl ty → cl.cls = k → Sto Z h a v) (hfit : fits ty v = true) {g : JFrame} (hg : g.method = m) {rest : List Value} (hs : g.stack = v :: .int j :: .ref a :: rest) (hd : decode c.code g.pc = .ok (.aastore, 1)) :
    ∃ T' h', Stand p l e R s m args below meth c T' (locs ++ [⟨a, j.toNatClampNeg⟩]) cells slots ∧ T'.heap = h' ∧ Wr h h' a j.toNatClampNeg v ∧ Arv Z h' a k ty z (vs.set i v) dv ∧
      ∀ target, Steps p.tables e below (T'.setTop { g with pc := g.pc + 1, stack := rest }) target → Steps p.tables e below (T.setTop g) target := by
  obtain ⟨cl, A, q, S, N, H, G⟩ := A
  have hin := inb_of S hj
  obtain ⟨T', h', X', e', W, st⟩ := stR X hx hZ eT A (j := j) (v := v) hin hty (F cl A q) hg hs hd
  exact ⟨T', h', X', e', W, Arv.set A q S N H G hfit W i hi hlen, st⟩
/-- a cast of null or of one of the class -/
theorem castVV (X : Stand p l e R s m args below meth c T locs cells slots) (hx : p.tables.exec = Jvm.exec) (hZ : Z.Warmed39 s.vm) {own K : String} {index : Nat} (hown : s.vm.findClass own = some m.cls) (w : (Cond.classLink own index K).before a0 Z = true) (eT : T.heap = h) {v : Value} (B : v = .null ∨ ∃ r, v = .ref r ∧ Ins Z h r K true)
    {g : JFrame} (hg : g.method = m) {rest : List Value} (hs : g.stack = v :: rest) (hd : decode c.code g.pc = .ok (.checkcast index, 3)) :
    ∃ T', Stand p l e R s m args below meth c T' locs cells slots ∧ T'.heap = h ∧ ∀ target, Steps p.tables e below (T'.setTop { g with pc := g.pc + 3 }) target → Steps p.tables e below (T.setTop g) target := by
  rcases B with rfl | ⟨r, rfl, I⟩
  · exact ⟨T, X, eT, fun t q => X.checkcastNull hx hg hs hd t q⟩
  · exact castY X hx hZ hown w eT I hg hs hd
theorem cat_ref {v : Value} (q : v.isRef = true) : v.category = 1 := by cases v <;> simp [Value.isRef] at q <;> rfl
theorem fits_isRef {t : FieldType} {v : Value} (r : t.isReference = true) (q : v.isRef = true) : fits t v = true := by cases v <;> simp [Value.isRef] at q <;> cases t <;> first | rfl | (simp [FieldType.isReference] at r)
theorem ext_of_keep (K : Keep h h1 []) : Ext h h1 := ⟨K.1, fun x c q => K.2.1 x c q nin0⟩
/-! heaps that only grow -/
theorem ext_refl (h : Heap) : Ext h h := ⟨Nat.le_refl _, fun _ _ q => q⟩
theorem ext_trans (a : Ext h h1) (b : Ext h1 h2) : Ext h h2 := ⟨Nat.le_trans a.1 b.1, fun x q r => b.2 x q (a.2 x q r)⟩
/-- what lies at or above h's end was written: h stands -/
theorem ext_keep {ws : List Addr} (a : Ext h h1) (K : Keep h1 h2 ws) (q : ∀ x ∈ ws, h.size ≤ x) : Ext h h2 := ⟨Nat.le_trans a.1 K.1, fun x c r => K.2.1 x c (a.2 x c r) fun z => absurd (Array.getElem?_eq_some_iff.mp r).1 (Nat.not_lt.mpr (q x z))⟩
theorem ext_wr {a : Addr} {sl : Nat} {v : Value} (x : Ext h h1) (W : Wr h1 h2 a sl v) (q : h.size ≤ a) : Ext h h2 := ext_keep x (Keep.of_wr W) (allS q all0)
theorem keep_ext {ws : List Addr} (E : Ext h h1) : Keep h h1 ws := (Keep.refl h ws).ext E
end Walk
section Rows
variable {p : Program} {l : Launch} {e : Env} {R : Room} {s : State} {m : MethodId} {args : Array Value} {below : List Frame} {meth : Method} {c : Code} {T : State} {locs : List Loc} {cells slots : Nat} {Z : State} {a0 : Array Value} {h : Heap} {F : Outcome → State → Prop} {pc pc' : Nat} {Ls : Array Slot} {rest : List Value}
theorem q_iloadN (X : Stand p l e R s m args below meth c T locs cells slots) (hx : p.tables.exec = Jvm.exec) {k : Fin 4} {v : Int32} (hd : decode c.code pc = .ok (.iload_n k, 1)) (hl : Ls[k.val]? = some (.val (.int v))) (hp : pc + 1 = pc') (go : Run p e below F (T.setTop (mkF m pc' Ls (.int v :: rest)))) : Run p e below F (T.setTop (mkF m pc Ls rest)) := by
  subst hp
  exact Run.via (fun _ q => XS.iloadN X.here hx rfl hd hl q) go
theorem q_iload (X : Stand p l e R s m args below meth c T locs cells slots) (hx : p.tables.exec = Jvm.exec) {k : Nat} {v : Int32} (hd : decode c.code pc = .ok (.iload k, 2)) (hl : Ls[k]? = some (.val (.int v))) (hp : pc + 2 = pc') (go : Run p e below F (T.setTop (mkF m pc' Ls (.int v :: rest)))) : Run p e below F (T.setTop (mkF m pc Ls rest)) := by
  subst hp
  exact Run.via (fun _ q => XS.iload X.here hx rfl hd hl q) go
theorem q_aloadN (X : Stand p l e R s m args below meth c T locs cells slots) (hx : p.tables.exec = Jvm.exec) {k : Fin 4} {v : Value} (hd : decode c.code pc = .ok (.aload_n k, 1)) (hl : Ls[k.val]? = some (.val v)) (hv : v.isRef = true) (hp : pc + 1 = pc') (go : Run p e below F (T.setTop (mkF m pc' Ls (v :: rest)))) : Run p e below F (T.setTop (mkF m pc Ls rest)) := by
  subst hp
  exact Run.via (fun _ q => XS.aloadN X.here hx rfl hd hl hv q) go
theorem q_aload (X : Stand p l e R s m args below meth c T locs cells slots) (hx : p.tables.exec = Jvm.exec) {k : Nat} {v : Value} (hd : decode c.code pc = .ok (.aload k, 2)) (hl : Ls[k]? = some (.val v)) (hv : v.isRef = true) (hp : pc + 2 = pc') (go : Run p e below F (T.setTop (mkF m pc' Ls (v :: rest)))) : Run p e below F (T.setTop (mkF m pc Ls rest)) := by
  subst hp
  exact Run.via (fun _ q => XS.aload X.here hx rfl hd hl hv q) go
theorem q_istoreN (X : Stand p l e R s m args below meth c T locs cells slots) (hx : p.tables.exec = Jvm.exec) {k : Fin 4} {v : Int32} {l' : Array Slot} (hd : decode c.code pc = .ok (.istore_n k, 1)) (hl : storeLocals Ls k.val (.int v) = some l') (hp : pc + 1 = pc') (go : Run p e below F (T.setTop (mkF m pc' l' rest))) : Run p e below F (T.setTop (mkF m pc Ls (.int v :: rest))) := by
  subst hp
  exact Run.via (fun _ q => XS.istoreN X.here hx rfl hd rfl hl q) go
theorem q_istore (X : Stand p l e R s m args below meth c T locs cells slots) (hx : p.tables.exec = Jvm.exec) {k : Nat} {v : Int32} {l' : Array Slot} (hd : decode c.code pc = .ok (.istore k, 2)) (hl : storeLocals Ls k (.int v) = some l') (hp : pc + 2 = pc') (go : Run p e below F (T.setTop (mkF m pc' l' rest))) : Run p e below F (T.setTop (mkF m pc Ls (.int v :: rest))) := by
  subst hp
  exact Run.via (fun _ q => XS.istore X.here hx rfl hd rfl hl q) go
theorem q_astoreN (X : Stand p l e R s m args below meth c T locs cells slots) (hx : p.tables.exec = Jvm.exec) {k : Fin 4} {v : Value} {l' : Array Slot} (hd : decode c.code pc = .ok (.astore_n k, 1)) (hv : v.isRef = true) (hl : storeLocals Ls k.val v = some l') (hp : pc + 1 = pc') (go : Run p e below F (T.setTop (mkF m pc' l' rest))) : Run p e below F (T.setTop (mkF m pc Ls (v :: rest))) := by
  subst hp
  exact Run.via (fun _ q => XS.astoreN X.here hx rfl hd rfl hv hl q) go
theorem q_astore (X : Stand p l e R s m args below meth c T locs cells slots) (hx : p.tables.exec = Jvm.exec) {k : Nat} {v : Value} {l' : Array Slot} (hd : decode c.code pc = .ok (.astore k, 2)) (hv : v.isRef = true) (hl : storeLocals Ls k v = some l') (hp : pc + 2 = pc') (go : Run p e below F (T.setTop (mkF m pc' l' rest))) : Run p e below F (T.setTop (mkF m pc Ls (v :: rest))) := by
  subst hp
  exact Run.via (fun _ q => XS.astore X.here hx rfl hd rfl hv hl q) go
theorem q_iconst (X : Stand p l e R s m args below meth c T locs cells slots) (hx : p.tables.exec = Jvm.exec) {i : Int} {z : Int32} (hd : decode c.code pc = .ok (.iconst i, 1)) (hz : Int32.ofInt i = z) (hp : pc + 1 = pc') (go : Run p e below F (T.setTop (mkF m pc' Ls (.int z :: rest)))) : Run p e below F (T.setTop (mkF m pc Ls rest)) := by
  subst hp
  exact Run.via (fun _ q => XS.iconst X.here hx rfl hd (by rw [hz]; exact q)) go
theorem q_bipush (X : Stand p l e R s m args below meth c T locs cells slots) (hx : p.tables.exec = Jvm.exec) {i : Int} {z : Int32} (hd : decode c.code pc = .ok (.bipush i, 2)) (hz : (Int8.ofInt i).toInt32 = z) (hp : pc + 2 = pc') (go : Run p e below F (T.setTop (mkF m pc' Ls (.int z :: rest)))) : Run p e below F (T.setTop (mkF m pc Ls rest)) := by
  subst hp
  exact Run.via (fun _ q => XS.bipush X.here hx rfl hd (by rw [hz]; exact q)) go
theorem q_sipush (X : Stand p l e R s m args below meth c T locs cells slots) (hx : p.tables.exec = Jvm.exec) {i : Int} {z : Int32} (hd : decode c.code pc = .ok (.sipush i, 3)) (hz : (Int16.ofInt i).toInt32 = z) (hp : pc + 3 = pc') (go : Run p e below F (T.setTop (mkF m pc' Ls (.int z :: rest)))) : Run p e below F (T.setTop (mkF m pc Ls rest)) := by
  subst hp
  exact Run.via (fun _ q => XS.sipush X.here hx rfl hd (by rw [hz]; exact q)) go
theorem q_null (X : Stand p l e R s m args below meth c T locs cells slots) (hx : p.tables.exec = Jvm.exec)  (hd : decode c.code pc = .ok (.aconst_null, 1))  (hp : pc + 1 = pc') (go : Run p e below F (T.setTop (mkF m pc' Ls (.null :: rest)))) : Run p e below F (T.setTop (mkF m pc Ls rest)) := by
  subst hp
  exact Run.via (fun _ q => XS.aconstNull X.here hx rfl hd q) go
theorem q_iadd (X : Stand p l e R s m args below meth c T locs cells slots) (hx : p.tables.exec = Jvm.exec) {x y z : Int32} (hd : decode c.code pc = .ok (.iadd, 1)) (hz : x + y = z) (hp : pc + 1 = pc') (go : Run p e below F (T.setTop (mkF m pc' Ls (.int z :: rest)))) : Run p e below F (T.setTop (mkF m pc Ls (.int y :: .int x :: rest))) := by
  subst hp
  exact Run.via (fun _ q => XS.iadd X.here hx rfl hd rfl (by rw [hz]; exact q)) go
theorem q_isub (X : Stand p l e R s m args below meth c T locs cells slots) (hx : p.tables.exec = Jvm.exec) {x y z : Int32} (hd : decode c.code pc = .ok (.isub, 1)) (hz : x - y = z) (hp : pc + 1 = pc') (go : Run p e below F (T.setTop (mkF m pc' Ls (.int z :: rest)))) : Run p e below F (T.setTop (mkF m pc Ls (.int y :: .int x :: rest))) := by
  subst hp
  exact Run.via (fun _ q => XS.isub X.here hx rfl hd rfl (by rw [hz]; exact q)) go
theorem q_imul (X : Stand p l e R s m args below meth c T locs cells slots) (hx : p.tables.exec = Jvm.exec) {x y z : Int32} (hd : decode c.code pc = .ok (.imul, 1)) (hz : x * y = z) (hp : pc + 1 = pc') (go : Run p e below F (T.setTop (mkF m pc' Ls (.int z :: rest)))) : Run p e below F (T.setTop (mkF m pc Ls (.int y :: .int x :: rest))) := by
  subst hp
  exact Run.via (fun _ q => XS.imul X.here hx rfl hd rfl (by rw [hz]; exact q)) go
theorem q_iand (X : Stand p l e R s m args below meth c T locs cells slots) (hx : p.tables.exec = Jvm.exec) {x y z : Int32} (hd : decode c.code pc = .ok (.iand, 1)) (hz : x &&& y = z) (hp : pc + 1 = pc') (go : Run p e below F (T.setTop (mkF m pc' Ls (.int z :: rest)))) : Run p e below F (T.setTop (mkF m pc Ls (.int y :: .int x :: rest))) := by
  subst hp
  exact Run.via (fun _ q => XS.iand X.here hx rfl hd rfl (by rw [hz]; exact q)) go
theorem q_ior (X : Stand p l e R s m args below meth c T locs cells slots) (hx : p.tables.exec = Jvm.exec) {x y z : Int32} (hd : decode c.code pc = .ok (.ior, 1)) (hz : x ||| y = z) (hp : pc + 1 = pc') (go : Run p e below F (T.setTop (mkF m pc' Ls (.int z :: rest)))) : Run p e below F (T.setTop (mkF m pc Ls (.int y :: .int x :: rest))) := by
  subst hp
  exact Run.via (fun _ q => XS.ior X.here hx rfl hd rfl (by rw [hz]; exact q)) go
theorem q_ixor (X : Stand p l e R s m args below meth c T locs cells slots) (hx : p.tables.exec = Jvm.exec) {x y z : Int32} (hd : decode c.code pc = .ok (.ixor, 1)) (hz : x ^^^ y = z) (hp : pc + 1 = pc') (go : Run p e below F (T.setTop (mkF m pc' Ls (.int z :: rest)))) : Run p e below F (T.setTop (mkF m pc Ls (.int y :: .int x :: rest))) := by
  subst hp
  exact Run.via (fun _ q => XS.ixor X.here hx rfl hd rfl (by rw [hz]; exact q)) go
theorem q_ishr (X : Stand p l e R s m args below meth c T locs cells slots) (hx : p.tables.exec = Jvm.exec) {x y z : Int32} (hd : decode c.code pc = .ok (.ishr, 1)) (hz : x >>> (y &&& 31) = z) (hp : pc + 1 = pc') (go : Run p e below F (T.setTop (mkF m pc' Ls (.int z :: rest)))) : Run p e below F (T.setTop (mkF m pc Ls (.int y :: .int x :: rest))) := by
  subst hp
  exact Run.via (fun _ q => XS.ishr X.here hx rfl hd rfl (by rw [hz]; exact q)) go
theorem q_ishl (X : Stand p l e R s m args below meth c T locs cells slots) (hx : p.tables.exec = Jvm.exec) {x y z : Int32} (hd : decode c.code pc = .ok (.ishl, 1)) (hz : x <<< (y &&& 31) = z) (hp : pc + 1 = pc') (go : Run p e below F (T.setTop (mkF m pc' Ls (.int z :: rest)))) : Run p e below F (T.setTop (mkF m pc Ls (.int y :: .int x :: rest))) := by
  subst hp
  exact Run.via (fun _ q => XS.ishl X.here hx rfl hd rfl (by rw [hz]; exact q)) go
theorem q_iushr (X : Stand p l e R s m args below meth c T locs cells slots) (hx : p.tables.exec = Jvm.exec) {x y z : Int32} (hd : decode c.code pc = .ok (.iushr, 1)) (hz : (x.toUInt32 >>> (y &&& 31).toUInt32).toInt32 = z) (hp : pc + 1 = pc') (go : Run p e below F (T.setTop (mkF m pc' Ls (.int z :: rest)))) : Run p e below F (T.setTop (mkF m pc Ls (.int y :: .int x :: rest))) := by
  subst hp
  exact Run.via (fun _ q => XS.iushr X.here hx rfl hd rfl (by rw [hz]; exact q)) go
theorem q_idiv (X : Stand p l e R s m args below meth c T locs cells slots) (hx : p.tables.exec = Jvm.exec) {x y z : Int32} (hd : decode c.code pc = .ok (.idiv, 1)) (hy : y ≠ 0) (hz : x / y = z) (hp : pc + 1 = pc') (go : Run p e below F (T.setTop (mkF m pc' Ls (.int z :: rest)))) : Run p e below F (T.setTop (mkF m pc Ls (.int y :: .int x :: rest))) := by
  subst hp
  exact Run.via (fun _ q => XS.idiv X.here hx rfl hd rfl hy (by rw [hz]; exact q)) go
theorem q_irem (X : Stand p l e R s m args below meth c T locs cells slots) (hx : p.tables.exec = Jvm.exec) {x y z : Int32} (hd : decode c.code pc = .ok (.irem, 1)) (hy : y ≠ 0) (hz : x % y = z) (hp : pc + 1 = pc') (go : Run p e below F (T.setTop (mkF m pc' Ls (.int z :: rest)))) : Run p e below F (T.setTop (mkF m pc Ls (.int y :: .int x :: rest))) := by
  subst hp
  exact Run.via (fun _ q => iremM X hx rfl hd rfl hy (by rw [hz]; exact q)) go
theorem q_iinc (X : Stand p l e R s m args below meth c T locs cells slots) (hx : p.tables.exec = Jvm.exec) {k : Nat} {i : Int} {x : Int32} {l' : Array Slot} (hd : decode c.code pc = .ok (.iinc k i, 3)) (hl : Ls[k]? = some (.val (.int x))) (hl' : storeLocals Ls k (.int (x + Int32.ofInt i)) = some l') (hp : pc + 3 = pc') (go : Run p e below F (T.setTop (mkF m pc' l' rest))) : Run p e below F (T.setTop (mkF m pc Ls rest)) := by
  subst hp
  exact Run.via (fun _ q => XS.iinc X.here hx rfl hd hl hl' q) go
theorem q_dup (X : Stand p l e R s m args below meth c T locs cells slots) (hx : p.tables.exec = Jvm.exec) {x : Value} (hd : decode c.code pc = .ok (.dup, 1)) (hc : x.category = 1) (hp : pc + 1 = pc') (go : Run p e below F (T.setTop (mkF m pc' Ls (x :: x :: rest)))) : Run p e below F (T.setTop (mkF m pc Ls (x :: rest))) := by
  subst hp
  exact Run.via (fun _ q => XS.dup X.here hx rfl hd rfl hc q) go
theorem q_dupX1 (X : Stand p l e R s m args below meth c T locs cells slots) (hx : p.tables.exec = Jvm.exec) {x y : Value} (hd : decode c.code pc = .ok (.dup_x1, 1)) (hc : x.category = 1) (hc' : y.category = 1) (hp : pc + 1 = pc') (go : Run p e below F (T.setTop (mkF m pc' Ls (x :: y :: x :: rest)))) : Run p e below F (T.setTop (mkF m pc Ls (x :: y :: rest))) := by
  subst hp
  exact Run.via (fun _ q => XS.dupX1 X.here hx rfl hd rfl hc hc' q) go
theorem q_pop (X : Stand p l e R s m args below meth c T locs cells slots) (hx : p.tables.exec = Jvm.exec) {x : Value} (hd : decode c.code pc = .ok (.pop, 1)) (hc : x.category = 1) (hp : pc + 1 = pc') (go : Run p e below F (T.setTop (mkF m pc' Ls rest))) : Run p e below F (T.setTop (mkF m pc Ls (x :: rest))) := by
  subst hp
  exact Run.via (fun _ q => XS.pop X.here hx rfl hd rfl hc q) go
theorem q_goto (X : Stand p l e R s m args below meth c T locs cells slots) (hx : p.tables.exec = Jvm.exec) {o : Int} (hd : decode c.code pc = .ok (.goto o, 3))  (ho : 0 ≤ (pc : Int) + o) (hp : ((pc : Int) + o).toNat = pc') (go : Run p e below F (T.setTop (mkF m pc' Ls rest))) : Run p e below F (T.setTop (mkF m pc Ls rest)) := by
  subst hp
  exact Run.via (fun _ q => XS.goto X.here hx rfl rfl hd ho rfl q) go
theorem q_ifYes (X : Stand p l e R s m args below meth c T locs cells slots) (hx : p.tables.exec = Jvm.exec) {cd : ClassFile.Cond} {x : Int32} {o : Int} (hd : decode c.code pc = .ok (.ifCond cd o, 3)) (hc : ifCond.holds cd x = true) (ho : 0 ≤ (pc : Int) + o) (hp : ((pc : Int) + o).toNat = pc') (go : Run p e below F (T.setTop (mkF m pc' Ls rest))) : Run p e below F (T.setTop (mkF m pc Ls (.int x :: rest))) := by
  subst hp
  exact Run.via (fun _ q => XS.ifYes X.here hx rfl rfl hd rfl hc ho rfl q) go
theorem q_ifNo (X : Stand p l e R s m args below meth c T locs cells slots) (hx : p.tables.exec = Jvm.exec) {cd : ClassFile.Cond} {x : Int32} {o : Int} (hd : decode c.code pc = .ok (.ifCond cd o, 3)) (hc : ifCond.holds cd x = false) (hp : pc + 3 = pc') (go : Run p e below F (T.setTop (mkF m pc' Ls rest))) : Run p e below F (T.setTop (mkF m pc Ls (.int x :: rest))) := by
  subst hp
  exact Run.via (fun _ q => XS.ifNo X.here hx rfl hd rfl hc q) go
theorem q_icmpYes (X : Stand p l e R s m args below meth c T locs cells slots) (hx : p.tables.exec = Jvm.exec) {cd : ClassFile.Cond} {x y : Int32} {o : Int} (hd : decode c.code pc = .ok (.if_icmp cd o, 3)) (hc : if_icmp.holds cd x y = true) (ho : 0 ≤ (pc : Int) + o) (hp : ((pc : Int) + o).toNat = pc') (go : Run p e below F (T.setTop (mkF m pc' Ls rest))) : Run p e below F (T.setTop (mkF m pc Ls (.int y :: .int x :: rest))) := by
  subst hp
  exact Run.via (fun _ q => XS.icmpYes X.here hx rfl rfl hd rfl hc ho rfl q) go
theorem q_icmpNo (X : Stand p l e R s m args below meth c T locs cells slots) (hx : p.tables.exec = Jvm.exec) {cd : ClassFile.Cond} {x y : Int32} {o : Int} (hd : decode c.code pc = .ok (.if_icmp cd o, 3)) (hc : if_icmp.holds cd x y = false) (hp : pc + 3 = pc') (go : Run p e below F (T.setTop (mkF m pc' Ls rest))) : Run p e below F (T.setTop (mkF m pc Ls (.int y :: .int x :: rest))) := by
  subst hp
  exact Run.via (fun _ q => XS.icmpNo X.here hx rfl hd rfl hc q) go
theorem q_ifnullYes (X : Stand p l e R s m args below meth c T locs cells slots) (hx : p.tables.exec = Jvm.exec) {o : Int} (hd : decode c.code pc = .ok (.ifnull o, 3))  (ho : 0 ≤ (pc : Int) + o) (hp : ((pc : Int) + o).toNat = pc') (go : Run p e below F (T.setTop (mkF m pc' Ls rest))) : Run p e below F (T.setTop (mkF m pc Ls (.null :: rest))) := by
  subst hp
  exact Run.via (fun _ q => XS.ifnullYes X.here hx rfl rfl hd rfl ho rfl q) go
theorem q_ifnullNo (X : Stand p l e R s m args below meth c T locs cells slots) (hx : p.tables.exec = Jvm.exec) {o : Int} {b : Addr} (hd : decode c.code pc = .ok (.ifnull o, 3))  (hp : pc + 3 = pc') (go : Run p e below F (T.setTop (mkF m pc' Ls rest))) : Run p e below F (T.setTop (mkF m pc Ls (.ref b :: rest))) := by
  subst hp
  exact Run.via (fun _ q => XS.ifnullNo X.here hx rfl hd rfl q) go
theorem q_ifnonnullYes (X : Stand p l e R s m args below meth c T locs cells slots) (hx : p.tables.exec = Jvm.exec) {o : Int} {b : Addr} (hd : decode c.code pc = .ok (.ifnonnull o, 3))  (ho : 0 ≤ (pc : Int) + o) (hp : ((pc : Int) + o).toNat = pc') (go : Run p e below F (T.setTop (mkF m pc' Ls rest))) : Run p e below F (T.setTop (mkF m pc Ls (.ref b :: rest))) := by
  subst hp
  exact Run.via (fun _ q => XS.ifnonnullYes X.here hx rfl rfl hd rfl ho rfl q) go
theorem q_ifnonnullNo (X : Stand p l e R s m args below meth c T locs cells slots) (hx : p.tables.exec = Jvm.exec) {o : Int} (hd : decode c.code pc = .ok (.ifnonnull o, 3))  (hp : pc + 3 = pc') (go : Run p e below F (T.setTop (mkF m pc' Ls rest))) : Run p e below F (T.setTop (mkF m pc Ls (.null :: rest))) := by
  subst hp
  exact Run.via (fun _ q => XS.ifnonnullNo X.here hx rfl hd rfl q) go
theorem q_acmp (X : Stand p l e R s m args below meth c T locs cells slots) (hx : p.tables.exec = Jvm.exec) {cd : ACond} {x y : Value} {o : Int} (hd : decode c.code pc = .ok (.if_acmp cd o, 3)) (h1 : x.isRef = true) (h2 : y.isRef = true) {same : Bool} (hq : decide (x = y) = same) (ho : 0 ≤ (pc : Int) + o) (hp : pc' = if acV cd same = true then ((pc : Int) + o).toNat else pc + 3) (go : Run p e below F (T.setTop (mkF m pc' Ls rest))) : Run p e below F (T.setTop (mkF m pc Ls (y :: x :: rest))) :=
  Run.via (fun _ q => Jvm.RoadKit.acmp X hx rfl h1 h2 rfl hd rfl hq ho hp q) go
theorem q_ldc (X : Stand p l e R s m args below meth c T locs cells slots) (hx : p.tables.exec = Jvm.exec) (hZ : Z.Warmed39 s.vm) {own : String} {index : Nat} (hown : s.vm.findClass own = some m.cls) {v : Int32} (hd : decode c.code pc = .ok (.ldc index, 2)) (w : (Cond.constant own index v).before a0 Z = true) (hp : pc + 2 = pc') (go : Run p e below F (T.setTop (mkF m pc' Ls (.int v :: rest)))) : Run p e below F (T.setTop (mkF m pc Ls rest)) := by
  subst hp
  exact Run.via (X.ldcInt hx hown (mvT hZ w) (g := mkF m pc Ls rest) rfl hd) go
theorem q_getS (X : Stand p l e R s m args below meth c T locs cells slots) (hx : p.tables.exec = Jvm.exec) (hZ : Z.Warmed39 s.vm) {own : String} {index : Nat} (hown : s.vm.findClass own = some m.cls) {R0 n d host : String} {v : Value} (hd : decode c.code pc = .ok (.getstatic index, 3)) (w : (Cond.fieldLink own index R0 n d).before a0 Z = true ∨ (Cond.fieldLinkNest own index R0 n d host).before a0 Z = true) (eT : T.heap = h) (Fs : Sta Z h R0 n d v) (hp : pc + 3 = pc') (go : ∀ T', Stand p l e R s m args below meth c T' locs cells slots → T'.heap = h → Run p e below F (T'.setTop (mkF m pc' Ls (v :: rest)))) : Run p e below F (T.setTop (mkF m pc Ls rest)) := by
  subst hp
  obtain ⟨T', X', e', st⟩ := getS2 X hx hZ hown w Via.refl eT Fs (g := mkF m pc Ls rest) rfl hd
  exact Run.via st (go T' X' e')
theorem q_getF (X : Stand p l e R s m args below meth c T locs cells slots) (hx : p.tables.exec = Jvm.exec) (hZ : Z.Warmed39 s.vm) {own : String} {index : Nat} (hown : s.vm.findClass own = some m.cls) {R0 n d host : String} {a : Addr} {v : Value} (hd : decode c.code pc = .ok (.getfield index, 3)) (w : (Cond.fieldLink own index R0 n d).before a0 Z = true ∨ (Cond.fieldLinkNest own index R0 n d host).before a0 Z = true) (eT : T.heap = h) (Fs : Fld Z h a R0 n d v) (hp : pc + 3 = pc') (go : ∀ T', Stand p l e R s m args below meth c T' locs cells slots → T'.heap = h → Run p e below F (T'.setTop (mkF m pc' Ls (v :: rest)))) : Run p e below F (T.setTop (mkF m pc Ls (.ref a :: rest))) := by
  subst hp
  obtain ⟨T', X', e', st⟩ := getF X hx hZ hown w Via.refl eT Fs (g := mkF m pc Ls (.ref a :: rest)) rfl rfl hd
  exact Run.via st (go T' X' e')
theorem q_putF (X : Stand p l e R s m args below meth c T locs cells slots) (hx : p.tables.exec = Jvm.exec) (hZ : Z.Warmed39 s.vm) {own : String} {index : Nat} (hown : s.vm.findClass own = some m.cls) {R0 n d host C : String} {kk : Nat} {ty : FieldType} {a : Addr} {v old : Value} (hd : decode c.code pc = .ok (.putfield index, 3)) (w : (Cond.fieldLink own index R0 n d).before a0 Z = true ∨ (Cond.fieldLinkNest own index R0 n d host).before a0 Z = true) (eT : T.heap = h) (Fs : Fld Z h a R0 n d old) (E : Exa Z h a C) (Lw : (Cond.lays C R0 n d).before a0 Z = true ∨ ((Cond.laysFinal C R0 n d).before a0 Z = true ∧ own = R0 ∧ meth.name = "<init>")) (wi : (Cond.instantiable C kk).before a0 Z = true) (hty : parseFieldDescriptor d = some ty) (hn : narrow ty v = v) (hf : fits ty v = true) (hp : pc + 3 = pc') (go : ∀ T' h', Stand p l e R s m args below meth c T' (locs ++ [⟨a, Jvm.RoadKit.slotOf Z R0 n d⟩]) cells slots → T'.heap = h' → Wr h h' a (Jvm.RoadKit.slotOf Z R0 n d) v → Run p e below F (T'.setTop (mkF m pc' Ls rest))) : Run p e below F (T.setTop (mkF m pc Ls (v :: .ref a :: rest))) := by
  subst hp
  obtain ⟨T', h', X', e', W, st⟩ := putF X hx hZ hown w Via.refl eT Fs E Lw wi hty hn hf (g := mkF m pc Ls (v :: .ref a :: rest)) rfl rfl hd
  exact Run.via st (go T' h' X' e' W)
theorem q_putFN (X : Stand p l e R s m args below meth c T locs cells slots) (hx : p.tables.exec = Jvm.exec) (hZ : Z.Warmed39 s.vm) {own : String} {index : Nat} (hown : s.vm.findClass own = some m.cls) {R0 n d C : String} {kk : Nat} {ty : FieldType} {a : Addr} {v v' old : Value} (hd : decode c.code pc = .ok (.putfield index, 3)) (w : (Cond.fieldLink own index R0 n d).before a0 Z = true) (eT : T.heap = h) (Fs : Fld Z h a R0 n d old) (E : Exa Z h a C) (Lw : (Cond.lays C R0 n d).before a0 Z = true ∨ ((Cond.laysFinal C R0 n d).before a0 Z = true ∧ own = R0 ∧ meth.name = "<init>")) (wi : (Cond.instantiable C kk).before a0 Z = true) (hty : parseFieldDescriptor d = some ty) (hn : narrow ty v = v') (hf : fits ty v' = true) (hp : pc + 3 = pc') (go : ∀ T' h', Stand p l e R s m args below meth c T' (locs ++ [⟨a, Jvm.RoadKit.slotOf Z R0 n d⟩]) cells slots → T'.heap = h' → Wr h h' a (Jvm.RoadKit.slotOf Z R0 n d) v' → Run p e below F (T'.setTop (mkF m pc' Ls rest))) : Run p e below F (T.setTop (mkF m pc Ls (v :: .ref a :: rest))) := by
  subst hp
  obtain ⟨T', h', X', e', W, st⟩ := putFN X hx hZ hown w Via.refl eT Fs E Lw wi hty hn hf (g := mkF m pc Ls (v :: .ref a :: rest)) rfl rfl hd
  exact Run.via st (go T' h' X' e' W)
theorem q_new (X : Stand p l e R s m args below meth c T locs cells slots) (hx : p.tables.exec = Jvm.exec) (hZ : Z.Warmed39 s.vm) {own : String} {index : Nat} (hown : s.vm.findClass own = some m.cls) {C : String} {n : Nat} (hd : decode c.code pc = .ok (.new index, 3)) (w : (Cond.classLink own index C).before a0 Z = true) (wi : (Cond.instantiable C n).before a0 Z = true) (wz : (Cond.initialized C).before a0 Z = true) (eT : T.heap = h) (hc : cells + 1 ≤ R.cells) (hl : slots + n ≤ R.slots) (hp : pc + 3 = pc') (go : ∀ T' h' b, Stand p l e R s m args below meth c T' locs (cells + 1) (slots + n) → T'.heap = h' → Ext h h' → b = h.size → Exa Z h' b C → (∀ {O nm d : String} {ty : FieldType}, Laid Z a0 C O nm d → parseFieldDescriptor d = some ty → Fld Z h' b O nm d (defaultValue ty)) → Run p e below F (T'.setTop (mkF m pc' Ls (.ref b :: rest)))) : Run p e below F (T.setTop (mkF m pc Ls rest)) := by
  subst hp
  obtain ⟨T', h', X', e', E, A, D, -, st⟩ := newO X hx hZ hown w wi wz eT (g := mkF m pc Ls rest) rfl hd hc hl
  exact Run.via st (go T' h' _ X' e' E rfl A D)
theorem q_anew (X : Stand p l e R s m args below meth c T locs cells slots) (hx : p.tables.exec = Jvm.exec) (hZ : Z.Warmed39 s.vm) {own : String} {index : Nat} (hown : s.vm.findClass own = some m.cls) {C : String} {z : Int32} {cap : Nat} (hd : decode c.code pc = .ok (.anewarray index, 3)) (w1 : (Cond.classLink own index C).before a0 Z = true) (w2 : (Cond.arrayOver (.object C)).before a0 Z = true) (eT : T.heap = h) (hn : ¬ z < 0) (hcap : z.toNatClampNeg ≤ cap) (hb : cap * 8 ≤ 536870912) (hc : cells + 1 ≤ R.cells) (hl : slots + cap ≤ R.slots) (hp : pc + 3 = pc') (go : ∀ T' h' b cA, Stand p l e R s m args below meth c T' locs (cells + 1) (slots + cap) → T'.heap = h' → Ext h h' → b = h.size → Arr Z h' b (newA cA (.object C) z) (.object C) → Ovr Z cA C → Run p e below F (T'.setTop (mkF m pc' Ls (.ref b :: rest)))) : Run p e below F (T.setTop (mkF m pc Ls (.int z :: rest))) := by
  subst hp
  obtain ⟨T', h', cA, X', e', E, A, O, st⟩ := newR X hx hZ hown w1 w2 eT (g := mkF m pc Ls (.int z :: rest)) rfl hd rfl hn hcap hb hc hl
  exact Run.via st (go T' h' _ cA X' e' E rfl A O)
theorem q_cast (X : Stand p l e R s m args below meth c T locs cells slots) (hx : p.tables.exec = Jvm.exec) (hZ : Z.Warmed39 s.vm) {own : String} {index : Nat} (hown : s.vm.findClass own = some m.cls) {K : String} {v : Value} (hd : decode c.code pc = .ok (.checkcast index, 3)) (w : (Cond.classLink own index K).before a0 Z = true) (eT : T.heap = h) (B : v = .null ∨ ∃ r, v = .ref r ∧ Ins Z h r K true) (hp : pc + 3 = pc') (go : ∀ T', Stand p l e R s m args below meth c T' locs cells slots → T'.heap = h → Run p e below F (T'.setTop (mkF m pc' Ls (v :: rest)))) : Run p e below F (T.setTop (mkF m pc Ls (v :: rest))) := by
  subst hp
  obtain ⟨T', X', e', st⟩ := castVV X hx hZ hown w eT B (g := mkF m pc Ls (v :: rest)) rfl rfl hd
  exact Run.via st (go T' X' e')
theorem q_aald (X : Stand p l e R s m args below meth c T locs cells slots) (hx : p.tables.exec = Jvm.exec) (hZ : Z.Warmed39 s.vm) {a : Addr} {k : ClassId} {ty : FieldType} {z j : Int32} {vs : List Value} {dv v : Value} (hd : decode c.code pc = .ok (.aaload, 1)) (eT : T.heap = h) (A : Arv Z h a k ty z vs dv) (hty : ty.isReference = true) (hj : ¬ j < 0 ∧ j < z) (hv : vs.getD j.toNatClampNeg dv = v) (hp : pc + 1 = pc') (go : Run p e below F (T.setTop (mkF m pc' Ls (v :: rest)))) : Run p e below F (T.setTop (mkF m pc Ls (.int j :: .ref a :: rest))) := by
  subst hp
  exact Run.via (aaldV X hx hZ eT A hty hj hv (g := mkF m pc Ls (.int j :: .ref a :: rest)) rfl rfl hd) go
theorem q_len (X : Stand p l e R s m args below meth c T locs cells slots) (hx : p.tables.exec = Jvm.exec) (hZ : Z.Warmed39 s.vm) {a : Addr} {k : ClassId} {ty : FieldType} {z : Int32} {vs : List Value} {dv : Value} (hd : decode c.code pc = .ok (.arraylength, 1)) (eT : T.heap = h) (A : Arv Z h a k ty z vs dv) (hp : pc + 1 = pc') (go : Run p e below F (T.setTop (mkF m pc' Ls (.int z :: rest)))) : Run p e below F (T.setTop (mkF m pc Ls (.ref a :: rest))) := by
  subst hp
  exact Run.via (lenV X hx hZ eT A (g := mkF m pc Ls (.ref a :: rest)) rfl rfl hd) go
theorem q_aast (X : Stand p l e R s m args below meth c T locs cells slots) (hx : p.tables.exec = Jvm.exec) (hZ : Z.Warmed39 s.vm) {a : Addr} {k : ClassId} {ty : FieldType} {z j : Int32} {vs : List Value} {dv v : Value} (hd : decode c.code pc = .ok (.aastore, 1)) (eT : T.heap = h) (A : Arv Z h a k ty z vs dv) (hty : ty.isReference = true) (hj : ¬ j < 0 ∧ j < z) {i : Nat} (hi : j.toNatClampNeg = i) (hlen : i < vs.length) (Fs : ∀ cl, Arr Z h a cl ty → cl.cls = k → Sto Z h a v) (hfit : fits ty v = true) (hp : pc + 1 = pc') (go : ∀ T' h', Stand p l e R s m args below meth c T' (locs ++ [⟨a, j.toNatClampNeg⟩]) cells slots → T'.heap = h' → Wr h h' a j.toNatClampNeg v → Arv Z h' a k ty z (vs.set i v) dv → Run p e below F (T'.setTop (mkF m pc' Ls rest))) : Run p e below F (T.setTop (mkF m pc Ls (v :: .int j :: .ref a :: rest))) := by
  subst hp
  obtain ⟨T', h', X', e', W, A', st⟩ := aastV X hx hZ eT A hty hj hi hlen Fs hfit (g := mkF m pc Ls (v :: .int j :: .ref a :: rest)) rfl rfl hd
  exact Run.via st (go T' h' X' e' W A')
theorem q_initO (X : Stand p l e R s m args below meth c T locs cells slots) (hx : p.tables.exec = Jvm.exec) (hZ : Z.Warmed39 s.vm) {own : String} {index : Nat} (hown : s.vm.findClass own = some m.cls) {a : Addr} (hd : decode c.code pc = .ok (.invokespecial index, 3)) (w1 : (Cond.methodLink own index Lib.objectInit).before a0 Z = true) (w2 : (Cond.instanceMethod Lib.objectInit).before a0 Z = true) (w3 : (Cond.code Lib.objectInit ⟨#[0xb1]⟩ 1 none).before a0 Z = true) (eT : T.heap = h) (hsize : Ls.size = c.maxLocals) (hf : 1 ≤ R.frames) {W : Nat} (hW : (rest.map fun v => v.category).sum = W) (hl : W + 12 ≤ R.locals) (hp : pc + 3 = pc') (go : ∀ T', Stand p l e R s m args below meth c T' locs cells slots → T'.heap = h → Run p e below F (T'.setTop (mkF m pc' Ls rest))) : Run p e below F (T.setTop (mkF m pc Ls (.ref a :: rest))) := by
  subst hp
  obtain ⟨T', X', e', st⟩ := initO X hx hZ hown w1 w2 w3 eT (g := mkF m pc Ls (.ref a :: rest)) rfl hsize rfl hd hf (W := W) (by show 2 * 0 + _ ≤ _; omega) hl
  exact Run.via st (go T' X' e')
theorem q_callC (X : Stand p l e R s m args below meth c T locs cells slots) (hx : p.tables.exec = Jvm.exec) (hZ : Z.Warmed39 s.vm) {own : String} {index : Nat} (hown : s.vm.findClass own = some m.cls) {y : MethodName} {bytes : ByteArray} {maxL : Nat} {rm : Room} {P : Option Value → Heap → List Loc → Prop} {ret : Option FieldType} (hd : decode c.code pc = .ok (.invokestatic index, 3)) (w1 : (Cond.methodLink own index y).before a0 Z = true) (w2 : (Cond.static y).before a0 Z = true) (w3 : (Cond.initialized y.cls).before a0 Z = true) (w4 : (Cond.code y bytes maxL ret).before a0 Z = true) (hy : y.cls ≠ "java/lang/invoke/MethodHandle" ∧ y.cls ≠ "java/lang/invoke/VarHandle") (eT : T.heap = h) (argsL : List Value) (K : Ctr l Z y bytes maxL ret rm argsL.toArray h P) (hsize : Ls.size = c.maxLocals) (hlen : ∀ sig, parseMethodDescriptor y.desc = some sig → argsL.length = sig.parameters.length) {W : Nat} (hW : (rest.map fun v => v.category).sum = W) (hf : rm.frames + 1 ≤ R.frames) (hl : W + (maxL + 11) + rm.locals ≤ R.locals) (hc : cells + rm.cells ≤ R.cells) (hsl : slots + rm.slots ≤ R.slots) (hp : pc + 3 = pc') (go : ∀ v T' L, Stand p l e R s m args below meth c T' (locs ++ L) (cells + rm.cells) (slots + rm.slots) → P v T'.heap L → Run p e below F (T'.setTop (mkF m pc' Ls (v.toList ++ rest)))) : Run p e below F (T.setTop (mkF m pc Ls (argsL.reverse ++ rest))) := by
  subst hp
  obtain ⟨v, T', L, X', q, st⟩ := callC X hx hZ hown w1 w2 w3 w4 hy eT (argsL := argsL) (rest := rest) K (g := mkF m pc Ls (argsL.reverse ++ rest)) rfl hsize rfl hd hlen (W := W) (by show 2 * 0 + _ ≤ _; omega) hf hl hc hsl
  exact Run.via st (go v T' L X' q)
theorem q_callV (X : Stand p l e R s m args below meth c T locs cells slots) (hx : p.tables.exec = Jvm.exec) (hZ : Z.Warmed39 s.vm) {own : String} {index : Nat} (hown : s.vm.findClass own = some m.cls) {y : MethodName} {bytes : ByteArray} {maxL : Nat} {rm : Room} {P : Option Value → Heap → List Loc → Prop} {ret : Option FieldType} {C : String} {b : Addr} (hd : decode c.code pc = .ok (.invokevirtual index, 3)) (w1 : (Cond.methodLink own index y).before a0 Z = true) (w2 : (Cond.declares y).before a0 Z = true) (w5 : (Cond.selects C y y).before a0 Z = true) (w6 : (Cond.instanceMethod y).before a0 Z = true) (w3 : (Cond.initialized y.cls).before a0 Z = true) (w4 : (Cond.code y bytes maxL ret).before a0 Z = true) (hy : y.cls ≠ "java/lang/invoke/MethodHandle" ∧ y.cls ≠ "java/lang/invoke/VarHandle") (eT : T.heap = h) (E : Exa Z h b C) (argsL : List Value) (K : Ctr l Z y bytes maxL ret rm (.ref b :: argsL).toArray h P) (hsize : Ls.size = c.maxLocals) (hlen : ∀ sig, parseMethodDescriptor y.desc = some sig → argsL.length = sig.parameters.length) {W : Nat} (hW : (rest.map fun v => v.category).sum = W) (hf : rm.frames + 1 ≤ R.frames) (hl : W + (maxL + 11) + rm.locals ≤ R.locals) (hc : cells + rm.cells ≤ R.cells) (hsl : slots + rm.slots ≤ R.slots) (hp : pc + 3 = pc') (go : ∀ v T' L, Stand p l e R s m args below meth c T' (locs ++ L) (cells + rm.cells) (slots + rm.slots) → P v T'.heap L → Run p e below F (T'.setTop (mkF m pc' Ls (v.toList ++ rest)))) : Run p e below F (T.setTop (mkF m pc Ls (argsL.reverse ++ .ref b :: rest))) := by
  subst hp
  obtain ⟨v, T', L, X', q, st⟩ := callV X hx hZ hown w1 w2 w5 w6 w3 w4 hy eT E (argsL := argsL) (rest := rest) K (g := mkF m pc Ls (argsL.reverse ++ .ref b :: rest)) rfl hsize rfl hd hlen (W := W) (by show 2 * 0 + _ ≤ _; omega) hf hl hc hsl
  exact Run.via st (go v T' L X' q)
theorem q_callN (X : Stand p l e R s m args below meth c T locs cells slots) (hx : p.tables.exec = Jvm.exec) (hZ : Z.Warmed39 s.vm) {own : String} {index : Nat} (hown : s.vm.findClass own = some m.cls) {y : MethodName} {bytes : ByteArray} {maxL : Nat} {rm : Room} {P : Option Value → Heap → List Loc → Prop} {b : Addr} (hd : decode c.code pc = .ok (.invokespecial index, 3)) (hy1 : y.name = "<init>") (w1 : (Cond.methodLink own index y).before a0 Z = true) (w6 : (Cond.instanceMethod y).before a0 Z = true) (w3 : (Cond.initialized y.cls).before a0 Z = true) (w4 : (Cond.code y bytes maxL none).before a0 Z = true) (hy : y.cls ≠ "java/lang/invoke/MethodHandle" ∧ y.cls ≠ "java/lang/invoke/VarHandle") (eT : T.heap = h) (argsL : List Value) (K : Ctr l Z y bytes maxL none rm (.ref b :: argsL).toArray h P) (hsize : Ls.size = c.maxLocals) (hlen : ∀ sig, parseMethodDescriptor y.desc = some sig → argsL.length = sig.parameters.length) {W : Nat} (hW : (rest.map fun v => v.category).sum = W) (hf : rm.frames + 1 ≤ R.frames) (hl : W + (maxL + 11) + rm.locals ≤ R.locals) (hc : cells + rm.cells ≤ R.cells) (hsl : slots + rm.slots ≤ R.slots) (hp : pc + 3 = pc') (go : ∀ v T' L, Stand p l e R s m args below meth c T' (locs ++ L) (cells + rm.cells) (slots + rm.slots) → P v T'.heap L → Run p e below F (T'.setTop (mkF m pc' Ls (v.toList ++ rest)))) : Run p e below F (T.setTop (mkF m pc Ls (argsL.reverse ++ .ref b :: rest))) := by
  subst hp
  obtain ⟨v, T', L, X', q, st⟩ := callN X hx hZ hy1 hown w1 w6 w3 w4 hy eT (argsL := argsL) (rest := rest) K (g := mkF m pc Ls (argsL.reverse ++ .ref b :: rest)) rfl hsize rfl hd hlen (W := W) (by show 2 * 0 + _ ≤ _; omega) hf hl hc hsl
  exact Run.via st (go v T' L X' q)
theorem q_callP (X : Stand p l e R s m args below meth c T locs cells slots) (hx : p.tables.exec = Jvm.exec) (hZ : Z.Warmed39 s.vm) {own : String} {index : Nat} (hown : s.vm.findClass own = some m.cls) {y : MethodName} {bytes : ByteArray} {maxL : Nat} {rm : Room} {P : Option Value → Heap → List Loc → Prop} {ret : Option FieldType} {C : String} {b : Addr} {nn : Nat} (hd : decode c.code pc = .ok (.invokevirtual index, 3)) (w1 : (Cond.methodLink own index y).before a0 Z = true) (w6 : (Cond.instanceMethod y).before a0 Z = true) (w7 : (Cond.privateMethod y).before a0 Z = true) (w8 : (Cond.instantiable y.cls nn).before a0 Z = true) (w3 : (Cond.initialized y.cls).before a0 Z = true) (w4 : (Cond.code y bytes maxL ret).before a0 Z = true) (hy : y.cls ≠ "java/lang/invoke/MethodHandle" ∧ y.cls ≠ "java/lang/invoke/VarHandle") (eT : T.heap = h) (E : Exa Z h b C) (argsL : List Value) (K : Ctr l Z y bytes maxL ret rm (.ref b :: argsL).toArray h P) (hsize : Ls.size = c.maxLocals) (hlen : ∀ sig, parseMethodDescriptor y.desc = some sig → argsL.length = sig.parameters.length) {W : Nat} (hW : (rest.map fun v => v.category).sum = W) (hf : rm.frames + 1 ≤ R.frames) (hl : W + (maxL + 11) + rm.locals ≤ R.locals) (hc : cells + rm.cells ≤ R.cells) (hsl : slots + rm.slots ≤ R.slots) (hp : pc + 3 = pc') (go : ∀ v T' L, Stand p l e R s m args below meth c T' (locs ++ L) (cells + rm.cells) (slots + rm.slots) → P v T'.heap L → Run p e below F (T'.setTop (mkF m pc' Ls (v.toList ++ rest)))) : Run p e below F (T.setTop (mkF m pc Ls (argsL.reverse ++ .ref b :: rest))) := by
  subst hp
  obtain ⟨v, T', L, X', q, st⟩ := callP X hx hZ hown w1 w6 w7 w8 w3 w4 hy eT E (argsL := argsL) (rest := rest) K (g := mkF m pc Ls (argsL.reverse ++ .ref b :: rest)) rfl hsize rfl hd hlen (W := W) (by show 2 * 0 + _ ≤ _; omega) hf hl hc hsl
  exact Run.via st (go v T' L X' q)
end Rows
/-! null, or a box that holds p -/
section Boxes
variable {Z : State} {h h' : Heap} {v w : Value} {q : Int32} {a : Addr} {sl : Nat} {ws : List Addr} {a0 : Array Value}
def Box (Z : State) (h : Heap) (v : Value) (q : Int32) : Prop := v = .null ∨ ∃ r, v = .ref r ∧ Exa Z h r "java/lang/Integer" ∧ Fld Z h r "java/lang/Integer" "value" "I" (.int q)
theorem Box.isRef (B : Box Z h v q) : v.isRef = true := by
  rcases B with rfl | ⟨r, rfl, -⟩ <;> rfl
theorem Box.ext (E : Ext h h') (B : Box Z h v q) : Box Z h' v q := by
  rcases B with rfl | ⟨r, rfl, x, f⟩
  · exact Or.inl rfl
  · exact Or.inr ⟨r, rfl, x.ext E, f.ext E⟩
theorem Box.wr (B : Box Z h v q) (W : Wr h h' a sl w) (u : ∀ r, Exa Z h r "java/lang/Integer" → r ≠ a) : Box Z h' v q := by
  rcases B with rfl | ⟨r, rfl, x, f⟩
  · exact Or.inl rfl
  · exact Or.inr ⟨r, rfl, x.wr W, f.other W (Or.inl (u r x))⟩
theorem Box.keep (B : Box Z h v q) (K : Keep h h' ws) (u : ∀ r, Exa Z h r "java/lang/Integer" → r ∉ ws) : Box Z h' v q := by
  rcases B with rfl | ⟨r, rfl, x, f⟩
  · exact Or.inl rfl
  · exact Or.inr ⟨r, rfl, x.keep K, f.keep K (u r x)⟩
theorem Box.ins (B : Box Z h v q) {K : String} (w : (Cond.castable "java/lang/Integer" K).before a0 Z = true) : v = .null ∨ ∃ r, v = .ref r ∧ Ins Z h r K true := by
  rcases B with rfl | ⟨r, rfl, x, f⟩
  · exact Or.inl rfl
  · exact Or.inr ⟨r, rfl, Ins.of_exa x w⟩
theorem Box.at {r : Addr} (B : Box Z h (.ref r) q) : Exa Z h r "java/lang/Integer" ∧ Fld Z h r "java/lang/Integer" "value" "I" (.int q) := by
  rcases B with u | ⟨r', u, x, f⟩
  · cases u
  · cases u
    exact ⟨x, f⟩
theorem sto_ins {c : Cell} {ty : FieldType} {k : ClassId} {C : String} (A : Arr Z h a c ty) (u : c.cls = k) (O : Ovr Z k C) (I : v = .null ∨ ∃ r, v = .ref r ∧ Ins Z h r C true) : Sto Z h a v := by
  rcases I with rfl | ⟨r, rfl, I⟩
  · exact Or.inl rfl
  · exact Sto.ofV A u O I
/-- null, or an old object of the class -/
def OldV (Z : State) (v : Value) (C : String) : Prop := v = .null ∨ ∃ r, v = .ref r ∧ Exa Z Z.heap r C
theorem OldV.isRef {C : String} (B : OldV Z v C) : v.isRef = true := by
  rcases B with rfl | ⟨r, rfl, -⟩ <;> rfl
theorem OldV.ins {C : String} (B : OldV Z v C) (O : Ext Z.heap h) : v = .null ∨ ∃ r, v = .ref r ∧ Ins Z h r C true := by
  rcases B with rfl | ⟨r, rfl, x⟩
  · exact Or.inl rfl
  · exact Or.inr ⟨r, rfl, Ins.self (x.ext O)⟩
end Boxes
/-! from the words of a case to facts at the start -/
section Start
variable {args : Array Value} {s : State} {t u : Term} {a b : Addr} {C n d : String} {k : Int32}
theorem fld_int (ev : t.eval args s none [] s = some (.ref a)) (q : (Cond.eq (Term.field t C n d) (Term.int k)).value args s none s [] = some true) : Fld s s.heap a C n d (.int k) := by
  refine Fld.start ?_
  rw [← fld_at ev (C := C) (n := n) (dd := d)]
  obtain ⟨x, y, e1, e2, k1, k2⟩ := cmp_v (Or.inl q)
  have e3 : (Term.int k).eval args s none [] s = some (.int k) := Term.int_eval k
  rw [e3] at e2
  cases e2
  obtain ⟨z, rfl⟩ := k2
  rw [e1]
  simp [Cond.value, e1, e3] at q
  rw [q]
theorem fld_null (ev : t.eval args s none [] s = some (.ref a)) (q : (Cond.eq (Term.field t C n d) .null).value args s none s [] = some true) : Fld s s.heap a C n d .null := by
  refine Fld.start ?_
  rw [← fld_at ev (C := C) (n := n) (dd := d)]
  exact null_v q
theorem fld_ref (ev : t.eval args s none [] s = some (.ref a)) (ev2 : u.eval args s none [] s = some (.ref b)) (q : (Cond.eq (Term.field t C n d) u).value args s none s [] = some true) : Fld s s.heap a C n d (.ref b) := by
  refine Fld.start ?_
  rw [← fld_at ev (C := C) (n := n) (dd := d)]
  obtain ⟨x, y, e1, e2, k1, k2⟩ := cmp_v (Or.inl q)
  rw [ev2] at e2
  cases e2
  have hx : x.isRef = true := by
    obtain ⟨-, r⟩ := k2
    exact r
  rw [e1]
  have := gotT (eq_R e1 ev2 hx rfl) q
  rw [this]
theorem eqv_r {X : Term} (ev2 : u.eval args s none [] s = some (.ref b)) (q : (Cond.eq X u).value args s none s [] = some true) : X.eval args s none [] s = some (.ref b) := by
  obtain ⟨x, y, e1, e2, k1, k2⟩ := cmp_v (Or.inl q)
  rw [ev2] at e2
  cases e2
  have hx : x.isRef = true := by
    obtain ⟨-, r⟩ := k2
    exact r
  rw [e1, gotT (eq_R e1 ev2 hx rfl) q]
theorem elem_start {c : Cell} {X : Term} {j : Int32} {v : Value} (ev : t.eval args s none [] s = some (.ref a)) (A : s.heap[a]? = some c) (q : (Term.elem t (Term.int j)).eval args s none [] s = some v) : c.slots[j.toNatClampNeg]? = some v :=
  (elem_in q ev (Term.int_eval j) A).2
theorem len_start {c : Cell} {ty : FieldType} {z : Int32} (et : t.eval args s none [] s = some (.ref a)) (A : Arr s s.heap a c ty) (q : (Cond.eq (Term.length t) (Term.int z)).value args s none s [] = some true) : c.slots.size < 2 ^ 31 ∧ c.slots.size.toInt32 = z := by
  have ev := eqv_i (Term.int_eval z) q
  have ha := A.fin (Vm.Alike.refl _)
  simp only [Term.eval, et, ha, Option.bind_eq_bind, Option.bind_some, Option.pure_def] at ev
  by_cases r : c.slots.size < 2 ^ 31
  · rw [if_pos r] at ev
    refine ⟨r, ?_⟩
    cases ev
    rfl
  · rw [if_neg r] at ev
    cases ev
theorem cache_start {c : Cell} (et : ∀ idx, t.eval args s none idx s = some (.ref a)) (A : Arr s s.heap a c (.object "java/lang/Integer")) (h6 : (Cond.eq (Term.length t) (Term.int 256)).value args s none s [] = some true)
    (h7 : (Cond.all t (.and (.exactly (.elem t (.index 0)) "java/lang/Integer") (.eq (.field (.elem t (.index 0)) "java/lang/Integer" "value" "I") (.sub (.index 0) (.int 128))))).value args s none s [] = some true) : Bxs s a c "java/lang/Integer" "I" 256 (fun j => .int (j - 128)) := by
  obtain ⟨q1, q2⟩ := len_start (et []) A h6
  refine Bxs.start et A q1 q2 (by decide) h7 fun X j nn u => ?_
  have e1 : (Term.sub (.index 0) (.int 128)).eval args s none [j.toNatClampNeg] s = some (.int (j - 128)) := by
    simp [Term.eval, idx_at nn, Term.int_eval, (back32 nn).1]
  exact eqv_i e1 u
theorem arv0_start {c : Cell} {ty : FieldType} (hf : Fit s) (et : t.eval args s none [] s = some (.ref a)) (A : Arr s s.heap a c ty) (q : (Cond.eq (Term.length t) (Term.int 0)).value args s none s [] = some true) : Arv s s.heap a c.cls ty 0 [] .null := by
  obtain ⟨q1, q2⟩ := len_start et A q
  exact Arv.start hf A q1 q2 (by decide) rfl trivial
end Start
theorem cache_idx {p : Int32} (h1 : if_icmp.holds .lt p (-128) = false) (h2 : if_icmp.holds .gt p 127 = false) {c : Cell} (S : c.slots.size = (256 : Int32).toNatClampNeg) : ¬ ((p + 128) < 0 ∨ c.slots.size ≤ (p + 128).toNatClampNeg) := by
  have a1 : ¬ p < -128 := by simpa [if_icmp.holds] using h1
  have a2 : ¬ 127 < p := by simpa [if_icmp.holds] using h2
  have q := c_iadd p 128
  have r1 := rng32 p
  have r2 := rng32 (p + 128)
  have k1 : (-128 : Int32).toInt = -128 := by decide
  have k2 : (127 : Int32).toInt = 127 := by decide
  have k3 : (128 : Int32).toInt = 128 := by decide
  have k4 : (256 : Int32).toInt = 256 := by decide
  have k5 : (0 : Int32).toInt = 0 := by decide
  rw [Int32.lt_iff_toInt_lt] at a1 a2
  refine inb_of S ⟨?_, ?_⟩ <;> rw [Int32.lt_iff_toInt_lt] <;> omega
theorem back128 (p : Int32) : p + 128 - 128 = p := by
  have q := c_iadd p 128
  have q2 := c_isub (p + 128) 128
  have r1 := rng32 p
  have r2 := rng32 (p + 128 - 128)
  refine Int32.toInt_inj.mp ?_
  omega
end Jvm.OwnKit
namespace Jvm.Pilot.@@N@@
open Jvm Jvm.ClassFile Sem Op Lib Jvm.Free Jvm.Stand Jvm.LawKit Jvm.RoadKit Jvm.OwnKit Bundle Jvm.Pilot.@@N@@.Jvm.D
abbrev y0 : MethodName := ⟨"java/lang/Number", "<init>", "()V"⟩
abbrev y1 : MethodName := ⟨"java/lang/Integer", "<init>", "(I)V"⟩
abbrev y2 : MethodName := ⟨"java/lang/Integer", "valueOf", "(I)Ljava/lang/Integer;"⟩
abbrev y3 : MethodName := ⟨"com/example/roundel/roundel/dag/ItemArray", "<init>", "()V"⟩
abbrev y4 : MethodName := ⟨"java/lang/Math", "max", "(II)I"⟩
abbrev y5 : MethodName := ⟨"com/example/roundel/roundel/dag/ItemArray", "size", "()I"⟩
abbrev y6 : MethodName := ⟨"com/example/roundel/roundel/dag/ItemArray", "peek", "()Ljava/lang/Object;"⟩
abbrev y7 : MethodName := ⟨"com/example/roundel/roundel/dag/ItemArrayPollPinLaw", "expected", "(IILjava/lang/Object;Ljava/lang/Object;Ljava/lang/Object;)Ljava/lang/Object;"⟩
abbrev y8 : MethodName := ⟨"com/example/roundel/roundel/dag/ItemArray", "poll", "()Ljava/lang/Object;"⟩
abbrev y9 : MethodName := ⟨"com/example/roundel/roundel/dag/ItemArray", "makeRoom", "(I)V"⟩
abbrev y10 : MethodName := ⟨"com/example/roundel/roundel/dag/ItemArray", "add", "(Ljava/lang/Object;)V"⟩
theorem t0 {a0 : Array Value} {Z : State} (hw : ∀ d ∈ tables_1, d.before a0 Z = true) : (Jvm.Cond.methodLink "com/example/roundel/roundel/dag/ItemArrayPollPinLaw" (7 : Nat) ({ cls := "java/lang/Integer", name := "valueOf", desc := "(I)Ljava/lang/Integer;" } : Jvm.MethodName)).before a0 Z = true := hw _ (List.mem_of_getElem? (i := 0) rfl)
theorem t1 {a0 : Array Value} {Z : State} (hw : ∀ d ∈ tables_1, d.before a0 Z = true) : (Jvm.Cond.static ({ cls := "java/lang/Integer", name := "valueOf", desc := "(I)Ljava/lang/Integer;" } : Jvm.MethodName)).before a0 Z = true := hw _ (List.mem_of_getElem? (i := 1) rfl)
theorem t2 {a0 : Array Value} {Z : State} (hw : ∀ d ∈ tables_1, d.before a0 Z = true) : (Jvm.Cond.initialized "java/lang/Integer").before a0 Z = true := hw _ (List.mem_of_getElem? (i := 2) rfl)
theorem t3 {a0 : Array Value} {Z : State} (hw : ∀ d ∈ tables_1, d.before a0 Z = true) : (Jvm.Cond.code ({ cls := "java/lang/Integer", name := "valueOf", desc := "(I)Ljava/lang/Integer;" } : Jvm.MethodName) jdk_33_method_22_code (1 : Nat) (Option.some (Jvm.ClassFile.FieldType.object "java/lang/Integer"))).before a0 Z = true := hw _ (List.mem_of_getElem? (i := 3) rfl)
theorem t4 {a0 : Array Value} {Z : State} (hw : ∀ d ∈ tables_1, d.before a0 Z = true) : (Jvm.Cond.fieldLink "java/lang/Integer" (191 : Nat) "java/lang/Integer$IntegerCache" "high" "I").before a0 Z = true := hw _ (List.mem_of_getElem? (i := 4) rfl)
theorem t5 {a0 : Array Value} {Z : State} (hw : ∀ d ∈ tables_1, d.before a0 Z = true) : (Jvm.Cond.initialized "java/lang/Integer$IntegerCache").before a0 Z = true := hw _ (List.mem_of_getElem? (i := 5) rfl)
theorem t6 {a0 : Array Value} {Z : State} (hw : ∀ d ∈ tables_1, d.before a0 Z = true) : (Jvm.Cond.fieldLink "java/lang/Integer" (195 : Nat) "java/lang/Integer$IntegerCache" "cache" "[Ljava/lang/Integer;").before a0 Z = true := hw _ (List.mem_of_getElem? (i := 6) rfl)
theorem t7 {a0 : Array Value} {Z : State} (hw : ∀ d ∈ tables_1, d.before a0 Z = true) : (Jvm.Cond.classLink "com/example/roundel/roundel/dag/ItemArrayPollPinLaw" (13 : Nat) "com/example/roundel/roundel/dag/ItemArray").before a0 Z = true := hw _ (List.mem_of_getElem? (i := 7) rfl)
theorem t8 {a0 : Array Value} {Z : State} (hw : ∀ d ∈ tables_1, d.before a0 Z = true) : (Jvm.Cond.instantiable "com/example/roundel/roundel/dag/ItemArray" (4 : Nat)).before a0 Z = true := hw _ (List.mem_of_getElem? (i := 8) rfl)
theorem t9 {a0 : Array Value} {Z : State} (hw : ∀ d ∈ tables_1, d.before a0 Z = true) : (Jvm.Cond.initialized "com/example/roundel/roundel/dag/ItemArray").before a0 Z = true := hw _ (List.mem_of_getElem? (i := 9) rfl)
theorem t10 {a0 : Array Value} {Z : State} (hw : ∀ d ∈ tables_1, d.before a0 Z = true) : (Jvm.Cond.methodLink "com/example/roundel/roundel/dag/ItemArrayPollPinLaw" (15 : Nat) ({ cls := "com/example/roundel/roundel/dag/ItemArray", name := "<init>", desc := "()V" } : Jvm.MethodName)).before a0 Z = true := hw _ (List.mem_of_getElem? (i := 10) rfl)
theorem t11 {a0 : Array Value} {Z : State} (hw : ∀ d ∈ tables_1, d.before a0 Z = true) : (Jvm.Cond.instanceMethod ({ cls := "com/example/roundel/roundel/dag/ItemArray", name := "<init>", desc := "()V" } : Jvm.MethodName)).before a0 Z = true := hw _ (List.mem_of_getElem? (i := 11) rfl)
theorem t12 {a0 : Array Value} {Z : State} (hw : ∀ d ∈ tables_1, d.before a0 Z = true) : (Jvm.Cond.code ({ cls := "com/example/roundel/roundel/dag/ItemArray", name := "<init>", desc := "()V" } : Jvm.MethodName) prog_20_method_1_code (1 : Nat) (Option.none : Option Jvm.ClassFile.FieldType)).before a0 Z = true := hw _ (List.mem_of_getElem? (i := 12) rfl)
theorem t13 {a0 : Array Value} {Z : State} (hw : ∀ d ∈ tables_1, d.before a0 Z = true) : (Jvm.Cond.methodLink "com/example/roundel/roundel/dag/ItemArray" (1 : Nat) ({ cls := "java/lang/Object", name := "<init>", desc := "()V" } : Jvm.MethodName)).before a0 Z = true := hw _ (List.mem_of_getElem? (i := 13) rfl)
theorem t14 {a0 : Array Value} {Z : State} (hw : ∀ d ∈ tables_1, d.before a0 Z = true) : (Jvm.Cond.instanceMethod ({ cls := "java/lang/Object", name := "<init>", desc := "()V" } : Jvm.MethodName)).before a0 Z = true := hw _ (List.mem_of_getElem? (i := 14) rfl)
theorem t15 {a0 : Array Value} {Z : State} (hw : ∀ d ∈ tables_1, d.before a0 Z = true) : (Jvm.Cond.code ({ cls := "java/lang/Object", name := "<init>", desc := "()V" } : Jvm.MethodName) object_method_1_code (1 : Nat) (Option.none : Option Jvm.ClassFile.FieldType)).before a0 Z = true := hw _ (List.mem_of_getElem? (i := 15) rfl)
theorem t16 {a0 : Array Value} {Z : State} (hw : ∀ d ∈ tables_1, d.before a0 Z = true) : (Jvm.Cond.fieldLink "com/example/roundel/roundel/dag/ItemArray" (7 : Nat) "com/example/roundel/roundel/dag/ItemArray" "NO_ITEMS" "[Ljava/lang/Object;").before a0 Z = true := hw _ (List.mem_of_getElem? (i := 16) rfl)
theorem t17 {a0 : Array Value} {Z : State} (hw : ∀ d ∈ tables_1, d.before a0 Z = true) : (Jvm.Cond.laysStatic "com/example/roundel/roundel/dag/ItemArray" "NO_ITEMS" "[Ljava/lang/Object;").before a0 Z = true := hw _ (List.mem_of_getElem? (i := 17) rfl)
theorem t18 {a0 : Array Value} {Z : State} (hw : ∀ d ∈ tables_1, d.before a0 Z = true) : (Jvm.Cond.fieldLink "com/example/roundel/roundel/dag/ItemArray" (13 : Nat) "com/example/roundel/roundel/dag/ItemArray" "items" "[Ljava/lang/Object;").before a0 Z = true := hw _ (List.mem_of_getElem? (i := 18) rfl)
theorem t19 {a0 : Array Value} {Z : State} (hw : ∀ d ∈ tables_1, d.before a0 Z = true) : (Jvm.Cond.lays "com/example/roundel/roundel/dag/ItemArray" "com/example/roundel/roundel/dag/ItemArray" "items" "[Ljava/lang/Object;").before a0 Z = true := hw _ (List.mem_of_getElem? (i := 19) rfl)
theorem t20 {a0 : Array Value} {Z : State} (hw : ∀ d ∈ tables_1, d.before a0 Z = true) : (Jvm.Cond.methodLink "com/example/roundel/roundel/dag/ItemArrayPollPinLaw" (30 : Nat) ({ cls := "java/lang/Math", name := "max", desc := "(II)I" } : Jvm.MethodName)).before a0 Z = true := hw _ (List.mem_of_getElem? (i := 20) rfl)
theorem t21 {a0 : Array Value} {Z : State} (hw : ∀ d ∈ tables_1, d.before a0 Z = true) : (Jvm.Cond.static ({ cls := "java/lang/Math", name := "max", desc := "(II)I" } : Jvm.MethodName)).before a0 Z = true := hw _ (List.mem_of_getElem? (i := 21) rfl)
theorem t22 {a0 : Array Value} {Z : State} (hw : ∀ d ∈ tables_1, d.before a0 Z = true) : (Jvm.Cond.initialized "java/lang/Math").before a0 Z = true := hw _ (List.mem_of_getElem? (i := 22) rfl)
theorem t23 {a0 : Array Value} {Z : State} (hw : ∀ d ∈ tables_1, d.before a0 Z = true) : (Jvm.Cond.code ({ cls := "java/lang/Math", name := "max", desc := "(II)I" } : Jvm.MethodName) jdk_29_method_65_code (2 : Nat) (Option.some Jvm.ClassFile.FieldType.int)).before a0 Z = true := hw _ (List.mem_of_getElem? (i := 23) rfl)
theorem t24 {a0 : Array Value} {Z : State} (hw : ∀ d ∈ tables_1, d.before a0 Z = true) : (Jvm.Cond.methodLink "com/example/roundel/roundel/dag/ItemArrayPollPinLaw" (36 : Nat) ({ cls := "com/example/roundel/roundel/dag/ItemArray", name := "size", desc := "()I" } : Jvm.MethodName)).before a0 Z = true := hw _ (List.mem_of_getElem? (i := 24) rfl)
theorem t25 {a0 : Array Value} {Z : State} (hw : ∀ d ∈ tables_1, d.before a0 Z = true) : (Jvm.Cond.declares ({ cls := "com/example/roundel/roundel/dag/ItemArray", name := "size", desc := "()I" } : Jvm.MethodName)).before a0 Z = true := hw _ (List.mem_of_getElem? (i := 25) rfl)
theorem t26 {a0 : Array Value} {Z : State} (hw : ∀ d ∈ tables_1, d.before a0 Z = true) : (Jvm.Cond.instanceMethod ({ cls := "com/example/roundel/roundel/dag/ItemArray", name := "size", desc := "()I" } : Jvm.MethodName)).before a0 Z = true := hw _ (List.mem_of_getElem? (i := 26) rfl)
theorem t27 {a0 : Array Value} {Z : State} (hw : ∀ d ∈ tables_1, d.before a0 Z = true) : (Jvm.Cond.selects "com/example/roundel/roundel/dag/ItemArray" ({ cls := "com/example/roundel/roundel/dag/ItemArray", name := "size", desc := "()I" } : Jvm.MethodName) ({ cls := "com/example/roundel/roundel/dag/ItemArray", name := "size", desc := "()I" } : Jvm.MethodName)).before a0 Z = true := hw _ (List.mem_of_getElem? (i := 27) rfl)
theorem t28 {a0 : Array Value} {Z : State} (hw : ∀ d ∈ tables_1, d.before a0 Z = true) : (Jvm.Cond.code ({ cls := "com/example/roundel/roundel/dag/ItemArray", name := "size", desc := "()I" } : Jvm.MethodName) prog_20_method_6_code (1 : Nat) (Option.some Jvm.ClassFile.FieldType.int)).before a0 Z = true := hw _ (List.mem_of_getElem? (i := 28) rfl)
theorem t29 {a0 : Array Value} {Z : State} (hw : ∀ d ∈ tables_1, d.before a0 Z = true) : (Jvm.Cond.fieldLink "com/example/roundel/roundel/dag/ItemArray" (20 : Nat) "com/example/roundel/roundel/dag/ItemArray" "end" "I").before a0 Z = true := hw _ (List.mem_of_getElem? (i := 29) rfl)
theorem t30 {a0 : Array Value} {Z : State} (hw : ∀ d ∈ tables_1, d.before a0 Z = true) : (Jvm.Cond.lays "com/example/roundel/roundel/dag/ItemArray" "com/example/roundel/roundel/dag/ItemArray" "end" "I").before a0 Z = true := hw _ (List.mem_of_getElem? (i := 30) rfl)
theorem t31 {a0 : Array Value} {Z : State} (hw : ∀ d ∈ tables_1, d.before a0 Z = true) : (Jvm.Cond.fieldLink "com/example/roundel/roundel/dag/ItemArray" (16 : Nat) "com/example/roundel/roundel/dag/ItemArray" "first" "I").before a0 Z = true := hw _ (List.mem_of_getElem? (i := 31) rfl)
theorem t32 {a0 : Array Value} {Z : State} (hw : ∀ d ∈ tables_1, d.before a0 Z = true) : (Jvm.Cond.lays "com/example/roundel/roundel/dag/ItemArray" "com/example/roundel/roundel/dag/ItemArray" "first" "I").before a0 Z = true := hw _ (List.mem_of_getElem? (i := 32) rfl)
theorem t33 {a0 : Array Value} {Z : State} (hw : ∀ d ∈ tables_1, d.before a0 Z = true) : (Jvm.Cond.methodLink "com/example/roundel/roundel/dag/ItemArrayPollPinLaw" (40 : Nat) ({ cls := "com/example/roundel/roundel/dag/ItemArray", name := "peek", desc := "()Ljava/lang/Object;" } : Jvm.MethodName)).before a0 Z = true := hw _ (List.mem_of_getElem? (i := 33) rfl)
theorem t34 {a0 : Array Value} {Z : State} (hw : ∀ d ∈ tables_1, d.before a0 Z = true) : (Jvm.Cond.declares ({ cls := "com/example/roundel/roundel/dag/ItemArray", name := "peek", desc := "()Ljava/lang/Object;" } : Jvm.MethodName)).before a0 Z = true := hw _ (List.mem_of_getElem? (i := 34) rfl)
theorem t35 {a0 : Array Value} {Z : State} (hw : ∀ d ∈ tables_1, d.before a0 Z = true) : (Jvm.Cond.instanceMethod ({ cls := "com/example/roundel/roundel/dag/ItemArray", name := "peek", desc := "()Ljava/lang/Object;" } : Jvm.MethodName)).before a0 Z = true := hw _ (List.mem_of_getElem? (i := 35) rfl)
theorem t36 {a0 : Array Value} {Z : State} (hw : ∀ d ∈ tables_1, d.before a0 Z = true) : (Jvm.Cond.selects "com/example/roundel/roundel/dag/ItemArray" ({ cls := "com/example/roundel/roundel/dag/ItemArray", name := "peek", desc := "()Ljava/lang/Object;" } : Jvm.MethodName) ({ cls := "com/example/roundel/roundel/dag/ItemArray", name := "peek", desc := "()Ljava/lang/Object;" } : Jvm.MethodName)).before a0 Z = true := hw _ (List.mem_of_getElem? (i := 36) rfl)
theorem t37 {a0 : Array Value} {Z : State} (hw : ∀ d ∈ tables_1, d.before a0 Z = true) : (Jvm.Cond.code ({ cls := "com/example/roundel/roundel/dag/ItemArray", name := "peek", desc := "()Ljava/lang/Object;" } : Jvm.MethodName) prog_20_method_3_code (1 : Nat) (Option.some (Jvm.ClassFile.FieldType.object "java/lang/Object"))).before a0 Z = true := hw _ (List.mem_of_getElem? (i := 37) rfl)
theorem t38 {a0 : Array Value} {Z : State} (hw : ∀ d ∈ tables_1, d.before a0 Z = true) : (Jvm.Cond.methodLink "com/example/roundel/roundel/dag/ItemArrayPollPinLaw" (24 : Nat) ({ cls := "com/example/roundel/roundel/dag/ItemArrayPollPinLaw", name := "expected", desc := "(IILjava/lang/Object;Ljava/lang/Object;Ljava/lang/Object;)Ljava/lang/Object;" } : Jvm.MethodName)).before a0 Z = true := hw _ (List.mem_of_getElem? (i := 38) rfl)
theorem t39 {a0 : Array Value} {Z : State} (hw : ∀ d ∈ tables_1, d.before a0 Z = true) : (Jvm.Cond.static ({ cls := "com/example/roundel/roundel/dag/ItemArrayPollPinLaw", name := "expected", desc := "(IILjava/lang/Object;Ljava/lang/Object;Ljava/lang/Object;)Ljava/lang/Object;" } : Jvm.MethodName)).before a0 Z = true := hw _ (List.mem_of_getElem? (i := 39) rfl)
theorem t40 {a0 : Array Value} {Z : State} (hw : ∀ d ∈ tables_1, d.before a0 Z = true) : (Jvm.Cond.initialized "com/example/roundel/roundel/dag/ItemArrayPollPinLaw").before a0 Z = true := hw _ (List.mem_of_getElem? (i := 40) rfl)
theorem t41 {a0 : Array Value} {Z : State} (hw : ∀ d ∈ tables_1, d.before a0 Z = true) : (Jvm.Cond.code ({ cls := "com/example/roundel/roundel/dag/ItemArrayPollPinLaw", name := "expected", desc := "(IILjava/lang/Object;Ljava/lang/Object;Ljava/lang/Object;)Ljava/lang/Object;" } : Jvm.MethodName) method_2_code (5 : Nat) (Option.some (Jvm.ClassFile.FieldType.object "java/lang/Object"))).before a0 Z = true := hw _ (List.mem_of_getElem? (i := 41) rfl)
theorem t42 {a0 : Array Value} {Z : State} (hw : ∀ d ∈ tables_1, d.before a0 Z = true) : (Jvm.Cond.methodLink "com/example/roundel/roundel/dag/ItemArrayPollPinLaw" (20 : Nat) ({ cls := "com/example/roundel/roundel/dag/ItemArray", name := "poll", desc := "()Ljava/lang/Object;" } : Jvm.MethodName)).before a0 Z = true := hw _ (List.mem_of_getElem? (i := 42) rfl)
theorem t43 {a0 : Array Value} {Z : State} (hw : ∀ d ∈ tables_1, d.before a0 Z = true) : (Jvm.Cond.declares ({ cls := "com/example/roundel/roundel/dag/ItemArray", name := "poll", desc := "()Ljava/lang/Object;" } : Jvm.MethodName)).before a0 Z = true := hw _ (List.mem_of_getElem? (i := 43) rfl)
theorem t44 {a0 : Array Value} {Z : State} (hw : ∀ d ∈ tables_1, d.before a0 Z = true) : (Jvm.Cond.instanceMethod ({ cls := "com/example/roundel/roundel/dag/ItemArray", name := "poll", desc := "()Ljava/lang/Object;" } : Jvm.MethodName)).before a0 Z = true := hw _ (List.mem_of_getElem? (i := 44) rfl)
theorem t45 {a0 : Array Value} {Z : State} (hw : ∀ d ∈ tables_1, d.before a0 Z = true) : (Jvm.Cond.selects "com/example/roundel/roundel/dag/ItemArray" ({ cls := "com/example/roundel/roundel/dag/ItemArray", name := "poll", desc := "()Ljava/lang/Object;" } : Jvm.MethodName) ({ cls := "com/example/roundel/roundel/dag/ItemArray", name := "poll", desc := "()Ljava/lang/Object;" } : Jvm.MethodName)).before a0 Z = true := hw _ (List.mem_of_getElem? (i := 45) rfl)
theorem t46 {a0 : Array Value} {Z : State} (hw : ∀ d ∈ tables_1, d.before a0 Z = true) : (Jvm.Cond.code ({ cls := "com/example/roundel/roundel/dag/ItemArray", name := "poll", desc := "()Ljava/lang/Object;" } : Jvm.MethodName) prog_20_method_4_code (2 : Nat) (Option.some (Jvm.ClassFile.FieldType.object "java/lang/Object"))).before a0 Z = true := hw _ (List.mem_of_getElem? (i := 46) rfl)
theorem t47 {a0 : Array Value} {Z : State} (hw : ∀ d ∈ tables_1, d.before a0 Z = true) : (Jvm.Cond.classLink "java/lang/Integer" (1 : Nat) "java/lang/Integer").before a0 Z = true := hw _ (List.mem_of_getElem? (i := 47) rfl)
theorem t48 {a0 : Array Value} {Z : State} (hw : ∀ d ∈ tables_1, d.before a0 Z = true) : (Jvm.Cond.instantiable "java/lang/Integer" (1 : Nat)).before a0 Z = true := hw _ (List.mem_of_getElem? (i := 48) rfl)
theorem t49 {a0 : Array Value} {Z : State} (hw : ∀ d ∈ tables_1, d.before a0 Z = true) : (Jvm.Cond.methodLink "java/lang/Integer" (199 : Nat) ({ cls := "java/lang/Integer", name := "<init>", desc := "(I)V" } : Jvm.MethodName)).before a0 Z = true := hw _ (List.mem_of_getElem? (i := 49) rfl)
theorem t50 {a0 : Array Value} {Z : State} (hw : ∀ d ∈ tables_1, d.before a0 Z = true) : (Jvm.Cond.instanceMethod ({ cls := "java/lang/Integer", name := "<init>", desc := "(I)V" } : Jvm.MethodName)).before a0 Z = true := hw _ (List.mem_of_getElem? (i := 50) rfl)
theorem t52 {a0 : Array Value} {Z : State} (hw : ∀ d ∈ tables_1, d.before a0 Z = true) : (Jvm.Cond.code ({ cls := "java/lang/Integer", name := "<init>", desc := "(I)V" } : Jvm.MethodName) jdk_33_method_23_code (2 : Nat) (Option.none : Option Jvm.ClassFile.FieldType)).before a0 Z = true := hw _ (List.mem_of_getElem? (i := 52) rfl)
theorem t53 {a0 : Array Value} {Z : State} (hw : ∀ d ∈ tables_1, d.before a0 Z = true) : (Jvm.Cond.methodLink "java/lang/Integer" (202 : Nat) ({ cls := "java/lang/Number", name := "<init>", desc := "()V" } : Jvm.MethodName)).before a0 Z = true := hw _ (List.mem_of_getElem? (i := 53) rfl)
theorem t54 {a0 : Array Value} {Z : State} (hw : ∀ d ∈ tables_1, d.before a0 Z = true) : (Jvm.Cond.instanceMethod ({ cls := "java/lang/Number", name := "<init>", desc := "()V" } : Jvm.MethodName)).before a0 Z = true := hw _ (List.mem_of_getElem? (i := 54) rfl)
theorem t57 {a0 : Array Value} {Z : State} (hw : ∀ d ∈ tables_1, d.before a0 Z = true) : (Jvm.Cond.initialized "java/lang/Number").before a0 Z = true := hw _ (List.mem_of_getElem? (i := 57) rfl)
theorem t58 {a0 : Array Value} {Z : State} (hw : ∀ d ∈ tables_1, d.before a0 Z = true) : (Jvm.Cond.code ({ cls := "java/lang/Number", name := "<init>", desc := "()V" } : Jvm.MethodName) jdk_18_method_1_code (1 : Nat) (Option.none : Option Jvm.ClassFile.FieldType)).before a0 Z = true := hw _ (List.mem_of_getElem? (i := 58) rfl)
theorem t59 {a0 : Array Value} {Z : State} (hw : ∀ d ∈ tables_1, d.before a0 Z = true) : (Jvm.Cond.methodLink "java/lang/Number" (1 : Nat) ({ cls := "java/lang/Object", name := "<init>", desc := "()V" } : Jvm.MethodName)).before a0 Z = true := hw _ (List.mem_of_getElem? (i := 59) rfl)
theorem t60 {a0 : Array Value} {Z : State} (hw : ∀ d ∈ tables_1, d.before a0 Z = true) : (Jvm.Cond.fieldLink "java/lang/Integer" (205 : Nat) "java/lang/Integer" "value" "I").before a0 Z = true := hw _ (List.mem_of_getElem? (i := 60) rfl)
theorem t61 {a0 : Array Value} {Z : State} (hw : ∀ d ∈ tables_1, d.before a0 Z = true) : (Jvm.Cond.laysFinal "java/lang/Integer" "java/lang/Integer" "value" "I").before a0 Z = true := hw _ (List.mem_of_getElem? (i := 61) rfl)
theorem t62 {a0 : Array Value} {Z : State} (hw : ∀ d ∈ tables_1, d.before a0 Z = true) : (Jvm.Cond.methodLink "com/example/roundel/roundel/dag/ItemArrayPollPinLaw" (16 : Nat) ({ cls := "com/example/roundel/roundel/dag/ItemArray", name := "add", desc := "(Ljava/lang/Object;)V" } : Jvm.MethodName)).before a0 Z = true := hw _ (List.mem_of_getElem? (i := 62) rfl)
theorem t63 {a0 : Array Value} {Z : State} (hw : ∀ d ∈ tables_1, d.before a0 Z = true) : (Jvm.Cond.declares ({ cls := "com/example/roundel/roundel/dag/ItemArray", name := "add", desc := "(Ljava/lang/Object;)V" } : Jvm.MethodName)).before a0 Z = true := hw _ (List.mem_of_getElem? (i := 63) rfl)
theorem t64 {a0 : Array Value} {Z : State} (hw : ∀ d ∈ tables_1, d.before a0 Z = true) : (Jvm.Cond.instanceMethod ({ cls := "com/example/roundel/roundel/dag/ItemArray", name := "add", desc := "(Ljava/lang/Object;)V" } : Jvm.MethodName)).before a0 Z = true := hw _ (List.mem_of_getElem? (i := 64) rfl)
theorem t65 {a0 : Array Value} {Z : State} (hw : ∀ d ∈ tables_1, d.before a0 Z = true) : (Jvm.Cond.selects "com/example/roundel/roundel/dag/ItemArray" ({ cls := "com/example/roundel/roundel/dag/ItemArray", name := "add", desc := "(Ljava/lang/Object;)V" } : Jvm.MethodName) ({ cls := "com/example/roundel/roundel/dag/ItemArray", name := "add", desc := "(Ljava/lang/Object;)V" } : Jvm.MethodName)).before a0 Z = true := hw _ (List.mem_of_getElem? (i := 65) rfl)
theorem t66 {a0 : Array Value} {Z : State} (hw : ∀ d ∈ tables_1, d.before a0 Z = true) : (Jvm.Cond.code ({ cls := "com/example/roundel/roundel/dag/ItemArray", name := "add", desc := "(Ljava/lang/Object;)V" } : Jvm.MethodName) prog_20_method_7_code (2 : Nat) (Option.none : Option Jvm.ClassFile.FieldType)).before a0 Z = true := hw _ (List.mem_of_getElem? (i := 66) rfl)
theorem t67 {a0 : Array Value} {Z : State} (hw : ∀ d ∈ tables_1, d.before a0 Z = true) : (Jvm.Cond.methodLink "com/example/roundel/roundel/dag/ItemArray" (30 : Nat) ({ cls := "com/example/roundel/roundel/dag/ItemArray", name := "makeRoom", desc := "(I)V" } : Jvm.MethodName)).before a0 Z = true := hw _ (List.mem_of_getElem? (i := 67) rfl)
theorem t68 {a0 : Array Value} {Z : State} (hw : ∀ d ∈ tables_1, d.before a0 Z = true) : (Jvm.Cond.instanceMethod ({ cls := "com/example/roundel/roundel/dag/ItemArray", name := "makeRoom", desc := "(I)V" } : Jvm.MethodName)).before a0 Z = true := hw _ (List.mem_of_getElem? (i := 68) rfl)
theorem t69 {a0 : Array Value} {Z : State} (hw : ∀ d ∈ tables_1, d.before a0 Z = true) : (Jvm.Cond.privateMethod ({ cls := "com/example/roundel/roundel/dag/ItemArray", name := "makeRoom", desc := "(I)V" } : Jvm.MethodName)).before a0 Z = true := hw _ (List.mem_of_getElem? (i := 69) rfl)
theorem t70 {a0 : Array Value} {Z : State} (hw : ∀ d ∈ tables_1, d.before a0 Z = true) : (Jvm.Cond.code ({ cls := "com/example/roundel/roundel/dag/ItemArray", name := "makeRoom", desc := "(I)V" } : Jvm.MethodName) prog_20_method_12_code (5 : Nat) (Option.none : Option Jvm.ClassFile.FieldType)).before a0 Z = true := hw _ (List.mem_of_getElem? (i := 70) rfl)
theorem t71 {a0 : Array Value} {Z : State} (hw : ∀ d ∈ tables_1, d.before a0 Z = true) : (Jvm.Cond.methodLink "com/example/roundel/roundel/dag/ItemArray" (67 : Nat) ({ cls := "java/lang/Math", name := "max", desc := "(II)I" } : Jvm.MethodName)).before a0 Z = true := hw _ (List.mem_of_getElem? (i := 71) rfl)
theorem t72 {a0 : Array Value} {Z : State} (hw : ∀ d ∈ tables_1, d.before a0 Z = true) : (Jvm.Cond.classLink "com/example/roundel/roundel/dag/ItemArray" (2 : Nat) "java/lang/Object").before a0 Z = true := hw _ (List.mem_of_getElem? (i := 72) rfl)
theorem t73 {a0 : Array Value} {Z : State} (hw : ∀ d ∈ tables_1, d.before a0 Z = true) : (Jvm.Cond.arrayOver (Jvm.ClassFile.FieldType.object "java/lang/Object")).before a0 Z = true := hw _ (List.mem_of_getElem? (i := 73) rfl)
theorem t74 {a0 : Array Value} {Z : State} (hw : ∀ d ∈ tables_1, d.before a0 Z = true) : (Jvm.Cond.methodLink "com/example/roundel/roundel/dag/ItemArray" (73 : Nat) ({ cls := "java/lang/System", name := "arraycopy", desc := "(Ljava/lang/Object;ILjava/lang/Object;II)V" } : Jvm.MethodName)).before a0 Z = true := hw _ (List.mem_of_getElem? (i := 74) rfl)
theorem t75 {a0 : Array Value} {Z : State} (hw : ∀ d ∈ tables_1, d.before a0 Z = true) : (Jvm.Cond.static ({ cls := "java/lang/System", name := "arraycopy", desc := "(Ljava/lang/Object;ILjava/lang/Object;II)V" } : Jvm.MethodName)).before a0 Z = true := hw _ (List.mem_of_getElem? (i := 75) rfl)
theorem t76 {a0 : Array Value} {Z : State} (hw : ∀ d ∈ tables_1, d.before a0 Z = true) : (Jvm.Cond.initialized "java/lang/System").before a0 Z = true := hw _ (List.mem_of_getElem? (i := 76) rfl)
theorem t77 {a0 : Array Value} {Z : State} (hw : ∀ d ∈ tables_1, d.before a0 Z = true) : (Jvm.Cond.native ({ cls := "java/lang/System", name := "arraycopy", desc := "(Ljava/lang/Object;ILjava/lang/Object;II)V" } : Jvm.MethodName)).before a0 Z = true := hw _ (List.mem_of_getElem? (i := 77) rfl)
theorem t78 {a0 : Array Value} {Z : State} (hw : ∀ d ∈ tables_1, d.before a0 Z = true) : (Jvm.Cond.castable "java/lang/Integer" "java/lang/Object").before a0 Z = true := hw _ (List.mem_of_getElem? (i := 78) rfl)
def World (Z : State) (w_NO_ITEMS : Addr) (w_cache : Addr) (k_w_NO_ITEMS : ClassId) (cl_w_cache : Cell) : Prop :=
  Sta Z Z.heap "com/example/roundel/roundel/dag/ItemArray" "NO_ITEMS" "[Ljava/lang/Object;" (.ref w_NO_ITEMS) ∧
  Exa Z Z.heap w_NO_ITEMS "[Ljava/lang/Object;" ∧
  Sta Z Z.heap "java/lang/Integer$IntegerCache" "cache" "[Ljava/lang/Integer;" (.ref w_cache) ∧
  Exa Z Z.heap w_cache "[Ljava/lang/Integer;" ∧
  Arv Z Z.heap w_NO_ITEMS k_w_NO_ITEMS (.object "java/lang/Object") (0 : Int32) [] .null ∧
  Sta Z Z.heap "java/lang/Integer$IntegerCache" "high" "I" (.int (127 : Int32)) ∧
  Bxs Z w_cache cl_w_cache "java/lang/Integer" "I" 256 (fun j => .int (j - 128))
theorem pn_0 : plainName "java/lang/Integer" = true := by first | (simp [plainName, overriddenIn]; done) | decide +kernel
theorem d_jdk_33_method_22_code_0 : decode jdk_33_method_22_code 0 = .ok (.iload_n 0, 1) := by decide +kernel
theorem d_jdk_33_method_22_code_1 : decode jdk_33_method_22_code 1 = .ok (.bipush (-128), 2) := by decide +kernel
theorem d_jdk_33_method_22_code_3 : decode jdk_33_method_22_code 3 = .ok (.if_icmp .lt 20, 3) := by decide +kernel
theorem d_jdk_33_method_22_code_23 : decode jdk_33_method_22_code 23 = .ok (.new 1, 3) := by decide +kernel
theorem d_jdk_33_method_22_code_26 : decode jdk_33_method_22_code 26 = .ok (.dup, 1) := by decide +kernel
theorem d_jdk_33_method_22_code_27 : decode jdk_33_method_22_code 27 = .ok (.iload_n 0, 1) := by decide +kernel
theorem d_jdk_33_method_22_code_28 : decode jdk_33_method_22_code 28 = .ok (.invokespecial 199, 3) := by decide +kernel
theorem d_jdk_33_method_23_code_0 : decode jdk_33_method_23_code 0 = .ok (.aload_n 0, 1) := by decide +kernel
theorem d_jdk_33_method_23_code_1 : decode jdk_33_method_23_code 1 = .ok (.invokespecial 202, 3) := by decide +kernel
theorem pn_1 : plainName "java/lang/Number" = true := by first | (simp [plainName, overriddenIn]; done) | decide +kernel
theorem d_jdk_18_method_1_code_0 : decode jdk_18_method_1_code 0 = .ok (.aload_n 0, 1) := by decide +kernel
theorem d_jdk_18_method_1_code_1 : decode jdk_18_method_1_code 1 = .ok (.invokespecial 1, 3) := by decide +kernel
theorem d_jdk_18_method_1_code_4 : decode jdk_18_method_1_code 4 = .ok (.return_, 1) := by decide +kernel
set_option maxRecDepth 65536 in
set_option maxHeartbeats 40000000 in
theorem c2_init {l : Launch} {Z : State} {a0 : Array Value} (hw : ∀ d ∈ tables_1, d.before a0 Z = true) {w_NO_ITEMS : Addr} {w_cache : Addr} {k_w_NO_ITEMS : ClassId} {cl_w_cache : Cell} (wd : World Z w_NO_ITEMS w_cache k_w_NO_ITEMS cl_w_cache)  {h0 : Heap} (O : Ext Z.heap h0) {o0 : Addr} (E_o0 : Exa Z h0 o0 "java/lang/Integer") (F_value_o0 : Fld Z h0 o0 "java/lang/Integer" "value" "I" (.int (0 : Int32))) :
    Ctr l Z y0 jdk_18_method_1_code 1 none ({ frames := 1, cells := 0, slots := 0, locals := 12 } : Room) #[(.ref o0)] h0 (fun v h L => v = none ∧ L = [] ∧ h = h0) := by
  refine Ctr.body (plainFor_of_name pn_1) ?_
  intro p e s m below meth c T X hx hby hml hown hnm hret hlk hZ eT
  have hml : c.maxLocals = 1 := hml
  have hown : s.vm.findClass "java/lang/Number" = some m.cls := hown
  have hnm : meth.name = "<init>" := hnm
  have hret : meth.sig.returnType = none := hret
  refine Run.cast (show entryFrame m #[(.ref o0)] 1 = mkF m 0 #[.val (.ref o0)] [] from by first | (simp [entryFrame, mkF, argsToLocals, Value.category]; done) | rfl) ?_
  have wd0 := wd
  obtain ⟨S_w_NO_ITEMS, E_w_NO_ITEMS, S_w_cache, E_w_cache, V_w_NO_ITEMS, S_w_high, B_w_cache⟩ := wd
  have wd := wd0
  have N : Fr Z.heap.size [] := Fr.nil _
  have KK : Keep h0 h0 [] := Keep.refl h0 []
  refine q_aloadN (pc' := 1) X hx (hb hby d_jdk_18_method_1_code_0) rfl rfl rfl ?_
  refine q_initO (pc' := 4) X hx hZ hown (hb hby d_jdk_18_method_1_code_1) (t59 hw) (t14 hw) (t15 hw) eT (by rw [hml]; rfl) (by decide) (W := 0) rfl (by decide) rfl ?_
  intro T X eT
  refine Run.retV X hx hlk hret (hb hby d_jdk_18_method_1_code_4) (by decide) (by decide) ?_
  try rw [eT]
  exact ⟨rfl, rfl, rfl⟩
theorem pd_0 : parseMethodDescriptor "()V" = some ⟨[], none⟩ := by decide +kernel
theorem d_jdk_33_method_23_code_4 : decode jdk_33_method_23_code 4 = .ok (.aload_n 0, 1) := by decide +kernel
theorem d_jdk_33_method_23_code_5 : decode jdk_33_method_23_code 5 = .ok (.iload_n 1, 1) := by decide +kernel
theorem d_jdk_33_method_23_code_6 : decode jdk_33_method_23_code 6 = .ok (.putfield 205, 3) := by decide +kernel
theorem d_jdk_33_method_23_code_9 : decode jdk_33_method_23_code 9 = .ok (.return_, 1) := by decide +kernel
set_option maxRecDepth 65536 in
set_option maxHeartbeats 40000000 in
theorem c1_init {l : Launch} {Z : State} {a0 : Array Value} (hw : ∀ d ∈ tables_1, d.before a0 Z = true) {w_NO_ITEMS : Addr} {w_cache : Addr} {k_w_NO_ITEMS : ClassId} {cl_w_cache : Cell} (wd : World Z w_NO_ITEMS w_cache k_w_NO_ITEMS cl_w_cache) (x0 : Int32) {h0 : Heap} (O : Ext Z.heap h0) {o0 : Addr} (E_o0 : Exa Z h0 o0 "java/lang/Integer") (F_value_o0 : Fld Z h0 o0 "java/lang/Integer" "value" "I" (.int (0 : Int32))) (g_o0 : Z.heap.size ≤ o0) :
    Ctr l Z y1 jdk_33_method_23_code 2 none ({ frames := 2, cells := 0, slots := 0, locals := 24 } : Room) #[(.ref o0), (.int x0)] h0 (fun v h L => v = none ∧ Fr Z.heap.size L ∧ Keep h0 h [o0] ∧ Exa Z h o0 "java/lang/Integer" ∧ Fld Z h o0 "java/lang/Integer" "value" "I" (.int x0)) := by
  refine Ctr.body (plainFor_of_name pn_0) ?_
  intro p e s m below meth c T X hx hby hml hown hnm hret hlk hZ eT
  have hml : c.maxLocals = 2 := hml
  have hown : s.vm.findClass "java/lang/Integer" = some m.cls := hown
  have hnm : meth.name = "<init>" := hnm
  have hret : meth.sig.returnType = none := hret
  refine Run.cast (show entryFrame m #[(.ref o0), (.int x0)] 2 = mkF m 0 #[.val (.ref o0), .val (.int x0)] [] from by first | (simp [entryFrame, mkF, argsToLocals, Value.category]; done) | rfl) ?_
  have wd0 := wd
  obtain ⟨S_w_NO_ITEMS, E_w_NO_ITEMS, S_w_cache, E_w_cache, V_w_NO_ITEMS, S_w_high, B_w_cache⟩ := wd
  have wd := wd0
  have N : Fr Z.heap.size [] := Fr.nil _
  have KK : Keep h0 h0 [o0] := Keep.refl h0 [o0]
  refine q_aloadN (pc' := 1) X hx (hb hby d_jdk_33_method_23_code_0) rfl rfl rfl ?_
  refine q_callN (pc' := 4) (y := y0) (rest := []) (b := o0) X hx hZ hown (hb hby d_jdk_33_method_23_code_1) rfl (t53 hw) (t54 hw) (t57 hw) (t58 hw) (by decide) eT [] (c2_init hw wd  O E_o0 F_value_o0) (by rw [hml]; rfl) (lenOf pd_0 rfl) (W := 0) rfl (by decide) (by decide) (by decide) (by decide) rfl ?_
  rintro _ T _ X ⟨rfl, rfl, eT⟩
  rw [List.append_nil] at X
  show Run p e below _ (T.setTop (mkF m 4 _ []))
  refine q_aloadN (pc' := 5) X hx (hb hby d_jdk_33_method_23_code_4) rfl rfl rfl ?_
  refine q_iloadN (pc' := 6) X hx (hb hby d_jdk_33_method_23_code_5) rfl rfl ?_
  refine q_putF (pc' := 9) X hx hZ hown (hb hby d_jdk_33_method_23_code_6) (host := "") (Or.inl (t60 hw)) eT F_value_o0 E_o0 (Or.inr ⟨(t61 hw), rfl, hnm⟩) (t48 hw) (ty := .int) (by decide) rfl rfl rfl ?_
  intro T h_1 X eT Wx
  have N := Fr.snoc X N g_o0
  have O := ext_wr O Wx g_o0
  have KK := KK.wr Wx (Or.inl (List.mem_of_getElem? (i := 0) rfl))
  have E_o0 := E_o0.wr Wx
  have F_value_o0 := F_value_o0.same Wx
  refine Run.retV X hx hlk hret (hb hby d_jdk_33_method_23_code_9) (by decide) (by decide) ?_
  try rw [eT]
  exact ⟨rfl, N, KK, E_o0, F_value_o0⟩
theorem pd_1 : parseMethodDescriptor "(I)V" = some ⟨[.int], none⟩ := by decide +kernel
theorem d_jdk_33_method_22_code_31 : decode jdk_33_method_22_code 31 = .ok (.areturn, 1) := by decide +kernel
theorem d_jdk_33_method_22_code_6 : decode jdk_33_method_22_code 6 = .ok (.iload_n 0, 1) := by decide +kernel
theorem d_jdk_33_method_22_code_7 : decode jdk_33_method_22_code 7 = .ok (.getstatic 191, 3) := by decide +kernel
theorem d_jdk_33_method_22_code_10 : decode jdk_33_method_22_code 10 = .ok (.if_icmp .gt 13, 3) := by decide +kernel
theorem d_jdk_33_method_22_code_13 : decode jdk_33_method_22_code 13 = .ok (.getstatic 195, 3) := by decide +kernel
theorem d_jdk_33_method_22_code_16 : decode jdk_33_method_22_code 16 = .ok (.iload_n 0, 1) := by decide +kernel
theorem d_jdk_33_method_22_code_17 : decode jdk_33_method_22_code 17 = .ok (.sipush 128, 3) := by decide +kernel
theorem d_jdk_33_method_22_code_20 : decode jdk_33_method_22_code 20 = .ok (.iadd, 1) := by decide +kernel
theorem d_jdk_33_method_22_code_21 : decode jdk_33_method_22_code 21 = .ok (.aaload, 1) := by decide +kernel
theorem d_jdk_33_method_22_code_22 : decode jdk_33_method_22_code 22 = .ok (.areturn, 1) := by decide +kernel
set_option maxRecDepth 65536 in
set_option maxHeartbeats 40000000 in
theorem own_valueOf {l : Launch} {Z : State} {a0 : Array Value} (hw : ∀ d ∈ tables_1, d.before a0 Z = true) {w_NO_ITEMS : Addr} {w_cache : Addr} {k_w_NO_ITEMS : ClassId} {cl_w_cache : Cell} (wd : World Z w_NO_ITEMS w_cache k_w_NO_ITEMS cl_w_cache) (x0 : Int32) {h0 : Heap} (O : Ext Z.heap h0) :
    Ctr l Z y2 jdk_33_method_22_code 1 (some (.object "java/lang/Integer")) ({ frames := 3, cells := 1, slots := 1, locals := 38 } : Room) #[(.int x0)] h0 (fun v h L => ∃ r, v = some (.ref r) ∧ Fr Z.heap.size L ∧ Keep h0 h [] ∧ Exa Z h r "java/lang/Integer" ∧ Fld Z h r "java/lang/Integer" "value" "I" (.int x0)) := by
  refine Ctr.body (plainFor_of_name pn_0) ?_
  intro p e s m below meth c T X hx hby hml hown hnm hret hlk hZ eT
  have hml : c.maxLocals = 1 := hml
  have hown : s.vm.findClass "java/lang/Integer" = some m.cls := hown
  have hnm : meth.name = "valueOf" := hnm
  have hret : meth.sig.returnType = (some (.object "java/lang/Integer")) := hret
  refine Run.cast (show entryFrame m #[(.int x0)] 1 = mkF m 0 #[.val (.int x0)] [] from by first | (simp [entryFrame, mkF, argsToLocals, Value.category]; done) | rfl) ?_
  have wd0 := wd
  obtain ⟨S_w_NO_ITEMS, E_w_NO_ITEMS, S_w_cache, E_w_cache, V_w_NO_ITEMS, S_w_high, B_w_cache⟩ := wd
  have wd := wd0
  have N : Fr Z.heap.size [] := Fr.nil _
  have KK : Keep h0 h0 [] := Keep.refl h0 []
  refine q_iloadN (pc' := 1) X hx (hb hby d_jdk_33_method_22_code_0) rfl rfl ?_
  refine q_bipush (pc' := 3) (z := (-128 : Int32)) X hx (hb hby d_jdk_33_method_22_code_1) rfl rfl ?_
  rcases Bool.eq_false_or_eq_true (if_icmp.holds .lt x0 (-128 : Int32)) with hc3 | hc3
  · refine q_icmpYes (pc' := 23) X hx (hb hby d_jdk_33_method_22_code_3) hc3 (by decide) (by decide) ?_
    refine q_new (pc' := 26) X hx hZ hown (hb hby d_jdk_33_method_22_code_23) (t47 hw) (t48 hw) (t2 hw) eT (by decide) (by decide) rfl ?_
    intro T h_1 b23_0 X eT Ex gb Ax Dx
    have g_b23_0 : Z.heap.size ≤ b23_0 := Nat.le_trans O.1 (Nat.le_of_eq gb.symm)
    have sz_b23_0 : h0.size ≤ b23_0 := Nat.le_trans KK.1 (Nat.le_of_eq gb.symm)
    have KK := KK.ext Ex
    have O := ext_trans O Ex
    have E_b23_0 := Ax
    have F_value_b23_0 : Fld Z h_1 b23_0 "java/lang/Integer" "value" "I" (.int (0 : Int32)) := Dx (Or.inr (t61 hw)) (ty := .int) (by decide)
    refine q_dup (pc' := 27) X hx (hb hby d_jdk_33_method_22_code_26) rfl rfl ?_
    refine q_iloadN (pc' := 28) X hx (hb hby d_jdk_33_method_22_code_27) rfl rfl ?_
    refine q_callN (pc' := 31) (y := y1) (rest := [(.ref b23_0)]) (b := b23_0) X hx hZ hown (hb hby d_jdk_33_method_22_code_28) rfl (t49 hw) (t50 hw) (t2 hw) (t52 hw) (by decide) eT [(.int x0)] (c1_init hw wd (x0) O E_b23_0 F_value_b23_0 g_b23_0) (by rw [hml]; rfl) (lenOf pd_1 rfl) (W := 1) rfl (by decide) (by decide) (by decide) (by decide) rfl ?_
    rintro _ T _ X ⟨rfl, NL, KL, E_b23_0, F_value_b23_0⟩
    have N := N.app NL
    obtain ⟨h_3, eT⟩ : ∃ z, T.heap = z := ⟨_, rfl⟩
    rw [eT] at KL E_b23_0 F_value_b23_0
    have O := ext_keep O KL (allS g_b23_0 all0)
    have KK := KK.trans KL (allS (Or.inr sz_b23_0) all0)
    show Run p e below _ (T.setTop (mkF m 31 _ [(.ref b23_0)]))
    refine Run.retR X hx hlk hret (hb hby d_jdk_33_method_22_code_31) rfl rfl (by decide) (by decide) ?_
    try rw [eT]
    exact ⟨b23_0, rfl, N, KK, E_b23_0, F_value_b23_0⟩
  · refine q_icmpNo (pc' := 6) X hx (hb hby d_jdk_33_method_22_code_3) hc3 rfl ?_
    refine q_iloadN (pc' := 7) X hx (hb hby d_jdk_33_method_22_code_6) rfl rfl ?_
    refine q_getS (pc' := 10) X hx hZ hown (hb hby d_jdk_33_method_22_code_7) (host := "") (Or.inl (t4 hw)) eT (S_w_high.ext O) rfl ?_
    intro T X eT
    rcases Bool.eq_false_or_eq_true (if_icmp.holds .gt x0 (127 : Int32)) with hc10 | hc10
    · refine q_icmpYes (pc' := 23) X hx (hb hby d_jdk_33_method_22_code_10) hc10 (by decide) (by decide) ?_
      refine q_new (pc' := 26) X hx hZ hown (hb hby d_jdk_33_method_22_code_23) (t47 hw) (t48 hw) (t2 hw) eT (by decide) (by decide) rfl ?_
      intro T h_1 b23_0 X eT Ex gb Ax Dx
      have g_b23_0 : Z.heap.size ≤ b23_0 := Nat.le_trans O.1 (Nat.le_of_eq gb.symm)
      have sz_b23_0 : h0.size ≤ b23_0 := Nat.le_trans KK.1 (Nat.le_of_eq gb.symm)
      have KK := KK.ext Ex
      have O := ext_trans O Ex
      have E_b23_0 := Ax
      have F_value_b23_0 : Fld Z h_1 b23_0 "java/lang/Integer" "value" "I" (.int (0 : Int32)) := Dx (Or.inr (t61 hw)) (ty := .int) (by decide)
      refine q_dup (pc' := 27) X hx (hb hby d_jdk_33_method_22_code_26) rfl rfl ?_
      refine q_iloadN (pc' := 28) X hx (hb hby d_jdk_33_method_22_code_27) rfl rfl ?_
      refine q_callN (pc' := 31) (y := y1) (rest := [(.ref b23_0)]) (b := b23_0) X hx hZ hown (hb hby d_jdk_33_method_22_code_28) rfl (t49 hw) (t50 hw) (t2 hw) (t52 hw) (by decide) eT [(.int x0)] (c1_init hw wd (x0) O E_b23_0 F_value_b23_0 g_b23_0) (by rw [hml]; rfl) (lenOf pd_1 rfl) (W := 1) rfl (by decide) (by decide) (by decide) (by decide) rfl ?_
      rintro _ T _ X ⟨rfl, NL, KL, E_b23_0, F_value_b23_0⟩
      have N := N.app NL
      obtain ⟨h_3, eT⟩ : ∃ z, T.heap = z := ⟨_, rfl⟩
      rw [eT] at KL E_b23_0 F_value_b23_0
      have O := ext_keep O KL (allS g_b23_0 all0)
      have KK := KK.trans KL (allS (Or.inr sz_b23_0) all0)
      show Run p e below _ (T.setTop (mkF m 31 _ [(.ref b23_0)]))
      refine Run.retR X hx hlk hret (hb hby d_jdk_33_method_22_code_31) rfl rfl (by decide) (by decide) ?_
      try rw [eT]
      exact ⟨b23_0, rfl, N, KK, E_b23_0, F_value_b23_0⟩
    · refine q_icmpNo (pc' := 13) X hx (hb hby d_jdk_33_method_22_code_10) hc10 rfl ?_
      refine q_getS (pc' := 16) X hx hZ hown (hb hby d_jdk_33_method_22_code_13) (host := "") (Or.inl (t6 hw)) eT (S_w_cache.ext O) rfl ?_
      intro T X eT
      refine q_iloadN (pc' := 17) X hx (hb hby d_jdk_33_method_22_code_16) rfl rfl ?_
      refine q_sipush (pc' := 20) (z := (128 : Int32)) X hx (hb hby d_jdk_33_method_22_code_17) rfl rfl ?_
      refine q_iadd (pc' := 21) (z := (x0 + (128 : Int32))) X hx (hb hby d_jdk_33_method_22_code_20) rfl rfl ?_
      have hj := cache_idx hc3 hc10 B_w_cache.2.1
      obtain ⟨r0, hat, Er, Fv⟩ := B_w_cache.2.2.2 (x0 + (128 : Int32)) hj
      dsimp only at Fv
      rw [back128] at Fv
      have E_r0 := Er.ext O
      have F_value_r0 := Fv.ext O
      have st := fun t q => X.aaload hx (j := (x0 + (128 : Int32))) (v := .ref r0) (by rw [eT]; exact (B_w_cache.1.ext O).1) (State.isArrayOf_alike hZ.alike B_w_cache.1.2.1) rfl B_w_cache.1.2.2 hj hat (g := (mkF m 21 #[.val (.int x0)] [(.int (x0 + (128 : Int32))), (.ref w_cache)])) rfl rfl (hb hby d_jdk_33_method_22_code_21) t q
      refine Run.via st ?_
      show Run p e below _ (T.setTop (mkF m 22 #[.val (.int x0)] [(.ref r0)]))
      refine Run.retR X hx hlk hret (hb hby d_jdk_33_method_22_code_22) rfl rfl (by decide) (by decide) ?_
      try rw [eT]
      exact ⟨r0, rfl, N, KK, E_r0, F_value_r0⟩
theorem own_sel (x : Int32) : x &&& (3 : Int32) = (0 : Int32) ∨ x &&& (3 : Int32) = (1 : Int32) ∨ x &&& (3 : Int32) = (2 : Int32) ∨ x &&& (3 : Int32) = (3 : Int32) := by
  have q := c_mask x 3 2 (by decide) (by decide)
  have r : (x &&& 3).toInt = 0 ∨ (x &&& 3).toInt = 1 ∨ (x &&& 3).toInt = 2 ∨ (x &&& 3).toInt = 3 := by omega
  rcases r with r | r | r | r <;> simp [← Int32.toInt_inj, r]
theorem pn_2 : plainName "com/example/roundel/roundel/dag/ItemArrayPollPinLaw" = true := by first | (simp [plainName, overriddenIn]; done) | decide +kernel
theorem pd_2 : parseMethodDescriptor "(I)Ljava/lang/Integer;" = some ⟨[.int], some (.object "java/lang/Integer")⟩ := by decide +kernel
theorem pn_3 : plainName "com/example/roundel/roundel/dag/ItemArray" = true := by first | (simp [plainName, overriddenIn]; done) | decide +kernel
theorem d_prog_20_method_1_code_0 : decode prog_20_method_1_code 0 = .ok (.aload_n 0, 1) := by decide +kernel
theorem d_prog_20_method_1_code_1 : decode prog_20_method_1_code 1 = .ok (.invokespecial 1, 3) := by decide +kernel
theorem d_prog_20_method_1_code_4 : decode prog_20_method_1_code 4 = .ok (.aload_n 0, 1) := by decide +kernel
theorem d_prog_20_method_1_code_5 : decode prog_20_method_1_code 5 = .ok (.getstatic 7, 3) := by decide +kernel
theorem d_prog_20_method_1_code_8 : decode prog_20_method_1_code 8 = .ok (.putfield 13, 3) := by decide +kernel
theorem d_prog_20_method_1_code_11 : decode prog_20_method_1_code 11 = .ok (.return_, 1) := by decide +kernel
set_option maxRecDepth 65536 in
set_option maxHeartbeats 40000000 in
theorem c3_init {l : Launch} {Z : State} {a0 : Array Value} (hw : ∀ d ∈ tables_1, d.before a0 Z = true) {w_NO_ITEMS : Addr} {w_cache : Addr} {k_w_NO_ITEMS : ClassId} {cl_w_cache : Cell} (wd : World Z w_NO_ITEMS w_cache k_w_NO_ITEMS cl_w_cache)  {h0 : Heap} (O : Ext Z.heap h0) {o0 : Addr} (E_o0 : Exa Z h0 o0 "com/example/roundel/roundel/dag/ItemArray") (F_items_o0 : Fld Z h0 o0 "com/example/roundel/roundel/dag/ItemArray" "items" "[Ljava/lang/Object;" .null) (F_end_o0 : Fld Z h0 o0 "com/example/roundel/roundel/dag/ItemArray" "end" "I" (.int (0 : Int32))) (F_first_o0 : Fld Z h0 o0 "com/example/roundel/roundel/dag/ItemArray" "first" "I" (.int (0 : Int32))) (g_o0 : Z.heap.size ≤ o0) :
    Ctr l Z y3 prog_20_method_1_code 1 none ({ frames := 1, cells := 0, slots := 0, locals := 12 } : Room) #[(.ref o0)] h0 (fun v h L => v = none ∧ Fr Z.heap.size L ∧ Keep h0 h [o0] ∧ Exa Z h o0 "com/example/roundel/roundel/dag/ItemArray" ∧ Fld Z h o0 "com/example/roundel/roundel/dag/ItemArray" "items" "[Ljava/lang/Object;" (.ref w_NO_ITEMS) ∧ Fld Z h o0 "com/example/roundel/roundel/dag/ItemArray" "end" "I" (.int (0 : Int32)) ∧ Fld Z h o0 "com/example/roundel/roundel/dag/ItemArray" "first" "I" (.int (0 : Int32))) := by
  refine Ctr.body (plainFor_of_name pn_3) ?_
  intro p e s m below meth c T X hx hby hml hown hnm hret hlk hZ eT
  have hml : c.maxLocals = 1 := hml
  have hown : s.vm.findClass "com/example/roundel/roundel/dag/ItemArray" = some m.cls := hown
  have hnm : meth.name = "<init>" := hnm
  have hret : meth.sig.returnType = none := hret
  refine Run.cast (show entryFrame m #[(.ref o0)] 1 = mkF m 0 #[.val (.ref o0)] [] from by first | (simp [entryFrame, mkF, argsToLocals, Value.category]; done) | rfl) ?_
  have wd0 := wd
  obtain ⟨S_w_NO_ITEMS, E_w_NO_ITEMS, S_w_cache, E_w_cache, V_w_NO_ITEMS, S_w_high, B_w_cache⟩ := wd
  have wd := wd0
  have N : Fr Z.heap.size [] := Fr.nil _
  have KK : Keep h0 h0 [o0] := Keep.refl h0 [o0]
  refine q_aloadN (pc' := 1) X hx (hb hby d_prog_20_method_1_code_0) rfl rfl rfl ?_
  refine q_initO (pc' := 4) X hx hZ hown (hb hby d_prog_20_method_1_code_1) (t13 hw) (t14 hw) (t15 hw) eT (by rw [hml]; rfl) (by decide) (W := 0) rfl (by decide) rfl ?_
  intro T X eT
  refine q_aloadN (pc' := 5) X hx (hb hby d_prog_20_method_1_code_4) rfl rfl rfl ?_
  refine q_getS (pc' := 8) X hx hZ hown (hb hby d_prog_20_method_1_code_5) (host := "") (Or.inl (t16 hw)) eT (S_w_NO_ITEMS.ext O) rfl ?_
  intro T X eT
  refine q_putF (pc' := 11) X hx hZ hown (hb hby d_prog_20_method_1_code_8) (host := "") (Or.inl (t18 hw)) eT F_items_o0 E_o0 (Or.inl (t19 hw)) (t8 hw) (ty := (.array (.object "java/lang/Object"))) (by decide) rfl rfl rfl ?_
  intro T h_1 X eT Wx
  have N := Fr.snoc X N g_o0
  have O := ext_wr O Wx g_o0
  have KK := KK.wr Wx (Or.inl (List.mem_of_getElem? (i := 0) rfl))
  have E_o0 := E_o0.wr Wx
  have F_items_o0 := F_items_o0.same Wx
  have F_end_o0 := F_end_o0.other Wx (Or.inr (slot_ne (Or.inl (t30 hw)) (Or.inl (t19 hw)) (by decide) (t := .int) (t' := (.array (.object "java/lang/Object"))) (by decide) (by decide)))
  have F_first_o0 := F_first_o0.other Wx (Or.inr (slot_ne (Or.inl (t32 hw)) (Or.inl (t19 hw)) (by decide) (t := .int) (t' := (.array (.object "java/lang/Object"))) (by decide) (by decide)))
  refine Run.retV X hx hlk hret (hb hby d_prog_20_method_1_code_11) (by decide) (by decide) ?_
  try rw [eT]
  exact ⟨rfl, N, KK, E_o0, F_items_o0, F_end_o0, F_first_o0⟩
theorem d_jdk_29_method_65_code_0 : decode jdk_29_method_65_code 0 = .ok (.iload_n 0, 1) := by decide +kernel
theorem d_jdk_29_method_65_code_1 : decode jdk_29_method_65_code 1 = .ok (.iload_n 1, 1) := by decide +kernel
theorem d_jdk_29_method_65_code_2 : decode jdk_29_method_65_code 2 = .ok (.if_icmp .lt 7, 3) := by decide +kernel
theorem d_jdk_29_method_65_code_5 : decode jdk_29_method_65_code 5 = .ok (.iload_n 0, 1) := by decide +kernel
theorem d_jdk_29_method_65_code_6 : decode jdk_29_method_65_code 6 = .ok (.goto 4, 3) := by decide +kernel
theorem d_jdk_29_method_65_code_10 : decode jdk_29_method_65_code 10 = .ok (.ireturn, 1) := by decide +kernel
set_option maxRecDepth 65536 in
set_option maxHeartbeats 40000000 in
theorem c4_max {l : Launch} {Z : State} {a0 : Array Value} (hw : ∀ d ∈ tables_1, d.before a0 Z = true) {w_NO_ITEMS : Addr} {w_cache : Addr} {k_w_NO_ITEMS : ClassId} {cl_w_cache : Cell} (wd : World Z w_NO_ITEMS w_cache k_w_NO_ITEMS cl_w_cache)  {h0 : Heap} (O : Ext Z.heap h0)  :
    Ctr l Z y4 jdk_29_method_65_code 2 (some .int) ({ frames := 0, cells := 0, slots := 0, locals := 0 } : Room) #[(.int (0 : Int32)), (.int (0 : Int32))] h0 (fun v h L => v = some (.int (0 : Int32)) ∧ L = [] ∧ h = h0) := by
  refine Ctr.body (Jvm.Free.JP.mathPlain rfl (by decide +kernel)) ?_
  intro p e s m below meth c T X hx hby hml hown hnm hret hlk hZ eT
  have hml : c.maxLocals = 2 := hml
  have hown : s.vm.findClass "java/lang/Math" = some m.cls := hown
  have hnm : meth.name = "max" := hnm
  have hret : meth.sig.returnType = (some .int) := hret
  refine Run.cast (show entryFrame m #[(.int (0 : Int32)), (.int (0 : Int32))] 2 = mkF m 0 #[.val (.int (0 : Int32)), .val (.int (0 : Int32))] [] from by first | (simp [entryFrame, mkF, argsToLocals, Value.category]; done) | rfl) ?_
  have wd0 := wd
  obtain ⟨S_w_NO_ITEMS, E_w_NO_ITEMS, S_w_cache, E_w_cache, V_w_NO_ITEMS, S_w_high, B_w_cache⟩ := wd
  have wd := wd0
  have N : Fr Z.heap.size [] := Fr.nil _
  have KK : Keep h0 h0 [] := Keep.refl h0 []
  refine q_iloadN (pc' := 1) X hx (hb hby d_jdk_29_method_65_code_0) rfl rfl ?_
  refine q_iloadN (pc' := 2) X hx (hb hby d_jdk_29_method_65_code_1) rfl rfl ?_
  refine q_icmpNo (pc' := 5) X hx (hb hby d_jdk_29_method_65_code_2) (by decide) rfl ?_
  refine q_iloadN (pc' := 6) X hx (hb hby d_jdk_29_method_65_code_5) rfl rfl ?_
  refine q_goto (pc' := 10) X hx (hb hby d_jdk_29_method_65_code_6) (by decide) (by decide) ?_
  refine Run.retI X hx hlk hret (hb hby d_jdk_29_method_65_code_10) (by decide) (by decide) ?_
  try rw [eT]
  exact ⟨rfl, rfl, rfl⟩
theorem pd_3 : parseMethodDescriptor "(II)I" = some ⟨[.int, .int], some .int⟩ := by decide +kernel
theorem d_prog_20_method_6_code_0 : decode prog_20_method_6_code 0 = .ok (.aload_n 0, 1) := by decide +kernel
theorem d_prog_20_method_6_code_1 : decode prog_20_method_6_code 1 = .ok (.getfield 20, 3) := by decide +kernel
theorem d_prog_20_method_6_code_4 : decode prog_20_method_6_code 4 = .ok (.aload_n 0, 1) := by decide +kernel
theorem d_prog_20_method_6_code_5 : decode prog_20_method_6_code 5 = .ok (.getfield 16, 3) := by decide +kernel
theorem d_prog_20_method_6_code_8 : decode prog_20_method_6_code 8 = .ok (.isub, 1) := by decide +kernel
theorem d_prog_20_method_6_code_9 : decode prog_20_method_6_code 9 = .ok (.ireturn, 1) := by decide +kernel
set_option maxRecDepth 65536 in
set_option maxHeartbeats 40000000 in
theorem c5_size {l : Launch} {Z : State} {a0 : Array Value} (hw : ∀ d ∈ tables_1, d.before a0 Z = true) {w_NO_ITEMS : Addr} {w_cache : Addr} {k_w_NO_ITEMS : ClassId} {cl_w_cache : Cell} (wd : World Z w_NO_ITEMS w_cache k_w_NO_ITEMS cl_w_cache)  {h0 : Heap} (O : Ext Z.heap h0) {o0 : Addr} (E_o0 : Exa Z h0 o0 "com/example/roundel/roundel/dag/ItemArray") (F_items_o0 : Fld Z h0 o0 "com/example/roundel/roundel/dag/ItemArray" "items" "[Ljava/lang/Object;" (.ref w_NO_ITEMS)) (F_end_o0 : Fld Z h0 o0 "com/example/roundel/roundel/dag/ItemArray" "end" "I" (.int (0 : Int32))) (F_first_o0 : Fld Z h0 o0 "com/example/roundel/roundel/dag/ItemArray" "first" "I" (.int (0 : Int32))) :
    Ctr l Z y5 prog_20_method_6_code 1 (some .int) ({ frames := 0, cells := 0, slots := 0, locals := 0 } : Room) #[(.ref o0)] h0 (fun v h L => v = some (.int (0 : Int32)) ∧ L = [] ∧ h = h0) := by
  refine Ctr.body (plainFor_of_name pn_3) ?_
  intro p e s m below meth c T X hx hby hml hown hnm hret hlk hZ eT
  have hml : c.maxLocals = 1 := hml
  have hown : s.vm.findClass "com/example/roundel/roundel/dag/ItemArray" = some m.cls := hown
  have hnm : meth.name = "size" := hnm
  have hret : meth.sig.returnType = (some .int) := hret
  refine Run.cast (show entryFrame m #[(.ref o0)] 1 = mkF m 0 #[.val (.ref o0)] [] from by first | (simp [entryFrame, mkF, argsToLocals, Value.category]; done) | rfl) ?_
  have wd0 := wd
  obtain ⟨S_w_NO_ITEMS, E_w_NO_ITEMS, S_w_cache, E_w_cache, V_w_NO_ITEMS, S_w_high, B_w_cache⟩ := wd
  have wd := wd0
  have N : Fr Z.heap.size [] := Fr.nil _
  have KK : Keep h0 h0 [] := Keep.refl h0 []
  refine q_aloadN (pc' := 1) X hx (hb hby d_prog_20_method_6_code_0) rfl rfl rfl ?_
  refine q_getF (pc' := 4) X hx hZ hown (hb hby d_prog_20_method_6_code_1) (host := "") (Or.inl (t29 hw)) eT F_end_o0 rfl ?_
  intro T X eT
  refine q_aloadN (pc' := 5) X hx (hb hby d_prog_20_method_6_code_4) rfl rfl rfl ?_
  refine q_getF (pc' := 8) X hx hZ hown (hb hby d_prog_20_method_6_code_5) (host := "") (Or.inl (t31 hw)) eT F_first_o0 rfl ?_
  intro T X eT
  refine q_isub (pc' := 9) (z := (0 : Int32)) X hx (hb hby d_prog_20_method_6_code_8) (by decide) rfl ?_
  refine Run.retI X hx hlk hret (hb hby d_prog_20_method_6_code_9) (by decide) (by decide) ?_
  try rw [eT]
  exact ⟨rfl, rfl, rfl⟩
theorem pd_4 : parseMethodDescriptor "()I" = some ⟨[], some .int⟩ := by decide +kernel
theorem d_prog_20_method_3_code_0 : decode prog_20_method_3_code 0 = .ok (.aload_n 0, 1) := by decide +kernel
theorem d_prog_20_method_3_code_1 : decode prog_20_method_3_code 1 = .ok (.getfield 16, 3) := by decide +kernel
theorem d_prog_20_method_3_code_4 : decode prog_20_method_3_code 4 = .ok (.aload_n 0, 1) := by decide +kernel
theorem d_prog_20_method_3_code_5 : decode prog_20_method_3_code 5 = .ok (.getfield 20, 3) := by decide +kernel
theorem d_prog_20_method_3_code_8 : decode prog_20_method_3_code 8 = .ok (.if_icmp .ne 7, 3) := by decide +kernel
theorem d_prog_20_method_3_code_11 : decode prog_20_method_3_code 11 = .ok (.aconst_null, 1) := by decide +kernel
theorem d_prog_20_method_3_code_12 : decode prog_20_method_3_code 12 = .ok (.goto 12, 3) := by decide +kernel
theorem d_prog_20_method_3_code_24 : decode prog_20_method_3_code 24 = .ok (.areturn, 1) := by decide +kernel
set_option maxRecDepth 65536 in
set_option maxHeartbeats 40000000 in
theorem c6_peek {l : Launch} {Z : State} {a0 : Array Value} (hw : ∀ d ∈ tables_1, d.before a0 Z = true) {w_NO_ITEMS : Addr} {w_cache : Addr} {k_w_NO_ITEMS : ClassId} {cl_w_cache : Cell} (wd : World Z w_NO_ITEMS w_cache k_w_NO_ITEMS cl_w_cache)  {h0 : Heap} (O : Ext Z.heap h0) {o0 : Addr} (E_o0 : Exa Z h0 o0 "com/example/roundel/roundel/dag/ItemArray") (F_items_o0 : Fld Z h0 o0 "com/example/roundel/roundel/dag/ItemArray" "items" "[Ljava/lang/Object;" (.ref w_NO_ITEMS)) (F_end_o0 : Fld Z h0 o0 "com/example/roundel/roundel/dag/ItemArray" "end" "I" (.int (0 : Int32))) (F_first_o0 : Fld Z h0 o0 "com/example/roundel/roundel/dag/ItemArray" "first" "I" (.int (0 : Int32))) :
    Ctr l Z y6 prog_20_method_3_code 1 (some (.object "java/lang/Object")) ({ frames := 0, cells := 0, slots := 0, locals := 0 } : Room) #[(.ref o0)] h0 (fun v h L => v = some .null ∧ L = [] ∧ h = h0) := by
  refine Ctr.body (plainFor_of_name pn_3) ?_
  intro p e s m below meth c T X hx hby hml hown hnm hret hlk hZ eT
  have hml : c.maxLocals = 1 := hml
  have hown : s.vm.findClass "com/example/roundel/roundel/dag/ItemArray" = some m.cls := hown
  have hnm : meth.name = "peek" := hnm
  have hret : meth.sig.returnType = (some (.object "java/lang/Object")) := hret
  refine Run.cast (show entryFrame m #[(.ref o0)] 1 = mkF m 0 #[.val (.ref o0)] [] from by first | (simp [entryFrame, mkF, argsToLocals, Value.category]; done) | rfl) ?_
  have wd0 := wd
  obtain ⟨S_w_NO_ITEMS, E_w_NO_ITEMS, S_w_cache, E_w_cache, V_w_NO_ITEMS, S_w_high, B_w_cache⟩ := wd
  have wd := wd0
  have N : Fr Z.heap.size [] := Fr.nil _
  have KK : Keep h0 h0 [] := Keep.refl h0 []
  refine q_aloadN (pc' := 1) X hx (hb hby d_prog_20_method_3_code_0) rfl rfl rfl ?_
  refine q_getF (pc' := 4) X hx hZ hown (hb hby d_prog_20_method_3_code_1) (host := "") (Or.inl (t31 hw)) eT F_first_o0 rfl ?_
  intro T X eT
  refine q_aloadN (pc' := 5) X hx (hb hby d_prog_20_method_3_code_4) rfl rfl rfl ?_
  refine q_getF (pc' := 8) X hx hZ hown (hb hby d_prog_20_method_3_code_5) (host := "") (Or.inl (t29 hw)) eT F_end_o0 rfl ?_
  intro T X eT
  refine q_icmpNo (pc' := 11) X hx (hb hby d_prog_20_method_3_code_8) (by decide) rfl ?_
  refine q_null (pc' := 12) X hx (hb hby d_prog_20_method_3_code_11) rfl ?_
  refine q_goto (pc' := 24) X hx (hb hby d_prog_20_method_3_code_12) (by decide) (by decide) ?_
  refine Run.retR X hx hlk hret (hb hby d_prog_20_method_3_code_24) rfl rfl (by decide) (by decide) ?_
  try rw [eT]
  exact ⟨rfl, rfl, rfl⟩
theorem pd_5 : parseMethodDescriptor "()Ljava/lang/Object;" = some ⟨[], some (.object "java/lang/Object")⟩ := by decide +kernel
theorem d_method_2_code_0 : decode method_2_code 0 = .ok (.iload_n 0, 1) := by decide +kernel
theorem d_method_2_code_1 : decode method_2_code 1 = .ok (.iload_n 1, 1) := by decide +kernel
theorem d_method_2_code_2 : decode method_2_code 2 = .ok (.if_icmp .le 5, 3) := by decide +kernel
theorem d_method_2_code_5 : decode method_2_code 5 = .ok (.aconst_null, 1) := by decide +kernel
theorem d_method_2_code_6 : decode method_2_code 6 = .ok (.areturn, 1) := by decide +kernel
set_option maxRecDepth 65536 in
set_option maxHeartbeats 40000000 in
theorem c7_expected {l : Launch} {Z : State} {a0 : Array Value} (hw : ∀ d ∈ tables_1, d.before a0 Z = true) {w_NO_ITEMS : Addr} {w_cache : Addr} {k_w_NO_ITEMS : ClassId} {cl_w_cache : Cell} (wd : World Z w_NO_ITEMS w_cache k_w_NO_ITEMS cl_w_cache) (x0 : Int32) (x1 : Int32) (x2 : Int32) {h0 : Heap} (O : Ext Z.heap h0) {o0 : Addr} {o1 : Addr} {o2 : Addr} (E_o0 : Exa Z h0 o0 "java/lang/Integer") (F_value_o0 : Fld Z h0 o0 "java/lang/Integer" "value" "I" (.int x0)) (E_o1 : Exa Z h0 o1 "java/lang/Integer") (F_value_o1 : Fld Z h0 o1 "java/lang/Integer" "value" "I" (.int x1)) (E_o2 : Exa Z h0 o2 "java/lang/Integer") (F_value_o2 : Fld Z h0 o2 "java/lang/Integer" "value" "I" (.int x2)) :
    Ctr l Z y7 method_2_code 5 (some (.object "java/lang/Object")) ({ frames := 0, cells := 0, slots := 0, locals := 0 } : Room) #[(.int (1 : Int32)), (.int (0 : Int32)), (.ref o0), (.ref o1), (.ref o2)] h0 (fun v h L => v = some .null ∧ L = [] ∧ h = h0) := by
  refine Ctr.body (plainFor_of_name pn_2) ?_
  intro p e s m below meth c T X hx hby hml hown hnm hret hlk hZ eT
  have hml : c.maxLocals = 5 := hml
  have hown : s.vm.findClass "com/example/roundel/roundel/dag/ItemArrayPollPinLaw" = some m.cls := hown
  have hnm : meth.name = "expected" := hnm
  have hret : meth.sig.returnType = (some (.object "java/lang/Object")) := hret
  refine Run.cast (show entryFrame m #[(.int (1 : Int32)), (.int (0 : Int32)), (.ref o0), (.ref o1), (.ref o2)] 5 = mkF m 0 #[.val (.int (1 : Int32)), .val (.int (0 : Int32)), .val (.ref o0), .val (.ref o1), .val (.ref o2)] [] from by first | (simp [entryFrame, mkF, argsToLocals, Value.category]; done) | rfl) ?_
  have wd0 := wd
  obtain ⟨S_w_NO_ITEMS, E_w_NO_ITEMS, S_w_cache, E_w_cache, V_w_NO_ITEMS, S_w_high, B_w_cache⟩ := wd
  have wd := wd0
  have N : Fr Z.heap.size [] := Fr.nil _
  have KK : Keep h0 h0 [] := Keep.refl h0 []
  refine q_iloadN (pc' := 1) X hx (hb hby d_method_2_code_0) rfl rfl ?_
  refine q_iloadN (pc' := 2) X hx (hb hby d_method_2_code_1) rfl rfl ?_
  refine q_icmpNo (pc' := 5) X hx (hb hby d_method_2_code_2) (by decide) rfl ?_
  refine q_null (pc' := 6) X hx (hb hby d_method_2_code_5) rfl ?_
  refine Run.retR X hx hlk hret (hb hby d_method_2_code_6) rfl rfl (by decide) (by decide) ?_
  try rw [eT]
  exact ⟨rfl, rfl, rfl⟩
theorem pd_6 : parseMethodDescriptor "(IILjava/lang/Object;Ljava/lang/Object;Ljava/lang/Object;)Ljava/lang/Object;" = some ⟨[.int, .int, (.object "java/lang/Object"), (.object "java/lang/Object"), (.object "java/lang/Object")], some (.object "java/lang/Object")⟩ := by decide +kernel
theorem d_prog_20_method_4_code_0 : decode prog_20_method_4_code 0 = .ok (.aload_n 0, 1) := by decide +kernel
theorem d_prog_20_method_4_code_1 : decode prog_20_method_4_code 1 = .ok (.getfield 16, 3) := by decide +kernel
theorem d_prog_20_method_4_code_4 : decode prog_20_method_4_code 4 = .ok (.aload_n 0, 1) := by decide +kernel
theorem d_prog_20_method_4_code_5 : decode prog_20_method_4_code 5 = .ok (.getfield 20, 3) := by decide +kernel
theorem d_prog_20_method_4_code_8 : decode prog_20_method_4_code 8 = .ok (.if_icmp .ne 5, 3) := by decide +kernel
theorem d_prog_20_method_4_code_11 : decode prog_20_method_4_code 11 = .ok (.aconst_null, 1) := by decide +kernel
theorem d_prog_20_method_4_code_12 : decode prog_20_method_4_code 12 = .ok (.areturn, 1) := by decide +kernel
set_option maxRecDepth 65536 in
set_option maxHeartbeats 40000000 in
theorem c8_poll {l : Launch} {Z : State} {a0 : Array Value} (hw : ∀ d ∈ tables_1, d.before a0 Z = true) {w_NO_ITEMS : Addr} {w_cache : Addr} {k_w_NO_ITEMS : ClassId} {cl_w_cache : Cell} (wd : World Z w_NO_ITEMS w_cache k_w_NO_ITEMS cl_w_cache)  {h0 : Heap} (O : Ext Z.heap h0) {o0 : Addr} (E_o0 : Exa Z h0 o0 "com/example/roundel/roundel/dag/ItemArray") (F_items_o0 : Fld Z h0 o0 "com/example/roundel/roundel/dag/ItemArray" "items" "[Ljava/lang/Object;" (.ref w_NO_ITEMS)) (F_end_o0 : Fld Z h0 o0 "com/example/roundel/roundel/dag/ItemArray" "end" "I" (.int (0 : Int32))) (F_first_o0 : Fld Z h0 o0 "com/example/roundel/roundel/dag/ItemArray" "first" "I" (.int (0 : Int32))) :
    Ctr l Z y8 prog_20_method_4_code 2 (some (.object "java/lang/Object")) ({ frames := 0, cells := 0, slots := 0, locals := 0 } : Room) #[(.ref o0)] h0 (fun v h L => v = some .null ∧ L = [] ∧ h = h0) := by
  refine Ctr.body (plainFor_of_name pn_3) ?_
  intro p e s m below meth c T X hx hby hml hown hnm hret hlk hZ eT
  have hml : c.maxLocals = 2 := hml
  have hown : s.vm.findClass "com/example/roundel/roundel/dag/ItemArray" = some m.cls := hown
  have hnm : meth.name = "poll" := hnm
  have hret : meth.sig.returnType = (some (.object "java/lang/Object")) := hret
  refine Run.cast (show entryFrame m #[(.ref o0)] 2 = mkF m 0 #[.val (.ref o0), .unset] [] from by first | (simp [entryFrame, mkF, argsToLocals, Value.category]; done) | rfl) ?_
  have wd0 := wd
  obtain ⟨S_w_NO_ITEMS, E_w_NO_ITEMS, S_w_cache, E_w_cache, V_w_NO_ITEMS, S_w_high, B_w_cache⟩ := wd
  have wd := wd0
  have N : Fr Z.heap.size [] := Fr.nil _
  have KK : Keep h0 h0 [] := Keep.refl h0 []
  refine q_aloadN (pc' := 1) X hx (hb hby d_prog_20_method_4_code_0) rfl rfl rfl ?_
  refine q_getF (pc' := 4) X hx hZ hown (hb hby d_prog_20_method_4_code_1) (host := "") (Or.inl (t31 hw)) eT F_first_o0 rfl ?_
  intro T X eT
  refine q_aloadN (pc' := 5) X hx (hb hby d_prog_20_method_4_code_4) rfl rfl rfl ?_
  refine q_getF (pc' := 8) X hx hZ hown (hb hby d_prog_20_method_4_code_5) (host := "") (Or.inl (t29 hw)) eT F_end_o0 rfl ?_
  intro T X eT
  refine q_icmpNo (pc' := 11) X hx (hb hby d_prog_20_method_4_code_8) (by decide) rfl ?_
  refine q_null (pc' := 12) X hx (hb hby d_prog_20_method_4_code_11) rfl ?_
  refine Run.retR X hx hlk hret (hb hby d_prog_20_method_4_code_12) rfl rfl (by decide) (by decide) ?_
  try rw [eT]
  exact ⟨rfl, rfl, rfl⟩
theorem d_jdk_29_method_65_code_9 : decode jdk_29_method_65_code 9 = .ok (.iload_n 1, 1) := by decide +kernel
set_option maxRecDepth 65536 in
set_option maxHeartbeats 40000000 in
theorem c9_max {l : Launch} {Z : State} {a0 : Array Value} (hw : ∀ d ∈ tables_1, d.before a0 Z = true) {w_NO_ITEMS : Addr} {w_cache : Addr} {k_w_NO_ITEMS : ClassId} {cl_w_cache : Cell} (wd : World Z w_NO_ITEMS w_cache k_w_NO_ITEMS cl_w_cache)  {h0 : Heap} (O : Ext Z.heap h0)  :
    Ctr l Z y4 jdk_29_method_65_code 2 (some .int) ({ frames := 0, cells := 0, slots := 0, locals := 0 } : Room) #[(.int (-1 : Int32)), (.int (0 : Int32))] h0 (fun v h L => v = some (.int (0 : Int32)) ∧ L = [] ∧ h = h0) := by
  refine Ctr.body (Jvm.Free.JP.mathPlain rfl (by decide +kernel)) ?_
  intro p e s m below meth c T X hx hby hml hown hnm hret hlk hZ eT
  have hml : c.maxLocals = 2 := hml
  have hown : s.vm.findClass "java/lang/Math" = some m.cls := hown
  have hnm : meth.name = "max" := hnm
  have hret : meth.sig.returnType = (some .int) := hret
  refine Run.cast (show entryFrame m #[(.int (-1 : Int32)), (.int (0 : Int32))] 2 = mkF m 0 #[.val (.int (-1 : Int32)), .val (.int (0 : Int32))] [] from by first | (simp [entryFrame, mkF, argsToLocals, Value.category]; done) | rfl) ?_
  have wd0 := wd
  obtain ⟨S_w_NO_ITEMS, E_w_NO_ITEMS, S_w_cache, E_w_cache, V_w_NO_ITEMS, S_w_high, B_w_cache⟩ := wd
  have wd := wd0
  have N : Fr Z.heap.size [] := Fr.nil _
  have KK : Keep h0 h0 [] := Keep.refl h0 []
  refine q_iloadN (pc' := 1) X hx (hb hby d_jdk_29_method_65_code_0) rfl rfl ?_
  refine q_iloadN (pc' := 2) X hx (hb hby d_jdk_29_method_65_code_1) rfl rfl ?_
  refine q_icmpYes (pc' := 9) X hx (hb hby d_jdk_29_method_65_code_2) (by decide) (by decide) (by decide) ?_
  refine q_iloadN (pc' := 10) X hx (hb hby d_jdk_29_method_65_code_9) rfl rfl ?_
  refine Run.retI X hx hlk hret (hb hby d_jdk_29_method_65_code_10) (by decide) (by decide) ?_
  try rw [eT]
  exact ⟨rfl, rfl, rfl⟩
set_option maxRecDepth 65536 in
set_option maxHeartbeats 40000000 in
theorem c10_expected {l : Launch} {Z : State} {a0 : Array Value} (hw : ∀ d ∈ tables_1, d.before a0 Z = true) {w_NO_ITEMS : Addr} {w_cache : Addr} {k_w_NO_ITEMS : ClassId} {cl_w_cache : Cell} (wd : World Z w_NO_ITEMS w_cache k_w_NO_ITEMS cl_w_cache) (x0 : Int32) (x1 : Int32) (x2 : Int32) {h0 : Heap} (O : Ext Z.heap h0) {o0 : Addr} {o1 : Addr} {o2 : Addr} (E_o0 : Exa Z h0 o0 "java/lang/Integer") (F_value_o0 : Fld Z h0 o0 "java/lang/Integer" "value" "I" (.int x0)) (E_o1 : Exa Z h0 o1 "java/lang/Integer") (F_value_o1 : Fld Z h0 o1 "java/lang/Integer" "value" "I" (.int x1)) (E_o2 : Exa Z h0 o2 "java/lang/Integer") (F_value_o2 : Fld Z h0 o2 "java/lang/Integer" "value" "I" (.int x2)) :
    Ctr l Z y7 method_2_code 5 (some (.object "java/lang/Object")) ({ frames := 0, cells := 0, slots := 0, locals := 0 } : Room) #[(.int (2 : Int32)), (.int (0 : Int32)), (.ref o0), (.ref o1), (.ref o2)] h0 (fun v h L => v = some .null ∧ L = [] ∧ h = h0) := by
  refine Ctr.body (plainFor_of_name pn_2) ?_
  intro p e s m below meth c T X hx hby hml hown hnm hret hlk hZ eT
  have hml : c.maxLocals = 5 := hml
  have hown : s.vm.findClass "com/example/roundel/roundel/dag/ItemArrayPollPinLaw" = some m.cls := hown
  have hnm : meth.name = "expected" := hnm
  have hret : meth.sig.returnType = (some (.object "java/lang/Object")) := hret
  refine Run.cast (show entryFrame m #[(.int (2 : Int32)), (.int (0 : Int32)), (.ref o0), (.ref o1), (.ref o2)] 5 = mkF m 0 #[.val (.int (2 : Int32)), .val (.int (0 : Int32)), .val (.ref o0), .val (.ref o1), .val (.ref o2)] [] from by first | (simp [entryFrame, mkF, argsToLocals, Value.category]; done) | rfl) ?_
  have wd0 := wd
  obtain ⟨S_w_NO_ITEMS, E_w_NO_ITEMS, S_w_cache, E_w_cache, V_w_NO_ITEMS, S_w_high, B_w_cache⟩ := wd
  have wd := wd0
  have N : Fr Z.heap.size [] := Fr.nil _
  have KK : Keep h0 h0 [] := Keep.refl h0 []
  refine q_iloadN (pc' := 1) X hx (hb hby d_method_2_code_0) rfl rfl ?_
  refine q_iloadN (pc' := 2) X hx (hb hby d_method_2_code_1) rfl rfl ?_
  refine q_icmpNo (pc' := 5) X hx (hb hby d_method_2_code_2) (by decide) rfl ?_
  refine q_null (pc' := 6) X hx (hb hby d_method_2_code_5) rfl ?_
  refine Run.retR X hx hlk hret (hb hby d_method_2_code_6) rfl rfl (by decide) (by decide) ?_
  try rw [eT]
  exact ⟨rfl, rfl, rfl⟩
set_option maxRecDepth 65536 in
set_option maxHeartbeats 40000000 in
theorem c11_max {l : Launch} {Z : State} {a0 : Array Value} (hw : ∀ d ∈ tables_1, d.before a0 Z = true) {w_NO_ITEMS : Addr} {w_cache : Addr} {k_w_NO_ITEMS : ClassId} {cl_w_cache : Cell} (wd : World Z w_NO_ITEMS w_cache k_w_NO_ITEMS cl_w_cache)  {h0 : Heap} (O : Ext Z.heap h0)  :
    Ctr l Z y4 jdk_29_method_65_code 2 (some .int) ({ frames := 0, cells := 0, slots := 0, locals := 0 } : Room) #[(.int (-2 : Int32)), (.int (0 : Int32))] h0 (fun v h L => v = some (.int (0 : Int32)) ∧ L = [] ∧ h = h0) := by
  refine Ctr.body (Jvm.Free.JP.mathPlain rfl (by decide +kernel)) ?_
  intro p e s m below meth c T X hx hby hml hown hnm hret hlk hZ eT
  have hml : c.maxLocals = 2 := hml
  have hown : s.vm.findClass "java/lang/Math" = some m.cls := hown
  have hnm : meth.name = "max" := hnm
  have hret : meth.sig.returnType = (some .int) := hret
  refine Run.cast (show entryFrame m #[(.int (-2 : Int32)), (.int (0 : Int32))] 2 = mkF m 0 #[.val (.int (-2 : Int32)), .val (.int (0 : Int32))] [] from by first | (simp [entryFrame, mkF, argsToLocals, Value.category]; done) | rfl) ?_
  have wd0 := wd
  obtain ⟨S_w_NO_ITEMS, E_w_NO_ITEMS, S_w_cache, E_w_cache, V_w_NO_ITEMS, S_w_high, B_w_cache⟩ := wd
  have wd := wd0
  have N : Fr Z.heap.size [] := Fr.nil _
  have KK : Keep h0 h0 [] := Keep.refl h0 []
  refine q_iloadN (pc' := 1) X hx (hb hby d_jdk_29_method_65_code_0) rfl rfl ?_
  refine q_iloadN (pc' := 2) X hx (hb hby d_jdk_29_method_65_code_1) rfl rfl ?_
  refine q_icmpYes (pc' := 9) X hx (hb hby d_jdk_29_method_65_code_2) (by decide) (by decide) (by decide) ?_
  refine q_iloadN (pc' := 10) X hx (hb hby d_jdk_29_method_65_code_9) rfl rfl ?_
  refine Run.retI X hx hlk hret (hb hby d_jdk_29_method_65_code_10) (by decide) (by decide) ?_
  try rw [eT]
  exact ⟨rfl, rfl, rfl⟩
set_option maxRecDepth 65536 in
set_option maxHeartbeats 40000000 in
theorem c12_expected {l : Launch} {Z : State} {a0 : Array Value} (hw : ∀ d ∈ tables_1, d.before a0 Z = true) {w_NO_ITEMS : Addr} {w_cache : Addr} {k_w_NO_ITEMS : ClassId} {cl_w_cache : Cell} (wd : World Z w_NO_ITEMS w_cache k_w_NO_ITEMS cl_w_cache) (x0 : Int32) (x1 : Int32) (x2 : Int32) {h0 : Heap} (O : Ext Z.heap h0) {o0 : Addr} {o1 : Addr} {o2 : Addr} (E_o0 : Exa Z h0 o0 "java/lang/Integer") (F_value_o0 : Fld Z h0 o0 "java/lang/Integer" "value" "I" (.int x0)) (E_o1 : Exa Z h0 o1 "java/lang/Integer") (F_value_o1 : Fld Z h0 o1 "java/lang/Integer" "value" "I" (.int x1)) (E_o2 : Exa Z h0 o2 "java/lang/Integer") (F_value_o2 : Fld Z h0 o2 "java/lang/Integer" "value" "I" (.int x2)) :
    Ctr l Z y7 method_2_code 5 (some (.object "java/lang/Object")) ({ frames := 0, cells := 0, slots := 0, locals := 0 } : Room) #[(.int (3 : Int32)), (.int (0 : Int32)), (.ref o0), (.ref o1), (.ref o2)] h0 (fun v h L => v = some .null ∧ L = [] ∧ h = h0) := by
  refine Ctr.body (plainFor_of_name pn_2) ?_
  intro p e s m below meth c T X hx hby hml hown hnm hret hlk hZ eT
  have hml : c.maxLocals = 5 := hml
  have hown : s.vm.findClass "com/example/roundel/roundel/dag/ItemArrayPollPinLaw" = some m.cls := hown
  have hnm : meth.name = "expected" := hnm
  have hret : meth.sig.returnType = (some (.object "java/lang/Object")) := hret
  refine Run.cast (show entryFrame m #[(.int (3 : Int32)), (.int (0 : Int32)), (.ref o0), (.ref o1), (.ref o2)] 5 = mkF m 0 #[.val (.int (3 : Int32)), .val (.int (0 : Int32)), .val (.ref o0), .val (.ref o1), .val (.ref o2)] [] from by first | (simp [entryFrame, mkF, argsToLocals, Value.category]; done) | rfl) ?_
  have wd0 := wd
  obtain ⟨S_w_NO_ITEMS, E_w_NO_ITEMS, S_w_cache, E_w_cache, V_w_NO_ITEMS, S_w_high, B_w_cache⟩ := wd
  have wd := wd0
  have N : Fr Z.heap.size [] := Fr.nil _
  have KK : Keep h0 h0 [] := Keep.refl h0 []
  refine q_iloadN (pc' := 1) X hx (hb hby d_method_2_code_0) rfl rfl ?_
  refine q_iloadN (pc' := 2) X hx (hb hby d_method_2_code_1) rfl rfl ?_
  refine q_icmpNo (pc' := 5) X hx (hb hby d_method_2_code_2) (by decide) rfl ?_
  refine q_null (pc' := 6) X hx (hb hby d_method_2_code_5) rfl ?_
  refine Run.retR X hx hlk hret (hb hby d_method_2_code_6) rfl rfl (by decide) (by decide) ?_
  try rw [eT]
  exact ⟨rfl, rfl, rfl⟩
set_option maxRecDepth 65536 in
set_option maxHeartbeats 40000000 in
theorem c13_max {l : Launch} {Z : State} {a0 : Array Value} (hw : ∀ d ∈ tables_1, d.before a0 Z = true) {w_NO_ITEMS : Addr} {w_cache : Addr} {k_w_NO_ITEMS : ClassId} {cl_w_cache : Cell} (wd : World Z w_NO_ITEMS w_cache k_w_NO_ITEMS cl_w_cache)  {h0 : Heap} (O : Ext Z.heap h0)  :
    Ctr l Z y4 jdk_29_method_65_code 2 (some .int) ({ frames := 0, cells := 0, slots := 0, locals := 0 } : Room) #[(.int (-3 : Int32)), (.int (0 : Int32))] h0 (fun v h L => v = some (.int (0 : Int32)) ∧ L = [] ∧ h = h0) := by
  refine Ctr.body (Jvm.Free.JP.mathPlain rfl (by decide +kernel)) ?_
  intro p e s m below meth c T X hx hby hml hown hnm hret hlk hZ eT
  have hml : c.maxLocals = 2 := hml
  have hown : s.vm.findClass "java/lang/Math" = some m.cls := hown
  have hnm : meth.name = "max" := hnm
  have hret : meth.sig.returnType = (some .int) := hret
  refine Run.cast (show entryFrame m #[(.int (-3 : Int32)), (.int (0 : Int32))] 2 = mkF m 0 #[.val (.int (-3 : Int32)), .val (.int (0 : Int32))] [] from by first | (simp [entryFrame, mkF, argsToLocals, Value.category]; done) | rfl) ?_
  have wd0 := wd
  obtain ⟨S_w_NO_ITEMS, E_w_NO_ITEMS, S_w_cache, E_w_cache, V_w_NO_ITEMS, S_w_high, B_w_cache⟩ := wd
  have wd := wd0
  have N : Fr Z.heap.size [] := Fr.nil _
  have KK : Keep h0 h0 [] := Keep.refl h0 []
  refine q_iloadN (pc' := 1) X hx (hb hby d_jdk_29_method_65_code_0) rfl rfl ?_
  refine q_iloadN (pc' := 2) X hx (hb hby d_jdk_29_method_65_code_1) rfl rfl ?_
  refine q_icmpYes (pc' := 9) X hx (hb hby d_jdk_29_method_65_code_2) (by decide) (by decide) (by decide) ?_
  refine q_iloadN (pc' := 10) X hx (hb hby d_jdk_29_method_65_code_9) rfl rfl ?_
  refine Run.retI X hx hlk hret (hb hby d_jdk_29_method_65_code_10) (by decide) (by decide) ?_
  try rw [eT]
  exact ⟨rfl, rfl, rfl⟩
set_option maxRecDepth 65536 in
set_option maxHeartbeats 40000000 in
theorem c14_expected {l : Launch} {Z : State} {a0 : Array Value} (hw : ∀ d ∈ tables_1, d.before a0 Z = true) {w_NO_ITEMS : Addr} {w_cache : Addr} {k_w_NO_ITEMS : ClassId} {cl_w_cache : Cell} (wd : World Z w_NO_ITEMS w_cache k_w_NO_ITEMS cl_w_cache) (x0 : Int32) (x1 : Int32) (x2 : Int32) {h0 : Heap} (O : Ext Z.heap h0) {o0 : Addr} {o1 : Addr} {o2 : Addr} (E_o0 : Exa Z h0 o0 "java/lang/Integer") (F_value_o0 : Fld Z h0 o0 "java/lang/Integer" "value" "I" (.int x0)) (E_o1 : Exa Z h0 o1 "java/lang/Integer") (F_value_o1 : Fld Z h0 o1 "java/lang/Integer" "value" "I" (.int x1)) (E_o2 : Exa Z h0 o2 "java/lang/Integer") (F_value_o2 : Fld Z h0 o2 "java/lang/Integer" "value" "I" (.int x2)) :
    Ctr l Z y7 method_2_code 5 (some (.object "java/lang/Object")) ({ frames := 0, cells := 0, slots := 0, locals := 0 } : Room) #[(.int (4 : Int32)), (.int (0 : Int32)), (.ref o0), (.ref o1), (.ref o2)] h0 (fun v h L => v = some .null ∧ L = [] ∧ h = h0) := by
  refine Ctr.body (plainFor_of_name pn_2) ?_
  intro p e s m below meth c T X hx hby hml hown hnm hret hlk hZ eT
  have hml : c.maxLocals = 5 := hml
  have hown : s.vm.findClass "com/example/roundel/roundel/dag/ItemArrayPollPinLaw" = some m.cls := hown
  have hnm : meth.name = "expected" := hnm
  have hret : meth.sig.returnType = (some (.object "java/lang/Object")) := hret
  refine Run.cast (show entryFrame m #[(.int (4 : Int32)), (.int (0 : Int32)), (.ref o0), (.ref o1), (.ref o2)] 5 = mkF m 0 #[.val (.int (4 : Int32)), .val (.int (0 : Int32)), .val (.ref o0), .val (.ref o1), .val (.ref o2)] [] from by first | (simp [entryFrame, mkF, argsToLocals, Value.category]; done) | rfl) ?_
  have wd0 := wd
  obtain ⟨S_w_NO_ITEMS, E_w_NO_ITEMS, S_w_cache, E_w_cache, V_w_NO_ITEMS, S_w_high, B_w_cache⟩ := wd
  have wd := wd0
  have N : Fr Z.heap.size [] := Fr.nil _
  have KK : Keep h0 h0 [] := Keep.refl h0 []
  refine q_iloadN (pc' := 1) X hx (hb hby d_method_2_code_0) rfl rfl ?_
  refine q_iloadN (pc' := 2) X hx (hb hby d_method_2_code_1) rfl rfl ?_
  refine q_icmpNo (pc' := 5) X hx (hb hby d_method_2_code_2) (by decide) rfl ?_
  refine q_null (pc' := 6) X hx (hb hby d_method_2_code_5) rfl ?_
  refine Run.retR X hx hlk hret (hb hby d_method_2_code_6) rfl rfl (by decide) (by decide) ?_
  try rw [eT]
  exact ⟨rfl, rfl, rfl⟩
theorem d_prog_20_method_7_code_0 : decode prog_20_method_7_code 0 = .ok (.aload_n 0, 1) := by decide +kernel
theorem d_prog_20_method_7_code_1 : decode prog_20_method_7_code 1 = .ok (.getfield 20, 3) := by decide +kernel
theorem d_prog_20_method_7_code_4 : decode prog_20_method_7_code 4 = .ok (.aload_n 0, 1) := by decide +kernel
theorem d_prog_20_method_7_code_5 : decode prog_20_method_7_code 5 = .ok (.getfield 13, 3) := by decide +kernel
theorem d_prog_20_method_7_code_8 : decode prog_20_method_7_code 8 = .ok (.arraylength, 1) := by decide +kernel
theorem d_prog_20_method_7_code_9 : decode prog_20_method_7_code 9 = .ok (.if_icmp .ne 8, 3) := by decide +kernel
theorem d_prog_20_method_7_code_12 : decode prog_20_method_7_code 12 = .ok (.aload_n 0, 1) := by decide +kernel
theorem d_prog_20_method_7_code_13 : decode prog_20_method_7_code 13 = .ok (.iconst 1, 1) := by decide +kernel
theorem d_prog_20_method_7_code_14 : decode prog_20_method_7_code 14 = .ok (.invokevirtual 30, 3) := by decide +kernel
theorem d_prog_20_method_12_code_0 : decode prog_20_method_12_code 0 = .ok (.aload_n 0, 1) := by decide +kernel
theorem d_prog_20_method_12_code_1 : decode prog_20_method_12_code 1 = .ok (.getfield 20, 3) := by decide +kernel
theorem d_prog_20_method_12_code_4 : decode prog_20_method_12_code 4 = .ok (.aload_n 0, 1) := by decide +kernel
theorem d_prog_20_method_12_code_5 : decode prog_20_method_12_code 5 = .ok (.getfield 16, 3) := by decide +kernel
theorem d_prog_20_method_12_code_8 : decode prog_20_method_12_code 8 = .ok (.isub, 1) := by decide +kernel
theorem d_prog_20_method_12_code_9 : decode prog_20_method_12_code 9 = .ok (.istore_n 2, 1) := by decide +kernel
theorem d_prog_20_method_12_code_10 : decode prog_20_method_12_code 10 = .ok (.iload_n 2, 1) := by decide +kernel
theorem d_prog_20_method_12_code_11 : decode prog_20_method_12_code 11 = .ok (.iload_n 1, 1) := by decide +kernel
theorem d_prog_20_method_12_code_12 : decode prog_20_method_12_code 12 = .ok (.iadd, 1) := by decide +kernel
theorem d_prog_20_method_12_code_13 : decode prog_20_method_12_code 13 = .ok (.istore_n 3, 1) := by decide +kernel
theorem d_prog_20_method_12_code_14 : decode prog_20_method_12_code 14 = .ok (.iload_n 3, 1) := by decide +kernel
theorem d_prog_20_method_12_code_15 : decode prog_20_method_12_code 15 = .ok (.aload_n 0, 1) := by decide +kernel
theorem d_prog_20_method_12_code_16 : decode prog_20_method_12_code 16 = .ok (.getfield 13, 3) := by decide +kernel
theorem d_prog_20_method_12_code_19 : decode prog_20_method_12_code 19 = .ok (.arraylength, 1) := by decide +kernel
theorem d_prog_20_method_12_code_20 : decode prog_20_method_12_code 20 = .ok (.iconst 2, 1) := by decide +kernel
theorem d_prog_20_method_12_code_21 : decode prog_20_method_12_code 21 = .ok (.idiv, 1) := by decide +kernel
theorem d_prog_20_method_12_code_22 : decode prog_20_method_12_code 22 = .ok (.if_icmp .le 48, 3) := by decide +kernel
theorem d_prog_20_method_12_code_25 : decode prog_20_method_12_code 25 = .ok (.bipush 16, 2) := by decide +kernel
theorem d_prog_20_method_12_code_27 : decode prog_20_method_12_code 27 = .ok (.iconst 2, 1) := by decide +kernel
theorem d_prog_20_method_12_code_28 : decode prog_20_method_12_code 28 = .ok (.aload_n 0, 1) := by decide +kernel
theorem d_prog_20_method_12_code_29 : decode prog_20_method_12_code 29 = .ok (.getfield 13, 3) := by decide +kernel
theorem d_prog_20_method_12_code_32 : decode prog_20_method_12_code 32 = .ok (.arraylength, 1) := by decide +kernel
theorem d_prog_20_method_12_code_33 : decode prog_20_method_12_code 33 = .ok (.imul, 1) := by decide +kernel
theorem d_prog_20_method_12_code_34 : decode prog_20_method_12_code 34 = .ok (.iload_n 3, 1) := by decide +kernel
theorem d_prog_20_method_12_code_35 : decode prog_20_method_12_code 35 = .ok (.invokestatic 67, 3) := by decide +kernel
set_option maxRecDepth 65536 in
set_option maxHeartbeats 40000000 in
theorem c17_max {l : Launch} {Z : State} {a0 : Array Value} (hw : ∀ d ∈ tables_1, d.before a0 Z = true) {w_NO_ITEMS : Addr} {w_cache : Addr} {k_w_NO_ITEMS : ClassId} {cl_w_cache : Cell} (wd : World Z w_NO_ITEMS w_cache k_w_NO_ITEMS cl_w_cache)  {h0 : Heap} (O : Ext Z.heap h0)  :
    Ctr l Z y4 jdk_29_method_65_code 2 (some .int) ({ frames := 0, cells := 0, slots := 0, locals := 0 } : Room) #[(.int (0 : Int32)), (.int (1 : Int32))] h0 (fun v h L => v = some (.int (1 : Int32)) ∧ L = [] ∧ h = h0) := by
  refine Ctr.body (Jvm.Free.JP.mathPlain rfl (by decide +kernel)) ?_
  intro p e s m below meth c T X hx hby hml hown hnm hret hlk hZ eT
  have hml : c.maxLocals = 2 := hml
  have hown : s.vm.findClass "java/lang/Math" = some m.cls := hown
  have hnm : meth.name = "max" := hnm
  have hret : meth.sig.returnType = (some .int) := hret
  refine Run.cast (show entryFrame m #[(.int (0 : Int32)), (.int (1 : Int32))] 2 = mkF m 0 #[.val (.int (0 : Int32)), .val (.int (1 : Int32))] [] from by first | (simp [entryFrame, mkF, argsToLocals, Value.category]; done) | rfl) ?_
  have wd0 := wd
  obtain ⟨S_w_NO_ITEMS, E_w_NO_ITEMS, S_w_cache, E_w_cache, V_w_NO_ITEMS, S_w_high, B_w_cache⟩ := wd
  have wd := wd0
  have N : Fr Z.heap.size [] := Fr.nil _
  have KK : Keep h0 h0 [] := Keep.refl h0 []
  refine q_iloadN (pc' := 1) X hx (hb hby d_jdk_29_method_65_code_0) rfl rfl ?_
  refine q_iloadN (pc' := 2) X hx (hb hby d_jdk_29_method_65_code_1) rfl rfl ?_
  refine q_icmpYes (pc' := 9) X hx (hb hby d_jdk_29_method_65_code_2) (by decide) (by decide) (by decide) ?_
  refine q_iloadN (pc' := 10) X hx (hb hby d_jdk_29_method_65_code_9) rfl rfl ?_
  refine Run.retI X hx hlk hret (hb hby d_jdk_29_method_65_code_10) (by decide) (by decide) ?_
  try rw [eT]
  exact ⟨rfl, rfl, rfl⟩
theorem d_prog_20_method_12_code_38 : decode prog_20_method_12_code 38 = .ok (.invokestatic 67, 3) := by decide +kernel
set_option maxRecDepth 65536 in
set_option maxHeartbeats 40000000 in
theorem c18_max {l : Launch} {Z : State} {a0 : Array Value} (hw : ∀ d ∈ tables_1, d.before a0 Z = true) {w_NO_ITEMS : Addr} {w_cache : Addr} {k_w_NO_ITEMS : ClassId} {cl_w_cache : Cell} (wd : World Z w_NO_ITEMS w_cache k_w_NO_ITEMS cl_w_cache)  {h0 : Heap} (O : Ext Z.heap h0)  :
    Ctr l Z y4 jdk_29_method_65_code 2 (some .int) ({ frames := 0, cells := 0, slots := 0, locals := 0 } : Room) #[(.int (16 : Int32)), (.int (1 : Int32))] h0 (fun v h L => v = some (.int (16 : Int32)) ∧ L = [] ∧ h = h0) := by
  refine Ctr.body (Jvm.Free.JP.mathPlain rfl (by decide +kernel)) ?_
  intro p e s m below meth c T X hx hby hml hown hnm hret hlk hZ eT
  have hml : c.maxLocals = 2 := hml
  have hown : s.vm.findClass "java/lang/Math" = some m.cls := hown
  have hnm : meth.name = "max" := hnm
  have hret : meth.sig.returnType = (some .int) := hret
  refine Run.cast (show entryFrame m #[(.int (16 : Int32)), (.int (1 : Int32))] 2 = mkF m 0 #[.val (.int (16 : Int32)), .val (.int (1 : Int32))] [] from by first | (simp [entryFrame, mkF, argsToLocals, Value.category]; done) | rfl) ?_
  have wd0 := wd
  obtain ⟨S_w_NO_ITEMS, E_w_NO_ITEMS, S_w_cache, E_w_cache, V_w_NO_ITEMS, S_w_high, B_w_cache⟩ := wd
  have wd := wd0
  have N : Fr Z.heap.size [] := Fr.nil _
  have KK : Keep h0 h0 [] := Keep.refl h0 []
  refine q_iloadN (pc' := 1) X hx (hb hby d_jdk_29_method_65_code_0) rfl rfl ?_
  refine q_iloadN (pc' := 2) X hx (hb hby d_jdk_29_method_65_code_1) rfl rfl ?_
  refine q_icmpNo (pc' := 5) X hx (hb hby d_jdk_29_method_65_code_2) (by decide) rfl ?_
  refine q_iloadN (pc' := 6) X hx (hb hby d_jdk_29_method_65_code_5) rfl rfl ?_
  refine q_goto (pc' := 10) X hx (hb hby d_jdk_29_method_65_code_6) (by decide) (by decide) ?_
  refine Run.retI X hx hlk hret (hb hby d_jdk_29_method_65_code_10) (by decide) (by decide) ?_
  try rw [eT]
  exact ⟨rfl, rfl, rfl⟩
theorem d_prog_20_method_12_code_41 : decode prog_20_method_12_code 41 = .ok (.anewarray 2, 3) := by decide +kernel
theorem d_prog_20_method_12_code_44 : decode prog_20_method_12_code 44 = .ok (.astore 4, 2) := by decide +kernel
theorem d_prog_20_method_12_code_46 : decode prog_20_method_12_code 46 = .ok (.aload_n 0, 1) := by decide +kernel
theorem d_prog_20_method_12_code_47 : decode prog_20_method_12_code 47 = .ok (.getfield 13, 3) := by decide +kernel
theorem d_prog_20_method_12_code_50 : decode prog_20_method_12_code 50 = .ok (.aload_n 0, 1) := by decide +kernel
theorem d_prog_20_method_12_code_51 : decode prog_20_method_12_code 51 = .ok (.getfield 16, 3) := by decide +kernel
theorem d_prog_20_method_12_code_54 : decode prog_20_method_12_code 54 = .ok (.aload 4, 2) := by decide +kernel
theorem d_prog_20_method_12_code_56 : decode prog_20_method_12_code 56 = .ok (.iconst 0, 1) := by decide +kernel
theorem d_prog_20_method_12_code_57 : decode prog_20_method_12_code 57 = .ok (.iload_n 2, 1) := by decide +kernel
theorem d_prog_20_method_12_code_58 : decode prog_20_method_12_code 58 = .ok (.invokestatic 73, 3) := by decide +kernel
theorem d_prog_20_method_12_code_61 : decode prog_20_method_12_code 61 = .ok (.aload_n 0, 1) := by decide +kernel
theorem d_prog_20_method_12_code_62 : decode prog_20_method_12_code 62 = .ok (.aload 4, 2) := by decide +kernel
theorem d_prog_20_method_12_code_64 : decode prog_20_method_12_code 64 = .ok (.putfield 13, 3) := by decide +kernel
theorem d_prog_20_method_12_code_67 : decode prog_20_method_12_code 67 = .ok (.goto 32, 3) := by decide +kernel
theorem d_prog_20_method_12_code_99 : decode prog_20_method_12_code 99 = .ok (.aload_n 0, 1) := by decide +kernel
theorem d_prog_20_method_12_code_100 : decode prog_20_method_12_code 100 = .ok (.iconst 0, 1) := by decide +kernel
theorem d_prog_20_method_12_code_101 : decode prog_20_method_12_code 101 = .ok (.putfield 16, 3) := by decide +kernel
theorem d_prog_20_method_12_code_104 : decode prog_20_method_12_code 104 = .ok (.aload_n 0, 1) := by decide +kernel
theorem d_prog_20_method_12_code_105 : decode prog_20_method_12_code 105 = .ok (.iload_n 2, 1) := by decide +kernel
theorem d_prog_20_method_12_code_106 : decode prog_20_method_12_code 106 = .ok (.putfield 20, 3) := by decide +kernel
theorem d_prog_20_method_12_code_109 : decode prog_20_method_12_code 109 = .ok (.return_, 1) := by decide +kernel
set_option maxRecDepth 65536 in
set_option maxHeartbeats 40000000 in
theorem c16_makeRoom {l : Launch} {Z : State} {a0 : Array Value} (hw : ∀ d ∈ tables_1, d.before a0 Z = true) {w_NO_ITEMS : Addr} {w_cache : Addr} {k_w_NO_ITEMS : ClassId} {cl_w_cache : Cell} (wd : World Z w_NO_ITEMS w_cache k_w_NO_ITEMS cl_w_cache)  {h0 : Heap} (O : Ext Z.heap h0) {o0 : Addr} (E_o0 : Exa Z h0 o0 "com/example/roundel/roundel/dag/ItemArray") (F_items_o0 : Fld Z h0 o0 "com/example/roundel/roundel/dag/ItemArray" "items" "[Ljava/lang/Object;" (.ref w_NO_ITEMS)) (F_end_o0 : Fld Z h0 o0 "com/example/roundel/roundel/dag/ItemArray" "end" "I" (.int (0 : Int32))) (F_first_o0 : Fld Z h0 o0 "com/example/roundel/roundel/dag/ItemArray" "first" "I" (.int (0 : Int32))) (g_o0 : Z.heap.size ≤ o0) :
    Ctr l Z y9 prog_20_method_12_code 5 none ({ frames := 1, cells := 1, slots := 16, locals := 40 } : Room) #[(.ref o0), (.int (1 : Int32))] h0 (fun v h L => ∃ (b41_0 : Addr), ∃ (k_b41_0 : ClassId), v = none ∧ Fr Z.heap.size L ∧ Keep h0 h [o0] ∧ h0.size ≤ b41_0 ∧ Exa Z h o0 "com/example/roundel/roundel/dag/ItemArray" ∧ Fld Z h o0 "com/example/roundel/roundel/dag/ItemArray" "items" "[Ljava/lang/Object;" (.ref b41_0) ∧ Fld Z h o0 "com/example/roundel/roundel/dag/ItemArray" "end" "I" (.int (0 : Int32)) ∧ Fld Z h o0 "com/example/roundel/roundel/dag/ItemArray" "first" "I" (.int (0 : Int32)) ∧ Arv Z h b41_0 k_b41_0 (.object "java/lang/Object") (16 : Int32) [.null, .null, .null, .null, .null, .null, .null, .null, .null, .null, .null, .null, .null, .null, .null, .null] .null ∧ Ovr Z k_b41_0 "java/lang/Object") := by
  refine Ctr.body (plainFor_of_name pn_3) ?_
  intro p e s m below meth c T X hx hby hml hown hnm hret hlk hZ eT
  have hml : c.maxLocals = 5 := hml
  have hown : s.vm.findClass "com/example/roundel/roundel/dag/ItemArray" = some m.cls := hown
  have hnm : meth.name = "makeRoom" := hnm
  have hret : meth.sig.returnType = none := hret
  refine Run.cast (show entryFrame m #[(.ref o0), (.int (1 : Int32))] 5 = mkF m 0 #[.val (.ref o0), .val (.int (1 : Int32)), .unset, .unset, .unset] [] from by first | (simp [entryFrame, mkF, argsToLocals, Value.category]; done) | rfl) ?_
  have wd0 := wd
  obtain ⟨S_w_NO_ITEMS, E_w_NO_ITEMS, S_w_cache, E_w_cache, V_w_NO_ITEMS, S_w_high, B_w_cache⟩ := wd
  have wd := wd0
  have N : Fr Z.heap.size [] := Fr.nil _
  have KK : Keep h0 h0 [o0] := Keep.refl h0 [o0]
  refine q_aloadN (pc' := 1) X hx (hb hby d_prog_20_method_12_code_0) rfl rfl rfl ?_
  refine q_getF (pc' := 4) X hx hZ hown (hb hby d_prog_20_method_12_code_1) (host := "") (Or.inl (t29 hw)) eT F_end_o0 rfl ?_
  intro T X eT
  refine q_aloadN (pc' := 5) X hx (hb hby d_prog_20_method_12_code_4) rfl rfl rfl ?_
  refine q_getF (pc' := 8) X hx hZ hown (hb hby d_prog_20_method_12_code_5) (host := "") (Or.inl (t31 hw)) eT F_first_o0 rfl ?_
  intro T X eT
  refine q_isub (pc' := 9) (z := (0 : Int32)) X hx (hb hby d_prog_20_method_12_code_8) (by decide) rfl ?_
  refine q_istoreN (pc' := 10) (l' := #[.val (.ref o0), .val (.int (1 : Int32)), .val (.int (0 : Int32)), .unset, .unset]) X hx (hb hby d_prog_20_method_12_code_9) rfl rfl ?_
  refine q_iloadN (pc' := 11) X hx (hb hby d_prog_20_method_12_code_10) rfl rfl ?_
  refine q_iloadN (pc' := 12) X hx (hb hby d_prog_20_method_12_code_11) rfl rfl ?_
  refine q_iadd (pc' := 13) (z := (1 : Int32)) X hx (hb hby d_prog_20_method_12_code_12) (by decide) rfl ?_
  refine q_istoreN (pc' := 14) (l' := #[.val (.ref o0), .val (.int (1 : Int32)), .val (.int (0 : Int32)), .val (.int (1 : Int32)), .unset]) X hx (hb hby d_prog_20_method_12_code_13) rfl rfl ?_
  refine q_iloadN (pc' := 15) X hx (hb hby d_prog_20_method_12_code_14) rfl rfl ?_
  refine q_aloadN (pc' := 16) X hx (hb hby d_prog_20_method_12_code_15) rfl rfl rfl ?_
  refine q_getF (pc' := 19) X hx hZ hown (hb hby d_prog_20_method_12_code_16) (host := "") (Or.inl (t18 hw)) eT F_items_o0 rfl ?_
  intro T X eT
  refine q_len (pc' := 20) X hx hZ (hb hby d_prog_20_method_12_code_19) eT (V_w_NO_ITEMS.ext O) rfl ?_
  refine q_iconst (pc' := 21) (z := (2 : Int32)) X hx (hb hby d_prog_20_method_12_code_20) rfl rfl ?_
  refine q_idiv (pc' := 22) (z := (0 : Int32)) X hx (hb hby d_prog_20_method_12_code_21) (by decide) (by decide) rfl ?_
  refine q_icmpNo (pc' := 25) X hx (hb hby d_prog_20_method_12_code_22) (by decide) rfl ?_
  refine q_bipush (pc' := 27) (z := (16 : Int32)) X hx (hb hby d_prog_20_method_12_code_25) rfl rfl ?_
  refine q_iconst (pc' := 28) (z := (2 : Int32)) X hx (hb hby d_prog_20_method_12_code_27) rfl rfl ?_
  refine q_aloadN (pc' := 29) X hx (hb hby d_prog_20_method_12_code_28) rfl rfl rfl ?_
  refine q_getF (pc' := 32) X hx hZ hown (hb hby d_prog_20_method_12_code_29) (host := "") (Or.inl (t18 hw)) eT F_items_o0 rfl ?_
  intro T X eT
  refine q_len (pc' := 33) X hx hZ (hb hby d_prog_20_method_12_code_32) eT (V_w_NO_ITEMS.ext O) rfl ?_
  refine q_imul (pc' := 34) (z := (0 : Int32)) X hx (hb hby d_prog_20_method_12_code_33) (by decide) rfl ?_
  refine q_iloadN (pc' := 35) X hx (hb hby d_prog_20_method_12_code_34) rfl rfl ?_
  refine q_callC (pc' := 38) (y := y4) (rest := [(.int (16 : Int32))]) X hx hZ hown (hb hby d_prog_20_method_12_code_35) (t71 hw) (t21 hw) (t22 hw) (t23 hw) (by decide) eT [(.int (0 : Int32)), (.int (1 : Int32))] (c17_max hw wd  O) (by rw [hml]; rfl) (lenOf pd_3 rfl) (W := 1) rfl (by decide) (by decide) (by decide) (by decide) rfl ?_
  rintro _ T _ X ⟨rfl, rfl, eT⟩
  rw [List.append_nil] at X
  show Run p e below _ (T.setTop (mkF m 38 _ [(.int (1 : Int32)), (.int (16 : Int32))]))
  refine q_callC (pc' := 41) (y := y4) (rest := []) X hx hZ hown (hb hby d_prog_20_method_12_code_38) (t71 hw) (t21 hw) (t22 hw) (t23 hw) (by decide) eT [(.int (16 : Int32)), (.int (1 : Int32))] (c18_max hw wd  O) (by rw [hml]; rfl) (lenOf pd_3 rfl) (W := 0) rfl (by decide) (by decide) (by decide) (by decide) rfl ?_
  rintro _ T _ X ⟨rfl, rfl, eT⟩
  rw [List.append_nil] at X
  show Run p e below _ (T.setTop (mkF m 41 _ [(.int (16 : Int32))]))
  refine q_anew (pc' := 44) X hx hZ hown (hb hby d_prog_20_method_12_code_41) (t72 hw) (t73 hw) eT (by decide) (cap := 16) (by decide) (by decide) (by decide) (by decide) rfl ?_
  intro T h_1 b41_0 k_b41_0 X eT Ex gb Ax Ov_b41_0
  have ne_o0_b41_0 : o0 ≠ b41_0 := Nat.ne_of_lt (Nat.lt_of_lt_of_le E_o0.lt (Nat.le_of_eq gb.symm))
  have g_b41_0 : Z.heap.size ≤ b41_0 := Nat.le_trans O.1 (Nat.le_of_eq gb.symm)
  have sz_b41_0 : h0.size ≤ b41_0 := Nat.le_trans KK.1 (Nat.le_of_eq gb.symm)
  have KK := KK.ext Ex
  have O := ext_trans O Ex
  have E_o0 := E_o0.ext Ex
  have F_items_o0 := F_items_o0.ext Ex
  have F_end_o0 := F_end_o0.ext Ex
  have F_first_o0 := F_first_o0.ext Ex
  have V_b41_0 : Arv Z h_1 b41_0 k_b41_0 (.object "java/lang/Object") (16 : Int32) [.null, .null, .null, .null, .null, .null, .null, .null, .null, .null, .null, .null, .null, .null, .null, .null] .null := (Arv.new Ax (by decide)).pad (pad_rep [] .null 16)
  refine q_astore (pc' := 46) (l' := #[.val (.ref o0), .val (.int (1 : Int32)), .val (.int (0 : Int32)), .val (.int (1 : Int32)), .val (.ref b41_0)]) X hx (hb hby d_prog_20_method_12_code_44) rfl rfl rfl ?_
  refine q_aloadN (pc' := 47) X hx (hb hby d_prog_20_method_12_code_46) rfl rfl rfl ?_
  refine q_getF (pc' := 50) X hx hZ hown (hb hby d_prog_20_method_12_code_47) (host := "") (Or.inl (t18 hw)) eT F_items_o0 rfl ?_
  intro T X eT
  refine q_aloadN (pc' := 51) X hx (hb hby d_prog_20_method_12_code_50) rfl rfl rfl ?_
  refine q_getF (pc' := 54) X hx hZ hown (hb hby d_prog_20_method_12_code_51) (host := "") (Or.inl (t31 hw)) eT F_first_o0 rfl ?_
  intro T X eT
  refine q_aload (pc' := 56) X hx (hb hby d_prog_20_method_12_code_54) rfl rfl rfl ?_
  refine q_iconst (pc' := 57) (z := (0 : Int32)) X hx (hb hby d_prog_20_method_12_code_56) rfl rfl ?_
  refine q_iloadN (pc' := 58) X hx (hb hby d_prog_20_method_12_code_57) rfl rfl ?_
  obtain ⟨T, h_2, _, X, eT, N, KL, V_b41_0', st⟩ := cpA X hx hZ hown (t74 hw) (t77 hw) (t75 hw) (t76 hw) eT (V_w_NO_ITEMS.ext O) V_b41_0 (Or.inr ⟨rfl, rfl, trivial⟩) (by decide) (by decide) (by decide) (by decide) (by decide) (us := []) rfl (by decide) N g_b41_0 (g := (mkF m 58 #[.val (.ref o0), .val (.int (1 : Int32)), .val (.int (0 : Int32)), .val (.int (1 : Int32)), .val (.ref b41_0)] [(.int (0 : Int32)), (.int (0 : Int32)), (.ref b41_0), (.int (0 : Int32)), (.ref w_NO_ITEMS)])) rfl (by rw [hml]; rfl) rfl (hb hby d_prog_20_method_12_code_58) (by decide) (W := 0) (Nat.le_of_eq rfl) (by decide)
  have O := ext_keep O KL (allS g_b41_0 all0)
  have KK := KK.trans KL (allS (Or.inr sz_b41_0) all0)
  have E_o0 := E_o0.keep KL
  have F_items_o0 := F_items_o0.keep KL (ninS ne_o0_b41_0 nin0)
  have F_end_o0 := F_end_o0.keep KL (ninS ne_o0_b41_0 nin0)
  have F_first_o0 := F_first_o0.keep KL (ninS ne_o0_b41_0 nin0)
  have V_b41_0 : Arv Z h_2 b41_0 k_b41_0 (.object "java/lang/Object") (16 : Int32) [.null, .null, .null, .null, .null, .null, .null, .null, .null, .null, .null, .null, .null, .null, .null, .null] .null := V_b41_0'
  refine Run.via st ?_
  show Run p e below _ (T.setTop (mkF m 61 #[.val (.ref o0), .val (.int (1 : Int32)), .val (.int (0 : Int32)), .val (.int (1 : Int32)), .val (.ref b41_0)] []))
  refine q_aloadN (pc' := 62) X hx (hb hby d_prog_20_method_12_code_61) rfl rfl rfl ?_
  refine q_aload (pc' := 64) X hx (hb hby d_prog_20_method_12_code_62) rfl rfl rfl ?_
  refine q_putF (pc' := 67) X hx hZ hown (hb hby d_prog_20_method_12_code_64) (host := "") (Or.inl (t18 hw)) eT F_items_o0 E_o0 (Or.inl (t19 hw)) (t8 hw) (ty := (.array (.object "java/lang/Object"))) (by decide) rfl rfl rfl ?_
  intro T h_3 X eT Wx
  have N := Fr.snoc X N g_o0
  have O := ext_wr O Wx g_o0
  have KK := KK.wr Wx (Or.inl (List.mem_of_getElem? (i := 0) rfl))
  have E_o0 := E_o0.wr Wx
  have F_items_o0 := F_items_o0.same Wx
  have F_end_o0 := F_end_o0.other Wx (Or.inr (slot_ne (Or.inl (t30 hw)) (Or.inl (t19 hw)) (by decide) (t := .int) (t' := (.array (.object "java/lang/Object"))) (by decide) (by decide)))
  have F_first_o0 := F_first_o0.other Wx (Or.inr (slot_ne (Or.inl (t32 hw)) (Or.inl (t19 hw)) (by decide) (t := .int) (t' := (.array (.object "java/lang/Object"))) (by decide) (by decide)))
  have V_b41_0 := V_b41_0.other Wx (Ne.symm ne_o0_b41_0)
  refine q_goto (pc' := 99) X hx (hb hby d_prog_20_method_12_code_67) (by decide) (by decide) ?_
  refine q_aloadN (pc' := 100) X hx (hb hby d_prog_20_method_12_code_99) rfl rfl rfl ?_
  refine q_iconst (pc' := 101) (z := (0 : Int32)) X hx (hb hby d_prog_20_method_12_code_100) rfl rfl ?_
  refine q_putF (pc' := 104) X hx hZ hown (hb hby d_prog_20_method_12_code_101) (host := "") (Or.inl (t31 hw)) eT F_first_o0 E_o0 (Or.inl (t32 hw)) (t8 hw) (ty := .int) (by decide) rfl rfl rfl ?_
  intro T h_4 X eT Wx
  have N := Fr.snoc X N g_o0
  have O := ext_wr O Wx g_o0
  have KK := KK.wr Wx (Or.inl (List.mem_of_getElem? (i := 0) rfl))
  have E_o0 := E_o0.wr Wx
  have F_items_o0 := F_items_o0.other Wx (Or.inr (slot_ne (Or.inl (t19 hw)) (Or.inl (t32 hw)) (by decide) (t := (.array (.object "java/lang/Object"))) (t' := .int) (by decide) (by decide)))
  have F_end_o0 := F_end_o0.other Wx (Or.inr (slot_ne (Or.inl (t30 hw)) (Or.inl (t32 hw)) (by decide) (t := .int) (t' := .int) (by decide) (by decide)))
  have F_first_o0 := F_first_o0.same Wx
  have V_b41_0 := V_b41_0.other Wx (Ne.symm ne_o0_b41_0)
  refine q_aloadN (pc' := 105) X hx (hb hby d_prog_20_method_12_code_104) rfl rfl rfl ?_
  refine q_iloadN (pc' := 106) X hx (hb hby d_prog_20_method_12_code_105) rfl rfl ?_
  refine q_putF (pc' := 109) X hx hZ hown (hb hby d_prog_20_method_12_code_106) (host := "") (Or.inl (t29 hw)) eT F_end_o0 E_o0 (Or.inl (t30 hw)) (t8 hw) (ty := .int) (by decide) rfl rfl rfl ?_
  intro T h_5 X eT Wx
  have N := Fr.snoc X N g_o0
  have O := ext_wr O Wx g_o0
  have KK := KK.wr Wx (Or.inl (List.mem_of_getElem? (i := 0) rfl))
  have E_o0 := E_o0.wr Wx
  have F_items_o0 := F_items_o0.other Wx (Or.inr (slot_ne (Or.inl (t19 hw)) (Or.inl (t30 hw)) (by decide) (t := (.array (.object "java/lang/Object"))) (t' := .int) (by decide) (by decide)))
  have F_end_o0 := F_end_o0.same Wx
  have F_first_o0 := F_first_o0.other Wx (Or.inr (slot_ne (Or.inl (t32 hw)) (Or.inl (t30 hw)) (by decide) (t := .int) (t' := .int) (by decide) (by decide)))
  have V_b41_0 := V_b41_0.other Wx (Ne.symm ne_o0_b41_0)
  refine Run.retV X hx hlk hret (hb hby d_prog_20_method_12_code_109) (by decide) (by decide) ?_
  try rw [eT]
  exact ⟨b41_0, k_b41_0, rfl, N, KK, sz_b41_0, E_o0, F_items_o0, F_end_o0, F_first_o0, V_b41_0, Ov_b41_0⟩
theorem d_prog_20_method_7_code_17 : decode prog_20_method_7_code 17 = .ok (.aload_n 0, 1) := by decide +kernel
theorem d_prog_20_method_7_code_18 : decode prog_20_method_7_code 18 = .ok (.getfield 13, 3) := by decide +kernel
theorem d_prog_20_method_7_code_21 : decode prog_20_method_7_code 21 = .ok (.aload_n 0, 1) := by decide +kernel
theorem d_prog_20_method_7_code_22 : decode prog_20_method_7_code 22 = .ok (.dup, 1) := by decide +kernel
theorem d_prog_20_method_7_code_23 : decode prog_20_method_7_code 23 = .ok (.getfield 20, 3) := by decide +kernel
theorem d_prog_20_method_7_code_26 : decode prog_20_method_7_code 26 = .ok (.dup_x1, 1) := by decide +kernel
theorem d_prog_20_method_7_code_27 : decode prog_20_method_7_code 27 = .ok (.iconst 1, 1) := by decide +kernel
theorem d_prog_20_method_7_code_28 : decode prog_20_method_7_code 28 = .ok (.iadd, 1) := by decide +kernel
theorem d_prog_20_method_7_code_29 : decode prog_20_method_7_code 29 = .ok (.putfield 20, 3) := by decide +kernel
theorem d_prog_20_method_7_code_32 : decode prog_20_method_7_code 32 = .ok (.aload_n 1, 1) := by decide +kernel
theorem d_prog_20_method_7_code_33 : decode prog_20_method_7_code 33 = .ok (.aastore, 1) := by decide +kernel
theorem d_prog_20_method_7_code_34 : decode prog_20_method_7_code 34 = .ok (.return_, 1) := by decide +kernel
set_option maxRecDepth 65536 in
set_option maxHeartbeats 40000000 in
theorem c15_add {l : Launch} {Z : State} {a0 : Array Value} (hw : ∀ d ∈ tables_1, d.before a0 Z = true) {w_NO_ITEMS : Addr} {w_cache : Addr} {k_w_NO_ITEMS : ClassId} {cl_w_cache : Cell} (wd : World Z w_NO_ITEMS w_cache k_w_NO_ITEMS cl_w_cache) (x0 : Int32) {h0 : Heap} (O : Ext Z.heap h0) {o0 : Addr} {o1 : Addr} (E_o1 : Exa Z h0 o1 "java/lang/Integer") (F_value_o1 : Fld Z h0 o1 "java/lang/Integer" "value" "I" (.int x0)) (E_o0 : Exa Z h0 o0 "com/example/roundel/roundel/dag/ItemArray") (F_items_o0 : Fld Z h0 o0 "com/example/roundel/roundel/dag/ItemArray" "items" "[Ljava/lang/Object;" (.ref w_NO_ITEMS)) (F_end_o0 : Fld Z h0 o0 "com/example/roundel/roundel/dag/ItemArray" "end" "I" (.int (0 : Int32))) (F_first_o0 : Fld Z h0 o0 "com/example/roundel/roundel/dag/ItemArray" "first" "I" (.int (0 : Int32))) (g_o0 : Z.heap.size ≤ o0) :
    Ctr l Z y10 prog_20_method_7_code 2 none ({ frames := 2, cells := 1, slots := 16, locals := 56 } : Room) #[(.ref o0), (.ref o1)] h0 (fun v h L => ∃ (b41_0_c1 : Addr), ∃ (k_b41_0_c1 : ClassId), v = none ∧ Fr Z.heap.size L ∧ Keep h0 h [o0] ∧ h0.size ≤ b41_0_c1 ∧ Exa Z h o0 "com/example/roundel/roundel/dag/ItemArray" ∧ Fld Z h o0 "com/example/roundel/roundel/dag/ItemArray" "items" "[Ljava/lang/Object;" (.ref b41_0_c1) ∧ Fld Z h o0 "com/example/roundel/roundel/dag/ItemArray" "end" "I" (.int (1 : Int32)) ∧ Fld Z h o0 "com/example/roundel/roundel/dag/ItemArray" "first" "I" (.int (0 : Int32)) ∧ Arv Z h b41_0_c1 k_b41_0_c1 (.object "java/lang/Object") (16 : Int32) [(.ref o1), .null, .null, .null, .null, .null, .null, .null, .null, .null, .null, .null, .null, .null, .null, .null] .null ∧ Ovr Z k_b41_0_c1 "java/lang/Object") := by
  refine Ctr.body (plainFor_of_name pn_3) ?_
  intro p e s m below meth c T X hx hby hml hown hnm hret hlk hZ eT
  have hml : c.maxLocals = 2 := hml
  have hown : s.vm.findClass "com/example/roundel/roundel/dag/ItemArray" = some m.cls := hown
  have hnm : meth.name = "add" := hnm
  have hret : meth.sig.returnType = none := hret
  refine Run.cast (show entryFrame m #[(.ref o0), (.ref o1)] 2 = mkF m 0 #[.val (.ref o0), .val (.ref o1)] [] from by first | (simp [entryFrame, mkF, argsToLocals, Value.category]; done) | rfl) ?_
  have wd0 := wd
  obtain ⟨S_w_NO_ITEMS, E_w_NO_ITEMS, S_w_cache, E_w_cache, V_w_NO_ITEMS, S_w_high, B_w_cache⟩ := wd
  have wd := wd0
  have N : Fr Z.heap.size [] := Fr.nil _
  have KK : Keep h0 h0 [o0] := Keep.refl h0 [o0]
  refine q_aloadN (pc' := 1) X hx (hb hby d_prog_20_method_7_code_0) rfl rfl rfl ?_
  refine q_getF (pc' := 4) X hx hZ hown (hb hby d_prog_20_method_7_code_1) (host := "") (Or.inl (t29 hw)) eT F_end_o0 rfl ?_
  intro T X eT
  refine q_aloadN (pc' := 5) X hx (hb hby d_prog_20_method_7_code_4) rfl rfl rfl ?_
  refine q_getF (pc' := 8) X hx hZ hown (hb hby d_prog_20_method_7_code_5) (host := "") (Or.inl (t18 hw)) eT F_items_o0 rfl ?_
  intro T X eT
  refine q_len (pc' := 9) X hx hZ (hb hby d_prog_20_method_7_code_8) eT (V_w_NO_ITEMS.ext O) rfl ?_
  refine q_icmpNo (pc' := 12) X hx (hb hby d_prog_20_method_7_code_9) (by decide) rfl ?_
  refine q_aloadN (pc' := 13) X hx (hb hby d_prog_20_method_7_code_12) rfl rfl rfl ?_
  refine q_iconst (pc' := 14) (z := (1 : Int32)) X hx (hb hby d_prog_20_method_7_code_13) rfl rfl ?_
  have ne_o1_o0 : o1 ≠ o0 := ne_exa E_o1 E_o0 (by decide)
  have lt_o0 := E_o0.lt
  have lt_o1 := E_o1.lt
  refine q_callP (pc' := 17) (y := y9) (rest := []) X hx hZ hown (hb hby d_prog_20_method_7_code_14) (t67 hw) (t68 hw) (t69 hw) (t8 hw) (t9 hw) (t70 hw) (by decide) eT E_o0 [(.int (1 : Int32))] (c16_makeRoom hw wd  O E_o0 F_items_o0 F_end_o0 F_first_o0 g_o0) (by rw [hml]; rfl) (lenOf pd_1 rfl) (W := 0) rfl (by decide) (by decide) (by decide) (by decide) rfl ?_
  rintro _ T _ X ⟨b41_0_c1, k_b41_0_c1, rfl, NL, KL, szn_b41_0_c1, E_o0, F_items_o0, F_end_o0, F_first_o0, V_b41_0_c1, Ov_b41_0_c1⟩
  have N := N.app NL
  have ne_o0_b41_0_c1 : o0 ≠ b41_0_c1 := Nat.ne_of_lt (Nat.lt_of_lt_of_le lt_o0 szn_b41_0_c1)
  have ne_o1_b41_0_c1 : o1 ≠ b41_0_c1 := Nat.ne_of_lt (Nat.lt_of_lt_of_le lt_o1 szn_b41_0_c1)
  have g_b41_0_c1 : Z.heap.size ≤ b41_0_c1 := Nat.le_trans O.1 szn_b41_0_c1
  have sz_b41_0_c1 : h0.size ≤ b41_0_c1 := Nat.le_trans KK.1 szn_b41_0_c1
  obtain ⟨h_2, eT⟩ : ∃ z, T.heap = z := ⟨_, rfl⟩
  rw [eT] at KL E_o0 F_items_o0 F_end_o0 F_first_o0 V_b41_0_c1
  have O := ext_keep O KL (allS g_o0 all0)
  have KK := KK.trans KL (allS (Or.inl (List.mem_of_getElem? (i := 0) rfl)) all0)
  have E_o1 := E_o1.keep KL
  have F_value_o1 := F_value_o1.keep KL (ninS ne_o1_o0 nin0)
  show Run p e below _ (T.setTop (mkF m 17 _ []))
  refine q_aloadN (pc' := 18) X hx (hb hby d_prog_20_method_7_code_17) rfl rfl rfl ?_
  refine q_getF (pc' := 21) X hx hZ hown (hb hby d_prog_20_method_7_code_18) (host := "") (Or.inl (t18 hw)) eT F_items_o0 rfl ?_
  intro T X eT
  refine q_aloadN (pc' := 22) X hx (hb hby d_prog_20_method_7_code_21) rfl rfl rfl ?_
  refine q_dup (pc' := 23) X hx (hb hby d_prog_20_method_7_code_22) rfl rfl ?_
  refine q_getF (pc' := 26) X hx hZ hown (hb hby d_prog_20_method_7_code_23) (host := "") (Or.inl (t29 hw)) eT F_end_o0 rfl ?_
  intro T X eT
  refine q_dupX1 (pc' := 27) X hx (hb hby d_prog_20_method_7_code_26) rfl rfl rfl ?_
  refine q_iconst (pc' := 28) (z := (1 : Int32)) X hx (hb hby d_prog_20_method_7_code_27) rfl rfl ?_
  refine q_iadd (pc' := 29) (z := (1 : Int32)) X hx (hb hby d_prog_20_method_7_code_28) (by decide) rfl ?_
  refine q_putF (pc' := 32) X hx hZ hown (hb hby d_prog_20_method_7_code_29) (host := "") (Or.inl (t29 hw)) eT F_end_o0 E_o0 (Or.inl (t30 hw)) (t8 hw) (ty := .int) (by decide) rfl rfl rfl ?_
  intro T h_3 X eT Wx
  have N := Fr.snoc X N g_o0
  have O := ext_wr O Wx g_o0
  have KK := KK.wr Wx (Or.inl (List.mem_of_getElem? (i := 0) rfl))
  have E_o1 := E_o1.wr Wx
  have F_value_o1 := F_value_o1.other Wx (Or.inl ne_o1_o0)
  have E_o0 := E_o0.wr Wx
  have F_items_o0 := F_items_o0.other Wx (Or.inr (slot_ne (Or.inl (t19 hw)) (Or.inl (t30 hw)) (by decide) (t := (.array (.object "java/lang/Object"))) (t' := .int) (by decide) (by decide)))
  have F_end_o0 := F_end_o0.same Wx
  have F_first_o0 := F_first_o0.other Wx (Or.inr (slot_ne (Or.inl (t32 hw)) (Or.inl (t30 hw)) (by decide) (t := .int) (t' := .int) (by decide) (by decide)))
  have V_b41_0_c1 := V_b41_0_c1.other Wx (Ne.symm ne_o0_b41_0_c1)
  refine q_aloadN (pc' := 33) X hx (hb hby d_prog_20_method_7_code_32) rfl rfl rfl ?_
  refine q_aast (pc' := 34) X hx hZ (hb hby d_prog_20_method_7_code_33) eT V_b41_0_c1 rfl ⟨by decide, by decide⟩ (i := 0) rfl (Nat.le_of_ble_eq_true rfl) (fun _ A q => Sto.ofV A q Ov_b41_0_c1 (Ins.of_exa E_o1 (t78 hw))) rfl rfl ?_
  intro T h_4 X eT Wx V_b41_0_c1'
  have N := Fr.snoc X N g_b41_0_c1
  have O := ext_wr O Wx g_b41_0_c1
  have KK := KK.wr Wx (Or.inr sz_b41_0_c1)
  have E_o1 := E_o1.wr Wx
  have F_value_o1 := F_value_o1.other Wx (Or.inl ne_o1_b41_0_c1)
  have E_o0 := E_o0.wr Wx
  have F_items_o0 := F_items_o0.other Wx (Or.inl ne_o0_b41_0_c1)
  have F_end_o0 := F_end_o0.other Wx (Or.inl ne_o0_b41_0_c1)
  have F_first_o0 := F_first_o0.other Wx (Or.inl ne_o0_b41_0_c1)
  have V_b41_0_c1 : Arv Z h_4 b41_0_c1 k_b41_0_c1 (.object "java/lang/Object") (16 : Int32) [(.ref o1), .null, .null, .null, .null, .null, .null, .null, .null, .null, .null, .null, .null, .null, .null, .null] .null := V_b41_0_c1'
  refine Run.retV X hx hlk hret (hb hby d_prog_20_method_7_code_34) (by decide) (by decide) ?_
  try rw [eT]
  exact ⟨b41_0_c1, k_b41_0_c1, rfl, N, KK, sz_b41_0_c1, E_o0, F_items_o0, F_end_o0, F_first_o0, V_b41_0_c1, Ov_b41_0_c1⟩
theorem pd_7 : parseMethodDescriptor "(Ljava/lang/Object;)V" = some ⟨[(.object "java/lang/Object")], none⟩ := by decide +kernel
set_option maxRecDepth 65536 in
set_option maxHeartbeats 40000000 in
theorem c19_max {l : Launch} {Z : State} {a0 : Array Value} (hw : ∀ d ∈ tables_1, d.before a0 Z = true) {w_NO_ITEMS : Addr} {w_cache : Addr} {k_w_NO_ITEMS : ClassId} {cl_w_cache : Cell} (wd : World Z w_NO_ITEMS w_cache k_w_NO_ITEMS cl_w_cache)  {h0 : Heap} (O : Ext Z.heap h0)  :
    Ctr l Z y4 jdk_29_method_65_code 2 (some .int) ({ frames := 0, cells := 0, slots := 0, locals := 0 } : Room) #[(.int (1 : Int32)), (.int (0 : Int32))] h0 (fun v h L => v = some (.int (1 : Int32)) ∧ L = [] ∧ h = h0) := by
  refine Ctr.body (Jvm.Free.JP.mathPlain rfl (by decide +kernel)) ?_
  intro p e s m below meth c T X hx hby hml hown hnm hret hlk hZ eT
  have hml : c.maxLocals = 2 := hml
  have hown : s.vm.findClass "java/lang/Math" = some m.cls := hown
  have hnm : meth.name = "max" := hnm
  have hret : meth.sig.returnType = (some .int) := hret
  refine Run.cast (show entryFrame m #[(.int (1 : Int32)), (.int (0 : Int32))] 2 = mkF m 0 #[.val (.int (1 : Int32)), .val (.int (0 : Int32))] [] from by first | (simp [entryFrame, mkF, argsToLocals, Value.category]; done) | rfl) ?_
  have wd0 := wd
  obtain ⟨S_w_NO_ITEMS, E_w_NO_ITEMS, S_w_cache, E_w_cache, V_w_NO_ITEMS, S_w_high, B_w_cache⟩ := wd
  have wd := wd0
  have N : Fr Z.heap.size [] := Fr.nil _
  have KK : Keep h0 h0 [] := Keep.refl h0 []
  refine q_iloadN (pc' := 1) X hx (hb hby d_jdk_29_method_65_code_0) rfl rfl ?_
  refine q_iloadN (pc' := 2) X hx (hb hby d_jdk_29_method_65_code_1) rfl rfl ?_
  refine q_icmpNo (pc' := 5) X hx (hb hby d_jdk_29_method_65_code_2) (by decide) rfl ?_
  refine q_iloadN (pc' := 6) X hx (hb hby d_jdk_29_method_65_code_5) rfl rfl ?_
  refine q_goto (pc' := 10) X hx (hb hby d_jdk_29_method_65_code_6) (by decide) (by decide) ?_
  refine Run.retI X hx hlk hret (hb hby d_jdk_29_method_65_code_10) (by decide) (by decide) ?_
  try rw [eT]
  exact ⟨rfl, rfl, rfl⟩
set_option maxRecDepth 65536 in
set_option maxHeartbeats 40000000 in
theorem c20_size {l : Launch} {Z : State} {a0 : Array Value} (hw : ∀ d ∈ tables_1, d.before a0 Z = true) {w_NO_ITEMS : Addr} {w_cache : Addr} {k_w_NO_ITEMS : ClassId} {cl_w_cache : Cell} (wd : World Z w_NO_ITEMS w_cache k_w_NO_ITEMS cl_w_cache) (x0 : Int32) {h0 : Heap} (O : Ext Z.heap h0) {o0 : Addr} {o1 : Addr} {o2 : Addr} {k_o1 : ClassId} (E_o2 : Exa Z h0 o2 "java/lang/Integer") (F_value_o2 : Fld Z h0 o2 "java/lang/Integer" "value" "I" (.int x0)) (E_o0 : Exa Z h0 o0 "com/example/roundel/roundel/dag/ItemArray") (F_items_o0 : Fld Z h0 o0 "com/example/roundel/roundel/dag/ItemArray" "items" "[Ljava/lang/Object;" (.ref o1)) (F_end_o0 : Fld Z h0 o0 "com/example/roundel/roundel/dag/ItemArray" "end" "I" (.int (1 : Int32))) (F_first_o0 : Fld Z h0 o0 "com/example/roundel/roundel/dag/ItemArray" "first" "I" (.int (0 : Int32))) (V_o1 : Arv Z h0 o1 k_o1 (.object "java/lang/Object") (16 : Int32) [(.ref o2), .null, .null, .null, .null, .null, .null, .null, .null, .null, .null, .null, .null, .null, .null, .null] .null) (Ov_o1 : Ovr Z k_o1 "java/lang/Object") :
    Ctr l Z y5 prog_20_method_6_code 1 (some .int) ({ frames := 0, cells := 0, slots := 0, locals := 0 } : Room) #[(.ref o0)] h0 (fun v h L => v = some (.int (1 : Int32)) ∧ L = [] ∧ h = h0) := by
  refine Ctr.body (plainFor_of_name pn_3) ?_
  intro p e s m below meth c T X hx hby hml hown hnm hret hlk hZ eT
  have hml : c.maxLocals = 1 := hml
  have hown : s.vm.findClass "com/example/roundel/roundel/dag/ItemArray" = some m.cls := hown
  have hnm : meth.name = "size" := hnm
  have hret : meth.sig.returnType = (some .int) := hret
  refine Run.cast (show entryFrame m #[(.ref o0)] 1 = mkF m 0 #[.val (.ref o0)] [] from by first | (simp [entryFrame, mkF, argsToLocals, Value.category]; done) | rfl) ?_
  have wd0 := wd
  obtain ⟨S_w_NO_ITEMS, E_w_NO_ITEMS, S_w_cache, E_w_cache, V_w_NO_ITEMS, S_w_high, B_w_cache⟩ := wd
  have wd := wd0
  have N : Fr Z.heap.size [] := Fr.nil _
  have KK : Keep h0 h0 [] := Keep.refl h0 []
  refine q_aloadN (pc' := 1) X hx (hb hby d_prog_20_method_6_code_0) rfl rfl rfl ?_
  refine q_getF (pc' := 4) X hx hZ hown (hb hby d_prog_20_method_6_code_1) (host := "") (Or.inl (t29 hw)) eT F_end_o0 rfl ?_
  intro T X eT
  refine q_aloadN (pc' := 5) X hx (hb hby d_prog_20_method_6_code_4) rfl rfl rfl ?_
  refine q_getF (pc' := 8) X hx hZ hown (hb hby d_prog_20_method_6_code_5) (host := "") (Or.inl (t31 hw)) eT F_first_o0 rfl ?_
  intro T X eT
  refine q_isub (pc' := 9) (z := (1 : Int32)) X hx (hb hby d_prog_20_method_6_code_8) (by decide) rfl ?_
  refine Run.retI X hx hlk hret (hb hby d_prog_20_method_6_code_9) (by decide) (by decide) ?_
  try rw [eT]
  exact ⟨rfl, rfl, rfl⟩
theorem d_prog_20_method_3_code_15 : decode prog_20_method_3_code 15 = .ok (.aload_n 0, 1) := by decide +kernel
theorem d_prog_20_method_3_code_16 : decode prog_20_method_3_code 16 = .ok (.getfield 13, 3) := by decide +kernel
theorem d_prog_20_method_3_code_19 : decode prog_20_method_3_code 19 = .ok (.aload_n 0, 1) := by decide +kernel
theorem d_prog_20_method_3_code_20 : decode prog_20_method_3_code 20 = .ok (.getfield 16, 3) := by decide +kernel
theorem d_prog_20_method_3_code_23 : decode prog_20_method_3_code 23 = .ok (.aaload, 1) := by decide +kernel
set_option maxRecDepth 65536 in
set_option maxHeartbeats 40000000 in
theorem c21_peek {l : Launch} {Z : State} {a0 : Array Value} (hw : ∀ d ∈ tables_1, d.before a0 Z = true) {w_NO_ITEMS : Addr} {w_cache : Addr} {k_w_NO_ITEMS : ClassId} {cl_w_cache : Cell} (wd : World Z w_NO_ITEMS w_cache k_w_NO_ITEMS cl_w_cache) (x0 : Int32) {h0 : Heap} (O : Ext Z.heap h0) {o0 : Addr} {o1 : Addr} {o2 : Addr} {k_o1 : ClassId} (E_o2 : Exa Z h0 o2 "java/lang/Integer") (F_value_o2 : Fld Z h0 o2 "java/lang/Integer" "value" "I" (.int x0)) (E_o0 : Exa Z h0 o0 "com/example/roundel/roundel/dag/ItemArray") (F_items_o0 : Fld Z h0 o0 "com/example/roundel/roundel/dag/ItemArray" "items" "[Ljava/lang/Object;" (.ref o1)) (F_end_o0 : Fld Z h0 o0 "com/example/roundel/roundel/dag/ItemArray" "end" "I" (.int (1 : Int32))) (F_first_o0 : Fld Z h0 o0 "com/example/roundel/roundel/dag/ItemArray" "first" "I" (.int (0 : Int32))) (V_o1 : Arv Z h0 o1 k_o1 (.object "java/lang/Object") (16 : Int32) [(.ref o2), .null, .null, .null, .null, .null, .null, .null, .null, .null, .null, .null, .null, .null, .null, .null] .null) (Ov_o1 : Ovr Z k_o1 "java/lang/Object") :
    Ctr l Z y6 prog_20_method_3_code 1 (some (.object "java/lang/Object")) ({ frames := 0, cells := 0, slots := 0, locals := 0 } : Room) #[(.ref o0)] h0 (fun v h L => v = some (.ref o2) ∧ L = [] ∧ h = h0) := by
  refine Ctr.body (plainFor_of_name pn_3) ?_
  intro p e s m below meth c T X hx hby hml hown hnm hret hlk hZ eT
  have hml : c.maxLocals = 1 := hml
  have hown : s.vm.findClass "com/example/roundel/roundel/dag/ItemArray" = some m.cls := hown
  have hnm : meth.name = "peek" := hnm
  have hret : meth.sig.returnType = (some (.object "java/lang/Object")) := hret
  refine Run.cast (show entryFrame m #[(.ref o0)] 1 = mkF m 0 #[.val (.ref o0)] [] from by first | (simp [entryFrame, mkF, argsToLocals, Value.category]; done) | rfl) ?_
  have wd0 := wd
  obtain ⟨S_w_NO_ITEMS, E_w_NO_ITEMS, S_w_cache, E_w_cache, V_w_NO_ITEMS, S_w_high, B_w_cache⟩ := wd
  have wd := wd0
  have N : Fr Z.heap.size [] := Fr.nil _
  have KK : Keep h0 h0 [] := Keep.refl h0 []
  refine q_aloadN (pc' := 1) X hx (hb hby d_prog_20_method_3_code_0) rfl rfl rfl ?_
  refine q_getF (pc' := 4) X hx hZ hown (hb hby d_prog_20_method_3_code_1) (host := "") (Or.inl (t31 hw)) eT F_first_o0 rfl ?_
  intro T X eT
  refine q_aloadN (pc' := 5) X hx (hb hby d_prog_20_method_3_code_4) rfl rfl rfl ?_
  refine q_getF (pc' := 8) X hx hZ hown (hb hby d_prog_20_method_3_code_5) (host := "") (Or.inl (t29 hw)) eT F_end_o0 rfl ?_
  intro T X eT
  refine q_icmpYes (pc' := 15) X hx (hb hby d_prog_20_method_3_code_8) (by decide) (by decide) (by decide) ?_
  refine q_aloadN (pc' := 16) X hx (hb hby d_prog_20_method_3_code_15) rfl rfl rfl ?_
  refine q_getF (pc' := 19) X hx hZ hown (hb hby d_prog_20_method_3_code_16) (host := "") (Or.inl (t18 hw)) eT F_items_o0 rfl ?_
  intro T X eT
  refine q_aloadN (pc' := 20) X hx (hb hby d_prog_20_method_3_code_19) rfl rfl rfl ?_
  refine q_getF (pc' := 23) X hx hZ hown (hb hby d_prog_20_method_3_code_20) (host := "") (Or.inl (t31 hw)) eT F_first_o0 rfl ?_
  intro T X eT
  refine q_aald (pc' := 24) (v := (.ref o2)) X hx hZ (hb hby d_prog_20_method_3_code_23) eT V_o1 rfl ⟨by decide, by decide⟩ rfl rfl ?_
  refine Run.retR X hx hlk hret (hb hby d_prog_20_method_3_code_24) rfl rfl (by decide) (by decide) ?_
  try rw [eT]
  exact ⟨rfl, rfl, rfl⟩
theorem d_method_2_code_7 : decode method_2_code 7 = .ok (.iload_n 0, 1) := by decide +kernel
theorem d_method_2_code_8 : decode method_2_code 8 = .ok (.iconst 1, 1) := by decide +kernel
theorem d_method_2_code_9 : decode method_2_code 9 = .ok (.if_icmp .ne 5, 3) := by decide +kernel
theorem d_method_2_code_12 : decode method_2_code 12 = .ok (.aload_n 2, 1) := by decide +kernel
theorem d_method_2_code_13 : decode method_2_code 13 = .ok (.areturn, 1) := by decide +kernel
set_option maxRecDepth 65536 in
set_option maxHeartbeats 40000000 in
theorem c22_expected {l : Launch} {Z : State} {a0 : Array Value} (hw : ∀ d ∈ tables_1, d.before a0 Z = true) {w_NO_ITEMS : Addr} {w_cache : Addr} {k_w_NO_ITEMS : ClassId} {cl_w_cache : Cell} (wd : World Z w_NO_ITEMS w_cache k_w_NO_ITEMS cl_w_cache) (x0 : Int32) (x1 : Int32) (x2 : Int32) {h0 : Heap} (O : Ext Z.heap h0) {o0 : Addr} {o1 : Addr} {o2 : Addr} (E_o0 : Exa Z h0 o0 "java/lang/Integer") (F_value_o0 : Fld Z h0 o0 "java/lang/Integer" "value" "I" (.int x0)) (E_o1 : Exa Z h0 o1 "java/lang/Integer") (F_value_o1 : Fld Z h0 o1 "java/lang/Integer" "value" "I" (.int x1)) (E_o2 : Exa Z h0 o2 "java/lang/Integer") (F_value_o2 : Fld Z h0 o2 "java/lang/Integer" "value" "I" (.int x2)) :
    Ctr l Z y7 method_2_code 5 (some (.object "java/lang/Object")) ({ frames := 0, cells := 0, slots := 0, locals := 0 } : Room) #[(.int (1 : Int32)), (.int (1 : Int32)), (.ref o0), (.ref o1), (.ref o2)] h0 (fun v h L => v = some (.ref o0) ∧ L = [] ∧ h = h0) := by
  refine Ctr.body (plainFor_of_name pn_2) ?_
  intro p e s m below meth c T X hx hby hml hown hnm hret hlk hZ eT
  have hml : c.maxLocals = 5 := hml
  have hown : s.vm.findClass "com/example/roundel/roundel/dag/ItemArrayPollPinLaw" = some m.cls := hown
  have hnm : meth.name = "expected" := hnm
  have hret : meth.sig.returnType = (some (.object "java/lang/Object")) := hret
  refine Run.cast (show entryFrame m #[(.int (1 : Int32)), (.int (1 : Int32)), (.ref o0), (.ref o1), (.ref o2)] 5 = mkF m 0 #[.val (.int (1 : Int32)), .val (.int (1 : Int32)), .val (.ref o0), .val (.ref o1), .val (.ref o2)] [] from by first | (simp [entryFrame, mkF, argsToLocals, Value.category]; done) | rfl) ?_
  have wd0 := wd
  obtain ⟨S_w_NO_ITEMS, E_w_NO_ITEMS, S_w_cache, E_w_cache, V_w_NO_ITEMS, S_w_high, B_w_cache⟩ := wd
  have wd := wd0
  have N : Fr Z.heap.size [] := Fr.nil _
  have KK : Keep h0 h0 [] := Keep.refl h0 []
  refine q_iloadN (pc' := 1) X hx (hb hby d_method_2_code_0) rfl rfl ?_
  refine q_iloadN (pc' := 2) X hx (hb hby d_method_2_code_1) rfl rfl ?_
  refine q_icmpYes (pc' := 7) X hx (hb hby d_method_2_code_2) (by decide) (by decide) (by decide) ?_
  refine q_iloadN (pc' := 8) X hx (hb hby d_method_2_code_7) rfl rfl ?_
  refine q_iconst (pc' := 9) (z := (1 : Int32)) X hx (hb hby d_method_2_code_8) rfl rfl ?_
  refine q_icmpNo (pc' := 12) X hx (hb hby d_method_2_code_9) (by decide) rfl ?_
  refine q_aloadN (pc' := 13) X hx (hb hby d_method_2_code_12) rfl rfl rfl ?_
  refine Run.retR X hx hlk hret (hb hby d_method_2_code_13) rfl rfl (by decide) (by decide) ?_
  try rw [eT]
  exact ⟨rfl, rfl, rfl⟩
theorem d_prog_20_method_4_code_13 : decode prog_20_method_4_code 13 = .ok (.aload_n 0, 1) := by decide +kernel
theorem d_prog_20_method_4_code_14 : decode prog_20_method_4_code 14 = .ok (.getfield 13, 3) := by decide +kernel
theorem d_prog_20_method_4_code_17 : decode prog_20_method_4_code 17 = .ok (.aload_n 0, 1) := by decide +kernel
theorem d_prog_20_method_4_code_18 : decode prog_20_method_4_code 18 = .ok (.getfield 16, 3) := by decide +kernel
theorem d_prog_20_method_4_code_21 : decode prog_20_method_4_code 21 = .ok (.aaload, 1) := by decide +kernel
theorem d_prog_20_method_4_code_22 : decode prog_20_method_4_code 22 = .ok (.astore_n 1, 1) := by decide +kernel
theorem d_prog_20_method_4_code_23 : decode prog_20_method_4_code 23 = .ok (.aload_n 0, 1) := by decide +kernel
theorem d_prog_20_method_4_code_24 : decode prog_20_method_4_code 24 = .ok (.getfield 13, 3) := by decide +kernel
theorem d_prog_20_method_4_code_27 : decode prog_20_method_4_code 27 = .ok (.aload_n 0, 1) := by decide +kernel
theorem d_prog_20_method_4_code_28 : decode prog_20_method_4_code 28 = .ok (.dup, 1) := by decide +kernel
theorem d_prog_20_method_4_code_29 : decode prog_20_method_4_code 29 = .ok (.getfield 16, 3) := by decide +kernel
theorem d_prog_20_method_4_code_32 : decode prog_20_method_4_code 32 = .ok (.dup_x1, 1) := by decide +kernel
theorem d_prog_20_method_4_code_33 : decode prog_20_method_4_code 33 = .ok (.iconst 1, 1) := by decide +kernel
theorem d_prog_20_method_4_code_34 : decode prog_20_method_4_code 34 = .ok (.iadd, 1) := by decide +kernel
theorem d_prog_20_method_4_code_35 : decode prog_20_method_4_code 35 = .ok (.putfield 16, 3) := by decide +kernel
theorem d_prog_20_method_4_code_38 : decode prog_20_method_4_code 38 = .ok (.aconst_null, 1) := by decide +kernel
theorem d_prog_20_method_4_code_39 : decode prog_20_method_4_code 39 = .ok (.aastore, 1) := by decide +kernel
theorem d_prog_20_method_4_code_40 : decode prog_20_method_4_code 40 = .ok (.aload_n 1, 1) := by decide +kernel
theorem d_prog_20_method_4_code_41 : decode prog_20_method_4_code 41 = .ok (.areturn, 1) := by decide +kernel
set_option maxRecDepth 65536 in
set_option maxHeartbeats 40000000 in
theorem c23_poll {l : Launch} {Z : State} {a0 : Array Value} (hw : ∀ d ∈ tables_1, d.before a0 Z = true) {w_NO_ITEMS : Addr} {w_cache : Addr} {k_w_NO_ITEMS : ClassId} {cl_w_cache : Cell} (wd : World Z w_NO_ITEMS w_cache k_w_NO_ITEMS cl_w_cache) (x0 : Int32) {h0 : Heap} (O : Ext Z.heap h0) {o0 : Addr} {o1 : Addr} {o2 : Addr} {k_o1 : ClassId} (E_o2 : Exa Z h0 o2 "java/lang/Integer") (F_value_o2 : Fld Z h0 o2 "java/lang/Integer" "value" "I" (.int x0)) (E_o0 : Exa Z h0 o0 "com/example/roundel/roundel/dag/ItemArray") (F_items_o0 : Fld Z h0 o0 "com/example/roundel/roundel/dag/ItemArray" "items" "[Ljava/lang/Object;" (.ref o1)) (F_end_o0 : Fld Z h0 o0 "com/example/roundel/roundel/dag/ItemArray" "end" "I" (.int (1 : Int32))) (F_first_o0 : Fld Z h0 o0 "com/example/roundel/roundel/dag/ItemArray" "first" "I" (.int (0 : Int32))) (V_o1 : Arv Z h0 o1 k_o1 (.object "java/lang/Object") (16 : Int32) [(.ref o2), .null, .null, .null, .null, .null, .null, .null, .null, .null, .null, .null, .null, .null, .null, .null] .null) (Ov_o1 : Ovr Z k_o1 "java/lang/Object") (g_o0 : Z.heap.size ≤ o0) (g_o1 : Z.heap.size ≤ o1) :
    Ctr l Z y8 prog_20_method_4_code 2 (some (.object "java/lang/Object")) ({ frames := 0, cells := 0, slots := 0, locals := 0 } : Room) #[(.ref o0)] h0 (fun v h L => v = some (.ref o2) ∧ Fr Z.heap.size L ∧ Keep h0 h [o0, o1] ∧ Exa Z h o0 "com/example/roundel/roundel/dag/ItemArray" ∧ Fld Z h o0 "com/example/roundel/roundel/dag/ItemArray" "items" "[Ljava/lang/Object;" (.ref o1) ∧ Fld Z h o0 "com/example/roundel/roundel/dag/ItemArray" "end" "I" (.int (1 : Int32)) ∧ Fld Z h o0 "com/example/roundel/roundel/dag/ItemArray" "first" "I" (.int (1 : Int32)) ∧ Arv Z h o1 k_o1 (.object "java/lang/Object") (16 : Int32) [.null, .null, .null, .null, .null, .null, .null, .null, .null, .null, .null, .null, .null, .null, .null, .null] .null) := by
  refine Ctr.body (plainFor_of_name pn_3) ?_
  intro p e s m below meth c T X hx hby hml hown hnm hret hlk hZ eT
  have hml : c.maxLocals = 2 := hml
  have hown : s.vm.findClass "com/example/roundel/roundel/dag/ItemArray" = some m.cls := hown
  have hnm : meth.name = "poll" := hnm
  have hret : meth.sig.returnType = (some (.object "java/lang/Object")) := hret
  refine Run.cast (show entryFrame m #[(.ref o0)] 2 = mkF m 0 #[.val (.ref o0), .unset] [] from by first | (simp [entryFrame, mkF, argsToLocals, Value.category]; done) | rfl) ?_
  have wd0 := wd
  obtain ⟨S_w_NO_ITEMS, E_w_NO_ITEMS, S_w_cache, E_w_cache, V_w_NO_ITEMS, S_w_high, B_w_cache⟩ := wd
  have wd := wd0
  have N : Fr Z.heap.size [] := Fr.nil _
  have KK : Keep h0 h0 [o0, o1] := Keep.refl h0 [o0, o1]
  refine q_aloadN (pc' := 1) X hx (hb hby d_prog_20_method_4_code_0) rfl rfl rfl ?_
  refine q_getF (pc' := 4) X hx hZ hown (hb hby d_prog_20_method_4_code_1) (host := "") (Or.inl (t31 hw)) eT F_first_o0 rfl ?_
  intro T X eT
  refine q_aloadN (pc' := 5) X hx (hb hby d_prog_20_method_4_code_4) rfl rfl rfl ?_
  refine q_getF (pc' := 8) X hx hZ hown (hb hby d_prog_20_method_4_code_5) (host := "") (Or.inl (t29 hw)) eT F_end_o0 rfl ?_
  intro T X eT
  refine q_icmpYes (pc' := 13) X hx (hb hby d_prog_20_method_4_code_8) (by decide) (by decide) (by decide) ?_
  refine q_aloadN (pc' := 14) X hx (hb hby d_prog_20_method_4_code_13) rfl rfl rfl ?_
  refine q_getF (pc' := 17) X hx hZ hown (hb hby d_prog_20_method_4_code_14) (host := "") (Or.inl (t18 hw)) eT F_items_o0 rfl ?_
  intro T X eT
  refine q_aloadN (pc' := 18) X hx (hb hby d_prog_20_method_4_code_17) rfl rfl rfl ?_
  refine q_getF (pc' := 21) X hx hZ hown (hb hby d_prog_20_method_4_code_18) (host := "") (Or.inl (t31 hw)) eT F_first_o0 rfl ?_
  intro T X eT
  refine q_aald (pc' := 22) (v := (.ref o2)) X hx hZ (hb hby d_prog_20_method_4_code_21) eT V_o1 rfl ⟨by decide, by decide⟩ rfl rfl ?_
  refine q_astoreN (pc' := 23) (l' := #[.val (.ref o0), .val (.ref o2)]) X hx (hb hby d_prog_20_method_4_code_22) rfl rfl rfl ?_
  refine q_aloadN (pc' := 24) X hx (hb hby d_prog_20_method_4_code_23) rfl rfl rfl ?_
  refine q_getF (pc' := 27) X hx hZ hown (hb hby d_prog_20_method_4_code_24) (host := "") (Or.inl (t18 hw)) eT F_items_o0 rfl ?_
  intro T X eT
  refine q_aloadN (pc' := 28) X hx (hb hby d_prog_20_method_4_code_27) rfl rfl rfl ?_
  refine q_dup (pc' := 29) X hx (hb hby d_prog_20_method_4_code_28) rfl rfl ?_
  refine q_getF (pc' := 32) X hx hZ hown (hb hby d_prog_20_method_4_code_29) (host := "") (Or.inl (t31 hw)) eT F_first_o0 rfl ?_
  intro T X eT
  refine q_dupX1 (pc' := 33) X hx (hb hby d_prog_20_method_4_code_32) rfl rfl rfl ?_
  refine q_iconst (pc' := 34) (z := (1 : Int32)) X hx (hb hby d_prog_20_method_4_code_33) rfl rfl ?_
  refine q_iadd (pc' := 35) (z := (1 : Int32)) X hx (hb hby d_prog_20_method_4_code_34) (by decide) rfl ?_
  refine q_putF (pc' := 38) X hx hZ hown (hb hby d_prog_20_method_4_code_35) (host := "") (Or.inl (t31 hw)) eT F_first_o0 E_o0 (Or.inl (t32 hw)) (t8 hw) (ty := .int) (by decide) rfl rfl rfl ?_
  intro T h_1 X eT Wx
  have N := Fr.snoc X N g_o0
  have O := ext_wr O Wx g_o0
  have KK := KK.wr Wx (Or.inl (List.mem_of_getElem? (i := 0) rfl))
  have ne_o2_o0 : o2 ≠ o0 := ne_exa E_o2 E_o0 (by decide)
  have ne_o1_o0 : o1 ≠ o0 := Ne.symm (Exa.neArv E_o0 V_o1 (t8 hw))
  have E_o2 := E_o2.wr Wx
  have F_value_o2 := F_value_o2.other Wx (Or.inl ne_o2_o0)
  have E_o0 := E_o0.wr Wx
  have F_items_o0 := F_items_o0.other Wx (Or.inr (slot_ne (Or.inl (t19 hw)) (Or.inl (t32 hw)) (by decide) (t := (.array (.object "java/lang/Object"))) (t' := .int) (by decide) (by decide)))
  have F_end_o0 := F_end_o0.other Wx (Or.inr (slot_ne (Or.inl (t30 hw)) (Or.inl (t32 hw)) (by decide) (t := .int) (t' := .int) (by decide) (by decide)))
  have F_first_o0 := F_first_o0.same Wx
  have V_o1 := V_o1.other Wx ne_o1_o0
  refine q_null (pc' := 39) X hx (hb hby d_prog_20_method_4_code_38) rfl ?_
  have ne_o2_o1 : o2 ≠ o1 := Exa.neArv E_o2 V_o1 (t48 hw)
  refine q_aast (pc' := 40) X hx hZ (hb hby d_prog_20_method_4_code_39) eT V_o1 rfl ⟨by decide, by decide⟩ (i := 0) rfl (Nat.le_of_ble_eq_true rfl) (fun _ _ _ => Or.inl rfl) rfl rfl ?_
  intro T h_2 X eT Wx V_o1'
  have N := Fr.snoc X N g_o1
  have O := ext_wr O Wx g_o1
  have KK := KK.wr Wx (Or.inl (List.mem_of_getElem? (i := 1) rfl))
  have E_o2 := E_o2.wr Wx
  have F_value_o2 := F_value_o2.other Wx (Or.inl ne_o2_o1)
  have E_o0 := E_o0.wr Wx
  have F_items_o0 := F_items_o0.other Wx (Or.inl (Ne.symm ne_o1_o0))
  have F_end_o0 := F_end_o0.other Wx (Or.inl (Ne.symm ne_o1_o0))
  have F_first_o0 := F_first_o0.other Wx (Or.inl (Ne.symm ne_o1_o0))
  have V_o1 : Arv Z h_2 o1 k_o1 (.object "java/lang/Object") (16 : Int32) [.null, .null, .null, .null, .null, .null, .null, .null, .null, .null, .null, .null, .null, .null, .null, .null] .null := V_o1'
  refine q_aloadN (pc' := 41) X hx (hb hby d_prog_20_method_4_code_40) rfl rfl rfl ?_
  refine Run.retR X hx hlk hret (hb hby d_prog_20_method_4_code_41) rfl rfl (by decide) (by decide) ?_
  try rw [eT]
  exact ⟨rfl, N, KK, E_o0, F_items_o0, F_end_o0, F_first_o0, V_o1⟩
set_option maxRecDepth 65536 in
set_option maxHeartbeats 40000000 in
theorem c24_size {l : Launch} {Z : State} {a0 : Array Value} (hw : ∀ d ∈ tables_1, d.before a0 Z = true) {w_NO_ITEMS : Addr} {w_cache : Addr} {k_w_NO_ITEMS : ClassId} {cl_w_cache : Cell} (wd : World Z w_NO_ITEMS w_cache k_w_NO_ITEMS cl_w_cache)  {h0 : Heap} (O : Ext Z.heap h0) {o0 : Addr} {o1 : Addr} {k_o1 : ClassId} (E_o0 : Exa Z h0 o0 "com/example/roundel/roundel/dag/ItemArray") (F_items_o0 : Fld Z h0 o0 "com/example/roundel/roundel/dag/ItemArray" "items" "[Ljava/lang/Object;" (.ref o1)) (F_end_o0 : Fld Z h0 o0 "com/example/roundel/roundel/dag/ItemArray" "end" "I" (.int (1 : Int32))) (F_first_o0 : Fld Z h0 o0 "com/example/roundel/roundel/dag/ItemArray" "first" "I" (.int (1 : Int32))) (V_o1 : Arv Z h0 o1 k_o1 (.object "java/lang/Object") (16 : Int32) [.null, .null, .null, .null, .null, .null, .null, .null, .null, .null, .null, .null, .null, .null, .null, .null] .null) (Ov_o1 : Ovr Z k_o1 "java/lang/Object") :
    Ctr l Z y5 prog_20_method_6_code 1 (some .int) ({ frames := 0, cells := 0, slots := 0, locals := 0 } : Room) #[(.ref o0)] h0 (fun v h L => v = some (.int (0 : Int32)) ∧ L = [] ∧ h = h0) := by
  refine Ctr.body (plainFor_of_name pn_3) ?_
  intro p e s m below meth c T X hx hby hml hown hnm hret hlk hZ eT
  have hml : c.maxLocals = 1 := hml
  have hown : s.vm.findClass "com/example/roundel/roundel/dag/ItemArray" = some m.cls := hown
  have hnm : meth.name = "size" := hnm
  have hret : meth.sig.returnType = (some .int) := hret
  refine Run.cast (show entryFrame m #[(.ref o0)] 1 = mkF m 0 #[.val (.ref o0)] [] from by first | (simp [entryFrame, mkF, argsToLocals, Value.category]; done) | rfl) ?_
  have wd0 := wd
  obtain ⟨S_w_NO_ITEMS, E_w_NO_ITEMS, S_w_cache, E_w_cache, V_w_NO_ITEMS, S_w_high, B_w_cache⟩ := wd
  have wd := wd0
  have N : Fr Z.heap.size [] := Fr.nil _
  have KK : Keep h0 h0 [] := Keep.refl h0 []
  refine q_aloadN (pc' := 1) X hx (hb hby d_prog_20_method_6_code_0) rfl rfl rfl ?_
  refine q_getF (pc' := 4) X hx hZ hown (hb hby d_prog_20_method_6_code_1) (host := "") (Or.inl (t29 hw)) eT F_end_o0 rfl ?_
  intro T X eT
  refine q_aloadN (pc' := 5) X hx (hb hby d_prog_20_method_6_code_4) rfl rfl rfl ?_
  refine q_getF (pc' := 8) X hx hZ hown (hb hby d_prog_20_method_6_code_5) (host := "") (Or.inl (t31 hw)) eT F_first_o0 rfl ?_
  intro T X eT
  refine q_isub (pc' := 9) (z := (0 : Int32)) X hx (hb hby d_prog_20_method_6_code_8) (by decide) rfl ?_
  refine Run.retI X hx hlk hret (hb hby d_prog_20_method_6_code_9) (by decide) (by decide) ?_
  try rw [eT]
  exact ⟨rfl, rfl, rfl⟩
set_option maxRecDepth 65536 in
set_option maxHeartbeats 40000000 in
theorem c25_peek {l : Launch} {Z : State} {a0 : Array Value} (hw : ∀ d ∈ tables_1, d.before a0 Z = true) {w_NO_ITEMS : Addr} {w_cache : Addr} {k_w_NO_ITEMS : ClassId} {cl_w_cache : Cell} (wd : World Z w_NO_ITEMS w_cache k_w_NO_ITEMS cl_w_cache)  {h0 : Heap} (O : Ext Z.heap h0) {o0 : Addr} {o1 : Addr} {k_o1 : ClassId} (E_o0 : Exa Z h0 o0 "com/example/roundel/roundel/dag/ItemArray") (F_items_o0 : Fld Z h0 o0 "com/example/roundel/roundel/dag/ItemArray" "items" "[Ljava/lang/Object;" (.ref o1)) (F_end_o0 : Fld Z h0 o0 "com/example/roundel/roundel/dag/ItemArray" "end" "I" (.int (1 : Int32))) (F_first_o0 : Fld Z h0 o0 "com/example/roundel/roundel/dag/ItemArray" "first" "I" (.int (1 : Int32))) (V_o1 : Arv Z h0 o1 k_o1 (.object "java/lang/Object") (16 : Int32) [.null, .null, .null, .null, .null, .null, .null, .null, .null, .null, .null, .null, .null, .null, .null, .null] .null) (Ov_o1 : Ovr Z k_o1 "java/lang/Object") :
    Ctr l Z y6 prog_20_method_3_code 1 (some (.object "java/lang/Object")) ({ frames := 0, cells := 0, slots := 0, locals := 0 } : Room) #[(.ref o0)] h0 (fun v h L => v = some .null ∧ L = [] ∧ h = h0) := by
  refine Ctr.body (plainFor_of_name pn_3) ?_
  intro p e s m below meth c T X hx hby hml hown hnm hret hlk hZ eT
  have hml : c.maxLocals = 1 := hml
  have hown : s.vm.findClass "com/example/roundel/roundel/dag/ItemArray" = some m.cls := hown
  have hnm : meth.name = "peek" := hnm
  have hret : meth.sig.returnType = (some (.object "java/lang/Object")) := hret
  refine Run.cast (show entryFrame m #[(.ref o0)] 1 = mkF m 0 #[.val (.ref o0)] [] from by first | (simp [entryFrame, mkF, argsToLocals, Value.category]; done) | rfl) ?_
  have wd0 := wd
  obtain ⟨S_w_NO_ITEMS, E_w_NO_ITEMS, S_w_cache, E_w_cache, V_w_NO_ITEMS, S_w_high, B_w_cache⟩ := wd
  have wd := wd0
  have N : Fr Z.heap.size [] := Fr.nil _
  have KK : Keep h0 h0 [] := Keep.refl h0 []
  refine q_aloadN (pc' := 1) X hx (hb hby d_prog_20_method_3_code_0) rfl rfl rfl ?_
  refine q_getF (pc' := 4) X hx hZ hown (hb hby d_prog_20_method_3_code_1) (host := "") (Or.inl (t31 hw)) eT F_first_o0 rfl ?_
  intro T X eT
  refine q_aloadN (pc' := 5) X hx (hb hby d_prog_20_method_3_code_4) rfl rfl rfl ?_
  refine q_getF (pc' := 8) X hx hZ hown (hb hby d_prog_20_method_3_code_5) (host := "") (Or.inl (t29 hw)) eT F_end_o0 rfl ?_
  intro T X eT
  refine q_icmpNo (pc' := 11) X hx (hb hby d_prog_20_method_3_code_8) (by decide) rfl ?_
  refine q_null (pc' := 12) X hx (hb hby d_prog_20_method_3_code_11) rfl ?_
  refine q_goto (pc' := 24) X hx (hb hby d_prog_20_method_3_code_12) (by decide) (by decide) ?_
  refine Run.retR X hx hlk hret (hb hby d_prog_20_method_3_code_24) rfl rfl (by decide) (by decide) ?_
  try rw [eT]
  exact ⟨rfl, rfl, rfl⟩
set_option maxRecDepth 65536 in
set_option maxHeartbeats 40000000 in
theorem c26_expected {l : Launch} {Z : State} {a0 : Array Value} (hw : ∀ d ∈ tables_1, d.before a0 Z = true) {w_NO_ITEMS : Addr} {w_cache : Addr} {k_w_NO_ITEMS : ClassId} {cl_w_cache : Cell} (wd : World Z w_NO_ITEMS w_cache k_w_NO_ITEMS cl_w_cache) (x0 : Int32) (x1 : Int32) (x2 : Int32) {h0 : Heap} (O : Ext Z.heap h0) {o0 : Addr} {o1 : Addr} {o2 : Addr} (E_o0 : Exa Z h0 o0 "java/lang/Integer") (F_value_o0 : Fld Z h0 o0 "java/lang/Integer" "value" "I" (.int x0)) (E_o1 : Exa Z h0 o1 "java/lang/Integer") (F_value_o1 : Fld Z h0 o1 "java/lang/Integer" "value" "I" (.int x1)) (E_o2 : Exa Z h0 o2 "java/lang/Integer") (F_value_o2 : Fld Z h0 o2 "java/lang/Integer" "value" "I" (.int x2)) :
    Ctr l Z y7 method_2_code 5 (some (.object "java/lang/Object")) ({ frames := 0, cells := 0, slots := 0, locals := 0 } : Room) #[(.int (2 : Int32)), (.int (1 : Int32)), (.ref o0), (.ref o1), (.ref o2)] h0 (fun v h L => v = some .null ∧ L = [] ∧ h = h0) := by
  refine Ctr.body (plainFor_of_name pn_2) ?_
  intro p e s m below meth c T X hx hby hml hown hnm hret hlk hZ eT
  have hml : c.maxLocals = 5 := hml
  have hown : s.vm.findClass "com/example/roundel/roundel/dag/ItemArrayPollPinLaw" = some m.cls := hown
  have hnm : meth.name = "expected" := hnm
  have hret : meth.sig.returnType = (some (.object "java/lang/Object")) := hret
  refine Run.cast (show entryFrame m #[(.int (2 : Int32)), (.int (1 : Int32)), (.ref o0), (.ref o1), (.ref o2)] 5 = mkF m 0 #[.val (.int (2 : Int32)), .val (.int (1 : Int32)), .val (.ref o0), .val (.ref o1), .val (.ref o2)] [] from by first | (simp [entryFrame, mkF, argsToLocals, Value.category]; done) | rfl) ?_
  have wd0 := wd
  obtain ⟨S_w_NO_ITEMS, E_w_NO_ITEMS, S_w_cache, E_w_cache, V_w_NO_ITEMS, S_w_high, B_w_cache⟩ := wd
  have wd := wd0
  have N : Fr Z.heap.size [] := Fr.nil _
  have KK : Keep h0 h0 [] := Keep.refl h0 []
  refine q_iloadN (pc' := 1) X hx (hb hby d_method_2_code_0) rfl rfl ?_
  refine q_iloadN (pc' := 2) X hx (hb hby d_method_2_code_1) rfl rfl ?_
  refine q_icmpNo (pc' := 5) X hx (hb hby d_method_2_code_2) (by decide) rfl ?_
  refine q_null (pc' := 6) X hx (hb hby d_method_2_code_5) rfl ?_
  refine Run.retR X hx hlk hret (hb hby d_method_2_code_6) rfl rfl (by decide) (by decide) ?_
  try rw [eT]
  exact ⟨rfl, rfl, rfl⟩
set_option maxRecDepth 65536 in
set_option maxHeartbeats 40000000 in
theorem c27_poll {l : Launch} {Z : State} {a0 : Array Value} (hw : ∀ d ∈ tables_1, d.before a0 Z = true) {w_NO_ITEMS : Addr} {w_cache : Addr} {k_w_NO_ITEMS : ClassId} {cl_w_cache : Cell} (wd : World Z w_NO_ITEMS w_cache k_w_NO_ITEMS cl_w_cache)  {h0 : Heap} (O : Ext Z.heap h0) {o0 : Addr} {o1 : Addr} {k_o1 : ClassId} (E_o0 : Exa Z h0 o0 "com/example/roundel/roundel/dag/ItemArray") (F_items_o0 : Fld Z h0 o0 "com/example/roundel/roundel/dag/ItemArray" "items" "[Ljava/lang/Object;" (.ref o1)) (F_end_o0 : Fld Z h0 o0 "com/example/roundel/roundel/dag/ItemArray" "end" "I" (.int (1 : Int32))) (F_first_o0 : Fld Z h0 o0 "com/example/roundel/roundel/dag/ItemArray" "first" "I" (.int (1 : Int32))) (V_o1 : Arv Z h0 o1 k_o1 (.object "java/lang/Object") (16 : Int32) [.null, .null, .null, .null, .null, .null, .null, .null, .null, .null, .null, .null, .null, .null, .null, .null] .null) (Ov_o1 : Ovr Z k_o1 "java/lang/Object") :
    Ctr l Z y8 prog_20_method_4_code 2 (some (.object "java/lang/Object")) ({ frames := 0, cells := 0, slots := 0, locals := 0 } : Room) #[(.ref o0)] h0 (fun v h L => v = some .null ∧ L = [] ∧ h = h0) := by
  refine Ctr.body (plainFor_of_name pn_3) ?_
  intro p e s m below meth c T X hx hby hml hown hnm hret hlk hZ eT
  have hml : c.maxLocals = 2 := hml
  have hown : s.vm.findClass "com/example/roundel/roundel/dag/ItemArray" = some m.cls := hown
  have hnm : meth.name = "poll" := hnm
  have hret : meth.sig.returnType = (some (.object "java/lang/Object")) := hret
  refine Run.cast (show entryFrame m #[(.ref o0)] 2 = mkF m 0 #[.val (.ref o0), .unset] [] from by first | (simp [entryFrame, mkF, argsToLocals, Value.category]; done) | rfl) ?_
  have wd0 := wd
  obtain ⟨S_w_NO_ITEMS, E_w_NO_ITEMS, S_w_cache, E_w_cache, V_w_NO_ITEMS, S_w_high, B_w_cache⟩ := wd
  have wd := wd0
  have N : Fr Z.heap.size [] := Fr.nil _
  have KK : Keep h0 h0 [] := Keep.refl h0 []
  refine q_aloadN (pc' := 1) X hx (hb hby d_prog_20_method_4_code_0) rfl rfl rfl ?_
  refine q_getF (pc' := 4) X hx hZ hown (hb hby d_prog_20_method_4_code_1) (host := "") (Or.inl (t31 hw)) eT F_first_o0 rfl ?_
  intro T X eT
  refine q_aloadN (pc' := 5) X hx (hb hby d_prog_20_method_4_code_4) rfl rfl rfl ?_
  refine q_getF (pc' := 8) X hx hZ hown (hb hby d_prog_20_method_4_code_5) (host := "") (Or.inl (t29 hw)) eT F_end_o0 rfl ?_
  intro T X eT
  refine q_icmpNo (pc' := 11) X hx (hb hby d_prog_20_method_4_code_8) (by decide) rfl ?_
  refine q_null (pc' := 12) X hx (hb hby d_prog_20_method_4_code_11) rfl ?_
  refine Run.retR X hx hlk hret (hb hby d_prog_20_method_4_code_12) rfl rfl (by decide) (by decide) ?_
  try rw [eT]
  exact ⟨rfl, rfl, rfl⟩
set_option maxRecDepth 65536 in
set_option maxHeartbeats 40000000 in
theorem c28_expected {l : Launch} {Z : State} {a0 : Array Value} (hw : ∀ d ∈ tables_1, d.before a0 Z = true) {w_NO_ITEMS : Addr} {w_cache : Addr} {k_w_NO_ITEMS : ClassId} {cl_w_cache : Cell} (wd : World Z w_NO_ITEMS w_cache k_w_NO_ITEMS cl_w_cache) (x0 : Int32) (x1 : Int32) (x2 : Int32) {h0 : Heap} (O : Ext Z.heap h0) {o0 : Addr} {o1 : Addr} {o2 : Addr} (E_o0 : Exa Z h0 o0 "java/lang/Integer") (F_value_o0 : Fld Z h0 o0 "java/lang/Integer" "value" "I" (.int x0)) (E_o1 : Exa Z h0 o1 "java/lang/Integer") (F_value_o1 : Fld Z h0 o1 "java/lang/Integer" "value" "I" (.int x1)) (E_o2 : Exa Z h0 o2 "java/lang/Integer") (F_value_o2 : Fld Z h0 o2 "java/lang/Integer" "value" "I" (.int x2)) :
    Ctr l Z y7 method_2_code 5 (some (.object "java/lang/Object")) ({ frames := 0, cells := 0, slots := 0, locals := 0 } : Room) #[(.int (3 : Int32)), (.int (1 : Int32)), (.ref o0), (.ref o1), (.ref o2)] h0 (fun v h L => v = some .null ∧ L = [] ∧ h = h0) := by
  refine Ctr.body (plainFor_of_name pn_2) ?_
  intro p e s m below meth c T X hx hby hml hown hnm hret hlk hZ eT
  have hml : c.maxLocals = 5 := hml
  have hown : s.vm.findClass "com/example/roundel/roundel/dag/ItemArrayPollPinLaw" = some m.cls := hown
  have hnm : meth.name = "expected" := hnm
  have hret : meth.sig.returnType = (some (.object "java/lang/Object")) := hret
  refine Run.cast (show entryFrame m #[(.int (3 : Int32)), (.int (1 : Int32)), (.ref o0), (.ref o1), (.ref o2)] 5 = mkF m 0 #[.val (.int (3 : Int32)), .val (.int (1 : Int32)), .val (.ref o0), .val (.ref o1), .val (.ref o2)] [] from by first | (simp [entryFrame, mkF, argsToLocals, Value.category]; done) | rfl) ?_
  have wd0 := wd
  obtain ⟨S_w_NO_ITEMS, E_w_NO_ITEMS, S_w_cache, E_w_cache, V_w_NO_ITEMS, S_w_high, B_w_cache⟩ := wd
  have wd := wd0
  have N : Fr Z.heap.size [] := Fr.nil _
  have KK : Keep h0 h0 [] := Keep.refl h0 []
  refine q_iloadN (pc' := 1) X hx (hb hby d_method_2_code_0) rfl rfl ?_
  refine q_iloadN (pc' := 2) X hx (hb hby d_method_2_code_1) rfl rfl ?_
  refine q_icmpNo (pc' := 5) X hx (hb hby d_method_2_code_2) (by decide) rfl ?_
  refine q_null (pc' := 6) X hx (hb hby d_method_2_code_5) rfl ?_
  refine Run.retR X hx hlk hret (hb hby d_method_2_code_6) rfl rfl (by decide) (by decide) ?_
  try rw [eT]
  exact ⟨rfl, rfl, rfl⟩
set_option maxRecDepth 65536 in
set_option maxHeartbeats 40000000 in
theorem c29_expected {l : Launch} {Z : State} {a0 : Array Value} (hw : ∀ d ∈ tables_1, d.before a0 Z = true) {w_NO_ITEMS : Addr} {w_cache : Addr} {k_w_NO_ITEMS : ClassId} {cl_w_cache : Cell} (wd : World Z w_NO_ITEMS w_cache k_w_NO_ITEMS cl_w_cache) (x0 : Int32) (x1 : Int32) (x2 : Int32) {h0 : Heap} (O : Ext Z.heap h0) {o0 : Addr} {o1 : Addr} {o2 : Addr} (E_o0 : Exa Z h0 o0 "java/lang/Integer") (F_value_o0 : Fld Z h0 o0 "java/lang/Integer" "value" "I" (.int x0)) (E_o1 : Exa Z h0 o1 "java/lang/Integer") (F_value_o1 : Fld Z h0 o1 "java/lang/Integer" "value" "I" (.int x1)) (E_o2 : Exa Z h0 o2 "java/lang/Integer") (F_value_o2 : Fld Z h0 o2 "java/lang/Integer" "value" "I" (.int x2)) :
    Ctr l Z y7 method_2_code 5 (some (.object "java/lang/Object")) ({ frames := 0, cells := 0, slots := 0, locals := 0 } : Room) #[(.int (4 : Int32)), (.int (1 : Int32)), (.ref o0), (.ref o1), (.ref o2)] h0 (fun v h L => v = some .null ∧ L = [] ∧ h = h0) := by
  refine Ctr.body (plainFor_of_name pn_2) ?_
  intro p e s m below meth c T X hx hby hml hown hnm hret hlk hZ eT
  have hml : c.maxLocals = 5 := hml
  have hown : s.vm.findClass "com/example/roundel/roundel/dag/ItemArrayPollPinLaw" = some m.cls := hown
  have hnm : meth.name = "expected" := hnm
  have hret : meth.sig.returnType = (some (.object "java/lang/Object")) := hret
  refine Run.cast (show entryFrame m #[(.int (4 : Int32)), (.int (1 : Int32)), (.ref o0), (.ref o1), (.ref o2)] 5 = mkF m 0 #[.val (.int (4 : Int32)), .val (.int (1 : Int32)), .val (.ref o0), .val (.ref o1), .val (.ref o2)] [] from by first | (simp [entryFrame, mkF, argsToLocals, Value.category]; done) | rfl) ?_
  have wd0 := wd
  obtain ⟨S_w_NO_ITEMS, E_w_NO_ITEMS, S_w_cache, E_w_cache, V_w_NO_ITEMS, S_w_high, B_w_cache⟩ := wd
  have wd := wd0
  have N : Fr Z.heap.size [] := Fr.nil _
  have KK : Keep h0 h0 [] := Keep.refl h0 []
  refine q_iloadN (pc' := 1) X hx (hb hby d_method_2_code_0) rfl rfl ?_
  refine q_iloadN (pc' := 2) X hx (hb hby d_method_2_code_1) rfl rfl ?_
  refine q_icmpNo (pc' := 5) X hx (hb hby d_method_2_code_2) (by decide) rfl ?_
  refine q_null (pc' := 6) X hx (hb hby d_method_2_code_5) rfl ?_
  refine Run.retR X hx hlk hret (hb hby d_method_2_code_6) rfl rfl (by decide) (by decide) ?_
  try rw [eT]
  exact ⟨rfl, rfl, rfl⟩
set_option maxRecDepth 65536 in
set_option maxHeartbeats 40000000 in
theorem c30_add {l : Launch} {Z : State} {a0 : Array Value} (hw : ∀ d ∈ tables_1, d.before a0 Z = true) {w_NO_ITEMS : Addr} {w_cache : Addr} {k_w_NO_ITEMS : ClassId} {cl_w_cache : Cell} (wd : World Z w_NO_ITEMS w_cache k_w_NO_ITEMS cl_w_cache) (x0 : Int32) (x1 : Int32) {h0 : Heap} (O : Ext Z.heap h0) {o0 : Addr} {o1 : Addr} {o2 : Addr} {o3 : Addr} {k_o1 : ClassId} (E_o2 : Exa Z h0 o2 "java/lang/Integer") (F_value_o2 : Fld Z h0 o2 "java/lang/Integer" "value" "I" (.int x0)) (E_o3 : Exa Z h0 o3 "java/lang/Integer") (F_value_o3 : Fld Z h0 o3 "java/lang/Integer" "value" "I" (.int x1)) (E_o0 : Exa Z h0 o0 "com/example/roundel/roundel/dag/ItemArray") (F_items_o0 : Fld Z h0 o0 "com/example/roundel/roundel/dag/ItemArray" "items" "[Ljava/lang/Object;" (.ref o1)) (F_end_o0 : Fld Z h0 o0 "com/example/roundel/roundel/dag/ItemArray" "end" "I" (.int (1 : Int32))) (F_first_o0 : Fld Z h0 o0 "com/example/roundel/roundel/dag/ItemArray" "first" "I" (.int (0 : Int32))) (V_o1 : Arv Z h0 o1 k_o1 (.object "java/lang/Object") (16 : Int32) [(.ref o2), .null, .null, .null, .null, .null, .null, .null, .null, .null, .null, .null, .null, .null, .null, .null] .null) (Ov_o1 : Ovr Z k_o1 "java/lang/Object") (g_o0 : Z.heap.size ≤ o0) (g_o1 : Z.heap.size ≤ o1) :
    Ctr l Z y10 prog_20_method_7_code 2 none ({ frames := 0, cells := 0, slots := 0, locals := 0 } : Room) #[(.ref o0), (.ref o3)] h0 (fun v h L => v = none ∧ Fr Z.heap.size L ∧ Keep h0 h [o0, o1] ∧ Exa Z h o0 "com/example/roundel/roundel/dag/ItemArray" ∧ Fld Z h o0 "com/example/roundel/roundel/dag/ItemArray" "items" "[Ljava/lang/Object;" (.ref o1) ∧ Fld Z h o0 "com/example/roundel/roundel/dag/ItemArray" "end" "I" (.int (2 : Int32)) ∧ Fld Z h o0 "com/example/roundel/roundel/dag/ItemArray" "first" "I" (.int (0 : Int32)) ∧ Arv Z h o1 k_o1 (.object "java/lang/Object") (16 : Int32) [(.ref o2), (.ref o3), .null, .null, .null, .null, .null, .null, .null, .null, .null, .null, .null, .null, .null, .null] .null) := by
  refine Ctr.body (plainFor_of_name pn_3) ?_
  intro p e s m below meth c T X hx hby hml hown hnm hret hlk hZ eT
  have hml : c.maxLocals = 2 := hml
  have hown : s.vm.findClass "com/example/roundel/roundel/dag/ItemArray" = some m.cls := hown
  have hnm : meth.name = "add" := hnm
  have hret : meth.sig.returnType = none := hret
  refine Run.cast (show entryFrame m #[(.ref o0), (.ref o3)] 2 = mkF m 0 #[.val (.ref o0), .val (.ref o3)] [] from by first | (simp [entryFrame, mkF, argsToLocals, Value.category]; done) | rfl) ?_
  have wd0 := wd
  obtain ⟨S_w_NO_ITEMS, E_w_NO_ITEMS, S_w_cache, E_w_cache, V_w_NO_ITEMS, S_w_high, B_w_cache⟩ := wd
  have wd := wd0
  have N : Fr Z.heap.size [] := Fr.nil _
  have KK : Keep h0 h0 [o0, o1] := Keep.refl h0 [o0, o1]
  refine q_aloadN (pc' := 1) X hx (hb hby d_prog_20_method_7_code_0) rfl rfl rfl ?_
  refine q_getF (pc' := 4) X hx hZ hown (hb hby d_prog_20_method_7_code_1) (host := "") (Or.inl (t29 hw)) eT F_end_o0 rfl ?_
  intro T X eT
  refine q_aloadN (pc' := 5) X hx (hb hby d_prog_20_method_7_code_4) rfl rfl rfl ?_
  refine q_getF (pc' := 8) X hx hZ hown (hb hby d_prog_20_method_7_code_5) (host := "") (Or.inl (t18 hw)) eT F_items_o0 rfl ?_
  intro T X eT
  refine q_len (pc' := 9) X hx hZ (hb hby d_prog_20_method_7_code_8) eT V_o1 rfl ?_
  refine q_icmpYes (pc' := 17) X hx (hb hby d_prog_20_method_7_code_9) (by decide) (by decide) (by decide) ?_
  refine q_aloadN (pc' := 18) X hx (hb hby d_prog_20_method_7_code_17) rfl rfl rfl ?_
  refine q_getF (pc' := 21) X hx hZ hown (hb hby d_prog_20_method_7_code_18) (host := "") (Or.inl (t18 hw)) eT F_items_o0 rfl ?_
  intro T X eT
  refine q_aloadN (pc' := 22) X hx (hb hby d_prog_20_method_7_code_21) rfl rfl rfl ?_
  refine q_dup (pc' := 23) X hx (hb hby d_prog_20_method_7_code_22) rfl rfl ?_
  refine q_getF (pc' := 26) X hx hZ hown (hb hby d_prog_20_method_7_code_23) (host := "") (Or.inl (t29 hw)) eT F_end_o0 rfl ?_
  intro T X eT
  refine q_dupX1 (pc' := 27) X hx (hb hby d_prog_20_method_7_code_26) rfl rfl rfl ?_
  refine q_iconst (pc' := 28) (z := (1 : Int32)) X hx (hb hby d_prog_20_method_7_code_27) rfl rfl ?_
  refine q_iadd (pc' := 29) (z := (2 : Int32)) X hx (hb hby d_prog_20_method_7_code_28) (by decide) rfl ?_
  refine q_putF (pc' := 32) X hx hZ hown (hb hby d_prog_20_method_7_code_29) (host := "") (Or.inl (t29 hw)) eT F_end_o0 E_o0 (Or.inl (t30 hw)) (t8 hw) (ty := .int) (by decide) rfl rfl rfl ?_
  intro T h_1 X eT Wx
  have N := Fr.snoc X N g_o0
  have O := ext_wr O Wx g_o0
  have KK := KK.wr Wx (Or.inl (List.mem_of_getElem? (i := 0) rfl))
  have ne_o2_o0 : o2 ≠ o0 := ne_exa E_o2 E_o0 (by decide)
  have ne_o3_o0 : o3 ≠ o0 := ne_exa E_o3 E_o0 (by decide)
  have ne_o1_o0 : o1 ≠ o0 := Ne.symm (Exa.neArv E_o0 V_o1 (t8 hw))
  have E_o2 := E_o2.wr Wx
  have F_value_o2 := F_value_o2.other Wx (Or.inl ne_o2_o0)
  have E_o3 := E_o3.wr Wx
  have F_value_o3 := F_value_o3.other Wx (Or.inl ne_o3_o0)
  have E_o0 := E_o0.wr Wx
  have F_items_o0 := F_items_o0.other Wx (Or.inr (slot_ne (Or.inl (t19 hw)) (Or.inl (t30 hw)) (by decide) (t := (.array (.object "java/lang/Object"))) (t' := .int) (by decide) (by decide)))
  have F_end_o0 := F_end_o0.same Wx
  have F_first_o0 := F_first_o0.other Wx (Or.inr (slot_ne (Or.inl (t32 hw)) (Or.inl (t30 hw)) (by decide) (t := .int) (t' := .int) (by decide) (by decide)))
  have V_o1 := V_o1.other Wx ne_o1_o0
  refine q_aloadN (pc' := 33) X hx (hb hby d_prog_20_method_7_code_32) rfl rfl rfl ?_
  have ne_o2_o1 : o2 ≠ o1 := Exa.neArv E_o2 V_o1 (t48 hw)
  have ne_o3_o1 : o3 ≠ o1 := Exa.neArv E_o3 V_o1 (t48 hw)
  refine q_aast (pc' := 34) X hx hZ (hb hby d_prog_20_method_7_code_33) eT V_o1 rfl ⟨by decide, by decide⟩ (i := 1) rfl (Nat.le_of_ble_eq_true rfl) (fun _ A q => Sto.ofV A q Ov_o1 (Ins.of_exa E_o3 (t78 hw))) rfl rfl ?_
  intro T h_2 X eT Wx V_o1'
  have N := Fr.snoc X N g_o1
  have O := ext_wr O Wx g_o1
  have KK := KK.wr Wx (Or.inl (List.mem_of_getElem? (i := 1) rfl))
  have E_o2 := E_o2.wr Wx
  have F_value_o2 := F_value_o2.other Wx (Or.inl ne_o2_o1)
  have E_o3 := E_o3.wr Wx
  have F_value_o3 := F_value_o3.other Wx (Or.inl ne_o3_o1)
  have E_o0 := E_o0.wr Wx
  have F_items_o0 := F_items_o0.other Wx (Or.inl (Ne.symm ne_o1_o0))
  have F_end_o0 := F_end_o0.other Wx (Or.inl (Ne.symm ne_o1_o0))
  have F_first_o0 := F_first_o0.other Wx (Or.inl (Ne.symm ne_o1_o0))
  have V_o1 : Arv Z h_2 o1 k_o1 (.object "java/lang/Object") (16 : Int32) [(.ref o2), (.ref o3), .null, .null, .null, .null, .null, .null, .null, .null, .null, .null, .null, .null, .null, .null] .null := V_o1'
  refine Run.retV X hx hlk hret (hb hby d_prog_20_method_7_code_34) (by decide) (by decide) ?_
  try rw [eT]
  exact ⟨rfl, N, KK, E_o0, F_items_o0, F_end_o0, F_first_o0, V_o1⟩
set_option maxRecDepth 65536 in
set_option maxHeartbeats 40000000 in
theorem c31_max {l : Launch} {Z : State} {a0 : Array Value} (hw : ∀ d ∈ tables_1, d.before a0 Z = true) {w_NO_ITEMS : Addr} {w_cache : Addr} {k_w_NO_ITEMS : ClassId} {cl_w_cache : Cell} (wd : World Z w_NO_ITEMS w_cache k_w_NO_ITEMS cl_w_cache)  {h0 : Heap} (O : Ext Z.heap h0)  :
    Ctr l Z y4 jdk_29_method_65_code 2 (some .int) ({ frames := 0, cells := 0, slots := 0, locals := 0 } : Room) #[(.int (2 : Int32)), (.int (0 : Int32))] h0 (fun v h L => v = some (.int (2 : Int32)) ∧ L = [] ∧ h = h0) := by
  refine Ctr.body (Jvm.Free.JP.mathPlain rfl (by decide +kernel)) ?_
  intro p e s m below meth c T X hx hby hml hown hnm hret hlk hZ eT
  have hml : c.maxLocals = 2 := hml
  have hown : s.vm.findClass "java/lang/Math" = some m.cls := hown
  have hnm : meth.name = "max" := hnm
  have hret : meth.sig.returnType = (some .int) := hret
  refine Run.cast (show entryFrame m #[(.int (2 : Int32)), (.int (0 : Int32))] 2 = mkF m 0 #[.val (.int (2 : Int32)), .val (.int (0 : Int32))] [] from by first | (simp [entryFrame, mkF, argsToLocals, Value.category]; done) | rfl) ?_
  have wd0 := wd
  obtain ⟨S_w_NO_ITEMS, E_w_NO_ITEMS, S_w_cache, E_w_cache, V_w_NO_ITEMS, S_w_high, B_w_cache⟩ := wd
  have wd := wd0
  have N : Fr Z.heap.size [] := Fr.nil _
  have KK : Keep h0 h0 [] := Keep.refl h0 []
  refine q_iloadN (pc' := 1) X hx (hb hby d_jdk_29_method_65_code_0) rfl rfl ?_
  refine q_iloadN (pc' := 2) X hx (hb hby d_jdk_29_method_65_code_1) rfl rfl ?_
  refine q_icmpNo (pc' := 5) X hx (hb hby d_jdk_29_method_65_code_2) (by decide) rfl ?_
  refine q_iloadN (pc' := 6) X hx (hb hby d_jdk_29_method_65_code_5) rfl rfl ?_
  refine q_goto (pc' := 10) X hx (hb hby d_jdk_29_method_65_code_6) (by decide) (by decide) ?_
  refine Run.retI X hx hlk hret (hb hby d_jdk_29_method_65_code_10) (by decide) (by decide) ?_
  try rw [eT]
  exact ⟨rfl, rfl, rfl⟩
set_option maxRecDepth 65536 in
set_option maxHeartbeats 40000000 in
theorem c32_size {l : Launch} {Z : State} {a0 : Array Value} (hw : ∀ d ∈ tables_1, d.before a0 Z = true) {w_NO_ITEMS : Addr} {w_cache : Addr} {k_w_NO_ITEMS : ClassId} {cl_w_cache : Cell} (wd : World Z w_NO_ITEMS w_cache k_w_NO_ITEMS cl_w_cache) (x0 : Int32) (x1 : Int32) {h0 : Heap} (O : Ext Z.heap h0) {o0 : Addr} {o1 : Addr} {o2 : Addr} {o3 : Addr} {k_o1 : ClassId} (E_o2 : Exa Z h0 o2 "java/lang/Integer") (F_value_o2 : Fld Z h0 o2 "java/lang/Integer" "value" "I" (.int x0)) (E_o3 : Exa Z h0 o3 "java/lang/Integer") (F_value_o3 : Fld Z h0 o3 "java/lang/Integer" "value" "I" (.int x1)) (E_o0 : Exa Z h0 o0 "com/example/roundel/roundel/dag/ItemArray") (F_items_o0 : Fld Z h0 o0 "com/example/roundel/roundel/dag/ItemArray" "items" "[Ljava/lang/Object;" (.ref o1)) (F_end_o0 : Fld Z h0 o0 "com/example/roundel/roundel/dag/ItemArray" "end" "I" (.int (2 : Int32))) (F_first_o0 : Fld Z h0 o0 "com/example/roundel/roundel/dag/ItemArray" "first" "I" (.int (0 : Int32))) (V_o1 : Arv Z h0 o1 k_o1 (.object "java/lang/Object") (16 : Int32) [(.ref o2), (.ref o3), .null, .null, .null, .null, .null, .null, .null, .null, .null, .null, .null, .null, .null, .null] .null) (Ov_o1 : Ovr Z k_o1 "java/lang/Object") :
    Ctr l Z y5 prog_20_method_6_code 1 (some .int) ({ frames := 0, cells := 0, slots := 0, locals := 0 } : Room) #[(.ref o0)] h0 (fun v h L => v = some (.int (2 : Int32)) ∧ L = [] ∧ h = h0) := by
  refine Ctr.body (plainFor_of_name pn_3) ?_
  intro p e s m below meth c T X hx hby hml hown hnm hret hlk hZ eT
  have hml : c.maxLocals = 1 := hml
  have hown : s.vm.findClass "com/example/roundel/roundel/dag/ItemArray" = some m.cls := hown
  have hnm : meth.name = "size" := hnm
  have hret : meth.sig.returnType = (some .int) := hret
  refine Run.cast (show entryFrame m #[(.ref o0)] 1 = mkF m 0 #[.val (.ref o0)] [] from by first | (simp [entryFrame, mkF, argsToLocals, Value.category]; done) | rfl) ?_
  have wd0 := wd
  obtain ⟨S_w_NO_ITEMS, E_w_NO_ITEMS, S_w_cache, E_w_cache, V_w_NO_ITEMS, S_w_high, B_w_cache⟩ := wd
  have wd := wd0
  have N : Fr Z.heap.size [] := Fr.nil _
  have KK : Keep h0 h0 [] := Keep.refl h0 []
  refine q_aloadN (pc' := 1) X hx (hb hby d_prog_20_method_6_code_0) rfl rfl rfl ?_
  refine q_getF (pc' := 4) X hx hZ hown (hb hby d_prog_20_method_6_code_1) (host := "") (Or.inl (t29 hw)) eT F_end_o0 rfl ?_
  intro T X eT
  refine q_aloadN (pc' := 5) X hx (hb hby d_prog_20_method_6_code_4) rfl rfl rfl ?_
  refine q_getF (pc' := 8) X hx hZ hown (hb hby d_prog_20_method_6_code_5) (host := "") (Or.inl (t31 hw)) eT F_first_o0 rfl ?_
  intro T X eT
  refine q_isub (pc' := 9) (z := (2 : Int32)) X hx (hb hby d_prog_20_method_6_code_8) (by decide) rfl ?_
  refine Run.retI X hx hlk hret (hb hby d_prog_20_method_6_code_9) (by decide) (by decide) ?_
  try rw [eT]
  exact ⟨rfl, rfl, rfl⟩
set_option maxRecDepth 65536 in
set_option maxHeartbeats 40000000 in
theorem c33_peek {l : Launch} {Z : State} {a0 : Array Value} (hw : ∀ d ∈ tables_1, d.before a0 Z = true) {w_NO_ITEMS : Addr} {w_cache : Addr} {k_w_NO_ITEMS : ClassId} {cl_w_cache : Cell} (wd : World Z w_NO_ITEMS w_cache k_w_NO_ITEMS cl_w_cache) (x0 : Int32) (x1 : Int32) {h0 : Heap} (O : Ext Z.heap h0) {o0 : Addr} {o1 : Addr} {o2 : Addr} {o3 : Addr} {k_o1 : ClassId} (E_o2 : Exa Z h0 o2 "java/lang/Integer") (F_value_o2 : Fld Z h0 o2 "java/lang/Integer" "value" "I" (.int x0)) (E_o3 : Exa Z h0 o3 "java/lang/Integer") (F_value_o3 : Fld Z h0 o3 "java/lang/Integer" "value" "I" (.int x1)) (E_o0 : Exa Z h0 o0 "com/example/roundel/roundel/dag/ItemArray") (F_items_o0 : Fld Z h0 o0 "com/example/roundel/roundel/dag/ItemArray" "items" "[Ljava/lang/Object;" (.ref o1)) (F_end_o0 : Fld Z h0 o0 "com/example/roundel/roundel/dag/ItemArray" "end" "I" (.int (2 : Int32))) (F_first_o0 : Fld Z h0 o0 "com/example/roundel/roundel/dag/ItemArray" "first" "I" (.int (0 : Int32))) (V_o1 : Arv Z h0 o1 k_o1 (.object "java/lang/Object") (16 : Int32) [(.ref o2), (.ref o3), .null, .null, .null, .null, .null, .null, .null, .null, .null, .null, .null, .null, .null, .null] .null) (Ov_o1 : Ovr Z k_o1 "java/lang/Object") :
    Ctr l Z y6 prog_20_method_3_code 1 (some (.object "java/lang/Object")) ({ frames := 0, cells := 0, slots := 0, locals := 0 } : Room) #[(.ref o0)] h0 (fun v h L => v = some (.ref o2) ∧ L = [] ∧ h = h0) := by
  refine Ctr.body (plainFor_of_name pn_3) ?_
  intro p e s m below meth c T X hx hby hml hown hnm hret hlk hZ eT
  have hml : c.maxLocals = 1 := hml
  have hown : s.vm.findClass "com/example/roundel/roundel/dag/ItemArray" = some m.cls := hown
  have hnm : meth.name = "peek" := hnm
  have hret : meth.sig.returnType = (some (.object "java/lang/Object")) := hret
  refine Run.cast (show entryFrame m #[(.ref o0)] 1 = mkF m 0 #[.val (.ref o0)] [] from by first | (simp [entryFrame, mkF, argsToLocals, Value.category]; done) | rfl) ?_
  have wd0 := wd
  obtain ⟨S_w_NO_ITEMS, E_w_NO_ITEMS, S_w_cache, E_w_cache, V_w_NO_ITEMS, S_w_high, B_w_cache⟩ := wd
  have wd := wd0
  have N : Fr Z.heap.size [] := Fr.nil _
  have KK : Keep h0 h0 [] := Keep.refl h0 []
  refine q_aloadN (pc' := 1) X hx (hb hby d_prog_20_method_3_code_0) rfl rfl rfl ?_
  refine q_getF (pc' := 4) X hx hZ hown (hb hby d_prog_20_method_3_code_1) (host := "") (Or.inl (t31 hw)) eT F_first_o0 rfl ?_
  intro T X eT
  refine q_aloadN (pc' := 5) X hx (hb hby d_prog_20_method_3_code_4) rfl rfl rfl ?_
  refine q_getF (pc' := 8) X hx hZ hown (hb hby d_prog_20_method_3_code_5) (host := "") (Or.inl (t29 hw)) eT F_end_o0 rfl ?_
  intro T X eT
  refine q_icmpYes (pc' := 15) X hx (hb hby d_prog_20_method_3_code_8) (by decide) (by decide) (by decide) ?_
  refine q_aloadN (pc' := 16) X hx (hb hby d_prog_20_method_3_code_15) rfl rfl rfl ?_
  refine q_getF (pc' := 19) X hx hZ hown (hb hby d_prog_20_method_3_code_16) (host := "") (Or.inl (t18 hw)) eT F_items_o0 rfl ?_
  intro T X eT
  refine q_aloadN (pc' := 20) X hx (hb hby d_prog_20_method_3_code_19) rfl rfl rfl ?_
  refine q_getF (pc' := 23) X hx hZ hown (hb hby d_prog_20_method_3_code_20) (host := "") (Or.inl (t31 hw)) eT F_first_o0 rfl ?_
  intro T X eT
  refine q_aald (pc' := 24) (v := (.ref o2)) X hx hZ (hb hby d_prog_20_method_3_code_23) eT V_o1 rfl ⟨by decide, by decide⟩ rfl rfl ?_
  refine Run.retR X hx hlk hret (hb hby d_prog_20_method_3_code_24) rfl rfl (by decide) (by decide) ?_
  try rw [eT]
  exact ⟨rfl, rfl, rfl⟩
set_option maxRecDepth 65536 in
set_option maxHeartbeats 40000000 in
theorem c34_expected {l : Launch} {Z : State} {a0 : Array Value} (hw : ∀ d ∈ tables_1, d.before a0 Z = true) {w_NO_ITEMS : Addr} {w_cache : Addr} {k_w_NO_ITEMS : ClassId} {cl_w_cache : Cell} (wd : World Z w_NO_ITEMS w_cache k_w_NO_ITEMS cl_w_cache) (x0 : Int32) (x1 : Int32) (x2 : Int32) {h0 : Heap} (O : Ext Z.heap h0) {o0 : Addr} {o1 : Addr} {o2 : Addr} (E_o0 : Exa Z h0 o0 "java/lang/Integer") (F_value_o0 : Fld Z h0 o0 "java/lang/Integer" "value" "I" (.int x0)) (E_o1 : Exa Z h0 o1 "java/lang/Integer") (F_value_o1 : Fld Z h0 o1 "java/lang/Integer" "value" "I" (.int x1)) (E_o2 : Exa Z h0 o2 "java/lang/Integer") (F_value_o2 : Fld Z h0 o2 "java/lang/Integer" "value" "I" (.int x2)) :
    Ctr l Z y7 method_2_code 5 (some (.object "java/lang/Object")) ({ frames := 0, cells := 0, slots := 0, locals := 0 } : Room) #[(.int (1 : Int32)), (.int (2 : Int32)), (.ref o0), (.ref o1), (.ref o2)] h0 (fun v h L => v = some (.ref o0) ∧ L = [] ∧ h = h0) := by
  refine Ctr.body (plainFor_of_name pn_2) ?_
  intro p e s m below meth c T X hx hby hml hown hnm hret hlk hZ eT
  have hml : c.maxLocals = 5 := hml
  have hown : s.vm.findClass "com/example/roundel/roundel/dag/ItemArrayPollPinLaw" = some m.cls := hown
  have hnm : meth.name = "expected" := hnm
  have hret : meth.sig.returnType = (some (.object "java/lang/Object")) := hret
  refine Run.cast (show entryFrame m #[(.int (1 : Int32)), (.int (2 : Int32)), (.ref o0), (.ref o1), (.ref o2)] 5 = mkF m 0 #[.val (.int (1 : Int32)), .val (.int (2 : Int32)), .val (.ref o0), .val (.ref o1), .val (.ref o2)] [] from by first | (simp [entryFrame, mkF, argsToLocals, Value.category]; done) | rfl) ?_
  have wd0 := wd
  obtain ⟨S_w_NO_ITEMS, E_w_NO_ITEMS, S_w_cache, E_w_cache, V_w_NO_ITEMS, S_w_high, B_w_cache⟩ := wd
  have wd := wd0
  have N : Fr Z.heap.size [] := Fr.nil _
  have KK : Keep h0 h0 [] := Keep.refl h0 []
  refine q_iloadN (pc' := 1) X hx (hb hby d_method_2_code_0) rfl rfl ?_
  refine q_iloadN (pc' := 2) X hx (hb hby d_method_2_code_1) rfl rfl ?_
  refine q_icmpYes (pc' := 7) X hx (hb hby d_method_2_code_2) (by decide) (by decide) (by decide) ?_
  refine q_iloadN (pc' := 8) X hx (hb hby d_method_2_code_7) rfl rfl ?_
  refine q_iconst (pc' := 9) (z := (1 : Int32)) X hx (hb hby d_method_2_code_8) rfl rfl ?_
  refine q_icmpNo (pc' := 12) X hx (hb hby d_method_2_code_9) (by decide) rfl ?_
  refine q_aloadN (pc' := 13) X hx (hb hby d_method_2_code_12) rfl rfl rfl ?_
  refine Run.retR X hx hlk hret (hb hby d_method_2_code_13) rfl rfl (by decide) (by decide) ?_
  try rw [eT]
  exact ⟨rfl, rfl, rfl⟩
set_option maxRecDepth 65536 in
set_option maxHeartbeats 40000000 in
theorem c35_poll {l : Launch} {Z : State} {a0 : Array Value} (hw : ∀ d ∈ tables_1, d.before a0 Z = true) {w_NO_ITEMS : Addr} {w_cache : Addr} {k_w_NO_ITEMS : ClassId} {cl_w_cache : Cell} (wd : World Z w_NO_ITEMS w_cache k_w_NO_ITEMS cl_w_cache) (x0 : Int32) (x1 : Int32) {h0 : Heap} (O : Ext Z.heap h0) {o0 : Addr} {o1 : Addr} {o2 : Addr} {o3 : Addr} {k_o1 : ClassId} (E_o2 : Exa Z h0 o2 "java/lang/Integer") (F_value_o2 : Fld Z h0 o2 "java/lang/Integer" "value" "I" (.int x0)) (E_o3 : Exa Z h0 o3 "java/lang/Integer") (F_value_o3 : Fld Z h0 o3 "java/lang/Integer" "value" "I" (.int x1)) (E_o0 : Exa Z h0 o0 "com/example/roundel/roundel/dag/ItemArray") (F_items_o0 : Fld Z h0 o0 "com/example/roundel/roundel/dag/ItemArray" "items" "[Ljava/lang/Object;" (.ref o1)) (F_end_o0 : Fld Z h0 o0 "com/example/roundel/roundel/dag/ItemArray" "end" "I" (.int (2 : Int32))) (F_first_o0 : Fld Z h0 o0 "com/example/roundel/roundel/dag/ItemArray" "first" "I" (.int (0 : Int32))) (V_o1 : Arv Z h0 o1 k_o1 (.object "java/lang/Object") (16 : Int32) [(.ref o2), (.ref o3), .null, .null, .null, .null, .null, .null, .null, .null, .null, .null, .null, .null, .null, .null] .null) (Ov_o1 : Ovr Z k_o1 "java/lang/Object") (g_o0 : Z.heap.size ≤ o0) (g_o1 : Z.heap.size ≤ o1) :
    Ctr l Z y8 prog_20_method_4_code 2 (some (.object "java/lang/Object")) ({ frames := 0, cells := 0, slots := 0, locals := 0 } : Room) #[(.ref o0)] h0 (fun v h L => v = some (.ref o2) ∧ Fr Z.heap.size L ∧ Keep h0 h [o0, o1] ∧ Exa Z h o0 "com/example/roundel/roundel/dag/ItemArray" ∧ Fld Z h o0 "com/example/roundel/roundel/dag/ItemArray" "items" "[Ljava/lang/Object;" (.ref o1) ∧ Fld Z h o0 "com/example/roundel/roundel/dag/ItemArray" "end" "I" (.int (2 : Int32)) ∧ Fld Z h o0 "com/example/roundel/roundel/dag/ItemArray" "first" "I" (.int (1 : Int32)) ∧ Arv Z h o1 k_o1 (.object "java/lang/Object") (16 : Int32) [.null, (.ref o3), .null, .null, .null, .null, .null, .null, .null, .null, .null, .null, .null, .null, .null, .null] .null) := by
  refine Ctr.body (plainFor_of_name pn_3) ?_
  intro p e s m below meth c T X hx hby hml hown hnm hret hlk hZ eT
  have hml : c.maxLocals = 2 := hml
  have hown : s.vm.findClass "com/example/roundel/roundel/dag/ItemArray" = some m.cls := hown
  have hnm : meth.name = "poll" := hnm
  have hret : meth.sig.returnType = (some (.object "java/lang/Object")) := hret
  refine Run.cast (show entryFrame m #[(.ref o0)] 2 = mkF m 0 #[.val (.ref o0), .unset] [] from by first | (simp [entryFrame, mkF, argsToLocals, Value.category]; done) | rfl) ?_
  have wd0 := wd
  obtain ⟨S_w_NO_ITEMS, E_w_NO_ITEMS, S_w_cache, E_w_cache, V_w_NO_ITEMS, S_w_high, B_w_cache⟩ := wd
  have wd := wd0
  have N : Fr Z.heap.size [] := Fr.nil _
  have KK : Keep h0 h0 [o0, o1] := Keep.refl h0 [o0, o1]
  refine q_aloadN (pc' := 1) X hx (hb hby d_prog_20_method_4_code_0) rfl rfl rfl ?_
  refine q_getF (pc' := 4) X hx hZ hown (hb hby d_prog_20_method_4_code_1) (host := "") (Or.inl (t31 hw)) eT F_first_o0 rfl ?_
  intro T X eT
  refine q_aloadN (pc' := 5) X hx (hb hby d_prog_20_method_4_code_4) rfl rfl rfl ?_
  refine q_getF (pc' := 8) X hx hZ hown (hb hby d_prog_20_method_4_code_5) (host := "") (Or.inl (t29 hw)) eT F_end_o0 rfl ?_
  intro T X eT
  refine q_icmpYes (pc' := 13) X hx (hb hby d_prog_20_method_4_code_8) (by decide) (by decide) (by decide) ?_
  refine q_aloadN (pc' := 14) X hx (hb hby d_prog_20_method_4_code_13) rfl rfl rfl ?_
  refine q_getF (pc' := 17) X hx hZ hown (hb hby d_prog_20_method_4_code_14) (host := "") (Or.inl (t18 hw)) eT F_items_o0 rfl ?_
  intro T X eT
  refine q_aloadN (pc' := 18) X hx (hb hby d_prog_20_method_4_code_17) rfl rfl rfl ?_
  refine q_getF (pc' := 21) X hx hZ hown (hb hby d_prog_20_method_4_code_18) (host := "") (Or.inl (t31 hw)) eT F_first_o0 rfl ?_
  intro T X eT
  refine q_aald (pc' := 22) (v := (.ref o2)) X hx hZ (hb hby d_prog_20_method_4_code_21) eT V_o1 rfl ⟨by decide, by decide⟩ rfl rfl ?_
  refine q_astoreN (pc' := 23) (l' := #[.val (.ref o0), .val (.ref o2)]) X hx (hb hby d_prog_20_method_4_code_22) rfl rfl rfl ?_
  refine q_aloadN (pc' := 24) X hx (hb hby d_prog_20_method_4_code_23) rfl rfl rfl ?_
  refine q_getF (pc' := 27) X hx hZ hown (hb hby d_prog_20_method_4_code_24) (host := "") (Or.inl (t18 hw)) eT F_items_o0 rfl ?_
  intro T X eT
  refine q_aloadN (pc' := 28) X hx (hb hby d_prog_20_method_4_code_27) rfl rfl rfl ?_
  refine q_dup (pc' := 29) X hx (hb hby d_prog_20_method_4_code_28) rfl rfl ?_
  refine q_getF (pc' := 32) X hx hZ hown (hb hby d_prog_20_method_4_code_29) (host := "") (Or.inl (t31 hw)) eT F_first_o0 rfl ?_
  intro T X eT
  refine q_dupX1 (pc' := 33) X hx (hb hby d_prog_20_method_4_code_32) rfl rfl rfl ?_
  refine q_iconst (pc' := 34) (z := (1 : Int32)) X hx (hb hby d_prog_20_method_4_code_33) rfl rfl ?_
  refine q_iadd (pc' := 35) (z := (1 : Int32)) X hx (hb hby d_prog_20_method_4_code_34) (by decide) rfl ?_
  refine q_putF (pc' := 38) X hx hZ hown (hb hby d_prog_20_method_4_code_35) (host := "") (Or.inl (t31 hw)) eT F_first_o0 E_o0 (Or.inl (t32 hw)) (t8 hw) (ty := .int) (by decide) rfl rfl rfl ?_
  intro T h_1 X eT Wx
  have N := Fr.snoc X N g_o0
  have O := ext_wr O Wx g_o0
  have KK := KK.wr Wx (Or.inl (List.mem_of_getElem? (i := 0) rfl))
  have ne_o2_o0 : o2 ≠ o0 := ne_exa E_o2 E_o0 (by decide)
  have ne_o3_o0 : o3 ≠ o0 := ne_exa E_o3 E_o0 (by decide)
  have ne_o1_o0 : o1 ≠ o0 := Ne.symm (Exa.neArv E_o0 V_o1 (t8 hw))
  have E_o2 := E_o2.wr Wx
  have F_value_o2 := F_value_o2.other Wx (Or.inl ne_o2_o0)
  have E_o3 := E_o3.wr Wx
  have F_value_o3 := F_value_o3.other Wx (Or.inl ne_o3_o0)
  have E_o0 := E_o0.wr Wx
  have F_items_o0 := F_items_o0.other Wx (Or.inr (slot_ne (Or.inl (t19 hw)) (Or.inl (t32 hw)) (by decide) (t := (.array (.object "java/lang/Object"))) (t' := .int) (by decide) (by decide)))
  have F_end_o0 := F_end_o0.other Wx (Or.inr (slot_ne (Or.inl (t30 hw)) (Or.inl (t32 hw)) (by decide) (t := .int) (t' := .int) (by decide) (by decide)))
  have F_first_o0 := F_first_o0.same Wx
  have V_o1 := V_o1.other Wx ne_o1_o0
  refine q_null (pc' := 39) X hx (hb hby d_prog_20_method_4_code_38) rfl ?_
  have ne_o2_o1 : o2 ≠ o1 := Exa.neArv E_o2 V_o1 (t48 hw)
  have ne_o3_o1 : o3 ≠ o1 := Exa.neArv E_o3 V_o1 (t48 hw)
  refine q_aast (pc' := 40) X hx hZ (hb hby d_prog_20_method_4_code_39) eT V_o1 rfl ⟨by decide, by decide⟩ (i := 0) rfl (Nat.le_of_ble_eq_true rfl) (fun _ _ _ => Or.inl rfl) rfl rfl ?_
  intro T h_2 X eT Wx V_o1'
  have N := Fr.snoc X N g_o1
  have O := ext_wr O Wx g_o1
  have KK := KK.wr Wx (Or.inl (List.mem_of_getElem? (i := 1) rfl))
  have E_o2 := E_o2.wr Wx
  have F_value_o2 := F_value_o2.other Wx (Or.inl ne_o2_o1)
  have E_o3 := E_o3.wr Wx
  have F_value_o3 := F_value_o3.other Wx (Or.inl ne_o3_o1)
  have E_o0 := E_o0.wr Wx
  have F_items_o0 := F_items_o0.other Wx (Or.inl (Ne.symm ne_o1_o0))
  have F_end_o0 := F_end_o0.other Wx (Or.inl (Ne.symm ne_o1_o0))
  have F_first_o0 := F_first_o0.other Wx (Or.inl (Ne.symm ne_o1_o0))
  have V_o1 : Arv Z h_2 o1 k_o1 (.object "java/lang/Object") (16 : Int32) [.null, (.ref o3), .null, .null, .null, .null, .null, .null, .null, .null, .null, .null, .null, .null, .null, .null] .null := V_o1'
  refine q_aloadN (pc' := 41) X hx (hb hby d_prog_20_method_4_code_40) rfl rfl rfl ?_
  refine Run.retR X hx hlk hret (hb hby d_prog_20_method_4_code_41) rfl rfl (by decide) (by decide) ?_
  try rw [eT]
  exact ⟨rfl, N, KK, E_o0, F_items_o0, F_end_o0, F_first_o0, V_o1⟩
set_option maxRecDepth 65536 in
set_option maxHeartbeats 40000000 in
theorem c36_size {l : Launch} {Z : State} {a0 : Array Value} (hw : ∀ d ∈ tables_1, d.before a0 Z = true) {w_NO_ITEMS : Addr} {w_cache : Addr} {k_w_NO_ITEMS : ClassId} {cl_w_cache : Cell} (wd : World Z w_NO_ITEMS w_cache k_w_NO_ITEMS cl_w_cache) (x0 : Int32) {h0 : Heap} (O : Ext Z.heap h0) {o0 : Addr} {o1 : Addr} {o2 : Addr} {k_o1 : ClassId} (E_o2 : Exa Z h0 o2 "java/lang/Integer") (F_value_o2 : Fld Z h0 o2 "java/lang/Integer" "value" "I" (.int x0)) (E_o0 : Exa Z h0 o0 "com/example/roundel/roundel/dag/ItemArray") (F_items_o0 : Fld Z h0 o0 "com/example/roundel/roundel/dag/ItemArray" "items" "[Ljava/lang/Object;" (.ref o1)) (F_end_o0 : Fld Z h0 o0 "com/example/roundel/roundel/dag/ItemArray" "end" "I" (.int (2 : Int32))) (F_first_o0 : Fld Z h0 o0 "com/example/roundel/roundel/dag/ItemArray" "first" "I" (.int (1 : Int32))) (V_o1 : Arv Z h0 o1 k_o1 (.object "java/lang/Object") (16 : Int32) [.null, (.ref o2), .null, .null, .null, .null, .null, .null, .null, .null, .null, .null, .null, .null, .null, .null] .null) (Ov_o1 : Ovr Z k_o1 "java/lang/Object") :
    Ctr l Z y5 prog_20_method_6_code 1 (some .int) ({ frames := 0, cells := 0, slots := 0, locals := 0 } : Room) #[(.ref o0)] h0 (fun v h L => v = some (.int (1 : Int32)) ∧ L = [] ∧ h = h0) := by
  refine Ctr.body (plainFor_of_name pn_3) ?_
  intro p e s m below meth c T X hx hby hml hown hnm hret hlk hZ eT
  have hml : c.maxLocals = 1 := hml
  have hown : s.vm.findClass "com/example/roundel/roundel/dag/ItemArray" = some m.cls := hown
  have hnm : meth.name = "size" := hnm
  have hret : meth.sig.returnType = (some .int) := hret
  refine Run.cast (show entryFrame m #[(.ref o0)] 1 = mkF m 0 #[.val (.ref o0)] [] from by first | (simp [entryFrame, mkF, argsToLocals, Value.category]; done) | rfl) ?_
  have wd0 := wd
  obtain ⟨S_w_NO_ITEMS, E_w_NO_ITEMS, S_w_cache, E_w_cache, V_w_NO_ITEMS, S_w_high, B_w_cache⟩ := wd
  have wd := wd0
  have N : Fr Z.heap.size [] := Fr.nil _
  have KK : Keep h0 h0 [] := Keep.refl h0 []
  refine q_aloadN (pc' := 1) X hx (hb hby d_prog_20_method_6_code_0) rfl rfl rfl ?_
  refine q_getF (pc' := 4) X hx hZ hown (hb hby d_prog_20_method_6_code_1) (host := "") (Or.inl (t29 hw)) eT F_end_o0 rfl ?_
  intro T X eT
  refine q_aloadN (pc' := 5) X hx (hb hby d_prog_20_method_6_code_4) rfl rfl rfl ?_
  refine q_getF (pc' := 8) X hx hZ hown (hb hby d_prog_20_method_6_code_5) (host := "") (Or.inl (t31 hw)) eT F_first_o0 rfl ?_
  intro T X eT
  refine q_isub (pc' := 9) (z := (1 : Int32)) X hx (hb hby d_prog_20_method_6_code_8) (by decide) rfl ?_
  refine Run.retI X hx hlk hret (hb hby d_prog_20_method_6_code_9) (by decide) (by decide) ?_
  try rw [eT]
  exact ⟨rfl, rfl, rfl⟩
set_option maxRecDepth 65536 in
set_option maxHeartbeats 40000000 in
theorem c37_peek {l : Launch} {Z : State} {a0 : Array Value} (hw : ∀ d ∈ tables_1, d.before a0 Z = true) {w_NO_ITEMS : Addr} {w_cache : Addr} {k_w_NO_ITEMS : ClassId} {cl_w_cache : Cell} (wd : World Z w_NO_ITEMS w_cache k_w_NO_ITEMS cl_w_cache) (x0 : Int32) {h0 : Heap} (O : Ext Z.heap h0) {o0 : Addr} {o1 : Addr} {o2 : Addr} {k_o1 : ClassId} (E_o2 : Exa Z h0 o2 "java/lang/Integer") (F_value_o2 : Fld Z h0 o2 "java/lang/Integer" "value" "I" (.int x0)) (E_o0 : Exa Z h0 o0 "com/example/roundel/roundel/dag/ItemArray") (F_items_o0 : Fld Z h0 o0 "com/example/roundel/roundel/dag/ItemArray" "items" "[Ljava/lang/Object;" (.ref o1)) (F_end_o0 : Fld Z h0 o0 "com/example/roundel/roundel/dag/ItemArray" "end" "I" (.int (2 : Int32))) (F_first_o0 : Fld Z h0 o0 "com/example/roundel/roundel/dag/ItemArray" "first" "I" (.int (1 : Int32))) (V_o1 : Arv Z h0 o1 k_o1 (.object "java/lang/Object") (16 : Int32) [.null, (.ref o2), .null, .null, .null, .null, .null, .null, .null, .null, .null, .null, .null, .null, .null, .null] .null) (Ov_o1 : Ovr Z k_o1 "java/lang/Object") :
    Ctr l Z y6 prog_20_method_3_code 1 (some (.object "java/lang/Object")) ({ frames := 0, cells := 0, slots := 0, locals := 0 } : Room) #[(.ref o0)] h0 (fun v h L => v = some (.ref o2) ∧ L = [] ∧ h = h0) := by
  refine Ctr.body (plainFor_of_name pn_3) ?_
  intro p e s m below meth c T X hx hby hml hown hnm hret hlk hZ eT
  have hml : c.maxLocals = 1 := hml
  have hown : s.vm.findClass "com/example/roundel/roundel/dag/ItemArray" = some m.cls := hown
  have hnm : meth.name = "peek" := hnm
  have hret : meth.sig.returnType = (some (.object "java/lang/Object")) := hret
  refine Run.cast (show entryFrame m #[(.ref o0)] 1 = mkF m 0 #[.val (.ref o0)] [] from by first | (simp [entryFrame, mkF, argsToLocals, Value.category]; done) | rfl) ?_
  have wd0 := wd
  obtain ⟨S_w_NO_ITEMS, E_w_NO_ITEMS, S_w_cache, E_w_cache, V_w_NO_ITEMS, S_w_high, B_w_cache⟩ := wd
  have wd := wd0
  have N : Fr Z.heap.size [] := Fr.nil _
  have KK : Keep h0 h0 [] := Keep.refl h0 []
  refine q_aloadN (pc' := 1) X hx (hb hby d_prog_20_method_3_code_0) rfl rfl rfl ?_
  refine q_getF (pc' := 4) X hx hZ hown (hb hby d_prog_20_method_3_code_1) (host := "") (Or.inl (t31 hw)) eT F_first_o0 rfl ?_
  intro T X eT
  refine q_aloadN (pc' := 5) X hx (hb hby d_prog_20_method_3_code_4) rfl rfl rfl ?_
  refine q_getF (pc' := 8) X hx hZ hown (hb hby d_prog_20_method_3_code_5) (host := "") (Or.inl (t29 hw)) eT F_end_o0 rfl ?_
  intro T X eT
  refine q_icmpYes (pc' := 15) X hx (hb hby d_prog_20_method_3_code_8) (by decide) (by decide) (by decide) ?_
  refine q_aloadN (pc' := 16) X hx (hb hby d_prog_20_method_3_code_15) rfl rfl rfl ?_
  refine q_getF (pc' := 19) X hx hZ hown (hb hby d_prog_20_method_3_code_16) (host := "") (Or.inl (t18 hw)) eT F_items_o0 rfl ?_
  intro T X eT
  refine q_aloadN (pc' := 20) X hx (hb hby d_prog_20_method_3_code_19) rfl rfl rfl ?_
  refine q_getF (pc' := 23) X hx hZ hown (hb hby d_prog_20_method_3_code_20) (host := "") (Or.inl (t31 hw)) eT F_first_o0 rfl ?_
  intro T X eT
  refine q_aald (pc' := 24) (v := (.ref o2)) X hx hZ (hb hby d_prog_20_method_3_code_23) eT V_o1 rfl ⟨by decide, by decide⟩ rfl rfl ?_
  refine Run.retR X hx hlk hret (hb hby d_prog_20_method_3_code_24) rfl rfl (by decide) (by decide) ?_
  try rw [eT]
  exact ⟨rfl, rfl, rfl⟩
theorem d_method_2_code_14 : decode method_2_code 14 = .ok (.iload_n 0, 1) := by decide +kernel
theorem d_method_2_code_15 : decode method_2_code 15 = .ok (.iconst 2, 1) := by decide +kernel
theorem d_method_2_code_16 : decode method_2_code 16 = .ok (.if_icmp .ne 5, 3) := by decide +kernel
theorem d_method_2_code_19 : decode method_2_code 19 = .ok (.aload_n 3, 1) := by decide +kernel
theorem d_method_2_code_20 : decode method_2_code 20 = .ok (.areturn, 1) := by decide +kernel
set_option maxRecDepth 65536 in
set_option maxHeartbeats 40000000 in
theorem c38_expected {l : Launch} {Z : State} {a0 : Array Value} (hw : ∀ d ∈ tables_1, d.before a0 Z = true) {w_NO_ITEMS : Addr} {w_cache : Addr} {k_w_NO_ITEMS : ClassId} {cl_w_cache : Cell} (wd : World Z w_NO_ITEMS w_cache k_w_NO_ITEMS cl_w_cache) (x0 : Int32) (x1 : Int32) (x2 : Int32) {h0 : Heap} (O : Ext Z.heap h0) {o0 : Addr} {o1 : Addr} {o2 : Addr} (E_o0 : Exa Z h0 o0 "java/lang/Integer") (F_value_o0 : Fld Z h0 o0 "java/lang/Integer" "value" "I" (.int x0)) (E_o1 : Exa Z h0 o1 "java/lang/Integer") (F_value_o1 : Fld Z h0 o1 "java/lang/Integer" "value" "I" (.int x1)) (E_o2 : Exa Z h0 o2 "java/lang/Integer") (F_value_o2 : Fld Z h0 o2 "java/lang/Integer" "value" "I" (.int x2)) :
    Ctr l Z y7 method_2_code 5 (some (.object "java/lang/Object")) ({ frames := 0, cells := 0, slots := 0, locals := 0 } : Room) #[(.int (2 : Int32)), (.int (2 : Int32)), (.ref o0), (.ref o1), (.ref o2)] h0 (fun v h L => v = some (.ref o1) ∧ L = [] ∧ h = h0) := by
  refine Ctr.body (plainFor_of_name pn_2) ?_
  intro p e s m below meth c T X hx hby hml hown hnm hret hlk hZ eT
  have hml : c.maxLocals = 5 := hml
  have hown : s.vm.findClass "com/example/roundel/roundel/dag/ItemArrayPollPinLaw" = some m.cls := hown
  have hnm : meth.name = "expected" := hnm
  have hret : meth.sig.returnType = (some (.object "java/lang/Object")) := hret
  refine Run.cast (show entryFrame m #[(.int (2 : Int32)), (.int (2 : Int32)), (.ref o0), (.ref o1), (.ref o2)] 5 = mkF m 0 #[.val (.int (2 : Int32)), .val (.int (2 : Int32)), .val (.ref o0), .val (.ref o1), .val (.ref o2)] [] from by first | (simp [entryFrame, mkF, argsToLocals, Value.category]; done) | rfl) ?_
  have wd0 := wd
  obtain ⟨S_w_NO_ITEMS, E_w_NO_ITEMS, S_w_cache, E_w_cache, V_w_NO_ITEMS, S_w_high, B_w_cache⟩ := wd
  have wd := wd0
  have N : Fr Z.heap.size [] := Fr.nil _
  have KK : Keep h0 h0 [] := Keep.refl h0 []
  refine q_iloadN (pc' := 1) X hx (hb hby d_method_2_code_0) rfl rfl ?_
  refine q_iloadN (pc' := 2) X hx (hb hby d_method_2_code_1) rfl rfl ?_
  refine q_icmpYes (pc' := 7) X hx (hb hby d_method_2_code_2) (by decide) (by decide) (by decide) ?_
  refine q_iloadN (pc' := 8) X hx (hb hby d_method_2_code_7) rfl rfl ?_
  refine q_iconst (pc' := 9) (z := (1 : Int32)) X hx (hb hby d_method_2_code_8) rfl rfl ?_
  refine q_icmpYes (pc' := 14) X hx (hb hby d_method_2_code_9) (by decide) (by decide) (by decide) ?_
  refine q_iloadN (pc' := 15) X hx (hb hby d_method_2_code_14) rfl rfl ?_
  refine q_iconst (pc' := 16) (z := (2 : Int32)) X hx (hb hby d_method_2_code_15) rfl rfl ?_
  refine q_icmpNo (pc' := 19) X hx (hb hby d_method_2_code_16) (by decide) rfl ?_
  refine q_aloadN (pc' := 20) X hx (hb hby d_method_2_code_19) rfl rfl rfl ?_
  refine Run.retR X hx hlk hret (hb hby d_method_2_code_20) rfl rfl (by decide) (by decide) ?_
  try rw [eT]
  exact ⟨rfl, rfl, rfl⟩
set_option maxRecDepth 65536 in
set_option maxHeartbeats 40000000 in
theorem c39_poll {l : Launch} {Z : State} {a0 : Array Value} (hw : ∀ d ∈ tables_1, d.before a0 Z = true) {w_NO_ITEMS : Addr} {w_cache : Addr} {k_w_NO_ITEMS : ClassId} {cl_w_cache : Cell} (wd : World Z w_NO_ITEMS w_cache k_w_NO_ITEMS cl_w_cache) (x0 : Int32) {h0 : Heap} (O : Ext Z.heap h0) {o0 : Addr} {o1 : Addr} {o2 : Addr} {k_o1 : ClassId} (E_o2 : Exa Z h0 o2 "java/lang/Integer") (F_value_o2 : Fld Z h0 o2 "java/lang/Integer" "value" "I" (.int x0)) (E_o0 : Exa Z h0 o0 "com/example/roundel/roundel/dag/ItemArray") (F_items_o0 : Fld Z h0 o0 "com/example/roundel/roundel/dag/ItemArray" "items" "[Ljava/lang/Object;" (.ref o1)) (F_end_o0 : Fld Z h0 o0 "com/example/roundel/roundel/dag/ItemArray" "end" "I" (.int (2 : Int32))) (F_first_o0 : Fld Z h0 o0 "com/example/roundel/roundel/dag/ItemArray" "first" "I" (.int (1 : Int32))) (V_o1 : Arv Z h0 o1 k_o1 (.object "java/lang/Object") (16 : Int32) [.null, (.ref o2), .null, .null, .null, .null, .null, .null, .null, .null, .null, .null, .null, .null, .null, .null] .null) (Ov_o1 : Ovr Z k_o1 "java/lang/Object") (g_o0 : Z.heap.size ≤ o0) (g_o1 : Z.heap.size ≤ o1) :
    Ctr l Z y8 prog_20_method_4_code 2 (some (.object "java/lang/Object")) ({ frames := 0, cells := 0, slots := 0, locals := 0 } : Room) #[(.ref o0)] h0 (fun v h L => v = some (.ref o2) ∧ Fr Z.heap.size L ∧ Keep h0 h [o0, o1] ∧ Exa Z h o0 "com/example/roundel/roundel/dag/ItemArray" ∧ Fld Z h o0 "com/example/roundel/roundel/dag/ItemArray" "items" "[Ljava/lang/Object;" (.ref o1) ∧ Fld Z h o0 "com/example/roundel/roundel/dag/ItemArray" "end" "I" (.int (2 : Int32)) ∧ Fld Z h o0 "com/example/roundel/roundel/dag/ItemArray" "first" "I" (.int (2 : Int32)) ∧ Arv Z h o1 k_o1 (.object "java/lang/Object") (16 : Int32) [.null, .null, .null, .null, .null, .null, .null, .null, .null, .null, .null, .null, .null, .null, .null, .null] .null) := by
  refine Ctr.body (plainFor_of_name pn_3) ?_
  intro p e s m below meth c T X hx hby hml hown hnm hret hlk hZ eT
  have hml : c.maxLocals = 2 := hml
  have hown : s.vm.findClass "com/example/roundel/roundel/dag/ItemArray" = some m.cls := hown
  have hnm : meth.name = "poll" := hnm
  have hret : meth.sig.returnType = (some (.object "java/lang/Object")) := hret
  refine Run.cast (show entryFrame m #[(.ref o0)] 2 = mkF m 0 #[.val (.ref o0), .unset] [] from by first | (simp [entryFrame, mkF, argsToLocals, Value.category]; done) | rfl) ?_
  have wd0 := wd
  obtain ⟨S_w_NO_ITEMS, E_w_NO_ITEMS, S_w_cache, E_w_cache, V_w_NO_ITEMS, S_w_high, B_w_cache⟩ := wd
  have wd := wd0
  have N : Fr Z.heap.size [] := Fr.nil _
  have KK : Keep h0 h0 [o0, o1] := Keep.refl h0 [o0, o1]
  refine q_aloadN (pc' := 1) X hx (hb hby d_prog_20_method_4_code_0) rfl rfl rfl ?_
  refine q_getF (pc' := 4) X hx hZ hown (hb hby d_prog_20_method_4_code_1) (host := "") (Or.inl (t31 hw)) eT F_first_o0 rfl ?_
  intro T X eT
  refine q_aloadN (pc' := 5) X hx (hb hby d_prog_20_method_4_code_4) rfl rfl rfl ?_
  refine q_getF (pc' := 8) X hx hZ hown (hb hby d_prog_20_method_4_code_5) (host := "") (Or.inl (t29 hw)) eT F_end_o0 rfl ?_
  intro T X eT
  refine q_icmpYes (pc' := 13) X hx (hb hby d_prog_20_method_4_code_8) (by decide) (by decide) (by decide) ?_
  refine q_aloadN (pc' := 14) X hx (hb hby d_prog_20_method_4_code_13) rfl rfl rfl ?_
  refine q_getF (pc' := 17) X hx hZ hown (hb hby d_prog_20_method_4_code_14) (host := "") (Or.inl (t18 hw)) eT F_items_o0 rfl ?_
  intro T X eT
  refine q_aloadN (pc' := 18) X hx (hb hby d_prog_20_method_4_code_17) rfl rfl rfl ?_
  refine q_getF (pc' := 21) X hx hZ hown (hb hby d_prog_20_method_4_code_18) (host := "") (Or.inl (t31 hw)) eT F_first_o0 rfl ?_
  intro T X eT
  refine q_aald (pc' := 22) (v := (.ref o2)) X hx hZ (hb hby d_prog_20_method_4_code_21) eT V_o1 rfl ⟨by decide, by decide⟩ rfl rfl ?_
  refine q_astoreN (pc' := 23) (l' := #[.val (.ref o0), .val (.ref o2)]) X hx (hb hby d_prog_20_method_4_code_22) rfl rfl rfl ?_
  refine q_aloadN (pc' := 24) X hx (hb hby d_prog_20_method_4_code_23) rfl rfl rfl ?_
  refine q_getF (pc' := 27) X hx hZ hown (hb hby d_prog_20_method_4_code_24) (host := "") (Or.inl (t18 hw)) eT F_items_o0 rfl ?_
  intro T X eT
  refine q_aloadN (pc' := 28) X hx (hb hby d_prog_20_method_4_code_27) rfl rfl rfl ?_
  refine q_dup (pc' := 29) X hx (hb hby d_prog_20_method_4_code_28) rfl rfl ?_
  refine q_getF (pc' := 32) X hx hZ hown (hb hby d_prog_20_method_4_code_29) (host := "") (Or.inl (t31 hw)) eT F_first_o0 rfl ?_
  intro T X eT
  refine q_dupX1 (pc' := 33) X hx (hb hby d_prog_20_method_4_code_32) rfl rfl rfl ?_
  refine q_iconst (pc' := 34) (z := (1 : Int32)) X hx (hb hby d_prog_20_method_4_code_33) rfl rfl ?_
  refine q_iadd (pc' := 35) (z := (2 : Int32)) X hx (hb hby d_prog_20_method_4_code_34) (by decide) rfl ?_
  refine q_putF (pc' := 38) X hx hZ hown (hb hby d_prog_20_method_4_code_35) (host := "") (Or.inl (t31 hw)) eT F_first_o0 E_o0 (Or.inl (t32 hw)) (t8 hw) (ty := .int) (by decide) rfl rfl rfl ?_
  intro T h_1 X eT Wx
  have N := Fr.snoc X N g_o0
  have O := ext_wr O Wx g_o0
  have KK := KK.wr Wx (Or.inl (List.mem_of_getElem? (i := 0) rfl))
  have ne_o2_o0 : o2 ≠ o0 := ne_exa E_o2 E_o0 (by decide)
  have ne_o1_o0 : o1 ≠ o0 := Ne.symm (Exa.neArv E_o0 V_o1 (t8 hw))
  have E_o2 := E_o2.wr Wx
  have F_value_o2 := F_value_o2.other Wx (Or.inl ne_o2_o0)
  have E_o0 := E_o0.wr Wx
  have F_items_o0 := F_items_o0.other Wx (Or.inr (slot_ne (Or.inl (t19 hw)) (Or.inl (t32 hw)) (by decide) (t := (.array (.object "java/lang/Object"))) (t' := .int) (by decide) (by decide)))
  have F_end_o0 := F_end_o0.other Wx (Or.inr (slot_ne (Or.inl (t30 hw)) (Or.inl (t32 hw)) (by decide) (t := .int) (t' := .int) (by decide) (by decide)))
  have F_first_o0 := F_first_o0.same Wx
  have V_o1 := V_o1.other Wx ne_o1_o0
  refine q_null (pc' := 39) X hx (hb hby d_prog_20_method_4_code_38) rfl ?_
  have ne_o2_o1 : o2 ≠ o1 := Exa.neArv E_o2 V_o1 (t48 hw)
  refine q_aast (pc' := 40) X hx hZ (hb hby d_prog_20_method_4_code_39) eT V_o1 rfl ⟨by decide, by decide⟩ (i := 1) rfl (Nat.le_of_ble_eq_true rfl) (fun _ _ _ => Or.inl rfl) rfl rfl ?_
  intro T h_2 X eT Wx V_o1'
  have N := Fr.snoc X N g_o1
  have O := ext_wr O Wx g_o1
  have KK := KK.wr Wx (Or.inl (List.mem_of_getElem? (i := 1) rfl))
  have E_o2 := E_o2.wr Wx
  have F_value_o2 := F_value_o2.other Wx (Or.inl ne_o2_o1)
  have E_o0 := E_o0.wr Wx
  have F_items_o0 := F_items_o0.other Wx (Or.inl (Ne.symm ne_o1_o0))
  have F_end_o0 := F_end_o0.other Wx (Or.inl (Ne.symm ne_o1_o0))
  have F_first_o0 := F_first_o0.other Wx (Or.inl (Ne.symm ne_o1_o0))
  have V_o1 : Arv Z h_2 o1 k_o1 (.object "java/lang/Object") (16 : Int32) [.null, .null, .null, .null, .null, .null, .null, .null, .null, .null, .null, .null, .null, .null, .null, .null] .null := V_o1'
  refine q_aloadN (pc' := 41) X hx (hb hby d_prog_20_method_4_code_40) rfl rfl rfl ?_
  refine Run.retR X hx hlk hret (hb hby d_prog_20_method_4_code_41) rfl rfl (by decide) (by decide) ?_
  try rw [eT]
  exact ⟨rfl, N, KK, E_o0, F_items_o0, F_end_o0, F_first_o0, V_o1⟩
set_option maxRecDepth 65536 in
set_option maxHeartbeats 40000000 in
theorem c40_size {l : Launch} {Z : State} {a0 : Array Value} (hw : ∀ d ∈ tables_1, d.before a0 Z = true) {w_NO_ITEMS : Addr} {w_cache : Addr} {k_w_NO_ITEMS : ClassId} {cl_w_cache : Cell} (wd : World Z w_NO_ITEMS w_cache k_w_NO_ITEMS cl_w_cache)  {h0 : Heap} (O : Ext Z.heap h0) {o0 : Addr} {o1 : Addr} {k_o1 : ClassId} (E_o0 : Exa Z h0 o0 "com/example/roundel/roundel/dag/ItemArray") (F_items_o0 : Fld Z h0 o0 "com/example/roundel/roundel/dag/ItemArray" "items" "[Ljava/lang/Object;" (.ref o1)) (F_end_o0 : Fld Z h0 o0 "com/example/roundel/roundel/dag/ItemArray" "end" "I" (.int (2 : Int32))) (F_first_o0 : Fld Z h0 o0 "com/example/roundel/roundel/dag/ItemArray" "first" "I" (.int (2 : Int32))) (V_o1 : Arv Z h0 o1 k_o1 (.object "java/lang/Object") (16 : Int32) [.null, .null, .null, .null, .null, .null, .null, .null, .null, .null, .null, .null, .null, .null, .null, .null] .null) (Ov_o1 : Ovr Z k_o1 "java/lang/Object") :
    Ctr l Z y5 prog_20_method_6_code 1 (some .int) ({ frames := 0, cells := 0, slots := 0, locals := 0 } : Room) #[(.ref o0)] h0 (fun v h L => v = some (.int (0 : Int32)) ∧ L = [] ∧ h = h0) := by
  refine Ctr.body (plainFor_of_name pn_3) ?_
  intro p e s m below meth c T X hx hby hml hown hnm hret hlk hZ eT
  have hml : c.maxLocals = 1 := hml
  have hown : s.vm.findClass "com/example/roundel/roundel/dag/ItemArray" = some m.cls := hown
  have hnm : meth.name = "size" := hnm
  have hret : meth.sig.returnType = (some .int) := hret
  refine Run.cast (show entryFrame m #[(.ref o0)] 1 = mkF m 0 #[.val (.ref o0)] [] from by first | (simp [entryFrame, mkF, argsToLocals, Value.category]; done) | rfl) ?_
  have wd0 := wd
  obtain ⟨S_w_NO_ITEMS, E_w_NO_ITEMS, S_w_cache, E_w_cache, V_w_NO_ITEMS, S_w_high, B_w_cache⟩ := wd
  have wd := wd0
  have N : Fr Z.heap.size [] := Fr.nil _
  have KK : Keep h0 h0 [] := Keep.refl h0 []
  refine q_aloadN (pc' := 1) X hx (hb hby d_prog_20_method_6_code_0) rfl rfl rfl ?_
  refine q_getF (pc' := 4) X hx hZ hown (hb hby d_prog_20_method_6_code_1) (host := "") (Or.inl (t29 hw)) eT F_end_o0 rfl ?_
  intro T X eT
  refine q_aloadN (pc' := 5) X hx (hb hby d_prog_20_method_6_code_4) rfl rfl rfl ?_
  refine q_getF (pc' := 8) X hx hZ hown (hb hby d_prog_20_method_6_code_5) (host := "") (Or.inl (t31 hw)) eT F_first_o0 rfl ?_
  intro T X eT
  refine q_isub (pc' := 9) (z := (0 : Int32)) X hx (hb hby d_prog_20_method_6_code_8) (by decide) rfl ?_
  refine Run.retI X hx hlk hret (hb hby d_prog_20_method_6_code_9) (by decide) (by decide) ?_
  try rw [eT]
  exact ⟨rfl, rfl, rfl⟩
set_option maxRecDepth 65536 in
set_option maxHeartbeats 40000000 in
theorem c41_peek {l : Launch} {Z : State} {a0 : Array Value} (hw : ∀ d ∈ tables_1, d.before a0 Z = true) {w_NO_ITEMS : Addr} {w_cache : Addr} {k_w_NO_ITEMS : ClassId} {cl_w_cache : Cell} (wd : World Z w_NO_ITEMS w_cache k_w_NO_ITEMS cl_w_cache)  {h0 : Heap} (O : Ext Z.heap h0) {o0 : Addr} {o1 : Addr} {k_o1 : ClassId} (E_o0 : Exa Z h0 o0 "com/example/roundel/roundel/dag/ItemArray") (F_items_o0 : Fld Z h0 o0 "com/example/roundel/roundel/dag/ItemArray" "items" "[Ljava/lang/Object;" (.ref o1)) (F_end_o0 : Fld Z h0 o0 "com/example/roundel/roundel/dag/ItemArray" "end" "I" (.int (2 : Int32))) (F_first_o0 : Fld Z h0 o0 "com/example/roundel/roundel/dag/ItemArray" "first" "I" (.int (2 : Int32))) (V_o1 : Arv Z h0 o1 k_o1 (.object "java/lang/Object") (16 : Int32) [.null, .null, .null, .null, .null, .null, .null, .null, .null, .null, .null, .null, .null, .null, .null, .null] .null) (Ov_o1 : Ovr Z k_o1 "java/lang/Object") :
    Ctr l Z y6 prog_20_method_3_code 1 (some (.object "java/lang/Object")) ({ frames := 0, cells := 0, slots := 0, locals := 0 } : Room) #[(.ref o0)] h0 (fun v h L => v = some .null ∧ L = [] ∧ h = h0) := by
  refine Ctr.body (plainFor_of_name pn_3) ?_
  intro p e s m below meth c T X hx hby hml hown hnm hret hlk hZ eT
  have hml : c.maxLocals = 1 := hml
  have hown : s.vm.findClass "com/example/roundel/roundel/dag/ItemArray" = some m.cls := hown
  have hnm : meth.name = "peek" := hnm
  have hret : meth.sig.returnType = (some (.object "java/lang/Object")) := hret
  refine Run.cast (show entryFrame m #[(.ref o0)] 1 = mkF m 0 #[.val (.ref o0)] [] from by first | (simp [entryFrame, mkF, argsToLocals, Value.category]; done) | rfl) ?_
  have wd0 := wd
  obtain ⟨S_w_NO_ITEMS, E_w_NO_ITEMS, S_w_cache, E_w_cache, V_w_NO_ITEMS, S_w_high, B_w_cache⟩ := wd
  have wd := wd0
  have N : Fr Z.heap.size [] := Fr.nil _
  have KK : Keep h0 h0 [] := Keep.refl h0 []
  refine q_aloadN (pc' := 1) X hx (hb hby d_prog_20_method_3_code_0) rfl rfl rfl ?_
  refine q_getF (pc' := 4) X hx hZ hown (hb hby d_prog_20_method_3_code_1) (host := "") (Or.inl (t31 hw)) eT F_first_o0 rfl ?_
  intro T X eT
  refine q_aloadN (pc' := 5) X hx (hb hby d_prog_20_method_3_code_4) rfl rfl rfl ?_
  refine q_getF (pc' := 8) X hx hZ hown (hb hby d_prog_20_method_3_code_5) (host := "") (Or.inl (t29 hw)) eT F_end_o0 rfl ?_
  intro T X eT
  refine q_icmpNo (pc' := 11) X hx (hb hby d_prog_20_method_3_code_8) (by decide) rfl ?_
  refine q_null (pc' := 12) X hx (hb hby d_prog_20_method_3_code_11) rfl ?_
  refine q_goto (pc' := 24) X hx (hb hby d_prog_20_method_3_code_12) (by decide) (by decide) ?_
  refine Run.retR X hx hlk hret (hb hby d_prog_20_method_3_code_24) rfl rfl (by decide) (by decide) ?_
  try rw [eT]
  exact ⟨rfl, rfl, rfl⟩
set_option maxRecDepth 65536 in
set_option maxHeartbeats 40000000 in
theorem c42_expected {l : Launch} {Z : State} {a0 : Array Value} (hw : ∀ d ∈ tables_1, d.before a0 Z = true) {w_NO_ITEMS : Addr} {w_cache : Addr} {k_w_NO_ITEMS : ClassId} {cl_w_cache : Cell} (wd : World Z w_NO_ITEMS w_cache k_w_NO_ITEMS cl_w_cache) (x0 : Int32) (x1 : Int32) (x2 : Int32) {h0 : Heap} (O : Ext Z.heap h0) {o0 : Addr} {o1 : Addr} {o2 : Addr} (E_o0 : Exa Z h0 o0 "java/lang/Integer") (F_value_o0 : Fld Z h0 o0 "java/lang/Integer" "value" "I" (.int x0)) (E_o1 : Exa Z h0 o1 "java/lang/Integer") (F_value_o1 : Fld Z h0 o1 "java/lang/Integer" "value" "I" (.int x1)) (E_o2 : Exa Z h0 o2 "java/lang/Integer") (F_value_o2 : Fld Z h0 o2 "java/lang/Integer" "value" "I" (.int x2)) :
    Ctr l Z y7 method_2_code 5 (some (.object "java/lang/Object")) ({ frames := 0, cells := 0, slots := 0, locals := 0 } : Room) #[(.int (3 : Int32)), (.int (2 : Int32)), (.ref o0), (.ref o1), (.ref o2)] h0 (fun v h L => v = some .null ∧ L = [] ∧ h = h0) := by
  refine Ctr.body (plainFor_of_name pn_2) ?_
  intro p e s m below meth c T X hx hby hml hown hnm hret hlk hZ eT
  have hml : c.maxLocals = 5 := hml
  have hown : s.vm.findClass "com/example/roundel/roundel/dag/ItemArrayPollPinLaw" = some m.cls := hown
  have hnm : meth.name = "expected" := hnm
  have hret : meth.sig.returnType = (some (.object "java/lang/Object")) := hret
  refine Run.cast (show entryFrame m #[(.int (3 : Int32)), (.int (2 : Int32)), (.ref o0), (.ref o1), (.ref o2)] 5 = mkF m 0 #[.val (.int (3 : Int32)), .val (.int (2 : Int32)), .val (.ref o0), .val (.ref o1), .val (.ref o2)] [] from by first | (simp [entryFrame, mkF, argsToLocals, Value.category]; done) | rfl) ?_
  have wd0 := wd
  obtain ⟨S_w_NO_ITEMS, E_w_NO_ITEMS, S_w_cache, E_w_cache, V_w_NO_ITEMS, S_w_high, B_w_cache⟩ := wd
  have wd := wd0
  have N : Fr Z.heap.size [] := Fr.nil _
  have KK : Keep h0 h0 [] := Keep.refl h0 []
  refine q_iloadN (pc' := 1) X hx (hb hby d_method_2_code_0) rfl rfl ?_
  refine q_iloadN (pc' := 2) X hx (hb hby d_method_2_code_1) rfl rfl ?_
  refine q_icmpNo (pc' := 5) X hx (hb hby d_method_2_code_2) (by decide) rfl ?_
  refine q_null (pc' := 6) X hx (hb hby d_method_2_code_5) rfl ?_
  refine Run.retR X hx hlk hret (hb hby d_method_2_code_6) rfl rfl (by decide) (by decide) ?_
  try rw [eT]
  exact ⟨rfl, rfl, rfl⟩
set_option maxRecDepth 65536 in
set_option maxHeartbeats 40000000 in
theorem c43_poll {l : Launch} {Z : State} {a0 : Array Value} (hw : ∀ d ∈ tables_1, d.before a0 Z = true) {w_NO_ITEMS : Addr} {w_cache : Addr} {k_w_NO_ITEMS : ClassId} {cl_w_cache : Cell} (wd : World Z w_NO_ITEMS w_cache k_w_NO_ITEMS cl_w_cache)  {h0 : Heap} (O : Ext Z.heap h0) {o0 : Addr} {o1 : Addr} {k_o1 : ClassId} (E_o0 : Exa Z h0 o0 "com/example/roundel/roundel/dag/ItemArray") (F_items_o0 : Fld Z h0 o0 "com/example/roundel/roundel/dag/ItemArray" "items" "[Ljava/lang/Object;" (.ref o1)) (F_end_o0 : Fld Z h0 o0 "com/example/roundel/roundel/dag/ItemArray" "end" "I" (.int (2 : Int32))) (F_first_o0 : Fld Z h0 o0 "com/example/roundel/roundel/dag/ItemArray" "first" "I" (.int (2 : Int32))) (V_o1 : Arv Z h0 o1 k_o1 (.object "java/lang/Object") (16 : Int32) [.null, .null, .null, .null, .null, .null, .null, .null, .null, .null, .null, .null, .null, .null, .null, .null] .null) (Ov_o1 : Ovr Z k_o1 "java/lang/Object") :
    Ctr l Z y8 prog_20_method_4_code 2 (some (.object "java/lang/Object")) ({ frames := 0, cells := 0, slots := 0, locals := 0 } : Room) #[(.ref o0)] h0 (fun v h L => v = some .null ∧ L = [] ∧ h = h0) := by
  refine Ctr.body (plainFor_of_name pn_3) ?_
  intro p e s m below meth c T X hx hby hml hown hnm hret hlk hZ eT
  have hml : c.maxLocals = 2 := hml
  have hown : s.vm.findClass "com/example/roundel/roundel/dag/ItemArray" = some m.cls := hown
  have hnm : meth.name = "poll" := hnm
  have hret : meth.sig.returnType = (some (.object "java/lang/Object")) := hret
  refine Run.cast (show entryFrame m #[(.ref o0)] 2 = mkF m 0 #[.val (.ref o0), .unset] [] from by first | (simp [entryFrame, mkF, argsToLocals, Value.category]; done) | rfl) ?_
  have wd0 := wd
  obtain ⟨S_w_NO_ITEMS, E_w_NO_ITEMS, S_w_cache, E_w_cache, V_w_NO_ITEMS, S_w_high, B_w_cache⟩ := wd
  have wd := wd0
  have N : Fr Z.heap.size [] := Fr.nil _
  have KK : Keep h0 h0 [] := Keep.refl h0 []
  refine q_aloadN (pc' := 1) X hx (hb hby d_prog_20_method_4_code_0) rfl rfl rfl ?_
  refine q_getF (pc' := 4) X hx hZ hown (hb hby d_prog_20_method_4_code_1) (host := "") (Or.inl (t31 hw)) eT F_first_o0 rfl ?_
  intro T X eT
  refine q_aloadN (pc' := 5) X hx (hb hby d_prog_20_method_4_code_4) rfl rfl rfl ?_
  refine q_getF (pc' := 8) X hx hZ hown (hb hby d_prog_20_method_4_code_5) (host := "") (Or.inl (t29 hw)) eT F_end_o0 rfl ?_
  intro T X eT
  refine q_icmpNo (pc' := 11) X hx (hb hby d_prog_20_method_4_code_8) (by decide) rfl ?_
  refine q_null (pc' := 12) X hx (hb hby d_prog_20_method_4_code_11) rfl ?_
  refine Run.retR X hx hlk hret (hb hby d_prog_20_method_4_code_12) rfl rfl (by decide) (by decide) ?_
  try rw [eT]
  exact ⟨rfl, rfl, rfl⟩
set_option maxRecDepth 65536 in
set_option maxHeartbeats 40000000 in
theorem c44_expected {l : Launch} {Z : State} {a0 : Array Value} (hw : ∀ d ∈ tables_1, d.before a0 Z = true) {w_NO_ITEMS : Addr} {w_cache : Addr} {k_w_NO_ITEMS : ClassId} {cl_w_cache : Cell} (wd : World Z w_NO_ITEMS w_cache k_w_NO_ITEMS cl_w_cache) (x0 : Int32) (x1 : Int32) (x2 : Int32) {h0 : Heap} (O : Ext Z.heap h0) {o0 : Addr} {o1 : Addr} {o2 : Addr} (E_o0 : Exa Z h0 o0 "java/lang/Integer") (F_value_o0 : Fld Z h0 o0 "java/lang/Integer" "value" "I" (.int x0)) (E_o1 : Exa Z h0 o1 "java/lang/Integer") (F_value_o1 : Fld Z h0 o1 "java/lang/Integer" "value" "I" (.int x1)) (E_o2 : Exa Z h0 o2 "java/lang/Integer") (F_value_o2 : Fld Z h0 o2 "java/lang/Integer" "value" "I" (.int x2)) :
    Ctr l Z y7 method_2_code 5 (some (.object "java/lang/Object")) ({ frames := 0, cells := 0, slots := 0, locals := 0 } : Room) #[(.int (4 : Int32)), (.int (2 : Int32)), (.ref o0), (.ref o1), (.ref o2)] h0 (fun v h L => v = some .null ∧ L = [] ∧ h = h0) := by
  refine Ctr.body (plainFor_of_name pn_2) ?_
  intro p e s m below meth c T X hx hby hml hown hnm hret hlk hZ eT
  have hml : c.maxLocals = 5 := hml
  have hown : s.vm.findClass "com/example/roundel/roundel/dag/ItemArrayPollPinLaw" = some m.cls := hown
  have hnm : meth.name = "expected" := hnm
  have hret : meth.sig.returnType = (some (.object "java/lang/Object")) := hret
  refine Run.cast (show entryFrame m #[(.int (4 : Int32)), (.int (2 : Int32)), (.ref o0), (.ref o1), (.ref o2)] 5 = mkF m 0 #[.val (.int (4 : Int32)), .val (.int (2 : Int32)), .val (.ref o0), .val (.ref o1), .val (.ref o2)] [] from by first | (simp [entryFrame, mkF, argsToLocals, Value.category]; done) | rfl) ?_
  have wd0 := wd
  obtain ⟨S_w_NO_ITEMS, E_w_NO_ITEMS, S_w_cache, E_w_cache, V_w_NO_ITEMS, S_w_high, B_w_cache⟩ := wd
  have wd := wd0
  have N : Fr Z.heap.size [] := Fr.nil _
  have KK : Keep h0 h0 [] := Keep.refl h0 []
  refine q_iloadN (pc' := 1) X hx (hb hby d_method_2_code_0) rfl rfl ?_
  refine q_iloadN (pc' := 2) X hx (hb hby d_method_2_code_1) rfl rfl ?_
  refine q_icmpNo (pc' := 5) X hx (hb hby d_method_2_code_2) (by decide) rfl ?_
  refine q_null (pc' := 6) X hx (hb hby d_method_2_code_5) rfl ?_
  refine Run.retR X hx hlk hret (hb hby d_method_2_code_6) rfl rfl (by decide) (by decide) ?_
  try rw [eT]
  exact ⟨rfl, rfl, rfl⟩
set_option maxRecDepth 65536 in
set_option maxHeartbeats 40000000 in
theorem c45_add {l : Launch} {Z : State} {a0 : Array Value} (hw : ∀ d ∈ tables_1, d.before a0 Z = true) {w_NO_ITEMS : Addr} {w_cache : Addr} {k_w_NO_ITEMS : ClassId} {cl_w_cache : Cell} (wd : World Z w_NO_ITEMS w_cache k_w_NO_ITEMS cl_w_cache) (x0 : Int32) (x1 : Int32) (x2 : Int32) {h0 : Heap} (O : Ext Z.heap h0) {o0 : Addr} {o1 : Addr} {o2 : Addr} {o3 : Addr} {o4 : Addr} {k_o1 : ClassId} (E_o2 : Exa Z h0 o2 "java/lang/Integer") (F_value_o2 : Fld Z h0 o2 "java/lang/Integer" "value" "I" (.int x0)) (E_o3 : Exa Z h0 o3 "java/lang/Integer") (F_value_o3 : Fld Z h0 o3 "java/lang/Integer" "value" "I" (.int x1)) (E_o4 : Exa Z h0 o4 "java/lang/Integer") (F_value_o4 : Fld Z h0 o4 "java/lang/Integer" "value" "I" (.int x2)) (E_o0 : Exa Z h0 o0 "com/example/roundel/roundel/dag/ItemArray") (F_items_o0 : Fld Z h0 o0 "com/example/roundel/roundel/dag/ItemArray" "items" "[Ljava/lang/Object;" (.ref o1)) (F_end_o0 : Fld Z h0 o0 "com/example/roundel/roundel/dag/ItemArray" "end" "I" (.int (2 : Int32))) (F_first_o0 : Fld Z h0 o0 "com/example/roundel/roundel/dag/ItemArray" "first" "I" (.int (0 : Int32))) (V_o1 : Arv Z h0 o1 k_o1 (.object "java/lang/Object") (16 : Int32) [(.ref o2), (.ref o3), .null, .null, .null, .null, .null, .null, .null, .null, .null, .null, .null, .null, .null, .null] .null) (Ov_o1 : Ovr Z k_o1 "java/lang/Object") (g_o0 : Z.heap.size ≤ o0) (g_o1 : Z.heap.size ≤ o1) :
    Ctr l Z y10 prog_20_method_7_code 2 none ({ frames := 0, cells := 0, slots := 0, locals := 0 } : Room) #[(.ref o0), (.ref o4)] h0 (fun v h L => v = none ∧ Fr Z.heap.size L ∧ Keep h0 h [o0, o1] ∧ Exa Z h o0 "com/example/roundel/roundel/dag/ItemArray" ∧ Fld Z h o0 "com/example/roundel/roundel/dag/ItemArray" "items" "[Ljava/lang/Object;" (.ref o1) ∧ Fld Z h o0 "com/example/roundel/roundel/dag/ItemArray" "end" "I" (.int (3 : Int32)) ∧ Fld Z h o0 "com/example/roundel/roundel/dag/ItemArray" "first" "I" (.int (0 : Int32)) ∧ Arv Z h o1 k_o1 (.object "java/lang/Object") (16 : Int32) [(.ref o2), (.ref o3), (.ref o4), .null, .null, .null, .null, .null, .null, .null, .null, .null, .null, .null, .null, .null] .null) := by
  refine Ctr.body (plainFor_of_name pn_3) ?_
  intro p e s m below meth c T X hx hby hml hown hnm hret hlk hZ eT
  have hml : c.maxLocals = 2 := hml
  have hown : s.vm.findClass "com/example/roundel/roundel/dag/ItemArray" = some m.cls := hown
  have hnm : meth.name = "add" := hnm
  have hret : meth.sig.returnType = none := hret
  refine Run.cast (show entryFrame m #[(.ref o0), (.ref o4)] 2 = mkF m 0 #[.val (.ref o0), .val (.ref o4)] [] from by first | (simp [entryFrame, mkF, argsToLocals, Value.category]; done) | rfl) ?_
  have wd0 := wd
  obtain ⟨S_w_NO_ITEMS, E_w_NO_ITEMS, S_w_cache, E_w_cache, V_w_NO_ITEMS, S_w_high, B_w_cache⟩ := wd
  have wd := wd0
  have N : Fr Z.heap.size [] := Fr.nil _
  have KK : Keep h0 h0 [o0, o1] := Keep.refl h0 [o0, o1]
  refine q_aloadN (pc' := 1) X hx (hb hby d_prog_20_method_7_code_0) rfl rfl rfl ?_
  refine q_getF (pc' := 4) X hx hZ hown (hb hby d_prog_20_method_7_code_1) (host := "") (Or.inl (t29 hw)) eT F_end_o0 rfl ?_
  intro T X eT
  refine q_aloadN (pc' := 5) X hx (hb hby d_prog_20_method_7_code_4) rfl rfl rfl ?_
  refine q_getF (pc' := 8) X hx hZ hown (hb hby d_prog_20_method_7_code_5) (host := "") (Or.inl (t18 hw)) eT F_items_o0 rfl ?_
  intro T X eT
  refine q_len (pc' := 9) X hx hZ (hb hby d_prog_20_method_7_code_8) eT V_o1 rfl ?_
  refine q_icmpYes (pc' := 17) X hx (hb hby d_prog_20_method_7_code_9) (by decide) (by decide) (by decide) ?_
  refine q_aloadN (pc' := 18) X hx (hb hby d_prog_20_method_7_code_17) rfl rfl rfl ?_
  refine q_getF (pc' := 21) X hx hZ hown (hb hby d_prog_20_method_7_code_18) (host := "") (Or.inl (t18 hw)) eT F_items_o0 rfl ?_
  intro T X eT
  refine q_aloadN (pc' := 22) X hx (hb hby d_prog_20_method_7_code_21) rfl rfl rfl ?_
  refine q_dup (pc' := 23) X hx (hb hby d_prog_20_method_7_code_22) rfl rfl ?_
  refine q_getF (pc' := 26) X hx hZ hown (hb hby d_prog_20_method_7_code_23) (host := "") (Or.inl (t29 hw)) eT F_end_o0 rfl ?_
  intro T X eT
  refine q_dupX1 (pc' := 27) X hx (hb hby d_prog_20_method_7_code_26) rfl rfl rfl ?_
  refine q_iconst (pc' := 28) (z := (1 : Int32)) X hx (hb hby d_prog_20_method_7_code_27) rfl rfl ?_
  refine q_iadd (pc' := 29) (z := (3 : Int32)) X hx (hb hby d_prog_20_method_7_code_28) (by decide) rfl ?_
  refine q_putF (pc' := 32) X hx hZ hown (hb hby d_prog_20_method_7_code_29) (host := "") (Or.inl (t29 hw)) eT F_end_o0 E_o0 (Or.inl (t30 hw)) (t8 hw) (ty := .int) (by decide) rfl rfl rfl ?_
  intro T h_1 X eT Wx
  have N := Fr.snoc X N g_o0
  have O := ext_wr O Wx g_o0
  have KK := KK.wr Wx (Or.inl (List.mem_of_getElem? (i := 0) rfl))
  have ne_o2_o0 : o2 ≠ o0 := ne_exa E_o2 E_o0 (by decide)
  have ne_o3_o0 : o3 ≠ o0 := ne_exa E_o3 E_o0 (by decide)
  have ne_o4_o0 : o4 ≠ o0 := ne_exa E_o4 E_o0 (by decide)
  have ne_o1_o0 : o1 ≠ o0 := Ne.symm (Exa.neArv E_o0 V_o1 (t8 hw))
  have E_o2 := E_o2.wr Wx
  have F_value_o2 := F_value_o2.other Wx (Or.inl ne_o2_o0)
  have E_o3 := E_o3.wr Wx
  have F_value_o3 := F_value_o3.other Wx (Or.inl ne_o3_o0)
  have E_o4 := E_o4.wr Wx
  have F_value_o4 := F_value_o4.other Wx (Or.inl ne_o4_o0)
  have E_o0 := E_o0.wr Wx
  have F_items_o0 := F_items_o0.other Wx (Or.inr (slot_ne (Or.inl (t19 hw)) (Or.inl (t30 hw)) (by decide) (t := (.array (.object "java/lang/Object"))) (t' := .int) (by decide) (by decide)))
  have F_end_o0 := F_end_o0.same Wx
  have F_first_o0 := F_first_o0.other Wx (Or.inr (slot_ne (Or.inl (t32 hw)) (Or.inl (t30 hw)) (by decide) (t := .int) (t' := .int) (by decide) (by decide)))
  have V_o1 := V_o1.other Wx ne_o1_o0
  refine q_aloadN (pc' := 33) X hx (hb hby d_prog_20_method_7_code_32) rfl rfl rfl ?_
  have ne_o2_o1 : o2 ≠ o1 := Exa.neArv E_o2 V_o1 (t48 hw)
  have ne_o3_o1 : o3 ≠ o1 := Exa.neArv E_o3 V_o1 (t48 hw)
  have ne_o4_o1 : o4 ≠ o1 := Exa.neArv E_o4 V_o1 (t48 hw)
  refine q_aast (pc' := 34) X hx hZ (hb hby d_prog_20_method_7_code_33) eT V_o1 rfl ⟨by decide, by decide⟩ (i := 2) rfl (Nat.le_of_ble_eq_true rfl) (fun _ A q => Sto.ofV A q Ov_o1 (Ins.of_exa E_o4 (t78 hw))) rfl rfl ?_
  intro T h_2 X eT Wx V_o1'
  have N := Fr.snoc X N g_o1
  have O := ext_wr O Wx g_o1
  have KK := KK.wr Wx (Or.inl (List.mem_of_getElem? (i := 1) rfl))
  have E_o2 := E_o2.wr Wx
  have F_value_o2 := F_value_o2.other Wx (Or.inl ne_o2_o1)
  have E_o3 := E_o3.wr Wx
  have F_value_o3 := F_value_o3.other Wx (Or.inl ne_o3_o1)
  have E_o4 := E_o4.wr Wx
  have F_value_o4 := F_value_o4.other Wx (Or.inl ne_o4_o1)
  have E_o0 := E_o0.wr Wx
  have F_items_o0 := F_items_o0.other Wx (Or.inl (Ne.symm ne_o1_o0))
  have F_end_o0 := F_end_o0.other Wx (Or.inl (Ne.symm ne_o1_o0))
  have F_first_o0 := F_first_o0.other Wx (Or.inl (Ne.symm ne_o1_o0))
  have V_o1 : Arv Z h_2 o1 k_o1 (.object "java/lang/Object") (16 : Int32) [(.ref o2), (.ref o3), (.ref o4), .null, .null, .null, .null, .null, .null, .null, .null, .null, .null, .null, .null, .null] .null := V_o1'
  refine Run.retV X hx hlk hret (hb hby d_prog_20_method_7_code_34) (by decide) (by decide) ?_
  try rw [eT]
  exact ⟨rfl, N, KK, E_o0, F_items_o0, F_end_o0, F_first_o0, V_o1⟩
set_option maxRecDepth 65536 in
set_option maxHeartbeats 40000000 in
theorem c46_max {l : Launch} {Z : State} {a0 : Array Value} (hw : ∀ d ∈ tables_1, d.before a0 Z = true) {w_NO_ITEMS : Addr} {w_cache : Addr} {k_w_NO_ITEMS : ClassId} {cl_w_cache : Cell} (wd : World Z w_NO_ITEMS w_cache k_w_NO_ITEMS cl_w_cache)  {h0 : Heap} (O : Ext Z.heap h0)  :
    Ctr l Z y4 jdk_29_method_65_code 2 (some .int) ({ frames := 0, cells := 0, slots := 0, locals := 0 } : Room) #[(.int (3 : Int32)), (.int (0 : Int32))] h0 (fun v h L => v = some (.int (3 : Int32)) ∧ L = [] ∧ h = h0) := by
  refine Ctr.body (Jvm.Free.JP.mathPlain rfl (by decide +kernel)) ?_
  intro p e s m below meth c T X hx hby hml hown hnm hret hlk hZ eT
  have hml : c.maxLocals = 2 := hml
  have hown : s.vm.findClass "java/lang/Math" = some m.cls := hown
  have hnm : meth.name = "max" := hnm
  have hret : meth.sig.returnType = (some .int) := hret
  refine Run.cast (show entryFrame m #[(.int (3 : Int32)), (.int (0 : Int32))] 2 = mkF m 0 #[.val (.int (3 : Int32)), .val (.int (0 : Int32))] [] from by first | (simp [entryFrame, mkF, argsToLocals, Value.category]; done) | rfl) ?_
  have wd0 := wd
  obtain ⟨S_w_NO_ITEMS, E_w_NO_ITEMS, S_w_cache, E_w_cache, V_w_NO_ITEMS, S_w_high, B_w_cache⟩ := wd
  have wd := wd0
  have N : Fr Z.heap.size [] := Fr.nil _
  have KK : Keep h0 h0 [] := Keep.refl h0 []
  refine q_iloadN (pc' := 1) X hx (hb hby d_jdk_29_method_65_code_0) rfl rfl ?_
  refine q_iloadN (pc' := 2) X hx (hb hby d_jdk_29_method_65_code_1) rfl rfl ?_
  refine q_icmpNo (pc' := 5) X hx (hb hby d_jdk_29_method_65_code_2) (by decide) rfl ?_
  refine q_iloadN (pc' := 6) X hx (hb hby d_jdk_29_method_65_code_5) rfl rfl ?_
  refine q_goto (pc' := 10) X hx (hb hby d_jdk_29_method_65_code_6) (by decide) (by decide) ?_
  refine Run.retI X hx hlk hret (hb hby d_jdk_29_method_65_code_10) (by decide) (by decide) ?_
  try rw [eT]
  exact ⟨rfl, rfl, rfl⟩
set_option maxRecDepth 65536 in
set_option maxHeartbeats 40000000 in
theorem c47_size {l : Launch} {Z : State} {a0 : Array Value} (hw : ∀ d ∈ tables_1, d.before a0 Z = true) {w_NO_ITEMS : Addr} {w_cache : Addr} {k_w_NO_ITEMS : ClassId} {cl_w_cache : Cell} (wd : World Z w_NO_ITEMS w_cache k_w_NO_ITEMS cl_w_cache) (x0 : Int32) (x1 : Int32) (x2 : Int32) {h0 : Heap} (O : Ext Z.heap h0) {o0 : Addr} {o1 : Addr} {o2 : Addr} {o3 : Addr} {o4 : Addr} {k_o1 : ClassId} (E_o2 : Exa Z h0 o2 "java/lang/Integer") (F_value_o2 : Fld Z h0 o2 "java/lang/Integer" "value" "I" (.int x0)) (E_o3 : Exa Z h0 o3 "java/lang/Integer") (F_value_o3 : Fld Z h0 o3 "java/lang/Integer" "value" "I" (.int x1)) (E_o4 : Exa Z h0 o4 "java/lang/Integer") (F_value_o4 : Fld Z h0 o4 "java/lang/Integer" "value" "I" (.int x2)) (E_o0 : Exa Z h0 o0 "com/example/roundel/roundel/dag/ItemArray") (F_items_o0 : Fld Z h0 o0 "com/example/roundel/roundel/dag/ItemArray" "items" "[Ljava/lang/Object;" (.ref o1)) (F_end_o0 : Fld Z h0 o0 "com/example/roundel/roundel/dag/ItemArray" "end" "I" (.int (3 : Int32))) (F_first_o0 : Fld Z h0 o0 "com/example/roundel/roundel/dag/ItemArray" "first" "I" (.int (0 : Int32))) (V_o1 : Arv Z h0 o1 k_o1 (.object "java/lang/Object") (16 : Int32) [(.ref o2), (.ref o3), (.ref o4), .null, .null, .null, .null, .null, .null, .null, .null, .null, .null, .null, .null, .null] .null) (Ov_o1 : Ovr Z k_o1 "java/lang/Object") :
    Ctr l Z y5 prog_20_method_6_code 1 (some .int) ({ frames := 0, cells := 0, slots := 0, locals := 0 } : Room) #[(.ref o0)] h0 (fun v h L => v = some (.int (3 : Int32)) ∧ L = [] ∧ h = h0) := by
  refine Ctr.body (plainFor_of_name pn_3) ?_
  intro p e s m below meth c T X hx hby hml hown hnm hret hlk hZ eT
  have hml : c.maxLocals = 1 := hml
  have hown : s.vm.findClass "com/example/roundel/roundel/dag/ItemArray" = some m.cls := hown
  have hnm : meth.name = "size" := hnm
  have hret : meth.sig.returnType = (some .int) := hret
  refine Run.cast (show entryFrame m #[(.ref o0)] 1 = mkF m 0 #[.val (.ref o0)] [] from by first | (simp [entryFrame, mkF, argsToLocals, Value.category]; done) | rfl) ?_
  have wd0 := wd
  obtain ⟨S_w_NO_ITEMS, E_w_NO_ITEMS, S_w_cache, E_w_cache, V_w_NO_ITEMS, S_w_high, B_w_cache⟩ := wd
  have wd := wd0
  have N : Fr Z.heap.size [] := Fr.nil _
  have KK : Keep h0 h0 [] := Keep.refl h0 []
  refine q_aloadN (pc' := 1) X hx (hb hby d_prog_20_method_6_code_0) rfl rfl rfl ?_
  refine q_getF (pc' := 4) X hx hZ hown (hb hby d_prog_20_method_6_code_1) (host := "") (Or.inl (t29 hw)) eT F_end_o0 rfl ?_
  intro T X eT
  refine q_aloadN (pc' := 5) X hx (hb hby d_prog_20_method_6_code_4) rfl rfl rfl ?_
  refine q_getF (pc' := 8) X hx hZ hown (hb hby d_prog_20_method_6_code_5) (host := "") (Or.inl (t31 hw)) eT F_first_o0 rfl ?_
  intro T X eT
  refine q_isub (pc' := 9) (z := (3 : Int32)) X hx (hb hby d_prog_20_method_6_code_8) (by decide) rfl ?_
  refine Run.retI X hx hlk hret (hb hby d_prog_20_method_6_code_9) (by decide) (by decide) ?_
  try rw [eT]
  exact ⟨rfl, rfl, rfl⟩
set_option maxRecDepth 65536 in
set_option maxHeartbeats 40000000 in
theorem c48_peek {l : Launch} {Z : State} {a0 : Array Value} (hw : ∀ d ∈ tables_1, d.before a0 Z = true) {w_NO_ITEMS : Addr} {w_cache : Addr} {k_w_NO_ITEMS : ClassId} {cl_w_cache : Cell} (wd : World Z w_NO_ITEMS w_cache k_w_NO_ITEMS cl_w_cache) (x0 : Int32) (x1 : Int32) (x2 : Int32) {h0 : Heap} (O : Ext Z.heap h0) {o0 : Addr} {o1 : Addr} {o2 : Addr} {o3 : Addr} {o4 : Addr} {k_o1 : ClassId} (E_o2 : Exa Z h0 o2 "java/lang/Integer") (F_value_o2 : Fld Z h0 o2 "java/lang/Integer" "value" "I" (.int x0)) (E_o3 : Exa Z h0 o3 "java/lang/Integer") (F_value_o3 : Fld Z h0 o3 "java/lang/Integer" "value" "I" (.int x1)) (E_o4 : Exa Z h0 o4 "java/lang/Integer") (F_value_o4 : Fld Z h0 o4 "java/lang/Integer" "value" "I" (.int x2)) (E_o0 : Exa Z h0 o0 "com/example/roundel/roundel/dag/ItemArray") (F_items_o0 : Fld Z h0 o0 "com/example/roundel/roundel/dag/ItemArray" "items" "[Ljava/lang/Object;" (.ref o1)) (F_end_o0 : Fld Z h0 o0 "com/example/roundel/roundel/dag/ItemArray" "end" "I" (.int (3 : Int32))) (F_first_o0 : Fld Z h0 o0 "com/example/roundel/roundel/dag/ItemArray" "first" "I" (.int (0 : Int32))) (V_o1 : Arv Z h0 o1 k_o1 (.object "java/lang/Object") (16 : Int32) [(.ref o2), (.ref o3), (.ref o4), .null, .null, .null, .null, .null, .null, .null, .null, .null, .null, .null, .null, .null] .null) (Ov_o1 : Ovr Z k_o1 "java/lang/Object") :
    Ctr l Z y6 prog_20_method_3_code 1 (some (.object "java/lang/Object")) ({ frames := 0, cells := 0, slots := 0, locals := 0 } : Room) #[(.ref o0)] h0 (fun v h L => v = some (.ref o2) ∧ L = [] ∧ h = h0) := by
  refine Ctr.body (plainFor_of_name pn_3) ?_
  intro p e s m below meth c T X hx hby hml hown hnm hret hlk hZ eT
  have hml : c.maxLocals = 1 := hml
  have hown : s.vm.findClass "com/example/roundel/roundel/dag/ItemArray" = some m.cls := hown
  have hnm : meth.name = "peek" := hnm
  have hret : meth.sig.returnType = (some (.object "java/lang/Object")) := hret
  refine Run.cast (show entryFrame m #[(.ref o0)] 1 = mkF m 0 #[.val (.ref o0)] [] from by first | (simp [entryFrame, mkF, argsToLocals, Value.category]; done) | rfl) ?_
  have wd0 := wd
  obtain ⟨S_w_NO_ITEMS, E_w_NO_ITEMS, S_w_cache, E_w_cache, V_w_NO_ITEMS, S_w_high, B_w_cache⟩ := wd
  have wd := wd0
  have N : Fr Z.heap.size [] := Fr.nil _
  have KK : Keep h0 h0 [] := Keep.refl h0 []
  refine q_aloadN (pc' := 1) X hx (hb hby d_prog_20_method_3_code_0) rfl rfl rfl ?_
  refine q_getF (pc' := 4) X hx hZ hown (hb hby d_prog_20_method_3_code_1) (host := "") (Or.inl (t31 hw)) eT F_first_o0 rfl ?_
  intro T X eT
  refine q_aloadN (pc' := 5) X hx (hb hby d_prog_20_method_3_code_4) rfl rfl rfl ?_
  refine q_getF (pc' := 8) X hx hZ hown (hb hby d_prog_20_method_3_code_5) (host := "") (Or.inl (t29 hw)) eT F_end_o0 rfl ?_
  intro T X eT
  refine q_icmpYes (pc' := 15) X hx (hb hby d_prog_20_method_3_code_8) (by decide) (by decide) (by decide) ?_
  refine q_aloadN (pc' := 16) X hx (hb hby d_prog_20_method_3_code_15) rfl rfl rfl ?_
  refine q_getF (pc' := 19) X hx hZ hown (hb hby d_prog_20_method_3_code_16) (host := "") (Or.inl (t18 hw)) eT F_items_o0 rfl ?_
  intro T X eT
  refine q_aloadN (pc' := 20) X hx (hb hby d_prog_20_method_3_code_19) rfl rfl rfl ?_
  refine q_getF (pc' := 23) X hx hZ hown (hb hby d_prog_20_method_3_code_20) (host := "") (Or.inl (t31 hw)) eT F_first_o0 rfl ?_
  intro T X eT
  refine q_aald (pc' := 24) (v := (.ref o2)) X hx hZ (hb hby d_prog_20_method_3_code_23) eT V_o1 rfl ⟨by decide, by decide⟩ rfl rfl ?_
  refine Run.retR X hx hlk hret (hb hby d_prog_20_method_3_code_24) rfl rfl (by decide) (by decide) ?_
  try rw [eT]
  exact ⟨rfl, rfl, rfl⟩
set_option maxRecDepth 65536 in
set_option maxHeartbeats 40000000 in
theorem c49_expected {l : Launch} {Z : State} {a0 : Array Value} (hw : ∀ d ∈ tables_1, d.before a0 Z = true) {w_NO_ITEMS : Addr} {w_cache : Addr} {k_w_NO_ITEMS : ClassId} {cl_w_cache : Cell} (wd : World Z w_NO_ITEMS w_cache k_w_NO_ITEMS cl_w_cache) (x0 : Int32) (x1 : Int32) (x2 : Int32) {h0 : Heap} (O : Ext Z.heap h0) {o0 : Addr} {o1 : Addr} {o2 : Addr} (E_o0 : Exa Z h0 o0 "java/lang/Integer") (F_value_o0 : Fld Z h0 o0 "java/lang/Integer" "value" "I" (.int x0)) (E_o1 : Exa Z h0 o1 "java/lang/Integer") (F_value_o1 : Fld Z h0 o1 "java/lang/Integer" "value" "I" (.int x1)) (E_o2 : Exa Z h0 o2 "java/lang/Integer") (F_value_o2 : Fld Z h0 o2 "java/lang/Integer" "value" "I" (.int x2)) :
    Ctr l Z y7 method_2_code 5 (some (.object "java/lang/Object")) ({ frames := 0, cells := 0, slots := 0, locals := 0 } : Room) #[(.int (1 : Int32)), (.int (3 : Int32)), (.ref o0), (.ref o1), (.ref o2)] h0 (fun v h L => v = some (.ref o0) ∧ L = [] ∧ h = h0) := by
  refine Ctr.body (plainFor_of_name pn_2) ?_
  intro p e s m below meth c T X hx hby hml hown hnm hret hlk hZ eT
  have hml : c.maxLocals = 5 := hml
  have hown : s.vm.findClass "com/example/roundel/roundel/dag/ItemArrayPollPinLaw" = some m.cls := hown
  have hnm : meth.name = "expected" := hnm
  have hret : meth.sig.returnType = (some (.object "java/lang/Object")) := hret
  refine Run.cast (show entryFrame m #[(.int (1 : Int32)), (.int (3 : Int32)), (.ref o0), (.ref o1), (.ref o2)] 5 = mkF m 0 #[.val (.int (1 : Int32)), .val (.int (3 : Int32)), .val (.ref o0), .val (.ref o1), .val (.ref o2)] [] from by first | (simp [entryFrame, mkF, argsToLocals, Value.category]; done) | rfl) ?_
  have wd0 := wd
  obtain ⟨S_w_NO_ITEMS, E_w_NO_ITEMS, S_w_cache, E_w_cache, V_w_NO_ITEMS, S_w_high, B_w_cache⟩ := wd
  have wd := wd0
  have N : Fr Z.heap.size [] := Fr.nil _
  have KK : Keep h0 h0 [] := Keep.refl h0 []
  refine q_iloadN (pc' := 1) X hx (hb hby d_method_2_code_0) rfl rfl ?_
  refine q_iloadN (pc' := 2) X hx (hb hby d_method_2_code_1) rfl rfl ?_
  refine q_icmpYes (pc' := 7) X hx (hb hby d_method_2_code_2) (by decide) (by decide) (by decide) ?_
  refine q_iloadN (pc' := 8) X hx (hb hby d_method_2_code_7) rfl rfl ?_
  refine q_iconst (pc' := 9) (z := (1 : Int32)) X hx (hb hby d_method_2_code_8) rfl rfl ?_
  refine q_icmpNo (pc' := 12) X hx (hb hby d_method_2_code_9) (by decide) rfl ?_
  refine q_aloadN (pc' := 13) X hx (hb hby d_method_2_code_12) rfl rfl rfl ?_
  refine Run.retR X hx hlk hret (hb hby d_method_2_code_13) rfl rfl (by decide) (by decide) ?_
  try rw [eT]
  exact ⟨rfl, rfl, rfl⟩
set_option maxRecDepth 65536 in
set_option maxHeartbeats 40000000 in
theorem c50_poll {l : Launch} {Z : State} {a0 : Array Value} (hw : ∀ d ∈ tables_1, d.before a0 Z = true) {w_NO_ITEMS : Addr} {w_cache : Addr} {k_w_NO_ITEMS : ClassId} {cl_w_cache : Cell} (wd : World Z w_NO_ITEMS w_cache k_w_NO_ITEMS cl_w_cache) (x0 : Int32) (x1 : Int32) (x2 : Int32) {h0 : Heap} (O : Ext Z.heap h0) {o0 : Addr} {o1 : Addr} {o2 : Addr} {o3 : Addr} {o4 : Addr} {k_o1 : ClassId} (E_o2 : Exa Z h0 o2 "java/lang/Integer") (F_value_o2 : Fld Z h0 o2 "java/lang/Integer" "value" "I" (.int x0)) (E_o3 : Exa Z h0 o3 "java/lang/Integer") (F_value_o3 : Fld Z h0 o3 "java/lang/Integer" "value" "I" (.int x1)) (E_o4 : Exa Z h0 o4 "java/lang/Integer") (F_value_o4 : Fld Z h0 o4 "java/lang/Integer" "value" "I" (.int x2)) (E_o0 : Exa Z h0 o0 "com/example/roundel/roundel/dag/ItemArray") (F_items_o0 : Fld Z h0 o0 "com/example/roundel/roundel/dag/ItemArray" "items" "[Ljava/lang/Object;" (.ref o1)) (F_end_o0 : Fld Z h0 o0 "com/example/roundel/roundel/dag/ItemArray" "end" "I" (.int (3 : Int32))) (F_first_o0 : Fld Z h0 o0 "com/example/roundel/roundel/dag/ItemArray" "first" "I" (.int (0 : Int32))) (V_o1 : Arv Z h0 o1 k_o1 (.object "java/lang/Object") (16 : Int32) [(.ref o2), (.ref o3), (.ref o4), .null, .null, .null, .null, .null, .null, .null, .null, .null, .null, .null, .null, .null] .null) (Ov_o1 : Ovr Z k_o1 "java/lang/Object") (g_o0 : Z.heap.size ≤ o0) (g_o1 : Z.heap.size ≤ o1) :
    Ctr l Z y8 prog_20_method_4_code 2 (some (.object "java/lang/Object")) ({ frames := 0, cells := 0, slots := 0, locals := 0 } : Room) #[(.ref o0)] h0 (fun v h L => v = some (.ref o2) ∧ Fr Z.heap.size L ∧ Keep h0 h [o0, o1] ∧ Exa Z h o0 "com/example/roundel/roundel/dag/ItemArray" ∧ Fld Z h o0 "com/example/roundel/roundel/dag/ItemArray" "items" "[Ljava/lang/Object;" (.ref o1) ∧ Fld Z h o0 "com/example/roundel/roundel/dag/ItemArray" "end" "I" (.int (3 : Int32)) ∧ Fld Z h o0 "com/example/roundel/roundel/dag/ItemArray" "first" "I" (.int (1 : Int32)) ∧ Arv Z h o1 k_o1 (.object "java/lang/Object") (16 : Int32) [.null, (.ref o3), (.ref o4), .null, .null, .null, .null, .null, .null, .null, .null, .null, .null, .null, .null, .null] .null) := by
  refine Ctr.body (plainFor_of_name pn_3) ?_
  intro p e s m below meth c T X hx hby hml hown hnm hret hlk hZ eT
  have hml : c.maxLocals = 2 := hml
  have hown : s.vm.findClass "com/example/roundel/roundel/dag/ItemArray" = some m.cls := hown
  have hnm : meth.name = "poll" := hnm
  have hret : meth.sig.returnType = (some (.object "java/lang/Object")) := hret
  refine Run.cast (show entryFrame m #[(.ref o0)] 2 = mkF m 0 #[.val (.ref o0), .unset] [] from by first | (simp [entryFrame, mkF, argsToLocals, Value.category]; done) | rfl) ?_
  have wd0 := wd
  obtain ⟨S_w_NO_ITEMS, E_w_NO_ITEMS, S_w_cache, E_w_cache, V_w_NO_ITEMS, S_w_high, B_w_cache⟩ := wd
  have wd := wd0
  have N : Fr Z.heap.size [] := Fr.nil _
  have KK : Keep h0 h0 [o0, o1] := Keep.refl h0 [o0, o1]
  refine q_aloadN (pc' := 1) X hx (hb hby d_prog_20_method_4_code_0) rfl rfl rfl ?_
  refine q_getF (pc' := 4) X hx hZ hown (hb hby d_prog_20_method_4_code_1) (host := "") (Or.inl (t31 hw)) eT F_first_o0 rfl ?_
  intro T X eT
  refine q_aloadN (pc' := 5) X hx (hb hby d_prog_20_method_4_code_4) rfl rfl rfl ?_
  refine q_getF (pc' := 8) X hx hZ hown (hb hby d_prog_20_method_4_code_5) (host := "") (Or.inl (t29 hw)) eT F_end_o0 rfl ?_
  intro T X eT
  refine q_icmpYes (pc' := 13) X hx (hb hby d_prog_20_method_4_code_8) (by decide) (by decide) (by decide) ?_
  refine q_aloadN (pc' := 14) X hx (hb hby d_prog_20_method_4_code_13) rfl rfl rfl ?_
  refine q_getF (pc' := 17) X hx hZ hown (hb hby d_prog_20_method_4_code_14) (host := "") (Or.inl (t18 hw)) eT F_items_o0 rfl ?_
  intro T X eT
  refine q_aloadN (pc' := 18) X hx (hb hby d_prog_20_method_4_code_17) rfl rfl rfl ?_
  refine q_getF (pc' := 21) X hx hZ hown (hb hby d_prog_20_method_4_code_18) (host := "") (Or.inl (t31 hw)) eT F_first_o0 rfl ?_
  intro T X eT
  refine q_aald (pc' := 22) (v := (.ref o2)) X hx hZ (hb hby d_prog_20_method_4_code_21) eT V_o1 rfl ⟨by decide, by decide⟩ rfl rfl ?_
  refine q_astoreN (pc' := 23) (l' := #[.val (.ref o0), .val (.ref o2)]) X hx (hb hby d_prog_20_method_4_code_22) rfl rfl rfl ?_
  refine q_aloadN (pc' := 24) X hx (hb hby d_prog_20_method_4_code_23) rfl rfl rfl ?_
  refine q_getF (pc' := 27) X hx hZ hown (hb hby d_prog_20_method_4_code_24) (host := "") (Or.inl (t18 hw)) eT F_items_o0 rfl ?_
  intro T X eT
  refine q_aloadN (pc' := 28) X hx (hb hby d_prog_20_method_4_code_27) rfl rfl rfl ?_
  refine q_dup (pc' := 29) X hx (hb hby d_prog_20_method_4_code_28) rfl rfl ?_
  refine q_getF (pc' := 32) X hx hZ hown (hb hby d_prog_20_method_4_code_29) (host := "") (Or.inl (t31 hw)) eT F_first_o0 rfl ?_
  intro T X eT
  refine q_dupX1 (pc' := 33) X hx (hb hby d_prog_20_method_4_code_32) rfl rfl rfl ?_
  refine q_iconst (pc' := 34) (z := (1 : Int32)) X hx (hb hby d_prog_20_method_4_code_33) rfl rfl ?_
  refine q_iadd (pc' := 35) (z := (1 : Int32)) X hx (hb hby d_prog_20_method_4_code_34) (by decide) rfl ?_
  refine q_putF (pc' := 38) X hx hZ hown (hb hby d_prog_20_method_4_code_35) (host := "") (Or.inl (t31 hw)) eT F_first_o0 E_o0 (Or.inl (t32 hw)) (t8 hw) (ty := .int) (by decide) rfl rfl rfl ?_
  intro T h_1 X eT Wx
  have N := Fr.snoc X N g_o0
  have O := ext_wr O Wx g_o0
  have KK := KK.wr Wx (Or.inl (List.mem_of_getElem? (i := 0) rfl))
  have ne_o2_o0 : o2 ≠ o0 := ne_exa E_o2 E_o0 (by decide)
  have ne_o3_o0 : o3 ≠ o0 := ne_exa E_o3 E_o0 (by decide)
  have ne_o4_o0 : o4 ≠ o0 := ne_exa E_o4 E_o0 (by decide)
  have ne_o1_o0 : o1 ≠ o0 := Ne.symm (Exa.neArv E_o0 V_o1 (t8 hw))
  have E_o2 := E_o2.wr Wx
  have F_value_o2 := F_value_o2.other Wx (Or.inl ne_o2_o0)
  have E_o3 := E_o3.wr Wx
  have F_value_o3 := F_value_o3.other Wx (Or.inl ne_o3_o0)
  have E_o4 := E_o4.wr Wx
  have F_value_o4 := F_value_o4.other Wx (Or.inl ne_o4_o0)
  have E_o0 := E_o0.wr Wx
  have F_items_o0 := F_items_o0.other Wx (Or.inr (slot_ne (Or.inl (t19 hw)) (Or.inl (t32 hw)) (by decide) (t := (.array (.object "java/lang/Object"))) (t' := .int) (by decide) (by decide)))
  have F_end_o0 := F_end_o0.other Wx (Or.inr (slot_ne (Or.inl (t30 hw)) (Or.inl (t32 hw)) (by decide) (t := .int) (t' := .int) (by decide) (by decide)))
  have F_first_o0 := F_first_o0.same Wx
  have V_o1 := V_o1.other Wx ne_o1_o0
  refine q_null (pc' := 39) X hx (hb hby d_prog_20_method_4_code_38) rfl ?_
  have ne_o2_o1 : o2 ≠ o1 := Exa.neArv E_o2 V_o1 (t48 hw)
  have ne_o3_o1 : o3 ≠ o1 := Exa.neArv E_o3 V_o1 (t48 hw)
  have ne_o4_o1 : o4 ≠ o1 := Exa.neArv E_o4 V_o1 (t48 hw)
  refine q_aast (pc' := 40) X hx hZ (hb hby d_prog_20_method_4_code_39) eT V_o1 rfl ⟨by decide, by decide⟩ (i := 0) rfl (Nat.le_of_ble_eq_true rfl) (fun _ _ _ => Or.inl rfl) rfl rfl ?_
  intro T h_2 X eT Wx V_o1'
  have N := Fr.snoc X N g_o1
  have O := ext_wr O Wx g_o1
  have KK := KK.wr Wx (Or.inl (List.mem_of_getElem? (i := 1) rfl))
  have E_o2 := E_o2.wr Wx
  have F_value_o2 := F_value_o2.other Wx (Or.inl ne_o2_o1)
  have E_o3 := E_o3.wr Wx
  have F_value_o3 := F_value_o3.other Wx (Or.inl ne_o3_o1)
  have E_o4 := E_o4.wr Wx
  have F_value_o4 := F_value_o4.other Wx (Or.inl ne_o4_o1)
  have E_o0 := E_o0.wr Wx
  have F_items_o0 := F_items_o0.other Wx (Or.inl (Ne.symm ne_o1_o0))
  have F_end_o0 := F_end_o0.other Wx (Or.inl (Ne.symm ne_o1_o0))
  have F_first_o0 := F_first_o0.other Wx (Or.inl (Ne.symm ne_o1_o0))
  have V_o1 : Arv Z h_2 o1 k_o1 (.object "java/lang/Object") (16 : Int32) [.null, (.ref o3), (.ref o4), .null, .null, .null, .null, .null, .null, .null, .null, .null, .null, .null, .null, .null] .null := V_o1'
  refine q_aloadN (pc' := 41) X hx (hb hby d_prog_20_method_4_code_40) rfl rfl rfl ?_
  refine Run.retR X hx hlk hret (hb hby d_prog_20_method_4_code_41) rfl rfl (by decide) (by decide) ?_
  try rw [eT]
  exact ⟨rfl, N, KK, E_o0, F_items_o0, F_end_o0, F_first_o0, V_o1⟩
set_option maxRecDepth 65536 in
set_option maxHeartbeats 40000000 in
theorem c51_size {l : Launch} {Z : State} {a0 : Array Value} (hw : ∀ d ∈ tables_1, d.before a0 Z = true) {w_NO_ITEMS : Addr} {w_cache : Addr} {k_w_NO_ITEMS : ClassId} {cl_w_cache : Cell} (wd : World Z w_NO_ITEMS w_cache k_w_NO_ITEMS cl_w_cache) (x0 : Int32) (x1 : Int32) {h0 : Heap} (O : Ext Z.heap h0) {o0 : Addr} {o1 : Addr} {o2 : Addr} {o3 : Addr} {k_o1 : ClassId} (E_o2 : Exa Z h0 o2 "java/lang/Integer") (F_value_o2 : Fld Z h0 o2 "java/lang/Integer" "value" "I" (.int x0)) (E_o3 : Exa Z h0 o3 "java/lang/Integer") (F_value_o3 : Fld Z h0 o3 "java/lang/Integer" "value" "I" (.int x1)) (E_o0 : Exa Z h0 o0 "com/example/roundel/roundel/dag/ItemArray") (F_items_o0 : Fld Z h0 o0 "com/example/roundel/roundel/dag/ItemArray" "items" "[Ljava/lang/Object;" (.ref o1)) (F_end_o0 : Fld Z h0 o0 "com/example/roundel/roundel/dag/ItemArray" "end" "I" (.int (3 : Int32))) (F_first_o0 : Fld Z h0 o0 "com/example/roundel/roundel/dag/ItemArray" "first" "I" (.int (1 : Int32))) (V_o1 : Arv Z h0 o1 k_o1 (.object "java/lang/Object") (16 : Int32) [.null, (.ref o2), (.ref o3), .null, .null, .null, .null, .null, .null, .null, .null, .null, .null, .null, .null, .null] .null) (Ov_o1 : Ovr Z k_o1 "java/lang/Object") :
    Ctr l Z y5 prog_20_method_6_code 1 (some .int) ({ frames := 0, cells := 0, slots := 0, locals := 0 } : Room) #[(.ref o0)] h0 (fun v h L => v = some (.int (2 : Int32)) ∧ L = [] ∧ h = h0) := by
  refine Ctr.body (plainFor_of_name pn_3) ?_
  intro p e s m below meth c T X hx hby hml hown hnm hret hlk hZ eT
  have hml : c.maxLocals = 1 := hml
  have hown : s.vm.findClass "com/example/roundel/roundel/dag/ItemArray" = some m.cls := hown
  have hnm : meth.name = "size" := hnm
  have hret : meth.sig.returnType = (some .int) := hret
  refine Run.cast (show entryFrame m #[(.ref o0)] 1 = mkF m 0 #[.val (.ref o0)] [] from by first | (simp [entryFrame, mkF, argsToLocals, Value.category]; done) | rfl) ?_
  have wd0 := wd
  obtain ⟨S_w_NO_ITEMS, E_w_NO_ITEMS, S_w_cache, E_w_cache, V_w_NO_ITEMS, S_w_high, B_w_cache⟩ := wd
  have wd := wd0
  have N : Fr Z.heap.size [] := Fr.nil _
  have KK : Keep h0 h0 [] := Keep.refl h0 []
  refine q_aloadN (pc' := 1) X hx (hb hby d_prog_20_method_6_code_0) rfl rfl rfl ?_
  refine q_getF (pc' := 4) X hx hZ hown (hb hby d_prog_20_method_6_code_1) (host := "") (Or.inl (t29 hw)) eT F_end_o0 rfl ?_
  intro T X eT
  refine q_aloadN (pc' := 5) X hx (hb hby d_prog_20_method_6_code_4) rfl rfl rfl ?_
  refine q_getF (pc' := 8) X hx hZ hown (hb hby d_prog_20_method_6_code_5) (host := "") (Or.inl (t31 hw)) eT F_first_o0 rfl ?_
  intro T X eT
  refine q_isub (pc' := 9) (z := (2 : Int32)) X hx (hb hby d_prog_20_method_6_code_8) (by decide) rfl ?_
  refine Run.retI X hx hlk hret (hb hby d_prog_20_method_6_code_9) (by decide) (by decide) ?_
  try rw [eT]
  exact ⟨rfl, rfl, rfl⟩
set_option maxRecDepth 65536 in
set_option maxHeartbeats 40000000 in
theorem c52_peek {l : Launch} {Z : State} {a0 : Array Value} (hw : ∀ d ∈ tables_1, d.before a0 Z = true) {w_NO_ITEMS : Addr} {w_cache : Addr} {k_w_NO_ITEMS : ClassId} {cl_w_cache : Cell} (wd : World Z w_NO_ITEMS w_cache k_w_NO_ITEMS cl_w_cache) (x0 : Int32) (x1 : Int32) {h0 : Heap} (O : Ext Z.heap h0) {o0 : Addr} {o1 : Addr} {o2 : Addr} {o3 : Addr} {k_o1 : ClassId} (E_o2 : Exa Z h0 o2 "java/lang/Integer") (F_value_o2 : Fld Z h0 o2 "java/lang/Integer" "value" "I" (.int x0)) (E_o3 : Exa Z h0 o3 "java/lang/Integer") (F_value_o3 : Fld Z h0 o3 "java/lang/Integer" "value" "I" (.int x1)) (E_o0 : Exa Z h0 o0 "com/example/roundel/roundel/dag/ItemArray") (F_items_o0 : Fld Z h0 o0 "com/example/roundel/roundel/dag/ItemArray" "items" "[Ljava/lang/Object;" (.ref o1)) (F_end_o0 : Fld Z h0 o0 "com/example/roundel/roundel/dag/ItemArray" "end" "I" (.int (3 : Int32))) (F_first_o0 : Fld Z h0 o0 "com/example/roundel/roundel/dag/ItemArray" "first" "I" (.int (1 : Int32))) (V_o1 : Arv Z h0 o1 k_o1 (.object "java/lang/Object") (16 : Int32) [.null, (.ref o2), (.ref o3), .null, .null, .null, .null, .null, .null, .null, .null, .null, .null, .null, .null, .null] .null) (Ov_o1 : Ovr Z k_o1 "java/lang/Object") :
    Ctr l Z y6 prog_20_method_3_code 1 (some (.object "java/lang/Object")) ({ frames := 0, cells := 0, slots := 0, locals := 0 } : Room) #[(.ref o0)] h0 (fun v h L => v = some (.ref o2) ∧ L = [] ∧ h = h0) := by
  refine Ctr.body (plainFor_of_name pn_3) ?_
  intro p e s m below meth c T X hx hby hml hown hnm hret hlk hZ eT
  have hml : c.maxLocals = 1 := hml
  have hown : s.vm.findClass "com/example/roundel/roundel/dag/ItemArray" = some m.cls := hown
  have hnm : meth.name = "peek" := hnm
  have hret : meth.sig.returnType = (some (.object "java/lang/Object")) := hret
  refine Run.cast (show entryFrame m #[(.ref o0)] 1 = mkF m 0 #[.val (.ref o0)] [] from by first | (simp [entryFrame, mkF, argsToLocals, Value.category]; done) | rfl) ?_
  have wd0 := wd
  obtain ⟨S_w_NO_ITEMS, E_w_NO_ITEMS, S_w_cache, E_w_cache, V_w_NO_ITEMS, S_w_high, B_w_cache⟩ := wd
  have wd := wd0
  have N : Fr Z.heap.size [] := Fr.nil _
  have KK : Keep h0 h0 [] := Keep.refl h0 []
  refine q_aloadN (pc' := 1) X hx (hb hby d_prog_20_method_3_code_0) rfl rfl rfl ?_
  refine q_getF (pc' := 4) X hx hZ hown (hb hby d_prog_20_method_3_code_1) (host := "") (Or.inl (t31 hw)) eT F_first_o0 rfl ?_
  intro T X eT
  refine q_aloadN (pc' := 5) X hx (hb hby d_prog_20_method_3_code_4) rfl rfl rfl ?_
  refine q_getF (pc' := 8) X hx hZ hown (hb hby d_prog_20_method_3_code_5) (host := "") (Or.inl (t29 hw)) eT F_end_o0 rfl ?_
  intro T X eT
  refine q_icmpYes (pc' := 15) X hx (hb hby d_prog_20_method_3_code_8) (by decide) (by decide) (by decide) ?_
  refine q_aloadN (pc' := 16) X hx (hb hby d_prog_20_method_3_code_15) rfl rfl rfl ?_
  refine q_getF (pc' := 19) X hx hZ hown (hb hby d_prog_20_method_3_code_16) (host := "") (Or.inl (t18 hw)) eT F_items_o0 rfl ?_
  intro T X eT
  refine q_aloadN (pc' := 20) X hx (hb hby d_prog_20_method_3_code_19) rfl rfl rfl ?_
  refine q_getF (pc' := 23) X hx hZ hown (hb hby d_prog_20_method_3_code_20) (host := "") (Or.inl (t31 hw)) eT F_first_o0 rfl ?_
  intro T X eT
  refine q_aald (pc' := 24) (v := (.ref o2)) X hx hZ (hb hby d_prog_20_method_3_code_23) eT V_o1 rfl ⟨by decide, by decide⟩ rfl rfl ?_
  refine Run.retR X hx hlk hret (hb hby d_prog_20_method_3_code_24) rfl rfl (by decide) (by decide) ?_
  try rw [eT]
  exact ⟨rfl, rfl, rfl⟩
set_option maxRecDepth 65536 in
set_option maxHeartbeats 40000000 in
theorem c53_expected {l : Launch} {Z : State} {a0 : Array Value} (hw : ∀ d ∈ tables_1, d.before a0 Z = true) {w_NO_ITEMS : Addr} {w_cache : Addr} {k_w_NO_ITEMS : ClassId} {cl_w_cache : Cell} (wd : World Z w_NO_ITEMS w_cache k_w_NO_ITEMS cl_w_cache) (x0 : Int32) (x1 : Int32) (x2 : Int32) {h0 : Heap} (O : Ext Z.heap h0) {o0 : Addr} {o1 : Addr} {o2 : Addr} (E_o0 : Exa Z h0 o0 "java/lang/Integer") (F_value_o0 : Fld Z h0 o0 "java/lang/Integer" "value" "I" (.int x0)) (E_o1 : Exa Z h0 o1 "java/lang/Integer") (F_value_o1 : Fld Z h0 o1 "java/lang/Integer" "value" "I" (.int x1)) (E_o2 : Exa Z h0 o2 "java/lang/Integer") (F_value_o2 : Fld Z h0 o2 "java/lang/Integer" "value" "I" (.int x2)) :
    Ctr l Z y7 method_2_code 5 (some (.object "java/lang/Object")) ({ frames := 0, cells := 0, slots := 0, locals := 0 } : Room) #[(.int (2 : Int32)), (.int (3 : Int32)), (.ref o0), (.ref o1), (.ref o2)] h0 (fun v h L => v = some (.ref o1) ∧ L = [] ∧ h = h0) := by
  refine Ctr.body (plainFor_of_name pn_2) ?_
  intro p e s m below meth c T X hx hby hml hown hnm hret hlk hZ eT
  have hml : c.maxLocals = 5 := hml
  have hown : s.vm.findClass "com/example/roundel/roundel/dag/ItemArrayPollPinLaw" = some m.cls := hown
  have hnm : meth.name = "expected" := hnm
  have hret : meth.sig.returnType = (some (.object "java/lang/Object")) := hret
  refine Run.cast (show entryFrame m #[(.int (2 : Int32)), (.int (3 : Int32)), (.ref o0), (.ref o1), (.ref o2)] 5 = mkF m 0 #[.val (.int (2 : Int32)), .val (.int (3 : Int32)), .val (.ref o0), .val (.ref o1), .val (.ref o2)] [] from by first | (simp [entryFrame, mkF, argsToLocals, Value.category]; done) | rfl) ?_
  have wd0 := wd
  obtain ⟨S_w_NO_ITEMS, E_w_NO_ITEMS, S_w_cache, E_w_cache, V_w_NO_ITEMS, S_w_high, B_w_cache⟩ := wd
  have wd := wd0
  have N : Fr Z.heap.size [] := Fr.nil _
  have KK : Keep h0 h0 [] := Keep.refl h0 []
  refine q_iloadN (pc' := 1) X hx (hb hby d_method_2_code_0) rfl rfl ?_
  refine q_iloadN (pc' := 2) X hx (hb hby d_method_2_code_1) rfl rfl ?_
  refine q_icmpYes (pc' := 7) X hx (hb hby d_method_2_code_2) (by decide) (by decide) (by decide) ?_
  refine q_iloadN (pc' := 8) X hx (hb hby d_method_2_code_7) rfl rfl ?_
  refine q_iconst (pc' := 9) (z := (1 : Int32)) X hx (hb hby d_method_2_code_8) rfl rfl ?_
  refine q_icmpYes (pc' := 14) X hx (hb hby d_method_2_code_9) (by decide) (by decide) (by decide) ?_
  refine q_iloadN (pc' := 15) X hx (hb hby d_method_2_code_14) rfl rfl ?_
  refine q_iconst (pc' := 16) (z := (2 : Int32)) X hx (hb hby d_method_2_code_15) rfl rfl ?_
  refine q_icmpNo (pc' := 19) X hx (hb hby d_method_2_code_16) (by decide) rfl ?_
  refine q_aloadN (pc' := 20) X hx (hb hby d_method_2_code_19) rfl rfl rfl ?_
  refine Run.retR X hx hlk hret (hb hby d_method_2_code_20) rfl rfl (by decide) (by decide) ?_
  try rw [eT]
  exact ⟨rfl, rfl, rfl⟩
set_option maxRecDepth 65536 in
set_option maxHeartbeats 40000000 in
theorem c54_poll {l : Launch} {Z : State} {a0 : Array Value} (hw : ∀ d ∈ tables_1, d.before a0 Z = true) {w_NO_ITEMS : Addr} {w_cache : Addr} {k_w_NO_ITEMS : ClassId} {cl_w_cache : Cell} (wd : World Z w_NO_ITEMS w_cache k_w_NO_ITEMS cl_w_cache) (x0 : Int32) (x1 : Int32) {h0 : Heap} (O : Ext Z.heap h0) {o0 : Addr} {o1 : Addr} {o2 : Addr} {o3 : Addr} {k_o1 : ClassId} (E_o2 : Exa Z h0 o2 "java/lang/Integer") (F_value_o2 : Fld Z h0 o2 "java/lang/Integer" "value" "I" (.int x0)) (E_o3 : Exa Z h0 o3 "java/lang/Integer") (F_value_o3 : Fld Z h0 o3 "java/lang/Integer" "value" "I" (.int x1)) (E_o0 : Exa Z h0 o0 "com/example/roundel/roundel/dag/ItemArray") (F_items_o0 : Fld Z h0 o0 "com/example/roundel/roundel/dag/ItemArray" "items" "[Ljava/lang/Object;" (.ref o1)) (F_end_o0 : Fld Z h0 o0 "com/example/roundel/roundel/dag/ItemArray" "end" "I" (.int (3 : Int32))) (F_first_o0 : Fld Z h0 o0 "com/example/roundel/roundel/dag/ItemArray" "first" "I" (.int (1 : Int32))) (V_o1 : Arv Z h0 o1 k_o1 (.object "java/lang/Object") (16 : Int32) [.null, (.ref o2), (.ref o3), .null, .null, .null, .null, .null, .null, .null, .null, .null, .null, .null, .null, .null] .null) (Ov_o1 : Ovr Z k_o1 "java/lang/Object") (g_o0 : Z.heap.size ≤ o0) (g_o1 : Z.heap.size ≤ o1) :
    Ctr l Z y8 prog_20_method_4_code 2 (some (.object "java/lang/Object")) ({ frames := 0, cells := 0, slots := 0, locals := 0 } : Room) #[(.ref o0)] h0 (fun v h L => v = some (.ref o2) ∧ Fr Z.heap.size L ∧ Keep h0 h [o0, o1] ∧ Exa Z h o0 "com/example/roundel/roundel/dag/ItemArray" ∧ Fld Z h o0 "com/example/roundel/roundel/dag/ItemArray" "items" "[Ljava/lang/Object;" (.ref o1) ∧ Fld Z h o0 "com/example/roundel/roundel/dag/ItemArray" "end" "I" (.int (3 : Int32)) ∧ Fld Z h o0 "com/example/roundel/roundel/dag/ItemArray" "first" "I" (.int (2 : Int32)) ∧ Arv Z h o1 k_o1 (.object "java/lang/Object") (16 : Int32) [.null, .null, (.ref o3), .null, .null, .null, .null, .null, .null, .null, .null, .null, .null, .null, .null, .null] .null) := by
  refine Ctr.body (plainFor_of_name pn_3) ?_
  intro p e s m below meth c T X hx hby hml hown hnm hret hlk hZ eT
  have hml : c.maxLocals = 2 := hml
  have hown : s.vm.findClass "com/example/roundel/roundel/dag/ItemArray" = some m.cls := hown
  have hnm : meth.name = "poll" := hnm
  have hret : meth.sig.returnType = (some (.object "java/lang/Object")) := hret
  refine Run.cast (show entryFrame m #[(.ref o0)] 2 = mkF m 0 #[.val (.ref o0), .unset] [] from by first | (simp [entryFrame, mkF, argsToLocals, Value.category]; done) | rfl) ?_
  have wd0 := wd
  obtain ⟨S_w_NO_ITEMS, E_w_NO_ITEMS, S_w_cache, E_w_cache, V_w_NO_ITEMS, S_w_high, B_w_cache⟩ := wd
  have wd := wd0
  have N : Fr Z.heap.size [] := Fr.nil _
  have KK : Keep h0 h0 [o0, o1] := Keep.refl h0 [o0, o1]
  refine q_aloadN (pc' := 1) X hx (hb hby d_prog_20_method_4_code_0) rfl rfl rfl ?_
  refine q_getF (pc' := 4) X hx hZ hown (hb hby d_prog_20_method_4_code_1) (host := "") (Or.inl (t31 hw)) eT F_first_o0 rfl ?_
  intro T X eT
  refine q_aloadN (pc' := 5) X hx (hb hby d_prog_20_method_4_code_4) rfl rfl rfl ?_
  refine q_getF (pc' := 8) X hx hZ hown (hb hby d_prog_20_method_4_code_5) (host := "") (Or.inl (t29 hw)) eT F_end_o0 rfl ?_
  intro T X eT
  refine q_icmpYes (pc' := 13) X hx (hb hby d_prog_20_method_4_code_8) (by decide) (by decide) (by decide) ?_
  refine q_aloadN (pc' := 14) X hx (hb hby d_prog_20_method_4_code_13) rfl rfl rfl ?_
  refine q_getF (pc' := 17) X hx hZ hown (hb hby d_prog_20_method_4_code_14) (host := "") (Or.inl (t18 hw)) eT F_items_o0 rfl ?_
  intro T X eT
  refine q_aloadN (pc' := 18) X hx (hb hby d_prog_20_method_4_code_17) rfl rfl rfl ?_
  refine q_getF (pc' := 21) X hx hZ hown (hb hby d_prog_20_method_4_code_18) (host := "") (Or.inl (t31 hw)) eT F_first_o0 rfl ?_
  intro T X eT
  refine q_aald (pc' := 22) (v := (.ref o2)) X hx hZ (hb hby d_prog_20_method_4_code_21) eT V_o1 rfl ⟨by decide, by decide⟩ rfl rfl ?_
  refine q_astoreN (pc' := 23) (l' := #[.val (.ref o0), .val (.ref o2)]) X hx (hb hby d_prog_20_method_4_code_22) rfl rfl rfl ?_
  refine q_aloadN (pc' := 24) X hx (hb hby d_prog_20_method_4_code_23) rfl rfl rfl ?_
  refine q_getF (pc' := 27) X hx hZ hown (hb hby d_prog_20_method_4_code_24) (host := "") (Or.inl (t18 hw)) eT F_items_o0 rfl ?_
  intro T X eT
  refine q_aloadN (pc' := 28) X hx (hb hby d_prog_20_method_4_code_27) rfl rfl rfl ?_
  refine q_dup (pc' := 29) X hx (hb hby d_prog_20_method_4_code_28) rfl rfl ?_
  refine q_getF (pc' := 32) X hx hZ hown (hb hby d_prog_20_method_4_code_29) (host := "") (Or.inl (t31 hw)) eT F_first_o0 rfl ?_
  intro T X eT
  refine q_dupX1 (pc' := 33) X hx (hb hby d_prog_20_method_4_code_32) rfl rfl rfl ?_
  refine q_iconst (pc' := 34) (z := (1 : Int32)) X hx (hb hby d_prog_20_method_4_code_33) rfl rfl ?_
  refine q_iadd (pc' := 35) (z := (2 : Int32)) X hx (hb hby d_prog_20_method_4_code_34) (by decide) rfl ?_
  refine q_putF (pc' := 38) X hx hZ hown (hb hby d_prog_20_method_4_code_35) (host := "") (Or.inl (t31 hw)) eT F_first_o0 E_o0 (Or.inl (t32 hw)) (t8 hw) (ty := .int) (by decide) rfl rfl rfl ?_
  intro T h_1 X eT Wx
  have N := Fr.snoc X N g_o0
  have O := ext_wr O Wx g_o0
  have KK := KK.wr Wx (Or.inl (List.mem_of_getElem? (i := 0) rfl))
  have ne_o2_o0 : o2 ≠ o0 := ne_exa E_o2 E_o0 (by decide)
  have ne_o3_o0 : o3 ≠ o0 := ne_exa E_o3 E_o0 (by decide)
  have ne_o1_o0 : o1 ≠ o0 := Ne.symm (Exa.neArv E_o0 V_o1 (t8 hw))
  have E_o2 := E_o2.wr Wx
  have F_value_o2 := F_value_o2.other Wx (Or.inl ne_o2_o0)
  have E_o3 := E_o3.wr Wx
  have F_value_o3 := F_value_o3.other Wx (Or.inl ne_o3_o0)
  have E_o0 := E_o0.wr Wx
  have F_items_o0 := F_items_o0.other Wx (Or.inr (slot_ne (Or.inl (t19 hw)) (Or.inl (t32 hw)) (by decide) (t := (.array (.object "java/lang/Object"))) (t' := .int) (by decide) (by decide)))
  have F_end_o0 := F_end_o0.other Wx (Or.inr (slot_ne (Or.inl (t30 hw)) (Or.inl (t32 hw)) (by decide) (t := .int) (t' := .int) (by decide) (by decide)))
  have F_first_o0 := F_first_o0.same Wx
  have V_o1 := V_o1.other Wx ne_o1_o0
  refine q_null (pc' := 39) X hx (hb hby d_prog_20_method_4_code_38) rfl ?_
  have ne_o2_o1 : o2 ≠ o1 := Exa.neArv E_o2 V_o1 (t48 hw)
  have ne_o3_o1 : o3 ≠ o1 := Exa.neArv E_o3 V_o1 (t48 hw)
  refine q_aast (pc' := 40) X hx hZ (hb hby d_prog_20_method_4_code_39) eT V_o1 rfl ⟨by decide, by decide⟩ (i := 1) rfl (Nat.le_of_ble_eq_true rfl) (fun _ _ _ => Or.inl rfl) rfl rfl ?_
  intro T h_2 X eT Wx V_o1'
  have N := Fr.snoc X N g_o1
  have O := ext_wr O Wx g_o1
  have KK := KK.wr Wx (Or.inl (List.mem_of_getElem? (i := 1) rfl))
  have E_o2 := E_o2.wr Wx
  have F_value_o2 := F_value_o2.other Wx (Or.inl ne_o2_o1)
  have E_o3 := E_o3.wr Wx
  have F_value_o3 := F_value_o3.other Wx (Or.inl ne_o3_o1)
  have E_o0 := E_o0.wr Wx
  have F_items_o0 := F_items_o0.other Wx (Or.inl (Ne.symm ne_o1_o0))
  have F_end_o0 := F_end_o0.other Wx (Or.inl (Ne.symm ne_o1_o0))
  have F_first_o0 := F_first_o0.other Wx (Or.inl (Ne.symm ne_o1_o0))
  have V_o1 : Arv Z h_2 o1 k_o1 (.object "java/lang/Object") (16 : Int32) [.null, .null, (.ref o3), .null, .null, .null, .null, .null, .null, .null, .null, .null, .null, .null, .null, .null] .null := V_o1'
  refine q_aloadN (pc' := 41) X hx (hb hby d_prog_20_method_4_code_40) rfl rfl rfl ?_
  refine Run.retR X hx hlk hret (hb hby d_prog_20_method_4_code_41) rfl rfl (by decide) (by decide) ?_
  try rw [eT]
  exact ⟨rfl, N, KK, E_o0, F_items_o0, F_end_o0, F_first_o0, V_o1⟩
set_option maxRecDepth 65536 in
set_option maxHeartbeats 40000000 in
theorem c55_size {l : Launch} {Z : State} {a0 : Array Value} (hw : ∀ d ∈ tables_1, d.before a0 Z = true) {w_NO_ITEMS : Addr} {w_cache : Addr} {k_w_NO_ITEMS : ClassId} {cl_w_cache : Cell} (wd : World Z w_NO_ITEMS w_cache k_w_NO_ITEMS cl_w_cache) (x0 : Int32) {h0 : Heap} (O : Ext Z.heap h0) {o0 : Addr} {o1 : Addr} {o2 : Addr} {k_o1 : ClassId} (E_o2 : Exa Z h0 o2 "java/lang/Integer") (F_value_o2 : Fld Z h0 o2 "java/lang/Integer" "value" "I" (.int x0)) (E_o0 : Exa Z h0 o0 "com/example/roundel/roundel/dag/ItemArray") (F_items_o0 : Fld Z h0 o0 "com/example/roundel/roundel/dag/ItemArray" "items" "[Ljava/lang/Object;" (.ref o1)) (F_end_o0 : Fld Z h0 o0 "com/example/roundel/roundel/dag/ItemArray" "end" "I" (.int (3 : Int32))) (F_first_o0 : Fld Z h0 o0 "com/example/roundel/roundel/dag/ItemArray" "first" "I" (.int (2 : Int32))) (V_o1 : Arv Z h0 o1 k_o1 (.object "java/lang/Object") (16 : Int32) [.null, .null, (.ref o2), .null, .null, .null, .null, .null, .null, .null, .null, .null, .null, .null, .null, .null] .null) (Ov_o1 : Ovr Z k_o1 "java/lang/Object") :
    Ctr l Z y5 prog_20_method_6_code 1 (some .int) ({ frames := 0, cells := 0, slots := 0, locals := 0 } : Room) #[(.ref o0)] h0 (fun v h L => v = some (.int (1 : Int32)) ∧ L = [] ∧ h = h0) := by
  refine Ctr.body (plainFor_of_name pn_3) ?_
  intro p e s m below meth c T X hx hby hml hown hnm hret hlk hZ eT
  have hml : c.maxLocals = 1 := hml
  have hown : s.vm.findClass "com/example/roundel/roundel/dag/ItemArray" = some m.cls := hown
  have hnm : meth.name = "size" := hnm
  have hret : meth.sig.returnType = (some .int) := hret
  refine Run.cast (show entryFrame m #[(.ref o0)] 1 = mkF m 0 #[.val (.ref o0)] [] from by first | (simp [entryFrame, mkF, argsToLocals, Value.category]; done) | rfl) ?_
  have wd0 := wd
  obtain ⟨S_w_NO_ITEMS, E_w_NO_ITEMS, S_w_cache, E_w_cache, V_w_NO_ITEMS, S_w_high, B_w_cache⟩ := wd
  have wd := wd0
  have N : Fr Z.heap.size [] := Fr.nil _
  have KK : Keep h0 h0 [] := Keep.refl h0 []
  refine q_aloadN (pc' := 1) X hx (hb hby d_prog_20_method_6_code_0) rfl rfl rfl ?_
  refine q_getF (pc' := 4) X hx hZ hown (hb hby d_prog_20_method_6_code_1) (host := "") (Or.inl (t29 hw)) eT F_end_o0 rfl ?_
  intro T X eT
  refine q_aloadN (pc' := 5) X hx (hb hby d_prog_20_method_6_code_4) rfl rfl rfl ?_
  refine q_getF (pc' := 8) X hx hZ hown (hb hby d_prog_20_method_6_code_5) (host := "") (Or.inl (t31 hw)) eT F_first_o0 rfl ?_
  intro T X eT
  refine q_isub (pc' := 9) (z := (1 : Int32)) X hx (hb hby d_prog_20_method_6_code_8) (by decide) rfl ?_
  refine Run.retI X hx hlk hret (hb hby d_prog_20_method_6_code_9) (by decide) (by decide) ?_
  try rw [eT]
  exact ⟨rfl, rfl, rfl⟩
set_option maxRecDepth 65536 in
set_option maxHeartbeats 40000000 in
theorem c56_peek {l : Launch} {Z : State} {a0 : Array Value} (hw : ∀ d ∈ tables_1, d.before a0 Z = true) {w_NO_ITEMS : Addr} {w_cache : Addr} {k_w_NO_ITEMS : ClassId} {cl_w_cache : Cell} (wd : World Z w_NO_ITEMS w_cache k_w_NO_ITEMS cl_w_cache) (x0 : Int32) {h0 : Heap} (O : Ext Z.heap h0) {o0 : Addr} {o1 : Addr} {o2 : Addr} {k_o1 : ClassId} (E_o2 : Exa Z h0 o2 "java/lang/Integer") (F_value_o2 : Fld Z h0 o2 "java/lang/Integer" "value" "I" (.int x0)) (E_o0 : Exa Z h0 o0 "com/example/roundel/roundel/dag/ItemArray") (F_items_o0 : Fld Z h0 o0 "com/example/roundel/roundel/dag/ItemArray" "items" "[Ljava/lang/Object;" (.ref o1)) (F_end_o0 : Fld Z h0 o0 "com/example/roundel/roundel/dag/ItemArray" "end" "I" (.int (3 : Int32))) (F_first_o0 : Fld Z h0 o0 "com/example/roundel/roundel/dag/ItemArray" "first" "I" (.int (2 : Int32))) (V_o1 : Arv Z h0 o1 k_o1 (.object "java/lang/Object") (16 : Int32) [.null, .null, (.ref o2), .null, .null, .null, .null, .null, .null, .null, .null, .null, .null, .null, .null, .null] .null) (Ov_o1 : Ovr Z k_o1 "java/lang/Object") :
    Ctr l Z y6 prog_20_method_3_code 1 (some (.object "java/lang/Object")) ({ frames := 0, cells := 0, slots := 0, locals := 0 } : Room) #[(.ref o0)] h0 (fun v h L => v = some (.ref o2) ∧ L = [] ∧ h = h0) := by
  refine Ctr.body (plainFor_of_name pn_3) ?_
  intro p e s m below meth c T X hx hby hml hown hnm hret hlk hZ eT
  have hml : c.maxLocals = 1 := hml
  have hown : s.vm.findClass "com/example/roundel/roundel/dag/ItemArray" = some m.cls := hown
  have hnm : meth.name = "peek" := hnm
  have hret : meth.sig.returnType = (some (.object "java/lang/Object")) := hret
  refine Run.cast (show entryFrame m #[(.ref o0)] 1 = mkF m 0 #[.val (.ref o0)] [] from by first | (simp [entryFrame, mkF, argsToLocals, Value.category]; done) | rfl) ?_
  have wd0 := wd
  obtain ⟨S_w_NO_ITEMS, E_w_NO_ITEMS, S_w_cache, E_w_cache, V_w_NO_ITEMS, S_w_high, B_w_cache⟩ := wd
  have wd := wd0
  have N : Fr Z.heap.size [] := Fr.nil _
  have KK : Keep h0 h0 [] := Keep.refl h0 []
  refine q_aloadN (pc' := 1) X hx (hb hby d_prog_20_method_3_code_0) rfl rfl rfl ?_
  refine q_getF (pc' := 4) X hx hZ hown (hb hby d_prog_20_method_3_code_1) (host := "") (Or.inl (t31 hw)) eT F_first_o0 rfl ?_
  intro T X eT
  refine q_aloadN (pc' := 5) X hx (hb hby d_prog_20_method_3_code_4) rfl rfl rfl ?_
  refine q_getF (pc' := 8) X hx hZ hown (hb hby d_prog_20_method_3_code_5) (host := "") (Or.inl (t29 hw)) eT F_end_o0 rfl ?_
  intro T X eT
  refine q_icmpYes (pc' := 15) X hx (hb hby d_prog_20_method_3_code_8) (by decide) (by decide) (by decide) ?_
  refine q_aloadN (pc' := 16) X hx (hb hby d_prog_20_method_3_code_15) rfl rfl rfl ?_
  refine q_getF (pc' := 19) X hx hZ hown (hb hby d_prog_20_method_3_code_16) (host := "") (Or.inl (t18 hw)) eT F_items_o0 rfl ?_
  intro T X eT
  refine q_aloadN (pc' := 20) X hx (hb hby d_prog_20_method_3_code_19) rfl rfl rfl ?_
  refine q_getF (pc' := 23) X hx hZ hown (hb hby d_prog_20_method_3_code_20) (host := "") (Or.inl (t31 hw)) eT F_first_o0 rfl ?_
  intro T X eT
  refine q_aald (pc' := 24) (v := (.ref o2)) X hx hZ (hb hby d_prog_20_method_3_code_23) eT V_o1 rfl ⟨by decide, by decide⟩ rfl rfl ?_
  refine Run.retR X hx hlk hret (hb hby d_prog_20_method_3_code_24) rfl rfl (by decide) (by decide) ?_
  try rw [eT]
  exact ⟨rfl, rfl, rfl⟩
theorem d_method_2_code_21 : decode method_2_code 21 = .ok (.aload 4, 2) := by decide +kernel
theorem d_method_2_code_23 : decode method_2_code 23 = .ok (.areturn, 1) := by decide +kernel
set_option maxRecDepth 65536 in
set_option maxHeartbeats 40000000 in
theorem c57_expected {l : Launch} {Z : State} {a0 : Array Value} (hw : ∀ d ∈ tables_1, d.before a0 Z = true) {w_NO_ITEMS : Addr} {w_cache : Addr} {k_w_NO_ITEMS : ClassId} {cl_w_cache : Cell} (wd : World Z w_NO_ITEMS w_cache k_w_NO_ITEMS cl_w_cache) (x0 : Int32) (x1 : Int32) (x2 : Int32) {h0 : Heap} (O : Ext Z.heap h0) {o0 : Addr} {o1 : Addr} {o2 : Addr} (E_o0 : Exa Z h0 o0 "java/lang/Integer") (F_value_o0 : Fld Z h0 o0 "java/lang/Integer" "value" "I" (.int x0)) (E_o1 : Exa Z h0 o1 "java/lang/Integer") (F_value_o1 : Fld Z h0 o1 "java/lang/Integer" "value" "I" (.int x1)) (E_o2 : Exa Z h0 o2 "java/lang/Integer") (F_value_o2 : Fld Z h0 o2 "java/lang/Integer" "value" "I" (.int x2)) :
    Ctr l Z y7 method_2_code 5 (some (.object "java/lang/Object")) ({ frames := 0, cells := 0, slots := 0, locals := 0 } : Room) #[(.int (3 : Int32)), (.int (3 : Int32)), (.ref o0), (.ref o1), (.ref o2)] h0 (fun v h L => v = some (.ref o2) ∧ L = [] ∧ h = h0) := by
  refine Ctr.body (plainFor_of_name pn_2) ?_
  intro p e s m below meth c T X hx hby hml hown hnm hret hlk hZ eT
  have hml : c.maxLocals = 5 := hml
  have hown : s.vm.findClass "com/example/roundel/roundel/dag/ItemArrayPollPinLaw" = some m.cls := hown
  have hnm : meth.name = "expected" := hnm
  have hret : meth.sig.returnType = (some (.object "java/lang/Object")) := hret
  refine Run.cast (show entryFrame m #[(.int (3 : Int32)), (.int (3 : Int32)), (.ref o0), (.ref o1), (.ref o2)] 5 = mkF m 0 #[.val (.int (3 : Int32)), .val (.int (3 : Int32)), .val (.ref o0), .val (.ref o1), .val (.ref o2)] [] from by first | (simp [entryFrame, mkF, argsToLocals, Value.category]; done) | rfl) ?_
  have wd0 := wd
  obtain ⟨S_w_NO_ITEMS, E_w_NO_ITEMS, S_w_cache, E_w_cache, V_w_NO_ITEMS, S_w_high, B_w_cache⟩ := wd
  have wd := wd0
  have N : Fr Z.heap.size [] := Fr.nil _
  have KK : Keep h0 h0 [] := Keep.refl h0 []
  refine q_iloadN (pc' := 1) X hx (hb hby d_method_2_code_0) rfl rfl ?_
  refine q_iloadN (pc' := 2) X hx (hb hby d_method_2_code_1) rfl rfl ?_
  refine q_icmpYes (pc' := 7) X hx (hb hby d_method_2_code_2) (by decide) (by decide) (by decide) ?_
  refine q_iloadN (pc' := 8) X hx (hb hby d_method_2_code_7) rfl rfl ?_
  refine q_iconst (pc' := 9) (z := (1 : Int32)) X hx (hb hby d_method_2_code_8) rfl rfl ?_
  refine q_icmpYes (pc' := 14) X hx (hb hby d_method_2_code_9) (by decide) (by decide) (by decide) ?_
  refine q_iloadN (pc' := 15) X hx (hb hby d_method_2_code_14) rfl rfl ?_
  refine q_iconst (pc' := 16) (z := (2 : Int32)) X hx (hb hby d_method_2_code_15) rfl rfl ?_
  refine q_icmpYes (pc' := 21) X hx (hb hby d_method_2_code_16) (by decide) (by decide) (by decide) ?_
  refine q_aload (pc' := 23) X hx (hb hby d_method_2_code_21) rfl rfl rfl ?_
  refine Run.retR X hx hlk hret (hb hby d_method_2_code_23) rfl rfl (by decide) (by decide) ?_
  try rw [eT]
  exact ⟨rfl, rfl, rfl⟩
set_option maxRecDepth 65536 in
set_option maxHeartbeats 40000000 in
theorem c58_poll {l : Launch} {Z : State} {a0 : Array Value} (hw : ∀ d ∈ tables_1, d.before a0 Z = true) {w_NO_ITEMS : Addr} {w_cache : Addr} {k_w_NO_ITEMS : ClassId} {cl_w_cache : Cell} (wd : World Z w_NO_ITEMS w_cache k_w_NO_ITEMS cl_w_cache) (x0 : Int32) {h0 : Heap} (O : Ext Z.heap h0) {o0 : Addr} {o1 : Addr} {o2 : Addr} {k_o1 : ClassId} (E_o2 : Exa Z h0 o2 "java/lang/Integer") (F_value_o2 : Fld Z h0 o2 "java/lang/Integer" "value" "I" (.int x0)) (E_o0 : Exa Z h0 o0 "com/example/roundel/roundel/dag/ItemArray") (F_items_o0 : Fld Z h0 o0 "com/example/roundel/roundel/dag/ItemArray" "items" "[Ljava/lang/Object;" (.ref o1)) (F_end_o0 : Fld Z h0 o0 "com/example/roundel/roundel/dag/ItemArray" "end" "I" (.int (3 : Int32))) (F_first_o0 : Fld Z h0 o0 "com/example/roundel/roundel/dag/ItemArray" "first" "I" (.int (2 : Int32))) (V_o1 : Arv Z h0 o1 k_o1 (.object "java/lang/Object") (16 : Int32) [.null, .null, (.ref o2), .null, .null, .null, .null, .null, .null, .null, .null, .null, .null, .null, .null, .null] .null) (Ov_o1 : Ovr Z k_o1 "java/lang/Object") (g_o0 : Z.heap.size ≤ o0) (g_o1 : Z.heap.size ≤ o1) :
    Ctr l Z y8 prog_20_method_4_code 2 (some (.object "java/lang/Object")) ({ frames := 0, cells := 0, slots := 0, locals := 0 } : Room) #[(.ref o0)] h0 (fun v h L => v = some (.ref o2) ∧ Fr Z.heap.size L ∧ Keep h0 h [o0, o1] ∧ Exa Z h o0 "com/example/roundel/roundel/dag/ItemArray" ∧ Fld Z h o0 "com/example/roundel/roundel/dag/ItemArray" "items" "[Ljava/lang/Object;" (.ref o1) ∧ Fld Z h o0 "com/example/roundel/roundel/dag/ItemArray" "end" "I" (.int (3 : Int32)) ∧ Fld Z h o0 "com/example/roundel/roundel/dag/ItemArray" "first" "I" (.int (3 : Int32)) ∧ Arv Z h o1 k_o1 (.object "java/lang/Object") (16 : Int32) [.null, .null, .null, .null, .null, .null, .null, .null, .null, .null, .null, .null, .null, .null, .null, .null] .null) := by
  refine Ctr.body (plainFor_of_name pn_3) ?_
  intro p e s m below meth c T X hx hby hml hown hnm hret hlk hZ eT
  have hml : c.maxLocals = 2 := hml
  have hown : s.vm.findClass "com/example/roundel/roundel/dag/ItemArray" = some m.cls := hown
  have hnm : meth.name = "poll" := hnm
  have hret : meth.sig.returnType = (some (.object "java/lang/Object")) := hret
  refine Run.cast (show entryFrame m #[(.ref o0)] 2 = mkF m 0 #[.val (.ref o0), .unset] [] from by first | (simp [entryFrame, mkF, argsToLocals, Value.category]; done) | rfl) ?_
  have wd0 := wd
  obtain ⟨S_w_NO_ITEMS, E_w_NO_ITEMS, S_w_cache, E_w_cache, V_w_NO_ITEMS, S_w_high, B_w_cache⟩ := wd
  have wd := wd0
  have N : Fr Z.heap.size [] := Fr.nil _
  have KK : Keep h0 h0 [o0, o1] := Keep.refl h0 [o0, o1]
  refine q_aloadN (pc' := 1) X hx (hb hby d_prog_20_method_4_code_0) rfl rfl rfl ?_
  refine q_getF (pc' := 4) X hx hZ hown (hb hby d_prog_20_method_4_code_1) (host := "") (Or.inl (t31 hw)) eT F_first_o0 rfl ?_
  intro T X eT
  refine q_aloadN (pc' := 5) X hx (hb hby d_prog_20_method_4_code_4) rfl rfl rfl ?_
  refine q_getF (pc' := 8) X hx hZ hown (hb hby d_prog_20_method_4_code_5) (host := "") (Or.inl (t29 hw)) eT F_end_o0 rfl ?_
  intro T X eT
  refine q_icmpYes (pc' := 13) X hx (hb hby d_prog_20_method_4_code_8) (by decide) (by decide) (by decide) ?_
  refine q_aloadN (pc' := 14) X hx (hb hby d_prog_20_method_4_code_13) rfl rfl rfl ?_
  refine q_getF (pc' := 17) X hx hZ hown (hb hby d_prog_20_method_4_code_14) (host := "") (Or.inl (t18 hw)) eT F_items_o0 rfl ?_
  intro T X eT
  refine q_aloadN (pc' := 18) X hx (hb hby d_prog_20_method_4_code_17) rfl rfl rfl ?_
  refine q_getF (pc' := 21) X hx hZ hown (hb hby d_prog_20_method_4_code_18) (host := "") (Or.inl (t31 hw)) eT F_first_o0 rfl ?_
  intro T X eT
  refine q_aald (pc' := 22) (v := (.ref o2)) X hx hZ (hb hby d_prog_20_method_4_code_21) eT V_o1 rfl ⟨by decide, by decide⟩ rfl rfl ?_
  refine q_astoreN (pc' := 23) (l' := #[.val (.ref o0), .val (.ref o2)]) X hx (hb hby d_prog_20_method_4_code_22) rfl rfl rfl ?_
  refine q_aloadN (pc' := 24) X hx (hb hby d_prog_20_method_4_code_23) rfl rfl rfl ?_
  refine q_getF (pc' := 27) X hx hZ hown (hb hby d_prog_20_method_4_code_24) (host := "") (Or.inl (t18 hw)) eT F_items_o0 rfl ?_
  intro T X eT
  refine q_aloadN (pc' := 28) X hx (hb hby d_prog_20_method_4_code_27) rfl rfl rfl ?_
  refine q_dup (pc' := 29) X hx (hb hby d_prog_20_method_4_code_28) rfl rfl ?_
  refine q_getF (pc' := 32) X hx hZ hown (hb hby d_prog_20_method_4_code_29) (host := "") (Or.inl (t31 hw)) eT F_first_o0 rfl ?_
  intro T X eT
  refine q_dupX1 (pc' := 33) X hx (hb hby d_prog_20_method_4_code_32) rfl rfl rfl ?_
  refine q_iconst (pc' := 34) (z := (1 : Int32)) X hx (hb hby d_prog_20_method_4_code_33) rfl rfl ?_
  refine q_iadd (pc' := 35) (z := (3 : Int32)) X hx (hb hby d_prog_20_method_4_code_34) (by decide) rfl ?_
  refine q_putF (pc' := 38) X hx hZ hown (hb hby d_prog_20_method_4_code_35) (host := "") (Or.inl (t31 hw)) eT F_first_o0 E_o0 (Or.inl (t32 hw)) (t8 hw) (ty := .int) (by decide) rfl rfl rfl ?_
  intro T h_1 X eT Wx
  have N := Fr.snoc X N g_o0
  have O := ext_wr O Wx g_o0
  have KK := KK.wr Wx (Or.inl (List.mem_of_getElem? (i := 0) rfl))
  have ne_o2_o0 : o2 ≠ o0 := ne_exa E_o2 E_o0 (by decide)
  have ne_o1_o0 : o1 ≠ o0 := Ne.symm (Exa.neArv E_o0 V_o1 (t8 hw))
  have E_o2 := E_o2.wr Wx
  have F_value_o2 := F_value_o2.other Wx (Or.inl ne_o2_o0)
  have E_o0 := E_o0.wr Wx
  have F_items_o0 := F_items_o0.other Wx (Or.inr (slot_ne (Or.inl (t19 hw)) (Or.inl (t32 hw)) (by decide) (t := (.array (.object "java/lang/Object"))) (t' := .int) (by decide) (by decide)))
  have F_end_o0 := F_end_o0.other Wx (Or.inr (slot_ne (Or.inl (t30 hw)) (Or.inl (t32 hw)) (by decide) (t := .int) (t' := .int) (by decide) (by decide)))
  have F_first_o0 := F_first_o0.same Wx
  have V_o1 := V_o1.other Wx ne_o1_o0
  refine q_null (pc' := 39) X hx (hb hby d_prog_20_method_4_code_38) rfl ?_
  have ne_o2_o1 : o2 ≠ o1 := Exa.neArv E_o2 V_o1 (t48 hw)
  refine q_aast (pc' := 40) X hx hZ (hb hby d_prog_20_method_4_code_39) eT V_o1 rfl ⟨by decide, by decide⟩ (i := 2) rfl (Nat.le_of_ble_eq_true rfl) (fun _ _ _ => Or.inl rfl) rfl rfl ?_
  intro T h_2 X eT Wx V_o1'
  have N := Fr.snoc X N g_o1
  have O := ext_wr O Wx g_o1
  have KK := KK.wr Wx (Or.inl (List.mem_of_getElem? (i := 1) rfl))
  have E_o2 := E_o2.wr Wx
  have F_value_o2 := F_value_o2.other Wx (Or.inl ne_o2_o1)
  have E_o0 := E_o0.wr Wx
  have F_items_o0 := F_items_o0.other Wx (Or.inl (Ne.symm ne_o1_o0))
  have F_end_o0 := F_end_o0.other Wx (Or.inl (Ne.symm ne_o1_o0))
  have F_first_o0 := F_first_o0.other Wx (Or.inl (Ne.symm ne_o1_o0))
  have V_o1 : Arv Z h_2 o1 k_o1 (.object "java/lang/Object") (16 : Int32) [.null, .null, .null, .null, .null, .null, .null, .null, .null, .null, .null, .null, .null, .null, .null, .null] .null := V_o1'
  refine q_aloadN (pc' := 41) X hx (hb hby d_prog_20_method_4_code_40) rfl rfl rfl ?_
  refine Run.retR X hx hlk hret (hb hby d_prog_20_method_4_code_41) rfl rfl (by decide) (by decide) ?_
  try rw [eT]
  exact ⟨rfl, N, KK, E_o0, F_items_o0, F_end_o0, F_first_o0, V_o1⟩
set_option maxRecDepth 65536 in
set_option maxHeartbeats 40000000 in
theorem c59_size {l : Launch} {Z : State} {a0 : Array Value} (hw : ∀ d ∈ tables_1, d.before a0 Z = true) {w_NO_ITEMS : Addr} {w_cache : Addr} {k_w_NO_ITEMS : ClassId} {cl_w_cache : Cell} (wd : World Z w_NO_ITEMS w_cache k_w_NO_ITEMS cl_w_cache)  {h0 : Heap} (O : Ext Z.heap h0) {o0 : Addr} {o1 : Addr} {k_o1 : ClassId} (E_o0 : Exa Z h0 o0 "com/example/roundel/roundel/dag/ItemArray") (F_items_o0 : Fld Z h0 o0 "com/example/roundel/roundel/dag/ItemArray" "items" "[Ljava/lang/Object;" (.ref o1)) (F_end_o0 : Fld Z h0 o0 "com/example/roundel/roundel/dag/ItemArray" "end" "I" (.int (3 : Int32))) (F_first_o0 : Fld Z h0 o0 "com/example/roundel/roundel/dag/ItemArray" "first" "I" (.int (3 : Int32))) (V_o1 : Arv Z h0 o1 k_o1 (.object "java/lang/Object") (16 : Int32) [.null, .null, .null, .null, .null, .null, .null, .null, .null, .null, .null, .null, .null, .null, .null, .null] .null) (Ov_o1 : Ovr Z k_o1 "java/lang/Object") :
    Ctr l Z y5 prog_20_method_6_code 1 (some .int) ({ frames := 0, cells := 0, slots := 0, locals := 0 } : Room) #[(.ref o0)] h0 (fun v h L => v = some (.int (0 : Int32)) ∧ L = [] ∧ h = h0) := by
  refine Ctr.body (plainFor_of_name pn_3) ?_
  intro p e s m below meth c T X hx hby hml hown hnm hret hlk hZ eT
  have hml : c.maxLocals = 1 := hml
  have hown : s.vm.findClass "com/example/roundel/roundel/dag/ItemArray" = some m.cls := hown
  have hnm : meth.name = "size" := hnm
  have hret : meth.sig.returnType = (some .int) := hret
  refine Run.cast (show entryFrame m #[(.ref o0)] 1 = mkF m 0 #[.val (.ref o0)] [] from by first | (simp [entryFrame, mkF, argsToLocals, Value.category]; done) | rfl) ?_
  have wd0 := wd
  obtain ⟨S_w_NO_ITEMS, E_w_NO_ITEMS, S_w_cache, E_w_cache, V_w_NO_ITEMS, S_w_high, B_w_cache⟩ := wd
  have wd := wd0
  have N : Fr Z.heap.size [] := Fr.nil _
  have KK : Keep h0 h0 [] := Keep.refl h0 []
  refine q_aloadN (pc' := 1) X hx (hb hby d_prog_20_method_6_code_0) rfl rfl rfl ?_
  refine q_getF (pc' := 4) X hx hZ hown (hb hby d_prog_20_method_6_code_1) (host := "") (Or.inl (t29 hw)) eT F_end_o0 rfl ?_
  intro T X eT
  refine q_aloadN (pc' := 5) X hx (hb hby d_prog_20_method_6_code_4) rfl rfl rfl ?_
  refine q_getF (pc' := 8) X hx hZ hown (hb hby d_prog_20_method_6_code_5) (host := "") (Or.inl (t31 hw)) eT F_first_o0 rfl ?_
  intro T X eT
  refine q_isub (pc' := 9) (z := (0 : Int32)) X hx (hb hby d_prog_20_method_6_code_8) (by decide) rfl ?_
  refine Run.retI X hx hlk hret (hb hby d_prog_20_method_6_code_9) (by decide) (by decide) ?_
  try rw [eT]
  exact ⟨rfl, rfl, rfl⟩
set_option maxRecDepth 65536 in
set_option maxHeartbeats 40000000 in
theorem c60_peek {l : Launch} {Z : State} {a0 : Array Value} (hw : ∀ d ∈ tables_1, d.before a0 Z = true) {w_NO_ITEMS : Addr} {w_cache : Addr} {k_w_NO_ITEMS : ClassId} {cl_w_cache : Cell} (wd : World Z w_NO_ITEMS w_cache k_w_NO_ITEMS cl_w_cache)  {h0 : Heap} (O : Ext Z.heap h0) {o0 : Addr} {o1 : Addr} {k_o1 : ClassId} (E_o0 : Exa Z h0 o0 "com/example/roundel/roundel/dag/ItemArray") (F_items_o0 : Fld Z h0 o0 "com/example/roundel/roundel/dag/ItemArray" "items" "[Ljava/lang/Object;" (.ref o1)) (F_end_o0 : Fld Z h0 o0 "com/example/roundel/roundel/dag/ItemArray" "end" "I" (.int (3 : Int32))) (F_first_o0 : Fld Z h0 o0 "com/example/roundel/roundel/dag/ItemArray" "first" "I" (.int (3 : Int32))) (V_o1 : Arv Z h0 o1 k_o1 (.object "java/lang/Object") (16 : Int32) [.null, .null, .null, .null, .null, .null, .null, .null, .null, .null, .null, .null, .null, .null, .null, .null] .null) (Ov_o1 : Ovr Z k_o1 "java/lang/Object") :
    Ctr l Z y6 prog_20_method_3_code 1 (some (.object "java/lang/Object")) ({ frames := 0, cells := 0, slots := 0, locals := 0 } : Room) #[(.ref o0)] h0 (fun v h L => v = some .null ∧ L = [] ∧ h = h0) := by
  refine Ctr.body (plainFor_of_name pn_3) ?_
  intro p e s m below meth c T X hx hby hml hown hnm hret hlk hZ eT
  have hml : c.maxLocals = 1 := hml
  have hown : s.vm.findClass "com/example/roundel/roundel/dag/ItemArray" = some m.cls := hown
  have hnm : meth.name = "peek" := hnm
  have hret : meth.sig.returnType = (some (.object "java/lang/Object")) := hret
  refine Run.cast (show entryFrame m #[(.ref o0)] 1 = mkF m 0 #[.val (.ref o0)] [] from by first | (simp [entryFrame, mkF, argsToLocals, Value.category]; done) | rfl) ?_
  have wd0 := wd
  obtain ⟨S_w_NO_ITEMS, E_w_NO_ITEMS, S_w_cache, E_w_cache, V_w_NO_ITEMS, S_w_high, B_w_cache⟩ := wd
  have wd := wd0
  have N : Fr Z.heap.size [] := Fr.nil _
  have KK : Keep h0 h0 [] := Keep.refl h0 []
  refine q_aloadN (pc' := 1) X hx (hb hby d_prog_20_method_3_code_0) rfl rfl rfl ?_
  refine q_getF (pc' := 4) X hx hZ hown (hb hby d_prog_20_method_3_code_1) (host := "") (Or.inl (t31 hw)) eT F_first_o0 rfl ?_
  intro T X eT
  refine q_aloadN (pc' := 5) X hx (hb hby d_prog_20_method_3_code_4) rfl rfl rfl ?_
  refine q_getF (pc' := 8) X hx hZ hown (hb hby d_prog_20_method_3_code_5) (host := "") (Or.inl (t29 hw)) eT F_end_o0 rfl ?_
  intro T X eT
  refine q_icmpNo (pc' := 11) X hx (hb hby d_prog_20_method_3_code_8) (by decide) rfl ?_
  refine q_null (pc' := 12) X hx (hb hby d_prog_20_method_3_code_11) rfl ?_
  refine q_goto (pc' := 24) X hx (hb hby d_prog_20_method_3_code_12) (by decide) (by decide) ?_
  refine Run.retR X hx hlk hret (hb hby d_prog_20_method_3_code_24) rfl rfl (by decide) (by decide) ?_
  try rw [eT]
  exact ⟨rfl, rfl, rfl⟩
set_option maxRecDepth 65536 in
set_option maxHeartbeats 40000000 in
theorem c61_expected {l : Launch} {Z : State} {a0 : Array Value} (hw : ∀ d ∈ tables_1, d.before a0 Z = true) {w_NO_ITEMS : Addr} {w_cache : Addr} {k_w_NO_ITEMS : ClassId} {cl_w_cache : Cell} (wd : World Z w_NO_ITEMS w_cache k_w_NO_ITEMS cl_w_cache) (x0 : Int32) (x1 : Int32) (x2 : Int32) {h0 : Heap} (O : Ext Z.heap h0) {o0 : Addr} {o1 : Addr} {o2 : Addr} (E_o0 : Exa Z h0 o0 "java/lang/Integer") (F_value_o0 : Fld Z h0 o0 "java/lang/Integer" "value" "I" (.int x0)) (E_o1 : Exa Z h0 o1 "java/lang/Integer") (F_value_o1 : Fld Z h0 o1 "java/lang/Integer" "value" "I" (.int x1)) (E_o2 : Exa Z h0 o2 "java/lang/Integer") (F_value_o2 : Fld Z h0 o2 "java/lang/Integer" "value" "I" (.int x2)) :
    Ctr l Z y7 method_2_code 5 (some (.object "java/lang/Object")) ({ frames := 0, cells := 0, slots := 0, locals := 0 } : Room) #[(.int (4 : Int32)), (.int (3 : Int32)), (.ref o0), (.ref o1), (.ref o2)] h0 (fun v h L => v = some .null ∧ L = [] ∧ h = h0) := by
  refine Ctr.body (plainFor_of_name pn_2) ?_
  intro p e s m below meth c T X hx hby hml hown hnm hret hlk hZ eT
  have hml : c.maxLocals = 5 := hml
  have hown : s.vm.findClass "com/example/roundel/roundel/dag/ItemArrayPollPinLaw" = some m.cls := hown
  have hnm : meth.name = "expected" := hnm
  have hret : meth.sig.returnType = (some (.object "java/lang/Object")) := hret
  refine Run.cast (show entryFrame m #[(.int (4 : Int32)), (.int (3 : Int32)), (.ref o0), (.ref o1), (.ref o2)] 5 = mkF m 0 #[.val (.int (4 : Int32)), .val (.int (3 : Int32)), .val (.ref o0), .val (.ref o1), .val (.ref o2)] [] from by first | (simp [entryFrame, mkF, argsToLocals, Value.category]; done) | rfl) ?_
  have wd0 := wd
  obtain ⟨S_w_NO_ITEMS, E_w_NO_ITEMS, S_w_cache, E_w_cache, V_w_NO_ITEMS, S_w_high, B_w_cache⟩ := wd
  have wd := wd0
  have N : Fr Z.heap.size [] := Fr.nil _
  have KK : Keep h0 h0 [] := Keep.refl h0 []
  refine q_iloadN (pc' := 1) X hx (hb hby d_method_2_code_0) rfl rfl ?_
  refine q_iloadN (pc' := 2) X hx (hb hby d_method_2_code_1) rfl rfl ?_
  refine q_icmpNo (pc' := 5) X hx (hb hby d_method_2_code_2) (by decide) rfl ?_
  refine q_null (pc' := 6) X hx (hb hby d_method_2_code_5) rfl ?_
  refine Run.retR X hx hlk hret (hb hby d_method_2_code_6) rfl rfl (by decide) (by decide) ?_
  try rw [eT]
  exact ⟨rfl, rfl, rfl⟩
set_option maxRecDepth 65536 in
set_option maxHeartbeats 40000000 in
theorem law_all {l : Launch} {Z : State} {a0 : Array Value} (hw : ∀ d ∈ tables_1, d.before a0 Z = true) {w_NO_ITEMS : Addr} {w_cache : Addr} {k_w_NO_ITEMS : ClassId} {cl_w_cache : Cell} (wd : World Z w_NO_ITEMS w_cache k_w_NO_ITEMS cl_w_cache) (p1 : Int32) (p2 : Int32) (p3 : Int32) (p4 : Int32) {h0 : Heap} (O : Ext Z.heap h0) :
    Ctr l Z x code maxLocals ret room_1 #[(.int p1), (.int p2), (.int p3), (.int p4)] h0 (fun v h L => v = some (.int (1 : Int32)) ∧ Fr Z.heap.size L) := by
  refine Ctr.body (plainFor_of_name pn_2) ?_
  intro p e s m below meth c T X hx hby hml hown hnm hret hlk hZ eT
  have hml : c.maxLocals = 13 := hml
  have hown : s.vm.findClass "com/example/roundel/roundel/dag/ItemArrayPollPinLaw" = some m.cls := hown
  have hnm : meth.name = "law" := hnm
  have hret : meth.sig.returnType = (some .boolean) := hret
  refine Run.cast (show entryFrame m #[(.int p1), (.int p2), (.int p3), (.int p4)] maxLocals = mkF m 0 #[.val (.int p1), .val (.int p2), .val (.int p3), .val (.int p4), .unset, .unset, .unset, .unset, .unset, .unset, .unset, .unset, .unset] [] from by first | (simp [entryFrame, mkF, argsToLocals, Value.category, maxLocals]; done) | rfl) ?_
  have wd0 := wd
  obtain ⟨S_w_NO_ITEMS, E_w_NO_ITEMS, S_w_cache, E_w_cache, V_w_NO_ITEMS, S_w_high, B_w_cache⟩ := wd
  have wd := wd0
  have N : Fr Z.heap.size [] := Fr.nil _
  refine q_iloadN (pc' := 1) X hx (hb hby at_0) rfl rfl ?_
  refine q_iconst (pc' := 2) (z := (3 : Int32)) X hx (hb hby at_1) rfl rfl ?_
  refine q_iand (pc' := 3) (z := (p1 &&& (3 : Int32))) X hx (hb hby at_2) rfl rfl ?_
  refine q_istore (pc' := 5) (l' := #[.val (.int p1), .val (.int p2), .val (.int p3), .val (.int p4), .val (.int (p1 &&& (3 : Int32))), .unset, .unset, .unset, .unset, .unset, .unset, .unset, .unset]) X hx (hb hby at_3) rfl rfl ?_
  refine q_iloadN (pc' := 6) X hx (hb hby at_5) rfl rfl ?_
  refine q_iconst (pc' := 7) (z := (2 : Int32)) X hx (hb hby at_6) rfl rfl ?_
  refine q_iushr (pc' := 8) (z := ((p1.toUInt32 >>> ((2 : Int32) &&& 31).toUInt32).toInt32)) X hx (hb hby at_7) rfl rfl ?_
  refine q_iconst (pc' := 9) (z := (3 : Int32)) X hx (hb hby at_8) rfl rfl ?_
  refine q_iand (pc' := 10) (z := (((p1.toUInt32 >>> ((2 : Int32) &&& 31).toUInt32).toInt32) &&& (3 : Int32))) X hx (hb hby at_9) rfl rfl ?_
  refine q_istore (pc' := 12) (l' := #[.val (.int p1), .val (.int p2), .val (.int p3), .val (.int p4), .val (.int (p1 &&& (3 : Int32))), .val (.int (((p1.toUInt32 >>> ((2 : Int32) &&& 31).toUInt32).toInt32) &&& (3 : Int32))), .unset, .unset, .unset, .unset, .unset, .unset, .unset]) X hx (hb hby at_10) rfl rfl ?_
  refine q_iloadN (pc' := 13) X hx (hb hby at_12) rfl rfl ?_
  refine q_callC (pc' := 16) (y := y2) (rest := []) X hx hZ hown (hb hby at_13) (t0 hw) (t1 hw) (t2 hw) (t3 hw) (by decide) eT [(.int p2)] (own_valueOf hw wd p2 O) (by rw [hml]; rfl) (lenOf pd_2 rfl) (W := 0) rfl (by decide) (by decide) (by decide) (by decide) rfl ?_
  rintro _ T _ X ⟨r_1, rfl, NL, KL, E_r_1, F_value_r_1⟩
  have N := N.app NL
  obtain ⟨h_2, eT⟩ : ∃ z, T.heap = z := ⟨_, rfl⟩
  rw [eT] at KL E_r_1 F_value_r_1
  have O := ext_keep O KL all0
  show Run p e below _ (T.setTop (mkF m 16 _ [(.ref r_1)]))
  refine q_astore (pc' := 18) (l' := #[.val (.int p1), .val (.int p2), .val (.int p3), .val (.int p4), .val (.int (p1 &&& (3 : Int32))), .val (.int (((p1.toUInt32 >>> ((2 : Int32) &&& 31).toUInt32).toInt32) &&& (3 : Int32))), .val (.ref r_1), .unset, .unset, .unset, .unset, .unset, .unset]) X hx (hb hby at_16) rfl rfl rfl ?_
  refine q_iloadN (pc' := 19) X hx (hb hby at_18) rfl rfl ?_
  refine q_callC (pc' := 22) (y := y2) (rest := []) X hx hZ hown (hb hby at_19) (t0 hw) (t1 hw) (t2 hw) (t3 hw) (by decide) eT [(.int p3)] (own_valueOf hw wd p3 O) (by rw [hml]; rfl) (lenOf pd_2 rfl) (W := 0) rfl (by decide) (by decide) (by decide) (by decide) rfl ?_
  rintro _ T _ X ⟨r_3, rfl, NL, KL, E_r_3, F_value_r_3⟩
  have N := N.app NL
  obtain ⟨h_4, eT⟩ : ∃ z, T.heap = z := ⟨_, rfl⟩
  rw [eT] at KL E_r_3 F_value_r_3
  have O := ext_keep O KL all0
  have E_r_1 := E_r_1.keep KL
  have F_value_r_1 := F_value_r_1.keep KL nin0
  show Run p e below _ (T.setTop (mkF m 22 _ [(.ref r_3)]))
  refine q_astore (pc' := 24) (l' := #[.val (.int p1), .val (.int p2), .val (.int p3), .val (.int p4), .val (.int (p1 &&& (3 : Int32))), .val (.int (((p1.toUInt32 >>> ((2 : Int32) &&& 31).toUInt32).toInt32) &&& (3 : Int32))), .val (.ref r_1), .val (.ref r_3), .unset, .unset, .unset, .unset, .unset]) X hx (hb hby at_22) rfl rfl rfl ?_
  refine q_iloadN (pc' := 25) X hx (hb hby at_24) rfl rfl ?_
  refine q_callC (pc' := 28) (y := y2) (rest := []) X hx hZ hown (hb hby at_25) (t0 hw) (t1 hw) (t2 hw) (t3 hw) (by decide) eT [(.int p4)] (own_valueOf hw wd p4 O) (by rw [hml]; rfl) (lenOf pd_2 rfl) (W := 0) rfl (by decide) (by decide) (by decide) (by decide) rfl ?_
  rintro _ T _ X ⟨r_5, rfl, NL, KL, E_r_5, F_value_r_5⟩
  have N := N.app NL
  obtain ⟨h_6, eT⟩ : ∃ z, T.heap = z := ⟨_, rfl⟩
  rw [eT] at KL E_r_5 F_value_r_5
  have O := ext_keep O KL all0
  have E_r_1 := E_r_1.keep KL
  have F_value_r_1 := F_value_r_1.keep KL nin0
  have E_r_3 := E_r_3.keep KL
  have F_value_r_3 := F_value_r_3.keep KL nin0
  show Run p e below _ (T.setTop (mkF m 28 _ [(.ref r_5)]))
  refine q_astore (pc' := 30) (l' := #[.val (.int p1), .val (.int p2), .val (.int p3), .val (.int p4), .val (.int (p1 &&& (3 : Int32))), .val (.int (((p1.toUInt32 >>> ((2 : Int32) &&& 31).toUInt32).toInt32) &&& (3 : Int32))), .val (.ref r_1), .val (.ref r_3), .val (.ref r_5), .unset, .unset, .unset, .unset]) X hx (hb hby at_28) rfl rfl rfl ?_
  refine q_new (pc' := 33) X hx hZ hown (hb hby at_30) (t7 hw) (t8 hw) (t9 hw) eT (by decide) (by decide) rfl ?_
  intro T h_7 b30_6 X eT Ex gb Ax Dx
  have g_b30_6 : Z.heap.size ≤ b30_6 := Nat.le_trans O.1 (Nat.le_of_eq gb.symm)
  have O := ext_trans O Ex
  have E_r_1 := E_r_1.ext Ex
  have F_value_r_1 := F_value_r_1.ext Ex
  have E_r_3 := E_r_3.ext Ex
  have F_value_r_3 := F_value_r_3.ext Ex
  have E_r_5 := E_r_5.ext Ex
  have F_value_r_5 := F_value_r_5.ext Ex
  have E_b30_6 := Ax
  have F_items_b30_6 : Fld Z h_7 b30_6 "com/example/roundel/roundel/dag/ItemArray" "items" "[Ljava/lang/Object;" .null := Dx (Or.inl (t19 hw)) (ty := (.array (.object "java/lang/Object"))) (by decide)
  have F_end_b30_6 : Fld Z h_7 b30_6 "com/example/roundel/roundel/dag/ItemArray" "end" "I" (.int (0 : Int32)) := Dx (Or.inl (t30 hw)) (ty := .int) (by decide)
  have F_first_b30_6 : Fld Z h_7 b30_6 "com/example/roundel/roundel/dag/ItemArray" "first" "I" (.int (0 : Int32)) := Dx (Or.inl (t32 hw)) (ty := .int) (by decide)
  refine q_dup (pc' := 34) X hx (hb hby at_33) rfl rfl ?_
  have ne_r_3_b30_6 : r_3 ≠ b30_6 := ne_exa E_r_3 E_b30_6 (by decide)
  have ne_r_1_b30_6 : r_1 ≠ b30_6 := ne_exa E_r_1 E_b30_6 (by decide)
  have ne_r_5_b30_6 : r_5 ≠ b30_6 := ne_exa E_r_5 E_b30_6 (by decide)
  refine q_callN (pc' := 37) (y := y3) (rest := [(.ref b30_6)]) (b := b30_6) X hx hZ hown (hb hby at_34) rfl (t10 hw) (t11 hw) (t9 hw) (t12 hw) (by decide) eT [] (c3_init hw wd  O E_b30_6 F_items_b30_6 F_end_b30_6 F_first_b30_6 g_b30_6) (by rw [hml]; rfl) (lenOf pd_0 rfl) (W := 1) rfl (by decide) (by decide) (by decide) (by decide) rfl ?_
  rintro _ T _ X ⟨rfl, NL, KL, E_b30_6, F_items_b30_6, F_end_b30_6, F_first_b30_6⟩
  have N := N.app NL
  obtain ⟨h_9, eT⟩ : ∃ z, T.heap = z := ⟨_, rfl⟩
  rw [eT] at KL E_b30_6 F_items_b30_6 F_end_b30_6 F_first_b30_6
  have O := ext_keep O KL (allS g_b30_6 all0)
  have E_r_1 := E_r_1.keep KL
  have F_value_r_1 := F_value_r_1.keep KL (ninS ne_r_1_b30_6 nin0)
  have E_r_3 := E_r_3.keep KL
  have F_value_r_3 := F_value_r_3.keep KL (ninS ne_r_3_b30_6 nin0)
  have E_r_5 := E_r_5.keep KL
  have F_value_r_5 := F_value_r_5.keep KL (ninS ne_r_5_b30_6 nin0)
  show Run p e below _ (T.setTop (mkF m 37 _ [(.ref b30_6)]))
  refine q_astore (pc' := 39) (l' := #[.val (.int p1), .val (.int p2), .val (.int p3), .val (.int p4), .val (.int (p1 &&& (3 : Int32))), .val (.int (((p1.toUInt32 >>> ((2 : Int32) &&& 31).toUInt32).toInt32) &&& (3 : Int32))), .val (.ref r_1), .val (.ref r_3), .val (.ref r_5), .val (.ref b30_6), .unset, .unset, .unset]) X hx (hb hby at_37) rfl rfl rfl ?_
  rcases own_sel p1 with hi | hi | hi | hi
  · rw [hi]
    refine q_iload (pc' := 41) X hx (hb hby at_39) rfl rfl ?_
    refine q_iconst (pc' := 42) (z := (1 : Int32)) X hx (hb hby at_41) rfl rfl ?_
    refine q_icmpYes (pc' := 52) X hx (hb hby at_42) (by decide) (by decide) (by decide) ?_
    refine q_iload (pc' := 54) X hx (hb hby at_52) rfl rfl ?_
    refine q_iconst (pc' := 55) (z := (2 : Int32)) X hx (hb hby at_54) rfl rfl ?_
    refine q_icmpYes (pc' := 65) X hx (hb hby at_55) (by decide) (by decide) (by decide) ?_
    refine q_iload (pc' := 67) X hx (hb hby at_65) rfl rfl ?_
    refine q_iconst (pc' := 68) (z := (3 : Int32)) X hx (hb hby at_67) rfl rfl ?_
    refine q_icmpYes (pc' := 78) X hx (hb hby at_68) (by decide) (by decide) (by decide) ?_
    refine q_iconst (pc' := 79) (z := (1 : Int32)) X hx (hb hby at_78) rfl rfl ?_
    refine q_istore (pc' := 81) (l' := #[.val (.int p1), .val (.int p2), .val (.int p3), .val (.int p4), .val (.int (0 : Int32)), .val (.int (((p1.toUInt32 >>> ((2 : Int32) &&& 31).toUInt32).toInt32) &&& (3 : Int32))), .val (.ref r_1), .val (.ref r_3), .val (.ref r_5), .val (.ref b30_6), .val (.int (1 : Int32)), .unset, .unset]) X hx (hb hby at_79) rfl rfl ?_
    rcases own_sel ((p1.toUInt32 >>> ((2 : Int32) &&& 31).toUInt32).toInt32) with hi | hi | hi | hi
    · rw [hi]
      refine q_iload (pc' := 83) X hx (hb hby at_81) rfl rfl ?_
      refine q_iconst (pc' := 84) (z := (1 : Int32)) X hx (hb hby at_83) rfl rfl ?_
      refine q_icmpYes (pc' := 121) X hx (hb hby at_84) (by decide) (by decide) (by decide) ?_
      refine q_iload (pc' := 123) X hx (hb hby at_121) rfl rfl ?_
      refine q_iconst (pc' := 124) (z := (2 : Int32)) X hx (hb hby at_123) rfl rfl ?_
      refine q_icmpYes (pc' := 161) X hx (hb hby at_124) (by decide) (by decide) (by decide) ?_
      refine q_iload (pc' := 163) X hx (hb hby at_161) rfl rfl ?_
      refine q_iconst (pc' := 164) (z := (3 : Int32)) X hx (hb hby at_163) rfl rfl ?_
      refine q_icmpYes (pc' := 201) X hx (hb hby at_164) (by decide) (by decide) (by decide) ?_
      refine q_iload (pc' := 203) X hx (hb hby at_201) rfl rfl ?_
      refine q_iload (pc' := 205) X hx (hb hby at_203) rfl rfl ?_
      refine q_isub (pc' := 206) (z := (0 : Int32)) X hx (hb hby at_205) (by decide) rfl ?_
      refine q_iconst (pc' := 207) (z := (0 : Int32)) X hx (hb hby at_206) rfl rfl ?_
      refine q_callC (pc' := 210) (y := y4) (rest := []) X hx hZ hown (hb hby at_207) (t20 hw) (t21 hw) (t22 hw) (t23 hw) (by decide) eT [(.int (0 : Int32)), (.int (0 : Int32))] (c4_max hw wd  O) (by rw [hml]; rfl) (lenOf pd_3 rfl) (W := 0) rfl (by decide) (by decide) (by decide) (by decide) rfl ?_
      rintro _ T _ X ⟨rfl, rfl, eT⟩
      rw [List.append_nil] at X
      show Run p e below _ (T.setTop (mkF m 210 _ [(.int (0 : Int32))]))
      refine q_istore (pc' := 212) (l' := #[.val (.int p1), .val (.int p2), .val (.int p3), .val (.int p4), .val (.int (0 : Int32)), .val (.int (0 : Int32)), .val (.ref r_1), .val (.ref r_3), .val (.ref r_5), .val (.ref b30_6), .val (.int (1 : Int32)), .val (.int (0 : Int32)), .unset]) X hx (hb hby at_210) rfl rfl ?_
      refine q_iload (pc' := 214) X hx (hb hby at_212) rfl rfl ?_
      refine q_aload (pc' := 216) X hx (hb hby at_214) rfl rfl rfl ?_
      refine q_callV (pc' := 219) (y := y5) (rest := [(.int (1 : Int32))]) X hx hZ hown (hb hby at_216) (t24 hw) (t25 hw) (t27 hw) (t26 hw) (t9 hw) (t28 hw) (by decide) eT E_b30_6 [] (c5_size hw wd  O E_b30_6 F_items_b30_6 F_end_b30_6 F_first_b30_6) (by rw [hml]; rfl) (lenOf pd_4 rfl) (W := 1) rfl (by decide) (by decide) (by decide) (by decide) rfl ?_
      rintro _ T _ X ⟨rfl, rfl, eT⟩
      rw [List.append_nil] at X
      show Run p e below _ (T.setTop (mkF m 219 _ [(.int (0 : Int32)), (.int (1 : Int32))]))
      refine q_iload (pc' := 221) X hx (hb hby at_219) rfl rfl ?_
      refine q_icmpNo (pc' := 224) X hx (hb hby at_221) (by decide) rfl ?_
      refine q_iconst (pc' := 225) (z := (1 : Int32)) X hx (hb hby at_224) rfl rfl ?_
      refine q_goto (pc' := 229) X hx (hb hby at_225) (by decide) (by decide) ?_
      refine q_iand (pc' := 230) (z := (1 : Int32)) X hx (hb hby at_229) (by decide) rfl ?_
      refine q_istore (pc' := 232) (l' := #[.val (.int p1), .val (.int p2), .val (.int p3), .val (.int p4), .val (.int (0 : Int32)), .val (.int (0 : Int32)), .val (.ref r_1), .val (.ref r_3), .val (.ref r_5), .val (.ref b30_6), .val (.int (1 : Int32)), .val (.int (0 : Int32)), .unset]) X hx (hb hby at_230) rfl rfl ?_
      refine q_aload (pc' := 234) X hx (hb hby at_232) rfl rfl rfl ?_
      refine q_callV (pc' := 237) (y := y6) (rest := []) X hx hZ hown (hb hby at_234) (t33 hw) (t34 hw) (t36 hw) (t35 hw) (t9 hw) (t37 hw) (by decide) eT E_b30_6 [] (c6_peek hw wd  O E_b30_6 F_items_b30_6 F_end_b30_6 F_first_b30_6) (by rw [hml]; rfl) (lenOf pd_5 rfl) (W := 0) rfl (by decide) (by decide) (by decide) (by decide) rfl ?_
      rintro _ T _ X ⟨rfl, rfl, eT⟩
      rw [List.append_nil] at X
      show Run p e below _ (T.setTop (mkF m 237 _ [.null]))
      refine q_astore (pc' := 239) (l' := #[.val (.int p1), .val (.int p2), .val (.int p3), .val (.int p4), .val (.int (0 : Int32)), .val (.int (0 : Int32)), .val (.ref r_1), .val (.ref r_3), .val (.ref r_5), .val (.ref b30_6), .val (.int (1 : Int32)), .val (.int (0 : Int32)), .val .null]) X hx (hb hby at_237) rfl rfl rfl ?_
      refine q_iload (pc' := 241) X hx (hb hby at_239) rfl rfl ?_
      refine q_aload (pc' := 243) X hx (hb hby at_241) rfl rfl rfl ?_
      refine q_iload (pc' := 245) X hx (hb hby at_243) rfl rfl ?_
      refine q_iconst (pc' := 246) (z := (1 : Int32)) X hx (hb hby at_245) rfl rfl ?_
      refine q_iadd (pc' := 247) (z := (1 : Int32)) X hx (hb hby at_246) (by decide) rfl ?_
      refine q_iload (pc' := 249) X hx (hb hby at_247) rfl rfl ?_
      refine q_aload (pc' := 251) X hx (hb hby at_249) rfl rfl rfl ?_
      refine q_aload (pc' := 253) X hx (hb hby at_251) rfl rfl rfl ?_
      refine q_aload (pc' := 255) X hx (hb hby at_253) rfl rfl rfl ?_
      refine q_callC (pc' := 258) (y := y7) (rest := [.null, (.int (1 : Int32))]) X hx hZ hown (hb hby at_255) (t38 hw) (t39 hw) (t40 hw) (t41 hw) (by decide) eT [(.int (1 : Int32)), (.int (0 : Int32)), (.ref r_1), (.ref r_3), (.ref r_5)] (c7_expected hw wd (p2) (p3) (p4) O E_r_1 F_value_r_1 E_r_3 F_value_r_3 E_r_5 F_value_r_5) (by rw [hml]; rfl) (lenOf pd_6 rfl) (W := 2) rfl (by decide) (by decide) (by decide) (by decide) rfl ?_
      rintro _ T _ X ⟨rfl, rfl, eT⟩
      rw [List.append_nil] at X
      show Run p e below _ (T.setTop (mkF m 258 _ [.null, .null, (.int (1 : Int32))]))
      refine q_acmp (pc' := 261) (same := true) X hx (hb hby at_258) rfl rfl (decide_eq_true rfl) (by decide) (by decide) ?_
      refine q_iconst (pc' := 262) (z := (1 : Int32)) X hx (hb hby at_261) rfl rfl ?_
      refine q_goto (pc' := 266) X hx (hb hby at_262) (by decide) (by decide) ?_
      refine q_iand (pc' := 267) (z := (1 : Int32)) X hx (hb hby at_266) (by decide) rfl ?_
      refine q_istore (pc' := 269) (l' := #[.val (.int p1), .val (.int p2), .val (.int p3), .val (.int p4), .val (.int (0 : Int32)), .val (.int (0 : Int32)), .val (.ref r_1), .val (.ref r_3), .val (.ref r_5), .val (.ref b30_6), .val (.int (1 : Int32)), .val (.int (0 : Int32)), .val .null]) X hx (hb hby at_267) rfl rfl ?_
      refine q_iload (pc' := 271) X hx (hb hby at_269) rfl rfl ?_
      refine Run.retB X hx hlk hret (hb hby at_271) rfl (by decide) (by decide) ?_
      try rw [eT]
      exact ⟨rfl, N⟩
    · rw [hi]
      refine q_iload (pc' := 83) X hx (hb hby at_81) rfl rfl ?_
      refine q_iconst (pc' := 84) (z := (1 : Int32)) X hx (hb hby at_83) rfl rfl ?_
      refine q_icmpNo (pc' := 87) X hx (hb hby at_84) (by decide) rfl ?_
      refine q_aload (pc' := 89) X hx (hb hby at_87) rfl rfl rfl ?_
      refine q_callV (pc' := 92) (y := y8) (rest := []) X hx hZ hown (hb hby at_89) (t42 hw) (t43 hw) (t45 hw) (t44 hw) (t9 hw) (t46 hw) (by decide) eT E_b30_6 [] (c8_poll hw wd  O E_b30_6 F_items_b30_6 F_end_b30_6 F_first_b30_6) (by rw [hml]; rfl) (lenOf pd_5 rfl) (W := 0) rfl (by decide) (by decide) (by decide) (by decide) rfl ?_
      rintro _ T _ X ⟨rfl, rfl, eT⟩
      rw [List.append_nil] at X
      show Run p e below _ (T.setTop (mkF m 92 _ [.null]))
      refine q_astore (pc' := 94) (l' := #[.val (.int p1), .val (.int p2), .val (.int p3), .val (.int p4), .val (.int (0 : Int32)), .val (.int (1 : Int32)), .val (.ref r_1), .val (.ref r_3), .val (.ref r_5), .val (.ref b30_6), .val (.int (1 : Int32)), .val .null, .unset]) X hx (hb hby at_92) rfl rfl rfl ?_
      refine q_iload (pc' := 96) X hx (hb hby at_94) rfl rfl ?_
      refine q_aload (pc' := 98) X hx (hb hby at_96) rfl rfl rfl ?_
      refine q_iconst (pc' := 99) (z := (1 : Int32)) X hx (hb hby at_98) rfl rfl ?_
      refine q_iload (pc' := 101) X hx (hb hby at_99) rfl rfl ?_
      refine q_aload (pc' := 103) X hx (hb hby at_101) rfl rfl rfl ?_
      refine q_aload (pc' := 105) X hx (hb hby at_103) rfl rfl rfl ?_
      refine q_aload (pc' := 107) X hx (hb hby at_105) rfl rfl rfl ?_
      refine q_callC (pc' := 110) (y := y7) (rest := [.null, (.int (1 : Int32))]) X hx hZ hown (hb hby at_107) (t38 hw) (t39 hw) (t40 hw) (t41 hw) (by decide) eT [(.int (1 : Int32)), (.int (0 : Int32)), (.ref r_1), (.ref r_3), (.ref r_5)] (c7_expected hw wd (p2) (p3) (p4) O E_r_1 F_value_r_1 E_r_3 F_value_r_3 E_r_5 F_value_r_5) (by rw [hml]; rfl) (lenOf pd_6 rfl) (W := 2) rfl (by decide) (by decide) (by decide) (by decide) rfl ?_
      rintro _ T _ X ⟨rfl, rfl, eT⟩
      rw [List.append_nil] at X
      show Run p e below _ (T.setTop (mkF m 110 _ [.null, .null, (.int (1 : Int32))]))
      refine q_acmp (pc' := 113) (same := true) X hx (hb hby at_110) rfl rfl (decide_eq_true rfl) (by decide) (by decide) ?_
      refine q_iconst (pc' := 114) (z := (1 : Int32)) X hx (hb hby at_113) rfl rfl ?_
      refine q_goto (pc' := 118) X hx (hb hby at_114) (by decide) (by decide) ?_
      refine q_iand (pc' := 119) (z := (1 : Int32)) X hx (hb hby at_118) (by decide) rfl ?_
      refine q_istore (pc' := 121) (l' := #[.val (.int p1), .val (.int p2), .val (.int p3), .val (.int p4), .val (.int (0 : Int32)), .val (.int (1 : Int32)), .val (.ref r_1), .val (.ref r_3), .val (.ref r_5), .val (.ref b30_6), .val (.int (1 : Int32)), .val .null, .unset]) X hx (hb hby at_119) rfl rfl ?_
      refine q_iload (pc' := 123) X hx (hb hby at_121) rfl rfl ?_
      refine q_iconst (pc' := 124) (z := (2 : Int32)) X hx (hb hby at_123) rfl rfl ?_
      refine q_icmpYes (pc' := 161) X hx (hb hby at_124) (by decide) (by decide) (by decide) ?_
      refine q_iload (pc' := 163) X hx (hb hby at_161) rfl rfl ?_
      refine q_iconst (pc' := 164) (z := (3 : Int32)) X hx (hb hby at_163) rfl rfl ?_
      refine q_icmpYes (pc' := 201) X hx (hb hby at_164) (by decide) (by decide) (by decide) ?_
      refine q_iload (pc' := 203) X hx (hb hby at_201) rfl rfl ?_
      refine q_iload (pc' := 205) X hx (hb hby at_203) rfl rfl ?_
      refine q_isub (pc' := 206) (z := (-1 : Int32)) X hx (hb hby at_205) (by decide) rfl ?_
      refine q_iconst (pc' := 207) (z := (0 : Int32)) X hx (hb hby at_206) rfl rfl ?_
      refine q_callC (pc' := 210) (y := y4) (rest := []) X hx hZ hown (hb hby at_207) (t20 hw) (t21 hw) (t22 hw) (t23 hw) (by decide) eT [(.int (-1 : Int32)), (.int (0 : Int32))] (c9_max hw wd  O) (by rw [hml]; rfl) (lenOf pd_3 rfl) (W := 0) rfl (by decide) (by decide) (by decide) (by decide) rfl ?_
      rintro _ T _ X ⟨rfl, rfl, eT⟩
      rw [List.append_nil] at X
      show Run p e below _ (T.setTop (mkF m 210 _ [(.int (0 : Int32))]))
      refine q_istore (pc' := 212) (l' := #[.val (.int p1), .val (.int p2), .val (.int p3), .val (.int p4), .val (.int (0 : Int32)), .val (.int (1 : Int32)), .val (.ref r_1), .val (.ref r_3), .val (.ref r_5), .val (.ref b30_6), .val (.int (1 : Int32)), .val (.int (0 : Int32)), .unset]) X hx (hb hby at_210) rfl rfl ?_
      refine q_iload (pc' := 214) X hx (hb hby at_212) rfl rfl ?_
      refine q_aload (pc' := 216) X hx (hb hby at_214) rfl rfl rfl ?_
      refine q_callV (pc' := 219) (y := y5) (rest := [(.int (1 : Int32))]) X hx hZ hown (hb hby at_216) (t24 hw) (t25 hw) (t27 hw) (t26 hw) (t9 hw) (t28 hw) (by decide) eT E_b30_6 [] (c5_size hw wd  O E_b30_6 F_items_b30_6 F_end_b30_6 F_first_b30_6) (by rw [hml]; rfl) (lenOf pd_4 rfl) (W := 1) rfl (by decide) (by decide) (by decide) (by decide) rfl ?_
      rintro _ T _ X ⟨rfl, rfl, eT⟩
      rw [List.append_nil] at X
      show Run p e below _ (T.setTop (mkF m 219 _ [(.int (0 : Int32)), (.int (1 : Int32))]))
      refine q_iload (pc' := 221) X hx (hb hby at_219) rfl rfl ?_
      refine q_icmpNo (pc' := 224) X hx (hb hby at_221) (by decide) rfl ?_
      refine q_iconst (pc' := 225) (z := (1 : Int32)) X hx (hb hby at_224) rfl rfl ?_
      refine q_goto (pc' := 229) X hx (hb hby at_225) (by decide) (by decide) ?_
      refine q_iand (pc' := 230) (z := (1 : Int32)) X hx (hb hby at_229) (by decide) rfl ?_
      refine q_istore (pc' := 232) (l' := #[.val (.int p1), .val (.int p2), .val (.int p3), .val (.int p4), .val (.int (0 : Int32)), .val (.int (1 : Int32)), .val (.ref r_1), .val (.ref r_3), .val (.ref r_5), .val (.ref b30_6), .val (.int (1 : Int32)), .val (.int (0 : Int32)), .unset]) X hx (hb hby at_230) rfl rfl ?_
      refine q_aload (pc' := 234) X hx (hb hby at_232) rfl rfl rfl ?_
      refine q_callV (pc' := 237) (y := y6) (rest := []) X hx hZ hown (hb hby at_234) (t33 hw) (t34 hw) (t36 hw) (t35 hw) (t9 hw) (t37 hw) (by decide) eT E_b30_6 [] (c6_peek hw wd  O E_b30_6 F_items_b30_6 F_end_b30_6 F_first_b30_6) (by rw [hml]; rfl) (lenOf pd_5 rfl) (W := 0) rfl (by decide) (by decide) (by decide) (by decide) rfl ?_
      rintro _ T _ X ⟨rfl, rfl, eT⟩
      rw [List.append_nil] at X
      show Run p e below _ (T.setTop (mkF m 237 _ [.null]))
      refine q_astore (pc' := 239) (l' := #[.val (.int p1), .val (.int p2), .val (.int p3), .val (.int p4), .val (.int (0 : Int32)), .val (.int (1 : Int32)), .val (.ref r_1), .val (.ref r_3), .val (.ref r_5), .val (.ref b30_6), .val (.int (1 : Int32)), .val (.int (0 : Int32)), .val .null]) X hx (hb hby at_237) rfl rfl rfl ?_
      refine q_iload (pc' := 241) X hx (hb hby at_239) rfl rfl ?_
      refine q_aload (pc' := 243) X hx (hb hby at_241) rfl rfl rfl ?_
      refine q_iload (pc' := 245) X hx (hb hby at_243) rfl rfl ?_
      refine q_iconst (pc' := 246) (z := (1 : Int32)) X hx (hb hby at_245) rfl rfl ?_
      refine q_iadd (pc' := 247) (z := (2 : Int32)) X hx (hb hby at_246) (by decide) rfl ?_
      refine q_iload (pc' := 249) X hx (hb hby at_247) rfl rfl ?_
      refine q_aload (pc' := 251) X hx (hb hby at_249) rfl rfl rfl ?_
      refine q_aload (pc' := 253) X hx (hb hby at_251) rfl rfl rfl ?_
      refine q_aload (pc' := 255) X hx (hb hby at_253) rfl rfl rfl ?_
      refine q_callC (pc' := 258) (y := y7) (rest := [.null, (.int (1 : Int32))]) X hx hZ hown (hb hby at_255) (t38 hw) (t39 hw) (t40 hw) (t41 hw) (by decide) eT [(.int (2 : Int32)), (.int (0 : Int32)), (.ref r_1), (.ref r_3), (.ref r_5)] (c10_expected hw wd (p2) (p3) (p4) O E_r_1 F_value_r_1 E_r_3 F_value_r_3 E_r_5 F_value_r_5) (by rw [hml]; rfl) (lenOf pd_6 rfl) (W := 2) rfl (by decide) (by decide) (by decide) (by decide) rfl ?_
      rintro _ T _ X ⟨rfl, rfl, eT⟩
      rw [List.append_nil] at X
      show Run p e below _ (T.setTop (mkF m 258 _ [.null, .null, (.int (1 : Int32))]))
      refine q_acmp (pc' := 261) (same := true) X hx (hb hby at_258) rfl rfl (decide_eq_true rfl) (by decide) (by decide) ?_
      refine q_iconst (pc' := 262) (z := (1 : Int32)) X hx (hb hby at_261) rfl rfl ?_
      refine q_goto (pc' := 266) X hx (hb hby at_262) (by decide) (by decide) ?_
      refine q_iand (pc' := 267) (z := (1 : Int32)) X hx (hb hby at_266) (by decide) rfl ?_
      refine q_istore (pc' := 269) (l' := #[.val (.int p1), .val (.int p2), .val (.int p3), .val (.int p4), .val (.int (0 : Int32)), .val (.int (1 : Int32)), .val (.ref r_1), .val (.ref r_3), .val (.ref r_5), .val (.ref b30_6), .val (.int (1 : Int32)), .val (.int (0 : Int32)), .val .null]) X hx (hb hby at_267) rfl rfl ?_
      refine q_iload (pc' := 271) X hx (hb hby at_269) rfl rfl ?_
      refine Run.retB X hx hlk hret (hb hby at_271) rfl (by decide) (by decide) ?_
      try rw [eT]
      exact ⟨rfl, N⟩
    · rw [hi]
      refine q_iload (pc' := 83) X hx (hb hby at_81) rfl rfl ?_
      refine q_iconst (pc' := 84) (z := (1 : Int32)) X hx (hb hby at_83) rfl rfl ?_
      refine q_icmpNo (pc' := 87) X hx (hb hby at_84) (by decide) rfl ?_
      refine q_aload (pc' := 89) X hx (hb hby at_87) rfl rfl rfl ?_
      refine q_callV (pc' := 92) (y := y8) (rest := []) X hx hZ hown (hb hby at_89) (t42 hw) (t43 hw) (t45 hw) (t44 hw) (t9 hw) (t46 hw) (by decide) eT E_b30_6 [] (c8_poll hw wd  O E_b30_6 F_items_b30_6 F_end_b30_6 F_first_b30_6) (by rw [hml]; rfl) (lenOf pd_5 rfl) (W := 0) rfl (by decide) (by decide) (by decide) (by decide) rfl ?_
      rintro _ T _ X ⟨rfl, rfl, eT⟩
      rw [List.append_nil] at X
      show Run p e below _ (T.setTop (mkF m 92 _ [.null]))
      refine q_astore (pc' := 94) (l' := #[.val (.int p1), .val (.int p2), .val (.int p3), .val (.int p4), .val (.int (0 : Int32)), .val (.int (2 : Int32)), .val (.ref r_1), .val (.ref r_3), .val (.ref r_5), .val (.ref b30_6), .val (.int (1 : Int32)), .val .null, .unset]) X hx (hb hby at_92) rfl rfl rfl ?_
      refine q_iload (pc' := 96) X hx (hb hby at_94) rfl rfl ?_
      refine q_aload (pc' := 98) X hx (hb hby at_96) rfl rfl rfl ?_
      refine q_iconst (pc' := 99) (z := (1 : Int32)) X hx (hb hby at_98) rfl rfl ?_
      refine q_iload (pc' := 101) X hx (hb hby at_99) rfl rfl ?_
      refine q_aload (pc' := 103) X hx (hb hby at_101) rfl rfl rfl ?_
      refine q_aload (pc' := 105) X hx (hb hby at_103) rfl rfl rfl ?_
      refine q_aload (pc' := 107) X hx (hb hby at_105) rfl rfl rfl ?_
      refine q_callC (pc' := 110) (y := y7) (rest := [.null, (.int (1 : Int32))]) X hx hZ hown (hb hby at_107) (t38 hw) (t39 hw) (t40 hw) (t41 hw) (by decide) eT [(.int (1 : Int32)), (.int (0 : Int32)), (.ref r_1), (.ref r_3), (.ref r_5)] (c7_expected hw wd (p2) (p3) (p4) O E_r_1 F_value_r_1 E_r_3 F_value_r_3 E_r_5 F_value_r_5) (by rw [hml]; rfl) (lenOf pd_6 rfl) (W := 2) rfl (by decide) (by decide) (by decide) (by decide) rfl ?_
      rintro _ T _ X ⟨rfl, rfl, eT⟩
      rw [List.append_nil] at X
      show Run p e below _ (T.setTop (mkF m 110 _ [.null, .null, (.int (1 : Int32))]))
      refine q_acmp (pc' := 113) (same := true) X hx (hb hby at_110) rfl rfl (decide_eq_true rfl) (by decide) (by decide) ?_
      refine q_iconst (pc' := 114) (z := (1 : Int32)) X hx (hb hby at_113) rfl rfl ?_
      refine q_goto (pc' := 118) X hx (hb hby at_114) (by decide) (by decide) ?_
      refine q_iand (pc' := 119) (z := (1 : Int32)) X hx (hb hby at_118) (by decide) rfl ?_
      refine q_istore (pc' := 121) (l' := #[.val (.int p1), .val (.int p2), .val (.int p3), .val (.int p4), .val (.int (0 : Int32)), .val (.int (2 : Int32)), .val (.ref r_1), .val (.ref r_3), .val (.ref r_5), .val (.ref b30_6), .val (.int (1 : Int32)), .val .null, .unset]) X hx (hb hby at_119) rfl rfl ?_
      refine q_iload (pc' := 123) X hx (hb hby at_121) rfl rfl ?_
      refine q_iconst (pc' := 124) (z := (2 : Int32)) X hx (hb hby at_123) rfl rfl ?_
      refine q_icmpNo (pc' := 127) X hx (hb hby at_124) (by decide) rfl ?_
      refine q_aload (pc' := 129) X hx (hb hby at_127) rfl rfl rfl ?_
      refine q_callV (pc' := 132) (y := y8) (rest := []) X hx hZ hown (hb hby at_129) (t42 hw) (t43 hw) (t45 hw) (t44 hw) (t9 hw) (t46 hw) (by decide) eT E_b30_6 [] (c8_poll hw wd  O E_b30_6 F_items_b30_6 F_end_b30_6 F_first_b30_6) (by rw [hml]; rfl) (lenOf pd_5 rfl) (W := 0) rfl (by decide) (by decide) (by decide) (by decide) rfl ?_
      rintro _ T _ X ⟨rfl, rfl, eT⟩
      rw [List.append_nil] at X
      show Run p e below _ (T.setTop (mkF m 132 _ [.null]))
      refine q_astore (pc' := 134) (l' := #[.val (.int p1), .val (.int p2), .val (.int p3), .val (.int p4), .val (.int (0 : Int32)), .val (.int (2 : Int32)), .val (.ref r_1), .val (.ref r_3), .val (.ref r_5), .val (.ref b30_6), .val (.int (1 : Int32)), .val .null, .unset]) X hx (hb hby at_132) rfl rfl rfl ?_
      refine q_iload (pc' := 136) X hx (hb hby at_134) rfl rfl ?_
      refine q_aload (pc' := 138) X hx (hb hby at_136) rfl rfl rfl ?_
      refine q_iconst (pc' := 139) (z := (2 : Int32)) X hx (hb hby at_138) rfl rfl ?_
      refine q_iload (pc' := 141) X hx (hb hby at_139) rfl rfl ?_
      refine q_aload (pc' := 143) X hx (hb hby at_141) rfl rfl rfl ?_
      refine q_aload (pc' := 145) X hx (hb hby at_143) rfl rfl rfl ?_
      refine q_aload (pc' := 147) X hx (hb hby at_145) rfl rfl rfl ?_
      refine q_callC (pc' := 150) (y := y7) (rest := [.null, (.int (1 : Int32))]) X hx hZ hown (hb hby at_147) (t38 hw) (t39 hw) (t40 hw) (t41 hw) (by decide) eT [(.int (2 : Int32)), (.int (0 : Int32)), (.ref r_1), (.ref r_3), (.ref r_5)] (c10_expected hw wd (p2) (p3) (p4) O E_r_1 F_value_r_1 E_r_3 F_value_r_3 E_r_5 F_value_r_5) (by rw [hml]; rfl) (lenOf pd_6 rfl) (W := 2) rfl (by decide) (by decide) (by decide) (by decide) rfl ?_
      rintro _ T _ X ⟨rfl, rfl, eT⟩
      rw [List.append_nil] at X
      show Run p e below _ (T.setTop (mkF m 150 _ [.null, .null, (.int (1 : Int32))]))
      refine q_acmp (pc' := 153) (same := true) X hx (hb hby at_150) rfl rfl (decide_eq_true rfl) (by decide) (by decide) ?_
      refine q_iconst (pc' := 154) (z := (1 : Int32)) X hx (hb hby at_153) rfl rfl ?_
      refine q_goto (pc' := 158) X hx (hb hby at_154) (by decide) (by decide) ?_
      refine q_iand (pc' := 159) (z := (1 : Int32)) X hx (hb hby at_158) (by decide) rfl ?_
      refine q_istore (pc' := 161) (l' := #[.val (.int p1), .val (.int p2), .val (.int p3), .val (.int p4), .val (.int (0 : Int32)), .val (.int (2 : Int32)), .val (.ref r_1), .val (.ref r_3), .val (.ref r_5), .val (.ref b30_6), .val (.int (1 : Int32)), .val .null, .unset]) X hx (hb hby at_159) rfl rfl ?_
      refine q_iload (pc' := 163) X hx (hb hby at_161) rfl rfl ?_
      refine q_iconst (pc' := 164) (z := (3 : Int32)) X hx (hb hby at_163) rfl rfl ?_
      refine q_icmpYes (pc' := 201) X hx (hb hby at_164) (by decide) (by decide) (by decide) ?_
      refine q_iload (pc' := 203) X hx (hb hby at_201) rfl rfl ?_
      refine q_iload (pc' := 205) X hx (hb hby at_203) rfl rfl ?_
      refine q_isub (pc' := 206) (z := (-2 : Int32)) X hx (hb hby at_205) (by decide) rfl ?_
      refine q_iconst (pc' := 207) (z := (0 : Int32)) X hx (hb hby at_206) rfl rfl ?_
      refine q_callC (pc' := 210) (y := y4) (rest := []) X hx hZ hown (hb hby at_207) (t20 hw) (t21 hw) (t22 hw) (t23 hw) (by decide) eT [(.int (-2 : Int32)), (.int (0 : Int32))] (c11_max hw wd  O) (by rw [hml]; rfl) (lenOf pd_3 rfl) (W := 0) rfl (by decide) (by decide) (by decide) (by decide) rfl ?_
      rintro _ T _ X ⟨rfl, rfl, eT⟩
      rw [List.append_nil] at X
      show Run p e below _ (T.setTop (mkF m 210 _ [(.int (0 : Int32))]))
      refine q_istore (pc' := 212) (l' := #[.val (.int p1), .val (.int p2), .val (.int p3), .val (.int p4), .val (.int (0 : Int32)), .val (.int (2 : Int32)), .val (.ref r_1), .val (.ref r_3), .val (.ref r_5), .val (.ref b30_6), .val (.int (1 : Int32)), .val (.int (0 : Int32)), .unset]) X hx (hb hby at_210) rfl rfl ?_
      refine q_iload (pc' := 214) X hx (hb hby at_212) rfl rfl ?_
      refine q_aload (pc' := 216) X hx (hb hby at_214) rfl rfl rfl ?_
      refine q_callV (pc' := 219) (y := y5) (rest := [(.int (1 : Int32))]) X hx hZ hown (hb hby at_216) (t24 hw) (t25 hw) (t27 hw) (t26 hw) (t9 hw) (t28 hw) (by decide) eT E_b30_6 [] (c5_size hw wd  O E_b30_6 F_items_b30_6 F_end_b30_6 F_first_b30_6) (by rw [hml]; rfl) (lenOf pd_4 rfl) (W := 1) rfl (by decide) (by decide) (by decide) (by decide) rfl ?_
      rintro _ T _ X ⟨rfl, rfl, eT⟩
      rw [List.append_nil] at X
      show Run p e below _ (T.setTop (mkF m 219 _ [(.int (0 : Int32)), (.int (1 : Int32))]))
      refine q_iload (pc' := 221) X hx (hb hby at_219) rfl rfl ?_
      refine q_icmpNo (pc' := 224) X hx (hb hby at_221) (by decide) rfl ?_
      refine q_iconst (pc' := 225) (z := (1 : Int32)) X hx (hb hby at_224) rfl rfl ?_
      refine q_goto (pc' := 229) X hx (hb hby at_225) (by decide) (by decide) ?_
      refine q_iand (pc' := 230) (z := (1 : Int32)) X hx (hb hby at_229) (by decide) rfl ?_
      refine q_istore (pc' := 232) (l' := #[.val (.int p1), .val (.int p2), .val (.int p3), .val (.int p4), .val (.int (0 : Int32)), .val (.int (2 : Int32)), .val (.ref r_1), .val (.ref r_3), .val (.ref r_5), .val (.ref b30_6), .val (.int (1 : Int32)), .val (.int (0 : Int32)), .unset]) X hx (hb hby at_230) rfl rfl ?_
      refine q_aload (pc' := 234) X hx (hb hby at_232) rfl rfl rfl ?_
      refine q_callV (pc' := 237) (y := y6) (rest := []) X hx hZ hown (hb hby at_234) (t33 hw) (t34 hw) (t36 hw) (t35 hw) (t9 hw) (t37 hw) (by decide) eT E_b30_6 [] (c6_peek hw wd  O E_b30_6 F_items_b30_6 F_end_b30_6 F_first_b30_6) (by rw [hml]; rfl) (lenOf pd_5 rfl) (W := 0) rfl (by decide) (by decide) (by decide) (by decide) rfl ?_
      rintro _ T _ X ⟨rfl, rfl, eT⟩
      rw [List.append_nil] at X
      show Run p e below _ (T.setTop (mkF m 237 _ [.null]))
      refine q_astore (pc' := 239) (l' := #[.val (.int p1), .val (.int p2), .val (.int p3), .val (.int p4), .val (.int (0 : Int32)), .val (.int (2 : Int32)), .val (.ref r_1), .val (.ref r_3), .val (.ref r_5), .val (.ref b30_6), .val (.int (1 : Int32)), .val (.int (0 : Int32)), .val .null]) X hx (hb hby at_237) rfl rfl rfl ?_
      refine q_iload (pc' := 241) X hx (hb hby at_239) rfl rfl ?_
      refine q_aload (pc' := 243) X hx (hb hby at_241) rfl rfl rfl ?_
      refine q_iload (pc' := 245) X hx (hb hby at_243) rfl rfl ?_
      refine q_iconst (pc' := 246) (z := (1 : Int32)) X hx (hb hby at_245) rfl rfl ?_
      refine q_iadd (pc' := 247) (z := (3 : Int32)) X hx (hb hby at_246) (by decide) rfl ?_
      refine q_iload (pc' := 249) X hx (hb hby at_247) rfl rfl ?_
      refine q_aload (pc' := 251) X hx (hb hby at_249) rfl rfl rfl ?_
      refine q_aload (pc' := 253) X hx (hb hby at_251) rfl rfl rfl ?_
      refine q_aload (pc' := 255) X hx (hb hby at_253) rfl rfl rfl ?_
      refine q_callC (pc' := 258) (y := y7) (rest := [.null, (.int (1 : Int32))]) X hx hZ hown (hb hby at_255) (t38 hw) (t39 hw) (t40 hw) (t41 hw) (by decide) eT [(.int (3 : Int32)), (.int (0 : Int32)), (.ref r_1), (.ref r_3), (.ref r_5)] (c12_expected hw wd (p2) (p3) (p4) O E_r_1 F_value_r_1 E_r_3 F_value_r_3 E_r_5 F_value_r_5) (by rw [hml]; rfl) (lenOf pd_6 rfl) (W := 2) rfl (by decide) (by decide) (by decide) (by decide) rfl ?_
      rintro _ T _ X ⟨rfl, rfl, eT⟩
      rw [List.append_nil] at X
      show Run p e below _ (T.setTop (mkF m 258 _ [.null, .null, (.int (1 : Int32))]))
      refine q_acmp (pc' := 261) (same := true) X hx (hb hby at_258) rfl rfl (decide_eq_true rfl) (by decide) (by decide) ?_
      refine q_iconst (pc' := 262) (z := (1 : Int32)) X hx (hb hby at_261) rfl rfl ?_
      refine q_goto (pc' := 266) X hx (hb hby at_262) (by decide) (by decide) ?_
      refine q_iand (pc' := 267) (z := (1 : Int32)) X hx (hb hby at_266) (by decide) rfl ?_
      refine q_istore (pc' := 269) (l' := #[.val (.int p1), .val (.int p2), .val (.int p3), .val (.int p4), .val (.int (0 : Int32)), .val (.int (2 : Int32)), .val (.ref r_1), .val (.ref r_3), .val (.ref r_5), .val (.ref b30_6), .val (.int (1 : Int32)), .val (.int (0 : Int32)), .val .null]) X hx (hb hby at_267) rfl rfl ?_
      refine q_iload (pc' := 271) X hx (hb hby at_269) rfl rfl ?_
      refine Run.retB X hx hlk hret (hb hby at_271) rfl (by decide) (by decide) ?_
      try rw [eT]
      exact ⟨rfl, N⟩
    · rw [hi]
      refine q_iload (pc' := 83) X hx (hb hby at_81) rfl rfl ?_
      refine q_iconst (pc' := 84) (z := (1 : Int32)) X hx (hb hby at_83) rfl rfl ?_
      refine q_icmpNo (pc' := 87) X hx (hb hby at_84) (by decide) rfl ?_
      refine q_aload (pc' := 89) X hx (hb hby at_87) rfl rfl rfl ?_
      refine q_callV (pc' := 92) (y := y8) (rest := []) X hx hZ hown (hb hby at_89) (t42 hw) (t43 hw) (t45 hw) (t44 hw) (t9 hw) (t46 hw) (by decide) eT E_b30_6 [] (c8_poll hw wd  O E_b30_6 F_items_b30_6 F_end_b30_6 F_first_b30_6) (by rw [hml]; rfl) (lenOf pd_5 rfl) (W := 0) rfl (by decide) (by decide) (by decide) (by decide) rfl ?_
      rintro _ T _ X ⟨rfl, rfl, eT⟩
      rw [List.append_nil] at X
      show Run p e below _ (T.setTop (mkF m 92 _ [.null]))
      refine q_astore (pc' := 94) (l' := #[.val (.int p1), .val (.int p2), .val (.int p3), .val (.int p4), .val (.int (0 : Int32)), .val (.int (3 : Int32)), .val (.ref r_1), .val (.ref r_3), .val (.ref r_5), .val (.ref b30_6), .val (.int (1 : Int32)), .val .null, .unset]) X hx (hb hby at_92) rfl rfl rfl ?_
      refine q_iload (pc' := 96) X hx (hb hby at_94) rfl rfl ?_
      refine q_aload (pc' := 98) X hx (hb hby at_96) rfl rfl rfl ?_
      refine q_iconst (pc' := 99) (z := (1 : Int32)) X hx (hb hby at_98) rfl rfl ?_
      refine q_iload (pc' := 101) X hx (hb hby at_99) rfl rfl ?_
      refine q_aload (pc' := 103) X hx (hb hby at_101) rfl rfl rfl ?_
      refine q_aload (pc' := 105) X hx (hb hby at_103) rfl rfl rfl ?_
      refine q_aload (pc' := 107) X hx (hb hby at_105) rfl rfl rfl ?_
      refine q_callC (pc' := 110) (y := y7) (rest := [.null, (.int (1 : Int32))]) X hx hZ hown (hb hby at_107) (t38 hw) (t39 hw) (t40 hw) (t41 hw) (by decide) eT [(.int (1 : Int32)), (.int (0 : Int32)), (.ref r_1), (.ref r_3), (.ref r_5)] (c7_expected hw wd (p2) (p3) (p4) O E_r_1 F_value_r_1 E_r_3 F_value_r_3 E_r_5 F_value_r_5) (by rw [hml]; rfl) (lenOf pd_6 rfl) (W := 2) rfl (by decide) (by decide) (by decide) (by decide) rfl ?_
      rintro _ T _ X ⟨rfl, rfl, eT⟩
      rw [List.append_nil] at X
      show Run p e below _ (T.setTop (mkF m 110 _ [.null, .null, (.int (1 : Int32))]))
      refine q_acmp (pc' := 113) (same := true) X hx (hb hby at_110) rfl rfl (decide_eq_true rfl) (by decide) (by decide) ?_
      refine q_iconst (pc' := 114) (z := (1 : Int32)) X hx (hb hby at_113) rfl rfl ?_
      refine q_goto (pc' := 118) X hx (hb hby at_114) (by decide) (by decide) ?_
      refine q_iand (pc' := 119) (z := (1 : Int32)) X hx (hb hby at_118) (by decide) rfl ?_
      refine q_istore (pc' := 121) (l' := #[.val (.int p1), .val (.int p2), .val (.int p3), .val (.int p4), .val (.int (0 : Int32)), .val (.int (3 : Int32)), .val (.ref r_1), .val (.ref r_3), .val (.ref r_5), .val (.ref b30_6), .val (.int (1 : Int32)), .val .null, .unset]) X hx (hb hby at_119) rfl rfl ?_
      refine q_iload (pc' := 123) X hx (hb hby at_121) rfl rfl ?_
      refine q_iconst (pc' := 124) (z := (2 : Int32)) X hx (hb hby at_123) rfl rfl ?_
      refine q_icmpNo (pc' := 127) X hx (hb hby at_124) (by decide) rfl ?_
      refine q_aload (pc' := 129) X hx (hb hby at_127) rfl rfl rfl ?_
      refine q_callV (pc' := 132) (y := y8) (rest := []) X hx hZ hown (hb hby at_129) (t42 hw) (t43 hw) (t45 hw) (t44 hw) (t9 hw) (t46 hw) (by decide) eT E_b30_6 [] (c8_poll hw wd  O E_b30_6 F_items_b30_6 F_end_b30_6 F_first_b30_6) (by rw [hml]; rfl) (lenOf pd_5 rfl) (W := 0) rfl (by decide) (by decide) (by decide) (by decide) rfl ?_
      rintro _ T _ X ⟨rfl, rfl, eT⟩
      rw [List.append_nil] at X
      show Run p e below _ (T.setTop (mkF m 132 _ [.null]))
      refine q_astore (pc' := 134) (l' := #[.val (.int p1), .val (.int p2), .val (.int p3), .val (.int p4), .val (.int (0 : Int32)), .val (.int (3 : Int32)), .val (.ref r_1), .val (.ref r_3), .val (.ref r_5), .val (.ref b30_6), .val (.int (1 : Int32)), .val .null, .unset]) X hx (hb hby at_132) rfl rfl rfl ?_
      refine q_iload (pc' := 136) X hx (hb hby at_134) rfl rfl ?_
      refine q_aload (pc' := 138) X hx (hb hby at_136) rfl rfl rfl ?_
      refine q_iconst (pc' := 139) (z := (2 : Int32)) X hx (hb hby at_138) rfl rfl ?_
      refine q_iload (pc' := 141) X hx (hb hby at_139) rfl rfl ?_
      refine q_aload (pc' := 143) X hx (hb hby at_141) rfl rfl rfl ?_
      refine q_aload (pc' := 145) X hx (hb hby at_143) rfl rfl rfl ?_
      refine q_aload (pc' := 147) X hx (hb hby at_145) rfl rfl rfl ?_
      refine q_callC (pc' := 150) (y := y7) (rest := [.null, (.int (1 : Int32))]) X hx hZ hown (hb hby at_147) (t38 hw) (t39 hw) (t40 hw) (t41 hw) (by decide) eT [(.int (2 : Int32)), (.int (0 : Int32)), (.ref r_1), (.ref r_3), (.ref r_5)] (c10_expected hw wd (p2) (p3) (p4) O E_r_1 F_value_r_1 E_r_3 F_value_r_3 E_r_5 F_value_r_5) (by rw [hml]; rfl) (lenOf pd_6 rfl) (W := 2) rfl (by decide) (by decide) (by decide) (by decide) rfl ?_
      rintro _ T _ X ⟨rfl, rfl, eT⟩
      rw [List.append_nil] at X
      show Run p e below _ (T.setTop (mkF m 150 _ [.null, .null, (.int (1 : Int32))]))
      refine q_acmp (pc' := 153) (same := true) X hx (hb hby at_150) rfl rfl (decide_eq_true rfl) (by decide) (by decide) ?_
      refine q_iconst (pc' := 154) (z := (1 : Int32)) X hx (hb hby at_153) rfl rfl ?_
      refine q_goto (pc' := 158) X hx (hb hby at_154) (by decide) (by decide) ?_
      refine q_iand (pc' := 159) (z := (1 : Int32)) X hx (hb hby at_158) (by decide) rfl ?_
      refine q_istore (pc' := 161) (l' := #[.val (.int p1), .val (.int p2), .val (.int p3), .val (.int p4), .val (.int (0 : Int32)), .val (.int (3 : Int32)), .val (.ref r_1), .val (.ref r_3), .val (.ref r_5), .val (.ref b30_6), .val (.int (1 : Int32)), .val .null, .unset]) X hx (hb hby at_159) rfl rfl ?_
      refine q_iload (pc' := 163) X hx (hb hby at_161) rfl rfl ?_
      refine q_iconst (pc' := 164) (z := (3 : Int32)) X hx (hb hby at_163) rfl rfl ?_
      refine q_icmpNo (pc' := 167) X hx (hb hby at_164) (by decide) rfl ?_
      refine q_aload (pc' := 169) X hx (hb hby at_167) rfl rfl rfl ?_
      refine q_callV (pc' := 172) (y := y8) (rest := []) X hx hZ hown (hb hby at_169) (t42 hw) (t43 hw) (t45 hw) (t44 hw) (t9 hw) (t46 hw) (by decide) eT E_b30_6 [] (c8_poll hw wd  O E_b30_6 F_items_b30_6 F_end_b30_6 F_first_b30_6) (by rw [hml]; rfl) (lenOf pd_5 rfl) (W := 0) rfl (by decide) (by decide) (by decide) (by decide) rfl ?_
      rintro _ T _ X ⟨rfl, rfl, eT⟩
      rw [List.append_nil] at X
      show Run p e below _ (T.setTop (mkF m 172 _ [.null]))
      refine q_astore (pc' := 174) (l' := #[.val (.int p1), .val (.int p2), .val (.int p3), .val (.int p4), .val (.int (0 : Int32)), .val (.int (3 : Int32)), .val (.ref r_1), .val (.ref r_3), .val (.ref r_5), .val (.ref b30_6), .val (.int (1 : Int32)), .val .null, .unset]) X hx (hb hby at_172) rfl rfl rfl ?_
      refine q_iload (pc' := 176) X hx (hb hby at_174) rfl rfl ?_
      refine q_aload (pc' := 178) X hx (hb hby at_176) rfl rfl rfl ?_
      refine q_iconst (pc' := 179) (z := (3 : Int32)) X hx (hb hby at_178) rfl rfl ?_
      refine q_iload (pc' := 181) X hx (hb hby at_179) rfl rfl ?_
      refine q_aload (pc' := 183) X hx (hb hby at_181) rfl rfl rfl ?_
      refine q_aload (pc' := 185) X hx (hb hby at_183) rfl rfl rfl ?_
      refine q_aload (pc' := 187) X hx (hb hby at_185) rfl rfl rfl ?_
      refine q_callC (pc' := 190) (y := y7) (rest := [.null, (.int (1 : Int32))]) X hx hZ hown (hb hby at_187) (t38 hw) (t39 hw) (t40 hw) (t41 hw) (by decide) eT [(.int (3 : Int32)), (.int (0 : Int32)), (.ref r_1), (.ref r_3), (.ref r_5)] (c12_expected hw wd (p2) (p3) (p4) O E_r_1 F_value_r_1 E_r_3 F_value_r_3 E_r_5 F_value_r_5) (by rw [hml]; rfl) (lenOf pd_6 rfl) (W := 2) rfl (by decide) (by decide) (by decide) (by decide) rfl ?_
      rintro _ T _ X ⟨rfl, rfl, eT⟩
      rw [List.append_nil] at X
      show Run p e below _ (T.setTop (mkF m 190 _ [.null, .null, (.int (1 : Int32))]))
      refine q_acmp (pc' := 193) (same := true) X hx (hb hby at_190) rfl rfl (decide_eq_true rfl) (by decide) (by decide) ?_
      refine q_iconst (pc' := 194) (z := (1 : Int32)) X hx (hb hby at_193) rfl rfl ?_
      refine q_goto (pc' := 198) X hx (hb hby at_194) (by decide) (by decide) ?_
      refine q_iand (pc' := 199) (z := (1 : Int32)) X hx (hb hby at_198) (by decide) rfl ?_
      refine q_istore (pc' := 201) (l' := #[.val (.int p1), .val (.int p2), .val (.int p3), .val (.int p4), .val (.int (0 : Int32)), .val (.int (3 : Int32)), .val (.ref r_1), .val (.ref r_3), .val (.ref r_5), .val (.ref b30_6), .val (.int (1 : Int32)), .val .null, .unset]) X hx (hb hby at_199) rfl rfl ?_
      refine q_iload (pc' := 203) X hx (hb hby at_201) rfl rfl ?_
      refine q_iload (pc' := 205) X hx (hb hby at_203) rfl rfl ?_
      refine q_isub (pc' := 206) (z := (-3 : Int32)) X hx (hb hby at_205) (by decide) rfl ?_
      refine q_iconst (pc' := 207) (z := (0 : Int32)) X hx (hb hby at_206) rfl rfl ?_
      refine q_callC (pc' := 210) (y := y4) (rest := []) X hx hZ hown (hb hby at_207) (t20 hw) (t21 hw) (t22 hw) (t23 hw) (by decide) eT [(.int (-3 : Int32)), (.int (0 : Int32))] (c13_max hw wd  O) (by rw [hml]; rfl) (lenOf pd_3 rfl) (W := 0) rfl (by decide) (by decide) (by decide) (by decide) rfl ?_
      rintro _ T _ X ⟨rfl, rfl, eT⟩
      rw [List.append_nil] at X
      show Run p e below _ (T.setTop (mkF m 210 _ [(.int (0 : Int32))]))
      refine q_istore (pc' := 212) (l' := #[.val (.int p1), .val (.int p2), .val (.int p3), .val (.int p4), .val (.int (0 : Int32)), .val (.int (3 : Int32)), .val (.ref r_1), .val (.ref r_3), .val (.ref r_5), .val (.ref b30_6), .val (.int (1 : Int32)), .val (.int (0 : Int32)), .unset]) X hx (hb hby at_210) rfl rfl ?_
      refine q_iload (pc' := 214) X hx (hb hby at_212) rfl rfl ?_
      refine q_aload (pc' := 216) X hx (hb hby at_214) rfl rfl rfl ?_
      refine q_callV (pc' := 219) (y := y5) (rest := [(.int (1 : Int32))]) X hx hZ hown (hb hby at_216) (t24 hw) (t25 hw) (t27 hw) (t26 hw) (t9 hw) (t28 hw) (by decide) eT E_b30_6 [] (c5_size hw wd  O E_b30_6 F_items_b30_6 F_end_b30_6 F_first_b30_6) (by rw [hml]; rfl) (lenOf pd_4 rfl) (W := 1) rfl (by decide) (by decide) (by decide) (by decide) rfl ?_
      rintro _ T _ X ⟨rfl, rfl, eT⟩
      rw [List.append_nil] at X
      show Run p e below _ (T.setTop (mkF m 219 _ [(.int (0 : Int32)), (.int (1 : Int32))]))
      refine q_iload (pc' := 221) X hx (hb hby at_219) rfl rfl ?_
      refine q_icmpNo (pc' := 224) X hx (hb hby at_221) (by decide) rfl ?_
      refine q_iconst (pc' := 225) (z := (1 : Int32)) X hx (hb hby at_224) rfl rfl ?_
      refine q_goto (pc' := 229) X hx (hb hby at_225) (by decide) (by decide) ?_
      refine q_iand (pc' := 230) (z := (1 : Int32)) X hx (hb hby at_229) (by decide) rfl ?_
      refine q_istore (pc' := 232) (l' := #[.val (.int p1), .val (.int p2), .val (.int p3), .val (.int p4), .val (.int (0 : Int32)), .val (.int (3 : Int32)), .val (.ref r_1), .val (.ref r_3), .val (.ref r_5), .val (.ref b30_6), .val (.int (1 : Int32)), .val (.int (0 : Int32)), .unset]) X hx (hb hby at_230) rfl rfl ?_
      refine q_aload (pc' := 234) X hx (hb hby at_232) rfl rfl rfl ?_
      refine q_callV (pc' := 237) (y := y6) (rest := []) X hx hZ hown (hb hby at_234) (t33 hw) (t34 hw) (t36 hw) (t35 hw) (t9 hw) (t37 hw) (by decide) eT E_b30_6 [] (c6_peek hw wd  O E_b30_6 F_items_b30_6 F_end_b30_6 F_first_b30_6) (by rw [hml]; rfl) (lenOf pd_5 rfl) (W := 0) rfl (by decide) (by decide) (by decide) (by decide) rfl ?_
      rintro _ T _ X ⟨rfl, rfl, eT⟩
      rw [List.append_nil] at X
      show Run p e below _ (T.setTop (mkF m 237 _ [.null]))
      refine q_astore (pc' := 239) (l' := #[.val (.int p1), .val (.int p2), .val (.int p3), .val (.int p4), .val (.int (0 : Int32)), .val (.int (3 : Int32)), .val (.ref r_1), .val (.ref r_3), .val (.ref r_5), .val (.ref b30_6), .val (.int (1 : Int32)), .val (.int (0 : Int32)), .val .null]) X hx (hb hby at_237) rfl rfl rfl ?_
      refine q_iload (pc' := 241) X hx (hb hby at_239) rfl rfl ?_
      refine q_aload (pc' := 243) X hx (hb hby at_241) rfl rfl rfl ?_
      refine q_iload (pc' := 245) X hx (hb hby at_243) rfl rfl ?_
      refine q_iconst (pc' := 246) (z := (1 : Int32)) X hx (hb hby at_245) rfl rfl ?_
      refine q_iadd (pc' := 247) (z := (4 : Int32)) X hx (hb hby at_246) (by decide) rfl ?_
      refine q_iload (pc' := 249) X hx (hb hby at_247) rfl rfl ?_
      refine q_aload (pc' := 251) X hx (hb hby at_249) rfl rfl rfl ?_
      refine q_aload (pc' := 253) X hx (hb hby at_251) rfl rfl rfl ?_
      refine q_aload (pc' := 255) X hx (hb hby at_253) rfl rfl rfl ?_
      refine q_callC (pc' := 258) (y := y7) (rest := [.null, (.int (1 : Int32))]) X hx hZ hown (hb hby at_255) (t38 hw) (t39 hw) (t40 hw) (t41 hw) (by decide) eT [(.int (4 : Int32)), (.int (0 : Int32)), (.ref r_1), (.ref r_3), (.ref r_5)] (c14_expected hw wd (p2) (p3) (p4) O E_r_1 F_value_r_1 E_r_3 F_value_r_3 E_r_5 F_value_r_5) (by rw [hml]; rfl) (lenOf pd_6 rfl) (W := 2) rfl (by decide) (by decide) (by decide) (by decide) rfl ?_
      rintro _ T _ X ⟨rfl, rfl, eT⟩
      rw [List.append_nil] at X
      show Run p e below _ (T.setTop (mkF m 258 _ [.null, .null, (.int (1 : Int32))]))
      refine q_acmp (pc' := 261) (same := true) X hx (hb hby at_258) rfl rfl (decide_eq_true rfl) (by decide) (by decide) ?_
      refine q_iconst (pc' := 262) (z := (1 : Int32)) X hx (hb hby at_261) rfl rfl ?_
      refine q_goto (pc' := 266) X hx (hb hby at_262) (by decide) (by decide) ?_
      refine q_iand (pc' := 267) (z := (1 : Int32)) X hx (hb hby at_266) (by decide) rfl ?_
      refine q_istore (pc' := 269) (l' := #[.val (.int p1), .val (.int p2), .val (.int p3), .val (.int p4), .val (.int (0 : Int32)), .val (.int (3 : Int32)), .val (.ref r_1), .val (.ref r_3), .val (.ref r_5), .val (.ref b30_6), .val (.int (1 : Int32)), .val (.int (0 : Int32)), .val .null]) X hx (hb hby at_267) rfl rfl ?_
      refine q_iload (pc' := 271) X hx (hb hby at_269) rfl rfl ?_
      refine Run.retB X hx hlk hret (hb hby at_271) rfl (by decide) (by decide) ?_
      try rw [eT]
      exact ⟨rfl, N⟩
  · rw [hi]
    refine q_iload (pc' := 41) X hx (hb hby at_39) rfl rfl ?_
    refine q_iconst (pc' := 42) (z := (1 : Int32)) X hx (hb hby at_41) rfl rfl ?_
    refine q_icmpNo (pc' := 45) X hx (hb hby at_42) (by decide) rfl ?_
    refine q_aload (pc' := 47) X hx (hb hby at_45) rfl rfl rfl ?_
    refine q_aload (pc' := 49) X hx (hb hby at_47) rfl rfl rfl ?_
    have lt_b30_6 := E_b30_6.lt
    have lt_r_1 := E_r_1.lt
    refine q_callV (pc' := 52) (y := y10) (rest := []) X hx hZ hown (hb hby at_49) (t62 hw) (t63 hw) (t65 hw) (t64 hw) (t9 hw) (t66 hw) (by decide) eT E_b30_6 [(.ref r_1)] (c15_add hw wd (p2) O E_r_1 F_value_r_1 E_b30_6 F_items_b30_6 F_end_b30_6 F_first_b30_6 g_b30_6) (by rw [hml]; rfl) (lenOf pd_7 rfl) (W := 0) rfl (by decide) (by decide) (by decide) (by decide) rfl ?_
    rintro _ T _ X ⟨b41_0_c1_c10, k_b41_0_c1_c10, rfl, NL, KL, szn_b41_0_c1_c10, E_b30_6, F_items_b30_6, F_end_b30_6, F_first_b30_6, V_b41_0_c1_c10, Ov_b41_0_c1_c10⟩
    have N := N.app NL
    have ne_b30_6_b41_0_c1_c10 : b30_6 ≠ b41_0_c1_c10 := Nat.ne_of_lt (Nat.lt_of_lt_of_le lt_b30_6 szn_b41_0_c1_c10)
    have ne_r_1_b41_0_c1_c10 : r_1 ≠ b41_0_c1_c10 := Nat.ne_of_lt (Nat.lt_of_lt_of_le lt_r_1 szn_b41_0_c1_c10)
    have g_b41_0_c1_c10 : Z.heap.size ≤ b41_0_c1_c10 := Nat.le_trans O.1 szn_b41_0_c1_c10
    obtain ⟨h_11, eT⟩ : ∃ z, T.heap = z := ⟨_, rfl⟩
    rw [eT] at KL E_b30_6 F_items_b30_6 F_end_b30_6 F_first_b30_6 V_b41_0_c1_c10
    have O := ext_keep O KL (allS g_b30_6 all0)
    have E_r_1 := E_r_1.keep KL
    have F_value_r_1 := F_value_r_1.keep KL (ninS ne_r_1_b30_6 nin0)
    have E_r_3 := E_r_3.keep KL
    have F_value_r_3 := F_value_r_3.keep KL (ninS ne_r_3_b30_6 nin0)
    have E_r_5 := E_r_5.keep KL
    have F_value_r_5 := F_value_r_5.keep KL (ninS ne_r_5_b30_6 nin0)
    show Run p e below _ (T.setTop (mkF m 52 _ []))
    refine q_iload (pc' := 54) X hx (hb hby at_52) rfl rfl ?_
    refine q_iconst (pc' := 55) (z := (2 : Int32)) X hx (hb hby at_54) rfl rfl ?_
    refine q_icmpYes (pc' := 65) X hx (hb hby at_55) (by decide) (by decide) (by decide) ?_
    refine q_iload (pc' := 67) X hx (hb hby at_65) rfl rfl ?_
    refine q_iconst (pc' := 68) (z := (3 : Int32)) X hx (hb hby at_67) rfl rfl ?_
    refine q_icmpYes (pc' := 78) X hx (hb hby at_68) (by decide) (by decide) (by decide) ?_
    refine q_iconst (pc' := 79) (z := (1 : Int32)) X hx (hb hby at_78) rfl rfl ?_
    refine q_istore (pc' := 81) (l' := #[.val (.int p1), .val (.int p2), .val (.int p3), .val (.int p4), .val (.int (1 : Int32)), .val (.int (((p1.toUInt32 >>> ((2 : Int32) &&& 31).toUInt32).toInt32) &&& (3 : Int32))), .val (.ref r_1), .val (.ref r_3), .val (.ref r_5), .val (.ref b30_6), .val (.int (1 : Int32)), .unset, .unset]) X hx (hb hby at_79) rfl rfl ?_
    rcases own_sel ((p1.toUInt32 >>> ((2 : Int32) &&& 31).toUInt32).toInt32) with hi | hi | hi | hi
    · rw [hi]
      refine q_iload (pc' := 83) X hx (hb hby at_81) rfl rfl ?_
      refine q_iconst (pc' := 84) (z := (1 : Int32)) X hx (hb hby at_83) rfl rfl ?_
      refine q_icmpYes (pc' := 121) X hx (hb hby at_84) (by decide) (by decide) (by decide) ?_
      refine q_iload (pc' := 123) X hx (hb hby at_121) rfl rfl ?_
      refine q_iconst (pc' := 124) (z := (2 : Int32)) X hx (hb hby at_123) rfl rfl ?_
      refine q_icmpYes (pc' := 161) X hx (hb hby at_124) (by decide) (by decide) (by decide) ?_
      refine q_iload (pc' := 163) X hx (hb hby at_161) rfl rfl ?_
      refine q_iconst (pc' := 164) (z := (3 : Int32)) X hx (hb hby at_163) rfl rfl ?_
      refine q_icmpYes (pc' := 201) X hx (hb hby at_164) (by decide) (by decide) (by decide) ?_
      refine q_iload (pc' := 203) X hx (hb hby at_201) rfl rfl ?_
      refine q_iload (pc' := 205) X hx (hb hby at_203) rfl rfl ?_
      refine q_isub (pc' := 206) (z := (1 : Int32)) X hx (hb hby at_205) (by decide) rfl ?_
      refine q_iconst (pc' := 207) (z := (0 : Int32)) X hx (hb hby at_206) rfl rfl ?_
      refine q_callC (pc' := 210) (y := y4) (rest := []) X hx hZ hown (hb hby at_207) (t20 hw) (t21 hw) (t22 hw) (t23 hw) (by decide) eT [(.int (1 : Int32)), (.int (0 : Int32))] (c19_max hw wd  O) (by rw [hml]; rfl) (lenOf pd_3 rfl) (W := 0) rfl (by decide) (by decide) (by decide) (by decide) rfl ?_
      rintro _ T _ X ⟨rfl, rfl, eT⟩
      rw [List.append_nil] at X
      show Run p e below _ (T.setTop (mkF m 210 _ [(.int (1 : Int32))]))
      refine q_istore (pc' := 212) (l' := #[.val (.int p1), .val (.int p2), .val (.int p3), .val (.int p4), .val (.int (1 : Int32)), .val (.int (0 : Int32)), .val (.ref r_1), .val (.ref r_3), .val (.ref r_5), .val (.ref b30_6), .val (.int (1 : Int32)), .val (.int (1 : Int32)), .unset]) X hx (hb hby at_210) rfl rfl ?_
      refine q_iload (pc' := 214) X hx (hb hby at_212) rfl rfl ?_
      refine q_aload (pc' := 216) X hx (hb hby at_214) rfl rfl rfl ?_
      refine q_callV (pc' := 219) (y := y5) (rest := [(.int (1 : Int32))]) X hx hZ hown (hb hby at_216) (t24 hw) (t25 hw) (t27 hw) (t26 hw) (t9 hw) (t28 hw) (by decide) eT E_b30_6 [] (c20_size hw wd (p2) O E_r_1 F_value_r_1 E_b30_6 F_items_b30_6 F_end_b30_6 F_first_b30_6 V_b41_0_c1_c10 Ov_b41_0_c1_c10) (by rw [hml]; rfl) (lenOf pd_4 rfl) (W := 1) rfl (by decide) (by decide) (by decide) (by decide) rfl ?_
      rintro _ T _ X ⟨rfl, rfl, eT⟩
      rw [List.append_nil] at X
      show Run p e below _ (T.setTop (mkF m 219 _ [(.int (1 : Int32)), (.int (1 : Int32))]))
      refine q_iload (pc' := 221) X hx (hb hby at_219) rfl rfl ?_
      refine q_icmpNo (pc' := 224) X hx (hb hby at_221) (by decide) rfl ?_
      refine q_iconst (pc' := 225) (z := (1 : Int32)) X hx (hb hby at_224) rfl rfl ?_
      refine q_goto (pc' := 229) X hx (hb hby at_225) (by decide) (by decide) ?_
      refine q_iand (pc' := 230) (z := (1 : Int32)) X hx (hb hby at_229) (by decide) rfl ?_
      refine q_istore (pc' := 232) (l' := #[.val (.int p1), .val (.int p2), .val (.int p3), .val (.int p4), .val (.int (1 : Int32)), .val (.int (0 : Int32)), .val (.ref r_1), .val (.ref r_3), .val (.ref r_5), .val (.ref b30_6), .val (.int (1 : Int32)), .val (.int (1 : Int32)), .unset]) X hx (hb hby at_230) rfl rfl ?_
      refine q_aload (pc' := 234) X hx (hb hby at_232) rfl rfl rfl ?_
      refine q_callV (pc' := 237) (y := y6) (rest := []) X hx hZ hown (hb hby at_234) (t33 hw) (t34 hw) (t36 hw) (t35 hw) (t9 hw) (t37 hw) (by decide) eT E_b30_6 [] (c21_peek hw wd (p2) O E_r_1 F_value_r_1 E_b30_6 F_items_b30_6 F_end_b30_6 F_first_b30_6 V_b41_0_c1_c10 Ov_b41_0_c1_c10) (by rw [hml]; rfl) (lenOf pd_5 rfl) (W := 0) rfl (by decide) (by decide) (by decide) (by decide) rfl ?_
      rintro _ T _ X ⟨rfl, rfl, eT⟩
      rw [List.append_nil] at X
      show Run p e below _ (T.setTop (mkF m 237 _ [(.ref r_1)]))
      refine q_astore (pc' := 239) (l' := #[.val (.int p1), .val (.int p2), .val (.int p3), .val (.int p4), .val (.int (1 : Int32)), .val (.int (0 : Int32)), .val (.ref r_1), .val (.ref r_3), .val (.ref r_5), .val (.ref b30_6), .val (.int (1 : Int32)), .val (.int (1 : Int32)), .val (.ref r_1)]) X hx (hb hby at_237) rfl rfl rfl ?_
      refine q_iload (pc' := 241) X hx (hb hby at_239) rfl rfl ?_
      refine q_aload (pc' := 243) X hx (hb hby at_241) rfl rfl rfl ?_
      refine q_iload (pc' := 245) X hx (hb hby at_243) rfl rfl ?_
      refine q_iconst (pc' := 246) (z := (1 : Int32)) X hx (hb hby at_245) rfl rfl ?_
      refine q_iadd (pc' := 247) (z := (1 : Int32)) X hx (hb hby at_246) (by decide) rfl ?_
      refine q_iload (pc' := 249) X hx (hb hby at_247) rfl rfl ?_
      refine q_aload (pc' := 251) X hx (hb hby at_249) rfl rfl rfl ?_
      refine q_aload (pc' := 253) X hx (hb hby at_251) rfl rfl rfl ?_
      refine q_aload (pc' := 255) X hx (hb hby at_253) rfl rfl rfl ?_
      refine q_callC (pc' := 258) (y := y7) (rest := [(.ref r_1), (.int (1 : Int32))]) X hx hZ hown (hb hby at_255) (t38 hw) (t39 hw) (t40 hw) (t41 hw) (by decide) eT [(.int (1 : Int32)), (.int (1 : Int32)), (.ref r_1), (.ref r_3), (.ref r_5)] (c22_expected hw wd (p2) (p3) (p4) O E_r_1 F_value_r_1 E_r_3 F_value_r_3 E_r_5 F_value_r_5) (by rw [hml]; rfl) (lenOf pd_6 rfl) (W := 2) rfl (by decide) (by decide) (by decide) (by decide) rfl ?_
      rintro _ T _ X ⟨rfl, rfl, eT⟩
      rw [List.append_nil] at X
      show Run p e below _ (T.setTop (mkF m 258 _ [(.ref r_1), (.ref r_1), (.int (1 : Int32))]))
      refine q_acmp (pc' := 261) (same := true) X hx (hb hby at_258) rfl rfl (decide_eq_true rfl) (by decide) (by decide) ?_
      refine q_iconst (pc' := 262) (z := (1 : Int32)) X hx (hb hby at_261) rfl rfl ?_
      refine q_goto (pc' := 266) X hx (hb hby at_262) (by decide) (by decide) ?_
      refine q_iand (pc' := 267) (z := (1 : Int32)) X hx (hb hby at_266) (by decide) rfl ?_
      refine q_istore (pc' := 269) (l' := #[.val (.int p1), .val (.int p2), .val (.int p3), .val (.int p4), .val (.int (1 : Int32)), .val (.int (0 : Int32)), .val (.ref r_1), .val (.ref r_3), .val (.ref r_5), .val (.ref b30_6), .val (.int (1 : Int32)), .val (.int (1 : Int32)), .val (.ref r_1)]) X hx (hb hby at_267) rfl rfl ?_
      refine q_iload (pc' := 271) X hx (hb hby at_269) rfl rfl ?_
      refine Run.retB X hx hlk hret (hb hby at_271) rfl (by decide) (by decide) ?_
      try rw [eT]
      exact ⟨rfl, N⟩
    · rw [hi]
      refine q_iload (pc' := 83) X hx (hb hby at_81) rfl rfl ?_
      refine q_iconst (pc' := 84) (z := (1 : Int32)) X hx (hb hby at_83) rfl rfl ?_
      refine q_icmpNo (pc' := 87) X hx (hb hby at_84) (by decide) rfl ?_
      refine q_aload (pc' := 89) X hx (hb hby at_87) rfl rfl rfl ?_
      have ne_r_3_b41_0_c1_c10 : r_3 ≠ b41_0_c1_c10 := Exa.neArv E_r_3 V_b41_0_c1_c10 (t48 hw)
      have ne_r_5_b41_0_c1_c10 : r_5 ≠ b41_0_c1_c10 := Exa.neArv E_r_5 V_b41_0_c1_c10 (t48 hw)
      refine q_callV (pc' := 92) (y := y8) (rest := []) X hx hZ hown (hb hby at_89) (t42 hw) (t43 hw) (t45 hw) (t44 hw) (t9 hw) (t46 hw) (by decide) eT E_b30_6 [] (c23_poll hw wd (p2) O E_r_1 F_value_r_1 E_b30_6 F_items_b30_6 F_end_b30_6 F_first_b30_6 V_b41_0_c1_c10 Ov_b41_0_c1_c10 g_b30_6 g_b41_0_c1_c10) (by rw [hml]; rfl) (lenOf pd_5 rfl) (W := 0) rfl (by decide) (by decide) (by decide) (by decide) rfl ?_
      rintro _ T _ X ⟨rfl, NL, KL, E_b30_6, F_items_b30_6, F_end_b30_6, F_first_b30_6, V_b41_0_c1_c10⟩
      have N := N.app NL
      obtain ⟨h_13, eT⟩ : ∃ z, T.heap = z := ⟨_, rfl⟩
      rw [eT] at KL E_b30_6 F_items_b30_6 F_end_b30_6 F_first_b30_6 V_b41_0_c1_c10
      have O := ext_keep O KL (allS g_b30_6 (allS g_b41_0_c1_c10 all0))
      have E_r_1 := E_r_1.keep KL
      have F_value_r_1 := F_value_r_1.keep KL (ninS ne_r_1_b30_6 (ninS ne_r_1_b41_0_c1_c10 nin0))
      have E_r_3 := E_r_3.keep KL
      have F_value_r_3 := F_value_r_3.keep KL (ninS ne_r_3_b30_6 (ninS ne_r_3_b41_0_c1_c10 nin0))
      have E_r_5 := E_r_5.keep KL
      have F_value_r_5 := F_value_r_5.keep KL (ninS ne_r_5_b30_6 (ninS ne_r_5_b41_0_c1_c10 nin0))
      show Run p e below _ (T.setTop (mkF m 92 _ [(.ref r_1)]))
      refine q_astore (pc' := 94) (l' := #[.val (.int p1), .val (.int p2), .val (.int p3), .val (.int p4), .val (.int (1 : Int32)), .val (.int (1 : Int32)), .val (.ref r_1), .val (.ref r_3), .val (.ref r_5), .val (.ref b30_6), .val (.int (1 : Int32)), .val (.ref r_1), .unset]) X hx (hb hby at_92) rfl rfl rfl ?_
      refine q_iload (pc' := 96) X hx (hb hby at_94) rfl rfl ?_
      refine q_aload (pc' := 98) X hx (hb hby at_96) rfl rfl rfl ?_
      refine q_iconst (pc' := 99) (z := (1 : Int32)) X hx (hb hby at_98) rfl rfl ?_
      refine q_iload (pc' := 101) X hx (hb hby at_99) rfl rfl ?_
      refine q_aload (pc' := 103) X hx (hb hby at_101) rfl rfl rfl ?_
      refine q_aload (pc' := 105) X hx (hb hby at_103) rfl rfl rfl ?_
      refine q_aload (pc' := 107) X hx (hb hby at_105) rfl rfl rfl ?_
      refine q_callC (pc' := 110) (y := y7) (rest := [(.ref r_1), (.int (1 : Int32))]) X hx hZ hown (hb hby at_107) (t38 hw) (t39 hw) (t40 hw) (t41 hw) (by decide) eT [(.int (1 : Int32)), (.int (1 : Int32)), (.ref r_1), (.ref r_3), (.ref r_5)] (c22_expected hw wd (p2) (p3) (p4) O E_r_1 F_value_r_1 E_r_3 F_value_r_3 E_r_5 F_value_r_5) (by rw [hml]; rfl) (lenOf pd_6 rfl) (W := 2) rfl (by decide) (by decide) (by decide) (by decide) rfl ?_
      rintro _ T _ X ⟨rfl, rfl, eT⟩
      rw [List.append_nil] at X
      show Run p e below _ (T.setTop (mkF m 110 _ [(.ref r_1), (.ref r_1), (.int (1 : Int32))]))
      refine q_acmp (pc' := 113) (same := true) X hx (hb hby at_110) rfl rfl (decide_eq_true rfl) (by decide) (by decide) ?_
      refine q_iconst (pc' := 114) (z := (1 : Int32)) X hx (hb hby at_113) rfl rfl ?_
      refine q_goto (pc' := 118) X hx (hb hby at_114) (by decide) (by decide) ?_
      refine q_iand (pc' := 119) (z := (1 : Int32)) X hx (hb hby at_118) (by decide) rfl ?_
      refine q_istore (pc' := 121) (l' := #[.val (.int p1), .val (.int p2), .val (.int p3), .val (.int p4), .val (.int (1 : Int32)), .val (.int (1 : Int32)), .val (.ref r_1), .val (.ref r_3), .val (.ref r_5), .val (.ref b30_6), .val (.int (1 : Int32)), .val (.ref r_1), .unset]) X hx (hb hby at_119) rfl rfl ?_
      refine q_iload (pc' := 123) X hx (hb hby at_121) rfl rfl ?_
      refine q_iconst (pc' := 124) (z := (2 : Int32)) X hx (hb hby at_123) rfl rfl ?_
      refine q_icmpYes (pc' := 161) X hx (hb hby at_124) (by decide) (by decide) (by decide) ?_
      refine q_iload (pc' := 163) X hx (hb hby at_161) rfl rfl ?_
      refine q_iconst (pc' := 164) (z := (3 : Int32)) X hx (hb hby at_163) rfl rfl ?_
      refine q_icmpYes (pc' := 201) X hx (hb hby at_164) (by decide) (by decide) (by decide) ?_
      refine q_iload (pc' := 203) X hx (hb hby at_201) rfl rfl ?_
      refine q_iload (pc' := 205) X hx (hb hby at_203) rfl rfl ?_
      refine q_isub (pc' := 206) (z := (0 : Int32)) X hx (hb hby at_205) (by decide) rfl ?_
      refine q_iconst (pc' := 207) (z := (0 : Int32)) X hx (hb hby at_206) rfl rfl ?_
      refine q_callC (pc' := 210) (y := y4) (rest := []) X hx hZ hown (hb hby at_207) (t20 hw) (t21 hw) (t22 hw) (t23 hw) (by decide) eT [(.int (0 : Int32)), (.int (0 : Int32))] (c4_max hw wd  O) (by rw [hml]; rfl) (lenOf pd_3 rfl) (W := 0) rfl (by decide) (by decide) (by decide) (by decide) rfl ?_
      rintro _ T _ X ⟨rfl, rfl, eT⟩
      rw [List.append_nil] at X
      show Run p e below _ (T.setTop (mkF m 210 _ [(.int (0 : Int32))]))
      refine q_istore (pc' := 212) (l' := #[.val (.int p1), .val (.int p2), .val (.int p3), .val (.int p4), .val (.int (1 : Int32)), .val (.int (1 : Int32)), .val (.ref r_1), .val (.ref r_3), .val (.ref r_5), .val (.ref b30_6), .val (.int (1 : Int32)), .val (.int (0 : Int32)), .unset]) X hx (hb hby at_210) rfl rfl ?_
      refine q_iload (pc' := 214) X hx (hb hby at_212) rfl rfl ?_
      refine q_aload (pc' := 216) X hx (hb hby at_214) rfl rfl rfl ?_
      refine q_callV (pc' := 219) (y := y5) (rest := [(.int (1 : Int32))]) X hx hZ hown (hb hby at_216) (t24 hw) (t25 hw) (t27 hw) (t26 hw) (t9 hw) (t28 hw) (by decide) eT E_b30_6 [] (c24_size hw wd  O E_b30_6 F_items_b30_6 F_end_b30_6 F_first_b30_6 V_b41_0_c1_c10 Ov_b41_0_c1_c10) (by rw [hml]; rfl) (lenOf pd_4 rfl) (W := 1) rfl (by decide) (by decide) (by decide) (by decide) rfl ?_
      rintro _ T _ X ⟨rfl, rfl, eT⟩
      rw [List.append_nil] at X
      show Run p e below _ (T.setTop (mkF m 219 _ [(.int (0 : Int32)), (.int (1 : Int32))]))
      refine q_iload (pc' := 221) X hx (hb hby at_219) rfl rfl ?_
      refine q_icmpNo (pc' := 224) X hx (hb hby at_221) (by decide) rfl ?_
      refine q_iconst (pc' := 225) (z := (1 : Int32)) X hx (hb hby at_224) rfl rfl ?_
      refine q_goto (pc' := 229) X hx (hb hby at_225) (by decide) (by decide) ?_
      refine q_iand (pc' := 230) (z := (1 : Int32)) X hx (hb hby at_229) (by decide) rfl ?_
      refine q_istore (pc' := 232) (l' := #[.val (.int p1), .val (.int p2), .val (.int p3), .val (.int p4), .val (.int (1 : Int32)), .val (.int (1 : Int32)), .val (.ref r_1), .val (.ref r_3), .val (.ref r_5), .val (.ref b30_6), .val (.int (1 : Int32)), .val (.int (0 : Int32)), .unset]) X hx (hb hby at_230) rfl rfl ?_
      refine q_aload (pc' := 234) X hx (hb hby at_232) rfl rfl rfl ?_
      refine q_callV (pc' := 237) (y := y6) (rest := []) X hx hZ hown (hb hby at_234) (t33 hw) (t34 hw) (t36 hw) (t35 hw) (t9 hw) (t37 hw) (by decide) eT E_b30_6 [] (c25_peek hw wd  O E_b30_6 F_items_b30_6 F_end_b30_6 F_first_b30_6 V_b41_0_c1_c10 Ov_b41_0_c1_c10) (by rw [hml]; rfl) (lenOf pd_5 rfl) (W := 0) rfl (by decide) (by decide) (by decide) (by decide) rfl ?_
      rintro _ T _ X ⟨rfl, rfl, eT⟩
      rw [List.append_nil] at X
      show Run p e below _ (T.setTop (mkF m 237 _ [.null]))
      refine q_astore (pc' := 239) (l' := #[.val (.int p1), .val (.int p2), .val (.int p3), .val (.int p4), .val (.int (1 : Int32)), .val (.int (1 : Int32)), .val (.ref r_1), .val (.ref r_3), .val (.ref r_5), .val (.ref b30_6), .val (.int (1 : Int32)), .val (.int (0 : Int32)), .val .null]) X hx (hb hby at_237) rfl rfl rfl ?_
      refine q_iload (pc' := 241) X hx (hb hby at_239) rfl rfl ?_
      refine q_aload (pc' := 243) X hx (hb hby at_241) rfl rfl rfl ?_
      refine q_iload (pc' := 245) X hx (hb hby at_243) rfl rfl ?_
      refine q_iconst (pc' := 246) (z := (1 : Int32)) X hx (hb hby at_245) rfl rfl ?_
      refine q_iadd (pc' := 247) (z := (2 : Int32)) X hx (hb hby at_246) (by decide) rfl ?_
      refine q_iload (pc' := 249) X hx (hb hby at_247) rfl rfl ?_
      refine q_aload (pc' := 251) X hx (hb hby at_249) rfl rfl rfl ?_
      refine q_aload (pc' := 253) X hx (hb hby at_251) rfl rfl rfl ?_
      refine q_aload (pc' := 255) X hx (hb hby at_253) rfl rfl rfl ?_
      refine q_callC (pc' := 258) (y := y7) (rest := [.null, (.int (1 : Int32))]) X hx hZ hown (hb hby at_255) (t38 hw) (t39 hw) (t40 hw) (t41 hw) (by decide) eT [(.int (2 : Int32)), (.int (1 : Int32)), (.ref r_1), (.ref r_3), (.ref r_5)] (c26_expected hw wd (p2) (p3) (p4) O E_r_1 F_value_r_1 E_r_3 F_value_r_3 E_r_5 F_value_r_5) (by rw [hml]; rfl) (lenOf pd_6 rfl) (W := 2) rfl (by decide) (by decide) (by decide) (by decide) rfl ?_
      rintro _ T _ X ⟨rfl, rfl, eT⟩
      rw [List.append_nil] at X
      show Run p e below _ (T.setTop (mkF m 258 _ [.null, .null, (.int (1 : Int32))]))
      refine q_acmp (pc' := 261) (same := true) X hx (hb hby at_258) rfl rfl (decide_eq_true rfl) (by decide) (by decide) ?_
      refine q_iconst (pc' := 262) (z := (1 : Int32)) X hx (hb hby at_261) rfl rfl ?_
      refine q_goto (pc' := 266) X hx (hb hby at_262) (by decide) (by decide) ?_
      refine q_iand (pc' := 267) (z := (1 : Int32)) X hx (hb hby at_266) (by decide) rfl ?_
      refine q_istore (pc' := 269) (l' := #[.val (.int p1), .val (.int p2), .val (.int p3), .val (.int p4), .val (.int (1 : Int32)), .val (.int (1 : Int32)), .val (.ref r_1), .val (.ref r_3), .val (.ref r_5), .val (.ref b30_6), .val (.int (1 : Int32)), .val (.int (0 : Int32)), .val .null]) X hx (hb hby at_267) rfl rfl ?_
      refine q_iload (pc' := 271) X hx (hb hby at_269) rfl rfl ?_
      refine Run.retB X hx hlk hret (hb hby at_271) rfl (by decide) (by decide) ?_
      try rw [eT]
      exact ⟨rfl, N⟩
    · rw [hi]
      refine q_iload (pc' := 83) X hx (hb hby at_81) rfl rfl ?_
      refine q_iconst (pc' := 84) (z := (1 : Int32)) X hx (hb hby at_83) rfl rfl ?_
      refine q_icmpNo (pc' := 87) X hx (hb hby at_84) (by decide) rfl ?_
      refine q_aload (pc' := 89) X hx (hb hby at_87) rfl rfl rfl ?_
      have ne_r_3_b41_0_c1_c10 : r_3 ≠ b41_0_c1_c10 := Exa.neArv E_r_3 V_b41_0_c1_c10 (t48 hw)
      have ne_r_5_b41_0_c1_c10 : r_5 ≠ b41_0_c1_c10 := Exa.neArv E_r_5 V_b41_0_c1_c10 (t48 hw)
      refine q_callV (pc' := 92) (y := y8) (rest := []) X hx hZ hown (hb hby at_89) (t42 hw) (t43 hw) (t45 hw) (t44 hw) (t9 hw) (t46 hw) (by decide) eT E_b30_6 [] (c23_poll hw wd (p2) O E_r_1 F_value_r_1 E_b30_6 F_items_b30_6 F_end_b30_6 F_first_b30_6 V_b41_0_c1_c10 Ov_b41_0_c1_c10 g_b30_6 g_b41_0_c1_c10) (by rw [hml]; rfl) (lenOf pd_5 rfl) (W := 0) rfl (by decide) (by decide) (by decide) (by decide) rfl ?_
      rintro _ T _ X ⟨rfl, NL, KL, E_b30_6, F_items_b30_6, F_end_b30_6, F_first_b30_6, V_b41_0_c1_c10⟩
      have N := N.app NL
      obtain ⟨h_13, eT⟩ : ∃ z, T.heap = z := ⟨_, rfl⟩
      rw [eT] at KL E_b30_6 F_items_b30_6 F_end_b30_6 F_first_b30_6 V_b41_0_c1_c10
      have O := ext_keep O KL (allS g_b30_6 (allS g_b41_0_c1_c10 all0))
      have E_r_1 := E_r_1.keep KL
      have F_value_r_1 := F_value_r_1.keep KL (ninS ne_r_1_b30_6 (ninS ne_r_1_b41_0_c1_c10 nin0))
      have E_r_3 := E_r_3.keep KL
      have F_value_r_3 := F_value_r_3.keep KL (ninS ne_r_3_b30_6 (ninS ne_r_3_b41_0_c1_c10 nin0))
      have E_r_5 := E_r_5.keep KL
      have F_value_r_5 := F_value_r_5.keep KL (ninS ne_r_5_b30_6 (ninS ne_r_5_b41_0_c1_c10 nin0))
      show Run p e below _ (T.setTop (mkF m 92 _ [(.ref r_1)]))
      refine q_astore (pc' := 94) (l' := #[.val (.int p1), .val (.int p2), .val (.int p3), .val (.int p4), .val (.int (1 : Int32)), .val (.int (2 : Int32)), .val (.ref r_1), .val (.ref r_3), .val (.ref r_5), .val (.ref b30_6), .val (.int (1 : Int32)), .val (.ref r_1), .unset]) X hx (hb hby at_92) rfl rfl rfl ?_
      refine q_iload (pc' := 96) X hx (hb hby at_94) rfl rfl ?_
      refine q_aload (pc' := 98) X hx (hb hby at_96) rfl rfl rfl ?_
      refine q_iconst (pc' := 99) (z := (1 : Int32)) X hx (hb hby at_98) rfl rfl ?_
      refine q_iload (pc' := 101) X hx (hb hby at_99) rfl rfl ?_
      refine q_aload (pc' := 103) X hx (hb hby at_101) rfl rfl rfl ?_
      refine q_aload (pc' := 105) X hx (hb hby at_103) rfl rfl rfl ?_
      refine q_aload (pc' := 107) X hx (hb hby at_105) rfl rfl rfl ?_
      refine q_callC (pc' := 110) (y := y7) (rest := [(.ref r_1), (.int (1 : Int32))]) X hx hZ hown (hb hby at_107) (t38 hw) (t39 hw) (t40 hw) (t41 hw) (by decide) eT [(.int (1 : Int32)), (.int (1 : Int32)), (.ref r_1), (.ref r_3), (.ref r_5)] (c22_expected hw wd (p2) (p3) (p4) O E_r_1 F_value_r_1 E_r_3 F_value_r_3 E_r_5 F_value_r_5) (by rw [hml]; rfl) (lenOf pd_6 rfl) (W := 2) rfl (by decide) (by decide) (by decide) (by decide) rfl ?_
      rintro _ T _ X ⟨rfl, rfl, eT⟩
      rw [List.append_nil] at X
      show Run p e below _ (T.setTop (mkF m 110 _ [(.ref r_1), (.ref r_1), (.int (1 : Int32))]))
      refine q_acmp (pc' := 113) (same := true) X hx (hb hby at_110) rfl rfl (decide_eq_true rfl) (by decide) (by decide) ?_
      refine q_iconst (pc' := 114) (z := (1 : Int32)) X hx (hb hby at_113) rfl rfl ?_
      refine q_goto (pc' := 118) X hx (hb hby at_114) (by decide) (by decide) ?_
      refine q_iand (pc' := 119) (z := (1 : Int32)) X hx (hb hby at_118) (by decide) rfl ?_
      refine q_istore (pc' := 121) (l' := #[.val (.int p1), .val (.int p2), .val (.int p3), .val (.int p4), .val (.int (1 : Int32)), .val (.int (2 : Int32)), .val (.ref r_1), .val (.ref r_3), .val (.ref r_5), .val (.ref b30_6), .val (.int (1 : Int32)), .val (.ref r_1), .unset]) X hx (hb hby at_119) rfl rfl ?_
      refine q_iload (pc' := 123) X hx (hb hby at_121) rfl rfl ?_
      refine q_iconst (pc' := 124) (z := (2 : Int32)) X hx (hb hby at_123) rfl rfl ?_
      refine q_icmpNo (pc' := 127) X hx (hb hby at_124) (by decide) rfl ?_
      refine q_aload (pc' := 129) X hx (hb hby at_127) rfl rfl rfl ?_
      refine q_callV (pc' := 132) (y := y8) (rest := []) X hx hZ hown (hb hby at_129) (t42 hw) (t43 hw) (t45 hw) (t44 hw) (t9 hw) (t46 hw) (by decide) eT E_b30_6 [] (c27_poll hw wd  O E_b30_6 F_items_b30_6 F_end_b30_6 F_first_b30_6 V_b41_0_c1_c10 Ov_b41_0_c1_c10) (by rw [hml]; rfl) (lenOf pd_5 rfl) (W := 0) rfl (by decide) (by decide) (by decide) (by decide) rfl ?_
      rintro _ T _ X ⟨rfl, rfl, eT⟩
      rw [List.append_nil] at X
      show Run p e below _ (T.setTop (mkF m 132 _ [.null]))
      refine q_astore (pc' := 134) (l' := #[.val (.int p1), .val (.int p2), .val (.int p3), .val (.int p4), .val (.int (1 : Int32)), .val (.int (2 : Int32)), .val (.ref r_1), .val (.ref r_3), .val (.ref r_5), .val (.ref b30_6), .val (.int (1 : Int32)), .val .null, .unset]) X hx (hb hby at_132) rfl rfl rfl ?_
      refine q_iload (pc' := 136) X hx (hb hby at_134) rfl rfl ?_
      refine q_aload (pc' := 138) X hx (hb hby at_136) rfl rfl rfl ?_
      refine q_iconst (pc' := 139) (z := (2 : Int32)) X hx (hb hby at_138) rfl rfl ?_
      refine q_iload (pc' := 141) X hx (hb hby at_139) rfl rfl ?_
      refine q_aload (pc' := 143) X hx (hb hby at_141) rfl rfl rfl ?_
      refine q_aload (pc' := 145) X hx (hb hby at_143) rfl rfl rfl ?_
      refine q_aload (pc' := 147) X hx (hb hby at_145) rfl rfl rfl ?_
      refine q_callC (pc' := 150) (y := y7) (rest := [.null, (.int (1 : Int32))]) X hx hZ hown (hb hby at_147) (t38 hw) (t39 hw) (t40 hw) (t41 hw) (by decide) eT [(.int (2 : Int32)), (.int (1 : Int32)), (.ref r_1), (.ref r_3), (.ref r_5)] (c26_expected hw wd (p2) (p3) (p4) O E_r_1 F_value_r_1 E_r_3 F_value_r_3 E_r_5 F_value_r_5) (by rw [hml]; rfl) (lenOf pd_6 rfl) (W := 2) rfl (by decide) (by decide) (by decide) (by decide) rfl ?_
      rintro _ T _ X ⟨rfl, rfl, eT⟩
      rw [List.append_nil] at X
      show Run p e below _ (T.setTop (mkF m 150 _ [.null, .null, (.int (1 : Int32))]))
      refine q_acmp (pc' := 153) (same := true) X hx (hb hby at_150) rfl rfl (decide_eq_true rfl) (by decide) (by decide) ?_
      refine q_iconst (pc' := 154) (z := (1 : Int32)) X hx (hb hby at_153) rfl rfl ?_
      refine q_goto (pc' := 158) X hx (hb hby at_154) (by decide) (by decide) ?_
      refine q_iand (pc' := 159) (z := (1 : Int32)) X hx (hb hby at_158) (by decide) rfl ?_
      refine q_istore (pc' := 161) (l' := #[.val (.int p1), .val (.int p2), .val (.int p3), .val (.int p4), .val (.int (1 : Int32)), .val (.int (2 : Int32)), .val (.ref r_1), .val (.ref r_3), .val (.ref r_5), .val (.ref b30_6), .val (.int (1 : Int32)), .val .null, .unset]) X hx (hb hby at_159) rfl rfl ?_
      refine q_iload (pc' := 163) X hx (hb hby at_161) rfl rfl ?_
      refine q_iconst (pc' := 164) (z := (3 : Int32)) X hx (hb hby at_163) rfl rfl ?_
      refine q_icmpYes (pc' := 201) X hx (hb hby at_164) (by decide) (by decide) (by decide) ?_
      refine q_iload (pc' := 203) X hx (hb hby at_201) rfl rfl ?_
      refine q_iload (pc' := 205) X hx (hb hby at_203) rfl rfl ?_
      refine q_isub (pc' := 206) (z := (-1 : Int32)) X hx (hb hby at_205) (by decide) rfl ?_
      refine q_iconst (pc' := 207) (z := (0 : Int32)) X hx (hb hby at_206) rfl rfl ?_
      refine q_callC (pc' := 210) (y := y4) (rest := []) X hx hZ hown (hb hby at_207) (t20 hw) (t21 hw) (t22 hw) (t23 hw) (by decide) eT [(.int (-1 : Int32)), (.int (0 : Int32))] (c9_max hw wd  O) (by rw [hml]; rfl) (lenOf pd_3 rfl) (W := 0) rfl (by decide) (by decide) (by decide) (by decide) rfl ?_
      rintro _ T _ X ⟨rfl, rfl, eT⟩
      rw [List.append_nil] at X
      show Run p e below _ (T.setTop (mkF m 210 _ [(.int (0 : Int32))]))
      refine q_istore (pc' := 212) (l' := #[.val (.int p1), .val (.int p2), .val (.int p3), .val (.int p4), .val (.int (1 : Int32)), .val (.int (2 : Int32)), .val (.ref r_1), .val (.ref r_3), .val (.ref r_5), .val (.ref b30_6), .val (.int (1 : Int32)), .val (.int (0 : Int32)), .unset]) X hx (hb hby at_210) rfl rfl ?_
      refine q_iload (pc' := 214) X hx (hb hby at_212) rfl rfl ?_
      refine q_aload (pc' := 216) X hx (hb hby at_214) rfl rfl rfl ?_
      refine q_callV (pc' := 219) (y := y5) (rest := [(.int (1 : Int32))]) X hx hZ hown (hb hby at_216) (t24 hw) (t25 hw) (t27 hw) (t26 hw) (t9 hw) (t28 hw) (by decide) eT E_b30_6 [] (c24_size hw wd  O E_b30_6 F_items_b30_6 F_end_b30_6 F_first_b30_6 V_b41_0_c1_c10 Ov_b41_0_c1_c10) (by rw [hml]; rfl) (lenOf pd_4 rfl) (W := 1) rfl (by decide) (by decide) (by decide) (by decide) rfl ?_
      rintro _ T _ X ⟨rfl, rfl, eT⟩
      rw [List.append_nil] at X
      show Run p e below _ (T.setTop (mkF m 219 _ [(.int (0 : Int32)), (.int (1 : Int32))]))
      refine q_iload (pc' := 221) X hx (hb hby at_219) rfl rfl ?_
      refine q_icmpNo (pc' := 224) X hx (hb hby at_221) (by decide) rfl ?_
      refine q_iconst (pc' := 225) (z := (1 : Int32)) X hx (hb hby at_224) rfl rfl ?_
      refine q_goto (pc' := 229) X hx (hb hby at_225) (by decide) (by decide) ?_
      refine q_iand (pc' := 230) (z := (1 : Int32)) X hx (hb hby at_229) (by decide) rfl ?_
      refine q_istore (pc' := 232) (l' := #[.val (.int p1), .val (.int p2), .val (.int p3), .val (.int p4), .val (.int (1 : Int32)), .val (.int (2 : Int32)), .val (.ref r_1), .val (.ref r_3), .val (.ref r_5), .val (.ref b30_6), .val (.int (1 : Int32)), .val (.int (0 : Int32)), .unset]) X hx (hb hby at_230) rfl rfl ?_
      refine q_aload (pc' := 234) X hx (hb hby at_232) rfl rfl rfl ?_
      refine q_callV (pc' := 237) (y := y6) (rest := []) X hx hZ hown (hb hby at_234) (t33 hw) (t34 hw) (t36 hw) (t35 hw) (t9 hw) (t37 hw) (by decide) eT E_b30_6 [] (c25_peek hw wd  O E_b30_6 F_items_b30_6 F_end_b30_6 F_first_b30_6 V_b41_0_c1_c10 Ov_b41_0_c1_c10) (by rw [hml]; rfl) (lenOf pd_5 rfl) (W := 0) rfl (by decide) (by decide) (by decide) (by decide) rfl ?_
      rintro _ T _ X ⟨rfl, rfl, eT⟩
      rw [List.append_nil] at X
      show Run p e below _ (T.setTop (mkF m 237 _ [.null]))
      refine q_astore (pc' := 239) (l' := #[.val (.int p1), .val (.int p2), .val (.int p3), .val (.int p4), .val (.int (1 : Int32)), .val (.int (2 : Int32)), .val (.ref r_1), .val (.ref r_3), .val (.ref r_5), .val (.ref b30_6), .val (.int (1 : Int32)), .val (.int (0 : Int32)), .val .null]) X hx (hb hby at_237) rfl rfl rfl ?_
      refine q_iload (pc' := 241) X hx (hb hby at_239) rfl rfl ?_
      refine q_aload (pc' := 243) X hx (hb hby at_241) rfl rfl rfl ?_
      refine q_iload (pc' := 245) X hx (hb hby at_243) rfl rfl ?_
      refine q_iconst (pc' := 246) (z := (1 : Int32)) X hx (hb hby at_245) rfl rfl ?_
      refine q_iadd (pc' := 247) (z := (3 : Int32)) X hx (hb hby at_246) (by decide) rfl ?_
      refine q_iload (pc' := 249) X hx (hb hby at_247) rfl rfl ?_
      refine q_aload (pc' := 251) X hx (hb hby at_249) rfl rfl rfl ?_
      refine q_aload (pc' := 253) X hx (hb hby at_251) rfl rfl rfl ?_
      refine q_aload (pc' := 255) X hx (hb hby at_253) rfl rfl rfl ?_
      refine q_callC (pc' := 258) (y := y7) (rest := [.null, (.int (1 : Int32))]) X hx hZ hown (hb hby at_255) (t38 hw) (t39 hw) (t40 hw) (t41 hw) (by decide) eT [(.int (3 : Int32)), (.int (1 : Int32)), (.ref r_1), (.ref r_3), (.ref r_5)] (c28_expected hw wd (p2) (p3) (p4) O E_r_1 F_value_r_1 E_r_3 F_value_r_3 E_r_5 F_value_r_5) (by rw [hml]; rfl) (lenOf pd_6 rfl) (W := 2) rfl (by decide) (by decide) (by decide) (by decide) rfl ?_
      rintro _ T _ X ⟨rfl, rfl, eT⟩
      rw [List.append_nil] at X
      show Run p e below _ (T.setTop (mkF m 258 _ [.null, .null, (.int (1 : Int32))]))
      refine q_acmp (pc' := 261) (same := true) X hx (hb hby at_258) rfl rfl (decide_eq_true rfl) (by decide) (by decide) ?_
      refine q_iconst (pc' := 262) (z := (1 : Int32)) X hx (hb hby at_261) rfl rfl ?_
      refine q_goto (pc' := 266) X hx (hb hby at_262) (by decide) (by decide) ?_
      refine q_iand (pc' := 267) (z := (1 : Int32)) X hx (hb hby at_266) (by decide) rfl ?_
      refine q_istore (pc' := 269) (l' := #[.val (.int p1), .val (.int p2), .val (.int p3), .val (.int p4), .val (.int (1 : Int32)), .val (.int (2 : Int32)), .val (.ref r_1), .val (.ref r_3), .val (.ref r_5), .val (.ref b30_6), .val (.int (1 : Int32)), .val (.int (0 : Int32)), .val .null]) X hx (hb hby at_267) rfl rfl ?_
      refine q_iload (pc' := 271) X hx (hb hby at_269) rfl rfl ?_
      refine Run.retB X hx hlk hret (hb hby at_271) rfl (by decide) (by decide) ?_
      try rw [eT]
      exact ⟨rfl, N⟩
    · rw [hi]
      refine q_iload (pc' := 83) X hx (hb hby at_81) rfl rfl ?_
      refine q_iconst (pc' := 84) (z := (1 : Int32)) X hx (hb hby at_83) rfl rfl ?_
      refine q_icmpNo (pc' := 87) X hx (hb hby at_84) (by decide) rfl ?_
      refine q_aload (pc' := 89) X hx (hb hby at_87) rfl rfl rfl ?_
      have ne_r_3_b41_0_c1_c10 : r_3 ≠ b41_0_c1_c10 := Exa.neArv E_r_3 V_b41_0_c1_c10 (t48 hw)
      have ne_r_5_b41_0_c1_c10 : r_5 ≠ b41_0_c1_c10 := Exa.neArv E_r_5 V_b41_0_c1_c10 (t48 hw)
      refine q_callV (pc' := 92) (y := y8) (rest := []) X hx hZ hown (hb hby at_89) (t42 hw) (t43 hw) (t45 hw) (t44 hw) (t9 hw) (t46 hw) (by decide) eT E_b30_6 [] (c23_poll hw wd (p2) O E_r_1 F_value_r_1 E_b30_6 F_items_b30_6 F_end_b30_6 F_first_b30_6 V_b41_0_c1_c10 Ov_b41_0_c1_c10 g_b30_6 g_b41_0_c1_c10) (by rw [hml]; rfl) (lenOf pd_5 rfl) (W := 0) rfl (by decide) (by decide) (by decide) (by decide) rfl ?_
      rintro _ T _ X ⟨rfl, NL, KL, E_b30_6, F_items_b30_6, F_end_b30_6, F_first_b30_6, V_b41_0_c1_c10⟩
      have N := N.app NL
      obtain ⟨h_13, eT⟩ : ∃ z, T.heap = z := ⟨_, rfl⟩
      rw [eT] at KL E_b30_6 F_items_b30_6 F_end_b30_6 F_first_b30_6 V_b41_0_c1_c10
      have O := ext_keep O KL (allS g_b30_6 (allS g_b41_0_c1_c10 all0))
      have E_r_1 := E_r_1.keep KL
      have F_value_r_1 := F_value_r_1.keep KL (ninS ne_r_1_b30_6 (ninS ne_r_1_b41_0_c1_c10 nin0))
      have E_r_3 := E_r_3.keep KL
      have F_value_r_3 := F_value_r_3.keep KL (ninS ne_r_3_b30_6 (ninS ne_r_3_b41_0_c1_c10 nin0))
      have E_r_5 := E_r_5.keep KL
      have F_value_r_5 := F_value_r_5.keep KL (ninS ne_r_5_b30_6 (ninS ne_r_5_b41_0_c1_c10 nin0))
      show Run p e below _ (T.setTop (mkF m 92 _ [(.ref r_1)]))
      refine q_astore (pc' := 94) (l' := #[.val (.int p1), .val (.int p2), .val (.int p3), .val (.int p4), .val (.int (1 : Int32)), .val (.int (3 : Int32)), .val (.ref r_1), .val (.ref r_3), .val (.ref r_5), .val (.ref b30_6), .val (.int (1 : Int32)), .val (.ref r_1), .unset]) X hx (hb hby at_92) rfl rfl rfl ?_
      refine q_iload (pc' := 96) X hx (hb hby at_94) rfl rfl ?_
      refine q_aload (pc' := 98) X hx (hb hby at_96) rfl rfl rfl ?_
      refine q_iconst (pc' := 99) (z := (1 : Int32)) X hx (hb hby at_98) rfl rfl ?_
      refine q_iload (pc' := 101) X hx (hb hby at_99) rfl rfl ?_
      refine q_aload (pc' := 103) X hx (hb hby at_101) rfl rfl rfl ?_
      refine q_aload (pc' := 105) X hx (hb hby at_103) rfl rfl rfl ?_
      refine q_aload (pc' := 107) X hx (hb hby at_105) rfl rfl rfl ?_
      refine q_callC (pc' := 110) (y := y7) (rest := [(.ref r_1), (.int (1 : Int32))]) X hx hZ hown (hb hby at_107) (t38 hw) (t39 hw) (t40 hw) (t41 hw) (by decide) eT [(.int (1 : Int32)), (.int (1 : Int32)), (.ref r_1), (.ref r_3), (.ref r_5)] (c22_expected hw wd (p2) (p3) (p4) O E_r_1 F_value_r_1 E_r_3 F_value_r_3 E_r_5 F_value_r_5) (by rw [hml]; rfl) (lenOf pd_6 rfl) (W := 2) rfl (by decide) (by decide) (by decide) (by decide) rfl ?_
      rintro _ T _ X ⟨rfl, rfl, eT⟩
      rw [List.append_nil] at X
      show Run p e below _ (T.setTop (mkF m 110 _ [(.ref r_1), (.ref r_1), (.int (1 : Int32))]))
      refine q_acmp (pc' := 113) (same := true) X hx (hb hby at_110) rfl rfl (decide_eq_true rfl) (by decide) (by decide) ?_
      refine q_iconst (pc' := 114) (z := (1 : Int32)) X hx (hb hby at_113) rfl rfl ?_
      refine q_goto (pc' := 118) X hx (hb hby at_114) (by decide) (by decide) ?_
      refine q_iand (pc' := 119) (z := (1 : Int32)) X hx (hb hby at_118) (by decide) rfl ?_
      refine q_istore (pc' := 121) (l' := #[.val (.int p1), .val (.int p2), .val (.int p3), .val (.int p4), .val (.int (1 : Int32)), .val (.int (3 : Int32)), .val (.ref r_1), .val (.ref r_3), .val (.ref r_5), .val (.ref b30_6), .val (.int (1 : Int32)), .val (.ref r_1), .unset]) X hx (hb hby at_119) rfl rfl ?_
      refine q_iload (pc' := 123) X hx (hb hby at_121) rfl rfl ?_
      refine q_iconst (pc' := 124) (z := (2 : Int32)) X hx (hb hby at_123) rfl rfl ?_
      refine q_icmpNo (pc' := 127) X hx (hb hby at_124) (by decide) rfl ?_
      refine q_aload (pc' := 129) X hx (hb hby at_127) rfl rfl rfl ?_
      refine q_callV (pc' := 132) (y := y8) (rest := []) X hx hZ hown (hb hby at_129) (t42 hw) (t43 hw) (t45 hw) (t44 hw) (t9 hw) (t46 hw) (by decide) eT E_b30_6 [] (c27_poll hw wd  O E_b30_6 F_items_b30_6 F_end_b30_6 F_first_b30_6 V_b41_0_c1_c10 Ov_b41_0_c1_c10) (by rw [hml]; rfl) (lenOf pd_5 rfl) (W := 0) rfl (by decide) (by decide) (by decide) (by decide) rfl ?_
      rintro _ T _ X ⟨rfl, rfl, eT⟩
      rw [List.append_nil] at X
      show Run p e below _ (T.setTop (mkF m 132 _ [.null]))
      refine q_astore (pc' := 134) (l' := #[.val (.int p1), .val (.int p2), .val (.int p3), .val (.int p4), .val (.int (1 : Int32)), .val (.int (3 : Int32)), .val (.ref r_1), .val (.ref r_3), .val (.ref r_5), .val (.ref b30_6), .val (.int (1 : Int32)), .val .null, .unset]) X hx (hb hby at_132) rfl rfl rfl ?_
      refine q_iload (pc' := 136) X hx (hb hby at_134) rfl rfl ?_
      refine q_aload (pc' := 138) X hx (hb hby at_136) rfl rfl rfl ?_
      refine q_iconst (pc' := 139) (z := (2 : Int32)) X hx (hb hby at_138) rfl rfl ?_
      refine q_iload (pc' := 141) X hx (hb hby at_139) rfl rfl ?_
      refine q_aload (pc' := 143) X hx (hb hby at_141) rfl rfl rfl ?_
      refine q_aload (pc' := 145) X hx (hb hby at_143) rfl rfl rfl ?_
      refine q_aload (pc' := 147) X hx (hb hby at_145) rfl rfl rfl ?_
      refine q_callC (pc' := 150) (y := y7) (rest := [.null, (.int (1 : Int32))]) X hx hZ hown (hb hby at_147) (t38 hw) (t39 hw) (t40 hw) (t41 hw) (by decide) eT [(.int (2 : Int32)), (.int (1 : Int32)), (.ref r_1), (.ref r_3), (.ref r_5)] (c26_expected hw wd (p2) (p3) (p4) O E_r_1 F_value_r_1 E_r_3 F_value_r_3 E_r_5 F_value_r_5) (by rw [hml]; rfl) (lenOf pd_6 rfl) (W := 2) rfl (by decide) (by decide) (by decide) (by decide) rfl ?_
      rintro _ T _ X ⟨rfl, rfl, eT⟩
      rw [List.append_nil] at X
      show Run p e below _ (T.setTop (mkF m 150 _ [.null, .null, (.int (1 : Int32))]))
      refine q_acmp (pc' := 153) (same := true) X hx (hb hby at_150) rfl rfl (decide_eq_true rfl) (by decide) (by decide) ?_
      refine q_iconst (pc' := 154) (z := (1 : Int32)) X hx (hb hby at_153) rfl rfl ?_
      refine q_goto (pc' := 158) X hx (hb hby at_154) (by decide) (by decide) ?_
      refine q_iand (pc' := 159) (z := (1 : Int32)) X hx (hb hby at_158) (by decide) rfl ?_
      refine q_istore (pc' := 161) (l' := #[.val (.int p1), .val (.int p2), .val (.int p3), .val (.int p4), .val (.int (1 : Int32)), .val (.int (3 : Int32)), .val (.ref r_1), .val (.ref r_3), .val (.ref r_5), .val (.ref b30_6), .val (.int (1 : Int32)), .val .null, .unset]) X hx (hb hby at_159) rfl rfl ?_
      refine q_iload (pc' := 163) X hx (hb hby at_161) rfl rfl ?_
      refine q_iconst (pc' := 164) (z := (3 : Int32)) X hx (hb hby at_163) rfl rfl ?_
      refine q_icmpNo (pc' := 167) X hx (hb hby at_164) (by decide) rfl ?_
      refine q_aload (pc' := 169) X hx (hb hby at_167) rfl rfl rfl ?_
      refine q_callV (pc' := 172) (y := y8) (rest := []) X hx hZ hown (hb hby at_169) (t42 hw) (t43 hw) (t45 hw) (t44 hw) (t9 hw) (t46 hw) (by decide) eT E_b30_6 [] (c27_poll hw wd  O E_b30_6 F_items_b30_6 F_end_b30_6 F_first_b30_6 V_b41_0_c1_c10 Ov_b41_0_c1_c10) (by rw [hml]; rfl) (lenOf pd_5 rfl) (W := 0) rfl (by decide) (by decide) (by decide) (by decide) rfl ?_
      rintro _ T _ X ⟨rfl, rfl, eT⟩
      rw [List.append_nil] at X
      show Run p e below _ (T.setTop (mkF m 172 _ [.null]))
      refine q_astore (pc' := 174) (l' := #[.val (.int p1), .val (.int p2), .val (.int p3), .val (.int p4), .val (.int (1 : Int32)), .val (.int (3 : Int32)), .val (.ref r_1), .val (.ref r_3), .val (.ref r_5), .val (.ref b30_6), .val (.int (1 : Int32)), .val .null, .unset]) X hx (hb hby at_172) rfl rfl rfl ?_
      refine q_iload (pc' := 176) X hx (hb hby at_174) rfl rfl ?_
      refine q_aload (pc' := 178) X hx (hb hby at_176) rfl rfl rfl ?_
      refine q_iconst (pc' := 179) (z := (3 : Int32)) X hx (hb hby at_178) rfl rfl ?_
      refine q_iload (pc' := 181) X hx (hb hby at_179) rfl rfl ?_
      refine q_aload (pc' := 183) X hx (hb hby at_181) rfl rfl rfl ?_
      refine q_aload (pc' := 185) X hx (hb hby at_183) rfl rfl rfl ?_
      refine q_aload (pc' := 187) X hx (hb hby at_185) rfl rfl rfl ?_
      refine q_callC (pc' := 190) (y := y7) (rest := [.null, (.int (1 : Int32))]) X hx hZ hown (hb hby at_187) (t38 hw) (t39 hw) (t40 hw) (t41 hw) (by decide) eT [(.int (3 : Int32)), (.int (1 : Int32)), (.ref r_1), (.ref r_3), (.ref r_5)] (c28_expected hw wd (p2) (p3) (p4) O E_r_1 F_value_r_1 E_r_3 F_value_r_3 E_r_5 F_value_r_5) (by rw [hml]; rfl) (lenOf pd_6 rfl) (W := 2) rfl (by decide) (by decide) (by decide) (by decide) rfl ?_
      rintro _ T _ X ⟨rfl, rfl, eT⟩
      rw [List.append_nil] at X
      show Run p e below _ (T.setTop (mkF m 190 _ [.null, .null, (.int (1 : Int32))]))
      refine q_acmp (pc' := 193) (same := true) X hx (hb hby at_190) rfl rfl (decide_eq_true rfl) (by decide) (by decide) ?_
      refine q_iconst (pc' := 194) (z := (1 : Int32)) X hx (hb hby at_193) rfl rfl ?_
      refine q_goto (pc' := 198) X hx (hb hby at_194) (by decide) (by decide) ?_
      refine q_iand (pc' := 199) (z := (1 : Int32)) X hx (hb hby at_198) (by decide) rfl ?_
      refine q_istore (pc' := 201) (l' := #[.val (.int p1), .val (.int p2), .val (.int p3), .val (.int p4), .val (.int (1 : Int32)), .val (.int (3 : Int32)), .val (.ref r_1), .val (.ref r_3), .val (.ref r_5), .val (.ref b30_6), .val (.int (1 : Int32)), .val .null, .unset]) X hx (hb hby at_199) rfl rfl ?_
      refine q_iload (pc' := 203) X hx (hb hby at_201) rfl rfl ?_
      refine q_iload (pc' := 205) X hx (hb hby at_203) rfl rfl ?_
      refine q_isub (pc' := 206) (z := (-2 : Int32)) X hx (hb hby at_205) (by decide) rfl ?_
      refine q_iconst (pc' := 207) (z := (0 : Int32)) X hx (hb hby at_206) rfl rfl ?_
      refine q_callC (pc' := 210) (y := y4) (rest := []) X hx hZ hown (hb hby at_207) (t20 hw) (t21 hw) (t22 hw) (t23 hw) (by decide) eT [(.int (-2 : Int32)), (.int (0 : Int32))] (c11_max hw wd  O) (by rw [hml]; rfl) (lenOf pd_3 rfl) (W := 0) rfl (by decide) (by decide) (by decide) (by decide) rfl ?_
      rintro _ T _ X ⟨rfl, rfl, eT⟩
      rw [List.append_nil] at X
      show Run p e below _ (T.setTop (mkF m 210 _ [(.int (0 : Int32))]))
      refine q_istore (pc' := 212) (l' := #[.val (.int p1), .val (.int p2), .val (.int p3), .val (.int p4), .val (.int (1 : Int32)), .val (.int (3 : Int32)), .val (.ref r_1), .val (.ref r_3), .val (.ref r_5), .val (.ref b30_6), .val (.int (1 : Int32)), .val (.int (0 : Int32)), .unset]) X hx (hb hby at_210) rfl rfl ?_
      refine q_iload (pc' := 214) X hx (hb hby at_212) rfl rfl ?_
      refine q_aload (pc' := 216) X hx (hb hby at_214) rfl rfl rfl ?_
      refine q_callV (pc' := 219) (y := y5) (rest := [(.int (1 : Int32))]) X hx hZ hown (hb hby at_216) (t24 hw) (t25 hw) (t27 hw) (t26 hw) (t9 hw) (t28 hw) (by decide) eT E_b30_6 [] (c24_size hw wd  O E_b30_6 F_items_b30_6 F_end_b30_6 F_first_b30_6 V_b41_0_c1_c10 Ov_b41_0_c1_c10) (by rw [hml]; rfl) (lenOf pd_4 rfl) (W := 1) rfl (by decide) (by decide) (by decide) (by decide) rfl ?_
      rintro _ T _ X ⟨rfl, rfl, eT⟩
      rw [List.append_nil] at X
      show Run p e below _ (T.setTop (mkF m 219 _ [(.int (0 : Int32)), (.int (1 : Int32))]))
      refine q_iload (pc' := 221) X hx (hb hby at_219) rfl rfl ?_
      refine q_icmpNo (pc' := 224) X hx (hb hby at_221) (by decide) rfl ?_
      refine q_iconst (pc' := 225) (z := (1 : Int32)) X hx (hb hby at_224) rfl rfl ?_
      refine q_goto (pc' := 229) X hx (hb hby at_225) (by decide) (by decide) ?_
      refine q_iand (pc' := 230) (z := (1 : Int32)) X hx (hb hby at_229) (by decide) rfl ?_
      refine q_istore (pc' := 232) (l' := #[.val (.int p1), .val (.int p2), .val (.int p3), .val (.int p4), .val (.int (1 : Int32)), .val (.int (3 : Int32)), .val (.ref r_1), .val (.ref r_3), .val (.ref r_5), .val (.ref b30_6), .val (.int (1 : Int32)), .val (.int (0 : Int32)), .unset]) X hx (hb hby at_230) rfl rfl ?_
      refine q_aload (pc' := 234) X hx (hb hby at_232) rfl rfl rfl ?_
      refine q_callV (pc' := 237) (y := y6) (rest := []) X hx hZ hown (hb hby at_234) (t33 hw) (t34 hw) (t36 hw) (t35 hw) (t9 hw) (t37 hw) (by decide) eT E_b30_6 [] (c25_peek hw wd  O E_b30_6 F_items_b30_6 F_end_b30_6 F_first_b30_6 V_b41_0_c1_c10 Ov_b41_0_c1_c10) (by rw [hml]; rfl) (lenOf pd_5 rfl) (W := 0) rfl (by decide) (by decide) (by decide) (by decide) rfl ?_
      rintro _ T _ X ⟨rfl, rfl, eT⟩
      rw [List.append_nil] at X
      show Run p e below _ (T.setTop (mkF m 237 _ [.null]))
      refine q_astore (pc' := 239) (l' := #[.val (.int p1), .val (.int p2), .val (.int p3), .val (.int p4), .val (.int (1 : Int32)), .val (.int (3 : Int32)), .val (.ref r_1), .val (.ref r_3), .val (.ref r_5), .val (.ref b30_6), .val (.int (1 : Int32)), .val (.int (0 : Int32)), .val .null]) X hx (hb hby at_237) rfl rfl rfl ?_
      refine q_iload (pc' := 241) X hx (hb hby at_239) rfl rfl ?_
      refine q_aload (pc' := 243) X hx (hb hby at_241) rfl rfl rfl ?_
      refine q_iload (pc' := 245) X hx (hb hby at_243) rfl rfl ?_
      refine q_iconst (pc' := 246) (z := (1 : Int32)) X hx (hb hby at_245) rfl rfl ?_
      refine q_iadd (pc' := 247) (z := (4 : Int32)) X hx (hb hby at_246) (by decide) rfl ?_
      refine q_iload (pc' := 249) X hx (hb hby at_247) rfl rfl ?_
      refine q_aload (pc' := 251) X hx (hb hby at_249) rfl rfl rfl ?_
      refine q_aload (pc' := 253) X hx (hb hby at_251) rfl rfl rfl ?_
      refine q_aload (pc' := 255) X hx (hb hby at_253) rfl rfl rfl ?_
      refine q_callC (pc' := 258) (y := y7) (rest := [.null, (.int (1 : Int32))]) X hx hZ hown (hb hby at_255) (t38 hw) (t39 hw) (t40 hw) (t41 hw) (by decide) eT [(.int (4 : Int32)), (.int (1 : Int32)), (.ref r_1), (.ref r_3), (.ref r_5)] (c29_expected hw wd (p2) (p3) (p4) O E_r_1 F_value_r_1 E_r_3 F_value_r_3 E_r_5 F_value_r_5) (by rw [hml]; rfl) (lenOf pd_6 rfl) (W := 2) rfl (by decide) (by decide) (by decide) (by decide) rfl ?_
      rintro _ T _ X ⟨rfl, rfl, eT⟩
      rw [List.append_nil] at X
      show Run p e below _ (T.setTop (mkF m 258 _ [.null, .null, (.int (1 : Int32))]))
      refine q_acmp (pc' := 261) (same := true) X hx (hb hby at_258) rfl rfl (decide_eq_true rfl) (by decide) (by decide) ?_
      refine q_iconst (pc' := 262) (z := (1 : Int32)) X hx (hb hby at_261) rfl rfl ?_
      refine q_goto (pc' := 266) X hx (hb hby at_262) (by decide) (by decide) ?_
      refine q_iand (pc' := 267) (z := (1 : Int32)) X hx (hb hby at_266) (by decide) rfl ?_
      refine q_istore (pc' := 269) (l' := #[.val (.int p1), .val (.int p2), .val (.int p3), .val (.int p4), .val (.int (1 : Int32)), .val (.int (3 : Int32)), .val (.ref r_1), .val (.ref r_3), .val (.ref r_5), .val (.ref b30_6), .val (.int (1 : Int32)), .val (.int (0 : Int32)), .val .null]) X hx (hb hby at_267) rfl rfl ?_
      refine q_iload (pc' := 271) X hx (hb hby at_269) rfl rfl ?_
      refine Run.retB X hx hlk hret (hb hby at_271) rfl (by decide) (by decide) ?_
      try rw [eT]
      exact ⟨rfl, N⟩
  · rw [hi]
    refine q_iload (pc' := 41) X hx (hb hby at_39) rfl rfl ?_
    refine q_iconst (pc' := 42) (z := (1 : Int32)) X hx (hb hby at_41) rfl rfl ?_
    refine q_icmpNo (pc' := 45) X hx (hb hby at_42) (by decide) rfl ?_
    refine q_aload (pc' := 47) X hx (hb hby at_45) rfl rfl rfl ?_
    refine q_aload (pc' := 49) X hx (hb hby at_47) rfl rfl rfl ?_
    have lt_b30_6 := E_b30_6.lt
    have lt_r_1 := E_r_1.lt
    refine q_callV (pc' := 52) (y := y10) (rest := []) X hx hZ hown (hb hby at_49) (t62 hw) (t63 hw) (t65 hw) (t64 hw) (t9 hw) (t66 hw) (by decide) eT E_b30_6 [(.ref r_1)] (c15_add hw wd (p2) O E_r_1 F_value_r_1 E_b30_6 F_items_b30_6 F_end_b30_6 F_first_b30_6 g_b30_6) (by rw [hml]; rfl) (lenOf pd_7 rfl) (W := 0) rfl (by decide) (by decide) (by decide) (by decide) rfl ?_
    rintro _ T _ X ⟨b41_0_c1_c10, k_b41_0_c1_c10, rfl, NL, KL, szn_b41_0_c1_c10, E_b30_6, F_items_b30_6, F_end_b30_6, F_first_b30_6, V_b41_0_c1_c10, Ov_b41_0_c1_c10⟩
    have N := N.app NL
    have ne_b30_6_b41_0_c1_c10 : b30_6 ≠ b41_0_c1_c10 := Nat.ne_of_lt (Nat.lt_of_lt_of_le lt_b30_6 szn_b41_0_c1_c10)
    have ne_r_1_b41_0_c1_c10 : r_1 ≠ b41_0_c1_c10 := Nat.ne_of_lt (Nat.lt_of_lt_of_le lt_r_1 szn_b41_0_c1_c10)
    have g_b41_0_c1_c10 : Z.heap.size ≤ b41_0_c1_c10 := Nat.le_trans O.1 szn_b41_0_c1_c10
    obtain ⟨h_11, eT⟩ : ∃ z, T.heap = z := ⟨_, rfl⟩
    rw [eT] at KL E_b30_6 F_items_b30_6 F_end_b30_6 F_first_b30_6 V_b41_0_c1_c10
    have O := ext_keep O KL (allS g_b30_6 all0)
    have E_r_1 := E_r_1.keep KL
    have F_value_r_1 := F_value_r_1.keep KL (ninS ne_r_1_b30_6 nin0)
    have E_r_3 := E_r_3.keep KL
    have F_value_r_3 := F_value_r_3.keep KL (ninS ne_r_3_b30_6 nin0)
    have E_r_5 := E_r_5.keep KL
    have F_value_r_5 := F_value_r_5.keep KL (ninS ne_r_5_b30_6 nin0)
    show Run p e below _ (T.setTop (mkF m 52 _ []))
    refine q_iload (pc' := 54) X hx (hb hby at_52) rfl rfl ?_
    refine q_iconst (pc' := 55) (z := (2 : Int32)) X hx (hb hby at_54) rfl rfl ?_
    refine q_icmpNo (pc' := 58) X hx (hb hby at_55) (by decide) rfl ?_
    refine q_aload (pc' := 60) X hx (hb hby at_58) rfl rfl rfl ?_
    refine q_aload (pc' := 62) X hx (hb hby at_60) rfl rfl rfl ?_
    have ne_r_3_b41_0_c1_c10 : r_3 ≠ b41_0_c1_c10 := Exa.neArv E_r_3 V_b41_0_c1_c10 (t48 hw)
    have ne_r_5_b41_0_c1_c10 : r_5 ≠ b41_0_c1_c10 := Exa.neArv E_r_5 V_b41_0_c1_c10 (t48 hw)
    refine q_callV (pc' := 65) (y := y10) (rest := []) X hx hZ hown (hb hby at_62) (t62 hw) (t63 hw) (t65 hw) (t64 hw) (t9 hw) (t66 hw) (by decide) eT E_b30_6 [(.ref r_3)] (c30_add hw wd (p2) (p3) O E_r_1 F_value_r_1 E_r_3 F_value_r_3 E_b30_6 F_items_b30_6 F_end_b30_6 F_first_b30_6 V_b41_0_c1_c10 Ov_b41_0_c1_c10 g_b30_6 g_b41_0_c1_c10) (by rw [hml]; rfl) (lenOf pd_7 rfl) (W := 0) rfl (by decide) (by decide) (by decide) (by decide) rfl ?_
    rintro _ T _ X ⟨rfl, NL, KL, E_b30_6, F_items_b30_6, F_end_b30_6, F_first_b30_6, V_b41_0_c1_c10⟩
    have N := N.app NL
    obtain ⟨h_13, eT⟩ : ∃ z, T.heap = z := ⟨_, rfl⟩
    rw [eT] at KL E_b30_6 F_items_b30_6 F_end_b30_6 F_first_b30_6 V_b41_0_c1_c10
    have O := ext_keep O KL (allS g_b30_6 (allS g_b41_0_c1_c10 all0))
    have E_r_1 := E_r_1.keep KL
    have F_value_r_1 := F_value_r_1.keep KL (ninS ne_r_1_b30_6 (ninS ne_r_1_b41_0_c1_c10 nin0))
    have E_r_3 := E_r_3.keep KL
    have F_value_r_3 := F_value_r_3.keep KL (ninS ne_r_3_b30_6 (ninS ne_r_3_b41_0_c1_c10 nin0))
    have E_r_5 := E_r_5.keep KL
    have F_value_r_5 := F_value_r_5.keep KL (ninS ne_r_5_b30_6 (ninS ne_r_5_b41_0_c1_c10 nin0))
    show Run p e below _ (T.setTop (mkF m 65 _ []))
    refine q_iload (pc' := 67) X hx (hb hby at_65) rfl rfl ?_
    refine q_iconst (pc' := 68) (z := (3 : Int32)) X hx (hb hby at_67) rfl rfl ?_
    refine q_icmpYes (pc' := 78) X hx (hb hby at_68) (by decide) (by decide) (by decide) ?_
    refine q_iconst (pc' := 79) (z := (1 : Int32)) X hx (hb hby at_78) rfl rfl ?_
    refine q_istore (pc' := 81) (l' := #[.val (.int p1), .val (.int p2), .val (.int p3), .val (.int p4), .val (.int (2 : Int32)), .val (.int (((p1.toUInt32 >>> ((2 : Int32) &&& 31).toUInt32).toInt32) &&& (3 : Int32))), .val (.ref r_1), .val (.ref r_3), .val (.ref r_5), .val (.ref b30_6), .val (.int (1 : Int32)), .unset, .unset]) X hx (hb hby at_79) rfl rfl ?_
    rcases own_sel ((p1.toUInt32 >>> ((2 : Int32) &&& 31).toUInt32).toInt32) with hi | hi | hi | hi
    · rw [hi]
      refine q_iload (pc' := 83) X hx (hb hby at_81) rfl rfl ?_
      refine q_iconst (pc' := 84) (z := (1 : Int32)) X hx (hb hby at_83) rfl rfl ?_
      refine q_icmpYes (pc' := 121) X hx (hb hby at_84) (by decide) (by decide) (by decide) ?_
      refine q_iload (pc' := 123) X hx (hb hby at_121) rfl rfl ?_
      refine q_iconst (pc' := 124) (z := (2 : Int32)) X hx (hb hby at_123) rfl rfl ?_
      refine q_icmpYes (pc' := 161) X hx (hb hby at_124) (by decide) (by decide) (by decide) ?_
      refine q_iload (pc' := 163) X hx (hb hby at_161) rfl rfl ?_
      refine q_iconst (pc' := 164) (z := (3 : Int32)) X hx (hb hby at_163) rfl rfl ?_
      refine q_icmpYes (pc' := 201) X hx (hb hby at_164) (by decide) (by decide) (by decide) ?_
      refine q_iload (pc' := 203) X hx (hb hby at_201) rfl rfl ?_
      refine q_iload (pc' := 205) X hx (hb hby at_203) rfl rfl ?_
      refine q_isub (pc' := 206) (z := (2 : Int32)) X hx (hb hby at_205) (by decide) rfl ?_
      refine q_iconst (pc' := 207) (z := (0 : Int32)) X hx (hb hby at_206) rfl rfl ?_
      refine q_callC (pc' := 210) (y := y4) (rest := []) X hx hZ hown (hb hby at_207) (t20 hw) (t21 hw) (t22 hw) (t23 hw) (by decide) eT [(.int (2 : Int32)), (.int (0 : Int32))] (c31_max hw wd  O) (by rw [hml]; rfl) (lenOf pd_3 rfl) (W := 0) rfl (by decide) (by decide) (by decide) (by decide) rfl ?_
      rintro _ T _ X ⟨rfl, rfl, eT⟩
      rw [List.append_nil] at X
      show Run p e below _ (T.setTop (mkF m 210 _ [(.int (2 : Int32))]))
      refine q_istore (pc' := 212) (l' := #[.val (.int p1), .val (.int p2), .val (.int p3), .val (.int p4), .val (.int (2 : Int32)), .val (.int (0 : Int32)), .val (.ref r_1), .val (.ref r_3), .val (.ref r_5), .val (.ref b30_6), .val (.int (1 : Int32)), .val (.int (2 : Int32)), .unset]) X hx (hb hby at_210) rfl rfl ?_
      refine q_iload (pc' := 214) X hx (hb hby at_212) rfl rfl ?_
      refine q_aload (pc' := 216) X hx (hb hby at_214) rfl rfl rfl ?_
      refine q_callV (pc' := 219) (y := y5) (rest := [(.int (1 : Int32))]) X hx hZ hown (hb hby at_216) (t24 hw) (t25 hw) (t27 hw) (t26 hw) (t9 hw) (t28 hw) (by decide) eT E_b30_6 [] (c32_size hw wd (p2) (p3) O E_r_1 F_value_r_1 E_r_3 F_value_r_3 E_b30_6 F_items_b30_6 F_end_b30_6 F_first_b30_6 V_b41_0_c1_c10 Ov_b41_0_c1_c10) (by rw [hml]; rfl) (lenOf pd_4 rfl) (W := 1) rfl (by decide) (by decide) (by decide) (by decide) rfl ?_
      rintro _ T _ X ⟨rfl, rfl, eT⟩
      rw [List.append_nil] at X
      show Run p e below _ (T.setTop (mkF m 219 _ [(.int (2 : Int32)), (.int (1 : Int32))]))
      refine q_iload (pc' := 221) X hx (hb hby at_219) rfl rfl ?_
      refine q_icmpNo (pc' := 224) X hx (hb hby at_221) (by decide) rfl ?_
      refine q_iconst (pc' := 225) (z := (1 : Int32)) X hx (hb hby at_224) rfl rfl ?_
      refine q_goto (pc' := 229) X hx (hb hby at_225) (by decide) (by decide) ?_
      refine q_iand (pc' := 230) (z := (1 : Int32)) X hx (hb hby at_229) (by decide) rfl ?_
      refine q_istore (pc' := 232) (l' := #[.val (.int p1), .val (.int p2), .val (.int p3), .val (.int p4), .val (.int (2 : Int32)), .val (.int (0 : Int32)), .val (.ref r_1), .val (.ref r_3), .val (.ref r_5), .val (.ref b30_6), .val (.int (1 : Int32)), .val (.int (2 : Int32)), .unset]) X hx (hb hby at_230) rfl rfl ?_
      refine q_aload (pc' := 234) X hx (hb hby at_232) rfl rfl rfl ?_
      refine q_callV (pc' := 237) (y := y6) (rest := []) X hx hZ hown (hb hby at_234) (t33 hw) (t34 hw) (t36 hw) (t35 hw) (t9 hw) (t37 hw) (by decide) eT E_b30_6 [] (c33_peek hw wd (p2) (p3) O E_r_1 F_value_r_1 E_r_3 F_value_r_3 E_b30_6 F_items_b30_6 F_end_b30_6 F_first_b30_6 V_b41_0_c1_c10 Ov_b41_0_c1_c10) (by rw [hml]; rfl) (lenOf pd_5 rfl) (W := 0) rfl (by decide) (by decide) (by decide) (by decide) rfl ?_
      rintro _ T _ X ⟨rfl, rfl, eT⟩
      rw [List.append_nil] at X
      show Run p e below _ (T.setTop (mkF m 237 _ [(.ref r_1)]))
      refine q_astore (pc' := 239) (l' := #[.val (.int p1), .val (.int p2), .val (.int p3), .val (.int p4), .val (.int (2 : Int32)), .val (.int (0 : Int32)), .val (.ref r_1), .val (.ref r_3), .val (.ref r_5), .val (.ref b30_6), .val (.int (1 : Int32)), .val (.int (2 : Int32)), .val (.ref r_1)]) X hx (hb hby at_237) rfl rfl rfl ?_
      refine q_iload (pc' := 241) X hx (hb hby at_239) rfl rfl ?_
      refine q_aload (pc' := 243) X hx (hb hby at_241) rfl rfl rfl ?_
      refine q_iload (pc' := 245) X hx (hb hby at_243) rfl rfl ?_
      refine q_iconst (pc' := 246) (z := (1 : Int32)) X hx (hb hby at_245) rfl rfl ?_
      refine q_iadd (pc' := 247) (z := (1 : Int32)) X hx (hb hby at_246) (by decide) rfl ?_
      refine q_iload (pc' := 249) X hx (hb hby at_247) rfl rfl ?_
      refine q_aload (pc' := 251) X hx (hb hby at_249) rfl rfl rfl ?_
      refine q_aload (pc' := 253) X hx (hb hby at_251) rfl rfl rfl ?_
      refine q_aload (pc' := 255) X hx (hb hby at_253) rfl rfl rfl ?_
      refine q_callC (pc' := 258) (y := y7) (rest := [(.ref r_1), (.int (1 : Int32))]) X hx hZ hown (hb hby at_255) (t38 hw) (t39 hw) (t40 hw) (t41 hw) (by decide) eT [(.int (1 : Int32)), (.int (2 : Int32)), (.ref r_1), (.ref r_3), (.ref r_5)] (c34_expected hw wd (p2) (p3) (p4) O E_r_1 F_value_r_1 E_r_3 F_value_r_3 E_r_5 F_value_r_5) (by rw [hml]; rfl) (lenOf pd_6 rfl) (W := 2) rfl (by decide) (by decide) (by decide) (by decide) rfl ?_
      rintro _ T _ X ⟨rfl, rfl, eT⟩
      rw [List.append_nil] at X
      show Run p e below _ (T.setTop (mkF m 258 _ [(.ref r_1), (.ref r_1), (.int (1 : Int32))]))
      refine q_acmp (pc' := 261) (same := true) X hx (hb hby at_258) rfl rfl (decide_eq_true rfl) (by decide) (by decide) ?_
      refine q_iconst (pc' := 262) (z := (1 : Int32)) X hx (hb hby at_261) rfl rfl ?_
      refine q_goto (pc' := 266) X hx (hb hby at_262) (by decide) (by decide) ?_
      refine q_iand (pc' := 267) (z := (1 : Int32)) X hx (hb hby at_266) (by decide) rfl ?_
      refine q_istore (pc' := 269) (l' := #[.val (.int p1), .val (.int p2), .val (.int p3), .val (.int p4), .val (.int (2 : Int32)), .val (.int (0 : Int32)), .val (.ref r_1), .val (.ref r_3), .val (.ref r_5), .val (.ref b30_6), .val (.int (1 : Int32)), .val (.int (2 : Int32)), .val (.ref r_1)]) X hx (hb hby at_267) rfl rfl ?_
      refine q_iload (pc' := 271) X hx (hb hby at_269) rfl rfl ?_
      refine Run.retB X hx hlk hret (hb hby at_271) rfl (by decide) (by decide) ?_
      try rw [eT]
      exact ⟨rfl, N⟩
    · rw [hi]
      refine q_iload (pc' := 83) X hx (hb hby at_81) rfl rfl ?_
      refine q_iconst (pc' := 84) (z := (1 : Int32)) X hx (hb hby at_83) rfl rfl ?_
      refine q_icmpNo (pc' := 87) X hx (hb hby at_84) (by decide) rfl ?_
      refine q_aload (pc' := 89) X hx (hb hby at_87) rfl rfl rfl ?_
      refine q_callV (pc' := 92) (y := y8) (rest := []) X hx hZ hown (hb hby at_89) (t42 hw) (t43 hw) (t45 hw) (t44 hw) (t9 hw) (t46 hw) (by decide) eT E_b30_6 [] (c35_poll hw wd (p2) (p3) O E_r_1 F_value_r_1 E_r_3 F_value_r_3 E_b30_6 F_items_b30_6 F_end_b30_6 F_first_b30_6 V_b41_0_c1_c10 Ov_b41_0_c1_c10 g_b30_6 g_b41_0_c1_c10) (by rw [hml]; rfl) (lenOf pd_5 rfl) (W := 0) rfl (by decide) (by decide) (by decide) (by decide) rfl ?_
      rintro _ T _ X ⟨rfl, NL, KL, E_b30_6, F_items_b30_6, F_end_b30_6, F_first_b30_6, V_b41_0_c1_c10⟩
      have N := N.app NL
      obtain ⟨h_15, eT⟩ : ∃ z, T.heap = z := ⟨_, rfl⟩
      rw [eT] at KL E_b30_6 F_items_b30_6 F_end_b30_6 F_first_b30_6 V_b41_0_c1_c10
      have O := ext_keep O KL (allS g_b30_6 (allS g_b41_0_c1_c10 all0))
      have E_r_1 := E_r_1.keep KL
      have F_value_r_1 := F_value_r_1.keep KL (ninS ne_r_1_b30_6 (ninS ne_r_1_b41_0_c1_c10 nin0))
      have E_r_3 := E_r_3.keep KL
      have F_value_r_3 := F_value_r_3.keep KL (ninS ne_r_3_b30_6 (ninS ne_r_3_b41_0_c1_c10 nin0))
      have E_r_5 := E_r_5.keep KL
      have F_value_r_5 := F_value_r_5.keep KL (ninS ne_r_5_b30_6 (ninS ne_r_5_b41_0_c1_c10 nin0))
      show Run p e below _ (T.setTop (mkF m 92 _ [(.ref r_1)]))
      refine q_astore (pc' := 94) (l' := #[.val (.int p1), .val (.int p2), .val (.int p3), .val (.int p4), .val (.int (2 : Int32)), .val (.int (1 : Int32)), .val (.ref r_1), .val (.ref r_3), .val (.ref r_5), .val (.ref b30_6), .val (.int (1 : Int32)), .val (.ref r_1), .unset]) X hx (hb hby at_92) rfl rfl rfl ?_
      refine q_iload (pc' := 96) X hx (hb hby at_94) rfl rfl ?_
      refine q_aload (pc' := 98) X hx (hb hby at_96) rfl rfl rfl ?_
      refine q_iconst (pc' := 99) (z := (1 : Int32)) X hx (hb hby at_98) rfl rfl ?_
      refine q_iload (pc' := 101) X hx (hb hby at_99) rfl rfl ?_
      refine q_aload (pc' := 103) X hx (hb hby at_101) rfl rfl rfl ?_
      refine q_aload (pc' := 105) X hx (hb hby at_103) rfl rfl rfl ?_
      refine q_aload (pc' := 107) X hx (hb hby at_105) rfl rfl rfl ?_
      refine q_callC (pc' := 110) (y := y7) (rest := [(.ref r_1), (.int (1 : Int32))]) X hx hZ hown (hb hby at_107) (t38 hw) (t39 hw) (t40 hw) (t41 hw) (by decide) eT [(.int (1 : Int32)), (.int (2 : Int32)), (.ref r_1), (.ref r_3), (.ref r_5)] (c34_expected hw wd (p2) (p3) (p4) O E_r_1 F_value_r_1 E_r_3 F_value_r_3 E_r_5 F_value_r_5) (by rw [hml]; rfl) (lenOf pd_6 rfl) (W := 2) rfl (by decide) (by decide) (by decide) (by decide) rfl ?_
      rintro _ T _ X ⟨rfl, rfl, eT⟩
      rw [List.append_nil] at X
      show Run p e below _ (T.setTop (mkF m 110 _ [(.ref r_1), (.ref r_1), (.int (1 : Int32))]))
      refine q_acmp (pc' := 113) (same := true) X hx (hb hby at_110) rfl rfl (decide_eq_true rfl) (by decide) (by decide) ?_
      refine q_iconst (pc' := 114) (z := (1 : Int32)) X hx (hb hby at_113) rfl rfl ?_
      refine q_goto (pc' := 118) X hx (hb hby at_114) (by decide) (by decide) ?_
      refine q_iand (pc' := 119) (z := (1 : Int32)) X hx (hb hby at_118) (by decide) rfl ?_
      refine q_istore (pc' := 121) (l' := #[.val (.int p1), .val (.int p2), .val (.int p3), .val (.int p4), .val (.int (2 : Int32)), .val (.int (1 : Int32)), .val (.ref r_1), .val (.ref r_3), .val (.ref r_5), .val (.ref b30_6), .val (.int (1 : Int32)), .val (.ref r_1), .unset]) X hx (hb hby at_119) rfl rfl ?_
      refine q_iload (pc' := 123) X hx (hb hby at_121) rfl rfl ?_
      refine q_iconst (pc' := 124) (z := (2 : Int32)) X hx (hb hby at_123) rfl rfl ?_
      refine q_icmpYes (pc' := 161) X hx (hb hby at_124) (by decide) (by decide) (by decide) ?_
      refine q_iload (pc' := 163) X hx (hb hby at_161) rfl rfl ?_
      refine q_iconst (pc' := 164) (z := (3 : Int32)) X hx (hb hby at_163) rfl rfl ?_
      refine q_icmpYes (pc' := 201) X hx (hb hby at_164) (by decide) (by decide) (by decide) ?_
      refine q_iload (pc' := 203) X hx (hb hby at_201) rfl rfl ?_
      refine q_iload (pc' := 205) X hx (hb hby at_203) rfl rfl ?_
      refine q_isub (pc' := 206) (z := (1 : Int32)) X hx (hb hby at_205) (by decide) rfl ?_
      refine q_iconst (pc' := 207) (z := (0 : Int32)) X hx (hb hby at_206) rfl rfl ?_
      refine q_callC (pc' := 210) (y := y4) (rest := []) X hx hZ hown (hb hby at_207) (t20 hw) (t21 hw) (t22 hw) (t23 hw) (by decide) eT [(.int (1 : Int32)), (.int (0 : Int32))] (c19_max hw wd  O) (by rw [hml]; rfl) (lenOf pd_3 rfl) (W := 0) rfl (by decide) (by decide) (by decide) (by decide) rfl ?_
      rintro _ T _ X ⟨rfl, rfl, eT⟩
      rw [List.append_nil] at X
      show Run p e below _ (T.setTop (mkF m 210 _ [(.int (1 : Int32))]))
      refine q_istore (pc' := 212) (l' := #[.val (.int p1), .val (.int p2), .val (.int p3), .val (.int p4), .val (.int (2 : Int32)), .val (.int (1 : Int32)), .val (.ref r_1), .val (.ref r_3), .val (.ref r_5), .val (.ref b30_6), .val (.int (1 : Int32)), .val (.int (1 : Int32)), .unset]) X hx (hb hby at_210) rfl rfl ?_
      refine q_iload (pc' := 214) X hx (hb hby at_212) rfl rfl ?_
      refine q_aload (pc' := 216) X hx (hb hby at_214) rfl rfl rfl ?_
      refine q_callV (pc' := 219) (y := y5) (rest := [(.int (1 : Int32))]) X hx hZ hown (hb hby at_216) (t24 hw) (t25 hw) (t27 hw) (t26 hw) (t9 hw) (t28 hw) (by decide) eT E_b30_6 [] (c36_size hw wd (p3) O E_r_3 F_value_r_3 E_b30_6 F_items_b30_6 F_end_b30_6 F_first_b30_6 V_b41_0_c1_c10 Ov_b41_0_c1_c10) (by rw [hml]; rfl) (lenOf pd_4 rfl) (W := 1) rfl (by decide) (by decide) (by decide) (by decide) rfl ?_
      rintro _ T _ X ⟨rfl, rfl, eT⟩
      rw [List.append_nil] at X
      show Run p e below _ (T.setTop (mkF m 219 _ [(.int (1 : Int32)), (.int (1 : Int32))]))
      refine q_iload (pc' := 221) X hx (hb hby at_219) rfl rfl ?_
      refine q_icmpNo (pc' := 224) X hx (hb hby at_221) (by decide) rfl ?_
      refine q_iconst (pc' := 225) (z := (1 : Int32)) X hx (hb hby at_224) rfl rfl ?_
      refine q_goto (pc' := 229) X hx (hb hby at_225) (by decide) (by decide) ?_
      refine q_iand (pc' := 230) (z := (1 : Int32)) X hx (hb hby at_229) (by decide) rfl ?_
      refine q_istore (pc' := 232) (l' := #[.val (.int p1), .val (.int p2), .val (.int p3), .val (.int p4), .val (.int (2 : Int32)), .val (.int (1 : Int32)), .val (.ref r_1), .val (.ref r_3), .val (.ref r_5), .val (.ref b30_6), .val (.int (1 : Int32)), .val (.int (1 : Int32)), .unset]) X hx (hb hby at_230) rfl rfl ?_
      refine q_aload (pc' := 234) X hx (hb hby at_232) rfl rfl rfl ?_
      refine q_callV (pc' := 237) (y := y6) (rest := []) X hx hZ hown (hb hby at_234) (t33 hw) (t34 hw) (t36 hw) (t35 hw) (t9 hw) (t37 hw) (by decide) eT E_b30_6 [] (c37_peek hw wd (p3) O E_r_3 F_value_r_3 E_b30_6 F_items_b30_6 F_end_b30_6 F_first_b30_6 V_b41_0_c1_c10 Ov_b41_0_c1_c10) (by rw [hml]; rfl) (lenOf pd_5 rfl) (W := 0) rfl (by decide) (by decide) (by decide) (by decide) rfl ?_
      rintro _ T _ X ⟨rfl, rfl, eT⟩
      rw [List.append_nil] at X
      show Run p e below _ (T.setTop (mkF m 237 _ [(.ref r_3)]))
      refine q_astore (pc' := 239) (l' := #[.val (.int p1), .val (.int p2), .val (.int p3), .val (.int p4), .val (.int (2 : Int32)), .val (.int (1 : Int32)), .val (.ref r_1), .val (.ref r_3), .val (.ref r_5), .val (.ref b30_6), .val (.int (1 : Int32)), .val (.int (1 : Int32)), .val (.ref r_3)]) X hx (hb hby at_237) rfl rfl rfl ?_
      refine q_iload (pc' := 241) X hx (hb hby at_239) rfl rfl ?_
      refine q_aload (pc' := 243) X hx (hb hby at_241) rfl rfl rfl ?_
      refine q_iload (pc' := 245) X hx (hb hby at_243) rfl rfl ?_
      refine q_iconst (pc' := 246) (z := (1 : Int32)) X hx (hb hby at_245) rfl rfl ?_
      refine q_iadd (pc' := 247) (z := (2 : Int32)) X hx (hb hby at_246) (by decide) rfl ?_
      refine q_iload (pc' := 249) X hx (hb hby at_247) rfl rfl ?_
      refine q_aload (pc' := 251) X hx (hb hby at_249) rfl rfl rfl ?_
      refine q_aload (pc' := 253) X hx (hb hby at_251) rfl rfl rfl ?_
      refine q_aload (pc' := 255) X hx (hb hby at_253) rfl rfl rfl ?_
      refine q_callC (pc' := 258) (y := y7) (rest := [(.ref r_3), (.int (1 : Int32))]) X hx hZ hown (hb hby at_255) (t38 hw) (t39 hw) (t40 hw) (t41 hw) (by decide) eT [(.int (2 : Int32)), (.int (2 : Int32)), (.ref r_1), (.ref r_3), (.ref r_5)] (c38_expected hw wd (p2) (p3) (p4) O E_r_1 F_value_r_1 E_r_3 F_value_r_3 E_r_5 F_value_r_5) (by rw [hml]; rfl) (lenOf pd_6 rfl) (W := 2) rfl (by decide) (by decide) (by decide) (by decide) rfl ?_
      rintro _ T _ X ⟨rfl, rfl, eT⟩
      rw [List.append_nil] at X
      show Run p e below _ (T.setTop (mkF m 258 _ [(.ref r_3), (.ref r_3), (.int (1 : Int32))]))
      refine q_acmp (pc' := 261) (same := true) X hx (hb hby at_258) rfl rfl (decide_eq_true rfl) (by decide) (by decide) ?_
      refine q_iconst (pc' := 262) (z := (1 : Int32)) X hx (hb hby at_261) rfl rfl ?_
      refine q_goto (pc' := 266) X hx (hb hby at_262) (by decide) (by decide) ?_
      refine q_iand (pc' := 267) (z := (1 : Int32)) X hx (hb hby at_266) (by decide) rfl ?_
      refine q_istore (pc' := 269) (l' := #[.val (.int p1), .val (.int p2), .val (.int p3), .val (.int p4), .val (.int (2 : Int32)), .val (.int (1 : Int32)), .val (.ref r_1), .val (.ref r_3), .val (.ref r_5), .val (.ref b30_6), .val (.int (1 : Int32)), .val (.int (1 : Int32)), .val (.ref r_3)]) X hx (hb hby at_267) rfl rfl ?_
      refine q_iload (pc' := 271) X hx (hb hby at_269) rfl rfl ?_
      refine Run.retB X hx hlk hret (hb hby at_271) rfl (by decide) (by decide) ?_
      try rw [eT]
      exact ⟨rfl, N⟩
    · rw [hi]
      refine q_iload (pc' := 83) X hx (hb hby at_81) rfl rfl ?_
      refine q_iconst (pc' := 84) (z := (1 : Int32)) X hx (hb hby at_83) rfl rfl ?_
      refine q_icmpNo (pc' := 87) X hx (hb hby at_84) (by decide) rfl ?_
      refine q_aload (pc' := 89) X hx (hb hby at_87) rfl rfl rfl ?_
      refine q_callV (pc' := 92) (y := y8) (rest := []) X hx hZ hown (hb hby at_89) (t42 hw) (t43 hw) (t45 hw) (t44 hw) (t9 hw) (t46 hw) (by decide) eT E_b30_6 [] (c35_poll hw wd (p2) (p3) O E_r_1 F_value_r_1 E_r_3 F_value_r_3 E_b30_6 F_items_b30_6 F_end_b30_6 F_first_b30_6 V_b41_0_c1_c10 Ov_b41_0_c1_c10 g_b30_6 g_b41_0_c1_c10) (by rw [hml]; rfl) (lenOf pd_5 rfl) (W := 0) rfl (by decide) (by decide) (by decide) (by decide) rfl ?_
      rintro _ T _ X ⟨rfl, NL, KL, E_b30_6, F_items_b30_6, F_end_b30_6, F_first_b30_6, V_b41_0_c1_c10⟩
      have N := N.app NL
      obtain ⟨h_15, eT⟩ : ∃ z, T.heap = z := ⟨_, rfl⟩
      rw [eT] at KL E_b30_6 F_items_b30_6 F_end_b30_6 F_first_b30_6 V_b41_0_c1_c10
      have O := ext_keep O KL (allS g_b30_6 (allS g_b41_0_c1_c10 all0))
      have E_r_1 := E_r_1.keep KL
      have F_value_r_1 := F_value_r_1.keep KL (ninS ne_r_1_b30_6 (ninS ne_r_1_b41_0_c1_c10 nin0))
      have E_r_3 := E_r_3.keep KL
      have F_value_r_3 := F_value_r_3.keep KL (ninS ne_r_3_b30_6 (ninS ne_r_3_b41_0_c1_c10 nin0))
      have E_r_5 := E_r_5.keep KL
      have F_value_r_5 := F_value_r_5.keep KL (ninS ne_r_5_b30_6 (ninS ne_r_5_b41_0_c1_c10 nin0))
      show Run p e below _ (T.setTop (mkF m 92 _ [(.ref r_1)]))
      refine q_astore (pc' := 94) (l' := #[.val (.int p1), .val (.int p2), .val (.int p3), .val (.int p4), .val (.int (2 : Int32)), .val (.int (2 : Int32)), .val (.ref r_1), .val (.ref r_3), .val (.ref r_5), .val (.ref b30_6), .val (.int (1 : Int32)), .val (.ref r_1), .unset]) X hx (hb hby at_92) rfl rfl rfl ?_
      refine q_iload (pc' := 96) X hx (hb hby at_94) rfl rfl ?_
      refine q_aload (pc' := 98) X hx (hb hby at_96) rfl rfl rfl ?_
      refine q_iconst (pc' := 99) (z := (1 : Int32)) X hx (hb hby at_98) rfl rfl ?_
      refine q_iload (pc' := 101) X hx (hb hby at_99) rfl rfl ?_
      refine q_aload (pc' := 103) X hx (hb hby at_101) rfl rfl rfl ?_
      refine q_aload (pc' := 105) X hx (hb hby at_103) rfl rfl rfl ?_
      refine q_aload (pc' := 107) X hx (hb hby at_105) rfl rfl rfl ?_
      refine q_callC (pc' := 110) (y := y7) (rest := [(.ref r_1), (.int (1 : Int32))]) X hx hZ hown (hb hby at_107) (t38 hw) (t39 hw) (t40 hw) (t41 hw) (by decide) eT [(.int (1 : Int32)), (.int (2 : Int32)), (.ref r_1), (.ref r_3), (.ref r_5)] (c34_expected hw wd (p2) (p3) (p4) O E_r_1 F_value_r_1 E_r_3 F_value_r_3 E_r_5 F_value_r_5) (by rw [hml]; rfl) (lenOf pd_6 rfl) (W := 2) rfl (by decide) (by decide) (by decide) (by decide) rfl ?_
      rintro _ T _ X ⟨rfl, rfl, eT⟩
      rw [List.append_nil] at X
      show Run p e below _ (T.setTop (mkF m 110 _ [(.ref r_1), (.ref r_1), (.int (1 : Int32))]))
      refine q_acmp (pc' := 113) (same := true) X hx (hb hby at_110) rfl rfl (decide_eq_true rfl) (by decide) (by decide) ?_
      refine q_iconst (pc' := 114) (z := (1 : Int32)) X hx (hb hby at_113) rfl rfl ?_
      refine q_goto (pc' := 118) X hx (hb hby at_114) (by decide) (by decide) ?_
      refine q_iand (pc' := 119) (z := (1 : Int32)) X hx (hb hby at_118) (by decide) rfl ?_
      refine q_istore (pc' := 121) (l' := #[.val (.int p1), .val (.int p2), .val (.int p3), .val (.int p4), .val (.int (2 : Int32)), .val (.int (2 : Int32)), .val (.ref r_1), .val (.ref r_3), .val (.ref r_5), .val (.ref b30_6), .val (.int (1 : Int32)), .val (.ref r_1), .unset]) X hx (hb hby at_119) rfl rfl ?_
      refine q_iload (pc' := 123) X hx (hb hby at_121) rfl rfl ?_
      refine q_iconst (pc' := 124) (z := (2 : Int32)) X hx (hb hby at_123) rfl rfl ?_
      refine q_icmpNo (pc' := 127) X hx (hb hby at_124) (by decide) rfl ?_
      refine q_aload (pc' := 129) X hx (hb hby at_127) rfl rfl rfl ?_
      refine q_callV (pc' := 132) (y := y8) (rest := []) X hx hZ hown (hb hby at_129) (t42 hw) (t43 hw) (t45 hw) (t44 hw) (t9 hw) (t46 hw) (by decide) eT E_b30_6 [] (c39_poll hw wd (p3) O E_r_3 F_value_r_3 E_b30_6 F_items_b30_6 F_end_b30_6 F_first_b30_6 V_b41_0_c1_c10 Ov_b41_0_c1_c10 g_b30_6 g_b41_0_c1_c10) (by rw [hml]; rfl) (lenOf pd_5 rfl) (W := 0) rfl (by decide) (by decide) (by decide) (by decide) rfl ?_
      rintro _ T _ X ⟨rfl, NL, KL, E_b30_6, F_items_b30_6, F_end_b30_6, F_first_b30_6, V_b41_0_c1_c10⟩
      have N := N.app NL
      obtain ⟨h_17, eT⟩ : ∃ z, T.heap = z := ⟨_, rfl⟩
      rw [eT] at KL E_b30_6 F_items_b30_6 F_end_b30_6 F_first_b30_6 V_b41_0_c1_c10
      have O := ext_keep O KL (allS g_b30_6 (allS g_b41_0_c1_c10 all0))
      have E_r_1 := E_r_1.keep KL
      have F_value_r_1 := F_value_r_1.keep KL (ninS ne_r_1_b30_6 (ninS ne_r_1_b41_0_c1_c10 nin0))
      have E_r_3 := E_r_3.keep KL
      have F_value_r_3 := F_value_r_3.keep KL (ninS ne_r_3_b30_6 (ninS ne_r_3_b41_0_c1_c10 nin0))
      have E_r_5 := E_r_5.keep KL
      have F_value_r_5 := F_value_r_5.keep KL (ninS ne_r_5_b30_6 (ninS ne_r_5_b41_0_c1_c10 nin0))
      show Run p e below _ (T.setTop (mkF m 132 _ [(.ref r_3)]))
      refine q_astore (pc' := 134) (l' := #[.val (.int p1), .val (.int p2), .val (.int p3), .val (.int p4), .val (.int (2 : Int32)), .val (.int (2 : Int32)), .val (.ref r_1), .val (.ref r_3), .val (.ref r_5), .val (.ref b30_6), .val (.int (1 : Int32)), .val (.ref r_3), .unset]) X hx (hb hby at_132) rfl rfl rfl ?_
      refine q_iload (pc' := 136) X hx (hb hby at_134) rfl rfl ?_
      refine q_aload (pc' := 138) X hx (hb hby at_136) rfl rfl rfl ?_
      refine q_iconst (pc' := 139) (z := (2 : Int32)) X hx (hb hby at_138) rfl rfl ?_
      refine q_iload (pc' := 141) X hx (hb hby at_139) rfl rfl ?_
      refine q_aload (pc' := 143) X hx (hb hby at_141) rfl rfl rfl ?_
      refine q_aload (pc' := 145) X hx (hb hby at_143) rfl rfl rfl ?_
      refine q_aload (pc' := 147) X hx (hb hby at_145) rfl rfl rfl ?_
      refine q_callC (pc' := 150) (y := y7) (rest := [(.ref r_3), (.int (1 : Int32))]) X hx hZ hown (hb hby at_147) (t38 hw) (t39 hw) (t40 hw) (t41 hw) (by decide) eT [(.int (2 : Int32)), (.int (2 : Int32)), (.ref r_1), (.ref r_3), (.ref r_5)] (c38_expected hw wd (p2) (p3) (p4) O E_r_1 F_value_r_1 E_r_3 F_value_r_3 E_r_5 F_value_r_5) (by rw [hml]; rfl) (lenOf pd_6 rfl) (W := 2) rfl (by decide) (by decide) (by decide) (by decide) rfl ?_
      rintro _ T _ X ⟨rfl, rfl, eT⟩
      rw [List.append_nil] at X
      show Run p e below _ (T.setTop (mkF m 150 _ [(.ref r_3), (.ref r_3), (.int (1 : Int32))]))
      refine q_acmp (pc' := 153) (same := true) X hx (hb hby at_150) rfl rfl (decide_eq_true rfl) (by decide) (by decide) ?_
      refine q_iconst (pc' := 154) (z := (1 : Int32)) X hx (hb hby at_153) rfl rfl ?_
      refine q_goto (pc' := 158) X hx (hb hby at_154) (by decide) (by decide) ?_
      refine q_iand (pc' := 159) (z := (1 : Int32)) X hx (hb hby at_158) (by decide) rfl ?_
      refine q_istore (pc' := 161) (l' := #[.val (.int p1), .val (.int p2), .val (.int p3), .val (.int p4), .val (.int (2 : Int32)), .val (.int (2 : Int32)), .val (.ref r_1), .val (.ref r_3), .val (.ref r_5), .val (.ref b30_6), .val (.int (1 : Int32)), .val (.ref r_3), .unset]) X hx (hb hby at_159) rfl rfl ?_
      refine q_iload (pc' := 163) X hx (hb hby at_161) rfl rfl ?_
      refine q_iconst (pc' := 164) (z := (3 : Int32)) X hx (hb hby at_163) rfl rfl ?_
      refine q_icmpYes (pc' := 201) X hx (hb hby at_164) (by decide) (by decide) (by decide) ?_
      refine q_iload (pc' := 203) X hx (hb hby at_201) rfl rfl ?_
      refine q_iload (pc' := 205) X hx (hb hby at_203) rfl rfl ?_
      refine q_isub (pc' := 206) (z := (0 : Int32)) X hx (hb hby at_205) (by decide) rfl ?_
      refine q_iconst (pc' := 207) (z := (0 : Int32)) X hx (hb hby at_206) rfl rfl ?_
      refine q_callC (pc' := 210) (y := y4) (rest := []) X hx hZ hown (hb hby at_207) (t20 hw) (t21 hw) (t22 hw) (t23 hw) (by decide) eT [(.int (0 : Int32)), (.int (0 : Int32))] (c4_max hw wd  O) (by rw [hml]; rfl) (lenOf pd_3 rfl) (W := 0) rfl (by decide) (by decide) (by decide) (by decide) rfl ?_
      rintro _ T _ X ⟨rfl, rfl, eT⟩
      rw [List.append_nil] at X
      show Run p e below _ (T.setTop (mkF m 210 _ [(.int (0 : Int32))]))
      refine q_istore (pc' := 212) (l' := #[.val (.int p1), .val (.int p2), .val (.int p3), .val (.int p4), .val (.int (2 : Int32)), .val (.int (2 : Int32)), .val (.ref r_1), .val (.ref r_3), .val (.ref r_5), .val (.ref b30_6), .val (.int (1 : Int32)), .val (.int (0 : Int32)), .unset]) X hx (hb hby at_210) rfl rfl ?_
      refine q_iload (pc' := 214) X hx (hb hby at_212) rfl rfl ?_
      refine q_aload (pc' := 216) X hx (hb hby at_214) rfl rfl rfl ?_
      refine q_callV (pc' := 219) (y := y5) (rest := [(.int (1 : Int32))]) X hx hZ hown (hb hby at_216) (t24 hw) (t25 hw) (t27 hw) (t26 hw) (t9 hw) (t28 hw) (by decide) eT E_b30_6 [] (c40_size hw wd  O E_b30_6 F_items_b30_6 F_end_b30_6 F_first_b30_6 V_b41_0_c1_c10 Ov_b41_0_c1_c10) (by rw [hml]; rfl) (lenOf pd_4 rfl) (W := 1) rfl (by decide) (by decide) (by decide) (by decide) rfl ?_
      rintro _ T _ X ⟨rfl, rfl, eT⟩
      rw [List.append_nil] at X
      show Run p e below _ (T.setTop (mkF m 219 _ [(.int (0 : Int32)), (.int (1 : Int32))]))
      refine q_iload (pc' := 221) X hx (hb hby at_219) rfl rfl ?_
      refine q_icmpNo (pc' := 224) X hx (hb hby at_221) (by decide) rfl ?_
      refine q_iconst (pc' := 225) (z := (1 : Int32)) X hx (hb hby at_224) rfl rfl ?_
      refine q_goto (pc' := 229) X hx (hb hby at_225) (by decide) (by decide) ?_
      refine q_iand (pc' := 230) (z := (1 : Int32)) X hx (hb hby at_229) (by decide) rfl ?_
      refine q_istore (pc' := 232) (l' := #[.val (.int p1), .val (.int p2), .val (.int p3), .val (.int p4), .val (.int (2 : Int32)), .val (.int (2 : Int32)), .val (.ref r_1), .val (.ref r_3), .val (.ref r_5), .val (.ref b30_6), .val (.int (1 : Int32)), .val (.int (0 : Int32)), .unset]) X hx (hb hby at_230) rfl rfl ?_
      refine q_aload (pc' := 234) X hx (hb hby at_232) rfl rfl rfl ?_
      refine q_callV (pc' := 237) (y := y6) (rest := []) X hx hZ hown (hb hby at_234) (t33 hw) (t34 hw) (t36 hw) (t35 hw) (t9 hw) (t37 hw) (by decide) eT E_b30_6 [] (c41_peek hw wd  O E_b30_6 F_items_b30_6 F_end_b30_6 F_first_b30_6 V_b41_0_c1_c10 Ov_b41_0_c1_c10) (by rw [hml]; rfl) (lenOf pd_5 rfl) (W := 0) rfl (by decide) (by decide) (by decide) (by decide) rfl ?_
      rintro _ T _ X ⟨rfl, rfl, eT⟩
      rw [List.append_nil] at X
      show Run p e below _ (T.setTop (mkF m 237 _ [.null]))
      refine q_astore (pc' := 239) (l' := #[.val (.int p1), .val (.int p2), .val (.int p3), .val (.int p4), .val (.int (2 : Int32)), .val (.int (2 : Int32)), .val (.ref r_1), .val (.ref r_3), .val (.ref r_5), .val (.ref b30_6), .val (.int (1 : Int32)), .val (.int (0 : Int32)), .val .null]) X hx (hb hby at_237) rfl rfl rfl ?_
      refine q_iload (pc' := 241) X hx (hb hby at_239) rfl rfl ?_
      refine q_aload (pc' := 243) X hx (hb hby at_241) rfl rfl rfl ?_
      refine q_iload (pc' := 245) X hx (hb hby at_243) rfl rfl ?_
      refine q_iconst (pc' := 246) (z := (1 : Int32)) X hx (hb hby at_245) rfl rfl ?_
      refine q_iadd (pc' := 247) (z := (3 : Int32)) X hx (hb hby at_246) (by decide) rfl ?_
      refine q_iload (pc' := 249) X hx (hb hby at_247) rfl rfl ?_
      refine q_aload (pc' := 251) X hx (hb hby at_249) rfl rfl rfl ?_
      refine q_aload (pc' := 253) X hx (hb hby at_251) rfl rfl rfl ?_
      refine q_aload (pc' := 255) X hx (hb hby at_253) rfl rfl rfl ?_
      refine q_callC (pc' := 258) (y := y7) (rest := [.null, (.int (1 : Int32))]) X hx hZ hown (hb hby at_255) (t38 hw) (t39 hw) (t40 hw) (t41 hw) (by decide) eT [(.int (3 : Int32)), (.int (2 : Int32)), (.ref r_1), (.ref r_3), (.ref r_5)] (c42_expected hw wd (p2) (p3) (p4) O E_r_1 F_value_r_1 E_r_3 F_value_r_3 E_r_5 F_value_r_5) (by rw [hml]; rfl) (lenOf pd_6 rfl) (W := 2) rfl (by decide) (by decide) (by decide) (by decide) rfl ?_
      rintro _ T _ X ⟨rfl, rfl, eT⟩
      rw [List.append_nil] at X
      show Run p e below _ (T.setTop (mkF m 258 _ [.null, .null, (.int (1 : Int32))]))
      refine q_acmp (pc' := 261) (same := true) X hx (hb hby at_258) rfl rfl (decide_eq_true rfl) (by decide) (by decide) ?_
      refine q_iconst (pc' := 262) (z := (1 : Int32)) X hx (hb hby at_261) rfl rfl ?_
      refine q_goto (pc' := 266) X hx (hb hby at_262) (by decide) (by decide) ?_
      refine q_iand (pc' := 267) (z := (1 : Int32)) X hx (hb hby at_266) (by decide) rfl ?_
      refine q_istore (pc' := 269) (l' := #[.val (.int p1), .val (.int p2), .val (.int p3), .val (.int p4), .val (.int (2 : Int32)), .val (.int (2 : Int32)), .val (.ref r_1), .val (.ref r_3), .val (.ref r_5), .val (.ref b30_6), .val (.int (1 : Int32)), .val (.int (0 : Int32)), .val .null]) X hx (hb hby at_267) rfl rfl ?_
      refine q_iload (pc' := 271) X hx (hb hby at_269) rfl rfl ?_
      refine Run.retB X hx hlk hret (hb hby at_271) rfl (by decide) (by decide) ?_
      try rw [eT]
      exact ⟨rfl, N⟩
    · rw [hi]
      refine q_iload (pc' := 83) X hx (hb hby at_81) rfl rfl ?_
      refine q_iconst (pc' := 84) (z := (1 : Int32)) X hx (hb hby at_83) rfl rfl ?_
      refine q_icmpNo (pc' := 87) X hx (hb hby at_84) (by decide) rfl ?_
      refine q_aload (pc' := 89) X hx (hb hby at_87) rfl rfl rfl ?_
      refine q_callV (pc' := 92) (y := y8) (rest := []) X hx hZ hown (hb hby at_89) (t42 hw) (t43 hw) (t45 hw) (t44 hw) (t9 hw) (t46 hw) (by decide) eT E_b30_6 [] (c35_poll hw wd (p2) (p3) O E_r_1 F_value_r_1 E_r_3 F_value_r_3 E_b30_6 F_items_b30_6 F_end_b30_6 F_first_b30_6 V_b41_0_c1_c10 Ov_b41_0_c1_c10 g_b30_6 g_b41_0_c1_c10) (by rw [hml]; rfl) (lenOf pd_5 rfl) (W := 0) rfl (by decide) (by decide) (by decide) (by decide) rfl ?_
      rintro _ T _ X ⟨rfl, NL, KL, E_b30_6, F_items_b30_6, F_end_b30_6, F_first_b30_6, V_b41_0_c1_c10⟩
      have N := N.app NL
      obtain ⟨h_15, eT⟩ : ∃ z, T.heap = z := ⟨_, rfl⟩
      rw [eT] at KL E_b30_6 F_items_b30_6 F_end_b30_6 F_first_b30_6 V_b41_0_c1_c10
      have O := ext_keep O KL (allS g_b30_6 (allS g_b41_0_c1_c10 all0))
      have E_r_1 := E_r_1.keep KL
      have F_value_r_1 := F_value_r_1.keep KL (ninS ne_r_1_b30_6 (ninS ne_r_1_b41_0_c1_c10 nin0))
      have E_r_3 := E_r_3.keep KL
      have F_value_r_3 := F_value_r_3.keep KL (ninS ne_r_3_b30_6 (ninS ne_r_3_b41_0_c1_c10 nin0))
      have E_r_5 := E_r_5.keep KL
      have F_value_r_5 := F_value_r_5.keep KL (ninS ne_r_5_b30_6 (ninS ne_r_5_b41_0_c1_c10 nin0))
      show Run p e below _ (T.setTop (mkF m 92 _ [(.ref r_1)]))
      refine q_astore (pc' := 94) (l' := #[.val (.int p1), .val (.int p2), .val (.int p3), .val (.int p4), .val (.int (2 : Int32)), .val (.int (3 : Int32)), .val (.ref r_1), .val (.ref r_3), .val (.ref r_5), .val (.ref b30_6), .val (.int (1 : Int32)), .val (.ref r_1), .unset]) X hx (hb hby at_92) rfl rfl rfl ?_
      refine q_iload (pc' := 96) X hx (hb hby at_94) rfl rfl ?_
      refine q_aload (pc' := 98) X hx (hb hby at_96) rfl rfl rfl ?_
      refine q_iconst (pc' := 99) (z := (1 : Int32)) X hx (hb hby at_98) rfl rfl ?_
      refine q_iload (pc' := 101) X hx (hb hby at_99) rfl rfl ?_
      refine q_aload (pc' := 103) X hx (hb hby at_101) rfl rfl rfl ?_
      refine q_aload (pc' := 105) X hx (hb hby at_103) rfl rfl rfl ?_
      refine q_aload (pc' := 107) X hx (hb hby at_105) rfl rfl rfl ?_
      refine q_callC (pc' := 110) (y := y7) (rest := [(.ref r_1), (.int (1 : Int32))]) X hx hZ hown (hb hby at_107) (t38 hw) (t39 hw) (t40 hw) (t41 hw) (by decide) eT [(.int (1 : Int32)), (.int (2 : Int32)), (.ref r_1), (.ref r_3), (.ref r_5)] (c34_expected hw wd (p2) (p3) (p4) O E_r_1 F_value_r_1 E_r_3 F_value_r_3 E_r_5 F_value_r_5) (by rw [hml]; rfl) (lenOf pd_6 rfl) (W := 2) rfl (by decide) (by decide) (by decide) (by decide) rfl ?_
      rintro _ T _ X ⟨rfl, rfl, eT⟩
      rw [List.append_nil] at X
      show Run p e below _ (T.setTop (mkF m 110 _ [(.ref r_1), (.ref r_1), (.int (1 : Int32))]))
      refine q_acmp (pc' := 113) (same := true) X hx (hb hby at_110) rfl rfl (decide_eq_true rfl) (by decide) (by decide) ?_
      refine q_iconst (pc' := 114) (z := (1 : Int32)) X hx (hb hby at_113) rfl rfl ?_
      refine q_goto (pc' := 118) X hx (hb hby at_114) (by decide) (by decide) ?_
      refine q_iand (pc' := 119) (z := (1 : Int32)) X hx (hb hby at_118) (by decide) rfl ?_
      refine q_istore (pc' := 121) (l' := #[.val (.int p1), .val (.int p2), .val (.int p3), .val (.int p4), .val (.int (2 : Int32)), .val (.int (3 : Int32)), .val (.ref r_1), .val (.ref r_3), .val (.ref r_5), .val (.ref b30_6), .val (.int (1 : Int32)), .val (.ref r_1), .unset]) X hx (hb hby at_119) rfl rfl ?_
      refine q_iload (pc' := 123) X hx (hb hby at_121) rfl rfl ?_
      refine q_iconst (pc' := 124) (z := (2 : Int32)) X hx (hb hby at_123) rfl rfl ?_
      refine q_icmpNo (pc' := 127) X hx (hb hby at_124) (by decide) rfl ?_
      refine q_aload (pc' := 129) X hx (hb hby at_127) rfl rfl rfl ?_
      refine q_callV (pc' := 132) (y := y8) (rest := []) X hx hZ hown (hb hby at_129) (t42 hw) (t43 hw) (t45 hw) (t44 hw) (t9 hw) (t46 hw) (by decide) eT E_b30_6 [] (c39_poll hw wd (p3) O E_r_3 F_value_r_3 E_b30_6 F_items_b30_6 F_end_b30_6 F_first_b30_6 V_b41_0_c1_c10 Ov_b41_0_c1_c10 g_b30_6 g_b41_0_c1_c10) (by rw [hml]; rfl) (lenOf pd_5 rfl) (W := 0) rfl (by decide) (by decide) (by decide) (by decide) rfl ?_
      rintro _ T _ X ⟨rfl, NL, KL, E_b30_6, F_items_b30_6, F_end_b30_6, F_first_b30_6, V_b41_0_c1_c10⟩
      have N := N.app NL
      obtain ⟨h_17, eT⟩ : ∃ z, T.heap = z := ⟨_, rfl⟩
      rw [eT] at KL E_b30_6 F_items_b30_6 F_end_b30_6 F_first_b30_6 V_b41_0_c1_c10
      have O := ext_keep O KL (allS g_b30_6 (allS g_b41_0_c1_c10 all0))
      have E_r_1 := E_r_1.keep KL
      have F_value_r_1 := F_value_r_1.keep KL (ninS ne_r_1_b30_6 (ninS ne_r_1_b41_0_c1_c10 nin0))
      have E_r_3 := E_r_3.keep KL
      have F_value_r_3 := F_value_r_3.keep KL (ninS ne_r_3_b30_6 (ninS ne_r_3_b41_0_c1_c10 nin0))
      have E_r_5 := E_r_5.keep KL
      have F_value_r_5 := F_value_r_5.keep KL (ninS ne_r_5_b30_6 (ninS ne_r_5_b41_0_c1_c10 nin0))
      show Run p e below _ (T.setTop (mkF m 132 _ [(.ref r_3)]))
      refine q_astore (pc' := 134) (l' := #[.val (.int p1), .val (.int p2), .val (.int p3), .val (.int p4), .val (.int (2 : Int32)), .val (.int (3 : Int32)), .val (.ref r_1), .val (.ref r_3), .val (.ref r_5), .val (.ref b30_6), .val (.int (1 : Int32)), .val (.ref r_3), .unset]) X hx (hb hby at_132) rfl rfl rfl ?_
      refine q_iload (pc' := 136) X hx (hb hby at_134) rfl rfl ?_
      refine q_aload (pc' := 138) X hx (hb hby at_136) rfl rfl rfl ?_
      refine q_iconst (pc' := 139) (z := (2 : Int32)) X hx (hb hby at_138) rfl rfl ?_
      refine q_iload (pc' := 141) X hx (hb hby at_139) rfl rfl ?_
      refine q_aload (pc' := 143) X hx (hb hby at_141) rfl rfl rfl ?_
      refine q_aload (pc' := 145) X hx (hb hby at_143) rfl rfl rfl ?_
      refine q_aload (pc' := 147) X hx (hb hby at_145) rfl rfl rfl ?_
      refine q_callC (pc' := 150) (y := y7) (rest := [(.ref r_3), (.int (1 : Int32))]) X hx hZ hown (hb hby at_147) (t38 hw) (t39 hw) (t40 hw) (t41 hw) (by decide) eT [(.int (2 : Int32)), (.int (2 : Int32)), (.ref r_1), (.ref r_3), (.ref r_5)] (c38_expected hw wd (p2) (p3) (p4) O E_r_1 F_value_r_1 E_r_3 F_value_r_3 E_r_5 F_value_r_5) (by rw [hml]; rfl) (lenOf pd_6 rfl) (W := 2) rfl (by decide) (by decide) (by decide) (by decide) rfl ?_
      rintro _ T _ X ⟨rfl, rfl, eT⟩
      rw [List.append_nil] at X
      show Run p e below _ (T.setTop (mkF m 150 _ [(.ref r_3), (.ref r_3), (.int (1 : Int32))]))
      refine q_acmp (pc' := 153) (same := true) X hx (hb hby at_150) rfl rfl (decide_eq_true rfl) (by decide) (by decide) ?_
      refine q_iconst (pc' := 154) (z := (1 : Int32)) X hx (hb hby at_153) rfl rfl ?_
      refine q_goto (pc' := 158) X hx (hb hby at_154) (by decide) (by decide) ?_
      refine q_iand (pc' := 159) (z := (1 : Int32)) X hx (hb hby at_158) (by decide) rfl ?_
      refine q_istore (pc' := 161) (l' := #[.val (.int p1), .val (.int p2), .val (.int p3), .val (.int p4), .val (.int (2 : Int32)), .val (.int (3 : Int32)), .val (.ref r_1), .val (.ref r_3), .val (.ref r_5), .val (.ref b30_6), .val (.int (1 : Int32)), .val (.ref r_3), .unset]) X hx (hb hby at_159) rfl rfl ?_
      refine q_iload (pc' := 163) X hx (hb hby at_161) rfl rfl ?_
      refine q_iconst (pc' := 164) (z := (3 : Int32)) X hx (hb hby at_163) rfl rfl ?_
      refine q_icmpNo (pc' := 167) X hx (hb hby at_164) (by decide) rfl ?_
      refine q_aload (pc' := 169) X hx (hb hby at_167) rfl rfl rfl ?_
      refine q_callV (pc' := 172) (y := y8) (rest := []) X hx hZ hown (hb hby at_169) (t42 hw) (t43 hw) (t45 hw) (t44 hw) (t9 hw) (t46 hw) (by decide) eT E_b30_6 [] (c43_poll hw wd  O E_b30_6 F_items_b30_6 F_end_b30_6 F_first_b30_6 V_b41_0_c1_c10 Ov_b41_0_c1_c10) (by rw [hml]; rfl) (lenOf pd_5 rfl) (W := 0) rfl (by decide) (by decide) (by decide) (by decide) rfl ?_
      rintro _ T _ X ⟨rfl, rfl, eT⟩
      rw [List.append_nil] at X
      show Run p e below _ (T.setTop (mkF m 172 _ [.null]))
      refine q_astore (pc' := 174) (l' := #[.val (.int p1), .val (.int p2), .val (.int p3), .val (.int p4), .val (.int (2 : Int32)), .val (.int (3 : Int32)), .val (.ref r_1), .val (.ref r_3), .val (.ref r_5), .val (.ref b30_6), .val (.int (1 : Int32)), .val .null, .unset]) X hx (hb hby at_172) rfl rfl rfl ?_
      refine q_iload (pc' := 176) X hx (hb hby at_174) rfl rfl ?_
      refine q_aload (pc' := 178) X hx (hb hby at_176) rfl rfl rfl ?_
      refine q_iconst (pc' := 179) (z := (3 : Int32)) X hx (hb hby at_178) rfl rfl ?_
      refine q_iload (pc' := 181) X hx (hb hby at_179) rfl rfl ?_
      refine q_aload (pc' := 183) X hx (hb hby at_181) rfl rfl rfl ?_
      refine q_aload (pc' := 185) X hx (hb hby at_183) rfl rfl rfl ?_
      refine q_aload (pc' := 187) X hx (hb hby at_185) rfl rfl rfl ?_
      refine q_callC (pc' := 190) (y := y7) (rest := [.null, (.int (1 : Int32))]) X hx hZ hown (hb hby at_187) (t38 hw) (t39 hw) (t40 hw) (t41 hw) (by decide) eT [(.int (3 : Int32)), (.int (2 : Int32)), (.ref r_1), (.ref r_3), (.ref r_5)] (c42_expected hw wd (p2) (p3) (p4) O E_r_1 F_value_r_1 E_r_3 F_value_r_3 E_r_5 F_value_r_5) (by rw [hml]; rfl) (lenOf pd_6 rfl) (W := 2) rfl (by decide) (by decide) (by decide) (by decide) rfl ?_
      rintro _ T _ X ⟨rfl, rfl, eT⟩
      rw [List.append_nil] at X
      show Run p e below _ (T.setTop (mkF m 190 _ [.null, .null, (.int (1 : Int32))]))
      refine q_acmp (pc' := 193) (same := true) X hx (hb hby at_190) rfl rfl (decide_eq_true rfl) (by decide) (by decide) ?_
      refine q_iconst (pc' := 194) (z := (1 : Int32)) X hx (hb hby at_193) rfl rfl ?_
      refine q_goto (pc' := 198) X hx (hb hby at_194) (by decide) (by decide) ?_
      refine q_iand (pc' := 199) (z := (1 : Int32)) X hx (hb hby at_198) (by decide) rfl ?_
      refine q_istore (pc' := 201) (l' := #[.val (.int p1), .val (.int p2), .val (.int p3), .val (.int p4), .val (.int (2 : Int32)), .val (.int (3 : Int32)), .val (.ref r_1), .val (.ref r_3), .val (.ref r_5), .val (.ref b30_6), .val (.int (1 : Int32)), .val .null, .unset]) X hx (hb hby at_199) rfl rfl ?_
      refine q_iload (pc' := 203) X hx (hb hby at_201) rfl rfl ?_
      refine q_iload (pc' := 205) X hx (hb hby at_203) rfl rfl ?_
      refine q_isub (pc' := 206) (z := (-1 : Int32)) X hx (hb hby at_205) (by decide) rfl ?_
      refine q_iconst (pc' := 207) (z := (0 : Int32)) X hx (hb hby at_206) rfl rfl ?_
      refine q_callC (pc' := 210) (y := y4) (rest := []) X hx hZ hown (hb hby at_207) (t20 hw) (t21 hw) (t22 hw) (t23 hw) (by decide) eT [(.int (-1 : Int32)), (.int (0 : Int32))] (c9_max hw wd  O) (by rw [hml]; rfl) (lenOf pd_3 rfl) (W := 0) rfl (by decide) (by decide) (by decide) (by decide) rfl ?_
      rintro _ T _ X ⟨rfl, rfl, eT⟩
      rw [List.append_nil] at X
      show Run p e below _ (T.setTop (mkF m 210 _ [(.int (0 : Int32))]))
      refine q_istore (pc' := 212) (l' := #[.val (.int p1), .val (.int p2), .val (.int p3), .val (.int p4), .val (.int (2 : Int32)), .val (.int (3 : Int32)), .val (.ref r_1), .val (.ref r_3), .val (.ref r_5), .val (.ref b30_6), .val (.int (1 : Int32)), .val (.int (0 : Int32)), .unset]) X hx (hb hby at_210) rfl rfl ?_
      refine q_iload (pc' := 214) X hx (hb hby at_212) rfl rfl ?_
      refine q_aload (pc' := 216) X hx (hb hby at_214) rfl rfl rfl ?_
      refine q_callV (pc' := 219) (y := y5) (rest := [(.int (1 : Int32))]) X hx hZ hown (hb hby at_216) (t24 hw) (t25 hw) (t27 hw) (t26 hw) (t9 hw) (t28 hw) (by decide) eT E_b30_6 [] (c40_size hw wd  O E_b30_6 F_items_b30_6 F_end_b30_6 F_first_b30_6 V_b41_0_c1_c10 Ov_b41_0_c1_c10) (by rw [hml]; rfl) (lenOf pd_4 rfl) (W := 1) rfl (by decide) (by decide) (by decide) (by decide) rfl ?_
      rintro _ T _ X ⟨rfl, rfl, eT⟩
      rw [List.append_nil] at X
      show Run p e below _ (T.setTop (mkF m 219 _ [(.int (0 : Int32)), (.int (1 : Int32))]))
      refine q_iload (pc' := 221) X hx (hb hby at_219) rfl rfl ?_
      refine q_icmpNo (pc' := 224) X hx (hb hby at_221) (by decide) rfl ?_
      refine q_iconst (pc' := 225) (z := (1 : Int32)) X hx (hb hby at_224) rfl rfl ?_
      refine q_goto (pc' := 229) X hx (hb hby at_225) (by decide) (by decide) ?_
      refine q_iand (pc' := 230) (z := (1 : Int32)) X hx (hb hby at_229) (by decide) rfl ?_
      refine q_istore (pc' := 232) (l' := #[.val (.int p1), .val (.int p2), .val (.int p3), .val (.int p4), .val (.int (2 : Int32)), .val (.int (3 : Int32)), .val (.ref r_1), .val (.ref r_3), .val (.ref r_5), .val (.ref b30_6), .val (.int (1 : Int32)), .val (.int (0 : Int32)), .unset]) X hx (hb hby at_230) rfl rfl ?_
      refine q_aload (pc' := 234) X hx (hb hby at_232) rfl rfl rfl ?_
      refine q_callV (pc' := 237) (y := y6) (rest := []) X hx hZ hown (hb hby at_234) (t33 hw) (t34 hw) (t36 hw) (t35 hw) (t9 hw) (t37 hw) (by decide) eT E_b30_6 [] (c41_peek hw wd  O E_b30_6 F_items_b30_6 F_end_b30_6 F_first_b30_6 V_b41_0_c1_c10 Ov_b41_0_c1_c10) (by rw [hml]; rfl) (lenOf pd_5 rfl) (W := 0) rfl (by decide) (by decide) (by decide) (by decide) rfl ?_
      rintro _ T _ X ⟨rfl, rfl, eT⟩
      rw [List.append_nil] at X
      show Run p e below _ (T.setTop (mkF m 237 _ [.null]))
      refine q_astore (pc' := 239) (l' := #[.val (.int p1), .val (.int p2), .val (.int p3), .val (.int p4), .val (.int (2 : Int32)), .val (.int (3 : Int32)), .val (.ref r_1), .val (.ref r_3), .val (.ref r_5), .val (.ref b30_6), .val (.int (1 : Int32)), .val (.int (0 : Int32)), .val .null]) X hx (hb hby at_237) rfl rfl rfl ?_
      refine q_iload (pc' := 241) X hx (hb hby at_239) rfl rfl ?_
      refine q_aload (pc' := 243) X hx (hb hby at_241) rfl rfl rfl ?_
      refine q_iload (pc' := 245) X hx (hb hby at_243) rfl rfl ?_
      refine q_iconst (pc' := 246) (z := (1 : Int32)) X hx (hb hby at_245) rfl rfl ?_
      refine q_iadd (pc' := 247) (z := (4 : Int32)) X hx (hb hby at_246) (by decide) rfl ?_
      refine q_iload (pc' := 249) X hx (hb hby at_247) rfl rfl ?_
      refine q_aload (pc' := 251) X hx (hb hby at_249) rfl rfl rfl ?_
      refine q_aload (pc' := 253) X hx (hb hby at_251) rfl rfl rfl ?_
      refine q_aload (pc' := 255) X hx (hb hby at_253) rfl rfl rfl ?_
      refine q_callC (pc' := 258) (y := y7) (rest := [.null, (.int (1 : Int32))]) X hx hZ hown (hb hby at_255) (t38 hw) (t39 hw) (t40 hw) (t41 hw) (by decide) eT [(.int (4 : Int32)), (.int (2 : Int32)), (.ref r_1), (.ref r_3), (.ref r_5)] (c44_expected hw wd (p2) (p3) (p4) O E_r_1 F_value_r_1 E_r_3 F_value_r_3 E_r_5 F_value_r_5) (by rw [hml]; rfl) (lenOf pd_6 rfl) (W := 2) rfl (by decide) (by decide) (by decide) (by decide) rfl ?_
      rintro _ T _ X ⟨rfl, rfl, eT⟩
      rw [List.append_nil] at X
      show Run p e below _ (T.setTop (mkF m 258 _ [.null, .null, (.int (1 : Int32))]))
      refine q_acmp (pc' := 261) (same := true) X hx (hb hby at_258) rfl rfl (decide_eq_true rfl) (by decide) (by decide) ?_
      refine q_iconst (pc' := 262) (z := (1 : Int32)) X hx (hb hby at_261) rfl rfl ?_
      refine q_goto (pc' := 266) X hx (hb hby at_262) (by decide) (by decide) ?_
      refine q_iand (pc' := 267) (z := (1 : Int32)) X hx (hb hby at_266) (by decide) rfl ?_
      refine q_istore (pc' := 269) (l' := #[.val (.int p1), .val (.int p2), .val (.int p3), .val (.int p4), .val (.int (2 : Int32)), .val (.int (3 : Int32)), .val (.ref r_1), .val (.ref r_3), .val (.ref r_5), .val (.ref b30_6), .val (.int (1 : Int32)), .val (.int (0 : Int32)), .val .null]) X hx (hb hby at_267) rfl rfl ?_
      refine q_iload (pc' := 271) X hx (hb hby at_269) rfl rfl ?_
      refine Run.retB X hx hlk hret (hb hby at_271) rfl (by decide) (by decide) ?_
      try rw [eT]
      exact ⟨rfl, N⟩
  · rw [hi]
    refine q_iload (pc' := 41) X hx (hb hby at_39) rfl rfl ?_
    refine q_iconst (pc' := 42) (z := (1 : Int32)) X hx (hb hby at_41) rfl rfl ?_
    refine q_icmpNo (pc' := 45) X hx (hb hby at_42) (by decide) rfl ?_
    refine q_aload (pc' := 47) X hx (hb hby at_45) rfl rfl rfl ?_
    refine q_aload (pc' := 49) X hx (hb hby at_47) rfl rfl rfl ?_
    have lt_b30_6 := E_b30_6.lt
    have lt_r_1 := E_r_1.lt
    refine q_callV (pc' := 52) (y := y10) (rest := []) X hx hZ hown (hb hby at_49) (t62 hw) (t63 hw) (t65 hw) (t64 hw) (t9 hw) (t66 hw) (by decide) eT E_b30_6 [(.ref r_1)] (c15_add hw wd (p2) O E_r_1 F_value_r_1 E_b30_6 F_items_b30_6 F_end_b30_6 F_first_b30_6 g_b30_6) (by rw [hml]; rfl) (lenOf pd_7 rfl) (W := 0) rfl (by decide) (by decide) (by decide) (by decide) rfl ?_
    rintro _ T _ X ⟨b41_0_c1_c10, k_b41_0_c1_c10, rfl, NL, KL, szn_b41_0_c1_c10, E_b30_6, F_items_b30_6, F_end_b30_6, F_first_b30_6, V_b41_0_c1_c10, Ov_b41_0_c1_c10⟩
    have N := N.app NL
    have ne_b30_6_b41_0_c1_c10 : b30_6 ≠ b41_0_c1_c10 := Nat.ne_of_lt (Nat.lt_of_lt_of_le lt_b30_6 szn_b41_0_c1_c10)
    have ne_r_1_b41_0_c1_c10 : r_1 ≠ b41_0_c1_c10 := Nat.ne_of_lt (Nat.lt_of_lt_of_le lt_r_1 szn_b41_0_c1_c10)
    have g_b41_0_c1_c10 : Z.heap.size ≤ b41_0_c1_c10 := Nat.le_trans O.1 szn_b41_0_c1_c10
    obtain ⟨h_11, eT⟩ : ∃ z, T.heap = z := ⟨_, rfl⟩
    rw [eT] at KL E_b30_6 F_items_b30_6 F_end_b30_6 F_first_b30_6 V_b41_0_c1_c10
    have O := ext_keep O KL (allS g_b30_6 all0)
    have E_r_1 := E_r_1.keep KL
    have F_value_r_1 := F_value_r_1.keep KL (ninS ne_r_1_b30_6 nin0)
    have E_r_3 := E_r_3.keep KL
    have F_value_r_3 := F_value_r_3.keep KL (ninS ne_r_3_b30_6 nin0)
    have E_r_5 := E_r_5.keep KL
    have F_value_r_5 := F_value_r_5.keep KL (ninS ne_r_5_b30_6 nin0)
    show Run p e below _ (T.setTop (mkF m 52 _ []))
    refine q_iload (pc' := 54) X hx (hb hby at_52) rfl rfl ?_
    refine q_iconst (pc' := 55) (z := (2 : Int32)) X hx (hb hby at_54) rfl rfl ?_
    refine q_icmpNo (pc' := 58) X hx (hb hby at_55) (by decide) rfl ?_
    refine q_aload (pc' := 60) X hx (hb hby at_58) rfl rfl rfl ?_
    refine q_aload (pc' := 62) X hx (hb hby at_60) rfl rfl rfl ?_
    have ne_r_3_b41_0_c1_c10 : r_3 ≠ b41_0_c1_c10 := Exa.neArv E_r_3 V_b41_0_c1_c10 (t48 hw)
    have ne_r_5_b41_0_c1_c10 : r_5 ≠ b41_0_c1_c10 := Exa.neArv E_r_5 V_b41_0_c1_c10 (t48 hw)
    refine q_callV (pc' := 65) (y := y10) (rest := []) X hx hZ hown (hb hby at_62) (t62 hw) (t63 hw) (t65 hw) (t64 hw) (t9 hw) (t66 hw) (by decide) eT E_b30_6 [(.ref r_3)] (c30_add hw wd (p2) (p3) O E_r_1 F_value_r_1 E_r_3 F_value_r_3 E_b30_6 F_items_b30_6 F_end_b30_6 F_first_b30_6 V_b41_0_c1_c10 Ov_b41_0_c1_c10 g_b30_6 g_b41_0_c1_c10) (by rw [hml]; rfl) (lenOf pd_7 rfl) (W := 0) rfl (by decide) (by decide) (by decide) (by decide) rfl ?_
    rintro _ T _ X ⟨rfl, NL, KL, E_b30_6, F_items_b30_6, F_end_b30_6, F_first_b30_6, V_b41_0_c1_c10⟩
    have N := N.app NL
    obtain ⟨h_13, eT⟩ : ∃ z, T.heap = z := ⟨_, rfl⟩
    rw [eT] at KL E_b30_6 F_items_b30_6 F_end_b30_6 F_first_b30_6 V_b41_0_c1_c10
    have O := ext_keep O KL (allS g_b30_6 (allS g_b41_0_c1_c10 all0))
    have E_r_1 := E_r_1.keep KL
    have F_value_r_1 := F_value_r_1.keep KL (ninS ne_r_1_b30_6 (ninS ne_r_1_b41_0_c1_c10 nin0))
    have E_r_3 := E_r_3.keep KL
    have F_value_r_3 := F_value_r_3.keep KL (ninS ne_r_3_b30_6 (ninS ne_r_3_b41_0_c1_c10 nin0))
    have E_r_5 := E_r_5.keep KL
    have F_value_r_5 := F_value_r_5.keep KL (ninS ne_r_5_b30_6 (ninS ne_r_5_b41_0_c1_c10 nin0))
    show Run p e below _ (T.setTop (mkF m 65 _ []))
    refine q_iload (pc' := 67) X hx (hb hby at_65) rfl rfl ?_
    refine q_iconst (pc' := 68) (z := (3 : Int32)) X hx (hb hby at_67) rfl rfl ?_
    refine q_icmpNo (pc' := 71) X hx (hb hby at_68) (by decide) rfl ?_
    refine q_aload (pc' := 73) X hx (hb hby at_71) rfl rfl rfl ?_
    refine q_aload (pc' := 75) X hx (hb hby at_73) rfl rfl rfl ?_
    refine q_callV (pc' := 78) (y := y10) (rest := []) X hx hZ hown (hb hby at_75) (t62 hw) (t63 hw) (t65 hw) (t64 hw) (t9 hw) (t66 hw) (by decide) eT E_b30_6 [(.ref r_5)] (c45_add hw wd (p2) (p3) (p4) O E_r_1 F_value_r_1 E_r_3 F_value_r_3 E_r_5 F_value_r_5 E_b30_6 F_items_b30_6 F_end_b30_6 F_first_b30_6 V_b41_0_c1_c10 Ov_b41_0_c1_c10 g_b30_6 g_b41_0_c1_c10) (by rw [hml]; rfl) (lenOf pd_7 rfl) (W := 0) rfl (by decide) (by decide) (by decide) (by decide) rfl ?_
    rintro _ T _ X ⟨rfl, NL, KL, E_b30_6, F_items_b30_6, F_end_b30_6, F_first_b30_6, V_b41_0_c1_c10⟩
    have N := N.app NL
    obtain ⟨h_15, eT⟩ : ∃ z, T.heap = z := ⟨_, rfl⟩
    rw [eT] at KL E_b30_6 F_items_b30_6 F_end_b30_6 F_first_b30_6 V_b41_0_c1_c10
    have O := ext_keep O KL (allS g_b30_6 (allS g_b41_0_c1_c10 all0))
    have E_r_1 := E_r_1.keep KL
    have F_value_r_1 := F_value_r_1.keep KL (ninS ne_r_1_b30_6 (ninS ne_r_1_b41_0_c1_c10 nin0))
    have E_r_3 := E_r_3.keep KL
    have F_value_r_3 := F_value_r_3.keep KL (ninS ne_r_3_b30_6 (ninS ne_r_3_b41_0_c1_c10 nin0))
    have E_r_5 := E_r_5.keep KL
    have F_value_r_5 := F_value_r_5.keep KL (ninS ne_r_5_b30_6 (ninS ne_r_5_b41_0_c1_c10 nin0))
    show Run p e below _ (T.setTop (mkF m 78 _ []))
    refine q_iconst (pc' := 79) (z := (1 : Int32)) X hx (hb hby at_78) rfl rfl ?_
    refine q_istore (pc' := 81) (l' := #[.val (.int p1), .val (.int p2), .val (.int p3), .val (.int p4), .val (.int (3 : Int32)), .val (.int (((p1.toUInt32 >>> ((2 : Int32) &&& 31).toUInt32).toInt32) &&& (3 : Int32))), .val (.ref r_1), .val (.ref r_3), .val (.ref r_5), .val (.ref b30_6), .val (.int (1 : Int32)), .unset, .unset]) X hx (hb hby at_79) rfl rfl ?_
    rcases own_sel ((p1.toUInt32 >>> ((2 : Int32) &&& 31).toUInt32).toInt32) with hi | hi | hi | hi
    · rw [hi]
      refine q_iload (pc' := 83) X hx (hb hby at_81) rfl rfl ?_
      refine q_iconst (pc' := 84) (z := (1 : Int32)) X hx (hb hby at_83) rfl rfl ?_
      refine q_icmpYes (pc' := 121) X hx (hb hby at_84) (by decide) (by decide) (by decide) ?_
      refine q_iload (pc' := 123) X hx (hb hby at_121) rfl rfl ?_
      refine q_iconst (pc' := 124) (z := (2 : Int32)) X hx (hb hby at_123) rfl rfl ?_
      refine q_icmpYes (pc' := 161) X hx (hb hby at_124) (by decide) (by decide) (by decide) ?_
      refine q_iload (pc' := 163) X hx (hb hby at_161) rfl rfl ?_
      refine q_iconst (pc' := 164) (z := (3 : Int32)) X hx (hb hby at_163) rfl rfl ?_
      refine q_icmpYes (pc' := 201) X hx (hb hby at_164) (by decide) (by decide) (by decide) ?_
      refine q_iload (pc' := 203) X hx (hb hby at_201) rfl rfl ?_
      refine q_iload (pc' := 205) X hx (hb hby at_203) rfl rfl ?_
      refine q_isub (pc' := 206) (z := (3 : Int32)) X hx (hb hby at_205) (by decide) rfl ?_
      refine q_iconst (pc' := 207) (z := (0 : Int32)) X hx (hb hby at_206) rfl rfl ?_
      refine q_callC (pc' := 210) (y := y4) (rest := []) X hx hZ hown (hb hby at_207) (t20 hw) (t21 hw) (t22 hw) (t23 hw) (by decide) eT [(.int (3 : Int32)), (.int (0 : Int32))] (c46_max hw wd  O) (by rw [hml]; rfl) (lenOf pd_3 rfl) (W := 0) rfl (by decide) (by decide) (by decide) (by decide) rfl ?_
      rintro _ T _ X ⟨rfl, rfl, eT⟩
      rw [List.append_nil] at X
      show Run p e below _ (T.setTop (mkF m 210 _ [(.int (3 : Int32))]))
      refine q_istore (pc' := 212) (l' := #[.val (.int p1), .val (.int p2), .val (.int p3), .val (.int p4), .val (.int (3 : Int32)), .val (.int (0 : Int32)), .val (.ref r_1), .val (.ref r_3), .val (.ref r_5), .val (.ref b30_6), .val (.int (1 : Int32)), .val (.int (3 : Int32)), .unset]) X hx (hb hby at_210) rfl rfl ?_
      refine q_iload (pc' := 214) X hx (hb hby at_212) rfl rfl ?_
      refine q_aload (pc' := 216) X hx (hb hby at_214) rfl rfl rfl ?_
      refine q_callV (pc' := 219) (y := y5) (rest := [(.int (1 : Int32))]) X hx hZ hown (hb hby at_216) (t24 hw) (t25 hw) (t27 hw) (t26 hw) (t9 hw) (t28 hw) (by decide) eT E_b30_6 [] (c47_size hw wd (p2) (p3) (p4) O E_r_1 F_value_r_1 E_r_3 F_value_r_3 E_r_5 F_value_r_5 E_b30_6 F_items_b30_6 F_end_b30_6 F_first_b30_6 V_b41_0_c1_c10 Ov_b41_0_c1_c10) (by rw [hml]; rfl) (lenOf pd_4 rfl) (W := 1) rfl (by decide) (by decide) (by decide) (by decide) rfl ?_
      rintro _ T _ X ⟨rfl, rfl, eT⟩
      rw [List.append_nil] at X
      show Run p e below _ (T.setTop (mkF m 219 _ [(.int (3 : Int32)), (.int (1 : Int32))]))
      refine q_iload (pc' := 221) X hx (hb hby at_219) rfl rfl ?_
      refine q_icmpNo (pc' := 224) X hx (hb hby at_221) (by decide) rfl ?_
      refine q_iconst (pc' := 225) (z := (1 : Int32)) X hx (hb hby at_224) rfl rfl ?_
      refine q_goto (pc' := 229) X hx (hb hby at_225) (by decide) (by decide) ?_
      refine q_iand (pc' := 230) (z := (1 : Int32)) X hx (hb hby at_229) (by decide) rfl ?_
      refine q_istore (pc' := 232) (l' := #[.val (.int p1), .val (.int p2), .val (.int p3), .val (.int p4), .val (.int (3 : Int32)), .val (.int (0 : Int32)), .val (.ref r_1), .val (.ref r_3), .val (.ref r_5), .val (.ref b30_6), .val (.int (1 : Int32)), .val (.int (3 : Int32)), .unset]) X hx (hb hby at_230) rfl rfl ?_
      refine q_aload (pc' := 234) X hx (hb hby at_232) rfl rfl rfl ?_
      refine q_callV (pc' := 237) (y := y6) (rest := []) X hx hZ hown (hb hby at_234) (t33 hw) (t34 hw) (t36 hw) (t35 hw) (t9 hw) (t37 hw) (by decide) eT E_b30_6 [] (c48_peek hw wd (p2) (p3) (p4) O E_r_1 F_value_r_1 E_r_3 F_value_r_3 E_r_5 F_value_r_5 E_b30_6 F_items_b30_6 F_end_b30_6 F_first_b30_6 V_b41_0_c1_c10 Ov_b41_0_c1_c10) (by rw [hml]; rfl) (lenOf pd_5 rfl) (W := 0) rfl (by decide) (by decide) (by decide) (by decide) rfl ?_
      rintro _ T _ X ⟨rfl, rfl, eT⟩
      rw [List.append_nil] at X
      show Run p e below _ (T.setTop (mkF m 237 _ [(.ref r_1)]))
      refine q_astore (pc' := 239) (l' := #[.val (.int p1), .val (.int p2), .val (.int p3), .val (.int p4), .val (.int (3 : Int32)), .val (.int (0 : Int32)), .val (.ref r_1), .val (.ref r_3), .val (.ref r_5), .val (.ref b30_6), .val (.int (1 : Int32)), .val (.int (3 : Int32)), .val (.ref r_1)]) X hx (hb hby at_237) rfl rfl rfl ?_
      refine q_iload (pc' := 241) X hx (hb hby at_239) rfl rfl ?_
      refine q_aload (pc' := 243) X hx (hb hby at_241) rfl rfl rfl ?_
      refine q_iload (pc' := 245) X hx (hb hby at_243) rfl rfl ?_
      refine q_iconst (pc' := 246) (z := (1 : Int32)) X hx (hb hby at_245) rfl rfl ?_
      refine q_iadd (pc' := 247) (z := (1 : Int32)) X hx (hb hby at_246) (by decide) rfl ?_
      refine q_iload (pc' := 249) X hx (hb hby at_247) rfl rfl ?_
      refine q_aload (pc' := 251) X hx (hb hby at_249) rfl rfl rfl ?_
      refine q_aload (pc' := 253) X hx (hb hby at_251) rfl rfl rfl ?_
      refine q_aload (pc' := 255) X hx (hb hby at_253) rfl rfl rfl ?_
      refine q_callC (pc' := 258) (y := y7) (rest := [(.ref r_1), (.int (1 : Int32))]) X hx hZ hown (hb hby at_255) (t38 hw) (t39 hw) (t40 hw) (t41 hw) (by decide) eT [(.int (1 : Int32)), (.int (3 : Int32)), (.ref r_1), (.ref r_3), (.ref r_5)] (c49_expected hw wd (p2) (p3) (p4) O E_r_1 F_value_r_1 E_r_3 F_value_r_3 E_r_5 F_value_r_5) (by rw [hml]; rfl) (lenOf pd_6 rfl) (W := 2) rfl (by decide) (by decide) (by decide) (by decide) rfl ?_
      rintro _ T _ X ⟨rfl, rfl, eT⟩
      rw [List.append_nil] at X
      show Run p e below _ (T.setTop (mkF m 258 _ [(.ref r_1), (.ref r_1), (.int (1 : Int32))]))
      refine q_acmp (pc' := 261) (same := true) X hx (hb hby at_258) rfl rfl (decide_eq_true rfl) (by decide) (by decide) ?_
      refine q_iconst (pc' := 262) (z := (1 : Int32)) X hx (hb hby at_261) rfl rfl ?_
      refine q_goto (pc' := 266) X hx (hb hby at_262) (by decide) (by decide) ?_
      refine q_iand (pc' := 267) (z := (1 : Int32)) X hx (hb hby at_266) (by decide) rfl ?_
      refine q_istore (pc' := 269) (l' := #[.val (.int p1), .val (.int p2), .val (.int p3), .val (.int p4), .val (.int (3 : Int32)), .val (.int (0 : Int32)), .val (.ref r_1), .val (.ref r_3), .val (.ref r_5), .val (.ref b30_6), .val (.int (1 : Int32)), .val (.int (3 : Int32)), .val (.ref r_1)]) X hx (hb hby at_267) rfl rfl ?_
      refine q_iload (pc' := 271) X hx (hb hby at_269) rfl rfl ?_
      refine Run.retB X hx hlk hret (hb hby at_271) rfl (by decide) (by decide) ?_
      try rw [eT]
      exact ⟨rfl, N⟩
    · rw [hi]
      refine q_iload (pc' := 83) X hx (hb hby at_81) rfl rfl ?_
      refine q_iconst (pc' := 84) (z := (1 : Int32)) X hx (hb hby at_83) rfl rfl ?_
      refine q_icmpNo (pc' := 87) X hx (hb hby at_84) (by decide) rfl ?_
      refine q_aload (pc' := 89) X hx (hb hby at_87) rfl rfl rfl ?_
      refine q_callV (pc' := 92) (y := y8) (rest := []) X hx hZ hown (hb hby at_89) (t42 hw) (t43 hw) (t45 hw) (t44 hw) (t9 hw) (t46 hw) (by decide) eT E_b30_6 [] (c50_poll hw wd (p2) (p3) (p4) O E_r_1 F_value_r_1 E_r_3 F_value_r_3 E_r_5 F_value_r_5 E_b30_6 F_items_b30_6 F_end_b30_6 F_first_b30_6 V_b41_0_c1_c10 Ov_b41_0_c1_c10 g_b30_6 g_b41_0_c1_c10) (by rw [hml]; rfl) (lenOf pd_5 rfl) (W := 0) rfl (by decide) (by decide) (by decide) (by decide) rfl ?_
      rintro _ T _ X ⟨rfl, NL, KL, E_b30_6, F_items_b30_6, F_end_b30_6, F_first_b30_6, V_b41_0_c1_c10⟩
      have N := N.app NL
      obtain ⟨h_17, eT⟩ : ∃ z, T.heap = z := ⟨_, rfl⟩
      rw [eT] at KL E_b30_6 F_items_b30_6 F_end_b30_6 F_first_b30_6 V_b41_0_c1_c10
      have O := ext_keep O KL (allS g_b30_6 (allS g_b41_0_c1_c10 all0))
      have E_r_1 := E_r_1.keep KL
      have F_value_r_1 := F_value_r_1.keep KL (ninS ne_r_1_b30_6 (ninS ne_r_1_b41_0_c1_c10 nin0))
      have E_r_3 := E_r_3.keep KL
      have F_value_r_3 := F_value_r_3.keep KL (ninS ne_r_3_b30_6 (ninS ne_r_3_b41_0_c1_c10 nin0))
      have E_r_5 := E_r_5.keep KL
      have F_value_r_5 := F_value_r_5.keep KL (ninS ne_r_5_b30_6 (ninS ne_r_5_b41_0_c1_c10 nin0))
      show Run p e below _ (T.setTop (mkF m 92 _ [(.ref r_1)]))
      refine q_astore (pc' := 94) (l' := #[.val (.int p1), .val (.int p2), .val (.int p3), .val (.int p4), .val (.int (3 : Int32)), .val (.int (1 : Int32)), .val (.ref r_1), .val (.ref r_3), .val (.ref r_5), .val (.ref b30_6), .val (.int (1 : Int32)), .val (.ref r_1), .unset]) X hx (hb hby at_92) rfl rfl rfl ?_
      refine q_iload (pc' := 96) X hx (hb hby at_94) rfl rfl ?_
      refine q_aload (pc' := 98) X hx (hb hby at_96) rfl rfl rfl ?_
      refine q_iconst (pc' := 99) (z := (1 : Int32)) X hx (hb hby at_98) rfl rfl ?_
      refine q_iload (pc' := 101) X hx (hb hby at_99) rfl rfl ?_
      refine q_aload (pc' := 103) X hx (hb hby at_101) rfl rfl rfl ?_
      refine q_aload (pc' := 105) X hx (hb hby at_103) rfl rfl rfl ?_
      refine q_aload (pc' := 107) X hx (hb hby at_105) rfl rfl rfl ?_
      refine q_callC (pc' := 110) (y := y7) (rest := [(.ref r_1), (.int (1 : Int32))]) X hx hZ hown (hb hby at_107) (t38 hw) (t39 hw) (t40 hw) (t41 hw) (by decide) eT [(.int (1 : Int32)), (.int (3 : Int32)), (.ref r_1), (.ref r_3), (.ref r_5)] (c49_expected hw wd (p2) (p3) (p4) O E_r_1 F_value_r_1 E_r_3 F_value_r_3 E_r_5 F_value_r_5) (by rw [hml]; rfl) (lenOf pd_6 rfl) (W := 2) rfl (by decide) (by decide) (by decide) (by decide) rfl ?_
      rintro _ T _ X ⟨rfl, rfl, eT⟩
      rw [List.append_nil] at X
      show Run p e below _ (T.setTop (mkF m 110 _ [(.ref r_1), (.ref r_1), (.int (1 : Int32))]))
      refine q_acmp (pc' := 113) (same := true) X hx (hb hby at_110) rfl rfl (decide_eq_true rfl) (by decide) (by decide) ?_
      refine q_iconst (pc' := 114) (z := (1 : Int32)) X hx (hb hby at_113) rfl rfl ?_
      refine q_goto (pc' := 118) X hx (hb hby at_114) (by decide) (by decide) ?_
      refine q_iand (pc' := 119) (z := (1 : Int32)) X hx (hb hby at_118) (by decide) rfl ?_
      refine q_istore (pc' := 121) (l' := #[.val (.int p1), .val (.int p2), .val (.int p3), .val (.int p4), .val (.int (3 : Int32)), .val (.int (1 : Int32)), .val (.ref r_1), .val (.ref r_3), .val (.ref r_5), .val (.ref b30_6), .val (.int (1 : Int32)), .val (.ref r_1), .unset]) X hx (hb hby at_119) rfl rfl ?_
      refine q_iload (pc' := 123) X hx (hb hby at_121) rfl rfl ?_
      refine q_iconst (pc' := 124) (z := (2 : Int32)) X hx (hb hby at_123) rfl rfl ?_
      refine q_icmpYes (pc' := 161) X hx (hb hby at_124) (by decide) (by decide) (by decide) ?_
      refine q_iload (pc' := 163) X hx (hb hby at_161) rfl rfl ?_
      refine q_iconst (pc' := 164) (z := (3 : Int32)) X hx (hb hby at_163) rfl rfl ?_
      refine q_icmpYes (pc' := 201) X hx (hb hby at_164) (by decide) (by decide) (by decide) ?_
      refine q_iload (pc' := 203) X hx (hb hby at_201) rfl rfl ?_
      refine q_iload (pc' := 205) X hx (hb hby at_203) rfl rfl ?_
      refine q_isub (pc' := 206) (z := (2 : Int32)) X hx (hb hby at_205) (by decide) rfl ?_
      refine q_iconst (pc' := 207) (z := (0 : Int32)) X hx (hb hby at_206) rfl rfl ?_
      refine q_callC (pc' := 210) (y := y4) (rest := []) X hx hZ hown (hb hby at_207) (t20 hw) (t21 hw) (t22 hw) (t23 hw) (by decide) eT [(.int (2 : Int32)), (.int (0 : Int32))] (c31_max hw wd  O) (by rw [hml]; rfl) (lenOf pd_3 rfl) (W := 0) rfl (by decide) (by decide) (by decide) (by decide) rfl ?_
      rintro _ T _ X ⟨rfl, rfl, eT⟩
      rw [List.append_nil] at X
      show Run p e below _ (T.setTop (mkF m 210 _ [(.int (2 : Int32))]))
      refine q_istore (pc' := 212) (l' := #[.val (.int p1), .val (.int p2), .val (.int p3), .val (.int p4), .val (.int (3 : Int32)), .val (.int (1 : Int32)), .val (.ref r_1), .val (.ref r_3), .val (.ref r_5), .val (.ref b30_6), .val (.int (1 : Int32)), .val (.int (2 : Int32)), .unset]) X hx (hb hby at_210) rfl rfl ?_
      refine q_iload (pc' := 214) X hx (hb hby at_212) rfl rfl ?_
      refine q_aload (pc' := 216) X hx (hb hby at_214) rfl rfl rfl ?_
      refine q_callV (pc' := 219) (y := y5) (rest := [(.int (1 : Int32))]) X hx hZ hown (hb hby at_216) (t24 hw) (t25 hw) (t27 hw) (t26 hw) (t9 hw) (t28 hw) (by decide) eT E_b30_6 [] (c51_size hw wd (p3) (p4) O E_r_3 F_value_r_3 E_r_5 F_value_r_5 E_b30_6 F_items_b30_6 F_end_b30_6 F_first_b30_6 V_b41_0_c1_c10 Ov_b41_0_c1_c10) (by rw [hml]; rfl) (lenOf pd_4 rfl) (W := 1) rfl (by decide) (by decide) (by decide) (by decide) rfl ?_
      rintro _ T _ X ⟨rfl, rfl, eT⟩
      rw [List.append_nil] at X
      show Run p e below _ (T.setTop (mkF m 219 _ [(.int (2 : Int32)), (.int (1 : Int32))]))
      refine q_iload (pc' := 221) X hx (hb hby at_219) rfl rfl ?_
      refine q_icmpNo (pc' := 224) X hx (hb hby at_221) (by decide) rfl ?_
      refine q_iconst (pc' := 225) (z := (1 : Int32)) X hx (hb hby at_224) rfl rfl ?_
      refine q_goto (pc' := 229) X hx (hb hby at_225) (by decide) (by decide) ?_
      refine q_iand (pc' := 230) (z := (1 : Int32)) X hx (hb hby at_229) (by decide) rfl ?_
      refine q_istore (pc' := 232) (l' := #[.val (.int p1), .val (.int p2), .val (.int p3), .val (.int p4), .val (.int (3 : Int32)), .val (.int (1 : Int32)), .val (.ref r_1), .val (.ref r_3), .val (.ref r_5), .val (.ref b30_6), .val (.int (1 : Int32)), .val (.int (2 : Int32)), .unset]) X hx (hb hby at_230) rfl rfl ?_
      refine q_aload (pc' := 234) X hx (hb hby at_232) rfl rfl rfl ?_
      refine q_callV (pc' := 237) (y := y6) (rest := []) X hx hZ hown (hb hby at_234) (t33 hw) (t34 hw) (t36 hw) (t35 hw) (t9 hw) (t37 hw) (by decide) eT E_b30_6 [] (c52_peek hw wd (p3) (p4) O E_r_3 F_value_r_3 E_r_5 F_value_r_5 E_b30_6 F_items_b30_6 F_end_b30_6 F_first_b30_6 V_b41_0_c1_c10 Ov_b41_0_c1_c10) (by rw [hml]; rfl) (lenOf pd_5 rfl) (W := 0) rfl (by decide) (by decide) (by decide) (by decide) rfl ?_
      rintro _ T _ X ⟨rfl, rfl, eT⟩
      rw [List.append_nil] at X
      show Run p e below _ (T.setTop (mkF m 237 _ [(.ref r_3)]))
      refine q_astore (pc' := 239) (l' := #[.val (.int p1), .val (.int p2), .val (.int p3), .val (.int p4), .val (.int (3 : Int32)), .val (.int (1 : Int32)), .val (.ref r_1), .val (.ref r_3), .val (.ref r_5), .val (.ref b30_6), .val (.int (1 : Int32)), .val (.int (2 : Int32)), .val (.ref r_3)]) X hx (hb hby at_237) rfl rfl rfl ?_
      refine q_iload (pc' := 241) X hx (hb hby at_239) rfl rfl ?_
      refine q_aload (pc' := 243) X hx (hb hby at_241) rfl rfl rfl ?_
      refine q_iload (pc' := 245) X hx (hb hby at_243) rfl rfl ?_
      refine q_iconst (pc' := 246) (z := (1 : Int32)) X hx (hb hby at_245) rfl rfl ?_
      refine q_iadd (pc' := 247) (z := (2 : Int32)) X hx (hb hby at_246) (by decide) rfl ?_
      refine q_iload (pc' := 249) X hx (hb hby at_247) rfl rfl ?_
      refine q_aload (pc' := 251) X hx (hb hby at_249) rfl rfl rfl ?_
      refine q_aload (pc' := 253) X hx (hb hby at_251) rfl rfl rfl ?_
      refine q_aload (pc' := 255) X hx (hb hby at_253) rfl rfl rfl ?_
      refine q_callC (pc' := 258) (y := y7) (rest := [(.ref r_3), (.int (1 : Int32))]) X hx hZ hown (hb hby at_255) (t38 hw) (t39 hw) (t40 hw) (t41 hw) (by decide) eT [(.int (2 : Int32)), (.int (3 : Int32)), (.ref r_1), (.ref r_3), (.ref r_5)] (c53_expected hw wd (p2) (p3) (p4) O E_r_1 F_value_r_1 E_r_3 F_value_r_3 E_r_5 F_value_r_5) (by rw [hml]; rfl) (lenOf pd_6 rfl) (W := 2) rfl (by decide) (by decide) (by decide) (by decide) rfl ?_
      rintro _ T _ X ⟨rfl, rfl, eT⟩
      rw [List.append_nil] at X
      show Run p e below _ (T.setTop (mkF m 258 _ [(.ref r_3), (.ref r_3), (.int (1 : Int32))]))
      refine q_acmp (pc' := 261) (same := true) X hx (hb hby at_258) rfl rfl (decide_eq_true rfl) (by decide) (by decide) ?_
      refine q_iconst (pc' := 262) (z := (1 : Int32)) X hx (hb hby at_261) rfl rfl ?_
      refine q_goto (pc' := 266) X hx (hb hby at_262) (by decide) (by decide) ?_
      refine q_iand (pc' := 267) (z := (1 : Int32)) X hx (hb hby at_266) (by decide) rfl ?_
      refine q_istore (pc' := 269) (l' := #[.val (.int p1), .val (.int p2), .val (.int p3), .val (.int p4), .val (.int (3 : Int32)), .val (.int (1 : Int32)), .val (.ref r_1), .val (.ref r_3), .val (.ref r_5), .val (.ref b30_6), .val (.int (1 : Int32)), .val (.int (2 : Int32)), .val (.ref r_3)]) X hx (hb hby at_267) rfl rfl ?_
      refine q_iload (pc' := 271) X hx (hb hby at_269) rfl rfl ?_
      refine Run.retB X hx hlk hret (hb hby at_271) rfl (by decide) (by decide) ?_
      try rw [eT]
      exact ⟨rfl, N⟩
    · rw [hi]
      refine q_iload (pc' := 83) X hx (hb hby at_81) rfl rfl ?_
      refine q_iconst (pc' := 84) (z := (1 : Int32)) X hx (hb hby at_83) rfl rfl ?_
      refine q_icmpNo (pc' := 87) X hx (hb hby at_84) (by decide) rfl ?_
      refine q_aload (pc' := 89) X hx (hb hby at_87) rfl rfl rfl ?_
      refine q_callV (pc' := 92) (y := y8) (rest := []) X hx hZ hown (hb hby at_89) (t42 hw) (t43 hw) (t45 hw) (t44 hw) (t9 hw) (t46 hw) (by decide) eT E_b30_6 [] (c50_poll hw wd (p2) (p3) (p4) O E_r_1 F_value_r_1 E_r_3 F_value_r_3 E_r_5 F_value_r_5 E_b30_6 F_items_b30_6 F_end_b30_6 F_first_b30_6 V_b41_0_c1_c10 Ov_b41_0_c1_c10 g_b30_6 g_b41_0_c1_c10) (by rw [hml]; rfl) (lenOf pd_5 rfl) (W := 0) rfl (by decide) (by decide) (by decide) (by decide) rfl ?_
      rintro _ T _ X ⟨rfl, NL, KL, E_b30_6, F_items_b30_6, F_end_b30_6, F_first_b30_6, V_b41_0_c1_c10⟩
      have N := N.app NL
      obtain ⟨h_17, eT⟩ : ∃ z, T.heap = z := ⟨_, rfl⟩
      rw [eT] at KL E_b30_6 F_items_b30_6 F_end_b30_6 F_first_b30_6 V_b41_0_c1_c10
      have O := ext_keep O KL (allS g_b30_6 (allS g_b41_0_c1_c10 all0))
      have E_r_1 := E_r_1.keep KL
      have F_value_r_1 := F_value_r_1.keep KL (ninS ne_r_1_b30_6 (ninS ne_r_1_b41_0_c1_c10 nin0))
      have E_r_3 := E_r_3.keep KL
      have F_value_r_3 := F_value_r_3.keep KL (ninS ne_r_3_b30_6 (ninS ne_r_3_b41_0_c1_c10 nin0))
      have E_r_5 := E_r_5.keep KL
      have F_value_r_5 := F_value_r_5.keep KL (ninS ne_r_5_b30_6 (ninS ne_r_5_b41_0_c1_c10 nin0))
      show Run p e below _ (T.setTop (mkF m 92 _ [(.ref r_1)]))
      refine q_astore (pc' := 94) (l' := #[.val (.int p1), .val (.int p2), .val (.int p3), .val (.int p4), .val (.int (3 : Int32)), .val (.int (2 : Int32)), .val (.ref r_1), .val (.ref r_3), .val (.ref r_5), .val (.ref b30_6), .val (.int (1 : Int32)), .val (.ref r_1), .unset]) X hx (hb hby at_92) rfl rfl rfl ?_
      refine q_iload (pc' := 96) X hx (hb hby at_94) rfl rfl ?_
      refine q_aload (pc' := 98) X hx (hb hby at_96) rfl rfl rfl ?_
      refine q_iconst (pc' := 99) (z := (1 : Int32)) X hx (hb hby at_98) rfl rfl ?_
      refine q_iload (pc' := 101) X hx (hb hby at_99) rfl rfl ?_
      refine q_aload (pc' := 103) X hx (hb hby at_101) rfl rfl rfl ?_
      refine q_aload (pc' := 105) X hx (hb hby at_103) rfl rfl rfl ?_
      refine q_aload (pc' := 107) X hx (hb hby at_105) rfl rfl rfl ?_
      refine q_callC (pc' := 110) (y := y7) (rest := [(.ref r_1), (.int (1 : Int32))]) X hx hZ hown (hb hby at_107) (t38 hw) (t39 hw) (t40 hw) (t41 hw) (by decide) eT [(.int (1 : Int32)), (.int (3 : Int32)), (.ref r_1), (.ref r_3), (.ref r_5)] (c49_expected hw wd (p2) (p3) (p4) O E_r_1 F_value_r_1 E_r_3 F_value_r_3 E_r_5 F_value_r_5) (by rw [hml]; rfl) (lenOf pd_6 rfl) (W := 2) rfl (by decide) (by decide) (by decide) (by decide) rfl ?_
      rintro _ T _ X ⟨rfl, rfl, eT⟩
      rw [List.append_nil] at X
      show Run p e below _ (T.setTop (mkF m 110 _ [(.ref r_1), (.ref r_1), (.int (1 : Int32))]))
      refine q_acmp (pc' := 113) (same := true) X hx (hb hby at_110) rfl rfl (decide_eq_true rfl) (by decide) (by decide) ?_
      refine q_iconst (pc' := 114) (z := (1 : Int32)) X hx (hb hby at_113) rfl rfl ?_
      refine q_goto (pc' := 118) X hx (hb hby at_114) (by decide) (by decide) ?_
      refine q_iand (pc' := 119) (z := (1 : Int32)) X hx (hb hby at_118) (by decide) rfl ?_
      refine q_istore (pc' := 121) (l' := #[.val (.int p1), .val (.int p2), .val (.int p3), .val (.int p4), .val (.int (3 : Int32)), .val (.int (2 : Int32)), .val (.ref r_1), .val (.ref r_3), .val (.ref r_5), .val (.ref b30_6), .val (.int (1 : Int32)), .val (.ref r_1), .unset]) X hx (hb hby at_119) rfl rfl ?_
      refine q_iload (pc' := 123) X hx (hb hby at_121) rfl rfl ?_
      refine q_iconst (pc' := 124) (z := (2 : Int32)) X hx (hb hby at_123) rfl rfl ?_
      refine q_icmpNo (pc' := 127) X hx (hb hby at_124) (by decide) rfl ?_
      refine q_aload (pc' := 129) X hx (hb hby at_127) rfl rfl rfl ?_
      refine q_callV (pc' := 132) (y := y8) (rest := []) X hx hZ hown (hb hby at_129) (t42 hw) (t43 hw) (t45 hw) (t44 hw) (t9 hw) (t46 hw) (by decide) eT E_b30_6 [] (c54_poll hw wd (p3) (p4) O E_r_3 F_value_r_3 E_r_5 F_value_r_5 E_b30_6 F_items_b30_6 F_end_b30_6 F_first_b30_6 V_b41_0_c1_c10 Ov_b41_0_c1_c10 g_b30_6 g_b41_0_c1_c10) (by rw [hml]; rfl) (lenOf pd_5 rfl) (W := 0) rfl (by decide) (by decide) (by decide) (by decide) rfl ?_
      rintro _ T _ X ⟨rfl, NL, KL, E_b30_6, F_items_b30_6, F_end_b30_6, F_first_b30_6, V_b41_0_c1_c10⟩
      have N := N.app NL
      obtain ⟨h_19, eT⟩ : ∃ z, T.heap = z := ⟨_, rfl⟩
      rw [eT] at KL E_b30_6 F_items_b30_6 F_end_b30_6 F_first_b30_6 V_b41_0_c1_c10
      have O := ext_keep O KL (allS g_b30_6 (allS g_b41_0_c1_c10 all0))
      have E_r_1 := E_r_1.keep KL
      have F_value_r_1 := F_value_r_1.keep KL (ninS ne_r_1_b30_6 (ninS ne_r_1_b41_0_c1_c10 nin0))
      have E_r_3 := E_r_3.keep KL
      have F_value_r_3 := F_value_r_3.keep KL (ninS ne_r_3_b30_6 (ninS ne_r_3_b41_0_c1_c10 nin0))
      have E_r_5 := E_r_5.keep KL
      have F_value_r_5 := F_value_r_5.keep KL (ninS ne_r_5_b30_6 (ninS ne_r_5_b41_0_c1_c10 nin0))
      show Run p e below _ (T.setTop (mkF m 132 _ [(.ref r_3)]))
      refine q_astore (pc' := 134) (l' := #[.val (.int p1), .val (.int p2), .val (.int p3), .val (.int p4), .val (.int (3 : Int32)), .val (.int (2 : Int32)), .val (.ref r_1), .val (.ref r_3), .val (.ref r_5), .val (.ref b30_6), .val (.int (1 : Int32)), .val (.ref r_3), .unset]) X hx (hb hby at_132) rfl rfl rfl ?_
      refine q_iload (pc' := 136) X hx (hb hby at_134) rfl rfl ?_
      refine q_aload (pc' := 138) X hx (hb hby at_136) rfl rfl rfl ?_
      refine q_iconst (pc' := 139) (z := (2 : Int32)) X hx (hb hby at_138) rfl rfl ?_
      refine q_iload (pc' := 141) X hx (hb hby at_139) rfl rfl ?_
      refine q_aload (pc' := 143) X hx (hb hby at_141) rfl rfl rfl ?_
      refine q_aload (pc' := 145) X hx (hb hby at_143) rfl rfl rfl ?_
      refine q_aload (pc' := 147) X hx (hb hby at_145) rfl rfl rfl ?_
      refine q_callC (pc' := 150) (y := y7) (rest := [(.ref r_3), (.int (1 : Int32))]) X hx hZ hown (hb hby at_147) (t38 hw) (t39 hw) (t40 hw) (t41 hw) (by decide) eT [(.int (2 : Int32)), (.int (3 : Int32)), (.ref r_1), (.ref r_3), (.ref r_5)] (c53_expected hw wd (p2) (p3) (p4) O E_r_1 F_value_r_1 E_r_3 F_value_r_3 E_r_5 F_value_r_5) (by rw [hml]; rfl) (lenOf pd_6 rfl) (W := 2) rfl (by decide) (by decide) (by decide) (by decide) rfl ?_
      rintro _ T _ X ⟨rfl, rfl, eT⟩
      rw [List.append_nil] at X
      show Run p e below _ (T.setTop (mkF m 150 _ [(.ref r_3), (.ref r_3), (.int (1 : Int32))]))
      refine q_acmp (pc' := 153) (same := true) X hx (hb hby at_150) rfl rfl (decide_eq_true rfl) (by decide) (by decide) ?_
      refine q_iconst (pc' := 154) (z := (1 : Int32)) X hx (hb hby at_153) rfl rfl ?_
      refine q_goto (pc' := 158) X hx (hb hby at_154) (by decide) (by decide) ?_
      refine q_iand (pc' := 159) (z := (1 : Int32)) X hx (hb hby at_158) (by decide) rfl ?_
      refine q_istore (pc' := 161) (l' := #[.val (.int p1), .val (.int p2), .val (.int p3), .val (.int p4), .val (.int (3 : Int32)), .val (.int (2 : Int32)), .val (.ref r_1), .val (.ref r_3), .val (.ref r_5), .val (.ref b30_6), .val (.int (1 : Int32)), .val (.ref r_3), .unset]) X hx (hb hby at_159) rfl rfl ?_
      refine q_iload (pc' := 163) X hx (hb hby at_161) rfl rfl ?_
      refine q_iconst (pc' := 164) (z := (3 : Int32)) X hx (hb hby at_163) rfl rfl ?_
      refine q_icmpYes (pc' := 201) X hx (hb hby at_164) (by decide) (by decide) (by decide) ?_
      refine q_iload (pc' := 203) X hx (hb hby at_201) rfl rfl ?_
      refine q_iload (pc' := 205) X hx (hb hby at_203) rfl rfl ?_
      refine q_isub (pc' := 206) (z := (1 : Int32)) X hx (hb hby at_205) (by decide) rfl ?_
      refine q_iconst (pc' := 207) (z := (0 : Int32)) X hx (hb hby at_206) rfl rfl ?_
      refine q_callC (pc' := 210) (y := y4) (rest := []) X hx hZ hown (hb hby at_207) (t20 hw) (t21 hw) (t22 hw) (t23 hw) (by decide) eT [(.int (1 : Int32)), (.int (0 : Int32))] (c19_max hw wd  O) (by rw [hml]; rfl) (lenOf pd_3 rfl) (W := 0) rfl (by decide) (by decide) (by decide) (by decide) rfl ?_
      rintro _ T _ X ⟨rfl, rfl, eT⟩
      rw [List.append_nil] at X
      show Run p e below _ (T.setTop (mkF m 210 _ [(.int (1 : Int32))]))
      refine q_istore (pc' := 212) (l' := #[.val (.int p1), .val (.int p2), .val (.int p3), .val (.int p4), .val (.int (3 : Int32)), .val (.int (2 : Int32)), .val (.ref r_1), .val (.ref r_3), .val (.ref r_5), .val (.ref b30_6), .val (.int (1 : Int32)), .val (.int (1 : Int32)), .unset]) X hx (hb hby at_210) rfl rfl ?_
      refine q_iload (pc' := 214) X hx (hb hby at_212) rfl rfl ?_
      refine q_aload (pc' := 216) X hx (hb hby at_214) rfl rfl rfl ?_
      refine q_callV (pc' := 219) (y := y5) (rest := [(.int (1 : Int32))]) X hx hZ hown (hb hby at_216) (t24 hw) (t25 hw) (t27 hw) (t26 hw) (t9 hw) (t28 hw) (by decide) eT E_b30_6 [] (c55_size hw wd (p4) O E_r_5 F_value_r_5 E_b30_6 F_items_b30_6 F_end_b30_6 F_first_b30_6 V_b41_0_c1_c10 Ov_b41_0_c1_c10) (by rw [hml]; rfl) (lenOf pd_4 rfl) (W := 1) rfl (by decide) (by decide) (by decide) (by decide) rfl ?_
      rintro _ T _ X ⟨rfl, rfl, eT⟩
      rw [List.append_nil] at X
      show Run p e below _ (T.setTop (mkF m 219 _ [(.int (1 : Int32)), (.int (1 : Int32))]))
      refine q_iload (pc' := 221) X hx (hb hby at_219) rfl rfl ?_
      refine q_icmpNo (pc' := 224) X hx (hb hby at_221) (by decide) rfl ?_
      refine q_iconst (pc' := 225) (z := (1 : Int32)) X hx (hb hby at_224) rfl rfl ?_
      refine q_goto (pc' := 229) X hx (hb hby at_225) (by decide) (by decide) ?_
      refine q_iand (pc' := 230) (z := (1 : Int32)) X hx (hb hby at_229) (by decide) rfl ?_
      refine q_istore (pc' := 232) (l' := #[.val (.int p1), .val (.int p2), .val (.int p3), .val (.int p4), .val (.int (3 : Int32)), .val (.int (2 : Int32)), .val (.ref r_1), .val (.ref r_3), .val (.ref r_5), .val (.ref b30_6), .val (.int (1 : Int32)), .val (.int (1 : Int32)), .unset]) X hx (hb hby at_230) rfl rfl ?_
      refine q_aload (pc' := 234) X hx (hb hby at_232) rfl rfl rfl ?_
      refine q_callV (pc' := 237) (y := y6) (rest := []) X hx hZ hown (hb hby at_234) (t33 hw) (t34 hw) (t36 hw) (t35 hw) (t9 hw) (t37 hw) (by decide) eT E_b30_6 [] (c56_peek hw wd (p4) O E_r_5 F_value_r_5 E_b30_6 F_items_b30_6 F_end_b30_6 F_first_b30_6 V_b41_0_c1_c10 Ov_b41_0_c1_c10) (by rw [hml]; rfl) (lenOf pd_5 rfl) (W := 0) rfl (by decide) (by decide) (by decide) (by decide) rfl ?_
      rintro _ T _ X ⟨rfl, rfl, eT⟩
      rw [List.append_nil] at X
      show Run p e below _ (T.setTop (mkF m 237 _ [(.ref r_5)]))
      refine q_astore (pc' := 239) (l' := #[.val (.int p1), .val (.int p2), .val (.int p3), .val (.int p4), .val (.int (3 : Int32)), .val (.int (2 : Int32)), .val (.ref r_1), .val (.ref r_3), .val (.ref r_5), .val (.ref b30_6), .val (.int (1 : Int32)), .val (.int (1 : Int32)), .val (.ref r_5)]) X hx (hb hby at_237) rfl rfl rfl ?_
      refine q_iload (pc' := 241) X hx (hb hby at_239) rfl rfl ?_
      refine q_aload (pc' := 243) X hx (hb hby at_241) rfl rfl rfl ?_
      refine q_iload (pc' := 245) X hx (hb hby at_243) rfl rfl ?_
      refine q_iconst (pc' := 246) (z := (1 : Int32)) X hx (hb hby at_245) rfl rfl ?_
      refine q_iadd (pc' := 247) (z := (3 : Int32)) X hx (hb hby at_246) (by decide) rfl ?_
      refine q_iload (pc' := 249) X hx (hb hby at_247) rfl rfl ?_
      refine q_aload (pc' := 251) X hx (hb hby at_249) rfl rfl rfl ?_
      refine q_aload (pc' := 253) X hx (hb hby at_251) rfl rfl rfl ?_
      refine q_aload (pc' := 255) X hx (hb hby at_253) rfl rfl rfl ?_
      refine q_callC (pc' := 258) (y := y7) (rest := [(.ref r_5), (.int (1 : Int32))]) X hx hZ hown (hb hby at_255) (t38 hw) (t39 hw) (t40 hw) (t41 hw) (by decide) eT [(.int (3 : Int32)), (.int (3 : Int32)), (.ref r_1), (.ref r_3), (.ref r_5)] (c57_expected hw wd (p2) (p3) (p4) O E_r_1 F_value_r_1 E_r_3 F_value_r_3 E_r_5 F_value_r_5) (by rw [hml]; rfl) (lenOf pd_6 rfl) (W := 2) rfl (by decide) (by decide) (by decide) (by decide) rfl ?_
      rintro _ T _ X ⟨rfl, rfl, eT⟩
      rw [List.append_nil] at X
      show Run p e below _ (T.setTop (mkF m 258 _ [(.ref r_5), (.ref r_5), (.int (1 : Int32))]))
      refine q_acmp (pc' := 261) (same := true) X hx (hb hby at_258) rfl rfl (decide_eq_true rfl) (by decide) (by decide) ?_
      refine q_iconst (pc' := 262) (z := (1 : Int32)) X hx (hb hby at_261) rfl rfl ?_
      refine q_goto (pc' := 266) X hx (hb hby at_262) (by decide) (by decide) ?_
      refine q_iand (pc' := 267) (z := (1 : Int32)) X hx (hb hby at_266) (by decide) rfl ?_
      refine q_istore (pc' := 269) (l' := #[.val (.int p1), .val (.int p2), .val (.int p3), .val (.int p4), .val (.int (3 : Int32)), .val (.int (2 : Int32)), .val (.ref r_1), .val (.ref r_3), .val (.ref r_5), .val (.ref b30_6), .val (.int (1 : Int32)), .val (.int (1 : Int32)), .val (.ref r_5)]) X hx (hb hby at_267) rfl rfl ?_
      refine q_iload (pc' := 271) X hx (hb hby at_269) rfl rfl ?_
      refine Run.retB X hx hlk hret (hb hby at_271) rfl (by decide) (by decide) ?_
      try rw [eT]
      exact ⟨rfl, N⟩
    · rw [hi]
      refine q_iload (pc' := 83) X hx (hb hby at_81) rfl rfl ?_
      refine q_iconst (pc' := 84) (z := (1 : Int32)) X hx (hb hby at_83) rfl rfl ?_
      refine q_icmpNo (pc' := 87) X hx (hb hby at_84) (by decide) rfl ?_
      refine q_aload (pc' := 89) X hx (hb hby at_87) rfl rfl rfl ?_
      refine q_callV (pc' := 92) (y := y8) (rest := []) X hx hZ hown (hb hby at_89) (t42 hw) (t43 hw) (t45 hw) (t44 hw) (t9 hw) (t46 hw) (by decide) eT E_b30_6 [] (c50_poll hw wd (p2) (p3) (p4) O E_r_1 F_value_r_1 E_r_3 F_value_r_3 E_r_5 F_value_r_5 E_b30_6 F_items_b30_6 F_end_b30_6 F_first_b30_6 V_b41_0_c1_c10 Ov_b41_0_c1_c10 g_b30_6 g_b41_0_c1_c10) (by rw [hml]; rfl) (lenOf pd_5 rfl) (W := 0) rfl (by decide) (by decide) (by decide) (by decide) rfl ?_
      rintro _ T _ X ⟨rfl, NL, KL, E_b30_6, F_items_b30_6, F_end_b30_6, F_first_b30_6, V_b41_0_c1_c10⟩
      have N := N.app NL
      obtain ⟨h_17, eT⟩ : ∃ z, T.heap = z := ⟨_, rfl⟩
      rw [eT] at KL E_b30_6 F_items_b30_6 F_end_b30_6 F_first_b30_6 V_b41_0_c1_c10
      have O := ext_keep O KL (allS g_b30_6 (allS g_b41_0_c1_c10 all0))
      have E_r_1 := E_r_1.keep KL
      have F_value_r_1 := F_value_r_1.keep KL (ninS ne_r_1_b30_6 (ninS ne_r_1_b41_0_c1_c10 nin0))
      have E_r_3 := E_r_3.keep KL
      have F_value_r_3 := F_value_r_3.keep KL (ninS ne_r_3_b30_6 (ninS ne_r_3_b41_0_c1_c10 nin0))
      have E_r_5 := E_r_5.keep KL
      have F_value_r_5 := F_value_r_5.keep KL (ninS ne_r_5_b30_6 (ninS ne_r_5_b41_0_c1_c10 nin0))
      show Run p e below _ (T.setTop (mkF m 92 _ [(.ref r_1)]))
      refine q_astore (pc' := 94) (l' := #[.val (.int p1), .val (.int p2), .val (.int p3), .val (.int p4), .val (.int (3 : Int32)), .val (.int (3 : Int32)), .val (.ref r_1), .val (.ref r_3), .val (.ref r_5), .val (.ref b30_6), .val (.int (1 : Int32)), .val (.ref r_1), .unset]) X hx (hb hby at_92) rfl rfl rfl ?_
      refine q_iload (pc' := 96) X hx (hb hby at_94) rfl rfl ?_
      refine q_aload (pc' := 98) X hx (hb hby at_96) rfl rfl rfl ?_
      refine q_iconst (pc' := 99) (z := (1 : Int32)) X hx (hb hby at_98) rfl rfl ?_
      refine q_iload (pc' := 101) X hx (hb hby at_99) rfl rfl ?_
      refine q_aload (pc' := 103) X hx (hb hby at_101) rfl rfl rfl ?_
      refine q_aload (pc' := 105) X hx (hb hby at_103) rfl rfl rfl ?_
      refine q_aload (pc' := 107) X hx (hb hby at_105) rfl rfl rfl ?_
      refine q_callC (pc' := 110) (y := y7) (rest := [(.ref r_1), (.int (1 : Int32))]) X hx hZ hown (hb hby at_107) (t38 hw) (t39 hw) (t40 hw) (t41 hw) (by decide) eT [(.int (1 : Int32)), (.int (3 : Int32)), (.ref r_1), (.ref r_3), (.ref r_5)] (c49_expected hw wd (p2) (p3) (p4) O E_r_1 F_value_r_1 E_r_3 F_value_r_3 E_r_5 F_value_r_5) (by rw [hml]; rfl) (lenOf pd_6 rfl) (W := 2) rfl (by decide) (by decide) (by decide) (by decide) rfl ?_
      rintro _ T _ X ⟨rfl, rfl, eT⟩
      rw [List.append_nil] at X
      show Run p e below _ (T.setTop (mkF m 110 _ [(.ref r_1), (.ref r_1), (.int (1 : Int32))]))
      refine q_acmp (pc' := 113) (same := true) X hx (hb hby at_110) rfl rfl (decide_eq_true rfl) (by decide) (by decide) ?_
      refine q_iconst (pc' := 114) (z := (1 : Int32)) X hx (hb hby at_113) rfl rfl ?_
      refine q_goto (pc' := 118) X hx (hb hby at_114) (by decide) (by decide) ?_
      refine q_iand (pc' := 119) (z := (1 : Int32)) X hx (hb hby at_118) (by decide) rfl ?_
      refine q_istore (pc' := 121) (l' := #[.val (.int p1), .val (.int p2), .val (.int p3), .val (.int p4), .val (.int (3 : Int32)), .val (.int (3 : Int32)), .val (.ref r_1), .val (.ref r_3), .val (.ref r_5), .val (.ref b30_6), .val (.int (1 : Int32)), .val (.ref r_1), .unset]) X hx (hb hby at_119) rfl rfl ?_
      refine q_iload (pc' := 123) X hx (hb hby at_121) rfl rfl ?_
      refine q_iconst (pc' := 124) (z := (2 : Int32)) X hx (hb hby at_123) rfl rfl ?_
      refine q_icmpNo (pc' := 127) X hx (hb hby at_124) (by decide) rfl ?_
      refine q_aload (pc' := 129) X hx (hb hby at_127) rfl rfl rfl ?_
      refine q_callV (pc' := 132) (y := y8) (rest := []) X hx hZ hown (hb hby at_129) (t42 hw) (t43 hw) (t45 hw) (t44 hw) (t9 hw) (t46 hw) (by decide) eT E_b30_6 [] (c54_poll hw wd (p3) (p4) O E_r_3 F_value_r_3 E_r_5 F_value_r_5 E_b30_6 F_items_b30_6 F_end_b30_6 F_first_b30_6 V_b41_0_c1_c10 Ov_b41_0_c1_c10 g_b30_6 g_b41_0_c1_c10) (by rw [hml]; rfl) (lenOf pd_5 rfl) (W := 0) rfl (by decide) (by decide) (by decide) (by decide) rfl ?_
      rintro _ T _ X ⟨rfl, NL, KL, E_b30_6, F_items_b30_6, F_end_b30_6, F_first_b30_6, V_b41_0_c1_c10⟩
      have N := N.app NL
      obtain ⟨h_19, eT⟩ : ∃ z, T.heap = z := ⟨_, rfl⟩
      rw [eT] at KL E_b30_6 F_items_b30_6 F_end_b30_6 F_first_b30_6 V_b41_0_c1_c10
      have O := ext_keep O KL (allS g_b30_6 (allS g_b41_0_c1_c10 all0))
      have E_r_1 := E_r_1.keep KL
      have F_value_r_1 := F_value_r_1.keep KL (ninS ne_r_1_b30_6 (ninS ne_r_1_b41_0_c1_c10 nin0))
      have E_r_3 := E_r_3.keep KL
      have F_value_r_3 := F_value_r_3.keep KL (ninS ne_r_3_b30_6 (ninS ne_r_3_b41_0_c1_c10 nin0))
      have E_r_5 := E_r_5.keep KL
      have F_value_r_5 := F_value_r_5.keep KL (ninS ne_r_5_b30_6 (ninS ne_r_5_b41_0_c1_c10 nin0))
      show Run p e below _ (T.setTop (mkF m 132 _ [(.ref r_3)]))
      refine q_astore (pc' := 134) (l' := #[.val (.int p1), .val (.int p2), .val (.int p3), .val (.int p4), .val (.int (3 : Int32)), .val (.int (3 : Int32)), .val (.ref r_1), .val (.ref r_3), .val (.ref r_5), .val (.ref b30_6), .val (.int (1 : Int32)), .val (.ref r_3), .unset]) X hx (hb hby at_132) rfl rfl rfl ?_
      refine q_iload (pc' := 136) X hx (hb hby at_134) rfl rfl ?_
      refine q_aload (pc' := 138) X hx (hb hby at_136) rfl rfl rfl ?_
      refine q_iconst (pc' := 139) (z := (2 : Int32)) X hx (hb hby at_138) rfl rfl ?_
      refine q_iload (pc' := 141) X hx (hb hby at_139) rfl rfl ?_
      refine q_aload (pc' := 143) X hx (hb hby at_141) rfl rfl rfl ?_
      refine q_aload (pc' := 145) X hx (hb hby at_143) rfl rfl rfl ?_
      refine q_aload (pc' := 147) X hx (hb hby at_145) rfl rfl rfl ?_
      refine q_callC (pc' := 150) (y := y7) (rest := [(.ref r_3), (.int (1 : Int32))]) X hx hZ hown (hb hby at_147) (t38 hw) (t39 hw) (t40 hw) (t41 hw) (by decide) eT [(.int (2 : Int32)), (.int (3 : Int32)), (.ref r_1), (.ref r_3), (.ref r_5)] (c53_expected hw wd (p2) (p3) (p4) O E_r_1 F_value_r_1 E_r_3 F_value_r_3 E_r_5 F_value_r_5) (by rw [hml]; rfl) (lenOf pd_6 rfl) (W := 2) rfl (by decide) (by decide) (by decide) (by decide) rfl ?_
      rintro _ T _ X ⟨rfl, rfl, eT⟩
      rw [List.append_nil] at X
      show Run p e below _ (T.setTop (mkF m 150 _ [(.ref r_3), (.ref r_3), (.int (1 : Int32))]))
      refine q_acmp (pc' := 153) (same := true) X hx (hb hby at_150) rfl rfl (decide_eq_true rfl) (by decide) (by decide) ?_
      refine q_iconst (pc' := 154) (z := (1 : Int32)) X hx (hb hby at_153) rfl rfl ?_
      refine q_goto (pc' := 158) X hx (hb hby at_154) (by decide) (by decide) ?_
      refine q_iand (pc' := 159) (z := (1 : Int32)) X hx (hb hby at_158) (by decide) rfl ?_
      refine q_istore (pc' := 161) (l' := #[.val (.int p1), .val (.int p2), .val (.int p3), .val (.int p4), .val (.int (3 : Int32)), .val (.int (3 : Int32)), .val (.ref r_1), .val (.ref r_3), .val (.ref r_5), .val (.ref b30_6), .val (.int (1 : Int32)), .val (.ref r_3), .unset]) X hx (hb hby at_159) rfl rfl ?_
      refine q_iload (pc' := 163) X hx (hb hby at_161) rfl rfl ?_
      refine q_iconst (pc' := 164) (z := (3 : Int32)) X hx (hb hby at_163) rfl rfl ?_
      refine q_icmpNo (pc' := 167) X hx (hb hby at_164) (by decide) rfl ?_
      refine q_aload (pc' := 169) X hx (hb hby at_167) rfl rfl rfl ?_
      refine q_callV (pc' := 172) (y := y8) (rest := []) X hx hZ hown (hb hby at_169) (t42 hw) (t43 hw) (t45 hw) (t44 hw) (t9 hw) (t46 hw) (by decide) eT E_b30_6 [] (c58_poll hw wd (p4) O E_r_5 F_value_r_5 E_b30_6 F_items_b30_6 F_end_b30_6 F_first_b30_6 V_b41_0_c1_c10 Ov_b41_0_c1_c10 g_b30_6 g_b41_0_c1_c10) (by rw [hml]; rfl) (lenOf pd_5 rfl) (W := 0) rfl (by decide) (by decide) (by decide) (by decide) rfl ?_
      rintro _ T _ X ⟨rfl, NL, KL, E_b30_6, F_items_b30_6, F_end_b30_6, F_first_b30_6, V_b41_0_c1_c10⟩
      have N := N.app NL
      obtain ⟨h_21, eT⟩ : ∃ z, T.heap = z := ⟨_, rfl⟩
      rw [eT] at KL E_b30_6 F_items_b30_6 F_end_b30_6 F_first_b30_6 V_b41_0_c1_c10
      have O := ext_keep O KL (allS g_b30_6 (allS g_b41_0_c1_c10 all0))
      have E_r_1 := E_r_1.keep KL
      have F_value_r_1 := F_value_r_1.keep KL (ninS ne_r_1_b30_6 (ninS ne_r_1_b41_0_c1_c10 nin0))
      have E_r_3 := E_r_3.keep KL
      have F_value_r_3 := F_value_r_3.keep KL (ninS ne_r_3_b30_6 (ninS ne_r_3_b41_0_c1_c10 nin0))
      have E_r_5 := E_r_5.keep KL
      have F_value_r_5 := F_value_r_5.keep KL (ninS ne_r_5_b30_6 (ninS ne_r_5_b41_0_c1_c10 nin0))
      show Run p e below _ (T.setTop (mkF m 172 _ [(.ref r_5)]))
      refine q_astore (pc' := 174) (l' := #[.val (.int p1), .val (.int p2), .val (.int p3), .val (.int p4), .val (.int (3 : Int32)), .val (.int (3 : Int32)), .val (.ref r_1), .val (.ref r_3), .val (.ref r_5), .val (.ref b30_6), .val (.int (1 : Int32)), .val (.ref r_5), .unset]) X hx (hb hby at_172) rfl rfl rfl ?_
      refine q_iload (pc' := 176) X hx (hb hby at_174) rfl rfl ?_
      refine q_aload (pc' := 178) X hx (hb hby at_176) rfl rfl rfl ?_
      refine q_iconst (pc' := 179) (z := (3 : Int32)) X hx (hb hby at_178) rfl rfl ?_
      refine q_iload (pc' := 181) X hx (hb hby at_179) rfl rfl ?_
      refine q_aload (pc' := 183) X hx (hb hby at_181) rfl rfl rfl ?_
      refine q_aload (pc' := 185) X hx (hb hby at_183) rfl rfl rfl ?_
      refine q_aload (pc' := 187) X hx (hb hby at_185) rfl rfl rfl ?_
      refine q_callC (pc' := 190) (y := y7) (rest := [(.ref r_5), (.int (1 : Int32))]) X hx hZ hown (hb hby at_187) (t38 hw) (t39 hw) (t40 hw) (t41 hw) (by decide) eT [(.int (3 : Int32)), (.int (3 : Int32)), (.ref r_1), (.ref r_3), (.ref r_5)] (c57_expected hw wd (p2) (p3) (p4) O E_r_1 F_value_r_1 E_r_3 F_value_r_3 E_r_5 F_value_r_5) (by rw [hml]; rfl) (lenOf pd_6 rfl) (W := 2) rfl (by decide) (by decide) (by decide) (by decide) rfl ?_
      rintro _ T _ X ⟨rfl, rfl, eT⟩
      rw [List.append_nil] at X
      show Run p e below _ (T.setTop (mkF m 190 _ [(.ref r_5), (.ref r_5), (.int (1 : Int32))]))
      refine q_acmp (pc' := 193) (same := true) X hx (hb hby at_190) rfl rfl (decide_eq_true rfl) (by decide) (by decide) ?_
      refine q_iconst (pc' := 194) (z := (1 : Int32)) X hx (hb hby at_193) rfl rfl ?_
      refine q_goto (pc' := 198) X hx (hb hby at_194) (by decide) (by decide) ?_
      refine q_iand (pc' := 199) (z := (1 : Int32)) X hx (hb hby at_198) (by decide) rfl ?_
      refine q_istore (pc' := 201) (l' := #[.val (.int p1), .val (.int p2), .val (.int p3), .val (.int p4), .val (.int (3 : Int32)), .val (.int (3 : Int32)), .val (.ref r_1), .val (.ref r_3), .val (.ref r_5), .val (.ref b30_6), .val (.int (1 : Int32)), .val (.ref r_5), .unset]) X hx (hb hby at_199) rfl rfl ?_
      refine q_iload (pc' := 203) X hx (hb hby at_201) rfl rfl ?_
      refine q_iload (pc' := 205) X hx (hb hby at_203) rfl rfl ?_
      refine q_isub (pc' := 206) (z := (0 : Int32)) X hx (hb hby at_205) (by decide) rfl ?_
      refine q_iconst (pc' := 207) (z := (0 : Int32)) X hx (hb hby at_206) rfl rfl ?_
      refine q_callC (pc' := 210) (y := y4) (rest := []) X hx hZ hown (hb hby at_207) (t20 hw) (t21 hw) (t22 hw) (t23 hw) (by decide) eT [(.int (0 : Int32)), (.int (0 : Int32))] (c4_max hw wd  O) (by rw [hml]; rfl) (lenOf pd_3 rfl) (W := 0) rfl (by decide) (by decide) (by decide) (by decide) rfl ?_
      rintro _ T _ X ⟨rfl, rfl, eT⟩
      rw [List.append_nil] at X
      show Run p e below _ (T.setTop (mkF m 210 _ [(.int (0 : Int32))]))
      refine q_istore (pc' := 212) (l' := #[.val (.int p1), .val (.int p2), .val (.int p3), .val (.int p4), .val (.int (3 : Int32)), .val (.int (3 : Int32)), .val (.ref r_1), .val (.ref r_3), .val (.ref r_5), .val (.ref b30_6), .val (.int (1 : Int32)), .val (.int (0 : Int32)), .unset]) X hx (hb hby at_210) rfl rfl ?_
      refine q_iload (pc' := 214) X hx (hb hby at_212) rfl rfl ?_
      refine q_aload (pc' := 216) X hx (hb hby at_214) rfl rfl rfl ?_
      refine q_callV (pc' := 219) (y := y5) (rest := [(.int (1 : Int32))]) X hx hZ hown (hb hby at_216) (t24 hw) (t25 hw) (t27 hw) (t26 hw) (t9 hw) (t28 hw) (by decide) eT E_b30_6 [] (c59_size hw wd  O E_b30_6 F_items_b30_6 F_end_b30_6 F_first_b30_6 V_b41_0_c1_c10 Ov_b41_0_c1_c10) (by rw [hml]; rfl) (lenOf pd_4 rfl) (W := 1) rfl (by decide) (by decide) (by decide) (by decide) rfl ?_
      rintro _ T _ X ⟨rfl, rfl, eT⟩
      rw [List.append_nil] at X
      show Run p e below _ (T.setTop (mkF m 219 _ [(.int (0 : Int32)), (.int (1 : Int32))]))
      refine q_iload (pc' := 221) X hx (hb hby at_219) rfl rfl ?_
      refine q_icmpNo (pc' := 224) X hx (hb hby at_221) (by decide) rfl ?_
      refine q_iconst (pc' := 225) (z := (1 : Int32)) X hx (hb hby at_224) rfl rfl ?_
      refine q_goto (pc' := 229) X hx (hb hby at_225) (by decide) (by decide) ?_
      refine q_iand (pc' := 230) (z := (1 : Int32)) X hx (hb hby at_229) (by decide) rfl ?_
      refine q_istore (pc' := 232) (l' := #[.val (.int p1), .val (.int p2), .val (.int p3), .val (.int p4), .val (.int (3 : Int32)), .val (.int (3 : Int32)), .val (.ref r_1), .val (.ref r_3), .val (.ref r_5), .val (.ref b30_6), .val (.int (1 : Int32)), .val (.int (0 : Int32)), .unset]) X hx (hb hby at_230) rfl rfl ?_
      refine q_aload (pc' := 234) X hx (hb hby at_232) rfl rfl rfl ?_
      refine q_callV (pc' := 237) (y := y6) (rest := []) X hx hZ hown (hb hby at_234) (t33 hw) (t34 hw) (t36 hw) (t35 hw) (t9 hw) (t37 hw) (by decide) eT E_b30_6 [] (c60_peek hw wd  O E_b30_6 F_items_b30_6 F_end_b30_6 F_first_b30_6 V_b41_0_c1_c10 Ov_b41_0_c1_c10) (by rw [hml]; rfl) (lenOf pd_5 rfl) (W := 0) rfl (by decide) (by decide) (by decide) (by decide) rfl ?_
      rintro _ T _ X ⟨rfl, rfl, eT⟩
      rw [List.append_nil] at X
      show Run p e below _ (T.setTop (mkF m 237 _ [.null]))
      refine q_astore (pc' := 239) (l' := #[.val (.int p1), .val (.int p2), .val (.int p3), .val (.int p4), .val (.int (3 : Int32)), .val (.int (3 : Int32)), .val (.ref r_1), .val (.ref r_3), .val (.ref r_5), .val (.ref b30_6), .val (.int (1 : Int32)), .val (.int (0 : Int32)), .val .null]) X hx (hb hby at_237) rfl rfl rfl ?_
      refine q_iload (pc' := 241) X hx (hb hby at_239) rfl rfl ?_
      refine q_aload (pc' := 243) X hx (hb hby at_241) rfl rfl rfl ?_
      refine q_iload (pc' := 245) X hx (hb hby at_243) rfl rfl ?_
      refine q_iconst (pc' := 246) (z := (1 : Int32)) X hx (hb hby at_245) rfl rfl ?_
      refine q_iadd (pc' := 247) (z := (4 : Int32)) X hx (hb hby at_246) (by decide) rfl ?_
      refine q_iload (pc' := 249) X hx (hb hby at_247) rfl rfl ?_
      refine q_aload (pc' := 251) X hx (hb hby at_249) rfl rfl rfl ?_
      refine q_aload (pc' := 253) X hx (hb hby at_251) rfl rfl rfl ?_
      refine q_aload (pc' := 255) X hx (hb hby at_253) rfl rfl rfl ?_
      refine q_callC (pc' := 258) (y := y7) (rest := [.null, (.int (1 : Int32))]) X hx hZ hown (hb hby at_255) (t38 hw) (t39 hw) (t40 hw) (t41 hw) (by decide) eT [(.int (4 : Int32)), (.int (3 : Int32)), (.ref r_1), (.ref r_3), (.ref r_5)] (c61_expected hw wd (p2) (p3) (p4) O E_r_1 F_value_r_1 E_r_3 F_value_r_3 E_r_5 F_value_r_5) (by rw [hml]; rfl) (lenOf pd_6 rfl) (W := 2) rfl (by decide) (by decide) (by decide) (by decide) rfl ?_
      rintro _ T _ X ⟨rfl, rfl, eT⟩
      rw [List.append_nil] at X
      show Run p e below _ (T.setTop (mkF m 258 _ [.null, .null, (.int (1 : Int32))]))
      refine q_acmp (pc' := 261) (same := true) X hx (hb hby at_258) rfl rfl (decide_eq_true rfl) (by decide) (by decide) ?_
      refine q_iconst (pc' := 262) (z := (1 : Int32)) X hx (hb hby at_261) rfl rfl ?_
      refine q_goto (pc' := 266) X hx (hb hby at_262) (by decide) (by decide) ?_
      refine q_iand (pc' := 267) (z := (1 : Int32)) X hx (hb hby at_266) (by decide) rfl ?_
      refine q_istore (pc' := 269) (l' := #[.val (.int p1), .val (.int p2), .val (.int p3), .val (.int p4), .val (.int (3 : Int32)), .val (.int (3 : Int32)), .val (.ref r_1), .val (.ref r_3), .val (.ref r_5), .val (.ref b30_6), .val (.int (1 : Int32)), .val (.int (0 : Int32)), .val .null]) X hx (hb hby at_267) rfl rfl ?_
      refine q_iload (pc' := 271) X hx (hb hby at_269) rfl rfl ?_
      refine Run.retB X hx hlk hret (hb hby at_271) rfl (by decide) (by decide) ?_
      try rw [eT]
      exact ⟨rfl, N⟩
set_option maxRecDepth 65536 in
set_option maxHeartbeats 40000000 in
theorem comes_1 {Post : Tables → Env → Array Value → State → Outcome → State → Prop} (hpost : ∀ tb e args s v u, (limb_1_1.after args s (.returned v) u = true ∧ limb_1_2.after args s (.returned v) u = true ∧ True) → FrameEnd s (.returned v) u (Jvm.fieldLocs frame_1_writes args s ++ Jvm.arrayLocs frame_1_arrays args s ++ Jvm.staticLocs frame_1_statics s) 24 128 → Post tb e args s (.returned v) u) :
    ArmFor flags0 classFile x code maxLocals ret World_1 tables_1 room_1 Calls_1 rest_1 Pre_1 Post := by
  intro l hfl _ _ p e ha hc hk s m args below hf hA hF happ hP
  obtain ⟨hcalls, hrest, hpre⟩ := hP
  obtain ⟨-, -, -, hnamed, -, -, -, hat⟩ := (Spec.applies_iff hf).mp happ
  obtain ⟨hg, hn⟩ := and_e (Cond.before_iff.mp (show (Jvm.Cond.and given_1 narrow_1).before args s = true from hpre))
  obtain ⟨y0_l, y0_r⟩ := and_e hg
  obtain ⟨y1_l, y1_r⟩ := and_e y0_r
  obtain ⟨y2_l, y2_r⟩ := and_e y1_r
  obtain ⟨y3_l, y3_r⟩ := and_e y2_r
  obtain ⟨w0, w1, w2, w3, rfl⟩ : ∃ w0 w1 w2 w3 : Value, args = #[w0, w1, w2, w3] := by
    have hs : args.size = 4 := by simpa [Cond.value, given_1] using y0_l
    obtain ⟨L⟩ := args
    match L, hs with
    | [w0, w1, w2, w3], _ => exact ⟨w0, w1, w2, w3, rfl⟩
  have hw := fun d (hd : d ∈ tables_1) => atoms_spec (ws := Jvm.Cond.code x code maxLocals ret :: tables_1) hat d (List.mem_cons_of_mem _ hd)
  have hfit : Fit s := fun {y c} hc i hi => by
    obtain ⟨ha, rfl⟩ := Array.getElem?_eq_some_iff.mp hc
    have q := List.all_eq_true.mp ((Array.all_eq_true_iff_forall_mem.mp hF) _ (Array.getElem_mem ha)) i (List.mem_range.mpr hi)
    simpa [Array.getElem?_eq_getElem hi] using q
  obtain ⟨hsets, hown0⟩ := atoms_of _ (rest_1_c_eq ▸ (show rest_1_c.before _ s = true from hrest))
  obtain ⟨i0, ei0⟩ := is_v y1_l
  obtain rfl : w0 = (.int i0) := Option.some.inj ei0
  obtain ⟨i1, ei1⟩ := is_v y2_l
  obtain rfl : w1 = (.int i1) := Option.some.inj ei1
  obtain ⟨i2, ei2⟩ := is_v y3_l
  obtain rfl : w2 = (.int i2) := Option.some.inj ei2
  obtain ⟨i3, ei3⟩ := is_v y3_r
  obtain rfl : w3 = (.int i3) := Option.some.inj ei3
  obtain ⟨n0_l, n0_r⟩ := and_e hn
  obtain ⟨n1_l, n1_r⟩ := and_e n0_r
  obtain ⟨w_NO_ITEMS, ev_w_NO_ITEMS⟩ := exa_v n1_l
  obtain ⟨w_cache, ev_w_cache⟩ := exa_v (Cond.before_iff.mp (hsets _ (List.mem_of_getElem? (i := 5) rfl)))
  obtain ⟨cl_w_NO_ITEMS, Ar_w_NO_ITEMS⟩ := Arr.start ev_w_NO_ITEMS n0_l
  obtain ⟨k_w_NO_ITEMS, ek_w_NO_ITEMS⟩ : ∃ z, cl_w_NO_ITEMS.cls = z := ⟨_, rfl⟩
  obtain ⟨cl_w_cache, Ar_w_cache⟩ := Arr.start ev_w_cache (Cond.before_iff.mp (hsets _ (List.mem_of_getElem? (i := 4) rfl)))
  have wd : World s w_NO_ITEMS w_cache k_w_NO_ITEMS cl_w_cache := ⟨(Sta.start ev_w_NO_ITEMS (Or.inr ⟨(t9 hw), (t17 hw)⟩)), (Exa.start ev_w_NO_ITEMS n1_l), (Sta.start ev_w_cache (Or.inr ⟨(t5 hw), (hsets _ (List.mem_of_getElem? (i := 2) rfl))⟩)), (Exa.start ev_w_cache (Cond.before_iff.mp (hsets _ (List.mem_of_getElem? (i := 5) rfl)))), (ek_w_NO_ITEMS ▸ arv0_start hfit ev_w_NO_ITEMS Ar_w_NO_ITEMS n1_r), (Sta.start (eqv_i (Term.int_eval (127 : Int32)) (Cond.before_iff.mp (hsets _ (List.mem_of_getElem? (i := 3) rfl)))) (Or.inl (hsets _ (List.mem_of_getElem? (i := 1) rfl)))), (cache_start (fun _ => ev_w_cache) Ar_w_cache (Cond.before_iff.mp (hsets _ (List.mem_of_getElem? (i := 6) rfl))) (Cond.before_iff.mp (hsets _ (List.mem_of_getElem? (i := 7) rfl))))⟩
  obtain ⟨n, o, h1, h2, h3, _, L, rfl, ⟨rfl, N⟩, hq⟩ := (law_all hw wd i0 i1 i2 i3 (ext_refl _)) tables_1 p e ha hc hk s m _ below hf ((Spec.applies_iff_loose hf).mp happ).1 ⟨rfl, State.Warmed39.refl s, rfl⟩ trivial
  refine ⟨n, _, h1, h2, h3, hpost _ _ _ _ _ _ ⟨Cond.after_iff.mpr rfl, Cond.after_iff.mpr (eq_i res_at (Term.int_eval (1)) rfl), trivial⟩ ⟨hq.1, hq.2.1, (hq.2.2.sift fun y hy => Or.inr (N y hy)).mono (by decide) (by decide)⟩⟩
theorem main_1_1 : Claimed_1_1 := comes_1 fun _ _ _ _ _ _ h hF => ⟨h.1, hF⟩
theorem main_1_2 : Claimed_1_2 := comes_1 fun _ _ _ _ _ _ h hF => ⟨h.2.1, hF⟩
end Jvm.Pilot.@@N@@
namespace Jvm.Pilot.@@N@@
open Jvm Jvm.ClassFile Sem Op Lib Jvm.Free Jvm.Stand Jvm.Pilot.@@N@@.Jvm.D
/-! MADE BY PROGRAM (witnessworld.py) out of the Statement's table words and the real class files: 20 classes; the members and pool entries that the words name. The judged class is class 1, her method 2. -/
namespace start1
open Jvm.ClassFile
def u (s : String) : CpInfo := .utf8 (stringToUtf16 s)
/-- a pool by its gaps: so many unusable entries, then the entry; so many at the end -/
def gap : Nat → List CpInfo → List CpInfo
  | 0, r => r
  | n + 1, r => .unusable :: gap n r
def poolList (es : List (Nat × CpInfo)) (last : Nat) : List CpInfo := es.foldr (fun e r => gap e.1 (e.2 :: r)) (gap last [])
def pool (es : List (Nat × CpInfo)) (last : Nat) : Array CpInfo := ⟨poolList es last⟩
def fileOf (pool : Array CpInfo) (this : Nat) (attrs : Array Attribute := #[]) (ms : Array MethodInfo := #[]) (fl : Nat := 33) (sup : Nat := 0) (ifs : Array Nat := #[]) (fds : Array FieldInfo := #[]) : ClassFile where
  minorVersion := 0
  majorVersion := 65
  constantPool := pool
  accessFlags := fl
  thisClass := this
  superClass := sup
  interfaces := ifs
  fields := fds
  methods := ms
  attributes := attrs
def plain (name : String) (sup : Option ClassId) : Class where
  name := name
  kind := .ordinary
  loader := none
  accessFlags := 33
  super := sup
  interfaces := #[]
  cf := none
  fields := #[]
  methods := #[]
  instanceTypes := #[]
  staticTypes := #[]
  resolved := #[]
  callSites := []
  init := .initialized
  statics := none
  mirror := none

def pool0 : Array CpInfo := pool [(5, u "<init>"), (0, u "()V"), (1, .class_ 10), (1, u "java/lang/Object")] 113

def k0c0 : Code := { maxStack := 0, maxLocals := 1, code := object_method_1_code, exceptionTable := #[], attributes := #[] }
def k0m0 : Method := { name := "<init>", desc := "()V", sig := { parameters := [], returnType := none }, accessFlags := 1, code := some k0c0 }
/-- java/lang/Object -/
def k0 : Class := { plain "java/lang/Object" none with
  accessFlags := 33
  interfaces := #[]
  cf := some (fileOf pool0 8 #[] #[{ accessFlags := 1, nameIndex := 5, descriptorIndex := 6, attributes := #[] }] 33 0 #[] #[])
  fields := #[]
  methods := #[k0m0]
  instanceTypes := #[]
  staticTypes := #[]
  resolved := Array.replicate 124 none
  statics := none }

def pool1 : Array CpInfo := pool [(2, .class_ 4), (0, .nameAndType 5 6), (0, u "java/lang/Object"), (0, u "<init>"), (0, u "()V"), (0, .methodref 8 9), (0, .class_ 10), (0, .nameAndType 11 12), (0, u "java/lang/Integer"), (0, u "valueOf"), (0, u "(I)Ljava/lang/Integer;"), (0, .class_ 14), (0, u "com/example/roundel/roundel/dag/ItemArray"), (0, .methodref 13 3), (0, .methodref 13 17), (0, .nameAndType 18 19), (0, u "add"), (0, u "(Ljava/lang/Object;)V"), (0, .methodref 13 21), (0, .nameAndType 22 23), (0, u "poll"), (0, u "()Ljava/lang/Object;"), (0, .methodref 25 26), (0, .class_ 27), (0, .nameAndType 28 29), (0, u "com/example/roundel/roundel/dag/ItemArrayPollPinLaw"), (0, u "expected"), (0, u "(IILjava/lang/Object;Ljava/lang/Object;Ljava/lang/Object;)Ljava/lang/Object;"), (0, .methodref 31 32), (0, .class_ 33), (0, .nameAndType 34 35), (0, u "java/lang/Math"), (0, u "max"), (0, u "(II)I"), (0, .methodref 13 37), (0, .nameAndType 38 39), (0, u "size"), (0, u "()I"), (0, .methodref 13 41), (0, .nameAndType 42 23), (0, u "peek"), (3, u "law"), (0, u "(IIII)Z")] 2

def k1m0 : Method := { name := "<init>", desc := "()V", sig := { parameters := [], returnType := none }, accessFlags := 1, code := none }
def k1c1 : Code := { maxStack := 2, maxLocals := 5, code := method_2_code, exceptionTable := #[], attributes := #[] }
def k1m1 : Method := { name := "expected", desc := "(IILjava/lang/Object;Ljava/lang/Object;Ljava/lang/Object;)Ljava/lang/Object;", sig := { parameters := [.int, .int, (.object "java/lang/Object"), (.object "java/lang/Object"), (.object "java/lang/Object")], returnType := some (.object "java/lang/Object") }, accessFlags := 10, code := some k1c1 }
def k1c2 : Code := { maxStack := 7, maxLocals := 13, code := code, exceptionTable := #[], attributes := #[] }
def k1m2 : Method := { name := "law", desc := "(IIII)Z", sig := { parameters := [.int, .int, .int, .int], returnType := some .boolean }, accessFlags := 9, code := some k1c2 }
/-- com/example/roundel/roundel/dag/ItemArrayPollPinLaw -/
def k1 : Class := { plain "com/example/roundel/roundel/dag/ItemArrayPollPinLaw" (some 0) with
  accessFlags := 49
  interfaces := #[]
  cf := some (fileOf pool1 25 #[] #[{ accessFlags := 1, nameIndex := 5, descriptorIndex := 6, attributes := #[] }, { accessFlags := 10, nameIndex := 28, descriptorIndex := 29, attributes := #[] }, { accessFlags := 9, nameIndex := 46, descriptorIndex := 47, attributes := #[] }] 49 2 #[] #[])
  fields := #[]
  methods := #[k1m0, k1m1, k1m2]
  instanceTypes := #[]
  staticTypes := #[]
  resolved := Array.replicate 50 none
  statics := none }

def pool2 : Array CpInfo := pool [(1, .class_ 2), (0, u "java/io/Serializable"), (0, .class_ 4), (0, u "java/lang/Object")] 2

/-- java/io/Serializable -/
def k2 : Class := { plain "java/io/Serializable" (some 0) with
  accessFlags := 1537
  interfaces := #[]
  cf := some (fileOf pool2 1 #[] #[] 1537 3 #[] #[])
  fields := #[]
  methods := #[]
  instanceTypes := #[]
  staticTypes := #[]
  resolved := Array.replicate 7 none
  statics := none }

def pool3 : Array CpInfo := pool [(1, .methodref 2 3), (0, .class_ 4), (0, .nameAndType 5 6), (0, u "java/lang/Object"), (0, u "<init>"), (0, u "()V"), (1, .class_ 10), (1, u "java/lang/Number"), (2, .class_ 14), (0, u "java/io/Serializable"), (0, u "serialVersionUID"), (0, u "J")] 20

def k3c0 : Code := { maxStack := 1, maxLocals := 1, code := jdk_18_method_1_code, exceptionTable := #[], attributes := #[] }
def k3m0 : Method := { name := "<init>", desc := "()V", sig := { parameters := [], returnType := none }, accessFlags := 1, code := some k3c0 }
/-- java/lang/Number -/
def k3 : Class := { plain "java/lang/Number" (some 0) with
  accessFlags := 1057
  interfaces := #[2]
  cf := some (fileOf pool3 8 #[] #[{ accessFlags := 1, nameIndex := 5, descriptorIndex := 6, attributes := #[] }] 1057 2 #[13] #[{ accessFlags := 26, nameIndex := 15, descriptorIndex := 16, attributes := #[] }])
  fields := #[{ name := "serialVersionUID", type := .long, accessFlags := 26, slot := 0, constantValue := 0 }]
  methods := #[k3m0]
  instanceTypes := #[]
  staticTypes := #[.long]
  resolved := Array.replicate 37 none
  statics := none }

def pool4 : Array CpInfo := pool [(1, .class_ 2), (0, u "java/lang/Comparable"), (0, .class_ 4), (0, u "java/lang/Object")] 7

/-- java/lang/Comparable -/
def k4 : Class := { plain "java/lang/Comparable" (some 0) with
  accessFlags := 1537
  interfaces := #[]
  cf := some (fileOf pool4 1 #[] #[] 1537 3 #[] #[])
  fields := #[]
  methods := #[]
  instanceTypes := #[]
  staticTypes := #[]
  resolved := Array.replicate 12 none
  statics := none }

def pool5 : Array CpInfo := pool [(1, .class_ 2), (0, u "java/lang/constant/Constable"), (0, .class_ 4), (0, u "java/lang/Object")] 6

/-- java/lang/constant/Constable -/
def k5 : Class := { plain "java/lang/constant/Constable" (some 0) with
  accessFlags := 1537
  interfaces := #[]
  cf := some (fileOf pool5 1 #[] #[] 1537 3 #[] #[])
  fields := #[]
  methods := #[]
  instanceTypes := #[]
  staticTypes := #[]
  resolved := Array.replicate 11 none
  statics := none }

def pool6 : Array CpInfo := pool [(1, .class_ 2), (0, u "java/lang/constant/ConstantDesc"), (0, .class_ 4), (0, u "java/lang/Object")] 32

/-- java/lang/constant/ConstantDesc -/
def k6 : Class := { plain "java/lang/constant/ConstantDesc" (some 0) with
  accessFlags := 1537
  interfaces := #[]
  cf := some (fileOf pool6 1 #[] #[] 1537 3 #[] #[])
  fields := #[]
  methods := #[]
  instanceTypes := #[]
  staticTypes := #[]
  resolved := Array.replicate 37 none
  statics := none }

def pool7 : Array CpInfo := pool [(1, .class_ 2), (0, u "java/lang/Integer"), (16, u "digits"), (0, u "[C"), (46, u "<init>"), (17, u "DigitOnes"), (0, u "[B"), (2, u "DigitTens"), (10, .nameAndType 67 101), (0, u "()V"), (85, u "valueOf"), (0, u "(I)Ljava/lang/Integer;"), (0, .class_ 190), (0, u "java/lang/Integer$IntegerCache"), (0, .fieldref 189 192), (0, .nameAndType 193 194), (0, u "high"), (0, u "I"), (0, .fieldref 189 196), (0, .nameAndType 197 198), (0, u "cache"), (0, u "[Ljava/lang/Integer;"), (0, .methodref 1 200), (0, .nameAndType 67 201), (0, u "(I)V"), (0, .methodref 203 100), (0, .class_ 204), (0, u "java/lang/Number"), (0, .fieldref 1 206), (0, .nameAndType 207 194), (0, u "value"), (94, u "TYPE"), (0, u "Ljava/lang/Class;"), (0, .class_ 305), (0, u "java/lang/Comparable"), (0, .class_ 307), (0, u "java/lang/constant/Constable"), (0, .class_ 309), (0, u "java/lang/constant/ConstantDesc"), (0, u "MIN_VALUE"), (1, u "MAX_VALUE"), (3, u "SIZE"), (1, u "BYTES"), (1, u "serialVersionUID"), (0, u "J")] 131

def k7c0 : Code := { maxStack := 3, maxLocals := 1, code := jdk_33_method_22_code, exceptionTable := #[], attributes := #[] }
def k7m0 : Method := { name := "valueOf", desc := "(I)Ljava/lang/Integer;", sig := { parameters := [.int], returnType := some (.object "java/lang/Integer") }, accessFlags := 9, code := some k7c0 }
def k7c1 : Code := { maxStack := 2, maxLocals := 2, code := jdk_33_method_23_code, exceptionTable := #[], attributes := #[] }
def k7m1 : Method := { name := "<init>", desc := "(I)V", sig := { parameters := [.int], returnType := none }, accessFlags := 1, code := some k7c1 }
/-- java/lang/Integer -/
def k7 : Class := { plain "java/lang/Integer" (some 3) with
  accessFlags := 49
  interfaces := #[4, 5, 6]
  cf := some (fileOf pool7 1 #[.nestMembers #[189]] #[{ accessFlags := 9, nameIndex := 187, descriptorIndex := 188, attributes := #[] }, { accessFlags := 1, nameIndex := 67, descriptorIndex := 201, attributes := #[] }] 49 203 #[304, 306, 308] #[{ accessFlags := 25, nameIndex := 310, descriptorIndex := 194, attributes := #[] }, { accessFlags := 25, nameIndex := 312, descriptorIndex := 194, attributes := #[] }, { accessFlags := 25, nameIndex := 302, descriptorIndex := 303, attributes := #[] }, { accessFlags := 24, nameIndex := 19, descriptorIndex := 20, attributes := #[] }, { accessFlags := 24, nameIndex := 89, descriptorIndex := 86, attributes := #[] }, { accessFlags := 24, nameIndex := 85, descriptorIndex := 86, attributes := #[] }, { accessFlags := 18, nameIndex := 207, descriptorIndex := 194, attributes := #[] }, { accessFlags := 25, nameIndex := 316, descriptorIndex := 194, attributes := #[] }, { accessFlags := 25, nameIndex := 318, descriptorIndex := 194, attributes := #[] }, { accessFlags := 26, nameIndex := 320, descriptorIndex := 321, attributes := #[] }])
  fields := #[{ name := "MIN_VALUE", type := .int, accessFlags := 25, slot := 0, constantValue := 0 }, { name := "MAX_VALUE", type := .int, accessFlags := 25, slot := 1, constantValue := 0 }, { name := "TYPE", type := (.object "java/lang/Class"), accessFlags := 25, slot := 2, constantValue := 0 }, { name := "digits", type := (.array .char), accessFlags := 24, slot := 3, constantValue := 0 }, { name := "DigitTens", type := (.array .byte), accessFlags := 24, slot := 4, constantValue := 0 }, { name := "DigitOnes", type := (.array .byte), accessFlags := 24, slot := 5, constantValue := 0 }, { name := "value", type := .int, accessFlags := 18, slot := 0, constantValue := 0 }, { name := "SIZE", type := .int, accessFlags := 25, slot := 6, constantValue := 0 }, { name := "BYTES", type := .int, accessFlags := 25, slot := 7, constantValue := 0 }, { name := "serialVersionUID", type := .long, accessFlags := 26, slot := 8, constantValue := 0 }]
  methods := #[k7m0, k7m1]
  instanceTypes := #[.int]
  staticTypes := #[.int, .int, (.object "java/lang/Class"), (.array .char), (.array .byte), (.array .byte), .int, .int, .long]
  resolved := Array.replicate 453 none
  statics := none }

def pool8 : Array CpInfo := pool [(2, .class_ 4), (1, u "java/lang/Object"), (0, u "<init>"), (0, u "()V"), (0, .class_ 8), (0, u "java/lang/Integer"), (7, .class_ 18), (1, u "java/lang/Integer$IntegerCache"), (0, u "$assertionsDisabled"), (0, u "Z"), (26, u "high"), (0, u "I"), (8, u "archivedCache"), (0, u "[Ljava/lang/Integer;"), (12, u "cache"), (0, u "low")] 27

def k8m0 : Method := { name := "<init>", desc := "()V", sig := { parameters := [], returnType := none }, accessFlags := 2, code := none }
/-- java/lang/Integer$IntegerCache -/
def k8 : Class := { plain "java/lang/Integer$IntegerCache" (some 0) with
  accessFlags := 48
  interfaces := #[]
  cf := some (fileOf pool8 16 #[.nestHost 7] #[{ accessFlags := 2, nameIndex := 5, descriptorIndex := 6, attributes := #[] }] 48 2 #[] #[{ accessFlags := 24, nameIndex := 72, descriptorIndex := 48, attributes := #[] }, { accessFlags := 24, nameIndex := 47, descriptorIndex := 48, attributes := #[] }, { accessFlags := 24, nameIndex := 71, descriptorIndex := 58, attributes := #[] }, { accessFlags := 8, nameIndex := 57, descriptorIndex := 58, attributes := #[] }, { accessFlags := 4120, nameIndex := 19, descriptorIndex := 20, attributes := #[] }])
  fields := #[{ name := "low", type := .int, accessFlags := 24, slot := 0, constantValue := 0 }, { name := "high", type := .int, accessFlags := 24, slot := 1, constantValue := 0 }, { name := "cache", type := (.array (.object "java/lang/Integer")), accessFlags := 24, slot := 2, constantValue := 0 }, { name := "archivedCache", type := (.array (.object "java/lang/Integer")), accessFlags := 8, slot := 3, constantValue := 0 }, { name := "$assertionsDisabled", type := .boolean, accessFlags := 4120, slot := 4, constantValue := 0 }]
  methods := #[k8m0]
  instanceTypes := #[]
  staticTypes := #[.int, .int, (.array (.object "java/lang/Integer")), (.array (.object "java/lang/Integer")), .boolean]
  resolved := Array.replicate 100 none
  statics := some 0 }

def pool9 : Array CpInfo := pool [(1, .class_ 2), (0, u "com/example/roundel/roundel/dag/Inbox"), (0, .class_ 4), (0, u "java/lang/Object")] 9

/-- com/example/roundel/roundel/dag/Inbox -/
def k9 : Class := { plain "com/example/roundel/roundel/dag/Inbox" (some 0) with
  accessFlags := 1537
  interfaces := #[]
  cf := some (fileOf pool9 1 #[] #[] 1537 3 #[] #[])
  fields := #[]
  methods := #[]
  instanceTypes := #[]
  staticTypes := #[]
  resolved := Array.replicate 14 none
  statics := none }

def pool10 : Array CpInfo := pool [(1, .methodref 2 3), (0, .class_ 4), (0, .nameAndType 5 6), (0, u "java/lang/Object"), (0, u "<init>"), (0, u "()V"), (0, .fieldref 8 9), (0, .class_ 10), (0, .nameAndType 11 12), (0, u "com/example/roundel/roundel/dag/ItemArray"), (0, u "NO_ITEMS"), (0, u "[Ljava/lang/Object;"), (0, .fieldref 8 14), (0, .nameAndType 15 12), (0, u "items"), (0, .fieldref 8 17), (0, .nameAndType 18 19), (0, u "first"), (0, u "I"), (0, .fieldref 8 21), (0, .nameAndType 22 19), (0, u "end"), (7, .methodref 8 31), (0, .nameAndType 32 33), (0, u "makeRoom"), (0, u "(I)V"), (5, u "()I"), (17, u "itemArraysBroughtIn"), (9, .methodref 68 69), (0, .class_ 70), (0, .nameAndType 71 72), (0, u "java/lang/Math"), (0, u "max"), (0, u "(II)I"), (0, .methodref 74 75), (0, .class_ 76), (0, .nameAndType 77 78), (0, u "java/lang/System"), (0, u "arraycopy"), (0, u "(Ljava/lang/Object;ILjava/lang/Object;II)V"), (0, .class_ 80), (0, u "com/example/roundel/roundel/dag/Inbox"), (0, u "SHORTEST_LENGTH"), (7, u "peek"), (0, u "()Ljava/lang/Object;"), (0, u "poll"), (1, u "size"), (0, u "add"), (0, u "(Ljava/lang/Object;)V")] 9

def k10c0 : Code := { maxStack := 2, maxLocals := 1, code := prog_20_method_1_code, exceptionTable := #[], attributes := #[] }
def k10m0 : Method := { name := "<init>", desc := "()V", sig := { parameters := [], returnType := none }, accessFlags := 0, code := some k10c0 }
def k10c1 : Code := { maxStack := 2, maxLocals := 1, code := prog_20_method_3_code, exceptionTable := #[], attributes := #[] }
def k10m1 : Method := { name := "peek", desc := "()Ljava/lang/Object;", sig := { parameters := [], returnType := some (.object "java/lang/Object") }, accessFlags := 1, code := some k10c1 }
def k10c2 : Code := { maxStack := 5, maxLocals := 2, code := prog_20_method_4_code, exceptionTable := #[], attributes := #[] }
def k10m2 : Method := { name := "poll", desc := "()Ljava/lang/Object;", sig := { parameters := [], returnType := some (.object "java/lang/Object") }, accessFlags := 1, code := some k10c2 }
def k10c3 : Code := { maxStack := 2, maxLocals := 1, code := prog_20_method_6_code, exceptionTable := #[], attributes := #[] }
def k10m3 : Method := { name := "size", desc := "()I", sig := { parameters := [], returnType := some .int }, accessFlags := 0, code := some k10c3 }
def k10c4 : Code := { maxStack := 5, maxLocals := 2, code := prog_20_method_7_code, exceptionTable := #[], attributes := #[] }
def k10m4 : Method := { name := "add", desc := "(Ljava/lang/Object;)V", sig := { parameters := [(.object "java/lang/Object")], returnType := none }, accessFlags := 0, code := some k10c4 }
def k10c5 : Code := { maxStack := 5, maxLocals := 5, code := prog_20_method_12_code, exceptionTable := #[], attributes := #[] }
def k10m5 : Method := { name := "makeRoom", desc := "(I)V", sig := { parameters := [.int], returnType := none }, accessFlags := 2, code := some k10c5 }
/-- com/example/roundel/roundel/dag/ItemArray -/
def k10 : Class := { plain "com/example/roundel/roundel/dag/ItemArray" (some 0) with
  accessFlags := 48
  interfaces := #[9]
  cf := some (fileOf pool10 8 #[] #[{ accessFlags := 0, nameIndex := 5, descriptorIndex := 6, attributes := #[] }, { accessFlags := 1, nameIndex := 89, descriptorIndex := 90, attributes := #[] }, { accessFlags := 1, nameIndex := 91, descriptorIndex := 90, attributes := #[] }, { accessFlags := 0, nameIndex := 93, descriptorIndex := 39, attributes := #[] }, { accessFlags := 0, nameIndex := 94, descriptorIndex := 95, attributes := #[] }, { accessFlags := 2, nameIndex := 32, descriptorIndex := 33, attributes := #[] }] 48 2 #[79] #[{ accessFlags := 26, nameIndex := 81, descriptorIndex := 19, attributes := #[] }, { accessFlags := 26, nameIndex := 11, descriptorIndex := 12, attributes := #[] }, { accessFlags := 2, nameIndex := 15, descriptorIndex := 12, attributes := #[] }, { accessFlags := 2, nameIndex := 18, descriptorIndex := 19, attributes := #[] }, { accessFlags := 2, nameIndex := 22, descriptorIndex := 19, attributes := #[] }, { accessFlags := 2, nameIndex := 57, descriptorIndex := 19, attributes := #[] }])
  fields := #[{ name := "SHORTEST_LENGTH", type := .int, accessFlags := 26, slot := 0, constantValue := 0 }, { name := "NO_ITEMS", type := (.array (.object "java/lang/Object")), accessFlags := 26, slot := 1, constantValue := 0 }, { name := "items", type := (.array (.object "java/lang/Object")), accessFlags := 2, slot := 0, constantValue := 0 }, { name := "first", type := .int, accessFlags := 2, slot := 1, constantValue := 0 }, { name := "end", type := .int, accessFlags := 2, slot := 2, constantValue := 0 }, { name := "itemArraysBroughtIn", type := .int, accessFlags := 2, slot := 3, constantValue := 0 }]
  methods := #[k10m0, k10m1, k10m2, k10m3, k10m4, k10m5]
  instanceTypes := #[(.array (.object "java/lang/Object")), .int, .int, .int]
  staticTypes := #[.int, (.array (.object "java/lang/Object"))]
  resolved := Array.replicate 105 none
  statics := some 1 }

def pool11 : Array CpInfo := pool [(1, .class_ 2), (0, u "java/lang/Math"), (1, .class_ 6), (1, u "java/lang/Object"), (0, u "<init>"), (0, u "()V"), (89, .class_ 100), (1, u "java/lang/Math$RandomNumberGeneratorHolder"), (71, u "negativeZeroFloatBits"), (0, u "J"), (2, u "negativeZeroDoubleBits"), (21, u "max"), (46, u "$assertionsDisabled"), (0, u "Z"), (88, u "(II)I"), (2, u "twoToTheDoubleScaleDown"), (0, u "D"), (4, u "twoToTheDoubleScaleUp"), (9, u "E"), (3, u "PI"), (2, u "TAU"), (2, u "DEGREES_TO_RADIANS"), (0, u "RADIANS_TO_DEGREES")] 94

def k11m0 : Method := { name := "<init>", desc := "()V", sig := { parameters := [], returnType := none }, accessFlags := 2, code := none }
def k11c1 : Code := { maxStack := 2, maxLocals := 2, code := jdk_29_method_65_code, exceptionTable := #[], attributes := #[] }
def k11m1 : Method := { name := "max", desc := "(II)I", sig := { parameters := [.int, .int], returnType := some .int }, accessFlags := 9, code := some k11c1 }
/-- java/lang/Math -/
def k11 : Class := { plain "java/lang/Math" (some 0) with
  accessFlags := 49
  interfaces := #[]
  cf := some (fileOf pool11 1 #[.nestMembers #[98]] #[{ accessFlags := 2, nameIndex := 7, descriptorIndex := 8, attributes := #[] }, { accessFlags := 9, nameIndex := 198, descriptorIndex := 335, attributes := #[] }] 49 4 #[] #[{ accessFlags := 25, nameIndex := 354, descriptorIndex := 339, attributes := #[] }, { accessFlags := 25, nameIndex := 358, descriptorIndex := 339, attributes := #[] }, { accessFlags := 25, nameIndex := 361, descriptorIndex := 339, attributes := #[] }, { accessFlags := 26, nameIndex := 364, descriptorIndex := 339, attributes := #[] }, { accessFlags := 26, nameIndex := 365, descriptorIndex := 339, attributes := #[] }, { accessFlags := 26, nameIndex := 172, descriptorIndex := 173, attributes := #[] }, { accessFlags := 26, nameIndex := 176, descriptorIndex := 173, attributes := #[] }, { accessFlags := 8, nameIndex := 344, descriptorIndex := 339, attributes := #[] }, { accessFlags := 8, nameIndex := 338, descriptorIndex := 339, attributes := #[] }, { accessFlags := 4120, nameIndex := 245, descriptorIndex := 246, attributes := #[] }])
  fields := #[{ name := "E", type := .double, accessFlags := 25, slot := 0, constantValue := 0 }, { name := "PI", type := .double, accessFlags := 25, slot := 1, constantValue := 0 }, { name := "TAU", type := .double, accessFlags := 25, slot := 2, constantValue := 0 }, { name := "DEGREES_TO_RADIANS", type := .double, accessFlags := 26, slot := 3, constantValue := 0 }, { name := "RADIANS_TO_DEGREES", type := .double, accessFlags := 26, slot := 4, constantValue := 0 }, { name := "negativeZeroFloatBits", type := .long, accessFlags := 26, slot := 5, constantValue := 0 }, { name := "negativeZeroDoubleBits", type := .long, accessFlags := 26, slot := 6, constantValue := 0 }, { name := "twoToTheDoubleScaleUp", type := .double, accessFlags := 8, slot := 7, constantValue := 0 }, { name := "twoToTheDoubleScaleDown", type := .double, accessFlags := 8, slot := 8, constantValue := 0 }, { name := "$assertionsDisabled", type := .boolean, accessFlags := 4120, slot := 9, constantValue := 0 }]
  methods := #[k11m0, k11m1]
  instanceTypes := #[]
  staticTypes := #[.double, .double, .double, .double, .double, .long, .long, .double, .double, .boolean]
  resolved := Array.replicate 460 none
  statics := none }

def pool12 : Array CpInfo := pool [(2, .class_ 4), (1, u "java/lang/Object"), (0, u "<init>"), (0, u "()V"), (1, .class_ 10), (1, u "java/lang/System"), (0, u "allowSecurityManager"), (0, u "I"), (16, u "cons"), (0, u "Ljava/io/Console;"), (77, .class_ 110), (1, u "java/lang/System$CallersHolder"), (43, u "initialErrStream"), (0, u "Ljava/io/PrintStream;"), (19, u "security"), (0, u "Ljava/lang/SecurityManager;"), (31, .class_ 209), (0, u "java/lang/System$1"), (7, u "props"), (0, u "Ljava/util/Properties;"), (2, u "lineSeparator"), (0, u "Ljava/lang/String;"), (96, .class_ 321), (1, u "java/lang/System$LoggerFinder"), (5, .class_ 328), (0, u "java/lang/System$Logger"), (67, u "err"), (2, u "out"), (91, u "notSupportedJnuEncoding"), (15, u "in"), (17, u "initialIn"), (0, u "Ljava/io/InputStream;"), (35, u "bootLayer"), (0, u "Ljava/lang/ModuleLayer;"), (99, .class_ 664), (0, u "java/lang/System$2"), (9, u "NEVER"), (2, u "MAYBE"), (49, u "arraycopy"), (0, u "(Ljava/lang/Object;ILjava/lang/Object;II)V"), (72, .class_ 802), (0, u "java/lang/System$Logger$Level")] 31

def k12m0 : Method := { name := "<init>", desc := "()V", sig := { parameters := [], returnType := none }, accessFlags := 2, code := none }
def k12m1 : Method := { name := "arraycopy", desc := "(Ljava/lang/Object;ILjava/lang/Object;II)V", sig := { parameters := [(.object "java/lang/Object"), .int, (.object "java/lang/Object"), .int, .int], returnType := none }, accessFlags := 265, code := none }
/-- java/lang/System -/
def k12 : Class := { plain "java/lang/System" (some 0) with
  accessFlags := 49
  interfaces := #[]
  cf := some (fileOf pool12 8 #[.nestMembers #[319, 327, 801, 108, 663, 208]] #[{ accessFlags := 2, nameIndex := 5, descriptorIndex := 6, attributes := #[] }, { accessFlags := 265, nameIndex := 727, descriptorIndex := 728, attributes := #[] }] 49 2 #[] #[{ accessFlags := 25, nameIndex := 507, descriptorIndex := 526, attributes := #[] }, { accessFlags := 25, nameIndex := 399, descriptorIndex := 155, attributes := #[] }, { accessFlags := 25, nameIndex := 396, descriptorIndex := 155, attributes := #[] }, { accessFlags := 10, nameIndex := 525, descriptorIndex := 526, attributes := #[] }, { accessFlags := 26, nameIndex := 674, descriptorIndex := 12, attributes := #[] }, { accessFlags := 26, nameIndex := 677, descriptorIndex := 12, attributes := #[] }, { accessFlags := 10, nameIndex := 11, descriptorIndex := 12, attributes := #[] }, { accessFlags := 74, nameIndex := 175, descriptorIndex := 176, attributes := #[] }, { accessFlags := 10, nameIndex := 491, descriptorIndex := 222, attributes := #[] }, { accessFlags := 74, nameIndex := 29, descriptorIndex := 30, attributes := #[] }, { accessFlags := 74, nameIndex := 154, descriptorIndex := 155, attributes := #[] }, { accessFlags := 10, nameIndex := 217, descriptorIndex := 218, attributes := #[] }, { accessFlags := 10, nameIndex := 221, descriptorIndex := 222, attributes := #[] }, { accessFlags := 8, nameIndex := 562, descriptorIndex := 563, attributes := #[] }])
  fields := #[{ name := "in", type := (.object "java/io/InputStream"), accessFlags := 25, slot := 0, constantValue := 0 }, { name := "out", type := (.object "java/io/PrintStream"), accessFlags := 25, slot := 1, constantValue := 0 }, { name := "err", type := (.object "java/io/PrintStream"), accessFlags := 25, slot := 2, constantValue := 0 }, { name := "initialIn", type := (.object "java/io/InputStream"), accessFlags := 10, slot := 3, constantValue := 0 }, { name := "NEVER", type := .int, accessFlags := 26, slot := 4, constantValue := 0 }, { name := "MAYBE", type := .int, accessFlags := 26, slot := 5, constantValue := 0 }, { name := "allowSecurityManager", type := .int, accessFlags := 10, slot := 6, constantValue := 0 }, { name := "security", type := (.object "java/lang/SecurityManager"), accessFlags := 74, slot := 7, constantValue := 0 }, { name := "notSupportedJnuEncoding", type := (.object "java/lang/String"), accessFlags := 10, slot := 8, constantValue := 0 }, { name := "cons", type := (.object "java/io/Console"), accessFlags := 74, slot := 9, constantValue := 0 }, { name := "initialErrStream", type := (.object "java/io/PrintStream"), accessFlags := 74, slot := 10, constantValue := 0 }, { name := "props", type := (.object "java/util/Properties"), accessFlags := 10, slot := 11, constantValue := 0 }, { name := "lineSeparator", type := (.object "java/lang/String"), accessFlags := 10, slot := 12, constantValue := 0 }, { name := "bootLayer", type := (.object "java/lang/ModuleLayer"), accessFlags := 8, slot := 13, constantValue := 0 }]
  methods := #[k12m0, k12m1]
  instanceTypes := #[]
  staticTypes := #[(.object "java/io/InputStream"), (.object "java/io/PrintStream"), (.object "java/io/PrintStream"), (.object "java/io/InputStream"), .int, .int, .int, (.object "java/lang/SecurityManager"), (.object "java/lang/String"), (.object "java/io/Console"), (.object "java/io/PrintStream"), (.object "java/util/Properties"), (.object "java/lang/String"), (.object "java/lang/ModuleLayer")]
  resolved := Array.replicate 834 none
  statics := none }

def pool13 : Array CpInfo := pool [(1, u "java/lang/Cloneable"), (0, .class_ 1), (0, u "java/lang/Object"), (0, .class_ 3)] 3

/-- java/lang/Cloneable -/
def k13 : Class := { plain "java/lang/Cloneable" (some 0) with
  accessFlags := 1537
  interfaces := #[]
  cf := some (fileOf pool13 2 #[] #[] 1537 4 #[] #[])
  fields := #[]
  methods := #[]
  instanceTypes := #[]
  staticTypes := #[]
  resolved := Array.replicate 8 none
  statics := none }

/-- the primitive byte -/
def k14 : Class := { plain "byte" none with kind := .primitive 'B', accessFlags := 0x411 }
/-- [B -/
def k15 : Class := { plain "[B" (some 0) with kind := .array 14 .byte, interfaces := #[13, 2], accessFlags := 1041 }

/-- the primitive int -/
def k16 : Class := { plain "int" none with kind := .primitive 'I', accessFlags := 0x411 }
/-- [I -/
def k17 : Class := { plain "[I" (some 0) with kind := .array 16 .int, interfaces := #[13, 2], accessFlags := 1041 }

/-- [Ljava/lang/Integer; -/
def k18 : Class := { plain "[Ljava/lang/Integer;" (some 0) with kind := .array 7 (.object "java/lang/Integer"), interfaces := #[13, 2], accessFlags := 1041 }

/-- [Ljava/lang/Object; -/
def k19 : Class := { plain "[Ljava/lang/Object;" (some 0) with kind := .array 0 (.object "java/lang/Object"), interfaces := #[13, 2], accessFlags := 1041 }

def heap : Heap := #[{ cls := 8, slots := #[.int 0, .int 127, .ref 3, .null, .int 0], vm := .statics 8 },
  { cls := 10, slots := #[.int 0, .ref 2], vm := .statics 10 },
  { cls := 19, slots := #[], vm := .none },
  { cls := 18, slots := #[.ref 4, .ref 5, .ref 6, .ref 7, .ref 8, .ref 9, .ref 10, .ref 11, .ref 12, .ref 13, .ref 14, .ref 15, .ref 16, .ref 17, .ref 18, .ref 19, .ref 20, .ref 21, .ref 22, .ref 23, .ref 24, .ref 25, .ref 26, .ref 27, .ref 28, .ref 29, .ref 30, .ref 31, .ref 32, .ref 33, .ref 34, .ref 35, .ref 36, .ref 37, .ref 38, .ref 39, .ref 40, .ref 41, .ref 42, .ref 43, .ref 44, .ref 45, .ref 46, .ref 47, .ref 48, .ref 49, .ref 50, .ref 51, .ref 52, .ref 53, .ref 54, .ref 55, .ref 56, .ref 57, .ref 58, .ref 59, .ref 60, .ref 61, .ref 62, .ref 63, .ref 64, .ref 65, .ref 66, .ref 67, .ref 68, .ref 69, .ref 70, .ref 71, .ref 72, .ref 73, .ref 74, .ref 75, .ref 76, .ref 77, .ref 78, .ref 79, .ref 80, .ref 81, .ref 82, .ref 83, .ref 84, .ref 85, .ref 86, .ref 87, .ref 88, .ref 89, .ref 90, .ref 91, .ref 92, .ref 93, .ref 94, .ref 95, .ref 96, .ref 97, .ref 98, .ref 99, .ref 100, .ref 101, .ref 102, .ref 103, .ref 104, .ref 105, .ref 106, .ref 107, .ref 108, .ref 109, .ref 110, .ref 111, .ref 112, .ref 113, .ref 114, .ref 115, .ref 116, .ref 117, .ref 118, .ref 119, .ref 120, .ref 121, .ref 122, .ref 123, .ref 124, .ref 125, .ref 126, .ref 127, .ref 128, .ref 129, .ref 130, .ref 131, .ref 132, .ref 133, .ref 134, .ref 135, .ref 136, .ref 137, .ref 138, .ref 139, .ref 140, .ref 141, .ref 142, .ref 143, .ref 144, .ref 145, .ref 146, .ref 147, .ref 148, .ref 149, .ref 150, .ref 151, .ref 152, .ref 153, .ref 154, .ref 155, .ref 156, .ref 157, .ref 158, .ref 159, .ref 160, .ref 161, .ref 162, .ref 163, .ref 164, .ref 165, .ref 166, .ref 167, .ref 168, .ref 169, .ref 170, .ref 171, .ref 172, .ref 173, .ref 174, .ref 175, .ref 176, .ref 177, .ref 178, .ref 179, .ref 180, .ref 181, .ref 182, .ref 183, .ref 184, .ref 185, .ref 186, .ref 187, .ref 188, .ref 189, .ref 190, .ref 191, .ref 192, .ref 193, .ref 194, .ref 195, .ref 196, .ref 197, .ref 198, .ref 199, .ref 200, .ref 201, .ref 202, .ref 203, .ref 204, .ref 205, .ref 206, .ref 207, .ref 208, .ref 209, .ref 210, .ref 211, .ref 212, .ref 213, .ref 214, .ref 215, .ref 216, .ref 217, .ref 218, .ref 219, .ref 220, .ref 221, .ref 222, .ref 223, .ref 224, .ref 225, .ref 226, .ref 227, .ref 228, .ref 229, .ref 230, .ref 231, .ref 232, .ref 233, .ref 234, .ref 235, .ref 236, .ref 237, .ref 238, .ref 239, .ref 240, .ref 241, .ref 242, .ref 243, .ref 244, .ref 245, .ref 246, .ref 247, .ref 248, .ref 249, .ref 250, .ref 251, .ref 252, .ref 253, .ref 254, .ref 255, .ref 256, .ref 257, .ref 258, .ref 259], vm := .none },
  { cls := 7, slots := #[.int (-128)], vm := .none },
  { cls := 7, slots := #[.int (-127)], vm := .none },
  { cls := 7, slots := #[.int (-126)], vm := .none },
  { cls := 7, slots := #[.int (-125)], vm := .none },
  { cls := 7, slots := #[.int (-124)], vm := .none },
  { cls := 7, slots := #[.int (-123)], vm := .none },
  { cls := 7, slots := #[.int (-122)], vm := .none },
  { cls := 7, slots := #[.int (-121)], vm := .none },
  { cls := 7, slots := #[.int (-120)], vm := .none },
  { cls := 7, slots := #[.int (-119)], vm := .none },
  { cls := 7, slots := #[.int (-118)], vm := .none },
  { cls := 7, slots := #[.int (-117)], vm := .none },
  { cls := 7, slots := #[.int (-116)], vm := .none },
  { cls := 7, slots := #[.int (-115)], vm := .none },
  { cls := 7, slots := #[.int (-114)], vm := .none },
  { cls := 7, slots := #[.int (-113)], vm := .none },
  { cls := 7, slots := #[.int (-112)], vm := .none },
  { cls := 7, slots := #[.int (-111)], vm := .none },
  { cls := 7, slots := #[.int (-110)], vm := .none },
  { cls := 7, slots := #[.int (-109)], vm := .none },
  { cls := 7, slots := #[.int (-108)], vm := .none },
  { cls := 7, slots := #[.int (-107)], vm := .none },
  { cls := 7, slots := #[.int (-106)], vm := .none },
  { cls := 7, slots := #[.int (-105)], vm := .none },
  { cls := 7, slots := #[.int (-104)], vm := .none },
  { cls := 7, slots := #[.int (-103)], vm := .none },
  { cls := 7, slots := #[.int (-102)], vm := .none },
  { cls := 7, slots := #[.int (-101)], vm := .none },
  { cls := 7, slots := #[.int (-100)], vm := .none },
  { cls := 7, slots := #[.int (-99)], vm := .none },
  { cls := 7, slots := #[.int (-98)], vm := .none },
  { cls := 7, slots := #[.int (-97)], vm := .none },
  { cls := 7, slots := #[.int (-96)], vm := .none },
  { cls := 7, slots := #[.int (-95)], vm := .none },
  { cls := 7, slots := #[.int (-94)], vm := .none },
  { cls := 7, slots := #[.int (-93)], vm := .none },
  { cls := 7, slots := #[.int (-92)], vm := .none },
  { cls := 7, slots := #[.int (-91)], vm := .none },
  { cls := 7, slots := #[.int (-90)], vm := .none },
  { cls := 7, slots := #[.int (-89)], vm := .none },
  { cls := 7, slots := #[.int (-88)], vm := .none },
  { cls := 7, slots := #[.int (-87)], vm := .none },
  { cls := 7, slots := #[.int (-86)], vm := .none },
  { cls := 7, slots := #[.int (-85)], vm := .none },
  { cls := 7, slots := #[.int (-84)], vm := .none },
  { cls := 7, slots := #[.int (-83)], vm := .none },
  { cls := 7, slots := #[.int (-82)], vm := .none },
  { cls := 7, slots := #[.int (-81)], vm := .none },
  { cls := 7, slots := #[.int (-80)], vm := .none },
  { cls := 7, slots := #[.int (-79)], vm := .none },
  { cls := 7, slots := #[.int (-78)], vm := .none },
  { cls := 7, slots := #[.int (-77)], vm := .none },
  { cls := 7, slots := #[.int (-76)], vm := .none },
  { cls := 7, slots := #[.int (-75)], vm := .none },
  { cls := 7, slots := #[.int (-74)], vm := .none },
  { cls := 7, slots := #[.int (-73)], vm := .none },
  { cls := 7, slots := #[.int (-72)], vm := .none },
  { cls := 7, slots := #[.int (-71)], vm := .none },
  { cls := 7, slots := #[.int (-70)], vm := .none },
  { cls := 7, slots := #[.int (-69)], vm := .none },
  { cls := 7, slots := #[.int (-68)], vm := .none },
  { cls := 7, slots := #[.int (-67)], vm := .none },
  { cls := 7, slots := #[.int (-66)], vm := .none },
  { cls := 7, slots := #[.int (-65)], vm := .none },
  { cls := 7, slots := #[.int (-64)], vm := .none },
  { cls := 7, slots := #[.int (-63)], vm := .none },
  { cls := 7, slots := #[.int (-62)], vm := .none },
  { cls := 7, slots := #[.int (-61)], vm := .none },
  { cls := 7, slots := #[.int (-60)], vm := .none },
  { cls := 7, slots := #[.int (-59)], vm := .none },
  { cls := 7, slots := #[.int (-58)], vm := .none },
  { cls := 7, slots := #[.int (-57)], vm := .none },
  { cls := 7, slots := #[.int (-56)], vm := .none },
  { cls := 7, slots := #[.int (-55)], vm := .none },
  { cls := 7, slots := #[.int (-54)], vm := .none },
  { cls := 7, slots := #[.int (-53)], vm := .none },
  { cls := 7, slots := #[.int (-52)], vm := .none },
  { cls := 7, slots := #[.int (-51)], vm := .none },
  { cls := 7, slots := #[.int (-50)], vm := .none },
  { cls := 7, slots := #[.int (-49)], vm := .none },
  { cls := 7, slots := #[.int (-48)], vm := .none },
  { cls := 7, slots := #[.int (-47)], vm := .none },
  { cls := 7, slots := #[.int (-46)], vm := .none },
  { cls := 7, slots := #[.int (-45)], vm := .none },
  { cls := 7, slots := #[.int (-44)], vm := .none },
  { cls := 7, slots := #[.int (-43)], vm := .none },
  { cls := 7, slots := #[.int (-42)], vm := .none },
  { cls := 7, slots := #[.int (-41)], vm := .none },
  { cls := 7, slots := #[.int (-40)], vm := .none },
  { cls := 7, slots := #[.int (-39)], vm := .none },
  { cls := 7, slots := #[.int (-38)], vm := .none },
  { cls := 7, slots := #[.int (-37)], vm := .none },
  { cls := 7, slots := #[.int (-36)], vm := .none },
  { cls := 7, slots := #[.int (-35)], vm := .none },
  { cls := 7, slots := #[.int (-34)], vm := .none },
  { cls := 7, slots := #[.int (-33)], vm := .none },
  { cls := 7, slots := #[.int (-32)], vm := .none },
  { cls := 7, slots := #[.int (-31)], vm := .none },
  { cls := 7, slots := #[.int (-30)], vm := .none },
  { cls := 7, slots := #[.int (-29)], vm := .none },
  { cls := 7, slots := #[.int (-28)], vm := .none },
  { cls := 7, slots := #[.int (-27)], vm := .none },
  { cls := 7, slots := #[.int (-26)], vm := .none },
  { cls := 7, slots := #[.int (-25)], vm := .none },
  { cls := 7, slots := #[.int (-24)], vm := .none },
  { cls := 7, slots := #[.int (-23)], vm := .none },
  { cls := 7, slots := #[.int (-22)], vm := .none },
  { cls := 7, slots := #[.int (-21)], vm := .none },
  { cls := 7, slots := #[.int (-20)], vm := .none },
  { cls := 7, slots := #[.int (-19)], vm := .none },
  { cls := 7, slots := #[.int (-18)], vm := .none },
  { cls := 7, slots := #[.int (-17)], vm := .none },
  { cls := 7, slots := #[.int (-16)], vm := .none },
  { cls := 7, slots := #[.int (-15)], vm := .none },
  { cls := 7, slots := #[.int (-14)], vm := .none },
  { cls := 7, slots := #[.int (-13)], vm := .none },
  { cls := 7, slots := #[.int (-12)], vm := .none },
  { cls := 7, slots := #[.int (-11)], vm := .none },
  { cls := 7, slots := #[.int (-10)], vm := .none },
  { cls := 7, slots := #[.int (-9)], vm := .none },
  { cls := 7, slots := #[.int (-8)], vm := .none },
  { cls := 7, slots := #[.int (-7)], vm := .none },
  { cls := 7, slots := #[.int (-6)], vm := .none },
  { cls := 7, slots := #[.int (-5)], vm := .none },
  { cls := 7, slots := #[.int (-4)], vm := .none },
  { cls := 7, slots := #[.int (-3)], vm := .none },
  { cls := 7, slots := #[.int (-2)], vm := .none },
  { cls := 7, slots := #[.int (-1)], vm := .none },
  { cls := 7, slots := #[.int 0], vm := .none },
  { cls := 7, slots := #[.int 1], vm := .none },
  { cls := 7, slots := #[.int 2], vm := .none },
  { cls := 7, slots := #[.int 3], vm := .none },
  { cls := 7, slots := #[.int 4], vm := .none },
  { cls := 7, slots := #[.int 5], vm := .none },
  { cls := 7, slots := #[.int 6], vm := .none },
  { cls := 7, slots := #[.int 7], vm := .none },
  { cls := 7, slots := #[.int 8], vm := .none },
  { cls := 7, slots := #[.int 9], vm := .none },
  { cls := 7, slots := #[.int 10], vm := .none },
  { cls := 7, slots := #[.int 11], vm := .none },
  { cls := 7, slots := #[.int 12], vm := .none },
  { cls := 7, slots := #[.int 13], vm := .none },
  { cls := 7, slots := #[.int 14], vm := .none },
  { cls := 7, slots := #[.int 15], vm := .none },
  { cls := 7, slots := #[.int 16], vm := .none },
  { cls := 7, slots := #[.int 17], vm := .none },
  { cls := 7, slots := #[.int 18], vm := .none },
  { cls := 7, slots := #[.int 19], vm := .none },
  { cls := 7, slots := #[.int 20], vm := .none },
  { cls := 7, slots := #[.int 21], vm := .none },
  { cls := 7, slots := #[.int 22], vm := .none },
  { cls := 7, slots := #[.int 23], vm := .none },
  { cls := 7, slots := #[.int 24], vm := .none },
  { cls := 7, slots := #[.int 25], vm := .none },
  { cls := 7, slots := #[.int 26], vm := .none },
  { cls := 7, slots := #[.int 27], vm := .none },
  { cls := 7, slots := #[.int 28], vm := .none },
  { cls := 7, slots := #[.int 29], vm := .none },
  { cls := 7, slots := #[.int 30], vm := .none },
  { cls := 7, slots := #[.int 31], vm := .none },
  { cls := 7, slots := #[.int 32], vm := .none },
  { cls := 7, slots := #[.int 33], vm := .none },
  { cls := 7, slots := #[.int 34], vm := .none },
  { cls := 7, slots := #[.int 35], vm := .none },
  { cls := 7, slots := #[.int 36], vm := .none },
  { cls := 7, slots := #[.int 37], vm := .none },
  { cls := 7, slots := #[.int 38], vm := .none },
  { cls := 7, slots := #[.int 39], vm := .none },
  { cls := 7, slots := #[.int 40], vm := .none },
  { cls := 7, slots := #[.int 41], vm := .none },
  { cls := 7, slots := #[.int 42], vm := .none },
  { cls := 7, slots := #[.int 43], vm := .none },
  { cls := 7, slots := #[.int 44], vm := .none },
  { cls := 7, slots := #[.int 45], vm := .none },
  { cls := 7, slots := #[.int 46], vm := .none },
  { cls := 7, slots := #[.int 47], vm := .none },
  { cls := 7, slots := #[.int 48], vm := .none },
  { cls := 7, slots := #[.int 49], vm := .none },
  { cls := 7, slots := #[.int 50], vm := .none },
  { cls := 7, slots := #[.int 51], vm := .none },
  { cls := 7, slots := #[.int 52], vm := .none },
  { cls := 7, slots := #[.int 53], vm := .none },
  { cls := 7, slots := #[.int 54], vm := .none },
  { cls := 7, slots := #[.int 55], vm := .none },
  { cls := 7, slots := #[.int 56], vm := .none },
  { cls := 7, slots := #[.int 57], vm := .none },
  { cls := 7, slots := #[.int 58], vm := .none },
  { cls := 7, slots := #[.int 59], vm := .none },
  { cls := 7, slots := #[.int 60], vm := .none },
  { cls := 7, slots := #[.int 61], vm := .none },
  { cls := 7, slots := #[.int 62], vm := .none },
  { cls := 7, slots := #[.int 63], vm := .none },
  { cls := 7, slots := #[.int 64], vm := .none },
  { cls := 7, slots := #[.int 65], vm := .none },
  { cls := 7, slots := #[.int 66], vm := .none },
  { cls := 7, slots := #[.int 67], vm := .none },
  { cls := 7, slots := #[.int 68], vm := .none },
  { cls := 7, slots := #[.int 69], vm := .none },
  { cls := 7, slots := #[.int 70], vm := .none },
  { cls := 7, slots := #[.int 71], vm := .none },
  { cls := 7, slots := #[.int 72], vm := .none },
  { cls := 7, slots := #[.int 73], vm := .none },
  { cls := 7, slots := #[.int 74], vm := .none },
  { cls := 7, slots := #[.int 75], vm := .none },
  { cls := 7, slots := #[.int 76], vm := .none },
  { cls := 7, slots := #[.int 77], vm := .none },
  { cls := 7, slots := #[.int 78], vm := .none },
  { cls := 7, slots := #[.int 79], vm := .none },
  { cls := 7, slots := #[.int 80], vm := .none },
  { cls := 7, slots := #[.int 81], vm := .none },
  { cls := 7, slots := #[.int 82], vm := .none },
  { cls := 7, slots := #[.int 83], vm := .none },
  { cls := 7, slots := #[.int 84], vm := .none },
  { cls := 7, slots := #[.int 85], vm := .none },
  { cls := 7, slots := #[.int 86], vm := .none },
  { cls := 7, slots := #[.int 87], vm := .none },
  { cls := 7, slots := #[.int 88], vm := .none },
  { cls := 7, slots := #[.int 89], vm := .none },
  { cls := 7, slots := #[.int 90], vm := .none },
  { cls := 7, slots := #[.int 91], vm := .none },
  { cls := 7, slots := #[.int 92], vm := .none },
  { cls := 7, slots := #[.int 93], vm := .none },
  { cls := 7, slots := #[.int 94], vm := .none },
  { cls := 7, slots := #[.int 95], vm := .none },
  { cls := 7, slots := #[.int 96], vm := .none },
  { cls := 7, slots := #[.int 97], vm := .none },
  { cls := 7, slots := #[.int 98], vm := .none },
  { cls := 7, slots := #[.int 99], vm := .none },
  { cls := 7, slots := #[.int 100], vm := .none },
  { cls := 7, slots := #[.int 101], vm := .none },
  { cls := 7, slots := #[.int 102], vm := .none },
  { cls := 7, slots := #[.int 103], vm := .none },
  { cls := 7, slots := #[.int 104], vm := .none },
  { cls := 7, slots := #[.int 105], vm := .none },
  { cls := 7, slots := #[.int 106], vm := .none },
  { cls := 7, slots := #[.int 107], vm := .none },
  { cls := 7, slots := #[.int 108], vm := .none },
  { cls := 7, slots := #[.int 109], vm := .none },
  { cls := 7, slots := #[.int 110], vm := .none },
  { cls := 7, slots := #[.int 111], vm := .none },
  { cls := 7, slots := #[.int 112], vm := .none },
  { cls := 7, slots := #[.int 113], vm := .none },
  { cls := 7, slots := #[.int 114], vm := .none },
  { cls := 7, slots := #[.int 115], vm := .none },
  { cls := 7, slots := #[.int 116], vm := .none },
  { cls := 7, slots := #[.int 117], vm := .none },
  { cls := 7, slots := #[.int 118], vm := .none },
  { cls := 7, slots := #[.int 119], vm := .none },
  { cls := 7, slots := #[.int 120], vm := .none },
  { cls := 7, slots := #[.int 121], vm := .none },
  { cls := 7, slots := #[.int 122], vm := .none },
  { cls := 7, slots := #[.int 123], vm := .none },
  { cls := 7, slots := #[.int 124], vm := .none },
  { cls := 7, slots := #[.int 125], vm := .none },
  { cls := 7, slots := #[.int 126], vm := .none },
  { cls := 7, slots := #[.int 127], vm := .none }]
def classes : Array Class := #[k0, k1, k2, k3, k4, k5, k6, k7, k8, k9, k10, k11, k12, k13, k14, k15, k16, k17, k18, k19]
def interned : List (Array UInt16 × Addr) := []
def slotsUsed : Nat := 519
def theMethod : MethodId := ⟨1, 2⟩
def args0 : Array Value := #[.int 5, .int 5, .int 5, .int 5]
def aboutOver (below : List Frame) : State where
  vm := { classes := classes, interned := interned.toArray }
  heap := heap
  slotsUsed := slotsUsed
  threads := #[{ frames := .invoking theMethod args0 :: below }]
def below0 : List Frame := [.native { method := ⟨0, 0⟩, args := #[] }]
def about1 : State := aboutOver below0
def p0 : Program := .bare "" "" ""
def e0 : Env := launch0.env 0 0 0
theorem w_frames : about1.frames = Frame.invoking theMethod args0 :: below0 := rfl
set_option maxRecDepth 65536 in
theorem w_args : argsFit about1.vm theMethod args0 = true := by decide +kernel
set_option maxRecDepth 65536 in
theorem w_heap : heapFits about1 = true := by decide +kernel
set_option maxRecDepth 65536 in
theorem w_runnable : about1.curStatus? = some .runnable := by decide +kernel
set_option maxRecDepth 65536 in
theorem w_alone : about1.alone = true := by decide +kernel
set_option maxRecDepth 65536 in
theorem w_named : about1.methodNamed? x = some theMethod := by decide +kernel
set_option maxRecDepth 65536 in
theorem w_hears : about1.hears theMethod below0 = true := by decide +kernel
set_option maxRecDepth 65536 in
theorem w_ripe : about1.ripe theMethod args0 below0 = true := by decide +kernel
theorem w_running : about1.status = .running := rfl
set_option maxRecDepth 65536 in
theorem w_room : about1.hasRoom e0.platform room_1 = true :=
  launch0.hasRoom_least _ room_1 (by decide +kernel) (by decide +kernel) (by decide +kernel) (by decide +kernel) (by decide +kernel) (by decide +kernel)
theorem allAtoms_all (ts : List Jvm.Cond) (a : Array Jvm.Value) (st : Jvm.State) : (allAtoms ts).before a st = ts.all (fun c => c.before a st) := by
  induction ts with
  | nil => rfl
  | cons c t ih =>
    show (Jvm.Cond.and c (allAtoms t)).before a st = _
    rw [Jvm.Cond.before_and, ih, List.all_cons]
def words1 : List Jvm.Cond := Jvm.Cond.code x code maxLocals ret :: tables_1
/-- a 'code' word, met by the world's own term for the bytes: nothing is compared byte by byte -/
theorem code_word {y : MethodName} {bytes : ByteArray} {mx : Nat} {rt : Option FieldType} {a : Array Value} {s : State} {m : MethodId} {meth : Method} {c : Code} (h1 : s.methodNamed? y = some m) (h2 : s.vm.method? m = some meth) (h3 : meth.code = some c) (h4 : c.code = bytes)
    (h5 : (c.maxLocals == mx && c.exceptionTable.isEmpty && decide (c.maxStack ≤ mostOperands) && decide (meth.sig.returnType = rt) && !meth.locks && decide (parseMethodDescriptor y.desc = some meth.sig)) = true) : (Jvm.Cond.code y bytes mx rt).before a s = true := by
  simp only [Bool.and_eq_true, beq_iff_eq, Bool.not_eq_true', decide_eq_true_eq] at h5
  obtain ⟨⟨⟨⟨⟨g1, g2⟩, g3⟩, g4⟩, g5⟩, g6⟩ := h5
  simp [Cond.before, Cond.holds, Cond.value, h1, h2, h3, h4, g1, g2, g3, g4, g5, g6]
def isCode : Jvm.Cond → Bool
  | .code _ _ _ _ => true
  | _ => false
theorem all_split {L : List Jvm.Cond} {P : Jvm.Cond → Bool} (h1 : L.all (fun c => isCode c || P c) = true) (h2 : ∀ c ∈ L.filter isCode, P c = true) : L.all P = true := by
  refine List.all_eq_true.mpr fun c hc => ?_
  have h := List.all_eq_true.mp h1 c hc
  rcases Bool.eq_false_or_eq_true (isCode c) with hi | hi
  · exact h2 c (List.mem_filter.mpr ⟨hc, hi⟩)
  · simpa [hi] using h
set_option maxRecDepth 65536 in
theorem w_c0 : (Jvm.Cond.code x code maxLocals ret).before args0 about1 = true := code_word (m := ⟨1, 2⟩) (meth := k1m2) (c := k1c2) (by decide +kernel) rfl rfl rfl (by decide +kernel)
set_option maxRecDepth 65536 in
theorem w_c1 : (Jvm.Cond.code ({ cls := "java/lang/Integer", name := "valueOf", desc := "(I)Ljava/lang/Integer;" } : Jvm.MethodName) jdk_33_method_22_code (1 : Nat) (Option.some (Jvm.ClassFile.FieldType.object "java/lang/Integer"))).before args0 about1 = true := code_word (m := ⟨7, 0⟩) (meth := k7m0) (c := k7c0) (by decide +kernel) rfl rfl rfl (by decide +kernel)
set_option maxRecDepth 65536 in
theorem w_c2 : (Jvm.Cond.code ({ cls := "com/example/roundel/roundel/dag/ItemArray", name := "<init>", desc := "()V" } : Jvm.MethodName) prog_20_method_1_code (1 : Nat) (Option.none : Option Jvm.ClassFile.FieldType)).before args0 about1 = true := code_word (m := ⟨10, 0⟩) (meth := k10m0) (c := k10c0) (by decide +kernel) rfl rfl rfl (by decide +kernel)
set_option maxRecDepth 65536 in
theorem w_c3 : (Jvm.Cond.code ({ cls := "java/lang/Object", name := "<init>", desc := "()V" } : Jvm.MethodName) object_method_1_code (1 : Nat) (Option.none : Option Jvm.ClassFile.FieldType)).before args0 about1 = true := code_word (m := ⟨0, 0⟩) (meth := k0m0) (c := k0c0) (by decide +kernel) rfl rfl rfl (by decide +kernel)
set_option maxRecDepth 65536 in
theorem w_c4 : (Jvm.Cond.code ({ cls := "java/lang/Math", name := "max", desc := "(II)I" } : Jvm.MethodName) jdk_29_method_65_code (2 : Nat) (Option.some Jvm.ClassFile.FieldType.int)).before args0 about1 = true := code_word (m := ⟨11, 1⟩) (meth := k11m1) (c := k11c1) (by decide +kernel) rfl rfl rfl (by decide +kernel)
set_option maxRecDepth 65536 in
theorem w_c5 : (Jvm.Cond.code ({ cls := "com/example/roundel/roundel/dag/ItemArray", name := "size", desc := "()I" } : Jvm.MethodName) prog_20_method_6_code (1 : Nat) (Option.some Jvm.ClassFile.FieldType.int)).before args0 about1 = true := code_word (m := ⟨10, 3⟩) (meth := k10m3) (c := k10c3) (by decide +kernel) rfl rfl rfl (by decide +kernel)
set_option maxRecDepth 65536 in
theorem w_c6 : (Jvm.Cond.code ({ cls := "com/example/roundel/roundel/dag/ItemArray", name := "peek", desc := "()Ljava/lang/Object;" } : Jvm.MethodName) prog_20_method_3_code (1 : Nat) (Option.some (Jvm.ClassFile.FieldType.object "java/lang/Object"))).before args0 about1 = true := code_word (m := ⟨10, 1⟩) (meth := k10m1) (c := k10c1) (by decide +kernel) rfl rfl rfl (by decide +kernel)
set_option maxRecDepth 65536 in
theorem w_c7 : (Jvm.Cond.code ({ cls := "com/example/roundel/roundel/dag/ItemArrayPollPinLaw", name := "expected", desc := "(IILjava/lang/Object;Ljava/lang/Object;Ljava/lang/Object;)Ljava/lang/Object;" } : Jvm.MethodName) method_2_code (5 : Nat) (Option.some (Jvm.ClassFile.FieldType.object "java/lang/Object"))).before args0 about1 = true := code_word (m := ⟨1, 1⟩) (meth := k1m1) (c := k1c1) (by decide +kernel) rfl rfl rfl (by decide +kernel)
set_option maxRecDepth 65536 in
theorem w_c8 : (Jvm.Cond.code ({ cls := "com/example/roundel/roundel/dag/ItemArray", name := "poll", desc := "()Ljava/lang/Object;" } : Jvm.MethodName) prog_20_method_4_code (2 : Nat) (Option.some (Jvm.ClassFile.FieldType.object "java/lang/Object"))).before args0 about1 = true := code_word (m := ⟨10, 2⟩) (meth := k10m2) (c := k10c2) (by decide +kernel) rfl rfl rfl (by decide +kernel)
set_option maxRecDepth 65536 in
theorem w_c9 : (Jvm.Cond.code ({ cls := "java/lang/Integer", name := "<init>", desc := "(I)V" } : Jvm.MethodName) jdk_33_method_23_code (2 : Nat) (Option.none : Option Jvm.ClassFile.FieldType)).before args0 about1 = true := code_word (m := ⟨7, 1⟩) (meth := k7m1) (c := k7c1) (by decide +kernel) rfl rfl rfl (by decide +kernel)
set_option maxRecDepth 65536 in
theorem w_c10 : (Jvm.Cond.code ({ cls := "java/lang/Number", name := "<init>", desc := "()V" } : Jvm.MethodName) jdk_18_method_1_code (1 : Nat) (Option.none : Option Jvm.ClassFile.FieldType)).before args0 about1 = true := code_word (m := ⟨3, 0⟩) (meth := k3m0) (c := k3c0) (by decide +kernel) rfl rfl rfl (by decide +kernel)
set_option maxRecDepth 65536 in
theorem w_c11 : (Jvm.Cond.code ({ cls := "com/example/roundel/roundel/dag/ItemArray", name := "add", desc := "(Ljava/lang/Object;)V" } : Jvm.MethodName) prog_20_method_7_code (2 : Nat) (Option.none : Option Jvm.ClassFile.FieldType)).before args0 about1 = true := code_word (m := ⟨10, 4⟩) (meth := k10m4) (c := k10c4) (by decide +kernel) rfl rfl rfl (by decide +kernel)
set_option maxRecDepth 65536 in
theorem w_c12 : (Jvm.Cond.code ({ cls := "com/example/roundel/roundel/dag/ItemArray", name := "makeRoom", desc := "(I)V" } : Jvm.MethodName) prog_20_method_12_code (5 : Nat) (Option.none : Option Jvm.ClassFile.FieldType)).before args0 about1 = true := code_word (m := ⟨10, 5⟩) (meth := k10m5) (c := k10c5) (by decide +kernel) rfl rfl rfl (by decide +kernel)
def codes1 : List Jvm.Cond := [Jvm.Cond.code x code maxLocals ret, Jvm.Cond.code ({ cls := "java/lang/Integer", name := "valueOf", desc := "(I)Ljava/lang/Integer;" } : Jvm.MethodName) jdk_33_method_22_code (1 : Nat) (Option.some (Jvm.ClassFile.FieldType.object "java/lang/Integer")), Jvm.Cond.code ({ cls := "com/example/roundel/roundel/dag/ItemArray", name := "<init>", desc := "()V" } : Jvm.MethodName) prog_20_method_1_code (1 : Nat) (Option.none : Option Jvm.ClassFile.FieldType), Jvm.Cond.code ({ cls := "java/lang/Object", name := "<init>", desc := "()V" } : Jvm.MethodName) object_method_1_code (1 : Nat) (Option.none : Option Jvm.ClassFile.FieldType), Jvm.Cond.code ({ cls := "java/lang/Math", name := "max", desc := "(II)I" } : Jvm.MethodName) jdk_29_method_65_code (2 : Nat) (Option.some Jvm.ClassFile.FieldType.int), Jvm.Cond.code ({ cls := "com/example/roundel/roundel/dag/ItemArray", name := "size", desc := "()I" } : Jvm.MethodName) prog_20_method_6_code (1 : Nat) (Option.some Jvm.ClassFile.FieldType.int), Jvm.Cond.code ({ cls := "com/example/roundel/roundel/dag/ItemArray", name := "peek", desc := "()Ljava/lang/Object;" } : Jvm.MethodName) prog_20_method_3_code (1 : Nat) (Option.some (Jvm.ClassFile.FieldType.object "java/lang/Object")), Jvm.Cond.code ({ cls := "com/example/roundel/roundel/dag/ItemArrayPollPinLaw", name := "expected", desc := "(IILjava/lang/Object;Ljava/lang/Object;Ljava/lang/Object;)Ljava/lang/Object;" } : Jvm.MethodName) method_2_code (5 : Nat) (Option.some (Jvm.ClassFile.FieldType.object "java/lang/Object")), Jvm.Cond.code ({ cls := "com/example/roundel/roundel/dag/ItemArray", name := "poll", desc := "()Ljava/lang/Object;" } : Jvm.MethodName) prog_20_method_4_code (2 : Nat) (Option.some (Jvm.ClassFile.FieldType.object "java/lang/Object")), Jvm.Cond.code ({ cls := "java/lang/Integer", name := "<init>", desc := "(I)V" } : Jvm.MethodName) jdk_33_method_23_code (2 : Nat) (Option.none : Option Jvm.ClassFile.FieldType), Jvm.Cond.code ({ cls := "java/lang/Number", name := "<init>", desc := "()V" } : Jvm.MethodName) jdk_18_method_1_code (1 : Nat) (Option.none : Option Jvm.ClassFile.FieldType), Jvm.Cond.code ({ cls := "com/example/roundel/roundel/dag/ItemArray", name := "add", desc := "(Ljava/lang/Object;)V" } : Jvm.MethodName) prog_20_method_7_code (2 : Nat) (Option.none : Option Jvm.ClassFile.FieldType), Jvm.Cond.code ({ cls := "com/example/roundel/roundel/dag/ItemArray", name := "makeRoom", desc := "(I)V" } : Jvm.MethodName) prog_20_method_12_code (5 : Nat) (Option.none : Option Jvm.ClassFile.FieldType)]
set_option maxRecDepth 65536 in
theorem codes_eq : words1.filter isCode = codes1 := rfl
theorem w_codes : ∀ c ∈ words1.filter isCode, c.before args0 about1 = true := by
  rw [codes_eq]
  intro c hc
  simp only [codes1, List.mem_cons, List.not_mem_nil, or_false] at hc
  rcases hc with rfl | rfl | rfl | rfl | rfl | rfl | rfl | rfl | rfl | rfl | rfl | rfl | rfl
  · exact w_c0
  · exact w_c1
  · exact w_c2
  · exact w_c3
  · exact w_c4
  · exact w_c5
  · exact w_c6
  · exact w_c7
  · exact w_c8
  · exact w_c9
  · exact w_c10
  · exact w_c11
  · exact w_c12
set_option maxRecDepth 65536 in
theorem w_t1 : (words1.take 24).all (fun c => isCode c || c.before args0 about1) = true := by decide +kernel
set_option maxRecDepth 65536 in
theorem w_t2 : ((words1.drop 24).take 24).all (fun c => isCode c || c.before args0 about1) = true := by decide +kernel
set_option maxRecDepth 65536 in
theorem w_t3 : (((words1.drop 24).drop 24).take 24).all (fun c => isCode c || c.before args0 about1) = true := by decide +kernel
set_option maxRecDepth 65536 in
theorem w_t4 : (((words1.drop 24).drop 24).drop 24).all (fun c => isCode c || c.before args0 about1) = true := by decide +kernel
theorem w_tables : (allAtoms (Jvm.Cond.code x code maxLocals ret :: tables_1)).before args0 about1 = true := by
  rw [allAtoms_all]
  show words1.all (fun c => c.before args0 about1) = true
  refine all_split ?_ w_codes
  rw [← List.take_append_drop 24 words1, List.all_append, w_t1, ← List.take_append_drop 24 (words1.drop 24), List.all_append, w_t2, ← List.take_append_drop 24 ((words1.drop 24).drop 24), List.all_append, w_t3, w_t4]
  rfl
set_option maxRecDepth 65536 in
theorem w_rest : rest_1_c.before args0 about1 = true := by decide +kernel
set_option maxRecDepth 65536 in
theorem w_case : (Jvm.Cond.and given_1 narrow_1).before args0 about1 = true := by decide +kernel
theorem w_applies : (headSpec (Jvm.Cond.code x code maxLocals ret :: tables_1) room_1).applies x e0.platform about1 = true :=
  (Spec.applies_iff w_frames).mpr ⟨w_running, w_runnable, w_alone, w_named, w_hears, w_ripe, w_room, w_tables⟩
theorem atStart : AtStart classFile x code maxLocals ret World_1 tables_1 room_1 Calls_1 rest_1 Pre_1 launch0 p0 e0 about1 theMethod args0 below0 :=
  ⟨lists_1, trivial, launch0.admits_env _ _ _, launch0.least_env, fairChoices_fair.cas, fairChoices_fair.clock, w_frames, w_args, w_heap, w_applies, trivial, w_rest, w_case⟩
end start1
theorem witness_1 : WitnessClaimed_1 := ⟨start1.p0, start1.e0, start1.about1, start1.theMethod, start1.args0, start1.below0, start1.atStart⟩
end Jvm.Pilot.@@N@@
