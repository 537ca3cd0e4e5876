import JvmDerived
import JvmDerived.Pilot.@@N@@Statement
import JvmDerived.Pilot.@@N@@Code
set_option linter.unusedVariables false
set_option linter.unusedSimpArgs false
namespace Jvm.OwnKit
open Sem ClassFile Op Lib Jvm.Stand Jvm.Free Jvm.LawKit Jvm.RoadKit
/-- from S on the body comes back, and F says how -/
def Run (p : Program) (e : Env) (below : List Frame) (F : Outcome → State → Prop) (S : State) : Prop :=
  ∃ s₂ o, Steps p.tables e below S s₂ ∧ s₂.status = .running ∧ Ended s₂ below o ∧ F o s₂
def Nar (s : State) (rm : Room) (Q : Option Value → Heap → List Loc → Prop) (o : Outcome) (t : State) : Prop := ∃ v L, o = .returned v ∧ Q v t.heap L ∧ FrameEnd s o t L rm.cells rm.slots
/-- a body's contract at these arguments and this heap -/
def Ctr (l : Launch) (Z : State) (y : MethodName) (bytes : ByteArray) (maxL : Nat) (ret : Option FieldType) (rm : Room) (as : Array Value) (h0 : Heap) (Q : Option Value → Heap → List Loc → Prop) : Prop :=
  ∀ ws : List Jvm.Cond, MetFree l y (head1 (Jvm.Cond.code y bytes maxL ret :: ws) rm) (fun a U => a = as ∧ Z.Warmed39 U.vm ∧ U.heap = h0) (fun _ _ _ _ _ => True) (fun _ U o U' => ∃ v L, o = .returned v ∧ Q v U'.heap L ∧ FrameEnd U o U' L rm.cells rm.slots)
theorem Ctr.body {l : Launch} {Z : State} {y : MethodName} {bytes : ByteArray} {maxL : Nat} {ret : Option FieldType} {rm : Room} {as : Array Value} {h0 : Heap} {Q : Option Value → Heap → List Loc → Prop} (hp : plainFor y = true)
    (body : ∀ (p : Program) (e : Env) (s : State) (m : MethodId) (below : List Frame) (meth : Method) (c : Code) (T : State), Stand p l e rm s m as below meth c T [] 0 0 → p.tables.exec = Jvm.exec → c.code = bytes → c.maxLocals = maxL → s.vm.findClass y.cls = some m.cls → meth.name = y.name → meth.sig.returnType = ret → meth.locks = false → Z.Warmed39 s.vm → T.heap = h0 → Run p e below (Nar s rm Q) (T.setTop (entryFrame m as maxL))) :
    Ctr l Z y bytes maxL ret rm as h0 Q := by
  intro ws
  refine MetFree.of_bodySF hp hisR ?_
  intro p e s m args below meth c s₁ Bd hml hP hK
  obtain ⟨rfl, hZ, hh⟩ := hP
  exact body p e s m below meth c s₁ (Stand.of_body Bd) Bd.exec Bd.bytes hml (findClass_of_methodNamed Bd.named) (name_of_methodNamed Bd.named Bd.method).1 Bd.returns (BodyLoose.notSynchronized Bd) hZ (by rw [← hh, Bd.state]; rfl)
section Walk
variable {p : Program} {l : Launch} {e : Env} {R : Room} {s : State} {m : MethodId} {args : Array Value} {below : List Frame} {meth : Method} {c : Code} {T : State} {locs : List Loc} {cells slots : Nat} {Z : State} {a0 : Array Value} {h h' h1 h2 : Heap} {Q : Option Value → Heap → List Loc → Prop} {F : Outcome → State → Prop}
theorem Run.via {S S' : State} (f : ∀ t, Steps p.tables e below S' t → Steps p.tables e below S t) (k : Run p e below F S') : Run p e below F S := by
  obtain ⟨s₂, o, q1, q2⟩ := k
  exact ⟨s₂, o, f _ q1, q2⟩
theorem Run.cast {g g' : JFrame} (q : g = g') (k : Run p e below F (T.setTop g')) : Run p e below F (T.setTop g) := q ▸ k
theorem Run.ret (X : Stand p l e R s m args below meth c T locs cells slots) (hx : p.tables.exec = Jvm.exec) (hlk : meth.locks = false) {pc : Nat} {Ls : Array Slot} {w : Value} {t : FieldType} {i : Instr} {rest : List Value} (hret : meth.sig.returnType = some t) (hd : decode c.code pc = .ok (i, 1)) (hn : narrow t w = w)
    (hi : (i = .ireturn ∧ (t = .int ∨ t = .boolean ∨ t = .byte ∨ t = .char ∨ t = .short) ∧ ∃ z, w = .int z) ∨ (i = .lreturn ∧ t = .long ∧ ∃ z, w = .long z) ∨ (i = .dreturn ∧ t = .double ∧ ∃ z, w = .double z) ∨ (i = .freturn ∧ t = .float ∧ ∃ z, w = .float z) ∨ (i = .areturn ∧ t.isReference = true ∧ w.isRef = true))
    (hc : cells ≤ R.cells) (hs : slots ≤ R.slots) (hq : Q (some w) T.heap locs) : Run p e below (Nar s R Q) (T.setTop (mkF m pc Ls (w :: rest))) := by
  obtain ⟨fs, hr, hrun, hended, hW, hsame⟩ := X.leave (v := some w) (fun q => by rw [hret] at q; cases q) hlk
  exact ⟨_, _, retOut X hx hret hn hi hd hr, hrun, hended, _, _, rfl, hq, ⟨_, rfl⟩, hW, hsame.mono hc hs⟩
theorem Run.retB (X : Stand p l e R s m args below meth c T locs cells slots) (hx : p.tables.exec = Jvm.exec) (hlk : meth.locks = false) {pc : Nat} {Ls : Array Slot} {z : Int32} {rest : List Value} (hret : meth.sig.returnType = some .boolean) (hd : decode c.code pc = .ok (.ireturn, 1)) (hn : narrow .boolean (.int z) = .int z)
    (hc : cells ≤ R.cells) (hs : slots ≤ R.slots) (hq : Q (some (.int z)) T.heap locs) : Run p e below (Nar s R Q) (T.setTop (mkF m pc Ls (.int z :: rest))) :=
  Run.ret X hx hlk hret hd hn (Or.inl ⟨rfl, Or.inr (Or.inl rfl), z, rfl⟩) hc hs hq
theorem Run.retI (X : Stand p l e R s m args below meth c T locs cells slots) (hx : p.tables.exec = Jvm.exec) (hlk : meth.locks = false) {pc : Nat} {Ls : Array Slot} {z : Int32} {rest : List Value} (hret : meth.sig.returnType = some .int) (hd : decode c.code pc = .ok (.ireturn, 1))
    (hc : cells ≤ R.cells) (hs : slots ≤ R.slots) (hq : Q (some (.int z)) T.heap locs) : Run p e below (Nar s R Q) (T.setTop (mkF m pc Ls (.int z :: rest))) :=
  Run.ret X hx hlk hret hd rfl (Or.inl ⟨rfl, Or.inl rfl, z, rfl⟩) hc hs hq
theorem narrow_ref {t : FieldType} {w : Value} (h : w.isRef = true) : narrow t w = w := by
  cases w <;> simp [Value.isRef] at h <;> cases t <;> rfl
theorem Run.retR (X : Stand p l e R s m args below meth c T locs cells slots) (hx : p.tables.exec = Jvm.exec) (hlk : meth.locks = false) {pc : Nat} {Ls : Array Slot} {w : Value} {t : FieldType} {rest : List Value} (hret : meth.sig.returnType = some t) (hd : decode c.code pc = .ok (.areturn, 1)) (ht : t.isReference = true) (hw : w.isRef = true)
    (hc : cells ≤ R.cells) (hs : slots ≤ R.slots) (hq : Q (some w) T.heap locs) : Run p e below (Nar s R Q) (T.setTop (mkF m pc Ls (w :: rest))) :=
  Run.ret X hx hlk hret hd (narrow_ref hw) (Or.inr (Or.inr (Or.inr (Or.inr ⟨rfl, ht, hw⟩)))) hc hs hq
theorem Run.retV (X : Stand p l e R s m args below meth c T locs cells slots) (hx : p.tables.exec = Jvm.exec) (hlk : meth.locks = false) {pc : Nat} {Ls : Array Slot} (hret : meth.sig.returnType = none) (hd : decode c.code pc = .ok (.return_, 1))
    (hc : cells ≤ R.cells) (hs : slots ≤ R.slots) (hq : Q none T.heap locs) : Run p e below (Nar s R Q) (T.setTop (mkF m pc Ls [])) := by
  obtain ⟨fs, hr, hrun, hended, hW, hsame⟩ := X.leave (v := none) (fun _ => rfl) hlk
  exact ⟨_, _, X.returnOut hx hret hd hr, hrun, hended, _, _, rfl, hq, ⟨_, rfl⟩, hW, hsame.mono hc hs⟩
/-- a static callee by its contract -/
theorem callC (X : Stand p l e R s m args below meth c T locs cells slots) (hx : p.tables.exec = Jvm.exec) (hZ : Z.Warmed39 s.vm) {own : String} {index : Nat} {y : MethodName} {bytes : ByteArray} {maxL : Nat} {ret : Option FieldType} {rm : Room} {P : Option Value → Heap → List Loc → Prop} (hown : s.vm.findClass own = some m.cls)
    (w1 : (Cond.methodLink own index y).before a0 Z = true) (w2 : (Cond.static y).before a0 Z = true) (w3 : (Cond.initialized y.cls).before a0 Z = true) (w4 : (Cond.code y bytes maxL ret).before a0 Z = true) (hy : y.cls ≠ "java/lang/invoke/MethodHandle" ∧ y.cls ≠ "java/lang/invoke/VarHandle")
    (eT : T.heap = h) {argsL rest : List Value} (K : Ctr l Z y bytes maxL ret rm argsL.toArray h P) {g : JFrame} (hg : g.method = m) (hsize : g.locals.size = c.maxLocals) (hs : g.stack = argsL.reverse ++ rest) (hd : decode c.code g.pc = .ok (.invokestatic index, 3))
    (hlen : ∀ sig, parseMethodDescriptor y.desc = some sig → argsL.length = sig.parameters.length) {W : Nat} (hW : 2 * g.monitorRoom + (rest.map fun v => v.category).sum ≤ W) (hf : rm.frames + 1 ≤ R.frames) (hl : W + (maxL + 11) + rm.locals ≤ R.locals) (hc : cells + rm.cells ≤ R.cells) (hsl : slots + rm.slots ≤ R.slots) :
    ∃ (v : Option Value) (T' : State) (L : List Loc), Stand p l e R s m args below meth c T' (locs ++ L) (cells + rm.cells) (slots + rm.slots) ∧ P v T'.heap L ∧
      ∀ target, Steps p.tables e below (T'.setTop { g with pc := g.pc + 3, stack := v.toList ++ rest }) target → Steps p.tables e below (T.setTop g) target := by
  obtain ⟨v, vm₁, ⟨T', L', k', n'⟩, -, X', ⟨L, hQ, l1, l2, l3⟩, st⟩ := Jvm.LawKit.callS X hx (y := y) hown (mvT hZ w1) (mvT hZ w2) (mvT hZ w3) (mvT hZ w4) hy (backOf (W := W) (K []) hZ w4 w3 hf hl) (g := g) hg hsize (argsL := argsL) (rest := rest) hlen hs hW hd (fun _ _ => ⟨rfl, eT, hc, hsl⟩)
  dsimp only [Pt.U, Pt.locs, Pt.cells, Pt.slots] at X' l1 l2 l3 st hQ
  subst l1 l2 l3
  exact ⟨v, T', L, X', hQ, st⟩
/-- an instance method by its contract -/
theorem callV (X : Stand p l e R s m args below meth c T locs cells slots) (hx : p.tables.exec = Jvm.exec) (hZ : Z.Warmed39 s.vm) {own C : String} {index : Nat} {y : MethodName} {bytes : ByteArray} {maxL : Nat} {ret : Option FieldType} {rm : Room} {P : Option Value → Heap → List Loc → Prop} (hown : s.vm.findClass own = some m.cls)
    (w1 : (Cond.methodLink own index y).before a0 Z = true) (w2 : (Cond.declares y).before a0 Z = true) (w5 : (Cond.selects C y y).before a0 Z = true) (w6 : (Cond.instanceMethod y).before a0 Z = true) (w3 : (Cond.initialized y.cls).before a0 Z = true) (w4 : (Cond.code y bytes maxL ret).before a0 Z = true) (hy : y.cls ≠ "java/lang/invoke/MethodHandle" ∧ y.cls ≠ "java/lang/invoke/VarHandle")
    (eT : T.heap = h) {b : Addr} (E : Exa Z h b C) {argsL rest : List Value} (K : Ctr l Z y bytes maxL ret rm (.ref b :: argsL).toArray h P) {g : JFrame} (hg : g.method = m) (hsize : g.locals.size = c.maxLocals) (hs : g.stack = argsL.reverse ++ .ref b :: rest) (hd : decode c.code g.pc = .ok (.invokevirtual index, 3))
    (hlen : ∀ sig, parseMethodDescriptor y.desc = some sig → argsL.length = sig.parameters.length) {W : Nat} (hW : 2 * g.monitorRoom + (rest.map fun v => v.category).sum ≤ W) (hf : rm.frames + 1 ≤ R.frames) (hl : W + (maxL + 11) + rm.locals ≤ R.locals) (hc : cells + rm.cells ≤ R.cells) (hsl : slots + rm.slots ≤ R.slots) :
    ∃ (v : Option Value) (T' : State) (L : List Loc), Stand p l e R s m args below meth c T' (locs ++ L) (cells + rm.cells) (slots + rm.slots) ∧ P v T'.heap L ∧
      ∀ target, Steps p.tables e below (T'.setTop { g with pc := g.pc + 3, stack := v.toList ++ rest }) target → Steps p.tables e below (T.setTop g) target := by
  obtain ⟨cq, kq, qa, qb, qc⟩ := isOf hZ eT E
  obtain ⟨v, vm₁, ⟨T', L', k', n'⟩, -, X', ⟨L, hQ, l1, l2, l3⟩, st⟩ := X.virtualBack hx (y := y) (z := y) hown (mvT hZ w1) (mvT hZ w2) (notFace_of_selects (args := #[]) (mvT hZ w5)) (mvT hZ w5) (mvT hZ w6) hy (backOf (W := W) (K []) hZ w4 w3 hf hl) qa qc (g := g) hg hsize (Steps.refl _) (argsL := argsL) (rest := rest) hlen hs hW hd (fun _ _ => ⟨rfl, eT, hc, hsl⟩)
  dsimp only [Pt.U, Pt.locs, Pt.cells, Pt.slots] at X' l1 l2 l3 st hQ
  subst l1 l2 l3
  exact ⟨v, T', L, X', hQ, fun _ k => st.trans k⟩
/-- a constructor by its contract -/
theorem callN (X : Stand p l e R s m args below meth c T locs cells slots) (hx : p.tables.exec = Jvm.exec) (hZ : Z.Warmed39 s.vm) {own : String} {index : Nat} {y : MethodName} {bytes : ByteArray} {maxL : Nat} {rm : Room} {P : Option Value → Heap → List Loc → Prop} (hy1 : y.name = "<init>") (hown : s.vm.findClass own = some m.cls)
    (w1 : (Cond.methodLink own index y).before a0 Z = true) (w6 : (Cond.instanceMethod y).before a0 Z = true) (w3 : (Cond.initialized y.cls).before a0 Z = true) (w4 : (Cond.code y bytes maxL none).before a0 Z = true) (hy : y.cls ≠ "java/lang/invoke/MethodHandle" ∧ y.cls ≠ "java/lang/invoke/VarHandle")
    (eT : T.heap = h) {b : Addr} {argsL rest : List Value} (K : Ctr l Z y bytes maxL none rm (.ref b :: argsL).toArray h P) {g : JFrame} (hg : g.method = m) (hsize : g.locals.size = c.maxLocals) (hs : g.stack = argsL.reverse ++ .ref b :: rest) (hd : decode c.code g.pc = .ok (.invokespecial index, 3))
    (hlen : ∀ sig, parseMethodDescriptor y.desc = some sig → argsL.length = sig.parameters.length) {W : Nat} (hW : 2 * g.monitorRoom + (rest.map fun v => v.category).sum ≤ W) (hf : rm.frames + 1 ≤ R.frames) (hl : W + (maxL + 11) + rm.locals ≤ R.locals) (hc : cells + rm.cells ≤ R.cells) (hsl : slots + rm.slots ≤ R.slots) :
    ∃ (v : Option Value) (T' : State) (L : List Loc), Stand p l e R s m args below meth c T' (locs ++ L) (cells + rm.cells) (slots + rm.slots) ∧ P v T'.heap L ∧
      ∀ target, Steps p.tables e below (T'.setTop { g with pc := g.pc + 3, stack := v.toList ++ rest }) target → Steps p.tables e below (T.setTop g) target := by
  obtain ⟨v, vm₁, ⟨T', L', k', n'⟩, -, X', ⟨L, hQ, l1, l2, l3⟩, st⟩ := X.specialBack hx (y := y) hy1 hown (mvT hZ w1) (mvT hZ w6) (mvT hZ w4) hy (backOf (W := W) (K []) hZ w4 w3 hf hl) (g := g) hg hsize (Steps.refl _) (a := b) (argsL := argsL) (rest := rest) hlen hs hW hd (fun _ _ => ⟨rfl, eT, hc, hsl⟩)
  dsimp only [Pt.U, Pt.locs, Pt.cells, Pt.slots] at X' l1 l2 l3 st hQ
  subst l1 l2 l3
  exact ⟨v, T', L, X', hQ, fun _ k => st.trans k⟩
/-- a private method by its contract -/
theorem callP (X : Stand p l e R s m args below meth c T locs cells slots) (hx : p.tables.exec = Jvm.exec) (hZ : Z.Warmed39 s.vm) {own : String} {index nn : Nat} {y : MethodName} {bytes : ByteArray} {maxL : Nat} {ret : Option FieldType} {rm : Room} {P : Option Value → Heap → List Loc → Prop} (hown : s.vm.findClass own = some m.cls)
    (w1 : (Cond.methodLink own index y).before a0 Z = true) (w6 : (Cond.instanceMethod y).before a0 Z = true) (w7 : (Cond.privateMethod y).before a0 Z = true) (w8 : (Cond.instantiable y.cls nn).before a0 Z = true) (w3 : (Cond.initialized y.cls).before a0 Z = true) (w4 : (Cond.code y bytes maxL ret).before a0 Z = true) (hy : y.cls ≠ "java/lang/invoke/MethodHandle" ∧ y.cls ≠ "java/lang/invoke/VarHandle")
    (eT : T.heap = h) {b : Addr} {C : String} (E : Exa Z h b C) {argsL rest : List Value} (K : Ctr l Z y bytes maxL ret rm (.ref b :: argsL).toArray h P) {g : JFrame} (hg : g.method = m) (hsize : g.locals.size = c.maxLocals) (hs : g.stack = argsL.reverse ++ .ref b :: rest) (hd : decode c.code g.pc = .ok (.invokevirtual index, 3))
    (hlen : ∀ sig, parseMethodDescriptor y.desc = some sig → argsL.length = sig.parameters.length) {W : Nat} (hW : 2 * g.monitorRoom + (rest.map fun v => v.category).sum ≤ W) (hf : rm.frames + 1 ≤ R.frames) (hl : W + (maxL + 11) + rm.locals ≤ R.locals) (hc : cells + rm.cells ≤ R.cells) (hsl : slots + rm.slots ≤ R.slots) :
    ∃ (v : Option Value) (T' : State) (L : List Loc), Stand p l e R s m args below meth c T' (locs ++ L) (cells + rm.cells) (slots + rm.slots) ∧ P v T'.heap L ∧
      ∀ target, Steps p.tables e below (T'.setTop { g with pc := g.pc + 3, stack := v.toList ++ rest }) target → Steps p.tables e below (T.setTop g) target := by
  obtain ⟨cl, q1, q2⟩ := E.cell
  have hpr : s.PrivateAt y := Cond.privateMethod_at (mvP hZ w7 (args := #[]))
  obtain ⟨cI, kI, i1, i2, -, i4, -⟩ := Cond.instantiable_spec (mvT hZ w8 : (Cond.instantiable y.cls nn).before args s = true)
  have hsel : (Cond.selects y.cls y y).before args s = true := selects_self_of_private i1 i2 (Bool.or_eq_false_iff.mp i4).1 hpr (mvT hZ w6) hy
  obtain ⟨v, vm₁, ⟨T', L', k', n'⟩, -, X', ⟨L, hQ, l1, l2, l3⟩, st⟩ := X.privateBack hx (y := y) hown (mvT hZ w1) (mvT hZ w6) hsel hpr (mvT hZ w4) hy (backOf (W := W) (K []) hZ w4 w3 hf hl) (g := g) hg hsize (Steps.refl _) (a := b) (cell := cl) (by rw [eT]; exact q1) q2 (argsL := argsL) (rest := rest) hlen hs hW hd (fun _ _ => ⟨rfl, eT, hc, hsl⟩)
  dsimp only [Pt.U, Pt.locs, Pt.cells, Pt.slots] at X' l1 l2 l3 st hQ
  subst l1 l2 l3
  exact ⟨v, T', L, X', hQ, fun _ k => st.trans k⟩
/-! arrays of references -/
theorem aaldV (X : Stand p l e R s m args below meth c T locs cells slots) (hx : p.tables.exec = Jvm.exec) (hZ : Z.Warmed39 s.vm) (eT : T.heap = h) {a : Addr} {k : ClassId} {ty : FieldType} {z j : Int32} {vs : List Value} {dv v : Value} (A : Arv Z h a k ty z vs dv) (hty : ty.isReference = true) (hj : ¬ j < 0 ∧ j < z) (hv : vs.getD j.toNatClampNeg dv = v)
    {g : JFrame} (hg : g.method = m) {rest : List Value} (hs : g.stack = .int j :: .ref a :: rest) (hd : decode c.code g.pc = .ok (.aaload, 1)) :
    ∀ target, Steps p.tables e below (T.setTop { g with pc := g.pc + 1, stack := v :: rest }) target → Steps p.tables e below (T.setTop g) target := by
  obtain ⟨cl, A, -, S, -, H, -⟩ := A
  have hin := inb_of S hj
  exact fun t q => X.aaload hx (by rw [eT]; exact A.1) (State.isArrayOf_alike hZ.alike A.2.1) hty A.2.2 hin (H.at hin hv) hg hs hd t q
theorem lenV (X : Stand p l e R s m args below meth c T locs cells slots) (hx : p.tables.exec = Jvm.exec) (hZ : Z.Warmed39 s.vm) (eT : T.heap = h) {a : Addr} {k : ClassId} {ty : FieldType} {z : Int32} {vs : List Value} {dv : Value} (A : Arv Z h a k ty z vs dv)
    {g : JFrame} (hg : g.method = m) {rest : List Value} (hs : g.stack = .ref a :: rest) (hd : decode c.code g.pc = .ok (.arraylength, 1)) :
    ∀ target, Steps p.tables e below (T.setTop { g with pc := g.pc + 1, stack := .int z :: rest }) target → Steps p.tables e below (T.setTop g) target := by
  obtain ⟨cl, A, -, S, N, -, -⟩ := A
  intro t q
  refine X.arraylength hx (by rw [eT]; exact A.1) (State.isArrayOf_alike hZ.alike A.2.1) hg hs hd t ?_
  rw [len_of S N]
  exact q
theorem aastV (X : Stand p l e R s m args below meth c T locs cells slots) (hx : p.tables.exec = Jvm.exec) (hZ : Z.Warmed39 s.vm) (eT : T.heap = h) {a : Addr} {k : ClassId} {ty : FieldType} {z j : Int32} {vs : List Value} {dv v : Value} (A : Arv Z h a k ty z vs dv) (hty : ty.isReference = true) (hj : ¬ j < 0 ∧ j < z) {i : Nat} (hi : j.toNatClampNeg = i) (hlen : i < vs.length)
    (F : ∀ cl, Arr Z h a cl ty → cl.cls = k → Sto Z h a v) (hfit : fits ty v = true) {g : JFrame} (hg : g.method = m) {rest : List Value} (hs : g.stack = v :: .int j :: .ref a :: rest) (hd : decode c.code g.pc = .ok (.aastore, 1)) :
    ∃ T' h', Stand p l e R s m args below meth c T' (locs ++ [⟨a, j.toNatClampNeg⟩]) cells slots ∧ T'.heap = h' ∧ Wr h h' a j.toNatClampNeg v ∧ Arv Z h' a k ty z (vs.set i v) dv ∧
      ∀ target, Steps p.tables e below (T'.setTop { g with pc := g.pc + 1, stack := rest }) target → Steps p.tables e below (T.setTop g) target := by
  obtain ⟨cl, A, q, S, N, H, G⟩ := A
  have hin := inb_of S hj
  obtain ⟨T', h', X', e', W, st⟩ := stR X hx hZ eT A (j := j) (v := v) hin hty (F cl A q) hg hs hd
  exact ⟨T', h', X', e', W, Arv.set A q S N H G hfit W i hi hlen, st⟩
/-- a cast of null or of one of the class -/
theorem castVV (X : Stand p l e R s m args below meth c T locs cells slots) (hx : p.tables.exec = Jvm.exec) (hZ : Z.Warmed39 s.vm) {own K : String} {index : Nat} (hown : s.vm.findClass own = some m.cls) (w : (Cond.classLink own index K).before a0 Z = true) (eT : T.heap = h) {v : Value} (B : v = .null ∨ ∃ r, v = .ref r ∧ Ins Z h r K true)
    {g : JFrame} (hg : g.method = m) {rest : List Value} (hs : g.stack = v :: rest) (hd : decode c.code g.pc = .ok (.checkcast index, 3)) :
    ∃ T', Stand p l e R s m args below meth c T' locs cells slots ∧ T'.heap = h ∧ ∀ target, Steps p.tables e below (T'.setTop { g with pc := g.pc + 3 }) target → Steps p.tables e below (T.setTop g) target := by
  rcases B with rfl | ⟨r, rfl, I⟩
  · exact ⟨T, X, eT, fun t q => X.checkcastNull hx hg hs hd t q⟩
  · exact castY X hx hZ hown w eT I hg hs hd
theorem cat_ref {v : Value} (q : v.isRef = true) : v.category = 1 := by cases v <;> simp [Value.isRef] at q <;> rfl
theorem fits_isRef {t : FieldType} {v : Value} (r : t.isReference = true) (q : v.isRef = true) : fits t v = true := by cases v <;> simp [Value.isRef] at q <;> cases t <;> first | rfl | (simp [FieldType.isReference] at r)
theorem ext_of_keep (K : Keep h h1 []) : Ext h h1 := ⟨K.1, fun x c q => K.2.1 x c q nin0⟩
/-! heaps that only grow -/
theorem ext_refl (h : Heap) : Ext h h := ⟨Nat.le_refl _, fun _ _ q => q⟩
theorem ext_trans (a : Ext h h1) (b : Ext h1 h2) : Ext h h2 := ⟨Nat.le_trans a.1 b.1, fun x q r => b.2 x q (a.2 x q r)⟩
/-- what lies at or above h's end was written: h stands -/
theorem ext_keep {ws : List Addr} (a : Ext h h1) (K : Keep h1 h2 ws) (q : ∀ x ∈ ws, h.size ≤ x) : Ext h h2 := ⟨Nat.le_trans a.1 K.1, fun x c r => K.2.1 x c (a.2 x c r) fun z => absurd (Array.getElem?_eq_some_iff.mp r).1 (Nat.not_lt.mpr (q x z))⟩
theorem ext_wr {a : Addr} {sl : Nat} {v : Value} (x : Ext h h1) (W : Wr h1 h2 a sl v) (q : h.size ≤ a) : Ext h h2 := ext_keep x (Keep.of_wr W) (allS q all0)
theorem keep_ext {ws : List Addr} (E : Ext h h1) : Keep h h1 ws := (Keep.refl h ws).ext E
end Walk
section Rows
variable {p : Program} {l : Launch} {e : Env} {R : Room} {s : State} {m : MethodId} {args : Array Value} {below : List Frame} {meth : Method} {c : Code} {T : State} {locs : List Loc} {cells slots : Nat} {Z : State} {a0 : Array Value} {h : Heap} {F : Outcome → State → Prop} {pc pc' : Nat} {Ls : Array Slot} {rest : List Value}
theorem q_iloadN (X : Stand p l e R s m args below meth c T locs cells slots) (hx : p.tables.exec = Jvm.exec) {k : Fin 4} {v : Int32} (hd : decode c.code pc = .ok (.iload_n k, 1)) (hl : Ls[k.val]? = some (.val (.int v))) (hp : pc + 1 = pc') (go : Run p e below F (T.setTop (mkF m pc' Ls (.int v :: rest)))) : Run p e below F (T.setTop (mkF m pc Ls rest)) := by
  subst hp
  exact Run.via (fun _ q => XS.iloadN X.here hx rfl hd hl q) go
theorem q_iload (X : Stand p l e R s m args below meth c T locs cells slots) (hx : p.tables.exec = Jvm.exec) {k : Nat} {v : Int32} (hd : decode c.code pc = .ok (.iload k, 2)) (hl : Ls[k]? = some (.val (.int v))) (hp : pc + 2 = pc') (go : Run p e below F (T.setTop (mkF m pc' Ls (.int v :: rest)))) : Run p e below F (T.setTop (mkF m pc Ls rest)) := by
  subst hp
  exact Run.via (fun _ q => XS.iload X.here hx rfl hd hl q) go
theorem q_aloadN (X : Stand p l e R s m args below meth c T locs cells slots) (hx : p.tables.exec = Jvm.exec) {k : Fin 4} {v : Value} (hd : decode c.code pc = .ok (.aload_n k, 1)) (hl : Ls[k.val]? = some (.val v)) (hv : v.isRef = true) (hp : pc + 1 = pc') (go : Run p e below F (T.setTop (mkF m pc' Ls (v :: rest)))) : Run p e below F (T.setTop (mkF m pc Ls rest)) := by
  subst hp
  exact Run.via (fun _ q => XS.aloadN X.here hx rfl hd hl hv q) go
theorem q_aload (X : Stand p l e R s m args below meth c T locs cells slots) (hx : p.tables.exec = Jvm.exec) {k : Nat} {v : Value} (hd : decode c.code pc = .ok (.aload k, 2)) (hl : Ls[k]? = some (.val v)) (hv : v.isRef = true) (hp : pc + 2 = pc') (go : Run p e below F (T.setTop (mkF m pc' Ls (v :: rest)))) : Run p e below F (T.setTop (mkF m pc Ls rest)) := by
  subst hp
  exact Run.via (fun _ q => XS.aload X.here hx rfl hd hl hv q) go
theorem q_istoreN (X : Stand p l e R s m args below meth c T locs cells slots) (hx : p.tables.exec = Jvm.exec) {k : Fin 4} {v : Int32} {l' : Array Slot} (hd : decode c.code pc = .ok (.istore_n k, 1)) (hl : storeLocals Ls k.val (.int v) = some l') (hp : pc + 1 = pc') (go : Run p e below F (T.setTop (mkF m pc' l' rest))) : Run p e below F (T.setTop (mkF m pc Ls (.int v :: rest))) := by
  subst hp
  exact Run.via (fun _ q => XS.istoreN X.here hx rfl hd rfl hl q) go
theorem q_istore (X : Stand p l e R s m args below meth c T locs cells slots) (hx : p.tables.exec = Jvm.exec) {k : Nat} {v : Int32} {l' : Array Slot} (hd : decode c.code pc = .ok (.istore k, 2)) (hl : storeLocals Ls k (.int v) = some l') (hp : pc + 2 = pc') (go : Run p e below F (T.setTop (mkF m pc' l' rest))) : Run p e below F (T.setTop (mkF m pc Ls (.int v :: rest))) := by
  subst hp
  exact Run.via (fun _ q => XS.istore X.here hx rfl hd rfl hl q) go
theorem q_astoreN (X : Stand p l e R s m args below meth c T locs cells slots) (hx : p.tables.exec = Jvm.exec) {k : Fin 4} {v : Value} {l' : Array Slot} (hd : decode c.code pc = .ok (.astore_n k, 1)) (hv : v.isRef = true) (hl : storeLocals Ls k.val v = some l') (hp : pc + 1 = pc') (go : Run p e below F (T.setTop (mkF m pc' l' rest))) : Run p e below F (T.setTop (mkF m pc Ls (v :: rest))) := by
  subst hp
  exact Run.via (fun _ q => XS.astoreN X.here hx rfl hd rfl hv hl q) go
theorem q_astore (X : Stand p l e R s m args below meth c T locs cells slots) (hx : p.tables.exec = Jvm.exec) {k : Nat} {v : Value} {l' : Array Slot} (hd : decode c.code pc = .ok (.astore k, 2)) (hv : v.isRef = true) (hl : storeLocals Ls k v = some l') (hp : pc + 2 = pc') (go : Run p e below F (T.setTop (mkF m pc' l' rest))) : Run p e below F (T.setTop (mkF m pc Ls (v :: rest))) := by
  subst hp
  exact Run.via (fun _ q => XS.astore X.here hx rfl hd rfl hv hl q) go
theorem q_iconst (X : Stand p l e R s m args below meth c T locs cells slots) (hx : p.tables.exec = Jvm.exec) {i : Int} {z : Int32} (hd : decode c.code pc = .ok (.iconst i, 1)) (hz : Int32.ofInt i = z) (hp : pc + 1 = pc') (go : Run p e below F (T.setTop (mkF m pc' Ls (.int z :: rest)))) : Run p e below F (T.setTop (mkF m pc Ls rest)) := by
  subst hp
  exact Run.via (fun _ q => XS.iconst X.here hx rfl hd (by rw [hz]; exact q)) go
theorem q_bipush (X : Stand p l e R s m args below meth c T locs cells slots) (hx : p.tables.exec = Jvm.exec) {i : Int} {z : Int32} (hd : decode c.code pc = .ok (.bipush i, 2)) (hz : (Int8.ofInt i).toInt32 = z) (hp : pc + 2 = pc') (go : Run p e below F (T.setTop (mkF m pc' Ls (.int z :: rest)))) : Run p e below F (T.setTop (mkF m pc Ls rest)) := by
  subst hp
  exact Run.via (fun _ q => XS.bipush X.here hx rfl hd (by rw [hz]; exact q)) go
theorem q_sipush (X : Stand p l e R s m args below meth c T locs cells slots) (hx : p.tables.exec = Jvm.exec) {i : Int} {z : Int32} (hd : decode c.code pc = .ok (.sipush i, 3)) (hz : (Int16.ofInt i).toInt32 = z) (hp : pc + 3 = pc') (go : Run p e below F (T.setTop (mkF m pc' Ls (.int z :: rest)))) : Run p e below F (T.setTop (mkF m pc Ls rest)) := by
  subst hp
  exact Run.via (fun _ q => XS.sipush X.here hx rfl hd (by rw [hz]; exact q)) go
theorem q_null (X : Stand p l e R s m args below meth c T locs cells slots) (hx : p.tables.exec = Jvm.exec)  (hd : decode c.code pc = .ok (.aconst_null, 1))  (hp : pc + 1 = pc') (go : Run p e below F (T.setTop (mkF m pc' Ls (.null :: rest)))) : Run p e below F (T.setTop (mkF m pc Ls rest)) := by
  subst hp
  exact Run.via (fun _ q => XS.aconstNull X.here hx rfl hd q) go
theorem q_iadd (X : Stand p l e R s m args below meth c T locs cells slots) (hx : p.tables.exec = Jvm.exec) {x y z : Int32} (hd : decode c.code pc = .ok (.iadd, 1)) (hz : x + y = z) (hp : pc + 1 = pc') (go : Run p e below F (T.setTop (mkF m pc' Ls (.int z :: rest)))) : Run p e below F (T.setTop (mkF m pc Ls (.int y :: .int x :: rest))) := by
  subst hp
  exact Run.via (fun _ q => XS.iadd X.here hx rfl hd rfl (by rw [hz]; exact q)) go
theorem q_isub (X : Stand p l e R s m args below meth c T locs cells slots) (hx : p.tables.exec = Jvm.exec) {x y z : Int32} (hd : decode c.code pc = .ok (.isub, 1)) (hz : x - y = z) (hp : pc + 1 = pc') (go : Run p e below F (T.setTop (mkF m pc' Ls (.int z :: rest)))) : Run p e below F (T.setTop (mkF m pc Ls (.int y :: .int x :: rest))) := by
  subst hp
  exact Run.via (fun _ q => XS.isub X.here hx rfl hd rfl (by rw [hz]; exact q)) go
theorem q_imul (X : Stand p l e R s m args below meth c T locs cells slots) (hx : p.tables.exec = Jvm.exec) {x y z : Int32} (hd : decode c.code pc = .ok (.imul, 1)) (hz : x * y = z) (hp : pc + 1 = pc') (go : Run p e below F (T.setTop (mkF m pc' Ls (.int z :: rest)))) : Run p e below F (T.setTop (mkF m pc Ls (.int y :: .int x :: rest))) := by
  subst hp
  exact Run.via (fun _ q => XS.imul X.here hx rfl hd rfl (by rw [hz]; exact q)) go
theorem q_iand (X : Stand p l e R s m args below meth c T locs cells slots) (hx : p.tables.exec = Jvm.exec) {x y z : Int32} (hd : decode c.code pc = .ok (.iand, 1)) (hz : x &&& y = z) (hp : pc + 1 = pc') (go : Run p e below F (T.setTop (mkF m pc' Ls (.int z :: rest)))) : Run p e below F (T.setTop (mkF m pc Ls (.int y :: .int x :: rest))) := by
  subst hp
  exact Run.via (fun _ q => XS.iand X.here hx rfl hd rfl (by rw [hz]; exact q)) go
theorem q_ior (X : Stand p l e R s m args below meth c T locs cells slots) (hx : p.tables.exec = Jvm.exec) {x y z : Int32} (hd : decode c.code pc = .ok (.ior, 1)) (hz : x ||| y = z) (hp : pc + 1 = pc') (go : Run p e below F (T.setTop (mkF m pc' Ls (.int z :: rest)))) : Run p e below F (T.setTop (mkF m pc Ls (.int y :: .int x :: rest))) := by
  subst hp
  exact Run.via (fun _ q => XS.ior X.here hx rfl hd rfl (by rw [hz]; exact q)) go
theorem q_ixor (X : Stand p l e R s m args below meth c T locs cells slots) (hx : p.tables.exec = Jvm.exec) {x y z : Int32} (hd : decode c.code pc = .ok (.ixor, 1)) (hz : x ^^^ y = z) (hp : pc + 1 = pc') (go : Run p e below F (T.setTop (mkF m pc' Ls (.int z :: rest)))) : Run p e below F (T.setTop (mkF m pc Ls (.int y :: .int x :: rest))) := by
  subst hp
  exact Run.via (fun _ q => XS.ixor X.here hx rfl hd rfl (by rw [hz]; exact q)) go
theorem q_ishr (X : Stand p l e R s m args below meth c T locs cells slots) (hx : p.tables.exec = Jvm.exec) {x y z : Int32} (hd : decode c.code pc = .ok (.ishr, 1)) (hz : x >>> (y &&& 31) = z) (hp : pc + 1 = pc') (go : Run p e below F (T.setTop (mkF m pc' Ls (.int z :: rest)))) : Run p e below F (T.setTop (mkF m pc Ls (.int y :: .int x :: rest))) := by
  subst hp
  exact Run.via (fun _ q => XS.ishr X.here hx rfl hd rfl (by rw [hz]; exact q)) go
theorem q_ishl (X : Stand p l e R s m args below meth c T locs cells slots) (hx : p.tables.exec = Jvm.exec) {x y z : Int32} (hd : decode c.code pc = .ok (.ishl, 1)) (hz : x <<< (y &&& 31) = z) (hp : pc + 1 = pc') (go : Run p e below F (T.setTop (mkF m pc' Ls (.int z :: rest)))) : Run p e below F (T.setTop (mkF m pc Ls (.int y :: .int x :: rest))) := by
  subst hp
  exact Run.via (fun _ q => XS.ishl X.here hx rfl hd rfl (by rw [hz]; exact q)) go
theorem q_iushr (X : Stand p l e R s m args below meth c T locs cells slots) (hx : p.tables.exec = Jvm.exec) {x y z : Int32} (hd : decode c.code pc = .ok (.iushr, 1)) (hz : (x.toUInt32 >>> (y &&& 31).toUInt32).toInt32 = z) (hp : pc + 1 = pc') (go : Run p e below F (T.setTop (mkF m pc' Ls (.int z :: rest)))) : Run p e below F (T.setTop (mkF m pc Ls (.int y :: .int x :: rest))) := by
  subst hp
  exact Run.via (fun _ q => XS.iushr X.here hx rfl hd rfl (by rw [hz]; exact q)) go
theorem q_idiv (X : Stand p l e R s m args below meth c T locs cells slots) (hx : p.tables.exec = Jvm.exec) {x y z : Int32} (hd : decode c.code pc = .ok (.idiv, 1)) (hy : y ≠ 0) (hz : x / y = z) (hp : pc + 1 = pc') (go : Run p e below F (T.setTop (mkF m pc' Ls (.int z :: rest)))) : Run p e below F (T.setTop (mkF m pc Ls (.int y :: .int x :: rest))) := by
  subst hp
  exact Run.via (fun _ q => XS.idiv X.here hx rfl hd rfl hy (by rw [hz]; exact q)) go
theorem q_irem (X : Stand p l e R s m args below meth c T locs cells slots) (hx : p.tables.exec = Jvm.exec) {x y z : Int32} (hd : decode c.code pc = .ok (.irem, 1)) (hy : y ≠ 0) (hz : x % y = z) (hp : pc + 1 = pc') (go : Run p e below F (T.setTop (mkF m pc' Ls (.int z :: rest)))) : Run p e below F (T.setTop (mkF m pc Ls (.int y :: .int x :: rest))) := by
  subst hp
  exact Run.via (fun _ q => iremM X hx rfl hd rfl hy (by rw [hz]; exact q)) go
theorem q_iinc (X : Stand p l e R s m args below meth c T locs cells slots) (hx : p.tables.exec = Jvm.exec) {k : Nat} {i : Int} {x : Int32} {l' : Array Slot} (hd : decode c.code pc = .ok (.iinc k i, 3)) (hl : Ls[k]? = some (.val (.int x))) (hl' : storeLocals Ls k (.int (x + Int32.ofInt i)) = some l') (hp : pc + 3 = pc') (go : Run p e below F (T.setTop (mkF m pc' l' rest))) : Run p e below F (T.setTop (mkF m pc Ls rest)) := by
  subst hp
  exact Run.via (fun _ q => XS.iinc X.here hx rfl hd hl hl' q) go
theorem q_dup (X : Stand p l e R s m args below meth c T locs cells slots) (hx : p.tables.exec = Jvm.exec) {x : Value} (hd : decode c.code pc = .ok (.dup, 1)) (hc : x.category = 1) (hp : pc + 1 = pc') (go : Run p e below F (T.setTop (mkF m pc' Ls (x :: x :: rest)))) : Run p e below F (T.setTop (mkF m pc Ls (x :: rest))) := by
  subst hp
  exact Run.via (fun _ q => XS.dup X.here hx rfl hd rfl hc q) go
theorem q_dupX1 (X : Stand p l e R s m args below meth c T locs cells slots) (hx : p.tables.exec = Jvm.exec) {x y : Value} (hd : decode c.code pc = .ok (.dup_x1, 1)) (hc : x.category = 1) (hc' : y.category = 1) (hp : pc + 1 = pc') (go : Run p e below F (T.setTop (mkF m pc' Ls (x :: y :: x :: rest)))) : Run p e below F (T.setTop (mkF m pc Ls (x :: y :: rest))) := by
  subst hp
  exact Run.via (fun _ q => XS.dupX1 X.here hx rfl hd rfl hc hc' q) go
theorem q_pop (X : Stand p l e R s m args below meth c T locs cells slots) (hx : p.tables.exec = Jvm.exec) {x : Value} (hd : decode c.code pc = .ok (.pop, 1)) (hc : x.category = 1) (hp : pc + 1 = pc') (go : Run p e below F (T.setTop (mkF m pc' Ls rest))) : Run p e below F (T.setTop (mkF m pc Ls (x :: rest))) := by
  subst hp
  exact Run.via (fun _ q => XS.pop X.here hx rfl hd rfl hc q) go
theorem q_goto (X : Stand p l e R s m args below meth c T locs cells slots) (hx : p.tables.exec = Jvm.exec) {o : Int} (hd : decode c.code pc = .ok (.goto o, 3))  (ho : 0 ≤ (pc : Int) + o) (hp : ((pc : Int) + o).toNat = pc') (go : Run p e below F (T.setTop (mkF m pc' Ls rest))) : Run p e below F (T.setTop (mkF m pc Ls rest)) := by
  subst hp
  exact Run.via (fun _ q => XS.goto X.here hx rfl rfl hd ho rfl q) go
theorem q_ifYes (X : Stand p l e R s m args below meth c T locs cells slots) (hx : p.tables.exec = Jvm.exec) {cd : ClassFile.Cond} {x : Int32} {o : Int} (hd : decode c.code pc = .ok (.ifCond cd o, 3)) (hc : ifCond.holds cd x = true) (ho : 0 ≤ (pc : Int) + o) (hp : ((pc : Int) + o).toNat = pc') (go : Run p e below F (T.setTop (mkF m pc' Ls rest))) : Run p e below F (T.setTop (mkF m pc Ls (.int x :: rest))) := by
  subst hp
  exact Run.via (fun _ q => XS.ifYes X.here hx rfl rfl hd rfl hc ho rfl q) go
theorem q_ifNo (X : Stand p l e R s m args below meth c T locs cells slots) (hx : p.tables.exec = Jvm.exec) {cd : ClassFile.Cond} {x : Int32} {o : Int} (hd : decode c.code pc = .ok (.ifCond cd o, 3)) (hc : ifCond.holds cd x = false) (hp : pc + 3 = pc') (go : Run p e below F (T.setTop (mkF m pc' Ls rest))) : Run p e below F (T.setTop (mkF m pc Ls (.int x :: rest))) := by
  subst hp
  exact Run.via (fun _ q => XS.ifNo X.here hx rfl hd rfl hc q) go
theorem q_icmpYes (X : Stand p l e R s m args below meth c T locs cells slots) (hx : p.tables.exec = Jvm.exec) {cd : ClassFile.Cond} {x y : Int32} {o : Int} (hd : decode c.code pc = .ok (.if_icmp cd o, 3)) (hc : if_icmp.holds cd x y = true) (ho : 0 ≤ (pc : Int) + o) (hp : ((pc : Int) + o).toNat = pc') (go : Run p e below F (T.setTop (mkF m pc' Ls rest))) : Run p e below F (T.setTop (mkF m pc Ls (.int y :: .int x :: rest))) := by
  subst hp
  exact Run.via (fun _ q => XS.icmpYes X.here hx rfl rfl hd rfl hc ho rfl q) go
theorem q_icmpNo (X : Stand p l e R s m args below meth c T locs cells slots) (hx : p.tables.exec = Jvm.exec) {cd : ClassFile.Cond} {x y : Int32} {o : Int} (hd : decode c.code pc = .ok (.if_icmp cd o, 3)) (hc : if_icmp.holds cd x y = false) (hp : pc + 3 = pc') (go : Run p e below F (T.setTop (mkF m pc' Ls rest))) : Run p e below F (T.setTop (mkF m pc Ls (.int y :: .int x :: rest))) := by
  subst hp
  exact Run.via (fun _ q => XS.icmpNo X.here hx rfl hd rfl hc q) go
theorem q_ifnullYes (X : Stand p l e R s m args below meth c T locs cells slots) (hx : p.tables.exec = Jvm.exec) {o : Int} (hd : decode c.code pc = .ok (.ifnull o, 3))  (ho : 0 ≤ (pc : Int) + o) (hp : ((pc : Int) + o).toNat = pc') (go : Run p e below F (T.setTop (mkF m pc' Ls rest))) : Run p e below F (T.setTop (mkF m pc Ls (.null :: rest))) := by
  subst hp
  exact Run.via (fun _ q => XS.ifnullYes X.here hx rfl rfl hd rfl ho rfl q) go
theorem q_ifnullNo (X : Stand p l e R s m args below meth c T locs cells slots) (hx : p.tables.exec = Jvm.exec) {o : Int} {b : Addr} (hd : decode c.code pc = .ok (.ifnull o, 3))  (hp : pc + 3 = pc') (go : Run p e below F (T.setTop (mkF m pc' Ls rest))) : Run p e below F (T.setTop (mkF m pc Ls (.ref b :: rest))) := by
  subst hp
  exact Run.via (fun _ q => XS.ifnullNo X.here hx rfl hd rfl q) go
theorem q_ifnonnullYes (X : Stand p l e R s m args below meth c T locs cells slots) (hx : p.tables.exec = Jvm.exec) {o : Int} {b : Addr} (hd : decode c.code pc = .ok (.ifnonnull o, 3))  (ho : 0 ≤ (pc : Int) + o) (hp : ((pc : Int) + o).toNat = pc') (go : Run p e below F (T.setTop (mkF m pc' Ls rest))) : Run p e below F (T.setTop (mkF m pc Ls (.ref b :: rest))) := by
  subst hp
  exact Run.via (fun _ q => XS.ifnonnullYes X.here hx rfl rfl hd rfl ho rfl q) go
theorem q_ifnonnullNo (X : Stand p l e R s m args below meth c T locs cells slots) (hx : p.tables.exec = Jvm.exec) {o : Int} (hd : decode c.code pc = .ok (.ifnonnull o, 3))  (hp : pc + 3 = pc') (go : Run p e below F (T.setTop (mkF m pc' Ls rest))) : Run p e below F (T.setTop (mkF m pc Ls (.null :: rest))) := by
  subst hp
  exact Run.via (fun _ q => XS.ifnonnullNo X.here hx rfl hd rfl q) go
theorem q_acmp (X : Stand p l e R s m args below meth c T locs cells slots) (hx : p.tables.exec = Jvm.exec) {cd : ACond} {x y : Value} {o : Int} (hd : decode c.code pc = .ok (.if_acmp cd o, 3)) (h1 : x.isRef = true) (h2 : y.isRef = true) {same : Bool} (hq : decide (x = y) = same) (ho : 0 ≤ (pc : Int) + o) (hp : pc' = if acV cd same = true then ((pc : Int) + o).toNat else pc + 3) (go : Run p e below F (T.setTop (mkF m pc' Ls rest))) : Run p e below F (T.setTop (mkF m pc Ls (y :: x :: rest))) :=
  Run.via (fun _ q => Jvm.RoadKit.acmp X hx rfl h1 h2 rfl hd rfl hq ho hp q) go
theorem q_ldc (X : Stand p l e R s m args below meth c T locs cells slots) (hx : p.tables.exec = Jvm.exec) (hZ : Z.Warmed39 s.vm) {own : String} {index : Nat} (hown : s.vm.findClass own = some m.cls) {v : Int32} (hd : decode c.code pc = .ok (.ldc index, 2)) (w : (Cond.constant own index v).before a0 Z = true) (hp : pc + 2 = pc') (go : Run p e below F (T.setTop (mkF m pc' Ls (.int v :: rest)))) : Run p e below F (T.setTop (mkF m pc Ls rest)) := by
  subst hp
  exact Run.via (X.ldcInt hx hown (mvT hZ w) (g := mkF m pc Ls rest) rfl hd) go
theorem q_getS (X : Stand p l e R s m args below meth c T locs cells slots) (hx : p.tables.exec = Jvm.exec) (hZ : Z.Warmed39 s.vm) {own : String} {index : Nat} (hown : s.vm.findClass own = some m.cls) {R0 n d host : String} {v : Value} (hd : decode c.code pc = .ok (.getstatic index, 3)) (w : (Cond.fieldLink own index R0 n d).before a0 Z = true ∨ (Cond.fieldLinkNest own index R0 n d host).before a0 Z = true) (eT : T.heap = h) (Fs : Sta Z h R0 n d v) (hp : pc + 3 = pc') (go : ∀ T', Stand p l e R s m args below meth c T' locs cells slots → T'.heap = h → Run p e below F (T'.setTop (mkF m pc' Ls (v :: rest)))) : Run p e below F (T.setTop (mkF m pc Ls rest)) := by
  subst hp
  obtain ⟨T', X', e', st⟩ := getS2 X hx hZ hown w Via.refl eT Fs (g := mkF m pc Ls rest) rfl hd
  exact Run.via st (go T' X' e')
theorem q_getF (X : Stand p l e R s m args below meth c T locs cells slots) (hx : p.tables.exec = Jvm.exec) (hZ : Z.Warmed39 s.vm) {own : String} {index : Nat} (hown : s.vm.findClass own = some m.cls) {R0 n d host : String} {a : Addr} {v : Value} (hd : decode c.code pc = .ok (.getfield index, 3)) (w : (Cond.fieldLink own index R0 n d).before a0 Z = true ∨ (Cond.fieldLinkNest own index R0 n d host).before a0 Z = true) (eT : T.heap = h) (Fs : Fld Z h a R0 n d v) (hp : pc + 3 = pc') (go : ∀ T', Stand p l e R s m args below meth c T' locs cells slots → T'.heap = h → Run p e below F (T'.setTop (mkF m pc' Ls (v :: rest)))) : Run p e below F (T.setTop (mkF m pc Ls (.ref a :: rest))) := by
  subst hp
  obtain ⟨T', X', e', st⟩ := getF X hx hZ hown w Via.refl eT Fs (g := mkF m pc Ls (.ref a :: rest)) rfl rfl hd
  exact Run.via st (go T' X' e')
theorem q_putF (X : Stand p l e R s m args below meth c T locs cells slots) (hx : p.tables.exec = Jvm.exec) (hZ : Z.Warmed39 s.vm) {own : String} {index : Nat} (hown : s.vm.findClass own = some m.cls) {R0 n d host C : String} {kk : Nat} {ty : FieldType} {a : Addr} {v old : Value} (hd : decode c.code pc = .ok (.putfield index, 3)) (w : (Cond.fieldLink own index R0 n d).before a0 Z = true ∨ (Cond.fieldLinkNest own index R0 n d host).before a0 Z = true) (eT : T.heap = h) (Fs : Fld Z h a R0 n d old) (E : Exa Z h a C) (Lw : (Cond.lays C R0 n d).before a0 Z = true ∨ ((Cond.laysFinal C R0 n d).before a0 Z = true ∧ own = R0 ∧ meth.name = "<init>")) (wi : (Cond.instantiable C kk).before a0 Z = true) (hty : parseFieldDescriptor d = some ty) (hn : narrow ty v = v) (hf : fits ty v = true) (hp : pc + 3 = pc') (go : ∀ T' h', Stand p l e R s m args below meth c T' (locs ++ [⟨a, Jvm.RoadKit.slotOf Z R0 n d⟩]) cells slots → T'.heap = h' → Wr h h' a (Jvm.RoadKit.slotOf Z R0 n d) v → Run p e below F (T'.setTop (mkF m pc' Ls rest))) : Run p e below F (T.setTop (mkF m pc Ls (v :: .ref a :: rest))) := by
  subst hp
  obtain ⟨T', h', X', e', W, st⟩ := putF X hx hZ hown w Via.refl eT Fs E Lw wi hty hn hf (g := mkF m pc Ls (v :: .ref a :: rest)) rfl rfl hd
  exact Run.via st (go T' h' X' e' W)
theorem q_putFN (X : Stand p l e R s m args below meth c T locs cells slots) (hx : p.tables.exec = Jvm.exec) (hZ : Z.Warmed39 s.vm) {own : String} {index : Nat} (hown : s.vm.findClass own = some m.cls) {R0 n d C : String} {kk : Nat} {ty : FieldType} {a : Addr} {v v' old : Value} (hd : decode c.code pc = .ok (.putfield index, 3)) (w : (Cond.fieldLink own index R0 n d).before a0 Z = true) (eT : T.heap = h) (Fs : Fld Z h a R0 n d old) (E : Exa Z h a C) (Lw : (Cond.lays C R0 n d).before a0 Z = true ∨ ((Cond.laysFinal C R0 n d).before a0 Z = true ∧ own = R0 ∧ meth.name = "<init>")) (wi : (Cond.instantiable C kk).before a0 Z = true) (hty : parseFieldDescriptor d = some ty) (hn : narrow ty v = v') (hf : fits ty v' = true) (hp : pc + 3 = pc') (go : ∀ T' h', Stand p l e R s m args below meth c T' (locs ++ [⟨a, Jvm.RoadKit.slotOf Z R0 n d⟩]) cells slots → T'.heap = h' → Wr h h' a (Jvm.RoadKit.slotOf Z R0 n d) v' → Run p e below F (T'.setTop (mkF m pc' Ls rest))) : Run p e below F (T.setTop (mkF m pc Ls (v :: .ref a :: rest))) := by
  subst hp
  obtain ⟨T', h', X', e', W, st⟩ := putFN X hx hZ hown w Via.refl eT Fs E Lw wi hty hn hf (g := mkF m pc Ls (v :: .ref a :: rest)) rfl rfl hd
  exact Run.via st (go T' h' X' e' W)
theorem q_new (X : Stand p l e R s m args below meth c T locs cells slots) (hx : p.tables.exec = Jvm.exec) (hZ : Z.Warmed39 s.vm) {own : String} {index : Nat} (hown : s.vm.findClass own = some m.cls) {C : String} {n : Nat} (hd : decode c.code pc = .ok (.new index, 3)) (w : (Cond.classLink own index C).before a0 Z = true) (wi : (Cond.instantiable C n).before a0 Z = true) (wz : (Cond.initialized C).before a0 Z = true) (eT : T.heap = h) (hc : cells + 1 ≤ R.cells) (hl : slots + n ≤ R.slots) (hp : pc + 3 = pc') (go : ∀ T' h' b, Stand p l e R s m args below meth c T' locs (cells + 1) (slots + n) → T'.heap = h' → Ext h h' → b = h.size → Exa Z h' b C → (∀ {O nm d : String} {ty : FieldType}, Laid Z a0 C O nm d → parseFieldDescriptor d = some ty → Fld Z h' b O nm d (defaultValue ty)) → Run p e below F (T'.setTop (mkF m pc' Ls (.ref b :: rest)))) : Run p e below F (T.setTop (mkF m pc Ls rest)) := by
  subst hp
  obtain ⟨T', h', X', e', E, A, D, -, st⟩ := newO X hx hZ hown w wi wz eT (g := mkF m pc Ls rest) rfl hd hc hl
  exact Run.via st (go T' h' _ X' e' E rfl A D)
theorem q_anew (X : Stand p l e R s m args below meth c T locs cells slots) (hx : p.tables.exec = Jvm.exec) (hZ : Z.Warmed39 s.vm) {own : String} {index : Nat} (hown : s.vm.findClass own = some m.cls) {C : String} {z : Int32} {cap : Nat} (hd : decode c.code pc = .ok (.anewarray index, 3)) (w1 : (Cond.classLink own index C).before a0 Z = true) (w2 : (Cond.arrayOver (.object C)).before a0 Z = true) (eT : T.heap = h) (hn : ¬ z < 0) (hcap : z.toNatClampNeg ≤ cap) (hb : cap * 8 ≤ 536870912) (hc : cells + 1 ≤ R.cells) (hl : slots + cap ≤ R.slots) (hp : pc + 3 = pc') (go : ∀ T' h' b cA, Stand p l e R s m args below meth c T' locs (cells + 1) (slots + cap) → T'.heap = h' → Ext h h' → b = h.size → Arr Z h' b (newA cA (.object C) z) (.object C) → Ovr Z cA C → Run p e below F (T'.setTop (mkF m pc' Ls (.ref b :: rest)))) : Run p e below F (T.setTop (mkF m pc Ls (.int z :: rest))) := by
  subst hp
  obtain ⟨T', h', cA, X', e', E, A, O, st⟩ := newR X hx hZ hown w1 w2 eT (g := mkF m pc Ls (.int z :: rest)) rfl hd rfl hn hcap hb hc hl
  exact Run.via st (go T' h' _ cA X' e' E rfl A O)
theorem q_cast (X : Stand p l e R s m args below meth c T locs cells slots) (hx : p.tables.exec = Jvm.exec) (hZ : Z.Warmed39 s.vm) {own : String} {index : Nat} (hown : s.vm.findClass own = some m.cls) {K : String} {v : Value} (hd : decode c.code pc = .ok (.checkcast index, 3)) (w : (Cond.classLink own index K).before a0 Z = true) (eT : T.heap = h) (B : v = .null ∨ ∃ r, v = .ref r ∧ Ins Z h r K true) (hp : pc + 3 = pc') (go : ∀ T', Stand p l e R s m args below meth c T' locs cells slots → T'.heap = h → Run p e below F (T'.setTop (mkF m pc' Ls (v :: rest)))) : Run p e below F (T.setTop (mkF m pc Ls (v :: rest))) := by
  subst hp
  obtain ⟨T', X', e', st⟩ := castVV X hx hZ hown w eT B (g := mkF m pc Ls (v :: rest)) rfl rfl hd
  exact Run.via st (go T' X' e')
theorem q_aald (X : Stand p l e R s m args below meth c T locs cells slots) (hx : p.tables.exec = Jvm.exec) (hZ : Z.Warmed39 s.vm) {a : Addr} {k : ClassId} {ty : FieldType} {z j : Int32} {vs : List Value} {dv v : Value} (hd : decode c.code pc = .ok (.aaload, 1)) (eT : T.heap = h) (A : Arv Z h a k ty z vs dv) (hty : ty.isReference = true) (hj : ¬ j < 0 ∧ j < z) (hv : vs.getD j.toNatClampNeg dv = v) (hp : pc + 1 = pc') (go : Run p e below F (T.setTop (mkF m pc' Ls (v :: rest)))) : Run p e below F (T.setTop (mkF m pc Ls (.int j :: .ref a :: rest))) := by
  subst hp
  exact Run.via (aaldV X hx hZ eT A hty hj hv (g := mkF m pc Ls (.int j :: .ref a :: rest)) rfl rfl hd) go
theorem q_len (X : Stand p l e R s m args below meth c T locs cells slots) (hx : p.tables.exec = Jvm.exec) (hZ : Z.Warmed39 s.vm) {a : Addr} {k : ClassId} {ty : FieldType} {z : Int32} {vs : List Value} {dv : Value} (hd : decode c.code pc = .ok (.arraylength, 1)) (eT : T.heap = h) (A : Arv Z h a k ty z vs dv) (hp : pc + 1 = pc') (go : Run p e below F (T.setTop (mkF m pc' Ls (.int z :: rest)))) : Run p e below F (T.setTop (mkF m pc Ls (.ref a :: rest))) := by
  subst hp
  exact Run.via (lenV X hx hZ eT A (g := mkF m pc Ls (.ref a :: rest)) rfl rfl hd) go
theorem q_aast (X : Stand p l e R s m args below meth c T locs cells slots) (hx : p.tables.exec = Jvm.exec) (hZ : Z.Warmed39 s.vm) {a : Addr} {k : ClassId} {ty : FieldType} {z j : Int32} {vs : List Value} {dv v : Value} (hd : decode c.code pc = .ok (.aastore, 1)) (eT : T.heap = h) (A : Arv Z h a k ty z vs dv) (hty : ty.isReference = true) (hj : ¬ j < 0 ∧ j < z) {i : Nat} (hi : j.toNatClampNeg = i) (hlen : i < vs.length) (Fs : ∀ cl, Arr Z h a cl ty → cl.cls = k → Sto Z h a v) (hfit : fits ty v = true) (hp : pc + 1 = pc') (go : ∀ T' h', Stand p l e R s m args below meth c T' (locs ++ [⟨a, j.toNatClampNeg⟩]) cells slots → T'.heap = h' → Wr h h' a j.toNatClampNeg v → Arv Z h' a k ty z (vs.set i v) dv → Run p e below F (T'.setTop (mkF m pc' Ls rest))) : Run p e below F (T.setTop (mkF m pc Ls (v :: .int j :: .ref a :: rest))) := by
  subst hp
  obtain ⟨T', h', X', e', W, A', st⟩ := aastV X hx hZ eT A hty hj hi hlen Fs hfit (g := mkF m pc Ls (v :: .int j :: .ref a :: rest)) rfl rfl hd
  exact Run.via st (go T' h' X' e' W A')
theorem q_initO (X : Stand p l e R s m args below meth c T locs cells slots) (hx : p.tables.exec = Jvm.exec) (hZ : Z.Warmed39 s.vm) {own : String} {index : Nat} (hown : s.vm.findClass own = some m.cls) {a : Addr} (hd : decode c.code pc = .ok (.invokespecial index, 3)) (w1 : (Cond.methodLink own index Lib.objectInit).before a0 Z = true) (w2 : (Cond.instanceMethod Lib.objectInit).before a0 Z = true) (w3 : (Cond.code Lib.objectInit ⟨#[0xb1]⟩ 1 none).before a0 Z = true) (eT : T.heap = h) (hsize : Ls.size = c.maxLocals) (hf : 1 ≤ R.frames) {W : Nat} (hW : (rest.map fun v => v.category).sum = W) (hl : W + 12 ≤ R.locals) (hp : pc + 3 = pc') (go : ∀ T', Stand p l e R s m args below meth c T' locs cells slots → T'.heap = h → Run p e below F (T'.setTop (mkF m pc' Ls rest))) : Run p e below F (T.setTop (mkF m pc Ls (.ref a :: rest))) := by
  subst hp
  obtain ⟨T', X', e', st⟩ := initO X hx hZ hown w1 w2 w3 eT (g := mkF m pc Ls (.ref a :: rest)) rfl hsize rfl hd hf (W := W) (by show 2 * 0 + _ ≤ _; omega) hl
  exact Run.via st (go T' X' e')
theorem q_callC (X : Stand p l e R s m args below meth c T locs cells slots) (hx : p.tables.exec = Jvm.exec) (hZ : Z.Warmed39 s.vm) {own : String} {index : Nat} (hown : s.vm.findClass own = some m.cls) {y : MethodName} {bytes : ByteArray} {maxL : Nat} {rm : Room} {P : Option Value → Heap → List Loc → Prop} {ret : Option FieldType} (hd : decode c.code pc = .ok (.invokestatic index, 3)) (w1 : (Cond.methodLink own index y).before a0 Z = true) (w2 : (Cond.static y).before a0 Z = true) (w3 : (Cond.initialized y.cls).before a0 Z = true) (w4 : (Cond.code y bytes maxL ret).before a0 Z = true) (hy : y.cls ≠ "java/lang/invoke/MethodHandle" ∧ y.cls ≠ "java/lang/invoke/VarHandle") (eT : T.heap = h) (argsL : List Value) (K : Ctr l Z y bytes maxL ret rm argsL.toArray h P) (hsize : Ls.size = c.maxLocals) (hlen : ∀ sig, parseMethodDescriptor y.desc = some sig → argsL.length = sig.parameters.length) {W : Nat} (hW : (rest.map fun v => v.category).sum = W) (hf : rm.frames + 1 ≤ R.frames) (hl : W + (maxL + 11) + rm.locals ≤ R.locals) (hc : cells + rm.cells ≤ R.cells) (hsl : slots + rm.slots ≤ R.slots) (hp : pc + 3 = pc') (go : ∀ v T' L, Stand p l e R s m args below meth c T' (locs ++ L) (cells + rm.cells) (slots + rm.slots) → P v T'.heap L → Run p e below F (T'.setTop (mkF m pc' Ls (v.toList ++ rest)))) : Run p e below F (T.setTop (mkF m pc Ls (argsL.reverse ++ rest))) := by
  subst hp
  obtain ⟨v, T', L, X', q, st⟩ := callC X hx hZ hown w1 w2 w3 w4 hy eT (argsL := argsL) (rest := rest) K (g := mkF m pc Ls (argsL.reverse ++ rest)) rfl hsize rfl hd hlen (W := W) (by show 2 * 0 + _ ≤ _; omega) hf hl hc hsl
  exact Run.via st (go v T' L X' q)
theorem q_callV (X : Stand p l e R s m args below meth c T locs cells slots) (hx : p.tables.exec = Jvm.exec) (hZ : Z.Warmed39 s.vm) {own : String} {index : Nat} (hown : s.vm.findClass own = some m.cls) {y : MethodName} {bytes : ByteArray} {maxL : Nat} {rm : Room} {P : Option Value → Heap → List Loc → Prop} {ret : Option FieldType} {C : String} {b : Addr} (hd : decode c.code pc = .ok (.invokevirtual index, 3)) (w1 : (Cond.methodLink own index y).before a0 Z = true) (w2 : (Cond.declares y).before a0 Z = true) (w5 : (Cond.selects C y y).before a0 Z = true) (w6 : (Cond.instanceMethod y).before a0 Z = true) (w3 : (Cond.initialized y.cls).before a0 Z = true) (w4 : (Cond.code y bytes maxL ret).before a0 Z = true) (hy : y.cls ≠ "java/lang/invoke/MethodHandle" ∧ y.cls ≠ "java/lang/invoke/VarHandle") (eT : T.heap = h) (E : Exa Z h b C) (argsL : List Value) (K : Ctr l Z y bytes maxL ret rm (.ref b :: argsL).toArray h P) (hsize : Ls.size = c.maxLocals) (hlen : ∀ sig, parseMethodDescriptor y.desc = some sig → argsL.length = sig.parameters.length) {W : Nat} (hW : (rest.map fun v => v.category).sum = W) (hf : rm.frames + 1 ≤ R.frames) (hl : W + (maxL + 11) + rm.locals ≤ R.locals) (hc : cells + rm.cells ≤ R.cells) (hsl : slots + rm.slots ≤ R.slots) (hp : pc + 3 = pc') (go : ∀ v T' L, Stand p l e R s m args below meth c T' (locs ++ L) (cells + rm.cells) (slots + rm.slots) → P v T'.heap L → Run p e below F (T'.setTop (mkF m pc' Ls (v.toList ++ rest)))) : Run p e below F (T.setTop (mkF m pc Ls (argsL.reverse ++ .ref b :: rest))) := by
  subst hp
  obtain ⟨v, T', L, X', q, st⟩ := callV X hx hZ hown w1 w2 w5 w6 w3 w4 hy eT E (argsL := argsL) (rest := rest) K (g := mkF m pc Ls (argsL.reverse ++ .ref b :: rest)) rfl hsize rfl hd hlen (W := W) (by show 2 * 0 + _ ≤ _; omega) hf hl hc hsl
  exact Run.via st (go v T' L X' q)
theorem q_callN (X : Stand p l e R s m args below meth c T locs cells slots) (hx : p.tables.exec = Jvm.exec) (hZ : Z.Warmed39 s.vm) {own : String} {index : Nat} (hown : s.vm.findClass own = some m.cls) {y : MethodName} {bytes : ByteArray} {maxL : Nat} {rm : Room} {P : Option Value → Heap → List Loc → Prop} {b : Addr} (hd : decode c.code pc = .ok (.invokespecial index, 3)) (hy1 : y.name = "<init>") (w1 : (Cond.methodLink own index y).before a0 Z = true) (w6 : (Cond.instanceMethod y).before a0 Z = true) (w3 : (Cond.initialized y.cls).before a0 Z = true) (w4 : (Cond.code y bytes maxL none).before a0 Z = true) (hy : y.cls ≠ "java/lang/invoke/MethodHandle" ∧ y.cls ≠ "java/lang/invoke/VarHandle") (eT : T.heap = h) (argsL : List Value) (K : Ctr l Z y bytes maxL none rm (.ref b :: argsL).toArray h P) (hsize : Ls.size = c.maxLocals) (hlen : ∀ sig, parseMethodDescriptor y.desc = some sig → argsL.length = sig.parameters.length) {W : Nat} (hW : (rest.map fun v => v.category).sum = W) (hf : rm.frames + 1 ≤ R.frames) (hl : W + (maxL + 11) + rm.locals ≤ R.locals) (hc : cells + rm.cells ≤ R.cells) (hsl : slots + rm.slots ≤ R.slots) (hp : pc + 3 = pc') (go : ∀ v T' L, Stand p l e R s m args below meth c T' (locs ++ L) (cells + rm.cells) (slots + rm.slots) → P v T'.heap L → Run p e below F (T'.setTop (mkF m pc' Ls (v.toList ++ rest)))) : Run p e below F (T.setTop (mkF m pc Ls (argsL.reverse ++ .ref b :: rest))) := by
  subst hp
  obtain ⟨v, T', L, X', q, st⟩ := callN X hx hZ hy1 hown w1 w6 w3 w4 hy eT (argsL := argsL) (rest := rest) K (g := mkF m pc Ls (argsL.reverse ++ .ref b :: rest)) rfl hsize rfl hd hlen (W := W) (by show 2 * 0 + _ ≤ _; omega) hf hl hc hsl
  exact Run.via st (go v T' L X' q)
theorem q_callP (X : Stand p l e R s m args below meth c T locs cells slots) (hx : p.tables.exec = Jvm.exec) (hZ : Z.Warmed39 s.vm) {own : String} {index : Nat} (hown : s.vm.findClass own = some m.cls) {y : MethodName} {bytes : ByteArray} {maxL : Nat} {rm : Room} {P : Option Value → Heap → List Loc → Prop} {ret : Option FieldType} {C : String} {b : Addr} {nn : Nat} (hd : decode c.code pc = .ok (.invokevirtual index, 3)) (w1 : (Cond.methodLink own index y).before a0 Z = true) (w6 : (Cond.instanceMethod y).before a0 Z = true) (w7 : (Cond.privateMethod y).before a0 Z = true) (w8 : (Cond.instantiable y.cls nn).before a0 Z = true) (w3 : (Cond.initialized y.cls).before a0 Z = true) (w4 : (Cond.code y bytes maxL ret).before a0 Z = true) (hy : y.cls ≠ "java/lang/invoke/MethodHandle" ∧ y.cls ≠ "java/lang/invoke/VarHandle") (eT : T.heap = h) (E : Exa Z h b C) (argsL : List Value) (K : Ctr l Z y bytes maxL ret rm (.ref b :: argsL).toArray h P) (hsize : Ls.size = c.maxLocals) (hlen : ∀ sig, parseMethodDescriptor y.desc = some sig → argsL.length = sig.parameters.length) {W : Nat} (hW : (rest.map fun v => v.category).sum = W) (hf : rm.frames + 1 ≤ R.frames) (hl : W + (maxL + 11) + rm.locals ≤ R.locals) (hc : cells + rm.cells ≤ R.cells) (hsl : slots + rm.slots ≤ R.slots) (hp : pc + 3 = pc') (go : ∀ v T' L, Stand p l e R s m args below meth c T' (locs ++ L) (cells + rm.cells) (slots + rm.slots) → P v T'.heap L → Run p e below F (T'.setTop (mkF m pc' Ls (v.toList ++ rest)))) : Run p e below F (T.setTop (mkF m pc Ls (argsL.reverse ++ .ref b :: rest))) := by
  subst hp
  obtain ⟨v, T', L, X', q, st⟩ := callP X hx hZ hown w1 w6 w7 w8 w3 w4 hy eT E (argsL := argsL) (rest := rest) K (g := mkF m pc Ls (argsL.reverse ++ .ref b :: rest)) rfl hsize rfl hd hlen (W := W) (by show 2 * 0 + _ ≤ _; omega) hf hl hc hsl
  exact Run.via st (go v T' L X' q)
end Rows
/-! null, or a box that holds p -/
section Boxes
variable {Z : State} {h h' : Heap} {v w : Value} {q : Int32} {a : Addr} {sl : Nat} {ws : List Addr} {a0 : Array Value}
def Box (Z : State) (h : Heap) (v : Value) (q : Int32) : Prop := v = .null ∨ ∃ r, v = .ref r ∧ Exa Z h r "java/lang/Integer" ∧ Fld Z h r "java/lang/Integer" "value" "I" (.int q)
theorem Box.isRef (B : Box Z h v q) : v.isRef = true := by
  rcases B with rfl | ⟨r, rfl, -⟩ <;> rfl
theorem Box.ext (E : Ext h h') (B : Box Z h v q) : Box Z h' v q := by
  rcases B with rfl | ⟨r, rfl, x, f⟩
  · exact Or.inl rfl
  · exact Or.inr ⟨r, rfl, x.ext E, f.ext E⟩
theorem Box.wr (B : Box Z h v q) (W : Wr h h' a sl w) (u : ∀ r, Exa Z h r "java/lang/Integer" → r ≠ a) : Box Z h' v q := by
  rcases B with rfl | ⟨r, rfl, x, f⟩
  · exact Or.inl rfl
  · exact Or.inr ⟨r, rfl, x.wr W, f.other W (Or.inl (u r x))⟩
theorem Box.keep (B : Box Z h v q) (K : Keep h h' ws) (u : ∀ r, Exa Z h r "java/lang/Integer" → r ∉ ws) : Box Z h' v q := by
  rcases B with rfl | ⟨r, rfl, x, f⟩
  · exact Or.inl rfl
  · exact Or.inr ⟨r, rfl, x.keep K, f.keep K (u r x)⟩
theorem Box.ins (B : Box Z h v q) {K : String} (w : (Cond.castable "java/lang/Integer" K).before a0 Z = true) : v = .null ∨ ∃ r, v = .ref r ∧ Ins Z h r K true := by
  rcases B with rfl | ⟨r, rfl, x, f⟩
  · exact Or.inl rfl
  · exact Or.inr ⟨r, rfl, Ins.of_exa x w⟩
theorem Box.at {r : Addr} (B : Box Z h (.ref r) q) : Exa Z h r "java/lang/Integer" ∧ Fld Z h r "java/lang/Integer" "value" "I" (.int q) := by
  rcases B with u | ⟨r', u, x, f⟩
  · cases u
  · cases u
    exact ⟨x, f⟩
theorem sto_ins {c : Cell} {ty : FieldType} {k : ClassId} {C : String} (A : Arr Z h a c ty) (u : c.cls = k) (O : Ovr Z k C) (I : v = .null ∨ ∃ r, v = .ref r ∧ Ins Z h r C true) : Sto Z h a v := by
  rcases I with rfl | ⟨r, rfl, I⟩
  · exact Or.inl rfl
  · exact Sto.ofV A u O I
/-- null, or an old object of the class -/
def OldV (Z : State) (v : Value) (C : String) : Prop := v = .null ∨ ∃ r, v = .ref r ∧ Exa Z Z.heap r C
theorem OldV.isRef {C : String} (B : OldV Z v C) : v.isRef = true := by
  rcases B with rfl | ⟨r, rfl, -⟩ <;> rfl
theorem OldV.ins {C : String} (B : OldV Z v C) (O : Ext Z.heap h) : v = .null ∨ ∃ r, v = .ref r ∧ Ins Z h r C true := by
  rcases B with rfl | ⟨r, rfl, x⟩
  · exact Or.inl rfl
  · exact Or.inr ⟨r, rfl, Ins.self (x.ext O)⟩
end Boxes
/-! from the words of a case to facts at the start -/
section Start
variable {args : Array Value} {s : State} {t u : Term} {a b : Addr} {C n d : String} {k : Int32}
theorem fld_int (ev : t.eval args s none [] s = some (.ref a)) (q : (Cond.eq (Term.field t C n d) (Term.int k)).value args s none s [] = some true) : Fld s s.heap a C n d (.int k) := by
  refine Fld.start ?_
  rw [← fld_at ev (C := C) (n := n) (dd := d)]
  obtain ⟨x, y, e1, e2, k1, k2⟩ := cmp_v (Or.inl q)
  have e3 : (Term.int k).eval args s none [] s = some (.int k) := Term.int_eval k
  rw [e3] at e2
  cases e2
  obtain ⟨z, rfl⟩ := k2
  rw [e1]
  simp [Cond.value, e1, e3] at q
  rw [q]
theorem fld_null (ev : t.eval args s none [] s = some (.ref a)) (q : (Cond.eq (Term.field t C n d) .null).value args s none s [] = some true) : Fld s s.heap a C n d .null := by
  refine Fld.start ?_
  rw [← fld_at ev (C := C) (n := n) (dd := d)]
  exact null_v q
theorem fld_ref (ev : t.eval args s none [] s = some (.ref a)) (ev2 : u.eval args s none [] s = some (.ref b)) (q : (Cond.eq (Term.field t C n d) u).value args s none s [] = some true) : Fld s s.heap a C n d (.ref b) := by
  refine Fld.start ?_
  rw [← fld_at ev (C := C) (n := n) (dd := d)]
  obtain ⟨x, y, e1, e2, k1, k2⟩ := cmp_v (Or.inl q)
  rw [ev2] at e2
  cases e2
  have hx : x.isRef = true := by
    obtain ⟨-, r⟩ := k2
    exact r
  rw [e1]
  have := gotT (eq_R e1 ev2 hx rfl) q
  rw [this]
theorem eqv_r {X : Term} (ev2 : u.eval args s none [] s = some (.ref b)) (q : (Cond.eq X u).value args s none s [] = some true) : X.eval args s none [] s = some (.ref b) := by
  obtain ⟨x, y, e1, e2, k1, k2⟩ := cmp_v (Or.inl q)
  rw [ev2] at e2
  cases e2
  have hx : x.isRef = true := by
    obtain ⟨-, r⟩ := k2
    exact r
  rw [e1, gotT (eq_R e1 ev2 hx rfl) q]
theorem elem_start {c : Cell} {X : Term} {j : Int32} {v : Value} (ev : t.eval args s none [] s = some (.ref a)) (A : s.heap[a]? = some c) (q : (Term.elem t (Term.int j)).eval args s none [] s = some v) : c.slots[j.toNatClampNeg]? = some v :=
  (elem_in q ev (Term.int_eval j) A).2
theorem len_start {c : Cell} {ty : FieldType} {z : Int32} (et : t.eval args s none [] s = some (.ref a)) (A : Arr s s.heap a c ty) (q : (Cond.eq (Term.length t) (Term.int z)).value args s none s [] = some true) : c.slots.size < 2 ^ 31 ∧ c.slots.size.toInt32 = z := by
  have ev := eqv_i (Term.int_eval z) q
  have ha := A.fin (Vm.Alike.refl _)
  simp only [Term.eval, et, ha, Option.bind_eq_bind, Option.bind_some, Option.pure_def] at ev
  by_cases r : c.slots.size < 2 ^ 31
  · rw [if_pos r] at ev
    refine ⟨r, ?_⟩
    cases ev
    rfl
  · rw [if_neg r] at ev
    cases ev
theorem cache_start {c : Cell} (et : ∀ idx, t.eval args s none idx s = some (.ref a)) (A : Arr s s.heap a c (.object "java/lang/Integer")) (h6 : (Cond.eq (Term.length t) (Term.int 256)).value args s none s [] = some true)
    (h7 : (Cond.all t (.and (.exactly (.elem t (.index 0)) "java/lang/Integer") (.eq (.field (.elem t (.index 0)) "java/lang/Integer" "value" "I") (.sub (.index 0) (.int 128))))).value args s none s [] = some true) : Bxs s a c "java/lang/Integer" "I" 256 (fun j => .int (j - 128)) := by
  obtain ⟨q1, q2⟩ := len_start (et []) A h6
  refine Bxs.start et A q1 q2 (by decide) h7 fun X j nn u => ?_
  have e1 : (Term.sub (.index 0) (.int 128)).eval args s none [j.toNatClampNeg] s = some (.int (j - 128)) := by
    simp [Term.eval, idx_at nn, Term.int_eval, (back32 nn).1]
  exact eqv_i e1 u
theorem arv0_start {c : Cell} {ty : FieldType} (hf : Fit s) (et : t.eval args s none [] s = some (.ref a)) (A : Arr s s.heap a c ty) (q : (Cond.eq (Term.length t) (Term.int 0)).value args s none s [] = some true) : Arv s s.heap a c.cls ty 0 [] .null := by
  obtain ⟨q1, q2⟩ := len_start et A q
  exact Arv.start hf A q1 q2 (by decide) rfl trivial
end Start
theorem cache_idx {p : Int32} (h1 : if_icmp.holds .lt p (-128) = false) (h2 : if_icmp.holds .gt p 127 = false) {c : Cell} (S : c.slots.size = (256 : Int32).toNatClampNeg) : ¬ ((p + 128) < 0 ∨ c.slots.size ≤ (p + 128).toNatClampNeg) := by
  have a1 : ¬ p < -128 := by simpa [if_icmp.holds] using h1
  have a2 : ¬ 127 < p := by simpa [if_icmp.holds] using h2
  have q := c_iadd p 128
  have r1 := rng32 p
  have r2 := rng32 (p + 128)
  have k1 : (-128 : Int32).toInt = -128 := by decide
  have k2 : (127 : Int32).toInt = 127 := by decide
  have k3 : (128 : Int32).toInt = 128 := by decide
  have k4 : (256 : Int32).toInt = 256 := by decide
  have k5 : (0 : Int32).toInt = 0 := by decide
  rw [Int32.lt_iff_toInt_lt] at a1 a2
  refine inb_of S ⟨?_, ?_⟩ <;> rw [Int32.lt_iff_toInt_lt] <;> omega
theorem back128 (p : Int32) : p + 128 - 128 = p := by
  have q := c_iadd p 128
  have q2 := c_isub (p + 128) 128
  have r1 := rng32 p
  have r2 := rng32 (p + 128 - 128)
  refine Int32.toInt_inj.mp ?_
  omega
end Jvm.OwnKit
namespace Jvm.Pilot.@@N@@
open Jvm Jvm.ClassFile Sem Op Lib Jvm.Free Jvm.Stand Jvm.LawKit Jvm.RoadKit Jvm.OwnKit Bundle Jvm.Pilot.@@N@@.Jvm.D
abbrev y0 : MethodName := ⟨"com/example/centdb/centdb/usage/TokenKindInPromptPinLaw", "pick", "(I)Lcom/example/centdb/centdb/usage/TokenKind;"⟩
abbrev y1 : MethodName := ⟨"com/example/centdb/centdb/usage/TokenKind", "inPrompt", "()Z"⟩
abbrev y2 : MethodName := ⟨"com/example/centdb/centdb/usage/TokenKind", "inAllTokens", "()Z"⟩
theorem t0 {a0 : Array Value} {Z : State} (hw : ∀ d ∈ tables_1, d.before a0 Z = true) : (Jvm.Cond.constant "com/example/centdb/centdb/usage/TokenKindInPromptPinLaw" (40 : Nat) (2147483647 : Int32)).before a0 Z = true := hw _ (List.mem_of_getElem? (i := 0) rfl)
theorem t1 {a0 : Array Value} {Z : State} (hw : ∀ d ∈ tables_1, d.before a0 Z = true) : (Jvm.Cond.methodLink "com/example/centdb/centdb/usage/TokenKindInPromptPinLaw" (41 : Nat) ({ cls := "com/example/centdb/centdb/usage/TokenKindInPromptPinLaw", name := "pick", desc := "(I)Lcom/example/centdb/centdb/usage/TokenKind;" } : Jvm.MethodName)).before a0 Z = true := hw _ (List.mem_of_getElem? (i := 1) rfl)
theorem t2 {a0 : Array Value} {Z : State} (hw : ∀ d ∈ tables_1, d.before a0 Z = true) : (Jvm.Cond.static ({ cls := "com/example/centdb/centdb/usage/TokenKindInPromptPinLaw", name := "pick", desc := "(I)Lcom/example/centdb/centdb/usage/TokenKind;" } : Jvm.MethodName)).before a0 Z = true := hw _ (List.mem_of_getElem? (i := 2) rfl)
theorem t3 {a0 : Array Value} {Z : State} (hw : ∀ d ∈ tables_1, d.before a0 Z = true) : (Jvm.Cond.initialized "com/example/centdb/centdb/usage/TokenKindInPromptPinLaw").before a0 Z = true := hw _ (List.mem_of_getElem? (i := 3) rfl)
theorem t4 {a0 : Array Value} {Z : State} (hw : ∀ d ∈ tables_1, d.before a0 Z = true) : (Jvm.Cond.code ({ cls := "com/example/centdb/centdb/usage/TokenKindInPromptPinLaw", name := "pick", desc := "(I)Lcom/example/centdb/centdb/usage/TokenKind;" } : Jvm.MethodName) method_2_code (1 : Nat) (Option.some (Jvm.ClassFile.FieldType.object "com/example/centdb/centdb/usage/TokenKind"))).before a0 Z = true := hw _ (List.mem_of_getElem? (i := 4) rfl)
theorem t5 {a0 : Array Value} {Z : State} (hw : ∀ d ∈ tables_1, d.before a0 Z = true) : (Jvm.Cond.fieldLink "com/example/centdb/centdb/usage/TokenKindInPromptPinLaw" (7 : Nat) "com/example/centdb/centdb/usage/TokenKind" "INPUT" "Lcom/example/centdb/centdb/usage/TokenKind;").before a0 Z = true := hw _ (List.mem_of_getElem? (i := 5) rfl)
theorem t6 {a0 : Array Value} {Z : State} (hw : ∀ d ∈ tables_1, d.before a0 Z = true) : (Jvm.Cond.initialized "com/example/centdb/centdb/usage/TokenKind").before a0 Z = true := hw _ (List.mem_of_getElem? (i := 6) rfl)
theorem t7 {a0 : Array Value} {Z : State} (hw : ∀ d ∈ tables_1, d.before a0 Z = true) : (Jvm.Cond.laysStatic "com/example/centdb/centdb/usage/TokenKind" "INPUT" "Lcom/example/centdb/centdb/usage/TokenKind;").before a0 Z = true := hw _ (List.mem_of_getElem? (i := 7) rfl)
theorem t8 {a0 : Array Value} {Z : State} (hw : ∀ d ∈ tables_1, d.before a0 Z = true) : (Jvm.Cond.methodLink "com/example/centdb/centdb/usage/TokenKindInPromptPinLaw" (47 : Nat) ({ cls := "com/example/centdb/centdb/usage/TokenKind", name := "inPrompt", desc := "()Z" } : Jvm.MethodName)).before a0 Z = true := hw _ (List.mem_of_getElem? (i := 8) rfl)
theorem t9 {a0 : Array Value} {Z : State} (hw : ∀ d ∈ tables_1, d.before a0 Z = true) : (Jvm.Cond.declares ({ cls := "com/example/centdb/centdb/usage/TokenKind", name := "inPrompt", desc := "()Z" } : Jvm.MethodName)).before a0 Z = true := hw _ (List.mem_of_getElem? (i := 9) rfl)
theorem t10 {a0 : Array Value} {Z : State} (hw : ∀ d ∈ tables_1, d.before a0 Z = true) : (Jvm.Cond.instanceMethod ({ cls := "com/example/centdb/centdb/usage/TokenKind", name := "inPrompt", desc := "()Z" } : Jvm.MethodName)).before a0 Z = true := hw _ (List.mem_of_getElem? (i := 10) rfl)
theorem t11 {a0 : Array Value} {Z : State} (hw : ∀ d ∈ tables_1, d.before a0 Z = true) : (Jvm.Cond.selects "com/example/centdb/centdb/usage/TokenKind" ({ cls := "com/example/centdb/centdb/usage/TokenKind", name := "inPrompt", desc := "()Z" } : Jvm.MethodName) ({ cls := "com/example/centdb/centdb/usage/TokenKind", name := "inPrompt", desc := "()Z" } : Jvm.MethodName)).before a0 Z = true := hw _ (List.mem_of_getElem? (i := 11) rfl)
theorem t12 {a0 : Array Value} {Z : State} (hw : ∀ d ∈ tables_1, d.before a0 Z = true) : (Jvm.Cond.code ({ cls := "com/example/centdb/centdb/usage/TokenKind", name := "inPrompt", desc := "()Z" } : Jvm.MethodName) prog_27_method_7_code (1 : Nat) (Option.some Jvm.ClassFile.FieldType.boolean)).before a0 Z = true := hw _ (List.mem_of_getElem? (i := 12) rfl)
theorem t13 {a0 : Array Value} {Z : State} (hw : ∀ d ∈ tables_1, d.before a0 Z = true) : (Jvm.Cond.fieldLink "com/example/centdb/centdb/usage/TokenKind" (57 : Nat) "com/example/centdb/centdb/usage/TokenKind" "unit" "Lcom/example/centdb/centdb/usage/TokenKind$Unit;").before a0 Z = true := hw _ (List.mem_of_getElem? (i := 13) rfl)
theorem t15 {a0 : Array Value} {Z : State} (hw : ∀ d ∈ tables_1, d.before a0 Z = true) : (Jvm.Cond.initialized "com/example/centdb/centdb/usage/TokenKind$Unit").before a0 Z = true := hw _ (List.mem_of_getElem? (i := 15) rfl)
theorem t16 {a0 : Array Value} {Z : State} (hw : ∀ d ∈ tables_1, d.before a0 Z = true) : (Jvm.Cond.laysStatic "com/example/centdb/centdb/usage/TokenKind$Unit" "PROMPT_TOKENS" "Lcom/example/centdb/centdb/usage/TokenKind$Unit;").before a0 Z = true := hw _ (List.mem_of_getElem? (i := 16) rfl)
theorem t17 {a0 : Array Value} {Z : State} (hw : ∀ d ∈ tables_1, d.before a0 Z = true) : (Jvm.Cond.fieldLink "com/example/centdb/centdb/usage/TokenKind" (70 : Nat) "com/example/centdb/centdb/usage/TokenKind$Unit" "PROMPT_TOKENS" "Lcom/example/centdb/centdb/usage/TokenKind$Unit;").before a0 Z = true := hw _ (List.mem_of_getElem? (i := 17) rfl)
theorem t18 {a0 : Array Value} {Z : State} (hw : ∀ d ∈ tables_1, d.before a0 Z = true) : (Jvm.Cond.fieldLink "com/example/centdb/centdb/usage/TokenKind" (61 : Nat) "com/example/centdb/centdb/usage/TokenKind" "whole" "Lcom/example/centdb/centdb/usage/TokenKind;").before a0 Z = true := hw _ (List.mem_of_getElem? (i := 18) rfl)
theorem t20 {a0 : Array Value} {Z : State} (hw : ∀ d ∈ tables_1, d.before a0 Z = true) : (Jvm.Cond.methodLink "com/example/centdb/centdb/usage/TokenKindInPromptPinLaw" (51 : Nat) ({ cls := "com/example/centdb/centdb/usage/TokenKind", name := "inAllTokens", desc := "()Z" } : Jvm.MethodName)).before a0 Z = true := hw _ (List.mem_of_getElem? (i := 20) rfl)
theorem t21 {a0 : Array Value} {Z : State} (hw : ∀ d ∈ tables_1, d.before a0 Z = true) : (Jvm.Cond.declares ({ cls := "com/example/centdb/centdb/usage/TokenKind", name := "inAllTokens", desc := "()Z" } : Jvm.MethodName)).before a0 Z = true := hw _ (List.mem_of_getElem? (i := 21) rfl)
theorem t22 {a0 : Array Value} {Z : State} (hw : ∀ d ∈ tables_1, d.before a0 Z = true) : (Jvm.Cond.instanceMethod ({ cls := "com/example/centdb/centdb/usage/TokenKind", name := "inAllTokens", desc := "()Z" } : Jvm.MethodName)).before a0 Z = true := hw _ (List.mem_of_getElem? (i := 22) rfl)
theorem t23 {a0 : Array Value} {Z : State} (hw : ∀ d ∈ tables_1, d.before a0 Z = true) : (Jvm.Cond.selects "com/example/centdb/centdb/usage/TokenKind" ({ cls := "com/example/centdb/centdb/usage/TokenKind", name := "inAllTokens", desc := "()Z" } : Jvm.MethodName) ({ cls := "com/example/centdb/centdb/usage/TokenKind", name := "inAllTokens", desc := "()Z" } : Jvm.MethodName)).before a0 Z = true := hw _ (List.mem_of_getElem? (i := 23) rfl)
theorem t24 {a0 : Array Value} {Z : State} (hw : ∀ d ∈ tables_1, d.before a0 Z = true) : (Jvm.Cond.code ({ cls := "com/example/centdb/centdb/usage/TokenKind", name := "inAllTokens", desc := "()Z" } : Jvm.MethodName) prog_27_method_8_code (1 : Nat) (Option.some Jvm.ClassFile.FieldType.boolean)).before a0 Z = true := hw _ (List.mem_of_getElem? (i := 24) rfl)
theorem t25 {a0 : Array Value} {Z : State} (hw : ∀ d ∈ tables_1, d.before a0 Z = true) : (Jvm.Cond.fieldLink "com/example/centdb/centdb/usage/TokenKind" (75 : Nat) "com/example/centdb/centdb/usage/TokenKind$Unit" "USES" "Lcom/example/centdb/centdb/usage/TokenKind$Unit;").before a0 Z = true := hw _ (List.mem_of_getElem? (i := 25) rfl)
theorem t26 {a0 : Array Value} {Z : State} (hw : ∀ d ∈ tables_1, d.before a0 Z = true) : (Jvm.Cond.laysStatic "com/example/centdb/centdb/usage/TokenKind$Unit" "USES" "Lcom/example/centdb/centdb/usage/TokenKind$Unit;").before a0 Z = true := hw _ (List.mem_of_getElem? (i := 26) rfl)
theorem t27 {a0 : Array Value} {Z : State} (hw : ∀ d ∈ tables_1, d.before a0 Z = true) : (Jvm.Cond.fieldLink "com/example/centdb/centdb/usage/TokenKindInPromptPinLaw" (19 : Nat) "com/example/centdb/centdb/usage/TokenKind" "CACHE_WRITE_1H" "Lcom/example/centdb/centdb/usage/TokenKind;").before a0 Z = true := hw _ (List.mem_of_getElem? (i := 27) rfl)
theorem t28 {a0 : Array Value} {Z : State} (hw : ∀ d ∈ tables_1, d.before a0 Z = true) : (Jvm.Cond.laysStatic "com/example/centdb/centdb/usage/TokenKind" "CACHE_WRITE_1H" "Lcom/example/centdb/centdb/usage/TokenKind;").before a0 Z = true := hw _ (List.mem_of_getElem? (i := 28) rfl)
theorem t29 {a0 : Array Value} {Z : State} (hw : ∀ d ∈ tables_1, d.before a0 Z = true) : (Jvm.Cond.fieldLink "com/example/centdb/centdb/usage/TokenKindInPromptPinLaw" (13 : Nat) "com/example/centdb/centdb/usage/TokenKind" "CACHE_READ" "Lcom/example/centdb/centdb/usage/TokenKind;").before a0 Z = true := hw _ (List.mem_of_getElem? (i := 29) rfl)
theorem t30 {a0 : Array Value} {Z : State} (hw : ∀ d ∈ tables_1, d.before a0 Z = true) : (Jvm.Cond.laysStatic "com/example/centdb/centdb/usage/TokenKind" "CACHE_READ" "Lcom/example/centdb/centdb/usage/TokenKind;").before a0 Z = true := hw _ (List.mem_of_getElem? (i := 30) rfl)
theorem t31 {a0 : Array Value} {Z : State} (hw : ∀ d ∈ tables_1, d.before a0 Z = true) : (Jvm.Cond.fieldLink "com/example/centdb/centdb/usage/TokenKindInPromptPinLaw" (22 : Nat) "com/example/centdb/centdb/usage/TokenKind" "OUTPUT" "Lcom/example/centdb/centdb/usage/TokenKind;").before a0 Z = true := hw _ (List.mem_of_getElem? (i := 31) rfl)
theorem t32 {a0 : Array Value} {Z : State} (hw : ∀ d ∈ tables_1, d.before a0 Z = true) : (Jvm.Cond.laysStatic "com/example/centdb/centdb/usage/TokenKind" "OUTPUT" "Lcom/example/centdb/centdb/usage/TokenKind;").before a0 Z = true := hw _ (List.mem_of_getElem? (i := 32) rfl)
theorem t33 {a0 : Array Value} {Z : State} (hw : ∀ d ∈ tables_1, d.before a0 Z = true) : (Jvm.Cond.laysStatic "com/example/centdb/centdb/usage/TokenKind$Unit" "OUTPUT_TOKENS" "Lcom/example/centdb/centdb/usage/TokenKind$Unit;").before a0 Z = true := hw _ (List.mem_of_getElem? (i := 33) rfl)
theorem t34 {a0 : Array Value} {Z : State} (hw : ∀ d ∈ tables_1, d.before a0 Z = true) : (Jvm.Cond.fieldLink "com/example/centdb/centdb/usage/TokenKindInPromptPinLaw" (31 : Nat) "com/example/centdb/centdb/usage/TokenKind" "CACHE_READ_AUDIO" "Lcom/example/centdb/centdb/usage/TokenKind;").before a0 Z = true := hw _ (List.mem_of_getElem? (i := 34) rfl)
theorem t35 {a0 : Array Value} {Z : State} (hw : ∀ d ∈ tables_1, d.before a0 Z = true) : (Jvm.Cond.laysStatic "com/example/centdb/centdb/usage/TokenKind" "CACHE_READ_AUDIO" "Lcom/example/centdb/centdb/usage/TokenKind;").before a0 Z = true := hw _ (List.mem_of_getElem? (i := 35) rfl)
theorem t36 {a0 : Array Value} {Z : State} (hw : ∀ d ∈ tables_1, d.before a0 Z = true) : (Jvm.Cond.fieldLink "com/example/centdb/centdb/usage/TokenKindInPromptPinLaw" (16 : Nat) "com/example/centdb/centdb/usage/TokenKind" "CACHE_WRITE" "Lcom/example/centdb/centdb/usage/TokenKind;").before a0 Z = true := hw _ (List.mem_of_getElem? (i := 36) rfl)
theorem t37 {a0 : Array Value} {Z : State} (hw : ∀ d ∈ tables_1, d.before a0 Z = true) : (Jvm.Cond.laysStatic "com/example/centdb/centdb/usage/TokenKind" "CACHE_WRITE" "Lcom/example/centdb/centdb/usage/TokenKind;").before a0 Z = true := hw _ (List.mem_of_getElem? (i := 37) rfl)
theorem t38 {a0 : Array Value} {Z : State} (hw : ∀ d ∈ tables_1, d.before a0 Z = true) : (Jvm.Cond.fieldLink "com/example/centdb/centdb/usage/TokenKindInPromptPinLaw" (34 : Nat) "com/example/centdb/centdb/usage/TokenKind" "OUTPUT_AUDIO" "Lcom/example/centdb/centdb/usage/TokenKind;").before a0 Z = true := hw _ (List.mem_of_getElem? (i := 38) rfl)
theorem t39 {a0 : Array Value} {Z : State} (hw : ∀ d ∈ tables_1, d.before a0 Z = true) : (Jvm.Cond.laysStatic "com/example/centdb/centdb/usage/TokenKind" "OUTPUT_AUDIO" "Lcom/example/centdb/centdb/usage/TokenKind;").before a0 Z = true := hw _ (List.mem_of_getElem? (i := 39) rfl)
theorem t40 {a0 : Array Value} {Z : State} (hw : ∀ d ∈ tables_1, d.before a0 Z = true) : (Jvm.Cond.fieldLink "com/example/centdb/centdb/usage/TokenKindInPromptPinLaw" (37 : Nat) "com/example/centdb/centdb/usage/TokenKind" "WEB_SEARCHES" "Lcom/example/centdb/centdb/usage/TokenKind;").before a0 Z = true := hw _ (List.mem_of_getElem? (i := 40) rfl)
theorem t41 {a0 : Array Value} {Z : State} (hw : ∀ d ∈ tables_1, d.before a0 Z = true) : (Jvm.Cond.laysStatic "com/example/centdb/centdb/usage/TokenKind" "WEB_SEARCHES" "Lcom/example/centdb/centdb/usage/TokenKind;").before a0 Z = true := hw _ (List.mem_of_getElem? (i := 41) rfl)
theorem t42 {a0 : Array Value} {Z : State} (hw : ∀ d ∈ tables_1, d.before a0 Z = true) : (Jvm.Cond.fieldLink "com/example/centdb/centdb/usage/TokenKindInPromptPinLaw" (25 : Nat) "com/example/centdb/centdb/usage/TokenKind" "REASONING" "Lcom/example/centdb/centdb/usage/TokenKind;").before a0 Z = true := hw _ (List.mem_of_getElem? (i := 42) rfl)
theorem t43 {a0 : Array Value} {Z : State} (hw : ∀ d ∈ tables_1, d.before a0 Z = true) : (Jvm.Cond.laysStatic "com/example/centdb/centdb/usage/TokenKind" "REASONING" "Lcom/example/centdb/centdb/usage/TokenKind;").before a0 Z = true := hw _ (List.mem_of_getElem? (i := 43) rfl)
theorem t44 {a0 : Array Value} {Z : State} (hw : ∀ d ∈ tables_1, d.before a0 Z = true) : (Jvm.Cond.fieldLink "com/example/centdb/centdb/usage/TokenKindInPromptPinLaw" (28 : Nat) "com/example/centdb/centdb/usage/TokenKind" "INPUT_AUDIO" "Lcom/example/centdb/centdb/usage/TokenKind;").before a0 Z = true := hw _ (List.mem_of_getElem? (i := 44) rfl)
theorem t45 {a0 : Array Value} {Z : State} (hw : ∀ d ∈ tables_1, d.before a0 Z = true) : (Jvm.Cond.laysStatic "com/example/centdb/centdb/usage/TokenKind" "INPUT_AUDIO" "Lcom/example/centdb/centdb/usage/TokenKind;").before a0 Z = true := hw _ (List.mem_of_getElem? (i := 45) rfl)
def World (Z : State) (w_INPUT : Addr) (w_PROMPT_TOKENS : Addr) (w_USES : Addr) (w_CACHE_WRITE_1H : Addr) (w_CACHE_READ : Addr) (w_OUTPUT : Addr) (w_OUTPUT_TOKENS : Addr) (w_CACHE_READ_AUDIO : Addr) (w_CACHE_WRITE : Addr) (w_OUTPUT_AUDIO : Addr) (w_WEB_SEARCHES : Addr) (w_REASONING : Addr) (w_INPUT_AUDIO : Addr) : Prop :=
  Sta Z Z.heap "com/example/centdb/centdb/usage/TokenKind" "INPUT" "Lcom/example/centdb/centdb/usage/TokenKind;" (.ref w_INPUT) ∧
  Exa Z Z.heap w_INPUT "com/example/centdb/centdb/usage/TokenKind" ∧
  Sta Z Z.heap "com/example/centdb/centdb/usage/TokenKind$Unit" "PROMPT_TOKENS" "Lcom/example/centdb/centdb/usage/TokenKind$Unit;" (.ref w_PROMPT_TOKENS) ∧
  Exa Z Z.heap w_PROMPT_TOKENS "com/example/centdb/centdb/usage/TokenKind$Unit" ∧
  Sta Z Z.heap "com/example/centdb/centdb/usage/TokenKind$Unit" "USES" "Lcom/example/centdb/centdb/usage/TokenKind$Unit;" (.ref w_USES) ∧
  Exa Z Z.heap w_USES "com/example/centdb/centdb/usage/TokenKind$Unit" ∧
  Sta Z Z.heap "com/example/centdb/centdb/usage/TokenKind" "CACHE_WRITE_1H" "Lcom/example/centdb/centdb/usage/TokenKind;" (.ref w_CACHE_WRITE_1H) ∧
  Exa Z Z.heap w_CACHE_WRITE_1H "com/example/centdb/centdb/usage/TokenKind" ∧
  Sta Z Z.heap "com/example/centdb/centdb/usage/TokenKind" "CACHE_READ" "Lcom/example/centdb/centdb/usage/TokenKind;" (.ref w_CACHE_READ) ∧
  Exa Z Z.heap w_CACHE_READ "com/example/centdb/centdb/usage/TokenKind" ∧
  Sta Z Z.heap "com/example/centdb/centdb/usage/TokenKind" "OUTPUT" "Lcom/example/centdb/centdb/usage/TokenKind;" (.ref w_OUTPUT) ∧
  Exa Z Z.heap w_OUTPUT "com/example/centdb/centdb/usage/TokenKind" ∧
  Sta Z Z.heap "com/example/centdb/centdb/usage/TokenKind$Unit" "OUTPUT_TOKENS" "Lcom/example/centdb/centdb/usage/TokenKind$Unit;" (.ref w_OUTPUT_TOKENS) ∧
  Exa Z Z.heap w_OUTPUT_TOKENS "com/example/centdb/centdb/usage/TokenKind$Unit" ∧
  Sta Z Z.heap "com/example/centdb/centdb/usage/TokenKind" "CACHE_READ_AUDIO" "Lcom/example/centdb/centdb/usage/TokenKind;" (.ref w_CACHE_READ_AUDIO) ∧
  Exa Z Z.heap w_CACHE_READ_AUDIO "com/example/centdb/centdb/usage/TokenKind" ∧
  Sta Z Z.heap "com/example/centdb/centdb/usage/TokenKind" "CACHE_WRITE" "Lcom/example/centdb/centdb/usage/TokenKind;" (.ref w_CACHE_WRITE) ∧
  Exa Z Z.heap w_CACHE_WRITE "com/example/centdb/centdb/usage/TokenKind" ∧
  Sta Z Z.heap "com/example/centdb/centdb/usage/TokenKind" "OUTPUT_AUDIO" "Lcom/example/centdb/centdb/usage/TokenKind;" (.ref w_OUTPUT_AUDIO) ∧
  Exa Z Z.heap w_OUTPUT_AUDIO "com/example/centdb/centdb/usage/TokenKind" ∧
  Sta Z Z.heap "com/example/centdb/centdb/usage/TokenKind" "WEB_SEARCHES" "Lcom/example/centdb/centdb/usage/TokenKind;" (.ref w_WEB_SEARCHES) ∧
  Exa Z Z.heap w_WEB_SEARCHES "com/example/centdb/centdb/usage/TokenKind" ∧
  Sta Z Z.heap "com/example/centdb/centdb/usage/TokenKind" "REASONING" "Lcom/example/centdb/centdb/usage/TokenKind;" (.ref w_REASONING) ∧
  Exa Z Z.heap w_REASONING "com/example/centdb/centdb/usage/TokenKind" ∧
  Sta Z Z.heap "com/example/centdb/centdb/usage/TokenKind" "INPUT_AUDIO" "Lcom/example/centdb/centdb/usage/TokenKind;" (.ref w_INPUT_AUDIO) ∧
  Exa Z Z.heap w_INPUT_AUDIO "com/example/centdb/centdb/usage/TokenKind" ∧
  Fld Z Z.heap w_INPUT "com/example/centdb/centdb/usage/TokenKind" "unit" "Lcom/example/centdb/centdb/usage/TokenKind$Unit;" (.ref w_PROMPT_TOKENS) ∧
  Fld Z Z.heap w_INPUT "com/example/centdb/centdb/usage/TokenKind" "whole" "Lcom/example/centdb/centdb/usage/TokenKind;" .null ∧
  Fld Z Z.heap w_PROMPT_TOKENS "java/lang/Enum" "ordinal" "I" (.int (0 : Int32)) ∧
  Fld Z Z.heap w_USES "java/lang/Enum" "ordinal" "I" (.int (2 : Int32)) ∧
  Fld Z Z.heap w_CACHE_WRITE_1H "com/example/centdb/centdb/usage/TokenKind" "unit" "Lcom/example/centdb/centdb/usage/TokenKind$Unit;" (.ref w_PROMPT_TOKENS) ∧
  Fld Z Z.heap w_CACHE_WRITE_1H "com/example/centdb/centdb/usage/TokenKind" "whole" "Lcom/example/centdb/centdb/usage/TokenKind;" .null ∧
  Fld Z Z.heap w_CACHE_READ "com/example/centdb/centdb/usage/TokenKind" "unit" "Lcom/example/centdb/centdb/usage/TokenKind$Unit;" (.ref w_PROMPT_TOKENS) ∧
  Fld Z Z.heap w_CACHE_READ "com/example/centdb/centdb/usage/TokenKind" "whole" "Lcom/example/centdb/centdb/usage/TokenKind;" .null ∧
  Fld Z Z.heap w_OUTPUT "com/example/centdb/centdb/usage/TokenKind" "unit" "Lcom/example/centdb/centdb/usage/TokenKind$Unit;" (.ref w_OUTPUT_TOKENS) ∧
  Fld Z Z.heap w_OUTPUT_TOKENS "java/lang/Enum" "ordinal" "I" (.int (1 : Int32)) ∧
  Fld Z Z.heap w_CACHE_READ_AUDIO "com/example/centdb/centdb/usage/TokenKind" "unit" "Lcom/example/centdb/centdb/usage/TokenKind$Unit;" (.ref w_PROMPT_TOKENS) ∧
  Fld Z Z.heap w_CACHE_READ_AUDIO "com/example/centdb/centdb/usage/TokenKind" "whole" "Lcom/example/centdb/centdb/usage/TokenKind;" (.ref w_CACHE_READ) ∧
  Fld Z Z.heap w_CACHE_WRITE "com/example/centdb/centdb/usage/TokenKind" "unit" "Lcom/example/centdb/centdb/usage/TokenKind$Unit;" (.ref w_PROMPT_TOKENS) ∧
  Fld Z Z.heap w_CACHE_WRITE "com/example/centdb/centdb/usage/TokenKind" "whole" "Lcom/example/centdb/centdb/usage/TokenKind;" .null ∧
  Fld Z Z.heap w_OUTPUT_AUDIO "com/example/centdb/centdb/usage/TokenKind" "unit" "Lcom/example/centdb/centdb/usage/TokenKind$Unit;" (.ref w_OUTPUT_TOKENS) ∧
  Fld Z Z.heap w_WEB_SEARCHES "com/example/centdb/centdb/usage/TokenKind" "unit" "Lcom/example/centdb/centdb/usage/TokenKind$Unit;" (.ref w_USES) ∧
  Fld Z Z.heap w_REASONING "com/example/centdb/centdb/usage/TokenKind" "unit" "Lcom/example/centdb/centdb/usage/TokenKind$Unit;" (.ref w_OUTPUT_TOKENS) ∧
  Fld Z Z.heap w_INPUT_AUDIO "com/example/centdb/centdb/usage/TokenKind" "unit" "Lcom/example/centdb/centdb/usage/TokenKind$Unit;" (.ref w_PROMPT_TOKENS) ∧
  Fld Z Z.heap w_INPUT_AUDIO "com/example/centdb/centdb/usage/TokenKind" "whole" "Lcom/example/centdb/centdb/usage/TokenKind;" (.ref w_INPUT) ∧
  Fld Z Z.heap w_OUTPUT "com/example/centdb/centdb/usage/TokenKind" "whole" "Lcom/example/centdb/centdb/usage/TokenKind;" .null ∧
  Fld Z Z.heap w_OUTPUT_AUDIO "com/example/centdb/centdb/usage/TokenKind" "whole" "Lcom/example/centdb/centdb/usage/TokenKind;" (.ref w_OUTPUT) ∧
  Fld Z Z.heap w_WEB_SEARCHES "com/example/centdb/centdb/usage/TokenKind" "whole" "Lcom/example/centdb/centdb/usage/TokenKind;" .null ∧
  Fld Z Z.heap w_REASONING "com/example/centdb/centdb/usage/TokenKind" "whole" "Lcom/example/centdb/centdb/usage/TokenKind;" (.ref w_OUTPUT)
theorem own_sel (x : Int32) : (x &&& (2147483647 : Int32)) % (10 : Int32) = (0 : Int32) ∨ (x &&& (2147483647 : Int32)) % (10 : Int32) = (1 : Int32) ∨ (x &&& (2147483647 : Int32)) % (10 : Int32) = (2 : Int32) ∨ (x &&& (2147483647 : Int32)) % (10 : Int32) = (3 : Int32) ∨ (x &&& (2147483647 : Int32)) % (10 : Int32) = (4 : Int32) ∨ (x &&& (2147483647 : Int32)) % (10 : Int32) = (5 : Int32) ∨ (x &&& (2147483647 : Int32)) % (10 : Int32) = (6 : Int32) ∨ (x &&& (2147483647 : Int32)) % (10 : Int32) = (7 : Int32) ∨ (x &&& (2147483647 : Int32)) % (10 : Int32) = (8 : Int32) ∨ (x &&& (2147483647 : Int32)) % (10 : Int32) = (9 : Int32) := by
  have q := (c_and x 2147483647 (by decide)).1
  have q2 := (c_irem (x &&& 2147483647) 10 10 (by decide)).1 q
  have r : ((x &&& 2147483647) % 10).toInt = 0 ∨ ((x &&& 2147483647) % 10).toInt = 1 ∨ ((x &&& 2147483647) % 10).toInt = 2 ∨ ((x &&& 2147483647) % 10).toInt = 3 ∨ ((x &&& 2147483647) % 10).toInt = 4 ∨ ((x &&& 2147483647) % 10).toInt = 5 ∨ ((x &&& 2147483647) % 10).toInt = 6 ∨ ((x &&& 2147483647) % 10).toInt = 7 ∨ ((x &&& 2147483647) % 10).toInt = 8 ∨ ((x &&& 2147483647) % 10).toInt = 9 := by omega
  rcases r with r | r | r | r | r | r | r | r | r | r <;> simp [← Int32.toInt_inj, r]
theorem pn_0 : plainName "com/example/centdb/centdb/usage/TokenKindInPromptPinLaw" = true := by first | (simp [plainName, overriddenIn]; done) | decide +kernel
theorem d_method_2_code_0 : decode method_2_code 0 = .ok (.iload_n 0, 1) := by decide +kernel
theorem d_method_2_code_1 : decode method_2_code 1 = .ok (.ifCond .ne 7, 3) := by decide +kernel
theorem d_method_2_code_4 : decode method_2_code 4 = .ok (.getstatic 7, 3) := by decide +kernel
theorem d_method_2_code_7 : decode method_2_code 7 = .ok (.areturn, 1) := by decide +kernel
set_option maxRecDepth 65536 in
set_option maxHeartbeats 40000000 in
theorem c1_pick {l : Launch} {Z : State} {a0 : Array Value} (hw : ∀ d ∈ tables_1, d.before a0 Z = true) {w_INPUT : Addr} {w_PROMPT_TOKENS : Addr} {w_USES : Addr} {w_CACHE_WRITE_1H : Addr} {w_CACHE_READ : Addr} {w_OUTPUT : Addr} {w_OUTPUT_TOKENS : Addr} {w_CACHE_READ_AUDIO : Addr} {w_CACHE_WRITE : Addr} {w_OUTPUT_AUDIO : Addr} {w_WEB_SEARCHES : Addr} {w_REASONING : Addr} {w_INPUT_AUDIO : Addr} (wd : World Z w_INPUT w_PROMPT_TOKENS w_USES w_CACHE_WRITE_1H w_CACHE_READ w_OUTPUT w_OUTPUT_TOKENS w_CACHE_READ_AUDIO w_CACHE_WRITE w_OUTPUT_AUDIO w_WEB_SEARCHES w_REASONING w_INPUT_AUDIO)  {h0 : Heap} (O : Ext Z.heap h0)  :
    Ctr l Z y0 method_2_code 1 (some (.object "com/example/centdb/centdb/usage/TokenKind")) ({ frames := 0, cells := 0, slots := 0, locals := 0 } : Room) #[(.int (0 : Int32))] h0 (fun v h L => v = some (.ref w_INPUT) ∧ L = [] ∧ h = h0) := by
  refine Ctr.body (plainFor_of_name pn_0) ?_
  intro p e s m below meth c T X hx hby hml hown hnm hret hlk hZ eT
  have hml : c.maxLocals = 1 := hml
  have hown : s.vm.findClass "com/example/centdb/centdb/usage/TokenKindInPromptPinLaw" = some m.cls := hown
  have hnm : meth.name = "pick" := hnm
  have hret : meth.sig.returnType = (some (.object "com/example/centdb/centdb/usage/TokenKind")) := hret
  refine Run.cast (show entryFrame m #[(.int (0 : Int32))] 1 = mkF m 0 #[.val (.int (0 : Int32))] [] from by first | (simp [entryFrame, mkF, argsToLocals, Value.category]; done) | rfl) ?_
  have wd0 := wd
  obtain ⟨S_w_INPUT, E_w_INPUT, S_w_PROMPT_TOKENS, E_w_PROMPT_TOKENS, S_w_USES, E_w_USES, S_w_CACHE_WRITE_1H, E_w_CACHE_WRITE_1H, S_w_CACHE_READ, E_w_CACHE_READ, S_w_OUTPUT, E_w_OUTPUT, S_w_OUTPUT_TOKENS, E_w_OUTPUT_TOKENS, S_w_CACHE_READ_AUDIO, E_w_CACHE_READ_AUDIO, S_w_CACHE_WRITE, E_w_CACHE_WRITE, S_w_OUTPUT_AUDIO, E_w_OUTPUT_AUDIO, S_w_WEB_SEARCHES, E_w_WEB_SEARCHES, S_w_REASONING, E_w_REASONING, S_w_INPUT_AUDIO, E_w_INPUT_AUDIO, F_unit_w_INPUT, F_whole_w_INPUT, F_ordinal_w_PROMPT_TOKENS, F_ordinal_w_USES, F_unit_w_CACHE_WRITE_1H, F_whole_w_CACHE_WRITE_1H, F_unit_w_CACHE_READ, F_whole_w_CACHE_READ, F_unit_w_OUTPUT, F_ordinal_w_OUTPUT_TOKENS, F_unit_w_CACHE_READ_AUDIO, F_whole_w_CACHE_READ_AUDIO, F_unit_w_CACHE_WRITE, F_whole_w_CACHE_WRITE, F_unit_w_OUTPUT_AUDIO, F_unit_w_WEB_SEARCHES, F_unit_w_REASONING, F_unit_w_INPUT_AUDIO, F_whole_w_INPUT_AUDIO, F_whole_w_OUTPUT, F_whole_w_OUTPUT_AUDIO, F_whole_w_WEB_SEARCHES, F_whole_w_REASONING⟩ := wd
  have wd := wd0
  have N : Fr Z.heap.size [] := Fr.nil _
  have KK : Keep h0 h0 [] := Keep.refl h0 []
  refine q_iloadN (pc' := 1) X hx (hb hby d_method_2_code_0) rfl rfl ?_
  refine q_ifNo (pc' := 4) X hx (hb hby d_method_2_code_1) (by decide) rfl ?_
  refine q_getS (pc' := 7) X hx hZ hown (hb hby d_method_2_code_4) (host := "") (Or.inl (t5 hw)) eT (S_w_INPUT.ext O) rfl ?_
  intro T X eT
  refine Run.retR X hx hlk hret (hb hby d_method_2_code_7) rfl rfl (by decide) (by decide) ?_
  try rw [eT]
  exact ⟨rfl, rfl, rfl⟩
theorem pd_0 : parseMethodDescriptor "(I)Lcom/example/centdb/centdb/usage/TokenKind;" = some ⟨[.int], some (.object "com/example/centdb/centdb/usage/TokenKind")⟩ := by decide +kernel
theorem pn_1 : plainName "com/example/centdb/centdb/usage/TokenKind" = true := by first | (simp [plainName, overriddenIn]; done) | decide +kernel
theorem d_prog_27_method_7_code_0 : decode prog_27_method_7_code 0 = .ok (.aload_n 0, 1) := by decide +kernel
theorem d_prog_27_method_7_code_1 : decode prog_27_method_7_code 1 = .ok (.getfield 57, 3) := by decide +kernel
theorem d_prog_27_method_7_code_4 : decode prog_27_method_7_code 4 = .ok (.getstatic 70, 3) := by decide +kernel
theorem d_prog_27_method_7_code_7 : decode prog_27_method_7_code 7 = .ok (.if_acmp .ne 14, 3) := by decide +kernel
theorem d_prog_27_method_7_code_10 : decode prog_27_method_7_code 10 = .ok (.aload_n 0, 1) := by decide +kernel
theorem d_prog_27_method_7_code_11 : decode prog_27_method_7_code 11 = .ok (.getfield 61, 3) := by decide +kernel
theorem d_prog_27_method_7_code_14 : decode prog_27_method_7_code 14 = .ok (.ifnonnull 7, 3) := by decide +kernel
theorem d_prog_27_method_7_code_17 : decode prog_27_method_7_code 17 = .ok (.iconst 1, 1) := by decide +kernel
theorem d_prog_27_method_7_code_18 : decode prog_27_method_7_code 18 = .ok (.goto 4, 3) := by decide +kernel
theorem d_prog_27_method_7_code_22 : decode prog_27_method_7_code 22 = .ok (.ireturn, 1) := by decide +kernel
set_option maxRecDepth 65536 in
set_option maxHeartbeats 40000000 in
theorem c2_inPrompt {l : Launch} {Z : State} {a0 : Array Value} (hw : ∀ d ∈ tables_1, d.before a0 Z = true) {w_INPUT : Addr} {w_PROMPT_TOKENS : Addr} {w_USES : Addr} {w_CACHE_WRITE_1H : Addr} {w_CACHE_READ : Addr} {w_OUTPUT : Addr} {w_OUTPUT_TOKENS : Addr} {w_CACHE_READ_AUDIO : Addr} {w_CACHE_WRITE : Addr} {w_OUTPUT_AUDIO : Addr} {w_WEB_SEARCHES : Addr} {w_REASONING : Addr} {w_INPUT_AUDIO : Addr} (wd : World Z w_INPUT w_PROMPT_TOKENS w_USES w_CACHE_WRITE_1H w_CACHE_READ w_OUTPUT w_OUTPUT_TOKENS w_CACHE_READ_AUDIO w_CACHE_WRITE w_OUTPUT_AUDIO w_WEB_SEARCHES w_REASONING w_INPUT_AUDIO)  {h0 : Heap} (O : Ext Z.heap h0)  :
    Ctr l Z y1 prog_27_method_7_code 1 (some .boolean) ({ frames := 0, cells := 0, slots := 0, locals := 0 } : Room) #[(.ref w_INPUT)] h0 (fun v h L => v = some (.int (1 : Int32)) ∧ L = [] ∧ h = h0) := by
  refine Ctr.body (plainFor_of_name pn_1) ?_
  intro p e s m below meth c T X hx hby hml hown hnm hret hlk hZ eT
  have hml : c.maxLocals = 1 := hml
  have hown : s.vm.findClass "com/example/centdb/centdb/usage/TokenKind" = some m.cls := hown
  have hnm : meth.name = "inPrompt" := hnm
  have hret : meth.sig.returnType = (some .boolean) := hret
  refine Run.cast (show entryFrame m #[(.ref w_INPUT)] 1 = mkF m 0 #[.val (.ref w_INPUT)] [] from by first | (simp [entryFrame, mkF, argsToLocals, Value.category]; done) | rfl) ?_
  have wd0 := wd
  obtain ⟨S_w_INPUT, E_w_INPUT, S_w_PROMPT_TOKENS, E_w_PROMPT_TOKENS, S_w_USES, E_w_USES, S_w_CACHE_WRITE_1H, E_w_CACHE_WRITE_1H, S_w_CACHE_READ, E_w_CACHE_READ, S_w_OUTPUT, E_w_OUTPUT, S_w_OUTPUT_TOKENS, E_w_OUTPUT_TOKENS, S_w_CACHE_READ_AUDIO, E_w_CACHE_READ_AUDIO, S_w_CACHE_WRITE, E_w_CACHE_WRITE, S_w_OUTPUT_AUDIO, E_w_OUTPUT_AUDIO, S_w_WEB_SEARCHES, E_w_WEB_SEARCHES, S_w_REASONING, E_w_REASONING, S_w_INPUT_AUDIO, E_w_INPUT_AUDIO, F_unit_w_INPUT, F_whole_w_INPUT, F_ordinal_w_PROMPT_TOKENS, F_ordinal_w_USES, F_unit_w_CACHE_WRITE_1H, F_whole_w_CACHE_WRITE_1H, F_unit_w_CACHE_READ, F_whole_w_CACHE_READ, F_unit_w_OUTPUT, F_ordinal_w_OUTPUT_TOKENS, F_unit_w_CACHE_READ_AUDIO, F_whole_w_CACHE_READ_AUDIO, F_unit_w_CACHE_WRITE, F_whole_w_CACHE_WRITE, F_unit_w_OUTPUT_AUDIO, F_unit_w_WEB_SEARCHES, F_unit_w_REASONING, F_unit_w_INPUT_AUDIO, F_whole_w_INPUT_AUDIO, F_whole_w_OUTPUT, F_whole_w_OUTPUT_AUDIO, F_whole_w_WEB_SEARCHES, F_whole_w_REASONING⟩ := wd
  have wd := wd0
  have N : Fr Z.heap.size [] := Fr.nil _
  have KK : Keep h0 h0 [] := Keep.refl h0 []
  refine q_aloadN (pc' := 1) X hx (hb hby d_prog_27_method_7_code_0) rfl rfl rfl ?_
  refine q_getF (pc' := 4) X hx hZ hown (hb hby d_prog_27_method_7_code_1) (host := "") (Or.inl (t13 hw)) eT (F_unit_w_INPUT.ext O) rfl ?_
  intro T X eT
  refine q_getS (pc' := 7) X hx hZ hown (hb hby d_prog_27_method_7_code_4) (host := "") (Or.inl (t17 hw)) eT (S_w_PROMPT_TOKENS.ext O) rfl ?_
  intro T X eT
  refine q_acmp (pc' := 10) (same := true) X hx (hb hby d_prog_27_method_7_code_7) rfl rfl (decide_eq_true rfl) (by decide) (by decide) ?_
  refine q_aloadN (pc' := 11) X hx (hb hby d_prog_27_method_7_code_10) rfl rfl rfl ?_
  refine q_getF (pc' := 14) X hx hZ hown (hb hby d_prog_27_method_7_code_11) (host := "") (Or.inl (t18 hw)) eT (F_whole_w_INPUT.ext O) rfl ?_
  intro T X eT
  refine q_ifnonnullNo (pc' := 17) X hx (hb hby d_prog_27_method_7_code_14) rfl ?_
  refine q_iconst (pc' := 18) (z := (1 : Int32)) X hx (hb hby d_prog_27_method_7_code_17) rfl rfl ?_
  refine q_goto (pc' := 22) X hx (hb hby d_prog_27_method_7_code_18) (by decide) (by decide) ?_
  refine Run.retB X hx hlk hret (hb hby d_prog_27_method_7_code_22) rfl (by decide) (by decide) ?_
  try rw [eT]
  exact ⟨rfl, rfl, rfl⟩
theorem pd_1 : parseMethodDescriptor "()Z" = some ⟨[], some .boolean⟩ := by decide +kernel
theorem d_prog_27_method_8_code_0 : decode prog_27_method_8_code 0 = .ok (.aload_n 0, 1) := by decide +kernel
theorem d_prog_27_method_8_code_1 : decode prog_27_method_8_code 1 = .ok (.getfield 57, 3) := by decide +kernel
theorem d_prog_27_method_8_code_4 : decode prog_27_method_8_code 4 = .ok (.getstatic 75, 3) := by decide +kernel
theorem d_prog_27_method_8_code_7 : decode prog_27_method_8_code 7 = .ok (.if_acmp .eq 14, 3) := by decide +kernel
theorem d_prog_27_method_8_code_10 : decode prog_27_method_8_code 10 = .ok (.aload_n 0, 1) := by decide +kernel
theorem d_prog_27_method_8_code_11 : decode prog_27_method_8_code 11 = .ok (.getfield 61, 3) := by decide +kernel
theorem d_prog_27_method_8_code_14 : decode prog_27_method_8_code 14 = .ok (.ifnonnull 7, 3) := by decide +kernel
theorem d_prog_27_method_8_code_17 : decode prog_27_method_8_code 17 = .ok (.iconst 1, 1) := by decide +kernel
theorem d_prog_27_method_8_code_18 : decode prog_27_method_8_code 18 = .ok (.goto 4, 3) := by decide +kernel
theorem d_prog_27_method_8_code_22 : decode prog_27_method_8_code 22 = .ok (.ireturn, 1) := by decide +kernel
set_option maxRecDepth 65536 in
set_option maxHeartbeats 40000000 in
theorem c3_inAllTokens {l : Launch} {Z : State} {a0 : Array Value} (hw : ∀ d ∈ tables_1, d.before a0 Z = true) {w_INPUT : Addr} {w_PROMPT_TOKENS : Addr} {w_USES : Addr} {w_CACHE_WRITE_1H : Addr} {w_CACHE_READ : Addr} {w_OUTPUT : Addr} {w_OUTPUT_TOKENS : Addr} {w_CACHE_READ_AUDIO : Addr} {w_CACHE_WRITE : Addr} {w_OUTPUT_AUDIO : Addr} {w_WEB_SEARCHES : Addr} {w_REASONING : Addr} {w_INPUT_AUDIO : Addr} (wd : World Z w_INPUT w_PROMPT_TOKENS w_USES w_CACHE_WRITE_1H w_CACHE_READ w_OUTPUT w_OUTPUT_TOKENS w_CACHE_READ_AUDIO w_CACHE_WRITE w_OUTPUT_AUDIO w_WEB_SEARCHES w_REASONING w_INPUT_AUDIO)  {h0 : Heap} (O : Ext Z.heap h0)  :
    Ctr l Z y2 prog_27_method_8_code 1 (some .boolean) ({ frames := 0, cells := 0, slots := 0, locals := 0 } : Room) #[(.ref w_INPUT)] h0 (fun v h L => v = some (.int (1 : Int32)) ∧ L = [] ∧ h = h0) := by
  refine Ctr.body (plainFor_of_name pn_1) ?_
  intro p e s m below meth c T X hx hby hml hown hnm hret hlk hZ eT
  have hml : c.maxLocals = 1 := hml
  have hown : s.vm.findClass "com/example/centdb/centdb/usage/TokenKind" = some m.cls := hown
  have hnm : meth.name = "inAllTokens" := hnm
  have hret : meth.sig.returnType = (some .boolean) := hret
  refine Run.cast (show entryFrame m #[(.ref w_INPUT)] 1 = mkF m 0 #[.val (.ref w_INPUT)] [] from by first | (simp [entryFrame, mkF, argsToLocals, Value.category]; done) | rfl) ?_
  have wd0 := wd
  obtain ⟨S_w_INPUT, E_w_INPUT, S_w_PROMPT_TOKENS, E_w_PROMPT_TOKENS, S_w_USES, E_w_USES, S_w_CACHE_WRITE_1H, E_w_CACHE_WRITE_1H, S_w_CACHE_READ, E_w_CACHE_READ, S_w_OUTPUT, E_w_OUTPUT, S_w_OUTPUT_TOKENS, E_w_OUTPUT_TOKENS, S_w_CACHE_READ_AUDIO, E_w_CACHE_READ_AUDIO, S_w_CACHE_WRITE, E_w_CACHE_WRITE, S_w_OUTPUT_AUDIO, E_w_OUTPUT_AUDIO, S_w_WEB_SEARCHES, E_w_WEB_SEARCHES, S_w_REASONING, E_w_REASONING, S_w_INPUT_AUDIO, E_w_INPUT_AUDIO, F_unit_w_INPUT, F_whole_w_INPUT, F_ordinal_w_PROMPT_TOKENS, F_ordinal_w_USES, F_unit_w_CACHE_WRITE_1H, F_whole_w_CACHE_WRITE_1H, F_unit_w_CACHE_READ, F_whole_w_CACHE_READ, F_unit_w_OUTPUT, F_ordinal_w_OUTPUT_TOKENS, F_unit_w_CACHE_READ_AUDIO, F_whole_w_CACHE_READ_AUDIO, F_unit_w_CACHE_WRITE, F_whole_w_CACHE_WRITE, F_unit_w_OUTPUT_AUDIO, F_unit_w_WEB_SEARCHES, F_unit_w_REASONING, F_unit_w_INPUT_AUDIO, F_whole_w_INPUT_AUDIO, F_whole_w_OUTPUT, F_whole_w_OUTPUT_AUDIO, F_whole_w_WEB_SEARCHES, F_whole_w_REASONING⟩ := wd
  have wd := wd0
  have N : Fr Z.heap.size [] := Fr.nil _
  have KK : Keep h0 h0 [] := Keep.refl h0 []
  refine q_aloadN (pc' := 1) X hx (hb hby d_prog_27_method_8_code_0) rfl rfl rfl ?_
  refine q_getF (pc' := 4) X hx hZ hown (hb hby d_prog_27_method_8_code_1) (host := "") (Or.inl (t13 hw)) eT (F_unit_w_INPUT.ext O) rfl ?_
  intro T X eT
  refine q_getS (pc' := 7) X hx hZ hown (hb hby d_prog_27_method_8_code_4) (host := "") (Or.inl (t25 hw)) eT (S_w_USES.ext O) rfl ?_
  intro T X eT
  refine q_acmp (pc' := 10) (same := false) X hx (hb hby d_prog_27_method_8_code_7) rfl rfl (decide_eq_false fun q => (Fld.ne F_ordinal_w_PROMPT_TOKENS F_ordinal_w_USES (by decide)) (Value.ref.inj q)) (by decide) (by decide) ?_
  refine q_aloadN (pc' := 11) X hx (hb hby d_prog_27_method_8_code_10) rfl rfl rfl ?_
  refine q_getF (pc' := 14) X hx hZ hown (hb hby d_prog_27_method_8_code_11) (host := "") (Or.inl (t18 hw)) eT (F_whole_w_INPUT.ext O) rfl ?_
  intro T X eT
  refine q_ifnonnullNo (pc' := 17) X hx (hb hby d_prog_27_method_8_code_14) rfl ?_
  refine q_iconst (pc' := 18) (z := (1 : Int32)) X hx (hb hby d_prog_27_method_8_code_17) rfl rfl ?_
  refine q_goto (pc' := 22) X hx (hb hby d_prog_27_method_8_code_18) (by decide) (by decide) ?_
  refine Run.retB X hx hlk hret (hb hby d_prog_27_method_8_code_22) rfl (by decide) (by decide) ?_
  try rw [eT]
  exact ⟨rfl, rfl, rfl⟩
theorem d_method_2_code_8 : decode method_2_code 8 = .ok (.iload_n 0, 1) := by decide +kernel
theorem d_method_2_code_9 : decode method_2_code 9 = .ok (.iconst 1, 1) := by decide +kernel
theorem d_method_2_code_10 : decode method_2_code 10 = .ok (.if_icmp .ne 7, 3) := by decide +kernel
theorem d_method_2_code_13 : decode method_2_code 13 = .ok (.getstatic 13, 3) := by decide +kernel
theorem d_method_2_code_16 : decode method_2_code 16 = .ok (.areturn, 1) := by decide +kernel
set_option maxRecDepth 65536 in
set_option maxHeartbeats 40000000 in
theorem c4_pick {l : Launch} {Z : State} {a0 : Array Value} (hw : ∀ d ∈ tables_1, d.before a0 Z = true) {w_INPUT : Addr} {w_PROMPT_TOKENS : Addr} {w_USES : Addr} {w_CACHE_WRITE_1H : Addr} {w_CACHE_READ : Addr} {w_OUTPUT : Addr} {w_OUTPUT_TOKENS : Addr} {w_CACHE_READ_AUDIO : Addr} {w_CACHE_WRITE : Addr} {w_OUTPUT_AUDIO : Addr} {w_WEB_SEARCHES : Addr} {w_REASONING : Addr} {w_INPUT_AUDIO : Addr} (wd : World Z w_INPUT w_PROMPT_TOKENS w_USES w_CACHE_WRITE_1H w_CACHE_READ w_OUTPUT w_OUTPUT_TOKENS w_CACHE_READ_AUDIO w_CACHE_WRITE w_OUTPUT_AUDIO w_WEB_SEARCHES w_REASONING w_INPUT_AUDIO)  {h0 : Heap} (O : Ext Z.heap h0)  :
    Ctr l Z y0 method_2_code 1 (some (.object "com/example/centdb/centdb/usage/TokenKind")) ({ frames := 0, cells := 0, slots := 0, locals := 0 } : Room) #[(.int (1 : Int32))] h0 (fun v h L => v = some (.ref w_CACHE_READ) ∧ L = [] ∧ h = h0) := by
  refine Ctr.body (plainFor_of_name pn_0) ?_
  intro p e s m below meth c T X hx hby hml hown hnm hret hlk hZ eT
  have hml : c.maxLocals = 1 := hml
  have hown : s.vm.findClass "com/example/centdb/centdb/usage/TokenKindInPromptPinLaw" = some m.cls := hown
  have hnm : meth.name = "pick" := hnm
  have hret : meth.sig.returnType = (some (.object "com/example/centdb/centdb/usage/TokenKind")) := hret
  refine Run.cast (show entryFrame m #[(.int (1 : Int32))] 1 = mkF m 0 #[.val (.int (1 : Int32))] [] from by first | (simp [entryFrame, mkF, argsToLocals, Value.category]; done) | rfl) ?_
  have wd0 := wd
  obtain ⟨S_w_INPUT, E_w_INPUT, S_w_PROMPT_TOKENS, E_w_PROMPT_TOKENS, S_w_USES, E_w_USES, S_w_CACHE_WRITE_1H, E_w_CACHE_WRITE_1H, S_w_CACHE_READ, E_w_CACHE_READ, S_w_OUTPUT, E_w_OUTPUT, S_w_OUTPUT_TOKENS, E_w_OUTPUT_TOKENS, S_w_CACHE_READ_AUDIO, E_w_CACHE_READ_AUDIO, S_w_CACHE_WRITE, E_w_CACHE_WRITE, S_w_OUTPUT_AUDIO, E_w_OUTPUT_AUDIO, S_w_WEB_SEARCHES, E_w_WEB_SEARCHES, S_w_REASONING, E_w_REASONING, S_w_INPUT_AUDIO, E_w_INPUT_AUDIO, F_unit_w_INPUT, F_whole_w_INPUT, F_ordinal_w_PROMPT_TOKENS, F_ordinal_w_USES, F_unit_w_CACHE_WRITE_1H, F_whole_w_CACHE_WRITE_1H, F_unit_w_CACHE_READ, F_whole_w_CACHE_READ, F_unit_w_OUTPUT, F_ordinal_w_OUTPUT_TOKENS, F_unit_w_CACHE_READ_AUDIO, F_whole_w_CACHE_READ_AUDIO, F_unit_w_CACHE_WRITE, F_whole_w_CACHE_WRITE, F_unit_w_OUTPUT_AUDIO, F_unit_w_WEB_SEARCHES, F_unit_w_REASONING, F_unit_w_INPUT_AUDIO, F_whole_w_INPUT_AUDIO, F_whole_w_OUTPUT, F_whole_w_OUTPUT_AUDIO, F_whole_w_WEB_SEARCHES, F_whole_w_REASONING⟩ := wd
  have wd := wd0
  have N : Fr Z.heap.size [] := Fr.nil _
  have KK : Keep h0 h0 [] := Keep.refl h0 []
  refine q_iloadN (pc' := 1) X hx (hb hby d_method_2_code_0) rfl rfl ?_
  refine q_ifYes (pc' := 8) X hx (hb hby d_method_2_code_1) (by decide) (by decide) (by decide) ?_
  refine q_iloadN (pc' := 9) X hx (hb hby d_method_2_code_8) rfl rfl ?_
  refine q_iconst (pc' := 10) (z := (1 : Int32)) X hx (hb hby d_method_2_code_9) rfl rfl ?_
  refine q_icmpNo (pc' := 13) X hx (hb hby d_method_2_code_10) (by decide) rfl ?_
  refine q_getS (pc' := 16) X hx hZ hown (hb hby d_method_2_code_13) (host := "") (Or.inl (t29 hw)) eT (S_w_CACHE_READ.ext O) rfl ?_
  intro T X eT
  refine Run.retR X hx hlk hret (hb hby d_method_2_code_16) rfl rfl (by decide) (by decide) ?_
  try rw [eT]
  exact ⟨rfl, rfl, rfl⟩
set_option maxRecDepth 65536 in
set_option maxHeartbeats 40000000 in
theorem c5_inPrompt {l : Launch} {Z : State} {a0 : Array Value} (hw : ∀ d ∈ tables_1, d.before a0 Z = true) {w_INPUT : Addr} {w_PROMPT_TOKENS : Addr} {w_USES : Addr} {w_CACHE_WRITE_1H : Addr} {w_CACHE_READ : Addr} {w_OUTPUT : Addr} {w_OUTPUT_TOKENS : Addr} {w_CACHE_READ_AUDIO : Addr} {w_CACHE_WRITE : Addr} {w_OUTPUT_AUDIO : Addr} {w_WEB_SEARCHES : Addr} {w_REASONING : Addr} {w_INPUT_AUDIO : Addr} (wd : World Z w_INPUT w_PROMPT_TOKENS w_USES w_CACHE_WRITE_1H w_CACHE_READ w_OUTPUT w_OUTPUT_TOKENS w_CACHE_READ_AUDIO w_CACHE_WRITE w_OUTPUT_AUDIO w_WEB_SEARCHES w_REASONING w_INPUT_AUDIO)  {h0 : Heap} (O : Ext Z.heap h0)  :
    Ctr l Z y1 prog_27_method_7_code 1 (some .boolean) ({ frames := 0, cells := 0, slots := 0, locals := 0 } : Room) #[(.ref w_CACHE_READ)] h0 (fun v h L => v = some (.int (1 : Int32)) ∧ L = [] ∧ h = h0) := by
  refine Ctr.body (plainFor_of_name pn_1) ?_
  intro p e s m below meth c T X hx hby hml hown hnm hret hlk hZ eT
  have hml : c.maxLocals = 1 := hml
  have hown : s.vm.findClass "com/example/centdb/centdb/usage/TokenKind" = some m.cls := hown
  have hnm : meth.name = "inPrompt" := hnm
  have hret : meth.sig.returnType = (some .boolean) := hret
  refine Run.cast (show entryFrame m #[(.ref w_CACHE_READ)] 1 = mkF m 0 #[.val (.ref w_CACHE_READ)] [] from by first | (simp [entryFrame, mkF, argsToLocals, Value.category]; done) | rfl) ?_
  have wd0 := wd
  obtain ⟨S_w_INPUT, E_w_INPUT, S_w_PROMPT_TOKENS, E_w_PROMPT_TOKENS, S_w_USES, E_w_USES, S_w_CACHE_WRITE_1H, E_w_CACHE_WRITE_1H, S_w_CACHE_READ, E_w_CACHE_READ, S_w_OUTPUT, E_w_OUTPUT, S_w_OUTPUT_TOKENS, E_w_OUTPUT_TOKENS, S_w_CACHE_READ_AUDIO, E_w_CACHE_READ_AUDIO, S_w_CACHE_WRITE, E_w_CACHE_WRITE, S_w_OUTPUT_AUDIO, E_w_OUTPUT_AUDIO, S_w_WEB_SEARCHES, E_w_WEB_SEARCHES, S_w_REASONING, E_w_REASONING, S_w_INPUT_AUDIO, E_w_INPUT_AUDIO, F_unit_w_INPUT, F_whole_w_INPUT, F_ordinal_w_PROMPT_TOKENS, F_ordinal_w_USES, F_unit_w_CACHE_WRITE_1H, F_whole_w_CACHE_WRITE_1H, F_unit_w_CACHE_READ, F_whole_w_CACHE_READ, F_unit_w_OUTPUT, F_ordinal_w_OUTPUT_TOKENS, F_unit_w_CACHE_READ_AUDIO, F_whole_w_CACHE_READ_AUDIO, F_unit_w_CACHE_WRITE, F_whole_w_CACHE_WRITE, F_unit_w_OUTPUT_AUDIO, F_unit_w_WEB_SEARCHES, F_unit_w_REASONING, F_unit_w_INPUT_AUDIO, F_whole_w_INPUT_AUDIO, F_whole_w_OUTPUT, F_whole_w_OUTPUT_AUDIO, F_whole_w_WEB_SEARCHES, F_whole_w_REASONING⟩ := wd
  have wd := wd0
  have N : Fr Z.heap.size [] := Fr.nil _
  have KK : Keep h0 h0 [] := Keep.refl h0 []
  refine q_aloadN (pc' := 1) X hx (hb hby d_prog_27_method_7_code_0) rfl rfl rfl ?_
  refine q_getF (pc' := 4) X hx hZ hown (hb hby d_prog_27_method_7_code_1) (host := "") (Or.inl (t13 hw)) eT (F_unit_w_CACHE_READ.ext O) rfl ?_
  intro T X eT
  refine q_getS (pc' := 7) X hx hZ hown (hb hby d_prog_27_method_7_code_4) (host := "") (Or.inl (t17 hw)) eT (S_w_PROMPT_TOKENS.ext O) rfl ?_
  intro T X eT
  refine q_acmp (pc' := 10) (same := true) X hx (hb hby d_prog_27_method_7_code_7) rfl rfl (decide_eq_true rfl) (by decide) (by decide) ?_
  refine q_aloadN (pc' := 11) X hx (hb hby d_prog_27_method_7_code_10) rfl rfl rfl ?_
  refine q_getF (pc' := 14) X hx hZ hown (hb hby d_prog_27_method_7_code_11) (host := "") (Or.inl (t18 hw)) eT (F_whole_w_CACHE_READ.ext O) rfl ?_
  intro T X eT
  refine q_ifnonnullNo (pc' := 17) X hx (hb hby d_prog_27_method_7_code_14) rfl ?_
  refine q_iconst (pc' := 18) (z := (1 : Int32)) X hx (hb hby d_prog_27_method_7_code_17) rfl rfl ?_
  refine q_goto (pc' := 22) X hx (hb hby d_prog_27_method_7_code_18) (by decide) (by decide) ?_
  refine Run.retB X hx hlk hret (hb hby d_prog_27_method_7_code_22) rfl (by decide) (by decide) ?_
  try rw [eT]
  exact ⟨rfl, rfl, rfl⟩
set_option maxRecDepth 65536 in
set_option maxHeartbeats 40000000 in
theorem c6_inAllTokens {l : Launch} {Z : State} {a0 : Array Value} (hw : ∀ d ∈ tables_1, d.before a0 Z = true) {w_INPUT : Addr} {w_PROMPT_TOKENS : Addr} {w_USES : Addr} {w_CACHE_WRITE_1H : Addr} {w_CACHE_READ : Addr} {w_OUTPUT : Addr} {w_OUTPUT_TOKENS : Addr} {w_CACHE_READ_AUDIO : Addr} {w_CACHE_WRITE : Addr} {w_OUTPUT_AUDIO : Addr} {w_WEB_SEARCHES : Addr} {w_REASONING : Addr} {w_INPUT_AUDIO : Addr} (wd : World Z w_INPUT w_PROMPT_TOKENS w_USES w_CACHE_WRITE_1H w_CACHE_READ w_OUTPUT w_OUTPUT_TOKENS w_CACHE_READ_AUDIO w_CACHE_WRITE w_OUTPUT_AUDIO w_WEB_SEARCHES w_REASONING w_INPUT_AUDIO)  {h0 : Heap} (O : Ext Z.heap h0)  :
    Ctr l Z y2 prog_27_method_8_code 1 (some .boolean) ({ frames := 0, cells := 0, slots := 0, locals := 0 } : Room) #[(.ref w_CACHE_READ)] h0 (fun v h L => v = some (.int (1 : Int32)) ∧ L = [] ∧ h = h0) := by
  refine Ctr.body (plainFor_of_name pn_1) ?_
  intro p e s m below meth c T X hx hby hml hown hnm hret hlk hZ eT
  have hml : c.maxLocals = 1 := hml
  have hown : s.vm.findClass "com/example/centdb/centdb/usage/TokenKind" = some m.cls := hown
  have hnm : meth.name = "inAllTokens" := hnm
  have hret : meth.sig.returnType = (some .boolean) := hret
  refine Run.cast (show entryFrame m #[(.ref w_CACHE_READ)] 1 = mkF m 0 #[.val (.ref w_CACHE_READ)] [] from by first | (simp [entryFrame, mkF, argsToLocals, Value.category]; done) | rfl) ?_
  have wd0 := wd
  obtain ⟨S_w_INPUT, E_w_INPUT, S_w_PROMPT_TOKENS, E_w_PROMPT_TOKENS, S_w_USES, E_w_USES, S_w_CACHE_WRITE_1H, E_w_CACHE_WRITE_1H, S_w_CACHE_READ, E_w_CACHE_READ, S_w_OUTPUT, E_w_OUTPUT, S_w_OUTPUT_TOKENS, E_w_OUTPUT_TOKENS, S_w_CACHE_READ_AUDIO, E_w_CACHE_READ_AUDIO, S_w_CACHE_WRITE, E_w_CACHE_WRITE, S_w_OUTPUT_AUDIO, E_w_OUTPUT_AUDIO, S_w_WEB_SEARCHES, E_w_WEB_SEARCHES, S_w_REASONING, E_w_REASONING, S_w_INPUT_AUDIO, E_w_INPUT_AUDIO, F_unit_w_INPUT, F_whole_w_INPUT, F_ordinal_w_PROMPT_TOKENS, F_ordinal_w_USES, F_unit_w_CACHE_WRITE_1H, F_whole_w_CACHE_WRITE_1H, F_unit_w_CACHE_READ, F_whole_w_CACHE_READ, F_unit_w_OUTPUT, F_ordinal_w_OUTPUT_TOKENS, F_unit_w_CACHE_READ_AUDIO, F_whole_w_CACHE_READ_AUDIO, F_unit_w_CACHE_WRITE, F_whole_w_CACHE_WRITE, F_unit_w_OUTPUT_AUDIO, F_unit_w_WEB_SEARCHES, F_unit_w_REASONING, F_unit_w_INPUT_AUDIO, F_whole_w_INPUT_AUDIO, F_whole_w_OUTPUT, F_whole_w_OUTPUT_AUDIO, F_whole_w_WEB_SEARCHES, F_whole_w_REASONING⟩ := wd
  have wd := wd0
  have N : Fr Z.heap.size [] := Fr.nil _
  have KK : Keep h0 h0 [] := Keep.refl h0 []
  refine q_aloadN (pc' := 1) X hx (hb hby d_prog_27_method_8_code_0) rfl rfl rfl ?_
  refine q_getF (pc' := 4) X hx hZ hown (hb hby d_prog_27_method_8_code_1) (host := "") (Or.inl (t13 hw)) eT (F_unit_w_CACHE_READ.ext O) rfl ?_
  intro T X eT
  refine q_getS (pc' := 7) X hx hZ hown (hb hby d_prog_27_method_8_code_4) (host := "") (Or.inl (t25 hw)) eT (S_w_USES.ext O) rfl ?_
  intro T X eT
  refine q_acmp (pc' := 10) (same := false) X hx (hb hby d_prog_27_method_8_code_7) rfl rfl (decide_eq_false fun q => (Fld.ne F_ordinal_w_PROMPT_TOKENS F_ordinal_w_USES (by decide)) (Value.ref.inj q)) (by decide) (by decide) ?_
  refine q_aloadN (pc' := 11) X hx (hb hby d_prog_27_method_8_code_10) rfl rfl rfl ?_
  refine q_getF (pc' := 14) X hx hZ hown (hb hby d_prog_27_method_8_code_11) (host := "") (Or.inl (t18 hw)) eT (F_whole_w_CACHE_READ.ext O) rfl ?_
  intro T X eT
  refine q_ifnonnullNo (pc' := 17) X hx (hb hby d_prog_27_method_8_code_14) rfl ?_
  refine q_iconst (pc' := 18) (z := (1 : Int32)) X hx (hb hby d_prog_27_method_8_code_17) rfl rfl ?_
  refine q_goto (pc' := 22) X hx (hb hby d_prog_27_method_8_code_18) (by decide) (by decide) ?_
  refine Run.retB X hx hlk hret (hb hby d_prog_27_method_8_code_22) rfl (by decide) (by decide) ?_
  try rw [eT]
  exact ⟨rfl, rfl, rfl⟩
theorem d_method_2_code_17 : decode method_2_code 17 = .ok (.iload_n 0, 1) := by decide +kernel
theorem d_method_2_code_18 : decode method_2_code 18 = .ok (.iconst 2, 1) := by decide +kernel
theorem d_method_2_code_19 : decode method_2_code 19 = .ok (.if_icmp .ne 7, 3) := by decide +kernel
theorem d_method_2_code_22 : decode method_2_code 22 = .ok (.getstatic 16, 3) := by decide +kernel
theorem d_method_2_code_25 : decode method_2_code 25 = .ok (.areturn, 1) := by decide +kernel
set_option maxRecDepth 65536 in
set_option maxHeartbeats 40000000 in
theorem c7_pick {l : Launch} {Z : State} {a0 : Array Value} (hw : ∀ d ∈ tables_1, d.before a0 Z = true) {w_INPUT : Addr} {w_PROMPT_TOKENS : Addr} {w_USES : Addr} {w_CACHE_WRITE_1H : Addr} {w_CACHE_READ : Addr} {w_OUTPUT : Addr} {w_OUTPUT_TOKENS : Addr} {w_CACHE_READ_AUDIO : Addr} {w_CACHE_WRITE : Addr} {w_OUTPUT_AUDIO : Addr} {w_WEB_SEARCHES : Addr} {w_REASONING : Addr} {w_INPUT_AUDIO : Addr} (wd : World Z w_INPUT w_PROMPT_TOKENS w_USES w_CACHE_WRITE_1H w_CACHE_READ w_OUTPUT w_OUTPUT_TOKENS w_CACHE_READ_AUDIO w_CACHE_WRITE w_OUTPUT_AUDIO w_WEB_SEARCHES w_REASONING w_INPUT_AUDIO)  {h0 : Heap} (O : Ext Z.heap h0)  :
    Ctr l Z y0 method_2_code 1 (some (.object "com/example/centdb/centdb/usage/TokenKind")) ({ frames := 0, cells := 0, slots := 0, locals := 0 } : Room) #[(.int (2 : Int32))] h0 (fun v h L => v = some (.ref w_CACHE_WRITE) ∧ L = [] ∧ h = h0) := by
  refine Ctr.body (plainFor_of_name pn_0) ?_
  intro p e s m below meth c T X hx hby hml hown hnm hret hlk hZ eT
  have hml : c.maxLocals = 1 := hml
  have hown : s.vm.findClass "com/example/centdb/centdb/usage/TokenKindInPromptPinLaw" = some m.cls := hown
  have hnm : meth.name = "pick" := hnm
  have hret : meth.sig.returnType = (some (.object "com/example/centdb/centdb/usage/TokenKind")) := hret
  refine Run.cast (show entryFrame m #[(.int (2 : Int32))] 1 = mkF m 0 #[.val (.int (2 : Int32))] [] from by first | (simp [entryFrame, mkF, argsToLocals, Value.category]; done) | rfl) ?_
  have wd0 := wd
  obtain ⟨S_w_INPUT, E_w_INPUT, S_w_PROMPT_TOKENS, E_w_PROMPT_TOKENS, S_w_USES, E_w_USES, S_w_CACHE_WRITE_1H, E_w_CACHE_WRITE_1H, S_w_CACHE_READ, E_w_CACHE_READ, S_w_OUTPUT, E_w_OUTPUT, S_w_OUTPUT_TOKENS, E_w_OUTPUT_TOKENS, S_w_CACHE_READ_AUDIO, E_w_CACHE_READ_AUDIO, S_w_CACHE_WRITE, E_w_CACHE_WRITE, S_w_OUTPUT_AUDIO, E_w_OUTPUT_AUDIO, S_w_WEB_SEARCHES, E_w_WEB_SEARCHES, S_w_REASONING, E_w_REASONING, S_w_INPUT_AUDIO, E_w_INPUT_AUDIO, F_unit_w_INPUT, F_whole_w_INPUT, F_ordinal_w_PROMPT_TOKENS, F_ordinal_w_USES, F_unit_w_CACHE_WRITE_1H, F_whole_w_CACHE_WRITE_1H, F_unit_w_CACHE_READ, F_whole_w_CACHE_READ, F_unit_w_OUTPUT, F_ordinal_w_OUTPUT_TOKENS, F_unit_w_CACHE_READ_AUDIO, F_whole_w_CACHE_READ_AUDIO, F_unit_w_CACHE_WRITE, F_whole_w_CACHE_WRITE, F_unit_w_OUTPUT_AUDIO, F_unit_w_WEB_SEARCHES, F_unit_w_REASONING, F_unit_w_INPUT_AUDIO, F_whole_w_INPUT_AUDIO, F_whole_w_OUTPUT, F_whole_w_OUTPUT_AUDIO, F_whole_w_WEB_SEARCHES, F_whole_w_REASONING⟩ := wd
  have wd := wd0
  have N : Fr Z.heap.size [] := Fr.nil _
  have KK : Keep h0 h0 [] := Keep.refl h0 []
  refine q_iloadN (pc' := 1) X hx (hb hby d_method_2_code_0) rfl rfl ?_
  refine q_ifYes (pc' := 8) X hx (hb hby d_method_2_code_1) (by decide) (by decide) (by decide) ?_
  refine q_iloadN (pc' := 9) X hx (hb hby d_method_2_code_8) rfl rfl ?_
  refine q_iconst (pc' := 10) (z := (1 : Int32)) X hx (hb hby d_method_2_code_9) rfl rfl ?_
  refine q_icmpYes (pc' := 17) X hx (hb hby d_method_2_code_10) (by decide) (by decide) (by decide) ?_
  refine q_iloadN (pc' := 18) X hx (hb hby d_method_2_code_17) rfl rfl ?_
  refine q_iconst (pc' := 19) (z := (2 : Int32)) X hx (hb hby d_method_2_code_18) rfl rfl ?_
  refine q_icmpNo (pc' := 22) X hx (hb hby d_method_2_code_19) (by decide) rfl ?_
  refine q_getS (pc' := 25) X hx hZ hown (hb hby d_method_2_code_22) (host := "") (Or.inl (t36 hw)) eT (S_w_CACHE_WRITE.ext O) rfl ?_
  intro T X eT
  refine Run.retR X hx hlk hret (hb hby d_method_2_code_25) rfl rfl (by decide) (by decide) ?_
  try rw [eT]
  exact ⟨rfl, rfl, rfl⟩
set_option maxRecDepth 65536 in
set_option maxHeartbeats 40000000 in
theorem c8_inPrompt {l : Launch} {Z : State} {a0 : Array Value} (hw : ∀ d ∈ tables_1, d.before a0 Z = true) {w_INPUT : Addr} {w_PROMPT_TOKENS : Addr} {w_USES : Addr} {w_CACHE_WRITE_1H : Addr} {w_CACHE_READ : Addr} {w_OUTPUT : Addr} {w_OUTPUT_TOKENS : Addr} {w_CACHE_READ_AUDIO : Addr} {w_CACHE_WRITE : Addr} {w_OUTPUT_AUDIO : Addr} {w_WEB_SEARCHES : Addr} {w_REASONING : Addr} {w_INPUT_AUDIO : Addr} (wd : World Z w_INPUT w_PROMPT_TOKENS w_USES w_CACHE_WRITE_1H w_CACHE_READ w_OUTPUT w_OUTPUT_TOKENS w_CACHE_READ_AUDIO w_CACHE_WRITE w_OUTPUT_AUDIO w_WEB_SEARCHES w_REASONING w_INPUT_AUDIO)  {h0 : Heap} (O : Ext Z.heap h0)  :
    Ctr l Z y1 prog_27_method_7_code 1 (some .boolean) ({ frames := 0, cells := 0, slots := 0, locals := 0 } : Room) #[(.ref w_CACHE_WRITE)] h0 (fun v h L => v = some (.int (1 : Int32)) ∧ L = [] ∧ h = h0) := by
  refine Ctr.body (plainFor_of_name pn_1) ?_
  intro p e s m below meth c T X hx hby hml hown hnm hret hlk hZ eT
  have hml : c.maxLocals = 1 := hml
  have hown : s.vm.findClass "com/example/centdb/centdb/usage/TokenKind" = some m.cls := hown
  have hnm : meth.name = "inPrompt" := hnm
  have hret : meth.sig.returnType = (some .boolean) := hret
  refine Run.cast (show entryFrame m #[(.ref w_CACHE_WRITE)] 1 = mkF m 0 #[.val (.ref w_CACHE_WRITE)] [] from by first | (simp [entryFrame, mkF, argsToLocals, Value.category]; done) | rfl) ?_
  have wd0 := wd
  obtain ⟨S_w_INPUT, E_w_INPUT, S_w_PROMPT_TOKENS, E_w_PROMPT_TOKENS, S_w_USES, E_w_USES, S_w_CACHE_WRITE_1H, E_w_CACHE_WRITE_1H, S_w_CACHE_READ, E_w_CACHE_READ, S_w_OUTPUT, E_w_OUTPUT, S_w_OUTPUT_TOKENS, E_w_OUTPUT_TOKENS, S_w_CACHE_READ_AUDIO, E_w_CACHE_READ_AUDIO, S_w_CACHE_WRITE, E_w_CACHE_WRITE, S_w_OUTPUT_AUDIO, E_w_OUTPUT_AUDIO, S_w_WEB_SEARCHES, E_w_WEB_SEARCHES, S_w_REASONING, E_w_REASONING, S_w_INPUT_AUDIO, E_w_INPUT_AUDIO, F_unit_w_INPUT, F_whole_w_INPUT, F_ordinal_w_PROMPT_TOKENS, F_ordinal_w_USES, F_unit_w_CACHE_WRITE_1H, F_whole_w_CACHE_WRITE_1H, F_unit_w_CACHE_READ, F_whole_w_CACHE_READ, F_unit_w_OUTPUT, F_ordinal_w_OUTPUT_TOKENS, F_unit_w_CACHE_READ_AUDIO, F_whole_w_CACHE_READ_AUDIO, F_unit_w_CACHE_WRITE, F_whole_w_CACHE_WRITE, F_unit_w_OUTPUT_AUDIO, F_unit_w_WEB_SEARCHES, F_unit_w_REASONING, F_unit_w_INPUT_AUDIO, F_whole_w_INPUT_AUDIO, F_whole_w_OUTPUT, F_whole_w_OUTPUT_AUDIO, F_whole_w_WEB_SEARCHES, F_whole_w_REASONING⟩ := wd
  have wd := wd0
  have N : Fr Z.heap.size [] := Fr.nil _
  have KK : Keep h0 h0 [] := Keep.refl h0 []
  refine q_aloadN (pc' := 1) X hx (hb hby d_prog_27_method_7_code_0) rfl rfl rfl ?_
  refine q_getF (pc' := 4) X hx hZ hown (hb hby d_prog_27_method_7_code_1) (host := "") (Or.inl (t13 hw)) eT (F_unit_w_CACHE_WRITE.ext O) rfl ?_
  intro T X eT
  refine q_getS (pc' := 7) X hx hZ hown (hb hby d_prog_27_method_7_code_4) (host := "") (Or.inl (t17 hw)) eT (S_w_PROMPT_TOKENS.ext O) rfl ?_
  intro T X eT
  refine q_acmp (pc' := 10) (same := true) X hx (hb hby d_prog_27_method_7_code_7) rfl rfl (decide_eq_true rfl) (by decide) (by decide) ?_
  refine q_aloadN (pc' := 11) X hx (hb hby d_prog_27_method_7_code_10) rfl rfl rfl ?_
  refine q_getF (pc' := 14) X hx hZ hown (hb hby d_prog_27_method_7_code_11) (host := "") (Or.inl (t18 hw)) eT (F_whole_w_CACHE_WRITE.ext O) rfl ?_
  intro T X eT
  refine q_ifnonnullNo (pc' := 17) X hx (hb hby d_prog_27_method_7_code_14) rfl ?_
  refine q_iconst (pc' := 18) (z := (1 : Int32)) X hx (hb hby d_prog_27_method_7_code_17) rfl rfl ?_
  refine q_goto (pc' := 22) X hx (hb hby d_prog_27_method_7_code_18) (by decide) (by decide) ?_
  refine Run.retB X hx hlk hret (hb hby d_prog_27_method_7_code_22) rfl (by decide) (by decide) ?_
  try rw [eT]
  exact ⟨rfl, rfl, rfl⟩
set_option maxRecDepth 65536 in
set_option maxHeartbeats 40000000 in
theorem c9_inAllTokens {l : Launch} {Z : State} {a0 : Array Value} (hw : ∀ d ∈ tables_1, d.before a0 Z = true) {w_INPUT : Addr} {w_PROMPT_TOKENS : Addr} {w_USES : Addr} {w_CACHE_WRITE_1H : Addr} {w_CACHE_READ : Addr} {w_OUTPUT : Addr} {w_OUTPUT_TOKENS : Addr} {w_CACHE_READ_AUDIO : Addr} {w_CACHE_WRITE : Addr} {w_OUTPUT_AUDIO : Addr} {w_WEB_SEARCHES : Addr} {w_REASONING : Addr} {w_INPUT_AUDIO : Addr} (wd : World Z w_INPUT w_PROMPT_TOKENS w_USES w_CACHE_WRITE_1H w_CACHE_READ w_OUTPUT w_OUTPUT_TOKENS w_CACHE_READ_AUDIO w_CACHE_WRITE w_OUTPUT_AUDIO w_WEB_SEARCHES w_REASONING w_INPUT_AUDIO)  {h0 : Heap} (O : Ext Z.heap h0)  :
    Ctr l Z y2 prog_27_method_8_code 1 (some .boolean) ({ frames := 0, cells := 0, slots := 0, locals := 0 } : Room) #[(.ref w_CACHE_WRITE)] h0 (fun v h L => v = some (.int (1 : Int32)) ∧ L = [] ∧ h = h0) := by
  refine Ctr.body (plainFor_of_name pn_1) ?_
  intro p e s m below meth c T X hx hby hml hown hnm hret hlk hZ eT
  have hml : c.maxLocals = 1 := hml
  have hown : s.vm.findClass "com/example/centdb/centdb/usage/TokenKind" = some m.cls := hown
  have hnm : meth.name = "inAllTokens" := hnm
  have hret : meth.sig.returnType = (some .boolean) := hret
  refine Run.cast (show entryFrame m #[(.ref w_CACHE_WRITE)] 1 = mkF m 0 #[.val (.ref w_CACHE_WRITE)] [] from by first | (simp [entryFrame, mkF, argsToLocals, Value.category]; done) | rfl) ?_
  have wd0 := wd
  obtain ⟨S_w_INPUT, E_w_INPUT, S_w_PROMPT_TOKENS, E_w_PROMPT_TOKENS, S_w_USES, E_w_USES, S_w_CACHE_WRITE_1H, E_w_CACHE_WRITE_1H, S_w_CACHE_READ, E_w_CACHE_READ, S_w_OUTPUT, E_w_OUTPUT, S_w_OUTPUT_TOKENS, E_w_OUTPUT_TOKENS, S_w_CACHE_READ_AUDIO, E_w_CACHE_READ_AUDIO, S_w_CACHE_WRITE, E_w_CACHE_WRITE, S_w_OUTPUT_AUDIO, E_w_OUTPUT_AUDIO, S_w_WEB_SEARCHES, E_w_WEB_SEARCHES, S_w_REASONING, E_w_REASONING, S_w_INPUT_AUDIO, E_w_INPUT_AUDIO, F_unit_w_INPUT, F_whole_w_INPUT, F_ordinal_w_PROMPT_TOKENS, F_ordinal_w_USES, F_unit_w_CACHE_WRITE_1H, F_whole_w_CACHE_WRITE_1H, F_unit_w_CACHE_READ, F_whole_w_CACHE_READ, F_unit_w_OUTPUT, F_ordinal_w_OUTPUT_TOKENS, F_unit_w_CACHE_READ_AUDIO, F_whole_w_CACHE_READ_AUDIO, F_unit_w_CACHE_WRITE, F_whole_w_CACHE_WRITE, F_unit_w_OUTPUT_AUDIO, F_unit_w_WEB_SEARCHES, F_unit_w_REASONING, F_unit_w_INPUT_AUDIO, F_whole_w_INPUT_AUDIO, F_whole_w_OUTPUT, F_whole_w_OUTPUT_AUDIO, F_whole_w_WEB_SEARCHES, F_whole_w_REASONING⟩ := wd
  have wd := wd0
  have N : Fr Z.heap.size [] := Fr.nil _
  have KK : Keep h0 h0 [] := Keep.refl h0 []
  refine q_aloadN (pc' := 1) X hx (hb hby d_prog_27_method_8_code_0) rfl rfl rfl ?_
  refine q_getF (pc' := 4) X hx hZ hown (hb hby d_prog_27_method_8_code_1) (host := "") (Or.inl (t13 hw)) eT (F_unit_w_CACHE_WRITE.ext O) rfl ?_
  intro T X eT
  refine q_getS (pc' := 7) X hx hZ hown (hb hby d_prog_27_method_8_code_4) (host := "") (Or.inl (t25 hw)) eT (S_w_USES.ext O) rfl ?_
  intro T X eT
  refine q_acmp (pc' := 10) (same := false) X hx (hb hby d_prog_27_method_8_code_7) rfl rfl (decide_eq_false fun q => (Fld.ne F_ordinal_w_PROMPT_TOKENS F_ordinal_w_USES (by decide)) (Value.ref.inj q)) (by decide) (by decide) ?_
  refine q_aloadN (pc' := 11) X hx (hb hby d_prog_27_method_8_code_10) rfl rfl rfl ?_
  refine q_getF (pc' := 14) X hx hZ hown (hb hby d_prog_27_method_8_code_11) (host := "") (Or.inl (t18 hw)) eT (F_whole_w_CACHE_WRITE.ext O) rfl ?_
  intro T X eT
  refine q_ifnonnullNo (pc' := 17) X hx (hb hby d_prog_27_method_8_code_14) rfl ?_
  refine q_iconst (pc' := 18) (z := (1 : Int32)) X hx (hb hby d_prog_27_method_8_code_17) rfl rfl ?_
  refine q_goto (pc' := 22) X hx (hb hby d_prog_27_method_8_code_18) (by decide) (by decide) ?_
  refine Run.retB X hx hlk hret (hb hby d_prog_27_method_8_code_22) rfl (by decide) (by decide) ?_
  try rw [eT]
  exact ⟨rfl, rfl, rfl⟩
theorem d_method_2_code_26 : decode method_2_code 26 = .ok (.iload_n 0, 1) := by decide +kernel
theorem d_method_2_code_27 : decode method_2_code 27 = .ok (.iconst 3, 1) := by decide +kernel
theorem d_method_2_code_28 : decode method_2_code 28 = .ok (.if_icmp .ne 7, 3) := by decide +kernel
theorem d_method_2_code_31 : decode method_2_code 31 = .ok (.getstatic 19, 3) := by decide +kernel
theorem d_method_2_code_34 : decode method_2_code 34 = .ok (.areturn, 1) := by decide +kernel
set_option maxRecDepth 65536 in
set_option maxHeartbeats 40000000 in
theorem c10_pick {l : Launch} {Z : State} {a0 : Array Value} (hw : ∀ d ∈ tables_1, d.before a0 Z = true) {w_INPUT : Addr} {w_PROMPT_TOKENS : Addr} {w_USES : Addr} {w_CACHE_WRITE_1H : Addr} {w_CACHE_READ : Addr} {w_OUTPUT : Addr} {w_OUTPUT_TOKENS : Addr} {w_CACHE_READ_AUDIO : Addr} {w_CACHE_WRITE : Addr} {w_OUTPUT_AUDIO : Addr} {w_WEB_SEARCHES : Addr} {w_REASONING : Addr} {w_INPUT_AUDIO : Addr} (wd : World Z w_INPUT w_PROMPT_TOKENS w_USES w_CACHE_WRITE_1H w_CACHE_READ w_OUTPUT w_OUTPUT_TOKENS w_CACHE_READ_AUDIO w_CACHE_WRITE w_OUTPUT_AUDIO w_WEB_SEARCHES w_REASONING w_INPUT_AUDIO)  {h0 : Heap} (O : Ext Z.heap h0)  :
    Ctr l Z y0 method_2_code 1 (some (.object "com/example/centdb/centdb/usage/TokenKind")) ({ frames := 0, cells := 0, slots := 0, locals := 0 } : Room) #[(.int (3 : Int32))] h0 (fun v h L => v = some (.ref w_CACHE_WRITE_1H) ∧ L = [] ∧ h = h0) := by
  refine Ctr.body (plainFor_of_name pn_0) ?_
  intro p e s m below meth c T X hx hby hml hown hnm hret hlk hZ eT
  have hml : c.maxLocals = 1 := hml
  have hown : s.vm.findClass "com/example/centdb/centdb/usage/TokenKindInPromptPinLaw" = some m.cls := hown
  have hnm : meth.name = "pick" := hnm
  have hret : meth.sig.returnType = (some (.object "com/example/centdb/centdb/usage/TokenKind")) := hret
  refine Run.cast (show entryFrame m #[(.int (3 : Int32))] 1 = mkF m 0 #[.val (.int (3 : Int32))] [] from by first | (simp [entryFrame, mkF, argsToLocals, Value.category]; done) | rfl) ?_
  have wd0 := wd
  obtain ⟨S_w_INPUT, E_w_INPUT, S_w_PROMPT_TOKENS, E_w_PROMPT_TOKENS, S_w_USES, E_w_USES, S_w_CACHE_WRITE_1H, E_w_CACHE_WRITE_1H, S_w_CACHE_READ, E_w_CACHE_READ, S_w_OUTPUT, E_w_OUTPUT, S_w_OUTPUT_TOKENS, E_w_OUTPUT_TOKENS, S_w_CACHE_READ_AUDIO, E_w_CACHE_READ_AUDIO, S_w_CACHE_WRITE, E_w_CACHE_WRITE, S_w_OUTPUT_AUDIO, E_w_OUTPUT_AUDIO, S_w_WEB_SEARCHES, E_w_WEB_SEARCHES, S_w_REASONING, E_w_REASONING, S_w_INPUT_AUDIO, E_w_INPUT_AUDIO, F_unit_w_INPUT, F_whole_w_INPUT, F_ordinal_w_PROMPT_TOKENS, F_ordinal_w_USES, F_unit_w_CACHE_WRITE_1H, F_whole_w_CACHE_WRITE_1H, F_unit_w_CACHE_READ, F_whole_w_CACHE_READ, F_unit_w_OUTPUT, F_ordinal_w_OUTPUT_TOKENS, F_unit_w_CACHE_READ_AUDIO, F_whole_w_CACHE_READ_AUDIO, F_unit_w_CACHE_WRITE, F_whole_w_CACHE_WRITE, F_unit_w_OUTPUT_AUDIO, F_unit_w_WEB_SEARCHES, F_unit_w_REASONING, F_unit_w_INPUT_AUDIO, F_whole_w_INPUT_AUDIO, F_whole_w_OUTPUT, F_whole_w_OUTPUT_AUDIO, F_whole_w_WEB_SEARCHES, F_whole_w_REASONING⟩ := wd
  have wd := wd0
  have N : Fr Z.heap.size [] := Fr.nil _
  have KK : Keep h0 h0 [] := Keep.refl h0 []
  refine q_iloadN (pc' := 1) X hx (hb hby d_method_2_code_0) rfl rfl ?_
  refine q_ifYes (pc' := 8) X hx (hb hby d_method_2_code_1) (by decide) (by decide) (by decide) ?_
  refine q_iloadN (pc' := 9) X hx (hb hby d_method_2_code_8) rfl rfl ?_
  refine q_iconst (pc' := 10) (z := (1 : Int32)) X hx (hb hby d_method_2_code_9) rfl rfl ?_
  refine q_icmpYes (pc' := 17) X hx (hb hby d_method_2_code_10) (by decide) (by decide) (by decide) ?_
  refine q_iloadN (pc' := 18) X hx (hb hby d_method_2_code_17) rfl rfl ?_
  refine q_iconst (pc' := 19) (z := (2 : Int32)) X hx (hb hby d_method_2_code_18) rfl rfl ?_
  refine q_icmpYes (pc' := 26) X hx (hb hby d_method_2_code_19) (by decide) (by decide) (by decide) ?_
  refine q_iloadN (pc' := 27) X hx (hb hby d_method_2_code_26) rfl rfl ?_
  refine q_iconst (pc' := 28) (z := (3 : Int32)) X hx (hb hby d_method_2_code_27) rfl rfl ?_
  refine q_icmpNo (pc' := 31) X hx (hb hby d_method_2_code_28) (by decide) rfl ?_
  refine q_getS (pc' := 34) X hx hZ hown (hb hby d_method_2_code_31) (host := "") (Or.inl (t27 hw)) eT (S_w_CACHE_WRITE_1H.ext O) rfl ?_
  intro T X eT
  refine Run.retR X hx hlk hret (hb hby d_method_2_code_34) rfl rfl (by decide) (by decide) ?_
  try rw [eT]
  exact ⟨rfl, rfl, rfl⟩
set_option maxRecDepth 65536 in
set_option maxHeartbeats 40000000 in
theorem c11_inPrompt {l : Launch} {Z : State} {a0 : Array Value} (hw : ∀ d ∈ tables_1, d.before a0 Z = true) {w_INPUT : Addr} {w_PROMPT_TOKENS : Addr} {w_USES : Addr} {w_CACHE_WRITE_1H : Addr} {w_CACHE_READ : Addr} {w_OUTPUT : Addr} {w_OUTPUT_TOKENS : Addr} {w_CACHE_READ_AUDIO : Addr} {w_CACHE_WRITE : Addr} {w_OUTPUT_AUDIO : Addr} {w_WEB_SEARCHES : Addr} {w_REASONING : Addr} {w_INPUT_AUDIO : Addr} (wd : World Z w_INPUT w_PROMPT_TOKENS w_USES w_CACHE_WRITE_1H w_CACHE_READ w_OUTPUT w_OUTPUT_TOKENS w_CACHE_READ_AUDIO w_CACHE_WRITE w_OUTPUT_AUDIO w_WEB_SEARCHES w_REASONING w_INPUT_AUDIO)  {h0 : Heap} (O : Ext Z.heap h0)  :
    Ctr l Z y1 prog_27_method_7_code 1 (some .boolean) ({ frames := 0, cells := 0, slots := 0, locals := 0 } : Room) #[(.ref w_CACHE_WRITE_1H)] h0 (fun v h L => v = some (.int (1 : Int32)) ∧ L = [] ∧ h = h0) := by
  refine Ctr.body (plainFor_of_name pn_1) ?_
  intro p e s m below meth c T X hx hby hml hown hnm hret hlk hZ eT
  have hml : c.maxLocals = 1 := hml
  have hown : s.vm.findClass "com/example/centdb/centdb/usage/TokenKind" = some m.cls := hown
  have hnm : meth.name = "inPrompt" := hnm
  have hret : meth.sig.returnType = (some .boolean) := hret
  refine Run.cast (show entryFrame m #[(.ref w_CACHE_WRITE_1H)] 1 = mkF m 0 #[.val (.ref w_CACHE_WRITE_1H)] [] from by first | (simp [entryFrame, mkF, argsToLocals, Value.category]; done) | rfl) ?_
  have wd0 := wd
  obtain ⟨S_w_INPUT, E_w_INPUT, S_w_PROMPT_TOKENS, E_w_PROMPT_TOKENS, S_w_USES, E_w_USES, S_w_CACHE_WRITE_1H, E_w_CACHE_WRITE_1H, S_w_CACHE_READ, E_w_CACHE_READ, S_w_OUTPUT, E_w_OUTPUT, S_w_OUTPUT_TOKENS, E_w_OUTPUT_TOKENS, S_w_CACHE_READ_AUDIO, E_w_CACHE_READ_AUDIO, S_w_CACHE_WRITE, E_w_CACHE_WRITE, S_w_OUTPUT_AUDIO, E_w_OUTPUT_AUDIO, S_w_WEB_SEARCHES, E_w_WEB_SEARCHES, S_w_REASONING, E_w_REASONING, S_w_INPUT_AUDIO, E_w_INPUT_AUDIO, F_unit_w_INPUT, F_whole_w_INPUT, F_ordinal_w_PROMPT_TOKENS, F_ordinal_w_USES, F_unit_w_CACHE_WRITE_1H, F_whole_w_CACHE_WRITE_1H, F_unit_w_CACHE_READ, F_whole_w_CACHE_READ, F_unit_w_OUTPUT, F_ordinal_w_OUTPUT_TOKENS, F_unit_w_CACHE_READ_AUDIO, F_whole_w_CACHE_READ_AUDIO, F_unit_w_CACHE_WRITE, F_whole_w_CACHE_WRITE, F_unit_w_OUTPUT_AUDIO, F_unit_w_WEB_SEARCHES, F_unit_w_REASONING, F_unit_w_INPUT_AUDIO, F_whole_w_INPUT_AUDIO, F_whole_w_OUTPUT, F_whole_w_OUTPUT_AUDIO, F_whole_w_WEB_SEARCHES, F_whole_w_REASONING⟩ := wd
  have wd := wd0
  have N : Fr Z.heap.size [] := Fr.nil _
  have KK : Keep h0 h0 [] := Keep.refl h0 []
  refine q_aloadN (pc' := 1) X hx (hb hby d_prog_27_method_7_code_0) rfl rfl rfl ?_
  refine q_getF (pc' := 4) X hx hZ hown (hb hby d_prog_27_method_7_code_1) (host := "") (Or.inl (t13 hw)) eT (F_unit_w_CACHE_WRITE_1H.ext O) rfl ?_
  intro T X eT
  refine q_getS (pc' := 7) X hx hZ hown (hb hby d_prog_27_method_7_code_4) (host := "") (Or.inl (t17 hw)) eT (S_w_PROMPT_TOKENS.ext O) rfl ?_
  intro T X eT
  refine q_acmp (pc' := 10) (same := true) X hx (hb hby d_prog_27_method_7_code_7) rfl rfl (decide_eq_true rfl) (by decide) (by decide) ?_
  refine q_aloadN (pc' := 11) X hx (hb hby d_prog_27_method_7_code_10) rfl rfl rfl ?_
  refine q_getF (pc' := 14) X hx hZ hown (hb hby d_prog_27_method_7_code_11) (host := "") (Or.inl (t18 hw)) eT (F_whole_w_CACHE_WRITE_1H.ext O) rfl ?_
  intro T X eT
  refine q_ifnonnullNo (pc' := 17) X hx (hb hby d_prog_27_method_7_code_14) rfl ?_
  refine q_iconst (pc' := 18) (z := (1 : Int32)) X hx (hb hby d_prog_27_method_7_code_17) rfl rfl ?_
  refine q_goto (pc' := 22) X hx (hb hby d_prog_27_method_7_code_18) (by decide) (by decide) ?_
  refine Run.retB X hx hlk hret (hb hby d_prog_27_method_7_code_22) rfl (by decide) (by decide) ?_
  try rw [eT]
  exact ⟨rfl, rfl, rfl⟩
set_option maxRecDepth 65536 in
set_option maxHeartbeats 40000000 in
theorem c12_inAllTokens {l : Launch} {Z : State} {a0 : Array Value} (hw : ∀ d ∈ tables_1, d.before a0 Z = true) {w_INPUT : Addr} {w_PROMPT_TOKENS : Addr} {w_USES : Addr} {w_CACHE_WRITE_1H : Addr} {w_CACHE_READ : Addr} {w_OUTPUT : Addr} {w_OUTPUT_TOKENS : Addr} {w_CACHE_READ_AUDIO : Addr} {w_CACHE_WRITE : Addr} {w_OUTPUT_AUDIO : Addr} {w_WEB_SEARCHES : Addr} {w_REASONING : Addr} {w_INPUT_AUDIO : Addr} (wd : World Z w_INPUT w_PROMPT_TOKENS w_USES w_CACHE_WRITE_1H w_CACHE_READ w_OUTPUT w_OUTPUT_TOKENS w_CACHE_READ_AUDIO w_CACHE_WRITE w_OUTPUT_AUDIO w_WEB_SEARCHES w_REASONING w_INPUT_AUDIO)  {h0 : Heap} (O : Ext Z.heap h0)  :
    Ctr l Z y2 prog_27_method_8_code 1 (some .boolean) ({ frames := 0, cells := 0, slots := 0, locals := 0 } : Room) #[(.ref w_CACHE_WRITE_1H)] h0 (fun v h L => v = some (.int (1 : Int32)) ∧ L = [] ∧ h = h0) := by
  refine Ctr.body (plainFor_of_name pn_1) ?_
  intro p e s m below meth c T X hx hby hml hown hnm hret hlk hZ eT
  have hml : c.maxLocals = 1 := hml
  have hown : s.vm.findClass "com/example/centdb/centdb/usage/TokenKind" = some m.cls := hown
  have hnm : meth.name = "inAllTokens" := hnm
  have hret : meth.sig.returnType = (some .boolean) := hret
  refine Run.cast (show entryFrame m #[(.ref w_CACHE_WRITE_1H)] 1 = mkF m 0 #[.val (.ref w_CACHE_WRITE_1H)] [] from by first | (simp [entryFrame, mkF, argsToLocals, Value.category]; done) | rfl) ?_
  have wd0 := wd
  obtain ⟨S_w_INPUT, E_w_INPUT, S_w_PROMPT_TOKENS, E_w_PROMPT_TOKENS, S_w_USES, E_w_USES, S_w_CACHE_WRITE_1H, E_w_CACHE_WRITE_1H, S_w_CACHE_READ, E_w_CACHE_READ, S_w_OUTPUT, E_w_OUTPUT, S_w_OUTPUT_TOKENS, E_w_OUTPUT_TOKENS, S_w_CACHE_READ_AUDIO, E_w_CACHE_READ_AUDIO, S_w_CACHE_WRITE, E_w_CACHE_WRITE, S_w_OUTPUT_AUDIO, E_w_OUTPUT_AUDIO, S_w_WEB_SEARCHES, E_w_WEB_SEARCHES, S_w_REASONING, E_w_REASONING, S_w_INPUT_AUDIO, E_w_INPUT_AUDIO, F_unit_w_INPUT, F_whole_w_INPUT, F_ordinal_w_PROMPT_TOKENS, F_ordinal_w_USES, F_unit_w_CACHE_WRITE_1H, F_whole_w_CACHE_WRITE_1H, F_unit_w_CACHE_READ, F_whole_w_CACHE_READ, F_unit_w_OUTPUT, F_ordinal_w_OUTPUT_TOKENS, F_unit_w_CACHE_READ_AUDIO, F_whole_w_CACHE_READ_AUDIO, F_unit_w_CACHE_WRITE, F_whole_w_CACHE_WRITE, F_unit_w_OUTPUT_AUDIO, F_unit_w_WEB_SEARCHES, F_unit_w_REASONING, F_unit_w_INPUT_AUDIO, F_whole_w_INPUT_AUDIO, F_whole_w_OUTPUT, F_whole_w_OUTPUT_AUDIO, F_whole_w_WEB_SEARCHES, F_whole_w_REASONING⟩ := wd
  have wd := wd0
  have N : Fr Z.heap.size [] := Fr.nil _
  have KK : Keep h0 h0 [] := Keep.refl h0 []
  refine q_aloadN (pc' := 1) X hx (hb hby d_prog_27_method_8_code_0) rfl rfl rfl ?_
  refine q_getF (pc' := 4) X hx hZ hown (hb hby d_prog_27_method_8_code_1) (host := "") (Or.inl (t13 hw)) eT (F_unit_w_CACHE_WRITE_1H.ext O) rfl ?_
  intro T X eT
  refine q_getS (pc' := 7) X hx hZ hown (hb hby d_prog_27_method_8_code_4) (host := "") (Or.inl (t25 hw)) eT (S_w_USES.ext O) rfl ?_
  intro T X eT
  refine q_acmp (pc' := 10) (same := false) X hx (hb hby d_prog_27_method_8_code_7) rfl rfl (decide_eq_false fun q => (Fld.ne F_ordinal_w_PROMPT_TOKENS F_ordinal_w_USES (by decide)) (Value.ref.inj q)) (by decide) (by decide) ?_
  refine q_aloadN (pc' := 11) X hx (hb hby d_prog_27_method_8_code_10) rfl rfl rfl ?_
  refine q_getF (pc' := 14) X hx hZ hown (hb hby d_prog_27_method_8_code_11) (host := "") (Or.inl (t18 hw)) eT (F_whole_w_CACHE_WRITE_1H.ext O) rfl ?_
  intro T X eT
  refine q_ifnonnullNo (pc' := 17) X hx (hb hby d_prog_27_method_8_code_14) rfl ?_
  refine q_iconst (pc' := 18) (z := (1 : Int32)) X hx (hb hby d_prog_27_method_8_code_17) rfl rfl ?_
  refine q_goto (pc' := 22) X hx (hb hby d_prog_27_method_8_code_18) (by decide) (by decide) ?_
  refine Run.retB X hx hlk hret (hb hby d_prog_27_method_8_code_22) rfl (by decide) (by decide) ?_
  try rw [eT]
  exact ⟨rfl, rfl, rfl⟩
theorem d_method_2_code_35 : decode method_2_code 35 = .ok (.iload_n 0, 1) := by decide +kernel
theorem d_method_2_code_36 : decode method_2_code 36 = .ok (.iconst 4, 1) := by decide +kernel
theorem d_method_2_code_37 : decode method_2_code 37 = .ok (.if_icmp .ne 7, 3) := by decide +kernel
theorem d_method_2_code_40 : decode method_2_code 40 = .ok (.getstatic 22, 3) := by decide +kernel
theorem d_method_2_code_43 : decode method_2_code 43 = .ok (.areturn, 1) := by decide +kernel
set_option maxRecDepth 65536 in
set_option maxHeartbeats 40000000 in
theorem c13_pick {l : Launch} {Z : State} {a0 : Array Value} (hw : ∀ d ∈ tables_1, d.before a0 Z = true) {w_INPUT : Addr} {w_PROMPT_TOKENS : Addr} {w_USES : Addr} {w_CACHE_WRITE_1H : Addr} {w_CACHE_READ : Addr} {w_OUTPUT : Addr} {w_OUTPUT_TOKENS : Addr} {w_CACHE_READ_AUDIO : Addr} {w_CACHE_WRITE : Addr} {w_OUTPUT_AUDIO : Addr} {w_WEB_SEARCHES : Addr} {w_REASONING : Addr} {w_INPUT_AUDIO : Addr} (wd : World Z w_INPUT w_PROMPT_TOKENS w_USES w_CACHE_WRITE_1H w_CACHE_READ w_OUTPUT w_OUTPUT_TOKENS w_CACHE_READ_AUDIO w_CACHE_WRITE w_OUTPUT_AUDIO w_WEB_SEARCHES w_REASONING w_INPUT_AUDIO)  {h0 : Heap} (O : Ext Z.heap h0)  :
    Ctr l Z y0 method_2_code 1 (some (.object "com/example/centdb/centdb/usage/TokenKind")) ({ frames := 0, cells := 0, slots := 0, locals := 0 } : Room) #[(.int (4 : Int32))] h0 (fun v h L => v = some (.ref w_OUTPUT) ∧ L = [] ∧ h = h0) := by
  refine Ctr.body (plainFor_of_name pn_0) ?_
  intro p e s m below meth c T X hx hby hml hown hnm hret hlk hZ eT
  have hml : c.maxLocals = 1 := hml
  have hown : s.vm.findClass "com/example/centdb/centdb/usage/TokenKindInPromptPinLaw" = some m.cls := hown
  have hnm : meth.name = "pick" := hnm
  have hret : meth.sig.returnType = (some (.object "com/example/centdb/centdb/usage/TokenKind")) := hret
  refine Run.cast (show entryFrame m #[(.int (4 : Int32))] 1 = mkF m 0 #[.val (.int (4 : Int32))] [] from by first | (simp [entryFrame, mkF, argsToLocals, Value.category]; done) | rfl) ?_
  have wd0 := wd
  obtain ⟨S_w_INPUT, E_w_INPUT, S_w_PROMPT_TOKENS, E_w_PROMPT_TOKENS, S_w_USES, E_w_USES, S_w_CACHE_WRITE_1H, E_w_CACHE_WRITE_1H, S_w_CACHE_READ, E_w_CACHE_READ, S_w_OUTPUT, E_w_OUTPUT, S_w_OUTPUT_TOKENS, E_w_OUTPUT_TOKENS, S_w_CACHE_READ_AUDIO, E_w_CACHE_READ_AUDIO, S_w_CACHE_WRITE, E_w_CACHE_WRITE, S_w_OUTPUT_AUDIO, E_w_OUTPUT_AUDIO, S_w_WEB_SEARCHES, E_w_WEB_SEARCHES, S_w_REASONING, E_w_REASONING, S_w_INPUT_AUDIO, E_w_INPUT_AUDIO, F_unit_w_INPUT, F_whole_w_INPUT, F_ordinal_w_PROMPT_TOKENS, F_ordinal_w_USES, F_unit_w_CACHE_WRITE_1H, F_whole_w_CACHE_WRITE_1H, F_unit_w_CACHE_READ, F_whole_w_CACHE_READ, F_unit_w_OUTPUT, F_ordinal_w_OUTPUT_TOKENS, F_unit_w_CACHE_READ_AUDIO, F_whole_w_CACHE_READ_AUDIO, F_unit_w_CACHE_WRITE, F_whole_w_CACHE_WRITE, F_unit_w_OUTPUT_AUDIO, F_unit_w_WEB_SEARCHES, F_unit_w_REASONING, F_unit_w_INPUT_AUDIO, F_whole_w_INPUT_AUDIO, F_whole_w_OUTPUT, F_whole_w_OUTPUT_AUDIO, F_whole_w_WEB_SEARCHES, F_whole_w_REASONING⟩ := wd
  have wd := wd0
  have N : Fr Z.heap.size [] := Fr.nil _
  have KK : Keep h0 h0 [] := Keep.refl h0 []
  refine q_iloadN (pc' := 1) X hx (hb hby d_method_2_code_0) rfl rfl ?_
  refine q_ifYes (pc' := 8) X hx (hb hby d_method_2_code_1) (by decide) (by decide) (by decide) ?_
  refine q_iloadN (pc' := 9) X hx (hb hby d_method_2_code_8) rfl rfl ?_
  refine q_iconst (pc' := 10) (z := (1 : Int32)) X hx (hb hby d_method_2_code_9) rfl rfl ?_
  refine q_icmpYes (pc' := 17) X hx (hb hby d_method_2_code_10) (by decide) (by decide) (by decide) ?_
  refine q_iloadN (pc' := 18) X hx (hb hby d_method_2_code_17) rfl rfl ?_
  refine q_iconst (pc' := 19) (z := (2 : Int32)) X hx (hb hby d_method_2_code_18) rfl rfl ?_
  refine q_icmpYes (pc' := 26) X hx (hb hby d_method_2_code_19) (by decide) (by decide) (by decide) ?_
  refine q_iloadN (pc' := 27) X hx (hb hby d_method_2_code_26) rfl rfl ?_
  refine q_iconst (pc' := 28) (z := (3 : Int32)) X hx (hb hby d_method_2_code_27) rfl rfl ?_
  refine q_icmpYes (pc' := 35) X hx (hb hby d_method_2_code_28) (by decide) (by decide) (by decide) ?_
  refine q_iloadN (pc' := 36) X hx (hb hby d_method_2_code_35) rfl rfl ?_
  refine q_iconst (pc' := 37) (z := (4 : Int32)) X hx (hb hby d_method_2_code_36) rfl rfl ?_
  refine q_icmpNo (pc' := 40) X hx (hb hby d_method_2_code_37) (by decide) rfl ?_
  refine q_getS (pc' := 43) X hx hZ hown (hb hby d_method_2_code_40) (host := "") (Or.inl (t31 hw)) eT (S_w_OUTPUT.ext O) rfl ?_
  intro T X eT
  refine Run.retR X hx hlk hret (hb hby d_method_2_code_43) rfl rfl (by decide) (by decide) ?_
  try rw [eT]
  exact ⟨rfl, rfl, rfl⟩
theorem d_prog_27_method_7_code_21 : decode prog_27_method_7_code 21 = .ok (.iconst 0, 1) := by decide +kernel
set_option maxRecDepth 65536 in
set_option maxHeartbeats 40000000 in
theorem c14_inPrompt {l : Launch} {Z : State} {a0 : Array Value} (hw : ∀ d ∈ tables_1, d.before a0 Z = true) {w_INPUT : Addr} {w_PROMPT_TOKENS : Addr} {w_USES : Addr} {w_CACHE_WRITE_1H : Addr} {w_CACHE_READ : Addr} {w_OUTPUT : Addr} {w_OUTPUT_TOKENS : Addr} {w_CACHE_READ_AUDIO : Addr} {w_CACHE_WRITE : Addr} {w_OUTPUT_AUDIO : Addr} {w_WEB_SEARCHES : Addr} {w_REASONING : Addr} {w_INPUT_AUDIO : Addr} (wd : World Z w_INPUT w_PROMPT_TOKENS w_USES w_CACHE_WRITE_1H w_CACHE_READ w_OUTPUT w_OUTPUT_TOKENS w_CACHE_READ_AUDIO w_CACHE_WRITE w_OUTPUT_AUDIO w_WEB_SEARCHES w_REASONING w_INPUT_AUDIO)  {h0 : Heap} (O : Ext Z.heap h0)  :
    Ctr l Z y1 prog_27_method_7_code 1 (some .boolean) ({ frames := 0, cells := 0, slots := 0, locals := 0 } : Room) #[(.ref w_OUTPUT)] h0 (fun v h L => v = some (.int (0 : Int32)) ∧ L = [] ∧ h = h0) := by
  refine Ctr.body (plainFor_of_name pn_1) ?_
  intro p e s m below meth c T X hx hby hml hown hnm hret hlk hZ eT
  have hml : c.maxLocals = 1 := hml
  have hown : s.vm.findClass "com/example/centdb/centdb/usage/TokenKind" = some m.cls := hown
  have hnm : meth.name = "inPrompt" := hnm
  have hret : meth.sig.returnType = (some .boolean) := hret
  refine Run.cast (show entryFrame m #[(.ref w_OUTPUT)] 1 = mkF m 0 #[.val (.ref w_OUTPUT)] [] from by first | (simp [entryFrame, mkF, argsToLocals, Value.category]; done) | rfl) ?_
  have wd0 := wd
  obtain ⟨S_w_INPUT, E_w_INPUT, S_w_PROMPT_TOKENS, E_w_PROMPT_TOKENS, S_w_USES, E_w_USES, S_w_CACHE_WRITE_1H, E_w_CACHE_WRITE_1H, S_w_CACHE_READ, E_w_CACHE_READ, S_w_OUTPUT, E_w_OUTPUT, S_w_OUTPUT_TOKENS, E_w_OUTPUT_TOKENS, S_w_CACHE_READ_AUDIO, E_w_CACHE_READ_AUDIO, S_w_CACHE_WRITE, E_w_CACHE_WRITE, S_w_OUTPUT_AUDIO, E_w_OUTPUT_AUDIO, S_w_WEB_SEARCHES, E_w_WEB_SEARCHES, S_w_REASONING, E_w_REASONING, S_w_INPUT_AUDIO, E_w_INPUT_AUDIO, F_unit_w_INPUT, F_whole_w_INPUT, F_ordinal_w_PROMPT_TOKENS, F_ordinal_w_USES, F_unit_w_CACHE_WRITE_1H, F_whole_w_CACHE_WRITE_1H, F_unit_w_CACHE_READ, F_whole_w_CACHE_READ, F_unit_w_OUTPUT, F_ordinal_w_OUTPUT_TOKENS, F_unit_w_CACHE_READ_AUDIO, F_whole_w_CACHE_READ_AUDIO, F_unit_w_CACHE_WRITE, F_whole_w_CACHE_WRITE, F_unit_w_OUTPUT_AUDIO, F_unit_w_WEB_SEARCHES, F_unit_w_REASONING, F_unit_w_INPUT_AUDIO, F_whole_w_INPUT_AUDIO, F_whole_w_OUTPUT, F_whole_w_OUTPUT_AUDIO, F_whole_w_WEB_SEARCHES, F_whole_w_REASONING⟩ := wd
  have wd := wd0
  have N : Fr Z.heap.size [] := Fr.nil _
  have KK : Keep h0 h0 [] := Keep.refl h0 []
  refine q_aloadN (pc' := 1) X hx (hb hby d_prog_27_method_7_code_0) rfl rfl rfl ?_
  refine q_getF (pc' := 4) X hx hZ hown (hb hby d_prog_27_method_7_code_1) (host := "") (Or.inl (t13 hw)) eT (F_unit_w_OUTPUT.ext O) rfl ?_
  intro T X eT
  refine q_getS (pc' := 7) X hx hZ hown (hb hby d_prog_27_method_7_code_4) (host := "") (Or.inl (t17 hw)) eT (S_w_PROMPT_TOKENS.ext O) rfl ?_
  intro T X eT
  refine q_acmp (pc' := 21) (same := false) X hx (hb hby d_prog_27_method_7_code_7) rfl rfl (decide_eq_false fun q => (Ne.symm (Fld.ne F_ordinal_w_PROMPT_TOKENS F_ordinal_w_OUTPUT_TOKENS (by decide))) (Value.ref.inj q)) (by decide) (by decide) ?_
  refine q_iconst (pc' := 22) (z := (0 : Int32)) X hx (hb hby d_prog_27_method_7_code_21) rfl rfl ?_
  refine Run.retB X hx hlk hret (hb hby d_prog_27_method_7_code_22) rfl (by decide) (by decide) ?_
  try rw [eT]
  exact ⟨rfl, rfl, rfl⟩
theorem d_method_2_code_44 : decode method_2_code 44 = .ok (.iload_n 0, 1) := by decide +kernel
theorem d_method_2_code_45 : decode method_2_code 45 = .ok (.iconst 5, 1) := by decide +kernel
theorem d_method_2_code_46 : decode method_2_code 46 = .ok (.if_icmp .ne 7, 3) := by decide +kernel
theorem d_method_2_code_49 : decode method_2_code 49 = .ok (.getstatic 25, 3) := by decide +kernel
theorem d_method_2_code_52 : decode method_2_code 52 = .ok (.areturn, 1) := by decide +kernel
set_option maxRecDepth 65536 in
set_option maxHeartbeats 40000000 in
theorem c15_pick {l : Launch} {Z : State} {a0 : Array Value} (hw : ∀ d ∈ tables_1, d.before a0 Z = true) {w_INPUT : Addr} {w_PROMPT_TOKENS : Addr} {w_USES : Addr} {w_CACHE_WRITE_1H : Addr} {w_CACHE_READ : Addr} {w_OUTPUT : Addr} {w_OUTPUT_TOKENS : Addr} {w_CACHE_READ_AUDIO : Addr} {w_CACHE_WRITE : Addr} {w_OUTPUT_AUDIO : Addr} {w_WEB_SEARCHES : Addr} {w_REASONING : Addr} {w_INPUT_AUDIO : Addr} (wd : World Z w_INPUT w_PROMPT_TOKENS w_USES w_CACHE_WRITE_1H w_CACHE_READ w_OUTPUT w_OUTPUT_TOKENS w_CACHE_READ_AUDIO w_CACHE_WRITE w_OUTPUT_AUDIO w_WEB_SEARCHES w_REASONING w_INPUT_AUDIO)  {h0 : Heap} (O : Ext Z.heap h0)  :
    Ctr l Z y0 method_2_code 1 (some (.object "com/example/centdb/centdb/usage/TokenKind")) ({ frames := 0, cells := 0, slots := 0, locals := 0 } : Room) #[(.int (5 : Int32))] h0 (fun v h L => v = some (.ref w_REASONING) ∧ L = [] ∧ h = h0) := by
  refine Ctr.body (plainFor_of_name pn_0) ?_
  intro p e s m below meth c T X hx hby hml hown hnm hret hlk hZ eT
  have hml : c.maxLocals = 1 := hml
  have hown : s.vm.findClass "com/example/centdb/centdb/usage/TokenKindInPromptPinLaw" = some m.cls := hown
  have hnm : meth.name = "pick" := hnm
  have hret : meth.sig.returnType = (some (.object "com/example/centdb/centdb/usage/TokenKind")) := hret
  refine Run.cast (show entryFrame m #[(.int (5 : Int32))] 1 = mkF m 0 #[.val (.int (5 : Int32))] [] from by first | (simp [entryFrame, mkF, argsToLocals, Value.category]; done) | rfl) ?_
  have wd0 := wd
  obtain ⟨S_w_INPUT, E_w_INPUT, S_w_PROMPT_TOKENS, E_w_PROMPT_TOKENS, S_w_USES, E_w_USES, S_w_CACHE_WRITE_1H, E_w_CACHE_WRITE_1H, S_w_CACHE_READ, E_w_CACHE_READ, S_w_OUTPUT, E_w_OUTPUT, S_w_OUTPUT_TOKENS, E_w_OUTPUT_TOKENS, S_w_CACHE_READ_AUDIO, E_w_CACHE_READ_AUDIO, S_w_CACHE_WRITE, E_w_CACHE_WRITE, S_w_OUTPUT_AUDIO, E_w_OUTPUT_AUDIO, S_w_WEB_SEARCHES, E_w_WEB_SEARCHES, S_w_REASONING, E_w_REASONING, S_w_INPUT_AUDIO, E_w_INPUT_AUDIO, F_unit_w_INPUT, F_whole_w_INPUT, F_ordinal_w_PROMPT_TOKENS, F_ordinal_w_USES, F_unit_w_CACHE_WRITE_1H, F_whole_w_CACHE_WRITE_1H, F_unit_w_CACHE_READ, F_whole_w_CACHE_READ, F_unit_w_OUTPUT, F_ordinal_w_OUTPUT_TOKENS, F_unit_w_CACHE_READ_AUDIO, F_whole_w_CACHE_READ_AUDIO, F_unit_w_CACHE_WRITE, F_whole_w_CACHE_WRITE, F_unit_w_OUTPUT_AUDIO, F_unit_w_WEB_SEARCHES, F_unit_w_REASONING, F_unit_w_INPUT_AUDIO, F_whole_w_INPUT_AUDIO, F_whole_w_OUTPUT, F_whole_w_OUTPUT_AUDIO, F_whole_w_WEB_SEARCHES, F_whole_w_REASONING⟩ := wd
  have wd := wd0
  have N : Fr Z.heap.size [] := Fr.nil _
  have KK : Keep h0 h0 [] := Keep.refl h0 []
  refine q_iloadN (pc' := 1) X hx (hb hby d_method_2_code_0) rfl rfl ?_
  refine q_ifYes (pc' := 8) X hx (hb hby d_method_2_code_1) (by decide) (by decide) (by decide) ?_
  refine q_iloadN (pc' := 9) X hx (hb hby d_method_2_code_8) rfl rfl ?_
  refine q_iconst (pc' := 10) (z := (1 : Int32)) X hx (hb hby d_method_2_code_9) rfl rfl ?_
  refine q_icmpYes (pc' := 17) X hx (hb hby d_method_2_code_10) (by decide) (by decide) (by decide) ?_
  refine q_iloadN (pc' := 18) X hx (hb hby d_method_2_code_17) rfl rfl ?_
  refine q_iconst (pc' := 19) (z := (2 : Int32)) X hx (hb hby d_method_2_code_18) rfl rfl ?_
  refine q_icmpYes (pc' := 26) X hx (hb hby d_method_2_code_19) (by decide) (by decide) (by decide) ?_
  refine q_iloadN (pc' := 27) X hx (hb hby d_method_2_code_26) rfl rfl ?_
  refine q_iconst (pc' := 28) (z := (3 : Int32)) X hx (hb hby d_method_2_code_27) rfl rfl ?_
  refine q_icmpYes (pc' := 35) X hx (hb hby d_method_2_code_28) (by decide) (by decide) (by decide) ?_
  refine q_iloadN (pc' := 36) X hx (hb hby d_method_2_code_35) rfl rfl ?_
  refine q_iconst (pc' := 37) (z := (4 : Int32)) X hx (hb hby d_method_2_code_36) rfl rfl ?_
  refine q_icmpYes (pc' := 44) X hx (hb hby d_method_2_code_37) (by decide) (by decide) (by decide) ?_
  refine q_iloadN (pc' := 45) X hx (hb hby d_method_2_code_44) rfl rfl ?_
  refine q_iconst (pc' := 46) (z := (5 : Int32)) X hx (hb hby d_method_2_code_45) rfl rfl ?_
  refine q_icmpNo (pc' := 49) X hx (hb hby d_method_2_code_46) (by decide) rfl ?_
  refine q_getS (pc' := 52) X hx hZ hown (hb hby d_method_2_code_49) (host := "") (Or.inl (t42 hw)) eT (S_w_REASONING.ext O) rfl ?_
  intro T X eT
  refine Run.retR X hx hlk hret (hb hby d_method_2_code_52) rfl rfl (by decide) (by decide) ?_
  try rw [eT]
  exact ⟨rfl, rfl, rfl⟩
set_option maxRecDepth 65536 in
set_option maxHeartbeats 40000000 in
theorem c16_inPrompt {l : Launch} {Z : State} {a0 : Array Value} (hw : ∀ d ∈ tables_1, d.before a0 Z = true) {w_INPUT : Addr} {w_PROMPT_TOKENS : Addr} {w_USES : Addr} {w_CACHE_WRITE_1H : Addr} {w_CACHE_READ : Addr} {w_OUTPUT : Addr} {w_OUTPUT_TOKENS : Addr} {w_CACHE_READ_AUDIO : Addr} {w_CACHE_WRITE : Addr} {w_OUTPUT_AUDIO : Addr} {w_WEB_SEARCHES : Addr} {w_REASONING : Addr} {w_INPUT_AUDIO : Addr} (wd : World Z w_INPUT w_PROMPT_TOKENS w_USES w_CACHE_WRITE_1H w_CACHE_READ w_OUTPUT w_OUTPUT_TOKENS w_CACHE_READ_AUDIO w_CACHE_WRITE w_OUTPUT_AUDIO w_WEB_SEARCHES w_REASONING w_INPUT_AUDIO)  {h0 : Heap} (O : Ext Z.heap h0)  :
    Ctr l Z y1 prog_27_method_7_code 1 (some .boolean) ({ frames := 0, cells := 0, slots := 0, locals := 0 } : Room) #[(.ref w_REASONING)] h0 (fun v h L => v = some (.int (0 : Int32)) ∧ L = [] ∧ h = h0) := by
  refine Ctr.body (plainFor_of_name pn_1) ?_
  intro p e s m below meth c T X hx hby hml hown hnm hret hlk hZ eT
  have hml : c.maxLocals = 1 := hml
  have hown : s.vm.findClass "com/example/centdb/centdb/usage/TokenKind" = some m.cls := hown
  have hnm : meth.name = "inPrompt" := hnm
  have hret : meth.sig.returnType = (some .boolean) := hret
  refine Run.cast (show entryFrame m #[(.ref w_REASONING)] 1 = mkF m 0 #[.val (.ref w_REASONING)] [] from by first | (simp [entryFrame, mkF, argsToLocals, Value.category]; done) | rfl) ?_
  have wd0 := wd
  obtain ⟨S_w_INPUT, E_w_INPUT, S_w_PROMPT_TOKENS, E_w_PROMPT_TOKENS, S_w_USES, E_w_USES, S_w_CACHE_WRITE_1H, E_w_CACHE_WRITE_1H, S_w_CACHE_READ, E_w_CACHE_READ, S_w_OUTPUT, E_w_OUTPUT, S_w_OUTPUT_TOKENS, E_w_OUTPUT_TOKENS, S_w_CACHE_READ_AUDIO, E_w_CACHE_READ_AUDIO, S_w_CACHE_WRITE, E_w_CACHE_WRITE, S_w_OUTPUT_AUDIO, E_w_OUTPUT_AUDIO, S_w_WEB_SEARCHES, E_w_WEB_SEARCHES, S_w_REASONING, E_w_REASONING, S_w_INPUT_AUDIO, E_w_INPUT_AUDIO, F_unit_w_INPUT, F_whole_w_INPUT, F_ordinal_w_PROMPT_TOKENS, F_ordinal_w_USES, F_unit_w_CACHE_WRITE_1H, F_whole_w_CACHE_WRITE_1H, F_unit_w_CACHE_READ, F_whole_w_CACHE_READ, F_unit_w_OUTPUT, F_ordinal_w_OUTPUT_TOKENS, F_unit_w_CACHE_READ_AUDIO, F_whole_w_CACHE_READ_AUDIO, F_unit_w_CACHE_WRITE, F_whole_w_CACHE_WRITE, F_unit_w_OUTPUT_AUDIO, F_unit_w_WEB_SEARCHES, F_unit_w_REASONING, F_unit_w_INPUT_AUDIO, F_whole_w_INPUT_AUDIO, F_whole_w_OUTPUT, F_whole_w_OUTPUT_AUDIO, F_whole_w_WEB_SEARCHES, F_whole_w_REASONING⟩ := wd
  have wd := wd0
  have N : Fr Z.heap.size [] := Fr.nil _
  have KK : Keep h0 h0 [] := Keep.refl h0 []
  refine q_aloadN (pc' := 1) X hx (hb hby d_prog_27_method_7_code_0) rfl rfl rfl ?_
  refine q_getF (pc' := 4) X hx hZ hown (hb hby d_prog_27_method_7_code_1) (host := "") (Or.inl (t13 hw)) eT (F_unit_w_REASONING.ext O) rfl ?_
  intro T X eT
  refine q_getS (pc' := 7) X hx hZ hown (hb hby d_prog_27_method_7_code_4) (host := "") (Or.inl (t17 hw)) eT (S_w_PROMPT_TOKENS.ext O) rfl ?_
  intro T X eT
  refine q_acmp (pc' := 21) (same := false) X hx (hb hby d_prog_27_method_7_code_7) rfl rfl (decide_eq_false fun q => (Ne.symm (Fld.ne F_ordinal_w_PROMPT_TOKENS F_ordinal_w_OUTPUT_TOKENS (by decide))) (Value.ref.inj q)) (by decide) (by decide) ?_
  refine q_iconst (pc' := 22) (z := (0 : Int32)) X hx (hb hby d_prog_27_method_7_code_21) rfl rfl ?_
  refine Run.retB X hx hlk hret (hb hby d_prog_27_method_7_code_22) rfl (by decide) (by decide) ?_
  try rw [eT]
  exact ⟨rfl, rfl, rfl⟩
theorem d_method_2_code_53 : decode method_2_code 53 = .ok (.iload_n 0, 1) := by decide +kernel
theorem d_method_2_code_54 : decode method_2_code 54 = .ok (.bipush 6, 2) := by decide +kernel
theorem d_method_2_code_56 : decode method_2_code 56 = .ok (.if_icmp .ne 7, 3) := by decide +kernel
theorem d_method_2_code_59 : decode method_2_code 59 = .ok (.getstatic 28, 3) := by decide +kernel
theorem d_method_2_code_62 : decode method_2_code 62 = .ok (.areturn, 1) := by decide +kernel
set_option maxRecDepth 65536 in
set_option maxHeartbeats 40000000 in
theorem c17_pick {l : Launch} {Z : State} {a0 : Array Value} (hw : ∀ d ∈ tables_1, d.before a0 Z = true) {w_INPUT : Addr} {w_PROMPT_TOKENS : Addr} {w_USES : Addr} {w_CACHE_WRITE_1H : Addr} {w_CACHE_READ : Addr} {w_OUTPUT : Addr} {w_OUTPUT_TOKENS : Addr} {w_CACHE_READ_AUDIO : Addr} {w_CACHE_WRITE : Addr} {w_OUTPUT_AUDIO : Addr} {w_WEB_SEARCHES : Addr} {w_REASONING : Addr} {w_INPUT_AUDIO : Addr} (wd : World Z w_INPUT w_PROMPT_TOKENS w_USES w_CACHE_WRITE_1H w_CACHE_READ w_OUTPUT w_OUTPUT_TOKENS w_CACHE_READ_AUDIO w_CACHE_WRITE w_OUTPUT_AUDIO w_WEB_SEARCHES w_REASONING w_INPUT_AUDIO)  {h0 : Heap} (O : Ext Z.heap h0)  :
    Ctr l Z y0 method_2_code 1 (some (.object "com/example/centdb/centdb/usage/TokenKind")) ({ frames := 0, cells := 0, slots := 0, locals := 0 } : Room) #[(.int (6 : Int32))] h0 (fun v h L => v = some (.ref w_INPUT_AUDIO) ∧ L = [] ∧ h = h0) := by
  refine Ctr.body (plainFor_of_name pn_0) ?_
  intro p e s m below meth c T X hx hby hml hown hnm hret hlk hZ eT
  have hml : c.maxLocals = 1 := hml
  have hown : s.vm.findClass "com/example/centdb/centdb/usage/TokenKindInPromptPinLaw" = some m.cls := hown
  have hnm : meth.name = "pick" := hnm
  have hret : meth.sig.returnType = (some (.object "com/example/centdb/centdb/usage/TokenKind")) := hret
  refine Run.cast (show entryFrame m #[(.int (6 : Int32))] 1 = mkF m 0 #[.val (.int (6 : Int32))] [] from by first | (simp [entryFrame, mkF, argsToLocals, Value.category]; done) | rfl) ?_
  have wd0 := wd
  obtain ⟨S_w_INPUT, E_w_INPUT, S_w_PROMPT_TOKENS, E_w_PROMPT_TOKENS, S_w_USES, E_w_USES, S_w_CACHE_WRITE_1H, E_w_CACHE_WRITE_1H, S_w_CACHE_READ, E_w_CACHE_READ, S_w_OUTPUT, E_w_OUTPUT, S_w_OUTPUT_TOKENS, E_w_OUTPUT_TOKENS, S_w_CACHE_READ_AUDIO, E_w_CACHE_READ_AUDIO, S_w_CACHE_WRITE, E_w_CACHE_WRITE, S_w_OUTPUT_AUDIO, E_w_OUTPUT_AUDIO, S_w_WEB_SEARCHES, E_w_WEB_SEARCHES, S_w_REASONING, E_w_REASONING, S_w_INPUT_AUDIO, E_w_INPUT_AUDIO, F_unit_w_INPUT, F_whole_w_INPUT, F_ordinal_w_PROMPT_TOKENS, F_ordinal_w_USES, F_unit_w_CACHE_WRITE_1H, F_whole_w_CACHE_WRITE_1H, F_unit_w_CACHE_READ, F_whole_w_CACHE_READ, F_unit_w_OUTPUT, F_ordinal_w_OUTPUT_TOKENS, F_unit_w_CACHE_READ_AUDIO, F_whole_w_CACHE_READ_AUDIO, F_unit_w_CACHE_WRITE, F_whole_w_CACHE_WRITE, F_unit_w_OUTPUT_AUDIO, F_unit_w_WEB_SEARCHES, F_unit_w_REASONING, F_unit_w_INPUT_AUDIO, F_whole_w_INPUT_AUDIO, F_whole_w_OUTPUT, F_whole_w_OUTPUT_AUDIO, F_whole_w_WEB_SEARCHES, F_whole_w_REASONING⟩ := wd
  have wd := wd0
  have N : Fr Z.heap.size [] := Fr.nil _
  have KK : Keep h0 h0 [] := Keep.refl h0 []
  refine q_iloadN (pc' := 1) X hx (hb hby d_method_2_code_0) rfl rfl ?_
  refine q_ifYes (pc' := 8) X hx (hb hby d_method_2_code_1) (by decide) (by decide) (by decide) ?_
  refine q_iloadN (pc' := 9) X hx (hb hby d_method_2_code_8) rfl rfl ?_
  refine q_iconst (pc' := 10) (z := (1 : Int32)) X hx (hb hby d_method_2_code_9) rfl rfl ?_
  refine q_icmpYes (pc' := 17) X hx (hb hby d_method_2_code_10) (by decide) (by decide) (by decide) ?_
  refine q_iloadN (pc' := 18) X hx (hb hby d_method_2_code_17) rfl rfl ?_
  refine q_iconst (pc' := 19) (z := (2 : Int32)) X hx (hb hby d_method_2_code_18) rfl rfl ?_
  refine q_icmpYes (pc' := 26) X hx (hb hby d_method_2_code_19) (by decide) (by decide) (by decide) ?_
  refine q_iloadN (pc' := 27) X hx (hb hby d_method_2_code_26) rfl rfl ?_
  refine q_iconst (pc' := 28) (z := (3 : Int32)) X hx (hb hby d_method_2_code_27) rfl rfl ?_
  refine q_icmpYes (pc' := 35) X hx (hb hby d_method_2_code_28) (by decide) (by decide) (by decide) ?_
  refine q_iloadN (pc' := 36) X hx (hb hby d_method_2_code_35) rfl rfl ?_
  refine q_iconst (pc' := 37) (z := (4 : Int32)) X hx (hb hby d_method_2_code_36) rfl rfl ?_
  refine q_icmpYes (pc' := 44) X hx (hb hby d_method_2_code_37) (by decide) (by decide) (by decide) ?_
  refine q_iloadN (pc' := 45) X hx (hb hby d_method_2_code_44) rfl rfl ?_
  refine q_iconst (pc' := 46) (z := (5 : Int32)) X hx (hb hby d_method_2_code_45) rfl rfl ?_
  refine q_icmpYes (pc' := 53) X hx (hb hby d_method_2_code_46) (by decide) (by decide) (by decide) ?_
  refine q_iloadN (pc' := 54) X hx (hb hby d_method_2_code_53) rfl rfl ?_
  refine q_bipush (pc' := 56) (z := (6 : Int32)) X hx (hb hby d_method_2_code_54) rfl rfl ?_
  refine q_icmpNo (pc' := 59) X hx (hb hby d_method_2_code_56) (by decide) rfl ?_
  refine q_getS (pc' := 62) X hx hZ hown (hb hby d_method_2_code_59) (host := "") (Or.inl (t44 hw)) eT (S_w_INPUT_AUDIO.ext O) rfl ?_
  intro T X eT
  refine Run.retR X hx hlk hret (hb hby d_method_2_code_62) rfl rfl (by decide) (by decide) ?_
  try rw [eT]
  exact ⟨rfl, rfl, rfl⟩
set_option maxRecDepth 65536 in
set_option maxHeartbeats 40000000 in
theorem c18_inPrompt {l : Launch} {Z : State} {a0 : Array Value} (hw : ∀ d ∈ tables_1, d.before a0 Z = true) {w_INPUT : Addr} {w_PROMPT_TOKENS : Addr} {w_USES : Addr} {w_CACHE_WRITE_1H : Addr} {w_CACHE_READ : Addr} {w_OUTPUT : Addr} {w_OUTPUT_TOKENS : Addr} {w_CACHE_READ_AUDIO : Addr} {w_CACHE_WRITE : Addr} {w_OUTPUT_AUDIO : Addr} {w_WEB_SEARCHES : Addr} {w_REASONING : Addr} {w_INPUT_AUDIO : Addr} (wd : World Z w_INPUT w_PROMPT_TOKENS w_USES w_CACHE_WRITE_1H w_CACHE_READ w_OUTPUT w_OUTPUT_TOKENS w_CACHE_READ_AUDIO w_CACHE_WRITE w_OUTPUT_AUDIO w_WEB_SEARCHES w_REASONING w_INPUT_AUDIO)  {h0 : Heap} (O : Ext Z.heap h0)  :
    Ctr l Z y1 prog_27_method_7_code 1 (some .boolean) ({ frames := 0, cells := 0, slots := 0, locals := 0 } : Room) #[(.ref w_INPUT_AUDIO)] h0 (fun v h L => v = some (.int (0 : Int32)) ∧ L = [] ∧ h = h0) := by
  refine Ctr.body (plainFor_of_name pn_1) ?_
  intro p e s m below meth c T X hx hby hml hown hnm hret hlk hZ eT
  have hml : c.maxLocals = 1 := hml
  have hown : s.vm.findClass "com/example/centdb/centdb/usage/TokenKind" = some m.cls := hown
  have hnm : meth.name = "inPrompt" := hnm
  have hret : meth.sig.returnType = (some .boolean) := hret
  refine Run.cast (show entryFrame m #[(.ref w_INPUT_AUDIO)] 1 = mkF m 0 #[.val (.ref w_INPUT_AUDIO)] [] from by first | (simp [entryFrame, mkF, argsToLocals, Value.category]; done) | rfl) ?_
  have wd0 := wd
  obtain ⟨S_w_INPUT, E_w_INPUT, S_w_PROMPT_TOKENS, E_w_PROMPT_TOKENS, S_w_USES, E_w_USES, S_w_CACHE_WRITE_1H, E_w_CACHE_WRITE_1H, S_w_CACHE_READ, E_w_CACHE_READ, S_w_OUTPUT, E_w_OUTPUT, S_w_OUTPUT_TOKENS, E_w_OUTPUT_TOKENS, S_w_CACHE_READ_AUDIO, E_w_CACHE_READ_AUDIO, S_w_CACHE_WRITE, E_w_CACHE_WRITE, S_w_OUTPUT_AUDIO, E_w_OUTPUT_AUDIO, S_w_WEB_SEARCHES, E_w_WEB_SEARCHES, S_w_REASONING, E_w_REASONING, S_w_INPUT_AUDIO, E_w_INPUT_AUDIO, F_unit_w_INPUT, F_whole_w_INPUT, F_ordinal_w_PROMPT_TOKENS, F_ordinal_w_USES, F_unit_w_CACHE_WRITE_1H, F_whole_w_CACHE_WRITE_1H, F_unit_w_CACHE_READ, F_whole_w_CACHE_READ, F_unit_w_OUTPUT, F_ordinal_w_OUTPUT_TOKENS, F_unit_w_CACHE_READ_AUDIO, F_whole_w_CACHE_READ_AUDIO, F_unit_w_CACHE_WRITE, F_whole_w_CACHE_WRITE, F_unit_w_OUTPUT_AUDIO, F_unit_w_WEB_SEARCHES, F_unit_w_REASONING, F_unit_w_INPUT_AUDIO, F_whole_w_INPUT_AUDIO, F_whole_w_OUTPUT, F_whole_w_OUTPUT_AUDIO, F_whole_w_WEB_SEARCHES, F_whole_w_REASONING⟩ := wd
  have wd := wd0
  have N : Fr Z.heap.size [] := Fr.nil _
  have KK : Keep h0 h0 [] := Keep.refl h0 []
  refine q_aloadN (pc' := 1) X hx (hb hby d_prog_27_method_7_code_0) rfl rfl rfl ?_
  refine q_getF (pc' := 4) X hx hZ hown (hb hby d_prog_27_method_7_code_1) (host := "") (Or.inl (t13 hw)) eT (F_unit_w_INPUT_AUDIO.ext O) rfl ?_
  intro T X eT
  refine q_getS (pc' := 7) X hx hZ hown (hb hby d_prog_27_method_7_code_4) (host := "") (Or.inl (t17 hw)) eT (S_w_PROMPT_TOKENS.ext O) rfl ?_
  intro T X eT
  refine q_acmp (pc' := 10) (same := true) X hx (hb hby d_prog_27_method_7_code_7) rfl rfl (decide_eq_true rfl) (by decide) (by decide) ?_
  refine q_aloadN (pc' := 11) X hx (hb hby d_prog_27_method_7_code_10) rfl rfl rfl ?_
  refine q_getF (pc' := 14) X hx hZ hown (hb hby d_prog_27_method_7_code_11) (host := "") (Or.inl (t18 hw)) eT (F_whole_w_INPUT_AUDIO.ext O) rfl ?_
  intro T X eT
  refine q_ifnonnullYes (pc' := 21) X hx (hb hby d_prog_27_method_7_code_14) (by decide) (by decide) ?_
  refine q_iconst (pc' := 22) (z := (0 : Int32)) X hx (hb hby d_prog_27_method_7_code_21) rfl rfl ?_
  refine Run.retB X hx hlk hret (hb hby d_prog_27_method_7_code_22) rfl (by decide) (by decide) ?_
  try rw [eT]
  exact ⟨rfl, rfl, rfl⟩
theorem d_method_2_code_63 : decode method_2_code 63 = .ok (.iload_n 0, 1) := by decide +kernel
theorem d_method_2_code_64 : decode method_2_code 64 = .ok (.bipush 7, 2) := by decide +kernel
theorem d_method_2_code_66 : decode method_2_code 66 = .ok (.if_icmp .ne 7, 3) := by decide +kernel
theorem d_method_2_code_69 : decode method_2_code 69 = .ok (.getstatic 31, 3) := by decide +kernel
theorem d_method_2_code_72 : decode method_2_code 72 = .ok (.areturn, 1) := by decide +kernel
set_option maxRecDepth 65536 in
set_option maxHeartbeats 40000000 in
theorem c19_pick {l : Launch} {Z : State} {a0 : Array Value} (hw : ∀ d ∈ tables_1, d.before a0 Z = true) {w_INPUT : Addr} {w_PROMPT_TOKENS : Addr} {w_USES : Addr} {w_CACHE_WRITE_1H : Addr} {w_CACHE_READ : Addr} {w_OUTPUT : Addr} {w_OUTPUT_TOKENS : Addr} {w_CACHE_READ_AUDIO : Addr} {w_CACHE_WRITE : Addr} {w_OUTPUT_AUDIO : Addr} {w_WEB_SEARCHES : Addr} {w_REASONING : Addr} {w_INPUT_AUDIO : Addr} (wd : World Z w_INPUT w_PROMPT_TOKENS w_USES w_CACHE_WRITE_1H w_CACHE_READ w_OUTPUT w_OUTPUT_TOKENS w_CACHE_READ_AUDIO w_CACHE_WRITE w_OUTPUT_AUDIO w_WEB_SEARCHES w_REASONING w_INPUT_AUDIO)  {h0 : Heap} (O : Ext Z.heap h0)  :
    Ctr l Z y0 method_2_code 1 (some (.object "com/example/centdb/centdb/usage/TokenKind")) ({ frames := 0, cells := 0, slots := 0, locals := 0 } : Room) #[(.int (7 : Int32))] h0 (fun v h L => v = some (.ref w_CACHE_READ_AUDIO) ∧ L = [] ∧ h = h0) := by
  refine Ctr.body (plainFor_of_name pn_0) ?_
  intro p e s m below meth c T X hx hby hml hown hnm hret hlk hZ eT
  have hml : c.maxLocals = 1 := hml
  have hown : s.vm.findClass "com/example/centdb/centdb/usage/TokenKindInPromptPinLaw" = some m.cls := hown
  have hnm : meth.name = "pick" := hnm
  have hret : meth.sig.returnType = (some (.object "com/example/centdb/centdb/usage/TokenKind")) := hret
  refine Run.cast (show entryFrame m #[(.int (7 : Int32))] 1 = mkF m 0 #[.val (.int (7 : Int32))] [] from by first | (simp [entryFrame, mkF, argsToLocals, Value.category]; done) | rfl) ?_
  have wd0 := wd
  obtain ⟨S_w_INPUT, E_w_INPUT, S_w_PROMPT_TOKENS, E_w_PROMPT_TOKENS, S_w_USES, E_w_USES, S_w_CACHE_WRITE_1H, E_w_CACHE_WRITE_1H, S_w_CACHE_READ, E_w_CACHE_READ, S_w_OUTPUT, E_w_OUTPUT, S_w_OUTPUT_TOKENS, E_w_OUTPUT_TOKENS, S_w_CACHE_READ_AUDIO, E_w_CACHE_READ_AUDIO, S_w_CACHE_WRITE, E_w_CACHE_WRITE, S_w_OUTPUT_AUDIO, E_w_OUTPUT_AUDIO, S_w_WEB_SEARCHES, E_w_WEB_SEARCHES, S_w_REASONING, E_w_REASONING, S_w_INPUT_AUDIO, E_w_INPUT_AUDIO, F_unit_w_INPUT, F_whole_w_INPUT, F_ordinal_w_PROMPT_TOKENS, F_ordinal_w_USES, F_unit_w_CACHE_WRITE_1H, F_whole_w_CACHE_WRITE_1H, F_unit_w_CACHE_READ, F_whole_w_CACHE_READ, F_unit_w_OUTPUT, F_ordinal_w_OUTPUT_TOKENS, F_unit_w_CACHE_READ_AUDIO, F_whole_w_CACHE_READ_AUDIO, F_unit_w_CACHE_WRITE, F_whole_w_CACHE_WRITE, F_unit_w_OUTPUT_AUDIO, F_unit_w_WEB_SEARCHES, F_unit_w_REASONING, F_unit_w_INPUT_AUDIO, F_whole_w_INPUT_AUDIO, F_whole_w_OUTPUT, F_whole_w_OUTPUT_AUDIO, F_whole_w_WEB_SEARCHES, F_whole_w_REASONING⟩ := wd
  have wd := wd0
  have N : Fr Z.heap.size [] := Fr.nil _
  have KK : Keep h0 h0 [] := Keep.refl h0 []
  refine q_iloadN (pc' := 1) X hx (hb hby d_method_2_code_0) rfl rfl ?_
  refine q_ifYes (pc' := 8) X hx (hb hby d_method_2_code_1) (by decide) (by decide) (by decide) ?_
  refine q_iloadN (pc' := 9) X hx (hb hby d_method_2_code_8) rfl rfl ?_
  refine q_iconst (pc' := 10) (z := (1 : Int32)) X hx (hb hby d_method_2_code_9) rfl rfl ?_
  refine q_icmpYes (pc' := 17) X hx (hb hby d_method_2_code_10) (by decide) (by decide) (by decide) ?_
  refine q_iloadN (pc' := 18) X hx (hb hby d_method_2_code_17) rfl rfl ?_
  refine q_iconst (pc' := 19) (z := (2 : Int32)) X hx (hb hby d_method_2_code_18) rfl rfl ?_
  refine q_icmpYes (pc' := 26) X hx (hb hby d_method_2_code_19) (by decide) (by decide) (by decide) ?_
  refine q_iloadN (pc' := 27) X hx (hb hby d_method_2_code_26) rfl rfl ?_
  refine q_iconst (pc' := 28) (z := (3 : Int32)) X hx (hb hby d_method_2_code_27) rfl rfl ?_
  refine q_icmpYes (pc' := 35) X hx (hb hby d_method_2_code_28) (by decide) (by decide) (by decide) ?_
  refine q_iloadN (pc' := 36) X hx (hb hby d_method_2_code_35) rfl rfl ?_
  refine q_iconst (pc' := 37) (z := (4 : Int32)) X hx (hb hby d_method_2_code_36) rfl rfl ?_
  refine q_icmpYes (pc' := 44) X hx (hb hby d_method_2_code_37) (by decide) (by decide) (by decide) ?_
  refine q_iloadN (pc' := 45) X hx (hb hby d_method_2_code_44) rfl rfl ?_
  refine q_iconst (pc' := 46) (z := (5 : Int32)) X hx (hb hby d_method_2_code_45) rfl rfl ?_
  refine q_icmpYes (pc' := 53) X hx (hb hby d_method_2_code_46) (by decide) (by decide) (by decide) ?_
  refine q_iloadN (pc' := 54) X hx (hb hby d_method_2_code_53) rfl rfl ?_
  refine q_bipush (pc' := 56) (z := (6 : Int32)) X hx (hb hby d_method_2_code_54) rfl rfl ?_
  refine q_icmpYes (pc' := 63) X hx (hb hby d_method_2_code_56) (by decide) (by decide) (by decide) ?_
  refine q_iloadN (pc' := 64) X hx (hb hby d_method_2_code_63) rfl rfl ?_
  refine q_bipush (pc' := 66) (z := (7 : Int32)) X hx (hb hby d_method_2_code_64) rfl rfl ?_
  refine q_icmpNo (pc' := 69) X hx (hb hby d_method_2_code_66) (by decide) rfl ?_
  refine q_getS (pc' := 72) X hx hZ hown (hb hby d_method_2_code_69) (host := "") (Or.inl (t34 hw)) eT (S_w_CACHE_READ_AUDIO.ext O) rfl ?_
  intro T X eT
  refine Run.retR X hx hlk hret (hb hby d_method_2_code_72) rfl rfl (by decide) (by decide) ?_
  try rw [eT]
  exact ⟨rfl, rfl, rfl⟩
set_option maxRecDepth 65536 in
set_option maxHeartbeats 40000000 in
theorem c20_inPrompt {l : Launch} {Z : State} {a0 : Array Value} (hw : ∀ d ∈ tables_1, d.before a0 Z = true) {w_INPUT : Addr} {w_PROMPT_TOKENS : Addr} {w_USES : Addr} {w_CACHE_WRITE_1H : Addr} {w_CACHE_READ : Addr} {w_OUTPUT : Addr} {w_OUTPUT_TOKENS : Addr} {w_CACHE_READ_AUDIO : Addr} {w_CACHE_WRITE : Addr} {w_OUTPUT_AUDIO : Addr} {w_WEB_SEARCHES : Addr} {w_REASONING : Addr} {w_INPUT_AUDIO : Addr} (wd : World Z w_INPUT w_PROMPT_TOKENS w_USES w_CACHE_WRITE_1H w_CACHE_READ w_OUTPUT w_OUTPUT_TOKENS w_CACHE_READ_AUDIO w_CACHE_WRITE w_OUTPUT_AUDIO w_WEB_SEARCHES w_REASONING w_INPUT_AUDIO)  {h0 : Heap} (O : Ext Z.heap h0)  :
    Ctr l Z y1 prog_27_method_7_code 1 (some .boolean) ({ frames := 0, cells := 0, slots := 0, locals := 0 } : Room) #[(.ref w_CACHE_READ_AUDIO)] h0 (fun v h L => v = some (.int (0 : Int32)) ∧ L = [] ∧ h = h0) := by
  refine Ctr.body (plainFor_of_name pn_1) ?_
  intro p e s m below meth c T X hx hby hml hown hnm hret hlk hZ eT
  have hml : c.maxLocals = 1 := hml
  have hown : s.vm.findClass "com/example/centdb/centdb/usage/TokenKind" = some m.cls := hown
  have hnm : meth.name = "inPrompt" := hnm
  have hret : meth.sig.returnType = (some .boolean) := hret
  refine Run.cast (show entryFrame m #[(.ref w_CACHE_READ_AUDIO)] 1 = mkF m 0 #[.val (.ref w_CACHE_READ_AUDIO)] [] from by first | (simp [entryFrame, mkF, argsToLocals, Value.category]; done) | rfl) ?_
  have wd0 := wd
  obtain ⟨S_w_INPUT, E_w_INPUT, S_w_PROMPT_TOKENS, E_w_PROMPT_TOKENS, S_w_USES, E_w_USES, S_w_CACHE_WRITE_1H, E_w_CACHE_WRITE_1H, S_w_CACHE_READ, E_w_CACHE_READ, S_w_OUTPUT, E_w_OUTPUT, S_w_OUTPUT_TOKENS, E_w_OUTPUT_TOKENS, S_w_CACHE_READ_AUDIO, E_w_CACHE_READ_AUDIO, S_w_CACHE_WRITE, E_w_CACHE_WRITE, S_w_OUTPUT_AUDIO, E_w_OUTPUT_AUDIO, S_w_WEB_SEARCHES, E_w_WEB_SEARCHES, S_w_REASONING, E_w_REASONING, S_w_INPUT_AUDIO, E_w_INPUT_AUDIO, F_unit_w_INPUT, F_whole_w_INPUT, F_ordinal_w_PROMPT_TOKENS, F_ordinal_w_USES, F_unit_w_CACHE_WRITE_1H, F_whole_w_CACHE_WRITE_1H, F_unit_w_CACHE_READ, F_whole_w_CACHE_READ, F_unit_w_OUTPUT, F_ordinal_w_OUTPUT_TOKENS, F_unit_w_CACHE_READ_AUDIO, F_whole_w_CACHE_READ_AUDIO, F_unit_w_CACHE_WRITE, F_whole_w_CACHE_WRITE, F_unit_w_OUTPUT_AUDIO, F_unit_w_WEB_SEARCHES, F_unit_w_REASONING, F_unit_w_INPUT_AUDIO, F_whole_w_INPUT_AUDIO, F_whole_w_OUTPUT, F_whole_w_OUTPUT_AUDIO, F_whole_w_WEB_SEARCHES, F_whole_w_REASONING⟩ := wd
  have wd := wd0
  have N : Fr Z.heap.size [] := Fr.nil _
  have KK : Keep h0 h0 [] := Keep.refl h0 []
  refine q_aloadN (pc' := 1) X hx (hb hby d_prog_27_method_7_code_0) rfl rfl rfl ?_
  refine q_getF (pc' := 4) X hx hZ hown (hb hby d_prog_27_method_7_code_1) (host := "") (Or.inl (t13 hw)) eT (F_unit_w_CACHE_READ_AUDIO.ext O) rfl ?_
  intro T X eT
  refine q_getS (pc' := 7) X hx hZ hown (hb hby d_prog_27_method_7_code_4) (host := "") (Or.inl (t17 hw)) eT (S_w_PROMPT_TOKENS.ext O) rfl ?_
  intro T X eT
  refine q_acmp (pc' := 10) (same := true) X hx (hb hby d_prog_27_method_7_code_7) rfl rfl (decide_eq_true rfl) (by decide) (by decide) ?_
  refine q_aloadN (pc' := 11) X hx (hb hby d_prog_27_method_7_code_10) rfl rfl rfl ?_
  refine q_getF (pc' := 14) X hx hZ hown (hb hby d_prog_27_method_7_code_11) (host := "") (Or.inl (t18 hw)) eT (F_whole_w_CACHE_READ_AUDIO.ext O) rfl ?_
  intro T X eT
  refine q_ifnonnullYes (pc' := 21) X hx (hb hby d_prog_27_method_7_code_14) (by decide) (by decide) ?_
  refine q_iconst (pc' := 22) (z := (0 : Int32)) X hx (hb hby d_prog_27_method_7_code_21) rfl rfl ?_
  refine Run.retB X hx hlk hret (hb hby d_prog_27_method_7_code_22) rfl (by decide) (by decide) ?_
  try rw [eT]
  exact ⟨rfl, rfl, rfl⟩
theorem d_method_2_code_73 : decode method_2_code 73 = .ok (.iload_n 0, 1) := by decide +kernel
theorem d_method_2_code_74 : decode method_2_code 74 = .ok (.bipush 8, 2) := by decide +kernel
theorem d_method_2_code_76 : decode method_2_code 76 = .ok (.if_icmp .ne 7, 3) := by decide +kernel
theorem d_method_2_code_79 : decode method_2_code 79 = .ok (.getstatic 34, 3) := by decide +kernel
theorem d_method_2_code_82 : decode method_2_code 82 = .ok (.areturn, 1) := by decide +kernel
set_option maxRecDepth 65536 in
set_option maxHeartbeats 40000000 in
theorem c21_pick {l : Launch} {Z : State} {a0 : Array Value} (hw : ∀ d ∈ tables_1, d.before a0 Z = true) {w_INPUT : Addr} {w_PROMPT_TOKENS : Addr} {w_USES : Addr} {w_CACHE_WRITE_1H : Addr} {w_CACHE_READ : Addr} {w_OUTPUT : Addr} {w_OUTPUT_TOKENS : Addr} {w_CACHE_READ_AUDIO : Addr} {w_CACHE_WRITE : Addr} {w_OUTPUT_AUDIO : Addr} {w_WEB_SEARCHES : Addr} {w_REASONING : Addr} {w_INPUT_AUDIO : Addr} (wd : World Z w_INPUT w_PROMPT_TOKENS w_USES w_CACHE_WRITE_1H w_CACHE_READ w_OUTPUT w_OUTPUT_TOKENS w_CACHE_READ_AUDIO w_CACHE_WRITE w_OUTPUT_AUDIO w_WEB_SEARCHES w_REASONING w_INPUT_AUDIO)  {h0 : Heap} (O : Ext Z.heap h0)  :
    Ctr l Z y0 method_2_code 1 (some (.object "com/example/centdb/centdb/usage/TokenKind")) ({ frames := 0, cells := 0, slots := 0, locals := 0 } : Room) #[(.int (8 : Int32))] h0 (fun v h L => v = some (.ref w_OUTPUT_AUDIO) ∧ L = [] ∧ h = h0) := by
  refine Ctr.body (plainFor_of_name pn_0) ?_
  intro p e s m below meth c T X hx hby hml hown hnm hret hlk hZ eT
  have hml : c.maxLocals = 1 := hml
  have hown : s.vm.findClass "com/example/centdb/centdb/usage/TokenKindInPromptPinLaw" = some m.cls := hown
  have hnm : meth.name = "pick" := hnm
  have hret : meth.sig.returnType = (some (.object "com/example/centdb/centdb/usage/TokenKind")) := hret
  refine Run.cast (show entryFrame m #[(.int (8 : Int32))] 1 = mkF m 0 #[.val (.int (8 : Int32))] [] from by first | (simp [entryFrame, mkF, argsToLocals, Value.category]; done) | rfl) ?_
  have wd0 := wd
  obtain ⟨S_w_INPUT, E_w_INPUT, S_w_PROMPT_TOKENS, E_w_PROMPT_TOKENS, S_w_USES, E_w_USES, S_w_CACHE_WRITE_1H, E_w_CACHE_WRITE_1H, S_w_CACHE_READ, E_w_CACHE_READ, S_w_OUTPUT, E_w_OUTPUT, S_w_OUTPUT_TOKENS, E_w_OUTPUT_TOKENS, S_w_CACHE_READ_AUDIO, E_w_CACHE_READ_AUDIO, S_w_CACHE_WRITE, E_w_CACHE_WRITE, S_w_OUTPUT_AUDIO, E_w_OUTPUT_AUDIO, S_w_WEB_SEARCHES, E_w_WEB_SEARCHES, S_w_REASONING, E_w_REASONING, S_w_INPUT_AUDIO, E_w_INPUT_AUDIO, F_unit_w_INPUT, F_whole_w_INPUT, F_ordinal_w_PROMPT_TOKENS, F_ordinal_w_USES, F_unit_w_CACHE_WRITE_1H, F_whole_w_CACHE_WRITE_1H, F_unit_w_CACHE_READ, F_whole_w_CACHE_READ, F_unit_w_OUTPUT, F_ordinal_w_OUTPUT_TOKENS, F_unit_w_CACHE_READ_AUDIO, F_whole_w_CACHE_READ_AUDIO, F_unit_w_CACHE_WRITE, F_whole_w_CACHE_WRITE, F_unit_w_OUTPUT_AUDIO, F_unit_w_WEB_SEARCHES, F_unit_w_REASONING, F_unit_w_INPUT_AUDIO, F_whole_w_INPUT_AUDIO, F_whole_w_OUTPUT, F_whole_w_OUTPUT_AUDIO, F_whole_w_WEB_SEARCHES, F_whole_w_REASONING⟩ := wd
  have wd := wd0
  have N : Fr Z.heap.size [] := Fr.nil _
  have KK : Keep h0 h0 [] := Keep.refl h0 []
  refine q_iloadN (pc' := 1) X hx (hb hby d_method_2_code_0) rfl rfl ?_
  refine q_ifYes (pc' := 8) X hx (hb hby d_method_2_code_1) (by decide) (by decide) (by decide) ?_
  refine q_iloadN (pc' := 9) X hx (hb hby d_method_2_code_8) rfl rfl ?_
  refine q_iconst (pc' := 10) (z := (1 : Int32)) X hx (hb hby d_method_2_code_9) rfl rfl ?_
  refine q_icmpYes (pc' := 17) X hx (hb hby d_method_2_code_10) (by decide) (by decide) (by decide) ?_
  refine q_iloadN (pc' := 18) X hx (hb hby d_method_2_code_17) rfl rfl ?_
  refine q_iconst (pc' := 19) (z := (2 : Int32)) X hx (hb hby d_method_2_code_18) rfl rfl ?_
  refine q_icmpYes (pc' := 26) X hx (hb hby d_method_2_code_19) (by decide) (by decide) (by decide) ?_
  refine q_iloadN (pc' := 27) X hx (hb hby d_method_2_code_26) rfl rfl ?_
  refine q_iconst (pc' := 28) (z := (3 : Int32)) X hx (hb hby d_method_2_code_27) rfl rfl ?_
  refine q_icmpYes (pc' := 35) X hx (hb hby d_method_2_code_28) (by decide) (by decide) (by decide) ?_
  refine q_iloadN (pc' := 36) X hx (hb hby d_method_2_code_35) rfl rfl ?_
  refine q_iconst (pc' := 37) (z := (4 : Int32)) X hx (hb hby d_method_2_code_36) rfl rfl ?_
  refine q_icmpYes (pc' := 44) X hx (hb hby d_method_2_code_37) (by decide) (by decide) (by decide) ?_
  refine q_iloadN (pc' := 45) X hx (hb hby d_method_2_code_44) rfl rfl ?_
  refine q_iconst (pc' := 46) (z := (5 : Int32)) X hx (hb hby d_method_2_code_45) rfl rfl ?_
  refine q_icmpYes (pc' := 53) X hx (hb hby d_method_2_code_46) (by decide) (by decide) (by decide) ?_
  refine q_iloadN (pc' := 54) X hx (hb hby d_method_2_code_53) rfl rfl ?_
  refine q_bipush (pc' := 56) (z := (6 : Int32)) X hx (hb hby d_method_2_code_54) rfl rfl ?_
  refine q_icmpYes (pc' := 63) X hx (hb hby d_method_2_code_56) (by decide) (by decide) (by decide) ?_
  refine q_iloadN (pc' := 64) X hx (hb hby d_method_2_code_63) rfl rfl ?_
  refine q_bipush (pc' := 66) (z := (7 : Int32)) X hx (hb hby d_method_2_code_64) rfl rfl ?_
  refine q_icmpYes (pc' := 73) X hx (hb hby d_method_2_code_66) (by decide) (by decide) (by decide) ?_
  refine q_iloadN (pc' := 74) X hx (hb hby d_method_2_code_73) rfl rfl ?_
  refine q_bipush (pc' := 76) (z := (8 : Int32)) X hx (hb hby d_method_2_code_74) rfl rfl ?_
  refine q_icmpNo (pc' := 79) X hx (hb hby d_method_2_code_76) (by decide) rfl ?_
  refine q_getS (pc' := 82) X hx hZ hown (hb hby d_method_2_code_79) (host := "") (Or.inl (t38 hw)) eT (S_w_OUTPUT_AUDIO.ext O) rfl ?_
  intro T X eT
  refine Run.retR X hx hlk hret (hb hby d_method_2_code_82) rfl rfl (by decide) (by decide) ?_
  try rw [eT]
  exact ⟨rfl, rfl, rfl⟩
set_option maxRecDepth 65536 in
set_option maxHeartbeats 40000000 in
theorem c22_inPrompt {l : Launch} {Z : State} {a0 : Array Value} (hw : ∀ d ∈ tables_1, d.before a0 Z = true) {w_INPUT : Addr} {w_PROMPT_TOKENS : Addr} {w_USES : Addr} {w_CACHE_WRITE_1H : Addr} {w_CACHE_READ : Addr} {w_OUTPUT : Addr} {w_OUTPUT_TOKENS : Addr} {w_CACHE_READ_AUDIO : Addr} {w_CACHE_WRITE : Addr} {w_OUTPUT_AUDIO : Addr} {w_WEB_SEARCHES : Addr} {w_REASONING : Addr} {w_INPUT_AUDIO : Addr} (wd : World Z w_INPUT w_PROMPT_TOKENS w_USES w_CACHE_WRITE_1H w_CACHE_READ w_OUTPUT w_OUTPUT_TOKENS w_CACHE_READ_AUDIO w_CACHE_WRITE w_OUTPUT_AUDIO w_WEB_SEARCHES w_REASONING w_INPUT_AUDIO)  {h0 : Heap} (O : Ext Z.heap h0)  :
    Ctr l Z y1 prog_27_method_7_code 1 (some .boolean) ({ frames := 0, cells := 0, slots := 0, locals := 0 } : Room) #[(.ref w_OUTPUT_AUDIO)] h0 (fun v h L => v = some (.int (0 : Int32)) ∧ L = [] ∧ h = h0) := by
  refine Ctr.body (plainFor_of_name pn_1) ?_
  intro p e s m below meth c T X hx hby hml hown hnm hret hlk hZ eT
  have hml : c.maxLocals = 1 := hml
  have hown : s.vm.findClass "com/example/centdb/centdb/usage/TokenKind" = some m.cls := hown
  have hnm : meth.name = "inPrompt" := hnm
  have hret : meth.sig.returnType = (some .boolean) := hret
  refine Run.cast (show entryFrame m #[(.ref w_OUTPUT_AUDIO)] 1 = mkF m 0 #[.val (.ref w_OUTPUT_AUDIO)] [] from by first | (simp [entryFrame, mkF, argsToLocals, Value.category]; done) | rfl) ?_
  have wd0 := wd
  obtain ⟨S_w_INPUT, E_w_INPUT, S_w_PROMPT_TOKENS, E_w_PROMPT_TOKENS, S_w_USES, E_w_USES, S_w_CACHE_WRITE_1H, E_w_CACHE_WRITE_1H, S_w_CACHE_READ, E_w_CACHE_READ, S_w_OUTPUT, E_w_OUTPUT, S_w_OUTPUT_TOKENS, E_w_OUTPUT_TOKENS, S_w_CACHE_READ_AUDIO, E_w_CACHE_READ_AUDIO, S_w_CACHE_WRITE, E_w_CACHE_WRITE, S_w_OUTPUT_AUDIO, E_w_OUTPUT_AUDIO, S_w_WEB_SEARCHES, E_w_WEB_SEARCHES, S_w_REASONING, E_w_REASONING, S_w_INPUT_AUDIO, E_w_INPUT_AUDIO, F_unit_w_INPUT, F_whole_w_INPUT, F_ordinal_w_PROMPT_TOKENS, F_ordinal_w_USES, F_unit_w_CACHE_WRITE_1H, F_whole_w_CACHE_WRITE_1H, F_unit_w_CACHE_READ, F_whole_w_CACHE_READ, F_unit_w_OUTPUT, F_ordinal_w_OUTPUT_TOKENS, F_unit_w_CACHE_READ_AUDIO, F_whole_w_CACHE_READ_AUDIO, F_unit_w_CACHE_WRITE, F_whole_w_CACHE_WRITE, F_unit_w_OUTPUT_AUDIO, F_unit_w_WEB_SEARCHES, F_unit_w_REASONING, F_unit_w_INPUT_AUDIO, F_whole_w_INPUT_AUDIO, F_whole_w_OUTPUT, F_whole_w_OUTPUT_AUDIO, F_whole_w_WEB_SEARCHES, F_whole_w_REASONING⟩ := wd
  have wd := wd0
  have N : Fr Z.heap.size [] := Fr.nil _
  have KK : Keep h0 h0 [] := Keep.refl h0 []
  refine q_aloadN (pc' := 1) X hx (hb hby d_prog_27_method_7_code_0) rfl rfl rfl ?_
  refine q_getF (pc' := 4) X hx hZ hown (hb hby d_prog_27_method_7_code_1) (host := "") (Or.inl (t13 hw)) eT (F_unit_w_OUTPUT_AUDIO.ext O) rfl ?_
  intro T X eT
  refine q_getS (pc' := 7) X hx hZ hown (hb hby d_prog_27_method_7_code_4) (host := "") (Or.inl (t17 hw)) eT (S_w_PROMPT_TOKENS.ext O) rfl ?_
  intro T X eT
  refine q_acmp (pc' := 21) (same := false) X hx (hb hby d_prog_27_method_7_code_7) rfl rfl (decide_eq_false fun q => (Ne.symm (Fld.ne F_ordinal_w_PROMPT_TOKENS F_ordinal_w_OUTPUT_TOKENS (by decide))) (Value.ref.inj q)) (by decide) (by decide) ?_
  refine q_iconst (pc' := 22) (z := (0 : Int32)) X hx (hb hby d_prog_27_method_7_code_21) rfl rfl ?_
  refine Run.retB X hx hlk hret (hb hby d_prog_27_method_7_code_22) rfl (by decide) (by decide) ?_
  try rw [eT]
  exact ⟨rfl, rfl, rfl⟩
theorem d_method_2_code_83 : decode method_2_code 83 = .ok (.getstatic 37, 3) := by decide +kernel
theorem d_method_2_code_86 : decode method_2_code 86 = .ok (.areturn, 1) := by decide +kernel
set_option maxRecDepth 65536 in
set_option maxHeartbeats 40000000 in
theorem c23_pick {l : Launch} {Z : State} {a0 : Array Value} (hw : ∀ d ∈ tables_1, d.before a0 Z = true) {w_INPUT : Addr} {w_PROMPT_TOKENS : Addr} {w_USES : Addr} {w_CACHE_WRITE_1H : Addr} {w_CACHE_READ : Addr} {w_OUTPUT : Addr} {w_OUTPUT_TOKENS : Addr} {w_CACHE_READ_AUDIO : Addr} {w_CACHE_WRITE : Addr} {w_OUTPUT_AUDIO : Addr} {w_WEB_SEARCHES : Addr} {w_REASONING : Addr} {w_INPUT_AUDIO : Addr} (wd : World Z w_INPUT w_PROMPT_TOKENS w_USES w_CACHE_WRITE_1H w_CACHE_READ w_OUTPUT w_OUTPUT_TOKENS w_CACHE_READ_AUDIO w_CACHE_WRITE w_OUTPUT_AUDIO w_WEB_SEARCHES w_REASONING w_INPUT_AUDIO)  {h0 : Heap} (O : Ext Z.heap h0)  :
    Ctr l Z y0 method_2_code 1 (some (.object "com/example/centdb/centdb/usage/TokenKind")) ({ frames := 0, cells := 0, slots := 0, locals := 0 } : Room) #[(.int (9 : Int32))] h0 (fun v h L => v = some (.ref w_WEB_SEARCHES) ∧ L = [] ∧ h = h0) := by
  refine Ctr.body (plainFor_of_name pn_0) ?_
  intro p e s m below meth c T X hx hby hml hown hnm hret hlk hZ eT
  have hml : c.maxLocals = 1 := hml
  have hown : s.vm.findClass "com/example/centdb/centdb/usage/TokenKindInPromptPinLaw" = some m.cls := hown
  have hnm : meth.name = "pick" := hnm
  have hret : meth.sig.returnType = (some (.object "com/example/centdb/centdb/usage/TokenKind")) := hret
  refine Run.cast (show entryFrame m #[(.int (9 : Int32))] 1 = mkF m 0 #[.val (.int (9 : Int32))] [] from by first | (simp [entryFrame, mkF, argsToLocals, Value.category]; done) | rfl) ?_
  have wd0 := wd
  obtain ⟨S_w_INPUT, E_w_INPUT, S_w_PROMPT_TOKENS, E_w_PROMPT_TOKENS, S_w_USES, E_w_USES, S_w_CACHE_WRITE_1H, E_w_CACHE_WRITE_1H, S_w_CACHE_READ, E_w_CACHE_READ, S_w_OUTPUT, E_w_OUTPUT, S_w_OUTPUT_TOKENS, E_w_OUTPUT_TOKENS, S_w_CACHE_READ_AUDIO, E_w_CACHE_READ_AUDIO, S_w_CACHE_WRITE, E_w_CACHE_WRITE, S_w_OUTPUT_AUDIO, E_w_OUTPUT_AUDIO, S_w_WEB_SEARCHES, E_w_WEB_SEARCHES, S_w_REASONING, E_w_REASONING, S_w_INPUT_AUDIO, E_w_INPUT_AUDIO, F_unit_w_INPUT, F_whole_w_INPUT, F_ordinal_w_PROMPT_TOKENS, F_ordinal_w_USES, F_unit_w_CACHE_WRITE_1H, F_whole_w_CACHE_WRITE_1H, F_unit_w_CACHE_READ, F_whole_w_CACHE_READ, F_unit_w_OUTPUT, F_ordinal_w_OUTPUT_TOKENS, F_unit_w_CACHE_READ_AUDIO, F_whole_w_CACHE_READ_AUDIO, F_unit_w_CACHE_WRITE, F_whole_w_CACHE_WRITE, F_unit_w_OUTPUT_AUDIO, F_unit_w_WEB_SEARCHES, F_unit_w_REASONING, F_unit_w_INPUT_AUDIO, F_whole_w_INPUT_AUDIO, F_whole_w_OUTPUT, F_whole_w_OUTPUT_AUDIO, F_whole_w_WEB_SEARCHES, F_whole_w_REASONING⟩ := wd
  have wd := wd0
  have N : Fr Z.heap.size [] := Fr.nil _
  have KK : Keep h0 h0 [] := Keep.refl h0 []
  refine q_iloadN (pc' := 1) X hx (hb hby d_method_2_code_0) rfl rfl ?_
  refine q_ifYes (pc' := 8) X hx (hb hby d_method_2_code_1) (by decide) (by decide) (by decide) ?_
  refine q_iloadN (pc' := 9) X hx (hb hby d_method_2_code_8) rfl rfl ?_
  refine q_iconst (pc' := 10) (z := (1 : Int32)) X hx (hb hby d_method_2_code_9) rfl rfl ?_
  refine q_icmpYes (pc' := 17) X hx (hb hby d_method_2_code_10) (by decide) (by decide) (by decide) ?_
  refine q_iloadN (pc' := 18) X hx (hb hby d_method_2_code_17) rfl rfl ?_
  refine q_iconst (pc' := 19) (z := (2 : Int32)) X hx (hb hby d_method_2_code_18) rfl rfl ?_
  refine q_icmpYes (pc' := 26) X hx (hb hby d_method_2_code_19) (by decide) (by decide) (by decide) ?_
  refine q_iloadN (pc' := 27) X hx (hb hby d_method_2_code_26) rfl rfl ?_
  refine q_iconst (pc' := 28) (z := (3 : Int32)) X hx (hb hby d_method_2_code_27) rfl rfl ?_
  refine q_icmpYes (pc' := 35) X hx (hb hby d_method_2_code_28) (by decide) (by decide) (by decide) ?_
  refine q_iloadN (pc' := 36) X hx (hb hby d_method_2_code_35) rfl rfl ?_
  refine q_iconst (pc' := 37) (z := (4 : Int32)) X hx (hb hby d_method_2_code_36) rfl rfl ?_
  refine q_icmpYes (pc' := 44) X hx (hb hby d_method_2_code_37) (by decide) (by decide) (by decide) ?_
  refine q_iloadN (pc' := 45) X hx (hb hby d_method_2_code_44) rfl rfl ?_
  refine q_iconst (pc' := 46) (z := (5 : Int32)) X hx (hb hby d_method_2_code_45) rfl rfl ?_
  refine q_icmpYes (pc' := 53) X hx (hb hby d_method_2_code_46) (by decide) (by decide) (by decide) ?_
  refine q_iloadN (pc' := 54) X hx (hb hby d_method_2_code_53) rfl rfl ?_
  refine q_bipush (pc' := 56) (z := (6 : Int32)) X hx (hb hby d_method_2_code_54) rfl rfl ?_
  refine q_icmpYes (pc' := 63) X hx (hb hby d_method_2_code_56) (by decide) (by decide) (by decide) ?_
  refine q_iloadN (pc' := 64) X hx (hb hby d_method_2_code_63) rfl rfl ?_
  refine q_bipush (pc' := 66) (z := (7 : Int32)) X hx (hb hby d_method_2_code_64) rfl rfl ?_
  refine q_icmpYes (pc' := 73) X hx (hb hby d_method_2_code_66) (by decide) (by decide) (by decide) ?_
  refine q_iloadN (pc' := 74) X hx (hb hby d_method_2_code_73) rfl rfl ?_
  refine q_bipush (pc' := 76) (z := (8 : Int32)) X hx (hb hby d_method_2_code_74) rfl rfl ?_
  refine q_icmpYes (pc' := 83) X hx (hb hby d_method_2_code_76) (by decide) (by decide) (by decide) ?_
  refine q_getS (pc' := 86) X hx hZ hown (hb hby d_method_2_code_83) (host := "") (Or.inl (t40 hw)) eT (S_w_WEB_SEARCHES.ext O) rfl ?_
  intro T X eT
  refine Run.retR X hx hlk hret (hb hby d_method_2_code_86) rfl rfl (by decide) (by decide) ?_
  try rw [eT]
  exact ⟨rfl, rfl, rfl⟩
set_option maxRecDepth 65536 in
set_option maxHeartbeats 40000000 in
theorem c24_inPrompt {l : Launch} {Z : State} {a0 : Array Value} (hw : ∀ d ∈ tables_1, d.before a0 Z = true) {w_INPUT : Addr} {w_PROMPT_TOKENS : Addr} {w_USES : Addr} {w_CACHE_WRITE_1H : Addr} {w_CACHE_READ : Addr} {w_OUTPUT : Addr} {w_OUTPUT_TOKENS : Addr} {w_CACHE_READ_AUDIO : Addr} {w_CACHE_WRITE : Addr} {w_OUTPUT_AUDIO : Addr} {w_WEB_SEARCHES : Addr} {w_REASONING : Addr} {w_INPUT_AUDIO : Addr} (wd : World Z w_INPUT w_PROMPT_TOKENS w_USES w_CACHE_WRITE_1H w_CACHE_READ w_OUTPUT w_OUTPUT_TOKENS w_CACHE_READ_AUDIO w_CACHE_WRITE w_OUTPUT_AUDIO w_WEB_SEARCHES w_REASONING w_INPUT_AUDIO)  {h0 : Heap} (O : Ext Z.heap h0)  :
    Ctr l Z y1 prog_27_method_7_code 1 (some .boolean) ({ frames := 0, cells := 0, slots := 0, locals := 0 } : Room) #[(.ref w_WEB_SEARCHES)] h0 (fun v h L => v = some (.int (0 : Int32)) ∧ L = [] ∧ h = h0) := by
  refine Ctr.body (plainFor_of_name pn_1) ?_
  intro p e s m below meth c T X hx hby hml hown hnm hret hlk hZ eT
  have hml : c.maxLocals = 1 := hml
  have hown : s.vm.findClass "com/example/centdb/centdb/usage/TokenKind" = some m.cls := hown
  have hnm : meth.name = "inPrompt" := hnm
  have hret : meth.sig.returnType = (some .boolean) := hret
  refine Run.cast (show entryFrame m #[(.ref w_WEB_SEARCHES)] 1 = mkF m 0 #[.val (.ref w_WEB_SEARCHES)] [] from by first | (simp [entryFrame, mkF, argsToLocals, Value.category]; done) | rfl) ?_
  have wd0 := wd
  obtain ⟨S_w_INPUT, E_w_INPUT, S_w_PROMPT_TOKENS, E_w_PROMPT_TOKENS, S_w_USES, E_w_USES, S_w_CACHE_WRITE_1H, E_w_CACHE_WRITE_1H, S_w_CACHE_READ, E_w_CACHE_READ, S_w_OUTPUT, E_w_OUTPUT, S_w_OUTPUT_TOKENS, E_w_OUTPUT_TOKENS, S_w_CACHE_READ_AUDIO, E_w_CACHE_READ_AUDIO, S_w_CACHE_WRITE, E_w_CACHE_WRITE, S_w_OUTPUT_AUDIO, E_w_OUTPUT_AUDIO, S_w_WEB_SEARCHES, E_w_WEB_SEARCHES, S_w_REASONING, E_w_REASONING, S_w_INPUT_AUDIO, E_w_INPUT_AUDIO, F_unit_w_INPUT, F_whole_w_INPUT, F_ordinal_w_PROMPT_TOKENS, F_ordinal_w_USES, F_unit_w_CACHE_WRITE_1H, F_whole_w_CACHE_WRITE_1H, F_unit_w_CACHE_READ, F_whole_w_CACHE_READ, F_unit_w_OUTPUT, F_ordinal_w_OUTPUT_TOKENS, F_unit_w_CACHE_READ_AUDIO, F_whole_w_CACHE_READ_AUDIO, F_unit_w_CACHE_WRITE, F_whole_w_CACHE_WRITE, F_unit_w_OUTPUT_AUDIO, F_unit_w_WEB_SEARCHES, F_unit_w_REASONING, F_unit_w_INPUT_AUDIO, F_whole_w_INPUT_AUDIO, F_whole_w_OUTPUT, F_whole_w_OUTPUT_AUDIO, F_whole_w_WEB_SEARCHES, F_whole_w_REASONING⟩ := wd
  have wd := wd0
  have N : Fr Z.heap.size [] := Fr.nil _
  have KK : Keep h0 h0 [] := Keep.refl h0 []
  refine q_aloadN (pc' := 1) X hx (hb hby d_prog_27_method_7_code_0) rfl rfl rfl ?_
  refine q_getF (pc' := 4) X hx hZ hown (hb hby d_prog_27_method_7_code_1) (host := "") (Or.inl (t13 hw)) eT (F_unit_w_WEB_SEARCHES.ext O) rfl ?_
  intro T X eT
  refine q_getS (pc' := 7) X hx hZ hown (hb hby d_prog_27_method_7_code_4) (host := "") (Or.inl (t17 hw)) eT (S_w_PROMPT_TOKENS.ext O) rfl ?_
  intro T X eT
  refine q_acmp (pc' := 21) (same := false) X hx (hb hby d_prog_27_method_7_code_7) rfl rfl (decide_eq_false fun q => (Ne.symm (Fld.ne F_ordinal_w_PROMPT_TOKENS F_ordinal_w_USES (by decide))) (Value.ref.inj q)) (by decide) (by decide) ?_
  refine q_iconst (pc' := 22) (z := (0 : Int32)) X hx (hb hby d_prog_27_method_7_code_21) rfl rfl ?_
  refine Run.retB X hx hlk hret (hb hby d_prog_27_method_7_code_22) rfl (by decide) (by decide) ?_
  try rw [eT]
  exact ⟨rfl, rfl, rfl⟩
set_option maxRecDepth 65536 in
set_option maxHeartbeats 40000000 in
theorem law_all {l : Launch} {Z : State} {a0 : Array Value} (hw : ∀ d ∈ tables_1, d.before a0 Z = true) {w_INPUT : Addr} {w_PROMPT_TOKENS : Addr} {w_USES : Addr} {w_CACHE_WRITE_1H : Addr} {w_CACHE_READ : Addr} {w_OUTPUT : Addr} {w_OUTPUT_TOKENS : Addr} {w_CACHE_READ_AUDIO : Addr} {w_CACHE_WRITE : Addr} {w_OUTPUT_AUDIO : Addr} {w_WEB_SEARCHES : Addr} {w_REASONING : Addr} {w_INPUT_AUDIO : Addr} (wd : World Z w_INPUT w_PROMPT_TOKENS w_USES w_CACHE_WRITE_1H w_CACHE_READ w_OUTPUT w_OUTPUT_TOKENS w_CACHE_READ_AUDIO w_CACHE_WRITE w_OUTPUT_AUDIO w_WEB_SEARCHES w_REASONING w_INPUT_AUDIO) (p1 : Int32) {h0 : Heap} (O : Ext Z.heap h0) :
    Ctr l Z x code maxLocals ret room_1 #[(.int p1)] h0 (fun v h L => v = some (.int (1 : Int32)) ∧ Fr Z.heap.size L) := by
  refine Ctr.body (plainFor_of_name pn_0) ?_
  intro p e s m below meth c T X hx hby hml hown hnm hret hlk hZ eT
  have hml : c.maxLocals = 5 := hml
  have hown : s.vm.findClass "com/example/centdb/centdb/usage/TokenKindInPromptPinLaw" = some m.cls := hown
  have hnm : meth.name = "law" := hnm
  have hret : meth.sig.returnType = (some .boolean) := hret
  refine Run.cast (show entryFrame m #[(.int p1)] maxLocals = mkF m 0 #[.val (.int p1), .unset, .unset, .unset, .unset] [] from by first | (simp [entryFrame, mkF, argsToLocals, Value.category, maxLocals]; done) | rfl) ?_
  have wd0 := wd
  obtain ⟨S_w_INPUT, E_w_INPUT, S_w_PROMPT_TOKENS, E_w_PROMPT_TOKENS, S_w_USES, E_w_USES, S_w_CACHE_WRITE_1H, E_w_CACHE_WRITE_1H, S_w_CACHE_READ, E_w_CACHE_READ, S_w_OUTPUT, E_w_OUTPUT, S_w_OUTPUT_TOKENS, E_w_OUTPUT_TOKENS, S_w_CACHE_READ_AUDIO, E_w_CACHE_READ_AUDIO, S_w_CACHE_WRITE, E_w_CACHE_WRITE, S_w_OUTPUT_AUDIO, E_w_OUTPUT_AUDIO, S_w_WEB_SEARCHES, E_w_WEB_SEARCHES, S_w_REASONING, E_w_REASONING, S_w_INPUT_AUDIO, E_w_INPUT_AUDIO, F_unit_w_INPUT, F_whole_w_INPUT, F_ordinal_w_PROMPT_TOKENS, F_ordinal_w_USES, F_unit_w_CACHE_WRITE_1H, F_whole_w_CACHE_WRITE_1H, F_unit_w_CACHE_READ, F_whole_w_CACHE_READ, F_unit_w_OUTPUT, F_ordinal_w_OUTPUT_TOKENS, F_unit_w_CACHE_READ_AUDIO, F_whole_w_CACHE_READ_AUDIO, F_unit_w_CACHE_WRITE, F_whole_w_CACHE_WRITE, F_unit_w_OUTPUT_AUDIO, F_unit_w_WEB_SEARCHES, F_unit_w_REASONING, F_unit_w_INPUT_AUDIO, F_whole_w_INPUT_AUDIO, F_whole_w_OUTPUT, F_whole_w_OUTPUT_AUDIO, F_whole_w_WEB_SEARCHES, F_whole_w_REASONING⟩ := wd
  have wd := wd0
  have N : Fr Z.heap.size [] := Fr.nil _
  refine q_iloadN (pc' := 1) X hx (hb hby at_0) rfl rfl ?_
  refine q_ldc (pc' := 3) (v := (2147483647 : Int32)) X hx hZ hown (hb hby at_1) (t0 hw) rfl ?_
  refine q_iand (pc' := 4) (z := (p1 &&& (2147483647 : Int32))) X hx (hb hby at_3) rfl rfl ?_
  refine q_bipush (pc' := 6) (z := (10 : Int32)) X hx (hb hby at_4) rfl rfl ?_
  refine q_irem (pc' := 7) (z := ((p1 &&& (2147483647 : Int32)) % (10 : Int32))) X hx (hb hby at_6) (by decide) rfl rfl ?_
  refine q_istoreN (pc' := 8) (l' := #[.val (.int p1), .val (.int ((p1 &&& (2147483647 : Int32)) % (10 : Int32))), .unset, .unset, .unset]) X hx (hb hby at_7) rfl rfl ?_
  rcases own_sel p1 with hi | hi | hi | hi | hi | hi | hi | hi | hi | hi
  · rw [hi]
    refine q_iloadN (pc' := 9) X hx (hb hby at_8) rfl rfl ?_
    refine q_callC (pc' := 12) (y := y0) (rest := []) X hx hZ hown (hb hby at_9) (t1 hw) (t2 hw) (t3 hw) (t4 hw) (by decide) eT [(.int (0 : Int32))] (c1_pick hw wd  O) (by rw [hml]; rfl) (lenOf pd_0 rfl) (W := 0) rfl (by decide) (by decide) (by decide) (by decide) rfl ?_
    rintro _ T _ X ⟨rfl, rfl, eT⟩
    rw [List.append_nil] at X
    show Run p e below _ (T.setTop (mkF m 12 _ [(.ref w_INPUT)]))
    refine q_astoreN (pc' := 13) (l' := #[.val (.int p1), .val (.int (0 : Int32)), .val (.ref w_INPUT), .unset, .unset]) X hx (hb hby at_12) rfl rfl rfl ?_
    refine q_iloadN (pc' := 14) X hx (hb hby at_13) rfl rfl ?_
    refine q_iconst (pc' := 15) (z := (4 : Int32)) X hx (hb hby at_14) rfl rfl ?_
    refine q_icmpNo (pc' := 18) X hx (hb hby at_15) (by decide) rfl ?_
    refine q_iconst (pc' := 19) (z := (1 : Int32)) X hx (hb hby at_18) rfl rfl ?_
    refine q_goto (pc' := 23) X hx (hb hby at_19) (by decide) (by decide) ?_
    refine q_istoreN (pc' := 24) (l' := #[.val (.int p1), .val (.int (0 : Int32)), .val (.ref w_INPUT), .val (.int (1 : Int32)), .unset]) X hx (hb hby at_23) rfl rfl ?_
    refine q_aloadN (pc' := 25) X hx (hb hby at_24) rfl rfl rfl ?_
    refine q_callV (pc' := 28) (y := y1) (rest := []) X hx hZ hown (hb hby at_25) (t8 hw) (t9 hw) (t11 hw) (t10 hw) (t6 hw) (t12 hw) (by decide) eT (E_w_INPUT.ext O) [] (c2_inPrompt hw wd  O) (by rw [hml]; rfl) (lenOf pd_1 rfl) (W := 0) rfl (by decide) (by decide) (by decide) (by decide) rfl ?_
    rintro _ T _ X ⟨rfl, rfl, eT⟩
    rw [List.append_nil] at X
    show Run p e below _ (T.setTop (mkF m 28 _ [(.int (1 : Int32))]))
    refine q_istore (pc' := 30) (l' := #[.val (.int p1), .val (.int (0 : Int32)), .val (.ref w_INPUT), .val (.int (1 : Int32)), .val (.int (1 : Int32))]) X hx (hb hby at_28) rfl rfl ?_
    refine q_iload (pc' := 32) X hx (hb hby at_30) rfl rfl ?_
    refine q_iloadN (pc' := 33) X hx (hb hby at_32) rfl rfl ?_
    refine q_icmpYes (pc' := 38) X hx (hb hby at_33) (by decide) (by decide) (by decide) ?_
    refine q_iload (pc' := 40) X hx (hb hby at_38) rfl rfl ?_
    refine q_ifNo (pc' := 43) X hx (hb hby at_40) (by decide) rfl ?_
    refine q_aloadN (pc' := 44) X hx (hb hby at_43) rfl rfl rfl ?_
    refine q_callV (pc' := 47) (y := y2) (rest := []) X hx hZ hown (hb hby at_44) (t20 hw) (t21 hw) (t23 hw) (t22 hw) (t6 hw) (t24 hw) (by decide) eT (E_w_INPUT.ext O) [] (c3_inAllTokens hw wd  O) (by rw [hml]; rfl) (lenOf pd_1 rfl) (W := 0) rfl (by decide) (by decide) (by decide) (by decide) rfl ?_
    rintro _ T _ X ⟨rfl, rfl, eT⟩
    rw [List.append_nil] at X
    show Run p e below _ (T.setTop (mkF m 47 _ [(.int (1 : Int32))]))
    refine q_ifYes (pc' := 52) X hx (hb hby at_47) (by decide) (by decide) (by decide) ?_
    refine q_iconst (pc' := 53) (z := (1 : Int32)) X hx (hb hby at_52) rfl rfl ?_
    refine Run.retB X hx hlk hret (hb hby at_53) rfl (by decide) (by decide) ?_
    try rw [eT]
    exact ⟨rfl, N⟩
  · rw [hi]
    refine q_iloadN (pc' := 9) X hx (hb hby at_8) rfl rfl ?_
    refine q_callC (pc' := 12) (y := y0) (rest := []) X hx hZ hown (hb hby at_9) (t1 hw) (t2 hw) (t3 hw) (t4 hw) (by decide) eT [(.int (1 : Int32))] (c4_pick hw wd  O) (by rw [hml]; rfl) (lenOf pd_0 rfl) (W := 0) rfl (by decide) (by decide) (by decide) (by decide) rfl ?_
    rintro _ T _ X ⟨rfl, rfl, eT⟩
    rw [List.append_nil] at X
    show Run p e below _ (T.setTop (mkF m 12 _ [(.ref w_CACHE_READ)]))
    refine q_astoreN (pc' := 13) (l' := #[.val (.int p1), .val (.int (1 : Int32)), .val (.ref w_CACHE_READ), .unset, .unset]) X hx (hb hby at_12) rfl rfl rfl ?_
    refine q_iloadN (pc' := 14) X hx (hb hby at_13) rfl rfl ?_
    refine q_iconst (pc' := 15) (z := (4 : Int32)) X hx (hb hby at_14) rfl rfl ?_
    refine q_icmpNo (pc' := 18) X hx (hb hby at_15) (by decide) rfl ?_
    refine q_iconst (pc' := 19) (z := (1 : Int32)) X hx (hb hby at_18) rfl rfl ?_
    refine q_goto (pc' := 23) X hx (hb hby at_19) (by decide) (by decide) ?_
    refine q_istoreN (pc' := 24) (l' := #[.val (.int p1), .val (.int (1 : Int32)), .val (.ref w_CACHE_READ), .val (.int (1 : Int32)), .unset]) X hx (hb hby at_23) rfl rfl ?_
    refine q_aloadN (pc' := 25) X hx (hb hby at_24) rfl rfl rfl ?_
    refine q_callV (pc' := 28) (y := y1) (rest := []) X hx hZ hown (hb hby at_25) (t8 hw) (t9 hw) (t11 hw) (t10 hw) (t6 hw) (t12 hw) (by decide) eT (E_w_CACHE_READ.ext O) [] (c5_inPrompt hw wd  O) (by rw [hml]; rfl) (lenOf pd_1 rfl) (W := 0) rfl (by decide) (by decide) (by decide) (by decide) rfl ?_
    rintro _ T _ X ⟨rfl, rfl, eT⟩
    rw [List.append_nil] at X
    show Run p e below _ (T.setTop (mkF m 28 _ [(.int (1 : Int32))]))
    refine q_istore (pc' := 30) (l' := #[.val (.int p1), .val (.int (1 : Int32)), .val (.ref w_CACHE_READ), .val (.int (1 : Int32)), .val (.int (1 : Int32))]) X hx (hb hby at_28) rfl rfl ?_
    refine q_iload (pc' := 32) X hx (hb hby at_30) rfl rfl ?_
    refine q_iloadN (pc' := 33) X hx (hb hby at_32) rfl rfl ?_
    refine q_icmpYes (pc' := 38) X hx (hb hby at_33) (by decide) (by decide) (by decide) ?_
    refine q_iload (pc' := 40) X hx (hb hby at_38) rfl rfl ?_
    refine q_ifNo (pc' := 43) X hx (hb hby at_40) (by decide) rfl ?_
    refine q_aloadN (pc' := 44) X hx (hb hby at_43) rfl rfl rfl ?_
    refine q_callV (pc' := 47) (y := y2) (rest := []) X hx hZ hown (hb hby at_44) (t20 hw) (t21 hw) (t23 hw) (t22 hw) (t6 hw) (t24 hw) (by decide) eT (E_w_CACHE_READ.ext O) [] (c6_inAllTokens hw wd  O) (by rw [hml]; rfl) (lenOf pd_1 rfl) (W := 0) rfl (by decide) (by decide) (by decide) (by decide) rfl ?_
    rintro _ T _ X ⟨rfl, rfl, eT⟩
    rw [List.append_nil] at X
    show Run p e below _ (T.setTop (mkF m 47 _ [(.int (1 : Int32))]))
    refine q_ifYes (pc' := 52) X hx (hb hby at_47) (by decide) (by decide) (by decide) ?_
    refine q_iconst (pc' := 53) (z := (1 : Int32)) X hx (hb hby at_52) rfl rfl ?_
    refine Run.retB X hx hlk hret (hb hby at_53) rfl (by decide) (by decide) ?_
    try rw [eT]
    exact ⟨rfl, N⟩
  · rw [hi]
    refine q_iloadN (pc' := 9) X hx (hb hby at_8) rfl rfl ?_
    refine q_callC (pc' := 12) (y := y0) (rest := []) X hx hZ hown (hb hby at_9) (t1 hw) (t2 hw) (t3 hw) (t4 hw) (by decide) eT [(.int (2 : Int32))] (c7_pick hw wd  O) (by rw [hml]; rfl) (lenOf pd_0 rfl) (W := 0) rfl (by decide) (by decide) (by decide) (by decide) rfl ?_
    rintro _ T _ X ⟨rfl, rfl, eT⟩
    rw [List.append_nil] at X
    show Run p e below _ (T.setTop (mkF m 12 _ [(.ref w_CACHE_WRITE)]))
    refine q_astoreN (pc' := 13) (l' := #[.val (.int p1), .val (.int (2 : Int32)), .val (.ref w_CACHE_WRITE), .unset, .unset]) X hx (hb hby at_12) rfl rfl rfl ?_
    refine q_iloadN (pc' := 14) X hx (hb hby at_13) rfl rfl ?_
    refine q_iconst (pc' := 15) (z := (4 : Int32)) X hx (hb hby at_14) rfl rfl ?_
    refine q_icmpNo (pc' := 18) X hx (hb hby at_15) (by decide) rfl ?_
    refine q_iconst (pc' := 19) (z := (1 : Int32)) X hx (hb hby at_18) rfl rfl ?_
    refine q_goto (pc' := 23) X hx (hb hby at_19) (by decide) (by decide) ?_
    refine q_istoreN (pc' := 24) (l' := #[.val (.int p1), .val (.int (2 : Int32)), .val (.ref w_CACHE_WRITE), .val (.int (1 : Int32)), .unset]) X hx (hb hby at_23) rfl rfl ?_
    refine q_aloadN (pc' := 25) X hx (hb hby at_24) rfl rfl rfl ?_
    refine q_callV (pc' := 28) (y := y1) (rest := []) X hx hZ hown (hb hby at_25) (t8 hw) (t9 hw) (t11 hw) (t10 hw) (t6 hw) (t12 hw) (by decide) eT (E_w_CACHE_WRITE.ext O) [] (c8_inPrompt hw wd  O) (by rw [hml]; rfl) (lenOf pd_1 rfl) (W := 0) rfl (by decide) (by decide) (by decide) (by decide) rfl ?_
    rintro _ T _ X ⟨rfl, rfl, eT⟩
    rw [List.append_nil] at X
    show Run p e below _ (T.setTop (mkF m 28 _ [(.int (1 : Int32))]))
    refine q_istore (pc' := 30) (l' := #[.val (.int p1), .val (.int (2 : Int32)), .val (.ref w_CACHE_WRITE), .val (.int (1 : Int32)), .val (.int (1 : Int32))]) X hx (hb hby at_28) rfl rfl ?_
    refine q_iload (pc' := 32) X hx (hb hby at_30) rfl rfl ?_
    refine q_iloadN (pc' := 33) X hx (hb hby at_32) rfl rfl ?_
    refine q_icmpYes (pc' := 38) X hx (hb hby at_33) (by decide) (by decide) (by decide) ?_
    refine q_iload (pc' := 40) X hx (hb hby at_38) rfl rfl ?_
    refine q_ifNo (pc' := 43) X hx (hb hby at_40) (by decide) rfl ?_
    refine q_aloadN (pc' := 44) X hx (hb hby at_43) rfl rfl rfl ?_
    refine q_callV (pc' := 47) (y := y2) (rest := []) X hx hZ hown (hb hby at_44) (t20 hw) (t21 hw) (t23 hw) (t22 hw) (t6 hw) (t24 hw) (by decide) eT (E_w_CACHE_WRITE.ext O) [] (c9_inAllTokens hw wd  O) (by rw [hml]; rfl) (lenOf pd_1 rfl) (W := 0) rfl (by decide) (by decide) (by decide) (by decide) rfl ?_
    rintro _ T _ X ⟨rfl, rfl, eT⟩
    rw [List.append_nil] at X
    show Run p e below _ (T.setTop (mkF m 47 _ [(.int (1 : Int32))]))
    refine q_ifYes (pc' := 52) X hx (hb hby at_47) (by decide) (by decide) (by decide) ?_
    refine q_iconst (pc' := 53) (z := (1 : Int32)) X hx (hb hby at_52) rfl rfl ?_
    refine Run.retB X hx hlk hret (hb hby at_53) rfl (by decide) (by decide) ?_
    try rw [eT]
    exact ⟨rfl, N⟩
  · rw [hi]
    refine q_iloadN (pc' := 9) X hx (hb hby at_8) rfl rfl ?_
    refine q_callC (pc' := 12) (y := y0) (rest := []) X hx hZ hown (hb hby at_9) (t1 hw) (t2 hw) (t3 hw) (t4 hw) (by decide) eT [(.int (3 : Int32))] (c10_pick hw wd  O) (by rw [hml]; rfl) (lenOf pd_0 rfl) (W := 0) rfl (by decide) (by decide) (by decide) (by decide) rfl ?_
    rintro _ T _ X ⟨rfl, rfl, eT⟩
    rw [List.append_nil] at X
    show Run p e below _ (T.setTop (mkF m 12 _ [(.ref w_CACHE_WRITE_1H)]))
    refine q_astoreN (pc' := 13) (l' := #[.val (.int p1), .val (.int (3 : Int32)), .val (.ref w_CACHE_WRITE_1H), .unset, .unset]) X hx (hb hby at_12) rfl rfl rfl ?_
    refine q_iloadN (pc' := 14) X hx (hb hby at_13) rfl rfl ?_
    refine q_iconst (pc' := 15) (z := (4 : Int32)) X hx (hb hby at_14) rfl rfl ?_
    refine q_icmpNo (pc' := 18) X hx (hb hby at_15) (by decide) rfl ?_
    refine q_iconst (pc' := 19) (z := (1 : Int32)) X hx (hb hby at_18) rfl rfl ?_
    refine q_goto (pc' := 23) X hx (hb hby at_19) (by decide) (by decide) ?_
    refine q_istoreN (pc' := 24) (l' := #[.val (.int p1), .val (.int (3 : Int32)), .val (.ref w_CACHE_WRITE_1H), .val (.int (1 : Int32)), .unset]) X hx (hb hby at_23) rfl rfl ?_
    refine q_aloadN (pc' := 25) X hx (hb hby at_24) rfl rfl rfl ?_
    refine q_callV (pc' := 28) (y := y1) (rest := []) X hx hZ hown (hb hby at_25) (t8 hw) (t9 hw) (t11 hw) (t10 hw) (t6 hw) (t12 hw) (by decide) eT (E_w_CACHE_WRITE_1H.ext O) [] (c11_inPrompt hw wd  O) (by rw [hml]; rfl) (lenOf pd_1 rfl) (W := 0) rfl (by decide) (by decide) (by decide) (by decide) rfl ?_
    rintro _ T _ X ⟨rfl, rfl, eT⟩
    rw [List.append_nil] at X
    show Run p e below _ (T.setTop (mkF m 28 _ [(.int (1 : Int32))]))
    refine q_istore (pc' := 30) (l' := #[.val (.int p1), .val (.int (3 : Int32)), .val (.ref w_CACHE_WRITE_1H), .val (.int (1 : Int32)), .val (.int (1 : Int32))]) X hx (hb hby at_28) rfl rfl ?_
    refine q_iload (pc' := 32) X hx (hb hby at_30) rfl rfl ?_
    refine q_iloadN (pc' := 33) X hx (hb hby at_32) rfl rfl ?_
    refine q_icmpYes (pc' := 38) X hx (hb hby at_33) (by decide) (by decide) (by decide) ?_
    refine q_iload (pc' := 40) X hx (hb hby at_38) rfl rfl ?_
    refine q_ifNo (pc' := 43) X hx (hb hby at_40) (by decide) rfl ?_
    refine q_aloadN (pc' := 44) X hx (hb hby at_43) rfl rfl rfl ?_
    refine q_callV (pc' := 47) (y := y2) (rest := []) X hx hZ hown (hb hby at_44) (t20 hw) (t21 hw) (t23 hw) (t22 hw) (t6 hw) (t24 hw) (by decide) eT (E_w_CACHE_WRITE_1H.ext O) [] (c12_inAllTokens hw wd  O) (by rw [hml]; rfl) (lenOf pd_1 rfl) (W := 0) rfl (by decide) (by decide) (by decide) (by decide) rfl ?_
    rintro _ T _ X ⟨rfl, rfl, eT⟩
    rw [List.append_nil] at X
    show Run p e below _ (T.setTop (mkF m 47 _ [(.int (1 : Int32))]))
    refine q_ifYes (pc' := 52) X hx (hb hby at_47) (by decide) (by decide) (by decide) ?_
    refine q_iconst (pc' := 53) (z := (1 : Int32)) X hx (hb hby at_52) rfl rfl ?_
    refine Run.retB X hx hlk hret (hb hby at_53) rfl (by decide) (by decide) ?_
    try rw [eT]
    exact ⟨rfl, N⟩
  · rw [hi]
    refine q_iloadN (pc' := 9) X hx (hb hby at_8) rfl rfl ?_
    refine q_callC (pc' := 12) (y := y0) (rest := []) X hx hZ hown (hb hby at_9) (t1 hw) (t2 hw) (t3 hw) (t4 hw) (by decide) eT [(.int (4 : Int32))] (c13_pick hw wd  O) (by rw [hml]; rfl) (lenOf pd_0 rfl) (W := 0) rfl (by decide) (by decide) (by decide) (by decide) rfl ?_
    rintro _ T _ X ⟨rfl, rfl, eT⟩
    rw [List.append_nil] at X
    show Run p e below _ (T.setTop (mkF m 12 _ [(.ref w_OUTPUT)]))
    refine q_astoreN (pc' := 13) (l' := #[.val (.int p1), .val (.int (4 : Int32)), .val (.ref w_OUTPUT), .unset, .unset]) X hx (hb hby at_12) rfl rfl rfl ?_
    refine q_iloadN (pc' := 14) X hx (hb hby at_13) rfl rfl ?_
    refine q_iconst (pc' := 15) (z := (4 : Int32)) X hx (hb hby at_14) rfl rfl ?_
    refine q_icmpYes (pc' := 22) X hx (hb hby at_15) (by decide) (by decide) (by decide) ?_
    refine q_iconst (pc' := 23) (z := (0 : Int32)) X hx (hb hby at_22) rfl rfl ?_
    refine q_istoreN (pc' := 24) (l' := #[.val (.int p1), .val (.int (4 : Int32)), .val (.ref w_OUTPUT), .val (.int (0 : Int32)), .unset]) X hx (hb hby at_23) rfl rfl ?_
    refine q_aloadN (pc' := 25) X hx (hb hby at_24) rfl rfl rfl ?_
    refine q_callV (pc' := 28) (y := y1) (rest := []) X hx hZ hown (hb hby at_25) (t8 hw) (t9 hw) (t11 hw) (t10 hw) (t6 hw) (t12 hw) (by decide) eT (E_w_OUTPUT.ext O) [] (c14_inPrompt hw wd  O) (by rw [hml]; rfl) (lenOf pd_1 rfl) (W := 0) rfl (by decide) (by decide) (by decide) (by decide) rfl ?_
    rintro _ T _ X ⟨rfl, rfl, eT⟩
    rw [List.append_nil] at X
    show Run p e below _ (T.setTop (mkF m 28 _ [(.int (0 : Int32))]))
    refine q_istore (pc' := 30) (l' := #[.val (.int p1), .val (.int (4 : Int32)), .val (.ref w_OUTPUT), .val (.int (0 : Int32)), .val (.int (0 : Int32))]) X hx (hb hby at_28) rfl rfl ?_
    refine q_iload (pc' := 32) X hx (hb hby at_30) rfl rfl ?_
    refine q_iloadN (pc' := 33) X hx (hb hby at_32) rfl rfl ?_
    refine q_icmpYes (pc' := 38) X hx (hb hby at_33) (by decide) (by decide) (by decide) ?_
    refine q_iload (pc' := 40) X hx (hb hby at_38) rfl rfl ?_
    refine q_ifYes (pc' := 52) X hx (hb hby at_40) (by decide) (by decide) (by decide) ?_
    refine q_iconst (pc' := 53) (z := (1 : Int32)) X hx (hb hby at_52) rfl rfl ?_
    refine Run.retB X hx hlk hret (hb hby at_53) rfl (by decide) (by decide) ?_
    try rw [eT]
    exact ⟨rfl, N⟩
  · rw [hi]
    refine q_iloadN (pc' := 9) X hx (hb hby at_8) rfl rfl ?_
    refine q_callC (pc' := 12) (y := y0) (rest := []) X hx hZ hown (hb hby at_9) (t1 hw) (t2 hw) (t3 hw) (t4 hw) (by decide) eT [(.int (5 : Int32))] (c15_pick hw wd  O) (by rw [hml]; rfl) (lenOf pd_0 rfl) (W := 0) rfl (by decide) (by decide) (by decide) (by decide) rfl ?_
    rintro _ T _ X ⟨rfl, rfl, eT⟩
    rw [List.append_nil] at X
    show Run p e below _ (T.setTop (mkF m 12 _ [(.ref w_REASONING)]))
    refine q_astoreN (pc' := 13) (l' := #[.val (.int p1), .val (.int (5 : Int32)), .val (.ref w_REASONING), .unset, .unset]) X hx (hb hby at_12) rfl rfl rfl ?_
    refine q_iloadN (pc' := 14) X hx (hb hby at_13) rfl rfl ?_
    refine q_iconst (pc' := 15) (z := (4 : Int32)) X hx (hb hby at_14) rfl rfl ?_
    refine q_icmpYes (pc' := 22) X hx (hb hby at_15) (by decide) (by decide) (by decide) ?_
    refine q_iconst (pc' := 23) (z := (0 : Int32)) X hx (hb hby at_22) rfl rfl ?_
    refine q_istoreN (pc' := 24) (l' := #[.val (.int p1), .val (.int (5 : Int32)), .val (.ref w_REASONING), .val (.int (0 : Int32)), .unset]) X hx (hb hby at_23) rfl rfl ?_
    refine q_aloadN (pc' := 25) X hx (hb hby at_24) rfl rfl rfl ?_
    refine q_callV (pc' := 28) (y := y1) (rest := []) X hx hZ hown (hb hby at_25) (t8 hw) (t9 hw) (t11 hw) (t10 hw) (t6 hw) (t12 hw) (by decide) eT (E_w_REASONING.ext O) [] (c16_inPrompt hw wd  O) (by rw [hml]; rfl) (lenOf pd_1 rfl) (W := 0) rfl (by decide) (by decide) (by decide) (by decide) rfl ?_
    rintro _ T _ X ⟨rfl, rfl, eT⟩
    rw [List.append_nil] at X
    show Run p e below _ (T.setTop (mkF m 28 _ [(.int (0 : Int32))]))
    refine q_istore (pc' := 30) (l' := #[.val (.int p1), .val (.int (5 : Int32)), .val (.ref w_REASONING), .val (.int (0 : Int32)), .val (.int (0 : Int32))]) X hx (hb hby at_28) rfl rfl ?_
    refine q_iload (pc' := 32) X hx (hb hby at_30) rfl rfl ?_
    refine q_iloadN (pc' := 33) X hx (hb hby at_32) rfl rfl ?_
    refine q_icmpYes (pc' := 38) X hx (hb hby at_33) (by decide) (by decide) (by decide) ?_
    refine q_iload (pc' := 40) X hx (hb hby at_38) rfl rfl ?_
    refine q_ifYes (pc' := 52) X hx (hb hby at_40) (by decide) (by decide) (by decide) ?_
    refine q_iconst (pc' := 53) (z := (1 : Int32)) X hx (hb hby at_52) rfl rfl ?_
    refine Run.retB X hx hlk hret (hb hby at_53) rfl (by decide) (by decide) ?_
    try rw [eT]
    exact ⟨rfl, N⟩
  · rw [hi]
    refine q_iloadN (pc' := 9) X hx (hb hby at_8) rfl rfl ?_
    refine q_callC (pc' := 12) (y := y0) (rest := []) X hx hZ hown (hb hby at_9) (t1 hw) (t2 hw) (t3 hw) (t4 hw) (by decide) eT [(.int (6 : Int32))] (c17_pick hw wd  O) (by rw [hml]; rfl) (lenOf pd_0 rfl) (W := 0) rfl (by decide) (by decide) (by decide) (by decide) rfl ?_
    rintro _ T _ X ⟨rfl, rfl, eT⟩
    rw [List.append_nil] at X
    show Run p e below _ (T.setTop (mkF m 12 _ [(.ref w_INPUT_AUDIO)]))
    refine q_astoreN (pc' := 13) (l' := #[.val (.int p1), .val (.int (6 : Int32)), .val (.ref w_INPUT_AUDIO), .unset, .unset]) X hx (hb hby at_12) rfl rfl rfl ?_
    refine q_iloadN (pc' := 14) X hx (hb hby at_13) rfl rfl ?_
    refine q_iconst (pc' := 15) (z := (4 : Int32)) X hx (hb hby at_14) rfl rfl ?_
    refine q_icmpYes (pc' := 22) X hx (hb hby at_15) (by decide) (by decide) (by decide) ?_
    refine q_iconst (pc' := 23) (z := (0 : Int32)) X hx (hb hby at_22) rfl rfl ?_
    refine q_istoreN (pc' := 24) (l' := #[.val (.int p1), .val (.int (6 : Int32)), .val (.ref w_INPUT_AUDIO), .val (.int (0 : Int32)), .unset]) X hx (hb hby at_23) rfl rfl ?_
    refine q_aloadN (pc' := 25) X hx (hb hby at_24) rfl rfl rfl ?_
    refine q_callV (pc' := 28) (y := y1) (rest := []) X hx hZ hown (hb hby at_25) (t8 hw) (t9 hw) (t11 hw) (t10 hw) (t6 hw) (t12 hw) (by decide) eT (E_w_INPUT_AUDIO.ext O) [] (c18_inPrompt hw wd  O) (by rw [hml]; rfl) (lenOf pd_1 rfl) (W := 0) rfl (by decide) (by decide) (by decide) (by decide) rfl ?_
    rintro _ T _ X ⟨rfl, rfl, eT⟩
    rw [List.append_nil] at X
    show Run p e below _ (T.setTop (mkF m 28 _ [(.int (0 : Int32))]))
    refine q_istore (pc' := 30) (l' := #[.val (.int p1), .val (.int (6 : Int32)), .val (.ref w_INPUT_AUDIO), .val (.int (0 : Int32)), .val (.int (0 : Int32))]) X hx (hb hby at_28) rfl rfl ?_
    refine q_iload (pc' := 32) X hx (hb hby at_30) rfl rfl ?_
    refine q_iloadN (pc' := 33) X hx (hb hby at_32) rfl rfl ?_
    refine q_icmpYes (pc' := 38) X hx (hb hby at_33) (by decide) (by decide) (by decide) ?_
    refine q_iload (pc' := 40) X hx (hb hby at_38) rfl rfl ?_
    refine q_ifYes (pc' := 52) X hx (hb hby at_40) (by decide) (by decide) (by decide) ?_
    refine q_iconst (pc' := 53) (z := (1 : Int32)) X hx (hb hby at_52) rfl rfl ?_
    refine Run.retB X hx hlk hret (hb hby at_53) rfl (by decide) (by decide) ?_
    try rw [eT]
    exact ⟨rfl, N⟩
  · rw [hi]
    refine q_iloadN (pc' := 9) X hx (hb hby at_8) rfl rfl ?_
    refine q_callC (pc' := 12) (y := y0) (rest := []) X hx hZ hown (hb hby at_9) (t1 hw) (t2 hw) (t3 hw) (t4 hw) (by decide) eT [(.int (7 : Int32))] (c19_pick hw wd  O) (by rw [hml]; rfl) (lenOf pd_0 rfl) (W := 0) rfl (by decide) (by decide) (by decide) (by decide) rfl ?_
    rintro _ T _ X ⟨rfl, rfl, eT⟩
    rw [List.append_nil] at X
    show Run p e below _ (T.setTop (mkF m 12 _ [(.ref w_CACHE_READ_AUDIO)]))
    refine q_astoreN (pc' := 13) (l' := #[.val (.int p1), .val (.int (7 : Int32)), .val (.ref w_CACHE_READ_AUDIO), .unset, .unset]) X hx (hb hby at_12) rfl rfl rfl ?_
    refine q_iloadN (pc' := 14) X hx (hb hby at_13) rfl rfl ?_
    refine q_iconst (pc' := 15) (z := (4 : Int32)) X hx (hb hby at_14) rfl rfl ?_
    refine q_icmpYes (pc' := 22) X hx (hb hby at_15) (by decide) (by decide) (by decide) ?_
    refine q_iconst (pc' := 23) (z := (0 : Int32)) X hx (hb hby at_22) rfl rfl ?_
    refine q_istoreN (pc' := 24) (l' := #[.val (.int p1), .val (.int (7 : Int32)), .val (.ref w_CACHE_READ_AUDIO), .val (.int (0 : Int32)), .unset]) X hx (hb hby at_23) rfl rfl ?_
    refine q_aloadN (pc' := 25) X hx (hb hby at_24) rfl rfl rfl ?_
    refine q_callV (pc' := 28) (y := y1) (rest := []) X hx hZ hown (hb hby at_25) (t8 hw) (t9 hw) (t11 hw) (t10 hw) (t6 hw) (t12 hw) (by decide) eT (E_w_CACHE_READ_AUDIO.ext O) [] (c20_inPrompt hw wd  O) (by rw [hml]; rfl) (lenOf pd_1 rfl) (W := 0) rfl (by decide) (by decide) (by decide) (by decide) rfl ?_
    rintro _ T _ X ⟨rfl, rfl, eT⟩
    rw [List.append_nil] at X
    show Run p e below _ (T.setTop (mkF m 28 _ [(.int (0 : Int32))]))
    refine q_istore (pc' := 30) (l' := #[.val (.int p1), .val (.int (7 : Int32)), .val (.ref w_CACHE_READ_AUDIO), .val (.int (0 : Int32)), .val (.int (0 : Int32))]) X hx (hb hby at_28) rfl rfl ?_
    refine q_iload (pc' := 32) X hx (hb hby at_30) rfl rfl ?_
    refine q_iloadN (pc' := 33) X hx (hb hby at_32) rfl rfl ?_
    refine q_icmpYes (pc' := 38) X hx (hb hby at_33) (by decide) (by decide) (by decide) ?_
    refine q_iload (pc' := 40) X hx (hb hby at_38) rfl rfl ?_
    refine q_ifYes (pc' := 52) X hx (hb hby at_40) (by decide) (by decide) (by decide) ?_
    refine q_iconst (pc' := 53) (z := (1 : Int32)) X hx (hb hby at_52) rfl rfl ?_
    refine Run.retB X hx hlk hret (hb hby at_53) rfl (by decide) (by decide) ?_
    try rw [eT]
    exact ⟨rfl, N⟩
  · rw [hi]
    refine q_iloadN (pc' := 9) X hx (hb hby at_8) rfl rfl ?_
    refine q_callC (pc' := 12) (y := y0) (rest := []) X hx hZ hown (hb hby at_9) (t1 hw) (t2 hw) (t3 hw) (t4 hw) (by decide) eT [(.int (8 : Int32))] (c21_pick hw wd  O) (by rw [hml]; rfl) (lenOf pd_0 rfl) (W := 0) rfl (by decide) (by decide) (by decide) (by decide) rfl ?_
    rintro _ T _ X ⟨rfl, rfl, eT⟩
    rw [List.append_nil] at X
    show Run p e below _ (T.setTop (mkF m 12 _ [(.ref w_OUTPUT_AUDIO)]))
    refine q_astoreN (pc' := 13) (l' := #[.val (.int p1), .val (.int (8 : Int32)), .val (.ref w_OUTPUT_AUDIO), .unset, .unset]) X hx (hb hby at_12) rfl rfl rfl ?_
    refine q_iloadN (pc' := 14) X hx (hb hby at_13) rfl rfl ?_
    refine q_iconst (pc' := 15) (z := (4 : Int32)) X hx (hb hby at_14) rfl rfl ?_
    refine q_icmpYes (pc' := 22) X hx (hb hby at_15) (by decide) (by decide) (by decide) ?_
    refine q_iconst (pc' := 23) (z := (0 : Int32)) X hx (hb hby at_22) rfl rfl ?_
    refine q_istoreN (pc' := 24) (l' := #[.val (.int p1), .val (.int (8 : Int32)), .val (.ref w_OUTPUT_AUDIO), .val (.int (0 : Int32)), .unset]) X hx (hb hby at_23) rfl rfl ?_
    refine q_aloadN (pc' := 25) X hx (hb hby at_24) rfl rfl rfl ?_
    refine q_callV (pc' := 28) (y := y1) (rest := []) X hx hZ hown (hb hby at_25) (t8 hw) (t9 hw) (t11 hw) (t10 hw) (t6 hw) (t12 hw) (by decide) eT (E_w_OUTPUT_AUDIO.ext O) [] (c22_inPrompt hw wd  O) (by rw [hml]; rfl) (lenOf pd_1 rfl) (W := 0) rfl (by decide) (by decide) (by decide) (by decide) rfl ?_
    rintro _ T _ X ⟨rfl, rfl, eT⟩
    rw [List.append_nil] at X
    show Run p e below _ (T.setTop (mkF m 28 _ [(.int (0 : Int32))]))
    refine q_istore (pc' := 30) (l' := #[.val (.int p1), .val (.int (8 : Int32)), .val (.ref w_OUTPUT_AUDIO), .val (.int (0 : Int32)), .val (.int (0 : Int32))]) X hx (hb hby at_28) rfl rfl ?_
    refine q_iload (pc' := 32) X hx (hb hby at_30) rfl rfl ?_
    refine q_iloadN (pc' := 33) X hx (hb hby at_32) rfl rfl ?_
    refine q_icmpYes (pc' := 38) X hx (hb hby at_33) (by decide) (by decide) (by decide) ?_
    refine q_iload (pc' := 40) X hx (hb hby at_38) rfl rfl ?_
    refine q_ifYes (pc' := 52) X hx (hb hby at_40) (by decide) (by decide) (by decide) ?_
    refine q_iconst (pc' := 53) (z := (1 : Int32)) X hx (hb hby at_52) rfl rfl ?_
    refine Run.retB X hx hlk hret (hb hby at_53) rfl (by decide) (by decide) ?_
    try rw [eT]
    exact ⟨rfl, N⟩
  · rw [hi]
    refine q_iloadN (pc' := 9) X hx (hb hby at_8) rfl rfl ?_
    refine q_callC (pc' := 12) (y := y0) (rest := []) X hx hZ hown (hb hby at_9) (t1 hw) (t2 hw) (t3 hw) (t4 hw) (by decide) eT [(.int (9 : Int32))] (c23_pick hw wd  O) (by rw [hml]; rfl) (lenOf pd_0 rfl) (W := 0) rfl (by decide) (by decide) (by decide) (by decide) rfl ?_
    rintro _ T _ X ⟨rfl, rfl, eT⟩
    rw [List.append_nil] at X
    show Run p e below _ (T.setTop (mkF m 12 _ [(.ref w_WEB_SEARCHES)]))
    refine q_astoreN (pc' := 13) (l' := #[.val (.int p1), .val (.int (9 : Int32)), .val (.ref w_WEB_SEARCHES), .unset, .unset]) X hx (hb hby at_12) rfl rfl rfl ?_
    refine q_iloadN (pc' := 14) X hx (hb hby at_13) rfl rfl ?_
    refine q_iconst (pc' := 15) (z := (4 : Int32)) X hx (hb hby at_14) rfl rfl ?_
    refine q_icmpYes (pc' := 22) X hx (hb hby at_15) (by decide) (by decide) (by decide) ?_
    refine q_iconst (pc' := 23) (z := (0 : Int32)) X hx (hb hby at_22) rfl rfl ?_
    refine q_istoreN (pc' := 24) (l' := #[.val (.int p1), .val (.int (9 : Int32)), .val (.ref w_WEB_SEARCHES), .val (.int (0 : Int32)), .unset]) X hx (hb hby at_23) rfl rfl ?_
    refine q_aloadN (pc' := 25) X hx (hb hby at_24) rfl rfl rfl ?_
    refine q_callV (pc' := 28) (y := y1) (rest := []) X hx hZ hown (hb hby at_25) (t8 hw) (t9 hw) (t11 hw) (t10 hw) (t6 hw) (t12 hw) (by decide) eT (E_w_WEB_SEARCHES.ext O) [] (c24_inPrompt hw wd  O) (by rw [hml]; rfl) (lenOf pd_1 rfl) (W := 0) rfl (by decide) (by decide) (by decide) (by decide) rfl ?_
    rintro _ T _ X ⟨rfl, rfl, eT⟩
    rw [List.append_nil] at X
    show Run p e below _ (T.setTop (mkF m 28 _ [(.int (0 : Int32))]))
    refine q_istore (pc' := 30) (l' := #[.val (.int p1), .val (.int (9 : Int32)), .val (.ref w_WEB_SEARCHES), .val (.int (0 : Int32)), .val (.int (0 : Int32))]) X hx (hb hby at_28) rfl rfl ?_
    refine q_iload (pc' := 32) X hx (hb hby at_30) rfl rfl ?_
    refine q_iloadN (pc' := 33) X hx (hb hby at_32) rfl rfl ?_
    refine q_icmpYes (pc' := 38) X hx (hb hby at_33) (by decide) (by decide) (by decide) ?_
    refine q_iload (pc' := 40) X hx (hb hby at_38) rfl rfl ?_
    refine q_ifYes (pc' := 52) X hx (hb hby at_40) (by decide) (by decide) (by decide) ?_
    refine q_iconst (pc' := 53) (z := (1 : Int32)) X hx (hb hby at_52) rfl rfl ?_
    refine Run.retB X hx hlk hret (hb hby at_53) rfl (by decide) (by decide) ?_
    try rw [eT]
    exact ⟨rfl, N⟩
set_option maxRecDepth 65536 in
set_option maxHeartbeats 40000000 in
theorem comes_1 {Post : Tables → Env → Array Value → State → Outcome → State → Prop} (hpost : ∀ tb e args s v u, (limb_1_1.after args s (.returned v) u = true ∧ limb_1_2.after args s (.returned v) u = true ∧ True) → FrameEnd s (.returned v) u (Jvm.fieldLocs frame_1_writes args s ++ Jvm.arrayLocs frame_1_arrays args s ++ Jvm.staticLocs frame_1_statics s) 0 0 → Post tb e args s (.returned v) u) :
    ArmFor flags0 classFile x code maxLocals ret World_1 tables_1 room_1 Calls_1 rest_1 Pre_1 Post := by
  intro l hfl _ _ p e ha hc hk s m args below hf hA hF happ hP
  obtain ⟨hcalls, hrest, hpre⟩ := hP
  obtain ⟨-, -, -, hnamed, -, -, -, hat⟩ := (Spec.applies_iff hf).mp happ
  obtain ⟨hg, hn⟩ := and_e (Cond.before_iff.mp (show (Jvm.Cond.and given_1 narrow_1).before args s = true from hpre))
  obtain ⟨y0_l, y0_r⟩ := and_e hg
  obtain ⟨w0, rfl⟩ : ∃ w0 : Value, args = #[w0] := by
    have hs : args.size = 1 := by simpa [Cond.value, given_1] using y0_l
    obtain ⟨L⟩ := args
    match L, hs with
    | [w0], _ => exact ⟨w0, rfl⟩
  have hw := fun d (hd : d ∈ tables_1) => atoms_spec (ws := Jvm.Cond.code x code maxLocals ret :: tables_1) hat d (List.mem_cons_of_mem _ hd)
  have hfit : Fit s := fun {y c} hc i hi => by
    obtain ⟨ha, rfl⟩ := Array.getElem?_eq_some_iff.mp hc
    have q := List.all_eq_true.mp ((Array.all_eq_true_iff_forall_mem.mp hF) _ (Array.getElem_mem ha)) i (List.mem_range.mpr hi)
    simpa [Array.getElem?_eq_getElem hi] using q
  obtain ⟨i0, ei0⟩ := is_v y0_r
  obtain rfl : w0 = (.int i0) := Option.some.inj ei0
  obtain ⟨n0_l, n0_r⟩ := and_e hn
  obtain ⟨n1_l, n1_r⟩ := and_e n0_r
  obtain ⟨n2_l, n2_r⟩ := and_e n1_r
  obtain ⟨n3_l, n3_r⟩ := and_e n2_r
  obtain ⟨n4_l, n4_r⟩ := and_e n3_r
  obtain ⟨n5_l, n5_r⟩ := and_e n4_r
  obtain ⟨n6_l, n6_r⟩ := and_e n5_r
  obtain ⟨n7_l, n7_r⟩ := and_e n6_r
  obtain ⟨n8_l, n8_r⟩ := and_e n7_r
  obtain ⟨n9_l, n9_r⟩ := and_e n8_r
  obtain ⟨n10_l, n10_r⟩ := and_e n9_r
  obtain ⟨n11_l, n11_r⟩ := and_e n10_r
  obtain ⟨n12_l, n12_r⟩ := and_e n11_r
  obtain ⟨n13_l, n13_r⟩ := and_e n12_r
  obtain ⟨n14_l, n14_r⟩ := and_e n13_r
  obtain ⟨n15_l, n15_r⟩ := and_e n14_r
  obtain ⟨n16_l, n16_r⟩ := and_e n15_r
  obtain ⟨n17_l, n17_r⟩ := and_e n16_r
  obtain ⟨n18_l, n18_r⟩ := and_e n17_r
  obtain ⟨n19_l, n19_r⟩ := and_e n18_r
  obtain ⟨n20_l, n20_r⟩ := and_e n19_r
  obtain ⟨n21_l, n21_r⟩ := and_e n20_r
  obtain ⟨n22_l, n22_r⟩ := and_e n21_r
  obtain ⟨n23_l, n23_r⟩ := and_e n22_r
  obtain ⟨n24_l, n24_r⟩ := and_e n23_r
  obtain ⟨n25_l, n25_r⟩ := and_e n24_r
  obtain ⟨n26_l, n26_r⟩ := and_e n25_r
  obtain ⟨n27_l, n27_r⟩ := and_e n26_r
  obtain ⟨n28_l, n28_r⟩ := and_e n27_r
  obtain ⟨n29_l, n29_r⟩ := and_e n28_r
  obtain ⟨n30_l, n30_r⟩ := and_e n29_r
  obtain ⟨n31_l, n31_r⟩ := and_e n30_r
  obtain ⟨n32_l, n32_r⟩ := and_e n31_r
  obtain ⟨n33_l, n33_r⟩ := and_e n32_r
  obtain ⟨n34_l, n34_r⟩ := and_e n33_r
  obtain ⟨w_INPUT, ev_w_INPUT⟩ := exa_v n0_l
  obtain ⟨w_PROMPT_TOKENS, ev_w_PROMPT_TOKENS⟩ := exa_v n1_l
  obtain ⟨w_USES, ev_w_USES⟩ := exa_v n4_l
  obtain ⟨w_CACHE_WRITE_1H, ev_w_CACHE_WRITE_1H⟩ := exa_v n7_l
  obtain ⟨w_CACHE_READ, ev_w_CACHE_READ⟩ := exa_v n10_l
  obtain ⟨w_OUTPUT, ev_w_OUTPUT⟩ := exa_v n13_l
  obtain ⟨w_OUTPUT_TOKENS, ev_w_OUTPUT_TOKENS⟩ := exa_v n14_l
  obtain ⟨w_CACHE_READ_AUDIO, ev_w_CACHE_READ_AUDIO⟩ := exa_v n17_l
  obtain ⟨w_CACHE_WRITE, ev_w_CACHE_WRITE⟩ := exa_v n20_l
  obtain ⟨w_OUTPUT_AUDIO, ev_w_OUTPUT_AUDIO⟩ := exa_v n23_l
  obtain ⟨w_WEB_SEARCHES, ev_w_WEB_SEARCHES⟩ := exa_v n25_l
  obtain ⟨w_REASONING, ev_w_REASONING⟩ := exa_v n27_l
  obtain ⟨w_INPUT_AUDIO, ev_w_INPUT_AUDIO⟩ := exa_v n29_l
  have wd : World s w_INPUT w_PROMPT_TOKENS w_USES w_CACHE_WRITE_1H w_CACHE_READ w_OUTPUT w_OUTPUT_TOKENS w_CACHE_READ_AUDIO w_CACHE_WRITE w_OUTPUT_AUDIO w_WEB_SEARCHES w_REASONING w_INPUT_AUDIO := ⟨(Sta.start ev_w_INPUT (Or.inr ⟨(t6 hw), (t7 hw)⟩)), (Exa.start ev_w_INPUT n0_l), (Sta.start ev_w_PROMPT_TOKENS (Or.inr ⟨(t15 hw), (t16 hw)⟩)), (Exa.start ev_w_PROMPT_TOKENS n1_l), (Sta.start ev_w_USES (Or.inr ⟨(t15 hw), (t26 hw)⟩)), (Exa.start ev_w_USES n4_l), (Sta.start ev_w_CACHE_WRITE_1H (Or.inr ⟨(t6 hw), (t28 hw)⟩)), (Exa.start ev_w_CACHE_WRITE_1H n7_l), (Sta.start ev_w_CACHE_READ (Or.inr ⟨(t6 hw), (t30 hw)⟩)), (Exa.start ev_w_CACHE_READ n10_l), (Sta.start ev_w_OUTPUT (Or.inr ⟨(t6 hw), (t32 hw)⟩)), (Exa.start ev_w_OUTPUT n13_l), (Sta.start ev_w_OUTPUT_TOKENS (Or.inr ⟨(t15 hw), (t33 hw)⟩)), (Exa.start ev_w_OUTPUT_TOKENS n14_l), (Sta.start ev_w_CACHE_READ_AUDIO (Or.inr ⟨(t6 hw), (t35 hw)⟩)), (Exa.start ev_w_CACHE_READ_AUDIO n17_l), (Sta.start ev_w_CACHE_WRITE (Or.inr ⟨(t6 hw), (t37 hw)⟩)), (Exa.start ev_w_CACHE_WRITE n20_l), (Sta.start ev_w_OUTPUT_AUDIO (Or.inr ⟨(t6 hw), (t39 hw)⟩)), (Exa.start ev_w_OUTPUT_AUDIO n23_l), (Sta.start ev_w_WEB_SEARCHES (Or.inr ⟨(t6 hw), (t41 hw)⟩)), (Exa.start ev_w_WEB_SEARCHES n25_l), (Sta.start ev_w_REASONING (Or.inr ⟨(t6 hw), (t43 hw)⟩)), (Exa.start ev_w_REASONING n27_l), (Sta.start ev_w_INPUT_AUDIO (Or.inr ⟨(t6 hw), (t45 hw)⟩)), (Exa.start ev_w_INPUT_AUDIO n29_l), (fld_ref ev_w_INPUT ev_w_PROMPT_TOKENS n2_l), (fld_null ev_w_INPUT n3_l), (fld_int ev_w_PROMPT_TOKENS n5_l), (fld_int ev_w_USES n6_l), (fld_ref ev_w_CACHE_WRITE_1H ev_w_PROMPT_TOKENS n8_l), (fld_null ev_w_CACHE_WRITE_1H n9_l), (fld_ref ev_w_CACHE_READ ev_w_PROMPT_TOKENS n11_l), (fld_null ev_w_CACHE_READ n12_l), (fld_ref ev_w_OUTPUT ev_w_OUTPUT_TOKENS n15_l), (fld_int ev_w_OUTPUT_TOKENS n16_l), (fld_ref ev_w_CACHE_READ_AUDIO ev_w_PROMPT_TOKENS n18_l), (fld_ref ev_w_CACHE_READ_AUDIO ev_w_CACHE_READ n19_l), (fld_ref ev_w_CACHE_WRITE ev_w_PROMPT_TOKENS n21_l), (fld_null ev_w_CACHE_WRITE n22_l), (fld_ref ev_w_OUTPUT_AUDIO ev_w_OUTPUT_TOKENS n24_l), (fld_ref ev_w_WEB_SEARCHES ev_w_USES n26_l), (fld_ref ev_w_REASONING ev_w_OUTPUT_TOKENS n28_l), (fld_ref ev_w_INPUT_AUDIO ev_w_PROMPT_TOKENS n30_l), (fld_ref ev_w_INPUT_AUDIO ev_w_INPUT n31_l), (fld_null ev_w_OUTPUT n32_l), (fld_ref ev_w_OUTPUT_AUDIO ev_w_OUTPUT n33_l), (fld_null ev_w_WEB_SEARCHES n34_l), (fld_ref ev_w_REASONING ev_w_OUTPUT n34_r)⟩
  obtain ⟨n, o, h1, h2, h3, _, L, rfl, ⟨rfl, N⟩, hq⟩ := (law_all hw wd i0 (ext_refl _)) tables_1 p e ha hc hk s m _ below hf ((Spec.applies_iff_loose hf).mp happ).1 ⟨rfl, State.Warmed39.refl s, rfl⟩ trivial
  refine ⟨n, _, h1, h2, h3, hpost _ _ _ _ _ _ ⟨Cond.after_iff.mpr rfl, Cond.after_iff.mpr (eq_i res_at (Term.int_eval (1)) rfl), trivial⟩ ⟨hq.1, hq.2.1, (hq.2.2.sift fun y hy => Or.inr (N y hy)).mono (by decide) (by decide)⟩⟩
theorem main_1_1 : Claimed_1_1 := comes_1 fun _ _ _ _ _ _ h hF => ⟨h.1, hF⟩
theorem main_1_2 : Claimed_1_2 := comes_1 fun _ _ _ _ _ _ h hF => ⟨h.2.1, hF⟩
end Jvm.Pilot.@@N@@
namespace Jvm.Pilot.@@N@@
open Jvm Jvm.ClassFile Sem Op Lib Jvm.Free Jvm.Stand Jvm.Pilot.@@N@@.Jvm.D
/-! MADE BY PROGRAM (witnessworld.py) out of the Statement's table words and the real class files: 13 classes; the members and pool entries that the words name. The judged class is class 1, her method 2. -/
namespace start1
open Jvm.ClassFile
def u (s : String) : CpInfo := .utf8 (stringToUtf16 s)
/-- a pool by its gaps: so many unusable entries, then the entry; so many at the end -/
def gap : Nat → List CpInfo → List CpInfo
  | 0, r => r
  | n + 1, r => .unusable :: gap n r
def poolList (es : List (Nat × CpInfo)) (last : Nat) : List CpInfo := es.foldr (fun e r => gap e.1 (e.2 :: r)) (gap last [])
def pool (es : List (Nat × CpInfo)) (last : Nat) : Array CpInfo := ⟨poolList es last⟩
def fileOf (pool : Array CpInfo) (this : Nat) (attrs : Array Attribute := #[]) (ms : Array MethodInfo := #[]) (fl : Nat := 33) (sup : Nat := 0) (ifs : Array Nat := #[]) (fds : Array FieldInfo := #[]) : ClassFile where
  minorVersion := 0
  majorVersion := 65
  constantPool := pool
  accessFlags := fl
  thisClass := this
  superClass := sup
  interfaces := ifs
  fields := fds
  methods := ms
  attributes := attrs
def plain (name : String) (sup : Option ClassId) : Class where
  name := name
  kind := .ordinary
  loader := none
  accessFlags := 33
  super := sup
  interfaces := #[]
  cf := none
  fields := #[]
  methods := #[]
  instanceTypes := #[]
  staticTypes := #[]
  resolved := #[]
  callSites := []
  init := .initialized
  statics := none
  mirror := none

def pool0 : Array CpInfo := pool [(5, u "<init>"), (0, u "()V"), (1, .class_ 10), (1, u "java/lang/Object")] 113

def k0m0 : Method := { name := "<init>", desc := "()V", sig := { parameters := [], returnType := none }, accessFlags := 1, code := none }
/-- java/lang/Object -/
def k0 : Class := { plain "java/lang/Object" none with
  accessFlags := 33
  interfaces := #[]
  cf := some (fileOf pool0 8 #[] #[{ accessFlags := 1, nameIndex := 5, descriptorIndex := 6, attributes := #[] }] 33 0 #[] #[])
  fields := #[]
  methods := #[k0m0]
  instanceTypes := #[]
  staticTypes := #[]
  resolved := Array.replicate 124 none
  statics := none }

def pool1 : Array CpInfo := pool [(2, .class_ 4), (1, u "java/lang/Object"), (0, u "<init>"), (0, u "()V"), (0, .fieldref 8 9), (0, .class_ 10), (0, .nameAndType 11 12), (0, u "com/example/centdb/centdb/usage/TokenKind"), (0, u "INPUT"), (0, u "Lcom/example/centdb/centdb/usage/TokenKind;"), (0, .fieldref 8 14), (0, .nameAndType 15 12), (0, u "CACHE_READ"), (0, .fieldref 8 17), (0, .nameAndType 18 12), (0, u "CACHE_WRITE"), (0, .fieldref 8 20), (0, .nameAndType 21 12), (0, u "CACHE_WRITE_1H"), (0, .fieldref 8 23), (0, .nameAndType 24 12), (0, u "OUTPUT"), (0, .fieldref 8 26), (0, .nameAndType 27 12), (0, u "REASONING"), (0, .fieldref 8 29), (0, .nameAndType 30 12), (0, u "INPUT_AUDIO"), (0, .fieldref 8 32), (0, .nameAndType 33 12), (0, u "CACHE_READ_AUDIO"), (0, .fieldref 8 35), (0, .nameAndType 36 12), (0, u "OUTPUT_AUDIO"), (0, .fieldref 8 38), (0, .nameAndType 39 12), (0, u "WEB_SEARCHES"), (0, .integer 2147483647), (0, .methodref 42 43), (0, .class_ 44), (0, .nameAndType 45 46), (0, u "com/example/centdb/centdb/usage/TokenKindInPromptPinLaw"), (0, u "pick"), (0, u "(I)Lcom/example/centdb/centdb/usage/TokenKind;"), (0, .methodref 8 48), (0, .nameAndType 49 50), (0, u "inPrompt"), (0, u "()Z"), (0, .methodref 8 52), (0, .nameAndType 53 50), (0, u "inAllTokens"), (3, u "law"), (0, u "(I)Z")] 2

def k1m0 : Method := { name := "<init>", desc := "()V", sig := { parameters := [], returnType := none }, accessFlags := 2, code := none }
def k1c1 : Code := { maxStack := 2, maxLocals := 1, code := method_2_code, exceptionTable := #[], attributes := #[] }
def k1m1 : Method := { name := "pick", desc := "(I)Lcom/example/centdb/centdb/usage/TokenKind;", sig := { parameters := [.int], returnType := some (.object "com/example/centdb/centdb/usage/TokenKind") }, accessFlags := 10, code := some k1c1 }
def k1c2 : Code := { maxStack := 2, maxLocals := 5, code := code, exceptionTable := #[], attributes := #[] }
def k1m2 : Method := { name := "law", desc := "(I)Z", sig := { parameters := [.int], returnType := some .boolean }, accessFlags := 9, code := some k1c2 }
/-- com/example/centdb/centdb/usage/TokenKindInPromptPinLaw -/
def k1 : Class := { plain "com/example/centdb/centdb/usage/TokenKindInPromptPinLaw" (some 0) with
  accessFlags := 49
  interfaces := #[]
  cf := some (fileOf pool1 42 #[] #[{ accessFlags := 2, nameIndex := 5, descriptorIndex := 6, attributes := #[] }, { accessFlags := 10, nameIndex := 45, descriptorIndex := 46, attributes := #[] }, { accessFlags := 9, nameIndex := 57, descriptorIndex := 58, attributes := #[] }] 49 2 #[] #[])
  fields := #[]
  methods := #[k1m0, k1m1, k1m2]
  instanceTypes := #[]
  staticTypes := #[]
  resolved := Array.replicate 61 none
  statics := none }

def pool2 : Array CpInfo := pool [(1, .class_ 2), (0, u "java/lang/constant/Constable"), (0, .class_ 4), (0, u "java/lang/Object")] 6

/-- java/lang/constant/Constable -/
def k2 : Class := { plain "java/lang/constant/Constable" (some 0) with
  accessFlags := 1537
  interfaces := #[]
  cf := some (fileOf pool2 1 #[] #[] 1537 3 #[] #[])
  fields := #[]
  methods := #[]
  instanceTypes := #[]
  staticTypes := #[]
  resolved := Array.replicate 11 none
  statics := none }

def pool3 : Array CpInfo := pool [(1, .class_ 2), (0, u "java/lang/Comparable"), (0, .class_ 4), (0, u "java/lang/Object")] 7

/-- java/lang/Comparable -/
def k3 : Class := { plain "java/lang/Comparable" (some 0) with
  accessFlags := 1537
  interfaces := #[]
  cf := some (fileOf pool3 1 #[] #[] 1537 3 #[] #[])
  fields := #[]
  methods := #[]
  instanceTypes := #[]
  staticTypes := #[]
  resolved := Array.replicate 12 none
  statics := none }

def pool4 : Array CpInfo := pool [(1, .class_ 2), (0, u "java/io/Serializable"), (0, .class_ 4), (0, u "java/lang/Object")] 2

/-- java/io/Serializable -/
def k4 : Class := { plain "java/io/Serializable" (some 0) with
  accessFlags := 1537
  interfaces := #[]
  cf := some (fileOf pool4 1 #[] #[] 1537 3 #[] #[])
  fields := #[]
  methods := #[]
  instanceTypes := #[]
  staticTypes := #[]
  resolved := Array.replicate 7 none
  statics := none }

def pool5 : Array CpInfo := pool [(2, .class_ 4), (1, u "java/lang/Enum"), (0, u "name"), (0, u "Ljava/lang/String;"), (2, u "ordinal"), (0, u "I"), (1, .class_ 14), (1, u "java/lang/Object"), (4, u "hash"), (86, .class_ 108), (1, u "java/lang/Enum$EnumDesc"), (2, .class_ 112), (0, u "java/lang/constant/Constable"), (0, .class_ 114), (0, u "java/lang/Comparable"), (0, .class_ 116), (0, u "java/io/Serializable")] 87

/-- java/lang/Enum -/
def k5 : Class := { plain "java/lang/Enum" (some 0) with
  accessFlags := 1057
  interfaces := #[2, 3, 4]
  cf := some (fileOf pool5 2 #[.nestMembers #[106]] #[] 1057 12 #[111, 113, 115] #[{ accessFlags := 18, nameIndex := 5, descriptorIndex := 6, attributes := #[] }, { accessFlags := 18, nameIndex := 9, descriptorIndex := 10, attributes := #[] }, { accessFlags := 2, nameIndex := 19, descriptorIndex := 10, attributes := #[] }])
  fields := #[{ name := "name", type := (.object "java/lang/String"), accessFlags := 18, slot := 0, constantValue := 0 }, { name := "ordinal", type := .int, accessFlags := 18, slot := 1, constantValue := 0 }, { name := "hash", type := .int, accessFlags := 2, slot := 2, constantValue := 0 }]
  methods := #[]
  instanceTypes := #[(.object "java/lang/String"), .int, .int]
  staticTypes := #[]
  resolved := Array.replicate 204 none
  statics := none }

def pool6 : Array CpInfo := pool [(1, .class_ 2), (0, u "com/example/centdb/centdb/usage/TokenKind"), (2, u "INPUT"), (0, u "Lcom/example/centdb/centdb/usage/TokenKind;"), (2, u "CACHE_READ"), (2, u "CACHE_WRITE"), (2, u "CACHE_WRITE_1H"), (2, u "OUTPUT"), (2, u "REASONING"), (2, u "INPUT_AUDIO"), (2, u "CACHE_READ_AUDIO"), (2, u "OUTPUT_AUDIO"), (2, u "WEB_SEARCHES"), (2, u "$VALUES"), (0, u "[Lcom/example/centdb/centdb/usage/TokenKind;"), (6, .class_ 46), (1, u "java/lang/Enum"), (8, u "field"), (0, u "Ljava/lang/String;"), (0, .fieldref 1 58), (0, .nameAndType 59 60), (0, u "unit"), (0, u "Lcom/example/centdb/centdb/usage/TokenKind$Unit;"), (0, .fieldref 1 62), (0, .nameAndType 63 6), (0, u "whole"), (6, .fieldref 71 72), (0, .class_ 73), (0, .nameAndType 74 60), (0, u "com/example/centdb/centdb/usage/TokenKind$Unit"), (0, u "PROMPT_TOKENS"), (0, .fieldref 71 76), (0, .nameAndType 77 60), (0, u "USES"), (55, u "inPrompt"), (0, u "()Z"), (1, u "inAllTokens")] 8

def k6c0 : Code := { maxStack := 2, maxLocals := 1, code := prog_27_method_7_code, exceptionTable := #[], attributes := #[] }
def k6m0 : Method := { name := "inPrompt", desc := "()Z", sig := { parameters := [], returnType := some .boolean }, accessFlags := 1, code := some k6c0 }
def k6c1 : Code := { maxStack := 2, maxLocals := 1, code := prog_27_method_8_code, exceptionTable := #[], attributes := #[] }
def k6m1 : Method := { name := "inAllTokens", desc := "()Z", sig := { parameters := [], returnType := some .boolean }, accessFlags := 1, code := some k6c1 }
/-- com/example/centdb/centdb/usage/TokenKind -/
def k6 : Class := { plain "com/example/centdb/centdb/usage/TokenKind" (some 5) with
  accessFlags := 16433
  interfaces := #[]
  cf := some (fileOf pool6 1 #[.nestMembers #[71]] #[{ accessFlags := 1, nameIndex := 133, descriptorIndex := 134, attributes := #[] }, { accessFlags := 1, nameIndex := 136, descriptorIndex := 134, attributes := #[] }] 16433 44 #[] #[{ accessFlags := 16409, nameIndex := 5, descriptorIndex := 6, attributes := #[] }, { accessFlags := 16409, nameIndex := 9, descriptorIndex := 6, attributes := #[] }, { accessFlags := 16409, nameIndex := 12, descriptorIndex := 6, attributes := #[] }, { accessFlags := 16409, nameIndex := 15, descriptorIndex := 6, attributes := #[] }, { accessFlags := 16409, nameIndex := 18, descriptorIndex := 6, attributes := #[] }, { accessFlags := 16409, nameIndex := 21, descriptorIndex := 6, attributes := #[] }, { accessFlags := 16409, nameIndex := 24, descriptorIndex := 6, attributes := #[] }, { accessFlags := 16409, nameIndex := 27, descriptorIndex := 6, attributes := #[] }, { accessFlags := 16409, nameIndex := 30, descriptorIndex := 6, attributes := #[] }, { accessFlags := 16409, nameIndex := 33, descriptorIndex := 6, attributes := #[] }, { accessFlags := 18, nameIndex := 55, descriptorIndex := 56, attributes := #[] }, { accessFlags := 18, nameIndex := 59, descriptorIndex := 60, attributes := #[] }, { accessFlags := 18, nameIndex := 63, descriptorIndex := 6, attributes := #[] }, { accessFlags := 4122, nameIndex := 36, descriptorIndex := 37, attributes := #[] }])
  fields := #[{ name := "INPUT", type := (.object "com/example/centdb/centdb/usage/TokenKind"), accessFlags := 16409, slot := 0, constantValue := 0 }, { name := "CACHE_READ", type := (.object "com/example/centdb/centdb/usage/TokenKind"), accessFlags := 16409, slot := 1, constantValue := 0 }, { name := "CACHE_WRITE", type := (.object "com/example/centdb/centdb/usage/TokenKind"), accessFlags := 16409, slot := 2, constantValue := 0 }, { name := "CACHE_WRITE_1H", type := (.object "com/example/centdb/centdb/usage/TokenKind"), accessFlags := 16409, slot := 3, constantValue := 0 }, { name := "OUTPUT", type := (.object "com/example/centdb/centdb/usage/TokenKind"), accessFlags := 16409, slot := 4, constantValue := 0 }, { name := "REASONING", type := (.object "com/example/centdb/centdb/usage/TokenKind"), accessFlags := 16409, slot := 5, constantValue := 0 }, { name := "INPUT_AUDIO", type := (.object "com/example/centdb/centdb/usage/TokenKind"), accessFlags := 16409, slot := 6, constantValue := 0 }, { name := "CACHE_READ_AUDIO", type := (.object "com/example/centdb/centdb/usage/TokenKind"), accessFlags := 16409, slot := 7, constantValue := 0 }, { name := "OUTPUT_AUDIO", type := (.object "com/example/centdb/centdb/usage/TokenKind"), accessFlags := 16409, slot := 8, constantValue := 0 }, { name := "WEB_SEARCHES", type := (.object "com/example/centdb/centdb/usage/TokenKind"), accessFlags := 16409, slot := 9, constantValue := 0 }, { name := "field", type := (.object "java/lang/String"), accessFlags := 18, slot := 3, constantValue := 0 }, { name := "unit", type := (.object "com/example/centdb/centdb/usage/TokenKind$Unit"), accessFlags := 18, slot := 4, constantValue := 0 }, { name := "whole", type := (.object "com/example/centdb/centdb/usage/TokenKind"), accessFlags := 18, slot := 5, constantValue := 0 }, { name := "$VALUES", type := (.array (.object "com/example/centdb/centdb/usage/TokenKind")), accessFlags := 4122, slot := 10, constantValue := 0 }]
  methods := #[k6m0, k6m1]
  instanceTypes := #[(.object "java/lang/String"), .int, .int, (.object "java/lang/String"), (.object "com/example/centdb/centdb/usage/TokenKind$Unit"), (.object "com/example/centdb/centdb/usage/TokenKind")]
  staticTypes := #[(.object "com/example/centdb/centdb/usage/TokenKind"), (.object "com/example/centdb/centdb/usage/TokenKind"), (.object "com/example/centdb/centdb/usage/TokenKind"), (.object "com/example/centdb/centdb/usage/TokenKind"), (.object "com/example/centdb/centdb/usage/TokenKind"), (.object "com/example/centdb/centdb/usage/TokenKind"), (.object "com/example/centdb/centdb/usage/TokenKind"), (.object "com/example/centdb/centdb/usage/TokenKind"), (.object "com/example/centdb/centdb/usage/TokenKind"), (.object "com/example/centdb/centdb/usage/TokenKind"), (.array (.object "com/example/centdb/centdb/usage/TokenKind"))]
  resolved := Array.replicate 145 none
  statics := some 0 }

def pool7 : Array CpInfo := pool [(1, .class_ 2), (0, u "com/example/centdb/centdb/usage/TokenKind$Unit"), (2, u "PROMPT_TOKENS"), (0, u "Lcom/example/centdb/centdb/usage/TokenKind$Unit;"), (2, u "OUTPUT_TOKENS"), (2, u "USES"), (2, u "$VALUES"), (0, u "[Lcom/example/centdb/centdb/usage/TokenKind$Unit;"), (6, .class_ 25), (1, u "java/lang/Enum"), (26, .class_ 53), (0, u "com/example/centdb/centdb/usage/TokenKind")] 2

/-- com/example/centdb/centdb/usage/TokenKind$Unit -/
def k7 : Class := { plain "com/example/centdb/centdb/usage/TokenKind$Unit" (some 5) with
  accessFlags := 16432
  interfaces := #[]
  cf := some (fileOf pool7 1 #[.nestHost 52] #[] 16432 23 #[] #[{ accessFlags := 16409, nameIndex := 5, descriptorIndex := 6, attributes := #[] }, { accessFlags := 16409, nameIndex := 9, descriptorIndex := 6, attributes := #[] }, { accessFlags := 16409, nameIndex := 12, descriptorIndex := 6, attributes := #[] }, { accessFlags := 4122, nameIndex := 15, descriptorIndex := 16, attributes := #[] }])
  fields := #[{ name := "PROMPT_TOKENS", type := (.object "com/example/centdb/centdb/usage/TokenKind$Unit"), accessFlags := 16409, slot := 0, constantValue := 0 }, { name := "OUTPUT_TOKENS", type := (.object "com/example/centdb/centdb/usage/TokenKind$Unit"), accessFlags := 16409, slot := 1, constantValue := 0 }, { name := "USES", type := (.object "com/example/centdb/centdb/usage/TokenKind$Unit"), accessFlags := 16409, slot := 2, constantValue := 0 }, { name := "$VALUES", type := (.array (.object "com/example/centdb/centdb/usage/TokenKind$Unit")), accessFlags := 4122, slot := 3, constantValue := 0 }]
  methods := #[]
  instanceTypes := #[(.object "java/lang/String"), .int, .int]
  staticTypes := #[(.object "com/example/centdb/centdb/usage/TokenKind$Unit"), (.object "com/example/centdb/centdb/usage/TokenKind$Unit"), (.object "com/example/centdb/centdb/usage/TokenKind$Unit"), (.array (.object "com/example/centdb/centdb/usage/TokenKind$Unit"))]
  resolved := Array.replicate 56 none
  statics := some 1 }

def pool8 : Array CpInfo := pool [(1, u "java/lang/Cloneable"), (0, .class_ 1), (0, u "java/lang/Object"), (0, .class_ 3)] 3

/-- java/lang/Cloneable -/
def k8 : Class := { plain "java/lang/Cloneable" (some 0) with
  accessFlags := 1537
  interfaces := #[]
  cf := some (fileOf pool8 2 #[] #[] 1537 4 #[] #[])
  fields := #[]
  methods := #[]
  instanceTypes := #[]
  staticTypes := #[]
  resolved := Array.replicate 8 none
  statics := none }

/-- the primitive byte -/
def k9 : Class := { plain "byte" none with kind := .primitive 'B', accessFlags := 0x411 }
/-- [B -/
def k10 : Class := { plain "[B" (some 0) with kind := .array 9 .byte, interfaces := #[8, 4], accessFlags := 1041 }

/-- the primitive int -/
def k11 : Class := { plain "int" none with kind := .primitive 'I', accessFlags := 0x411 }
/-- [I -/
def k12 : Class := { plain "[I" (some 0) with kind := .array 11 .int, interfaces := #[8, 4], accessFlags := 1041 }

def heap : Heap := #[{ cls := 6, slots := #[.ref 2, .ref 6, .ref 10, .ref 5, .ref 7, .ref 13, .ref 14, .ref 9, .ref 11, .ref 12, .null], vm := .statics 6 },
  { cls := 7, slots := #[.ref 3, .ref 8, .ref 4, .null], vm := .statics 7 },
  { cls := 6, slots := #[.null, .int 0, .int 0, .null, .ref 3, .null], vm := .none },
  { cls := 7, slots := #[.null, .int 0, .int 0], vm := .none },
  { cls := 7, slots := #[.null, .int 2, .int 0], vm := .none },
  { cls := 6, slots := #[.null, .int 0, .int 0, .null, .ref 3, .null], vm := .none },
  { cls := 6, slots := #[.null, .int 0, .int 0, .null, .ref 3, .null], vm := .none },
  { cls := 6, slots := #[.null, .int 0, .int 0, .null, .ref 8, .null], vm := .none },
  { cls := 7, slots := #[.null, .int 1, .int 0], vm := .none },
  { cls := 6, slots := #[.null, .int 0, .int 0, .null, .ref 3, .ref 6], vm := .none },
  { cls := 6, slots := #[.null, .int 0, .int 0, .null, .ref 3, .null], vm := .none },
  { cls := 6, slots := #[.null, .int 0, .int 0, .null, .ref 8, .ref 7], vm := .none },
  { cls := 6, slots := #[.null, .int 0, .int 0, .null, .ref 4, .null], vm := .none },
  { cls := 6, slots := #[.null, .int 0, .int 0, .null, .ref 8, .ref 7], vm := .none },
  { cls := 6, slots := #[.null, .int 0, .int 0, .null, .ref 3, .ref 2], vm := .none }]
def classes : Array Class := #[k0, k1, k2, k3, k4, k5, k6, k7, k8, k9, k10, k11, k12]
def interned : List (Array UInt16 × Addr) := []
def slotsUsed : Nat := 84
def theMethod : MethodId := ⟨1, 2⟩
def args0 : Array Value := #[.int 5]
def aboutOver (below : List Frame) : State where
  vm := { classes := classes, interned := interned.toArray }
  heap := heap
  slotsUsed := slotsUsed
  threads := #[{ frames := .invoking theMethod args0 :: below }]
def below0 : List Frame := [.native { method := ⟨0, 0⟩, args := #[] }]
def about1 : State := aboutOver below0
def p0 : Program := .bare "" "" ""
def e0 : Env := launch0.env 0 0 0
theorem w_frames : about1.frames = Frame.invoking theMethod args0 :: below0 := rfl
set_option maxRecDepth 65536 in
theorem w_args : argsFit about1.vm theMethod args0 = true := by decide +kernel
set_option maxRecDepth 65536 in
theorem w_heap : heapFits about1 = true := by decide +kernel
set_option maxRecDepth 65536 in
theorem w_runnable : about1.curStatus? = some .runnable := by decide +kernel
set_option maxRecDepth 65536 in
theorem w_alone : about1.alone = true := by decide +kernel
set_option maxRecDepth 65536 in
theorem w_named : about1.methodNamed? x = some theMethod := by decide +kernel
set_option maxRecDepth 65536 in
theorem w_hears : about1.hears theMethod below0 = true := by decide +kernel
set_option maxRecDepth 65536 in
theorem w_ripe : about1.ripe theMethod args0 below0 = true := by decide +kernel
theorem w_running : about1.status = .running := rfl
set_option maxRecDepth 65536 in
theorem w_room : about1.hasRoom e0.platform room_1 = true :=
  launch0.hasRoom_least _ room_1 (by decide +kernel) (by decide +kernel) (by decide +kernel) (by decide +kernel) (by decide +kernel) (by decide +kernel)
theorem allAtoms_all (ts : List Jvm.Cond) (a : Array Jvm.Value) (st : Jvm.State) : (allAtoms ts).before a st = ts.all (fun c => c.before a st) := by
  induction ts with
  | nil => rfl
  | cons c t ih =>
    show (Jvm.Cond.and c (allAtoms t)).before a st = _
    rw [Jvm.Cond.before_and, ih, List.all_cons]
def words1 : List Jvm.Cond := Jvm.Cond.code x code maxLocals ret :: tables_1
/-- a 'code' word, met by the world's own term for the bytes: nothing is compared byte by byte -/
theorem code_word {y : MethodName} {bytes : ByteArray} {mx : Nat} {rt : Option FieldType} {a : Array Value} {s : State} {m : MethodId} {meth : Method} {c : Code} (h1 : s.methodNamed? y = some m) (h2 : s.vm.method? m = some meth) (h3 : meth.code = some c) (h4 : c.code = bytes)
    (h5 : (c.maxLocals == mx && c.exceptionTable.isEmpty && decide (c.maxStack ≤ mostOperands) && decide (meth.sig.returnType = rt) && !meth.locks && decide (parseMethodDescriptor y.desc = some meth.sig)) = true) : (Jvm.Cond.code y bytes mx rt).before a s = true := by
  simp only [Bool.and_eq_true, beq_iff_eq, Bool.not_eq_true', decide_eq_true_eq] at h5
  obtain ⟨⟨⟨⟨⟨g1, g2⟩, g3⟩, g4⟩, g5⟩, g6⟩ := h5
  simp [Cond.before, Cond.holds, Cond.value, h1, h2, h3, h4, g1, g2, g3, g4, g5, g6]
def isCode : Jvm.Cond → Bool
  | .code _ _ _ _ => true
  | _ => false
theorem all_split {L : List Jvm.Cond} {P : Jvm.Cond → Bool} (h1 : L.all (fun c => isCode c || P c) = true) (h2 : ∀ c ∈ L.filter isCode, P c = true) : L.all P = true := by
  refine List.all_eq_true.mpr fun c hc => ?_
  have h := List.all_eq_true.mp h1 c hc
  rcases Bool.eq_false_or_eq_true (isCode c) with hi | hi
  · exact h2 c (List.mem_filter.mpr ⟨hc, hi⟩)
  · simpa [hi] using h
set_option maxRecDepth 65536 in
theorem w_c0 : (Jvm.Cond.code x code maxLocals ret).before args0 about1 = true := code_word (m := ⟨1, 2⟩) (meth := k1m2) (c := k1c2) (by decide +kernel) rfl rfl rfl (by decide +kernel)
set_option maxRecDepth 65536 in
theorem w_c1 : (Jvm.Cond.code ({ cls := "com/example/centdb/centdb/usage/TokenKindInPromptPinLaw", name := "pick", desc := "(I)Lcom/example/centdb/centdb/usage/TokenKind;" } : Jvm.MethodName) method_2_code (1 : Nat) (Option.some (Jvm.ClassFile.FieldType.object "com/example/centdb/centdb/usage/TokenKind"))).before args0 about1 = true := code_word (m := ⟨1, 1⟩) (meth := k1m1) (c := k1c1) (by decide +kernel) rfl rfl rfl (by decide +kernel)
set_option maxRecDepth 65536 in
theorem w_c2 : (Jvm.Cond.code ({ cls := "com/example/centdb/centdb/usage/TokenKind", name := "inPrompt", desc := "()Z" } : Jvm.MethodName) prog_27_method_7_code (1 : Nat) (Option.some Jvm.ClassFile.FieldType.boolean)).before args0 about1 = true := code_word (m := ⟨6, 0⟩) (meth := k6m0) (c := k6c0) (by decide +kernel) rfl rfl rfl (by decide +kernel)
set_option maxRecDepth 65536 in
theorem w_c3 : (Jvm.Cond.code ({ cls := "com/example/centdb/centdb/usage/TokenKind", name := "inAllTokens", desc := "()Z" } : Jvm.MethodName) prog_27_method_8_code (1 : Nat) (Option.some Jvm.ClassFile.FieldType.boolean)).before args0 about1 = true := code_word (m := ⟨6, 1⟩) (meth := k6m1) (c := k6c1) (by decide +kernel) rfl rfl rfl (by decide +kernel)
def codes1 : List Jvm.Cond := [Jvm.Cond.code x code maxLocals ret, Jvm.Cond.code ({ cls := "com/example/centdb/centdb/usage/TokenKindInPromptPinLaw", name := "pick", desc := "(I)Lcom/example/centdb/centdb/usage/TokenKind;" } : Jvm.MethodName) method_2_code (1 : Nat) (Option.some (Jvm.ClassFile.FieldType.object "com/example/centdb/centdb/usage/TokenKind")), Jvm.Cond.code ({ cls := "com/example/centdb/centdb/usage/TokenKind", name := "inPrompt", desc := "()Z" } : Jvm.MethodName) prog_27_method_7_code (1 : Nat) (Option.some Jvm.ClassFile.FieldType.boolean), Jvm.Cond.code ({ cls := "com/example/centdb/centdb/usage/TokenKind", name := "inAllTokens", desc := "()Z" } : Jvm.MethodName) prog_27_method_8_code (1 : Nat) (Option.some Jvm.ClassFile.FieldType.boolean)]
set_option maxRecDepth 65536 in
theorem codes_eq : words1.filter isCode = codes1 := rfl
theorem w_codes : ∀ c ∈ words1.filter isCode, c.before args0 about1 = true := by
  rw [codes_eq]
  intro c hc
  simp only [codes1, List.mem_cons, List.not_mem_nil, or_false] at hc
  rcases hc with rfl | rfl | rfl | rfl
  · exact w_c0
  · exact w_c1
  · exact w_c2
  · exact w_c3
set_option maxRecDepth 65536 in
theorem w_t1 : (words1.take 24).all (fun c => isCode c || c.before args0 about1) = true := by decide +kernel
set_option maxRecDepth 65536 in
theorem w_t2 : (words1.drop 24).all (fun c => isCode c || c.before args0 about1) = true := by decide +kernel
theorem w_tables : (allAtoms (Jvm.Cond.code x code maxLocals ret :: tables_1)).before args0 about1 = true := by
  rw [allAtoms_all]
  show words1.all (fun c => c.before args0 about1) = true
  refine all_split ?_ w_codes
  rw [← List.take_append_drop 24 words1, List.all_append, w_t1, w_t2]
  rfl
set_option maxRecDepth 65536 in
theorem w_case : (Jvm.Cond.and given_1 narrow_1).before args0 about1 = true := by decide +kernel
theorem w_applies : (headSpec (Jvm.Cond.code x code maxLocals ret :: tables_1) room_1).applies x e0.platform about1 = true :=
  (Spec.applies_iff w_frames).mpr ⟨w_running, w_runnable, w_alone, w_named, w_hears, w_ripe, w_room, w_tables⟩
theorem atStart : AtStart classFile x code maxLocals ret World_1 tables_1 room_1 Calls_1 rest_1 Pre_1 launch0 p0 e0 about1 theMethod args0 below0 :=
  ⟨lists_1, trivial, launch0.admits_env _ _ _, launch0.least_env, fairChoices_fair.cas, fairChoices_fair.clock, w_frames, w_args, w_heap, w_applies, trivial, trivial, w_case⟩
end start1
theorem witness_1 : WitnessClaimed_1 := ⟨start1.p0, start1.e0, start1.about1, start1.theMethod, start1.args0, start1.below0, start1.atStart⟩
end Jvm.Pilot.@@N@@
