import JvmDerived
import JvmDerived.Pilot.@@N@@Statement
import JvmDerived.Pilot.@@N@@Code
set_option linter.unusedVariables false
set_option linter.unusedSimpArgs false
namespace Jvm.RoadKit
open Sem ClassFile Op Lib Jvm.Stand Jvm.Free Jvm.LawKit
abbrev jv (x : Int64) : Slot := .val (.long x)
abbrev ux : Slot := .unset
abbrev sx_ : Slot := .second
section Own
variable {p : Program} {l : Launch} {e : Env} {R : Room} {s : State} {m : MethodId} {args : Array Value} {below : List Frame} {meth : Method} {c : Code} {T U U' : State} {locs : List Loc} {cells slots : Nat} {Z : State} {a0 : Array Value} {h : Heap} {Q : Option Value → Heap → List Loc → Prop} {C S : Nat}
/-- what is left to show at a point of a walk: from U the body comes to its end, and Q holds there -/
def Goes (p : Program) (e : Env) (s : State) (below : List Frame) (Q : Option Value → Heap → List Loc → Prop) (C S : Nat) (U : State) : Prop :=
  ∃ s₂ o, Steps p.tables e below U s₂ ∧ s₂.status = .running ∧ Ended s₂ below o ∧ ∃ v L, o = .returned v ∧ Q v s₂.heap L ∧ FrameEnd s o s₂ L C S
theorem Goes.go (st : ∀ t, Steps p.tables e below U' t → Steps p.tables e below U t) (k : Goes p e s below Q C S U') : Goes p e s below Q C S U := by
  obtain ⟨s₂, o, h1, h2⟩ := k
  exact ⟨s₂, o, st _ h1, h2⟩
theorem Goes.leave {v : Option Value} (X : Stand p l e R s m args below meth c T locs cells slots) (hlk : meth.locks = false) (hv : meth.sig.returnType = none → v = none) (hQ : Q v T.heap locs) (hc : cells ≤ C) (hs : slots ≤ S)
    (st : ∀ fs, (∀ (f : JFrame) (acts : List Action), f.method = m → f.locked = none → f.entered = [] → (doReturn e (T.setTop f) acts v).1 = T.setFrames fs) → Steps p.tables e below U (T.setFrames fs)) : Goes p e s below Q C S U := by
  obtain ⟨fs, hr, hrun, hended, hW, hsame⟩ := X.leave (v := v) hv hlk
  exact ⟨_, _, st fs hr, hrun, hended, _, _, rfl, hQ, ⟨_, rfl⟩, hW, hsame.mono hc hs⟩
theorem Goes.retB {pc : Nat} {Ls : Array Slot} {z : Int32} {rest : List Value} (X : Stand p l e R s m args below meth c T locs cells slots) (hx : p.tables.exec = Jvm.exec) (hlk : meth.locks = false) (hret : meth.sig.returnType = some .boolean) (hd : decode c.code pc = .ok (.ireturn, 1)) (hc : cells ≤ C) (hs : slots ≤ S) (hQ : Q (some (.int (nar .boolean z))) T.heap locs) : Goes p e s below Q C S (T.setTop (mkF m pc Ls (.int z :: rest))) :=
  Goes.leave X hlk (fun h => by rw [hret] at h; cases h) hQ hc hs fun fs hr => retN X hx (t := .boolean) hret (by simp) hd hr
theorem Goes.retC {pc : Nat} {Ls : Array Slot} {z : Int32} {rest : List Value} (X : Stand p l e R s m args below meth c T locs cells slots) (hx : p.tables.exec = Jvm.exec) (hlk : meth.locks = false) (hret : meth.sig.returnType = some .char) (hd : decode c.code pc = .ok (.ireturn, 1)) (hc : cells ≤ C) (hs : slots ≤ S) (hQ : Q (some (.int (nar .char z))) T.heap locs) : Goes p e s below Q C S (T.setTop (mkF m pc Ls (.int z :: rest))) :=
  Goes.leave X hlk (fun h => by rw [hret] at h; cases h) hQ hc hs fun fs hr => retN X hx (t := .char) hret (by simp) hd hr
theorem Goes.retI {pc : Nat} {Ls : Array Slot} {z : Int32} {rest : List Value} (X : Stand p l e R s m args below meth c T locs cells slots) (hx : p.tables.exec = Jvm.exec) (hlk : meth.locks = false) (hret : meth.sig.returnType = some .int) (hd : decode c.code pc = .ok (.ireturn, 1)) (hc : cells ≤ C) (hs : slots ≤ S) (hQ : Q (some (.int z)) T.heap locs) : Goes p e s below Q C S (T.setTop (mkF m pc Ls (.int z :: rest))) :=
  Goes.leave X hlk (fun h => by rw [hret] at h; cases h) hQ hc hs fun fs hr => retOut X hx hret rfl (Or.inl ⟨rfl, Or.inl rfl, _, rfl⟩) hd hr
theorem Goes.retJ {pc : Nat} {Ls : Array Slot} {z : Int64} {rest : List Value} (X : Stand p l e R s m args below meth c T locs cells slots) (hx : p.tables.exec = Jvm.exec) (hlk : meth.locks = false) (hret : meth.sig.returnType = some .long) (hd : decode c.code pc = .ok (.lreturn, 1)) (hc : cells ≤ C) (hs : slots ≤ S) (hQ : Q (some (.long z)) T.heap locs) : Goes p e s below Q C S (T.setTop (mkF m pc Ls (.long z :: rest))) :=
  Goes.leave X hlk (fun h => by rw [hret] at h; cases h) hQ hc hs fun fs hr => retOut X hx hret rfl (Or.inr (Or.inl ⟨rfl, rfl, _, rfl⟩)) hd hr
theorem narrow_ref {t : FieldType} {v : Value} (hv : v.isRef = true) (ht : t.isReference = true) : narrow t v = v := by
  rcases ref_cases hv with rfl | ⟨a, rfl⟩ <;> cases t <;> first | rfl | cases ht
theorem Goes.retA {pc : Nat} {Ls : Array Slot} {v : Value} {t : FieldType} {rest : List Value} (X : Stand p l e R s m args below meth c T locs cells slots) (hx : p.tables.exec = Jvm.exec) (hlk : meth.locks = false) (hret : meth.sig.returnType = some t) (ht : t.isReference = true) (hv : v.isRef = true) (hd : decode c.code pc = .ok (.areturn, 1)) (hc : cells ≤ C) (hs : slots ≤ S) (hQ : Q (some v) T.heap locs) : Goes p e s below Q C S (T.setTop (mkF m pc Ls (v :: rest))) :=
  Goes.leave X hlk (fun h => by rw [hret] at h; cases h) hQ hc hs fun fs hr => retOut X hx hret (narrow_ref hv ht) (Or.inr (Or.inr (Or.inr (Or.inr ⟨rfl, ht, hv⟩)))) hd hr
theorem Goes.retV {pc : Nat} {Ls : Array Slot} (X : Stand p l e R s m args below meth c T locs cells slots) (hx : p.tables.exec = Jvm.exec) (hlk : meth.locks = false) (hret : meth.sig.returnType = none) (hd : decode c.code pc = .ok (.return_, 1)) (hc : cells ≤ C) (hs : slots ≤ S) (hQ : Q none T.heap locs) : Goes p e s below Q C S (T.setTop (mkF m pc Ls [])) :=
  Goes.leave X hlk (fun _ => rfl) hQ hc hs fun fs hr => X.returnOut hx hret hd hr
/-- a body's contract: with these arguments over this heap it returns, and Q holds -/
def Pays (l : Launch) (Z : State) (y : MethodName) (bytes : ByteArray) (maxL : Nat) (ret : Option FieldType) (ws : List Jvm.Cond) (rm : Room) (as' : Array Value) (h : Heap) (Q : Option Value → Heap → List Loc → Prop) : Prop :=
  MetFree l y (head1 (Jvm.Cond.code y bytes maxL ret :: ws) rm) (fun a U => a = as' ∧ Z.Warmed39 U.vm ∧ U.heap = h) (fun _ _ _ _ _ => True) (fun _ U o U' => ∃ v L, o = .returned v ∧ Q v U'.heap L ∧ FrameEnd U o U' L rm.cells rm.slots)
theorem Pays.of {y : MethodName} {bytes : ByteArray} {maxL : Nat} {ret : Option FieldType} {ws : List Jvm.Cond} {rm : Room} {as' : Array Value} (hpl : plainFor y = true)
    (body : ∀ (p : Program) (e : Env) (s : State) (m : MethodId) (below : List Frame) (meth : Method) (c : Code) (s₁ : State), p.tables.exec = Jvm.exec → c.code = bytes → c.maxLocals = maxL → s.vm.findClass y.cls = some m.cls → meth.name = y.name → meth.sig.returnType = ret → meth.locks = false → Z.Warmed39 s.vm → s₁.heap = h → Stand p l e rm s m as' below meth c s₁ [] 0 0 → Goes p e s below Q rm.cells rm.slots (s₁.setTop (entryFrame m as' maxL))) :
    Pays l Z y bytes maxL ret ws rm as' h Q := by
  refine MetFree.of_bodySF hpl hisR ?_
  intro p e s m args below meth c s₁ Bd hml hP hK
  obtain ⟨rfl, hZ, hh⟩ := hP
  obtain ⟨s₂, o, h1, h2, h3, h4⟩ := body p e s m below meth c s₁ Bd.exec Bd.bytes hml (findClass_of_methodNamed Bd.named) (name_of_methodNamed Bd.named Bd.method).1 Bd.returns Bd.notSynchronized hZ (by rw [← hh, Bd.state]; rfl) (Stand.of_body Bd)
  exact ⟨s₂, o, h1, h2, h3, h4⟩
theorem callStatic (X : Stand p l e R s m args below meth c T locs cells slots) (hx : p.tables.exec = Jvm.exec) (hZ : Z.Warmed39 s.vm) {own : String} {index : Nat} {y : MethodName} {bytes : ByteArray} {maxL W : Nat} {ret : Option FieldType} {rm : Room} {as' : Array Value}
    (hown : s.vm.findClass own = some m.cls) (w1 : (Jvm.Cond.methodLink own index y).before a0 Z = true) (w2 : (Jvm.Cond.static y).before a0 Z = true) (w3 : (Jvm.Cond.initialized y.cls).before a0 Z = true) (w4 : (Jvm.Cond.code y bytes maxL ret).before a0 Z = true) (hy : y.cls ≠ "java/lang/invoke/MethodHandle" ∧ y.cls ≠ "java/lang/invoke/VarHandle")
    (M : Pays l Z y bytes maxL ret [] rm as' h Q) (hf : rm.frames + 1 ≤ R.frames) (hl : W + (maxL + 11) + rm.locals ≤ R.locals) (hc : cells + rm.cells ≤ R.cells) (hs : slots + rm.slots ≤ R.slots) (eT : T.heap = h)
    {g : JFrame} (hg : g.method = m) (hsize : g.locals.size = c.maxLocals) {argsL rest : List Value} (hlen : ∀ sig, parseMethodDescriptor y.desc = some sig → argsL.length = sig.parameters.length) (hstack : g.stack = argsL.reverse ++ rest) (has : argsL.toArray = as') (hW : 2 * g.monitorRoom + (rest.map fun v => v.category).sum ≤ W) (hdg : decode c.code g.pc = .ok (.invokestatic index, 3)) :
    ∃ (v : Option Value) (T' : State) (L : List Loc), Stand p l e R s m args below meth c T' (locs ++ L) (cells + rm.cells) (slots + rm.slots) ∧ Q v T'.heap L ∧ ∀ t, Steps p.tables e below (T'.setTop { g with pc := g.pc + 3, stack := v.toList ++ rest }) t → Steps p.tables e below (T.setTop g) t := by
  obtain ⟨v, vm1, ⟨T', L', k', n'⟩, -, X', ⟨Lc, hQ, l1, y1, z1⟩, st⟩ := Jvm.LawKit.callS X hx (y := y) hown (mvT hZ w1) (mvT hZ w2) (mvT hZ w3) (mvT hZ w4) hy (backOf (W := W) M hZ w4 w3 hf hl) hg hsize (argsL := argsL) (rest := rest) hlen hstack hW hdg (fun _ _ => ⟨has, eT, hc, hs⟩)
  dsimp only [Pt.U, Pt.locs, Pt.cells, Pt.slots] at X' l1 y1 z1 st hQ
  subst l1 y1 z1
  exact ⟨v, T', Lc, X', hQ, st⟩
theorem callVirtual (X : Stand p l e R s m args below meth c T locs cells slots) (hx : p.tables.exec = Jvm.exec) (hZ : Z.Warmed39 s.vm) {own K : String} {index : Nat} {y z : MethodName} {bytes : ByteArray} {maxL W : Nat} {ret : Option FieldType} {rm : Room} {as' : Array Value}
    (hown : s.vm.findClass own = some m.cls) (w1 : (Jvm.Cond.methodLink own index y).before a0 Z = true) (w2 : (Jvm.Cond.declares y).before a0 Z = true) (nf : NotFace s y) (w3 : (Jvm.Cond.selects K y z).before a0 Z = true) (w5 : (Jvm.Cond.instanceMethod z).before a0 Z = true) (w6 : (Jvm.Cond.initialized z.cls).before a0 Z = true) (w4 : (Jvm.Cond.code z bytes maxL ret).before a0 Z = true) (hy : y.cls ≠ "java/lang/invoke/MethodHandle" ∧ y.cls ≠ "java/lang/invoke/VarHandle")
    (M : Pays l Z z bytes maxL ret [] rm as' h Q) (hf : rm.frames + 1 ≤ R.frames) (hl : W + (maxL + 11) + rm.locals ≤ R.locals) (hc : cells + rm.cells ≤ R.cells) (hs : slots + rm.slots ≤ R.slots) (eT : T.heap = h) {b : Addr} (E : Exa Z h b K)
    {g : JFrame} (hg : g.method = m) (hsize : g.locals.size = c.maxLocals) {argsL rest : List Value} (hlen : ∀ sig, parseMethodDescriptor y.desc = some sig → argsL.length = sig.parameters.length) (hstack : g.stack = argsL.reverse ++ .ref b :: rest) (has : (.ref b :: argsL).toArray = as') (hW : 2 * g.monitorRoom + (rest.map fun v => v.category).sum ≤ W) (hdg : decode c.code g.pc = .ok (.invokevirtual index, 3)) :
    ∃ (v : Option Value) (T' : State) (L : List Loc), Stand p l e R s m args below meth c T' (locs ++ L) (cells + rm.cells) (slots + rm.slots) ∧ Q v T'.heap L ∧ ∀ t, Steps p.tables e below (T'.setTop { g with pc := g.pc + 3, stack := v.toList ++ rest }) t → Steps p.tables e below (T.setTop g) t := by
  obtain ⟨cq, kq, qa, -, qc⟩ := isOf (T := T) hZ eT E
  obtain ⟨v, vm1, ⟨T', L', k', n'⟩, -, X', ⟨Lc, hQ, l1, y1, z1⟩, st⟩ := X.virtualBack hx (y := y) (z := z) hown (mvT hZ w1) (mvT hZ w2) nf (mvT hZ w3) (mvT hZ w5) hy (backOf (W := W) M hZ w4 w6 hf hl) qa qc hg hsize (Steps.refl _) (argsL := argsL) (rest := rest) hlen hstack hW hdg (fun _ _ => ⟨has, eT, hc, hs⟩)
  dsimp only [Pt.U, Pt.locs, Pt.cells, Pt.slots] at X' l1 y1 z1 st hQ
  subst l1 y1 z1
  exact ⟨v, T', Lc, X', hQ, fun t k => st.trans k⟩
theorem callInit (X : Stand p l e R s m args below meth c T locs cells slots) (hx : p.tables.exec = Jvm.exec) (hZ : Z.Warmed39 s.vm) {own : String} {index : Nat} {y : MethodName} {bytes : ByteArray} {maxL W : Nat} {rm : Room} {as' : Array Value}
    (hy1 : y.name = "<init>") (hown : s.vm.findClass own = some m.cls) (w1 : (Jvm.Cond.methodLink own index y).before a0 Z = true) (w5 : (Jvm.Cond.instanceMethod y).before a0 Z = true) (w6 : (Jvm.Cond.initialized y.cls).before a0 Z = true) (w4 : (Jvm.Cond.code y bytes maxL none).before a0 Z = true) (hy : y.cls ≠ "java/lang/invoke/MethodHandle" ∧ y.cls ≠ "java/lang/invoke/VarHandle")
    (M : Pays l Z y bytes maxL none [] rm as' h Q) (hf : rm.frames + 1 ≤ R.frames) (hl : W + (maxL + 11) + rm.locals ≤ R.locals) (hc : cells + rm.cells ≤ R.cells) (hs : slots + rm.slots ≤ R.slots) (eT : T.heap = h) {b : Addr}
    {g : JFrame} (hg : g.method = m) (hsize : g.locals.size = c.maxLocals) {argsL rest : List Value} (hlen : ∀ sig, parseMethodDescriptor y.desc = some sig → argsL.length = sig.parameters.length) (hstack : g.stack = argsL.reverse ++ .ref b :: rest) (has : (.ref b :: argsL).toArray = as') (hW : 2 * g.monitorRoom + (rest.map fun v => v.category).sum ≤ W) (hdg : decode c.code g.pc = .ok (.invokespecial index, 3)) :
    ∃ (v : Option Value) (T' : State) (L : List Loc), Stand p l e R s m args below meth c T' (locs ++ L) (cells + rm.cells) (slots + rm.slots) ∧ Q v T'.heap L ∧ ∀ t, Steps p.tables e below (T'.setTop { g with pc := g.pc + 3, stack := v.toList ++ rest }) t → Steps p.tables e below (T.setTop g) t := by
  obtain ⟨v, vm1, ⟨T', L', k', n'⟩, -, X', ⟨Lc, hQ, l1, y1, z1⟩, st⟩ := X.specialBack hx (y := y) hy1 hown (mvT hZ w1) (mvT hZ w5) (mvT hZ w4) hy (backOf (W := W) M hZ w4 w6 hf hl) hg hsize (Steps.refl _) (a := b) (argsL := argsL) (rest := rest) hlen hstack hW hdg (fun _ _ => ⟨has, eT, hc, hs⟩)
  dsimp only [Pt.U, Pt.locs, Pt.cells, Pt.slots] at X' l1 y1 z1 st hQ
  subst l1 y1 z1
  exact ⟨v, T', Lc, X', hQ, fun t k => st.trans k⟩
theorem callPrivate (X : Stand p l e R s m args below meth c T locs cells slots) (hx : p.tables.exec = Jvm.exec) (hZ : Z.Warmed39 s.vm) {own K : String} {index kk : Nat} {y : MethodName} {bytes : ByteArray} {maxL W : Nat} {ret : Option FieldType} {rm : Room} {as' : Array Value}
    (hown : s.vm.findClass own = some m.cls) (w1 : (Jvm.Cond.methodLink own index y).before a0 Z = true) (w5 : (Jvm.Cond.instanceMethod y).before a0 Z = true) (wp : (Jvm.Cond.privateMethod y).before a0 Z = true) (wi : (Jvm.Cond.instantiable y.cls kk).before a0 Z = true) (w6 : (Jvm.Cond.initialized y.cls).before a0 Z = true) (w4 : (Jvm.Cond.code y bytes maxL ret).before a0 Z = true) (hy : y.cls ≠ "java/lang/invoke/MethodHandle" ∧ y.cls ≠ "java/lang/invoke/VarHandle")
    (M : Pays l Z y bytes maxL ret [] rm as' h Q) (hf : rm.frames + 1 ≤ R.frames) (hl : W + (maxL + 11) + rm.locals ≤ R.locals) (hc : cells + rm.cells ≤ R.cells) (hs : slots + rm.slots ≤ R.slots) (eT : T.heap = h) {b : Addr} (E : Exa Z h b K)
    {g : JFrame} (hg : g.method = m) (hsize : g.locals.size = c.maxLocals) {argsL rest : List Value} (hlen : ∀ sig, parseMethodDescriptor y.desc = some sig → argsL.length = sig.parameters.length) (hstack : g.stack = argsL.reverse ++ .ref b :: rest) (has : (.ref b :: argsL).toArray = as') (hW : 2 * g.monitorRoom + (rest.map fun v => v.category).sum ≤ W) (hdg : decode c.code g.pc = .ok (.invokevirtual index, 3)) :
    ∃ (v : Option Value) (T' : State) (L : List Loc), Stand p l e R s m args below meth c T' (locs ++ L) (cells + rm.cells) (slots + rm.slots) ∧ Q v T'.heap L ∧ ∀ t, Steps p.tables e below (T'.setTop { g with pc := g.pc + 3, stack := v.toList ++ rest }) t → Steps p.tables e below (T.setTop g) t := by
  obtain ⟨cc, kc, i1, i2, -, i4, -⟩ := Cond.instantiable_spec (mvT (args := args) hZ wi)
  have i5 : kc.isInterface = false := by cases hq : kc.isInterface <;> simp_all
  have hpr := Cond.privateMethod_at (mvP (args := #[]) hZ wp)
  obtain ⟨cell, c1, c2⟩ := E.cell
  obtain ⟨v, vm1, ⟨T', L', k', n'⟩, -, X', ⟨Lc, hQ, l1, y1, z1⟩, st⟩ := X.privateBack hx (y := y) hown (mvT hZ w1) (mvT hZ w5) (selects_self_of_private i1 i2 i5 hpr (mvT hZ w5) hy) hpr (mvT hZ w4) hy (backOf (W := W) M hZ w4 w6 hf hl) hg hsize (Steps.refl _) (a := b) (cell := cell) (by rw [eT]; exact c1) c2 (argsL := argsL) (rest := rest) hlen hstack hW hdg (fun _ _ => ⟨has, eT, hc, hs⟩)
  dsimp only [Pt.U, Pt.locs, Pt.cells, Pt.slots] at X' l1 y1 z1 st hQ
  subst l1 y1 z1
  exact ⟨v, T', Lc, X', hQ, fun t k => st.trans k⟩
theorem callFace (X : Stand p l e R s m args below meth c T locs cells slots) (hx : p.tables.exec = Jvm.exec) (hZ : Z.Warmed39 s.vm) {own K : String} {index count : Nat} {y z : MethodName} {bytes : ByteArray} {maxL W : Nat} {ret : Option FieldType} {rm : Room} {as' : Array Value}
    (hown : s.vm.findClass own = some m.cls) (w1 : (Jvm.Cond.methodLink own index y).before a0 Z = true) (w2 : (Jvm.Cond.declares y).before a0 Z = true) (wf : (Jvm.Cond.interfaceMethod y.cls y.cls y.name y.desc).before args s = true) (w3 : (Jvm.Cond.selects K y z).before a0 Z = true) (w5 : (Jvm.Cond.instanceMethod z).before a0 Z = true) (wp : (Jvm.Cond.publicMethod z).before a0 Z = true) (wu : (Jvm.Cond.unhidden K y.name y.desc).before a0 Z = true) (wc : (Jvm.Cond.castable K y.cls).before a0 Z = true) (w6 : (Jvm.Cond.initialized z.cls).before a0 Z = true) (w4 : (Jvm.Cond.code z bytes maxL ret).before a0 Z = true) (hy : y.cls ≠ "java/lang/invoke/MethodHandle" ∧ y.cls ≠ "java/lang/invoke/VarHandle")
    (M : Pays l Z z bytes maxL ret [] rm as' h Q) (hf : rm.frames + 1 ≤ R.frames) (hl : W + (maxL + 11) + rm.locals ≤ R.locals) (hc : cells + rm.cells ≤ R.cells) (hs : slots + rm.slots ≤ R.slots) (eT : T.heap = h) {b : Addr} (E : Exa Z h b K)
    {g : JFrame} (hg : g.method = m) (hsize : g.locals.size = c.maxLocals) {argsL rest : List Value} (hlen : ∀ sig, parseMethodDescriptor y.desc = some sig → argsL.length = sig.parameters.length) (hstack : g.stack = argsL.reverse ++ .ref b :: rest) (has : (.ref b :: argsL).toArray = as') (hW : 2 * g.monitorRoom + (rest.map fun v => v.category).sum ≤ W) (hdg : decode c.code g.pc = .ok (.invokeinterface index count, 5)) :
    ∃ (v : Option Value) (T' : State) (L : List Loc), Stand p l e R s m args below meth c T' (locs ++ L) (cells + rm.cells) (slots + rm.slots) ∧ Q v T'.heap L ∧ ∀ t, Steps p.tables e below (T'.setTop { g with pc := g.pc + 5, stack := v.toList ++ rest }) t → Steps p.tables e below (T.setTop g) t := by
  obtain ⟨cq, kq, qa, qb, qc⟩ := isOf (T := T) hZ eT E
  obtain ⟨v, vm1, ⟨T', L', k', n'⟩, -, X', ⟨Lc, hQ, l1, y1, z1⟩, st⟩ := X.interfaceBack hx (xi := y) (y := z) hown (mvT hZ w1) (mvT hZ w2) wf (mvT hZ w3) (mvT hZ w5) (mvT hZ wp) (mvT hZ wu) (mvT hZ wc) hy (backOf (W := W) M hZ w4 w6 hf hl) qa qb qc hg hsize (Steps.refl _) (argsL := argsL) (rest := rest) hlen hstack hW hdg (fun _ _ => ⟨has, eT, hc, hs⟩)
  dsimp only [Pt.U, Pt.locs, Pt.cells, Pt.slots] at X' l1 y1 z1 st hQ
  subst l1 y1 z1
  exact ⟨v, T', Lc, X', hQ, fun t k => st.trans k⟩
theorem castV (X : Stand p l e R s m args below meth c T locs cells slots) (hx : p.tables.exec = Jvm.exec) (hZ : Z.Warmed39 s.vm) {own K : String} {index : Nat} (hown : s.vm.findClass own = some m.cls) (w : (Jvm.Cond.classLink own index K).before a0 Z = true) (eT : T.heap = h) {v : Value} (F : v = .null ∨ ∃ a, v = .ref a ∧ Ins Z h a K true)
    {g : JFrame} (hg : g.method = m) {rest : List Value} (hs : g.stack = v :: rest) (hd : decode c.code g.pc = .ok (.checkcast index, 3)) : ∃ T', Stand p l e R s m args below meth c T' locs cells slots ∧ T'.heap = h ∧ ∀ target, Steps p.tables e below (T'.setTop { g with pc := g.pc + 3 }) target → Steps p.tables e below (T.setTop g) target := by
  rcases F with rfl | ⟨a, rfl, I⟩
  · exact ⟨T, X, eT, fun t k => X.checkcastNull hx (g := g) hg hs hd t k⟩
  · exact castY X hx hZ hown w eT I hg hs hd
theorem moreRoom {cells' slots' : Nat} (X : Stand p l e R s m args below meth c T locs cells slots) (h1 : cells ≤ cells') (h2 : slots ≤ slots') : Stand p l e R s m args below meth c T locs cells' slots' :=
  { X with same := X.same.mono h1 h2 }
theorem wdOf {ts : List Jvm.Cond} (hw : ∀ d ∈ ts, d.before a0 Z = true) {d : Jvm.Cond} (k : Nat) (hk : ts[k]? = some d) : d.before a0 Z = true := hw _ (List.mem_of_getElem? hk)
end Own
end Jvm.RoadKit
namespace Jvm.RoadKit
open Sem ClassFile Op Lib Jvm.Stand Jvm.Free Jvm.LawKit
section OwnWords
variable {args : Array Value} {first s : State} {o : Option Outcome} {idx : List Nat} {t : Term}
theorem eqInt_v {k : Int32} (h : (Jvm.Cond.eq t (.int k)).value args first o s idx = some true) : t.eval args first o idx s = some (.int k) := by
  simp only [Jvm.Cond.value, Term.eval] at h
  cases ht : t.eval args first o idx s with
  | none => simp [ht] at h
  | some x => cases x <;> simp [ht] at h ⊢; exact h
theorem fits_of_ref {ty : FieldType} {v : Value} (hv : v.isRef = true) (ht : ty.isReference = true) : fits ty v = true := by
  rcases ref_cases hv with rfl | ⟨a, rfl⟩ <;> cases ty <;> first | rfl | cases ht
theorem Sta.keepN {Z : State} {h h' : Heap} {C n d : String} {v : Value} {ws : List Addr} (F : Sta Z h C n d v) (K : Keep h h' ws) (hn : ∀ a ∈ ws, ∃ c : Cell, h[a]? = some c ∧ ∀ q, c.vm ≠ .statics q) : Sta Z h' C n d v := by
  obtain ⟨cf, i, k, f, st, cell, h1, h2, h3, h4, h5, h6, h7⟩ := F
  refine ⟨cf, i, k, f, st, cell, h1, h2, h3, h4, K.2.1 _ _ h5 fun hm => ?_, h6, h7⟩
  obtain ⟨c, g1, g2⟩ := hn st hm
  cases h5.symm.trans g1
  cases hq : cell.vm <;> first | (rw [hq] at h6; exact Bool.noConfusion h6) | exact g2 _ hq
theorem NSr {Z : State} {a0 : Array Value} {O K : String} {n : Nat} (w : (Jvm.Cond.noSuperclass O).before a0 Z = true) (wi : (Jvm.Cond.instantiable K n).before a0 Z = true) (hn : O ≠ K) : NS Z O K := by
  obtain ⟨c, k, h1, h2, h3, -, -⟩ := Cond.noSuperclass_spec w
  obtain ⟨t, kt, g1, -⟩ := Cond.instantiable_spec wi
  refine ⟨c, t, h1, g1, fun fuel => ?_⟩
  cases fuel with
  | zero => rfl
  | succ f => simp [Vm.isSubclassAux, ids_ne h1 g1 hn, h2, h3]
theorem NSno {Z : State} {a0 : Array Value} {C S K : String} {n : Nat} (w : (Jvm.Cond.superclass C S).before a0 Z = true) (wi : (Jvm.Cond.instantiable K n).before a0 Z = true) (q : NS Z C K) (hn : C ≠ K) : ∃ c t, Z.vm.findClass C = some c ∧ Z.vm.findClass K = some t ∧ Z.vm.assignable c t = false := by
  obtain ⟨c, t, h0, g0, n3⟩ := q
  obtain ⟨_, k, _, -, h2, -, -, h5, -, -⟩ := Cond.superclass_spec h0 w
  obtain ⟨t', k', g1, g2, g5, g7, -⟩ := Cond.instantiable_spec wi
  cases g0.symm.trans g1
  have g8 : k'.isInterface = false := by cases hq : k'.isInterface <;> simp_all
  refine ⟨c, t, h0, g0, ?_⟩
  show Z.vm.assignableAux (255 + 1) c t = false
  simp [Vm.assignableAux, ids_ne h0 g0 hn, h2, g2, h5, g5, g8, Vm.isSubclass, n3]
theorem Ext.of_keep {h h' : Heap} (K : Keep h h' []) : Ext h h' := ⟨K.1, fun a c q => K.2.1 a c q nin0⟩
theorem Keep.of_ext {h h' : Heap} (E : Ext h h') (ws : List Addr) : Keep h h' ws := (Keep.refl h ws).ext E
theorem ofInt {x : Int32} (n : Int32) (h : x.toInt = n.toInt) : x = n := Int32.toInt_inj.mp h
end OwnWords
end Jvm.RoadKit
namespace Jvm.Pilot.@@N@@
open Jvm Jvm.ClassFile Sem Op Lib Jvm.Free Jvm.Stand Jvm.LawKit Jvm.RoadKit Bundle Jvm.Pilot.@@N@@.Jvm.D
theorem pd_0 : parseMethodDescriptor "()Z" = some ⟨[], some .boolean⟩ := by decide +kernel
theorem own_mod (p : Int32) : (p &&& 2147483647) % 6 = 0 ∨ (p &&& 2147483647) % 6 = 1 ∨ (p &&& 2147483647) % 6 = 2 ∨ (p &&& 2147483647) % 6 = 3 ∨ (p &&& 2147483647) % 6 = 4 ∨ (p &&& 2147483647) % 6 = 5 := by
  have h1 := c_mask p 2147483647 31 (by decide) (by decide)
  obtain ⟨h2, -⟩ := c_irem (p &&& 2147483647) 6 6 (by decide)
  have h3 := h2 (by omega)
  have : ((p &&& 2147483647) % 6).toInt = 0 ∨ ((p &&& 2147483647) % 6).toInt = 1 ∨ ((p &&& 2147483647) % 6).toInt = 2 ∨ ((p &&& 2147483647) % 6).toInt = 3 ∨ ((p &&& 2147483647) % 6).toInt = 4 ∨ ((p &&& 2147483647) % 6).toInt = 5 := by omega
  rcases this with h | h | h | h | h | h
  · exact Or.inl (ofInt 0 h)
  · exact Or.inr (Or.inl (ofInt 1 h))
  · exact Or.inr (Or.inr (Or.inl (ofInt 2 h)))
  · exact Or.inr (Or.inr (Or.inr (Or.inl (ofInt 3 h))))
  · exact Or.inr (Or.inr (Or.inr (Or.inr (Or.inl (ofInt 4 h)))))
  · exact Or.inr (Or.inr (Or.inr (Or.inr (Or.inr ((ofInt 5 h))))))
theorem d_rm_fin_0 : decode prog_1_method_4_code 0 = .ok (.aload_n 0, 1) := by decide +kernel
theorem d_rm_fin_1 : decode prog_1_method_4_code 1 = .ok (.getstatic 13, 3) := by decide +kernel
theorem d_rm_fin_4 : decode prog_1_method_4_code 4 = .ok (.if_acmp .eq 17, 3) := by decide +kernel
theorem d_rm_fin_7 : decode prog_1_method_4_code 7 = .ok (.aload_n 0, 1) := by decide +kernel
theorem d_rm_fin_8 : decode prog_1_method_4_code 8 = .ok (.getstatic 16, 3) := by decide +kernel
theorem d_rm_fin_11 : decode prog_1_method_4_code 11 = .ok (.if_acmp .eq 10, 3) := by decide +kernel
theorem d_rm_fin_14 : decode prog_1_method_4_code 14 = .ok (.aload_n 0, 1) := by decide +kernel
theorem d_rm_fin_15 : decode prog_1_method_4_code 15 = .ok (.getstatic 19, 3) := by decide +kernel
theorem d_rm_fin_18 : decode prog_1_method_4_code 18 = .ok (.if_acmp .ne 7, 3) := by decide +kernel
theorem d_rm_fin_21 : decode prog_1_method_4_code 21 = .ok (.iconst 1, 1) := by decide +kernel
theorem d_rm_fin_22 : decode prog_1_method_4_code 22 = .ok (.goto 4, 3) := by decide +kernel
theorem d_rm_fin_25 : decode prog_1_method_4_code 25 = .ok (.iconst 0, 1) := by decide +kernel
theorem d_rm_fin_26 : decode prog_1_method_4_code 26 = .ok (.ireturn, 1) := by decide +kernel
theorem ef_rm_fin (m : MethodId) (x0 : Addr)  : entryFrame m #[(.ref x0)] 1 = mkF m 0 #[.val (.ref x0)] [] := by first | rfl | (simp [entryFrame, mkF, argsToLocals, Value.category]; done)
set_option maxRecDepth 65536 in
set_option maxHeartbeats 40000000 in
theorem rm_fin (l : Launch) (Z : State) (a0 : Array Value) (hw : ∀ d ∈ tables_1, d.before a0 Z = true) (ws : List Jvm.Cond) (a r_SUCCESS r_DEAD r_KILLED : Addr) (z : Int32) (h0 : Heap) (n0 : Nat) (Z0 : n0 ≤ h0.size) (S_SUCCESS : Sta Z h0 "com/example/kilnroute/kilnroute/batch/BatchState" "SUCCESS" "Lcom/example/kilnroute/kilnroute/batch/BatchState;" (.ref r_SUCCESS)) (S_DEAD : Sta Z h0 "com/example/kilnroute/kilnroute/batch/BatchState" "DEAD" "Lcom/example/kilnroute/kilnroute/batch/BatchState;" (.ref r_DEAD)) (S_KILLED : Sta Z h0 "com/example/kilnroute/kilnroute/batch/BatchState" "KILLED" "Lcom/example/kilnroute/kilnroute/batch/BatchState;" (.ref r_KILLED)) (hz : z = if a = r_SUCCESS ∨ a = r_DEAD ∨ a = r_KILLED then 1 else 0) :
    Pays l Z (⟨"com/example/kilnroute/kilnroute/batch/BatchState", "isFinal", "()Z"⟩ : MethodName) prog_1_method_4_code 1 (some .boolean) ws ({ frames := 0, cells := 0, slots := 0, locals := 0 } : Room) #[(.ref a)] h0 (fun v h L => v = some (.int z) ∧ Fr n0 L ∧ h = h0) := by
  refine Pays.of (plainFor_of_name (by first | (simp [plainName, overriddenIn]; done) | decide +kernel)) ?_
  intro p e s m below meth c s₁ hx hby hml hown hnm hret hlk hZ e0 X0
  have N0 := Fr.nil n0
  have K0 : Keep h0 h0 [] := Keep.refl _ _
  refine Goes.go (U' := (s₁.setTop (mkF m 0 #[.val (.ref a)] []))) (fun t kt => castTop (ef_rm_fin m a) kt) ?_
  refine Goes.go (U' := (s₁.setTop (mkF m 1 #[.val (.ref a)] [(.ref a)]))) (fun t kt => ?_) ?_
  · show Steps p.tables e below (s₁.setTop (mkF m 0 #[.val (.ref a)] [])) t
    refine XS.aloadN X0.here hx rfl (hb hby d_rm_fin_0) rfl rfl ?_
    exact kt
  obtain ⟨T1, X1, e1, st1⟩ := getS X0 hx hZ hown (host := "") (wdOf hw 9 rfl) Via.refl e0 S_SUCCESS (g := (mkF m 1 #[.val (.ref a)] [(.ref a)])) rfl (hb hby d_rm_fin_1)
  refine Goes.go (U' := (T1.setTop (mkF m 4 #[.val (.ref a)] [(.ref r_SUCCESS), (.ref a)]))) st1 ?_
  by_cases c2 : a = r_SUCCESS
  · -- a = r_SUCCESS
    refine Goes.go (U' := (T1.setTop (mkF m 26 #[.val (.ref a)] [(.int (1 : Int32))]))) (fun t kt => ?_) ?_
    · show Steps p.tables e below (T1.setTop (mkF m 4 #[.val (.ref a)] [(.ref r_SUCCESS), (.ref a)])) t
      refine XT.acmpYes X1.here hx rfl (pc0 := 4) (pc' := 21) rfl (hb hby d_rm_fin_4) rfl rfl rfl (XT.aa_eq_t (congrArg Value.ref c2)) (by decide) (by decide) ?_
      show Steps p.tables e below (T1.setTop (mkF m 21 #[.val (.ref a)] [])) t
      refine XS.iconst X1.here hx rfl (hb hby d_rm_fin_21) ?_
      show Steps p.tables e below (T1.setTop (mkF m 22 #[.val (.ref a)] [(.int (1 : Int32))])) t
      refine XS.goto X1.here hx rfl (pc0 := 22) (pc' := 26) rfl (hb hby d_rm_fin_22) (by decide) (by decide) ?_
      exact kt
    refine Goes.retB X1 hx hlk hret (hb hby d_rm_fin_26) (by decide) (by decide) ?_
    try rw [e1]
    exact ⟨by subst hz; first | (rw [if_pos (by simp [c2])]; rfl) | (rw [if_neg (by simp [c2])]; rfl), N0, rfl⟩
  · -- not a = r_SUCCESS
    refine Goes.go (U' := (T1.setTop (mkF m 8 #[.val (.ref a)] [(.ref a)]))) (fun t kt => ?_) ?_
    · show Steps p.tables e below (T1.setTop (mkF m 4 #[.val (.ref a)] [(.ref r_SUCCESS), (.ref a)])) t
      refine XT.acmpNo X1.here hx rfl (hb hby d_rm_fin_4) rfl rfl rfl (XT.aa_eq_f (fun q => c2 (Value.ref.inj q))) ?_
      show Steps p.tables e below (T1.setTop (mkF m 7 #[.val (.ref a)] [])) t
      refine XS.aloadN X1.here hx rfl (hb hby d_rm_fin_7) rfl rfl ?_
      exact kt
    obtain ⟨T3, X3, e3, st3⟩ := getS X1 hx hZ hown (host := "") (wdOf hw 11 rfl) Via.refl e1 S_DEAD (g := (mkF m 8 #[.val (.ref a)] [(.ref a)])) rfl (hb hby d_rm_fin_8)
    refine Goes.go (U' := (T3.setTop (mkF m 11 #[.val (.ref a)] [(.ref r_DEAD), (.ref a)]))) st3 ?_
    by_cases c4 : a = r_DEAD
    · -- a = r_DEAD
      refine Goes.go (U' := (T3.setTop (mkF m 26 #[.val (.ref a)] [(.int (1 : Int32))]))) (fun t kt => ?_) ?_
      · show Steps p.tables e below (T3.setTop (mkF m 11 #[.val (.ref a)] [(.ref r_DEAD), (.ref a)])) t
        refine XT.acmpYes X3.here hx rfl (pc0 := 11) (pc' := 21) rfl (hb hby d_rm_fin_11) rfl rfl rfl (XT.aa_eq_t (congrArg Value.ref c4)) (by decide) (by decide) ?_
        show Steps p.tables e below (T3.setTop (mkF m 21 #[.val (.ref a)] [])) t
        refine XS.iconst X3.here hx rfl (hb hby d_rm_fin_21) ?_
        show Steps p.tables e below (T3.setTop (mkF m 22 #[.val (.ref a)] [(.int (1 : Int32))])) t
        refine XS.goto X3.here hx rfl (pc0 := 22) (pc' := 26) rfl (hb hby d_rm_fin_22) (by decide) (by decide) ?_
        exact kt
      refine Goes.retB X3 hx hlk hret (hb hby d_rm_fin_26) (by decide) (by decide) ?_
      try rw [e3]
      exact ⟨by subst hz; first | (rw [if_pos (by simp [c2, c4])]; rfl) | (rw [if_neg (by simp [c2, c4])]; rfl), N0, rfl⟩
    · -- not a = r_DEAD
      refine Goes.go (U' := (T3.setTop (mkF m 15 #[.val (.ref a)] [(.ref a)]))) (fun t kt => ?_) ?_
      · show Steps p.tables e below (T3.setTop (mkF m 11 #[.val (.ref a)] [(.ref r_DEAD), (.ref a)])) t
        refine XT.acmpNo X3.here hx rfl (hb hby d_rm_fin_11) rfl rfl rfl (XT.aa_eq_f (fun q => c4 (Value.ref.inj q))) ?_
        show Steps p.tables e below (T3.setTop (mkF m 14 #[.val (.ref a)] [])) t
        refine XS.aloadN X3.here hx rfl (hb hby d_rm_fin_14) rfl rfl ?_
        exact kt
      obtain ⟨T5, X5, e5, st5⟩ := getS X3 hx hZ hown (host := "") (wdOf hw 13 rfl) Via.refl e3 S_KILLED (g := (mkF m 15 #[.val (.ref a)] [(.ref a)])) rfl (hb hby d_rm_fin_15)
      refine Goes.go (U' := (T5.setTop (mkF m 18 #[.val (.ref a)] [(.ref r_KILLED), (.ref a)]))) st5 ?_
      by_cases c6 : a = r_KILLED
      · -- a = r_KILLED
        refine Goes.go (U' := (T5.setTop (mkF m 26 #[.val (.ref a)] [(.int (1 : Int32))]))) (fun t kt => ?_) ?_
        · show Steps p.tables e below (T5.setTop (mkF m 18 #[.val (.ref a)] [(.ref r_KILLED), (.ref a)])) t
          refine XT.acmpNo X5.here hx rfl (hb hby d_rm_fin_18) rfl rfl rfl (XT.aa_ne_f (congrArg Value.ref c6)) ?_
          show Steps p.tables e below (T5.setTop (mkF m 21 #[.val (.ref a)] [])) t
          refine XS.iconst X5.here hx rfl (hb hby d_rm_fin_21) ?_
          show Steps p.tables e below (T5.setTop (mkF m 22 #[.val (.ref a)] [(.int (1 : Int32))])) t
          refine XS.goto X5.here hx rfl (pc0 := 22) (pc' := 26) rfl (hb hby d_rm_fin_22) (by decide) (by decide) ?_
          exact kt
        refine Goes.retB X5 hx hlk hret (hb hby d_rm_fin_26) (by decide) (by decide) ?_
        try rw [e5]
        exact ⟨by subst hz; first | (rw [if_pos (by simp [c2, c4, c6])]; rfl) | (rw [if_neg (by simp [c2, c4, c6])]; rfl), N0, rfl⟩
      · -- not a = r_KILLED
        refine Goes.go (U' := (T5.setTop (mkF m 26 #[.val (.ref a)] [(.int (0 : Int32))]))) (fun t kt => ?_) ?_
        · show Steps p.tables e below (T5.setTop (mkF m 18 #[.val (.ref a)] [(.ref r_KILLED), (.ref a)])) t
          refine XT.acmpYes X5.here hx rfl (pc0 := 18) (pc' := 25) rfl (hb hby d_rm_fin_18) rfl rfl rfl (XT.aa_ne_t (fun q => c6 (Value.ref.inj q))) (by decide) (by decide) ?_
          show Steps p.tables e below (T5.setTop (mkF m 25 #[.val (.ref a)] [])) t
          refine XS.iconst X5.here hx rfl (hb hby d_rm_fin_25) ?_
          exact kt
        refine Goes.retB X5 hx hlk hret (hb hby d_rm_fin_26) (by decide) (by decide) ?_
        try rw [e5]
        exact ⟨by subst hz; first | (rw [if_pos (by simp [c2, c4, c6])]; rfl) | (rw [if_neg (by simp [c2, c4, c6])]; rfl), N0, rfl⟩
theorem ef_rm_law (m : MethodId) (x0 : Int32)  : entryFrame m #[(.int x0)] maxLocals = mkF m 0 #[.val (.int x0), .unset, .unset, .unset] [] := by first | rfl | (simp [entryFrame, mkF, argsToLocals, Value.category, maxLocals]; done)
set_option maxRecDepth 65536 in
set_option maxHeartbeats 40000000 in
theorem rm_law (l : Launch) (Z : State) (a0 : Array Value) (hw : ∀ d ∈ tables_1, d.before a0 Z = true) (ws : List Jvm.Cond) (pa : Int32) (r_NOT_STARTED r_STARTING r_RUNNING r_SUCCESS r_DEAD r_KILLED : Addr) (h0 : Heap) (n0 : Nat) (Z0 : n0 ≤ h0.size) (S_NOT_STARTED : Sta Z h0 "com/example/kilnroute/kilnroute/batch/BatchState" "NOT_STARTED" "Lcom/example/kilnroute/kilnroute/batch/BatchState;" (.ref r_NOT_STARTED)) (S_STARTING : Sta Z h0 "com/example/kilnroute/kilnroute/batch/BatchState" "STARTING" "Lcom/example/kilnroute/kilnroute/batch/BatchState;" (.ref r_STARTING)) (S_RUNNING : Sta Z h0 "com/example/kilnroute/kilnroute/batch/BatchState" "RUNNING" "Lcom/example/kilnroute/kilnroute/batch/BatchState;" (.ref r_RUNNING)) (S_SUCCESS : Sta Z h0 "com/example/kilnroute/kilnroute/batch/BatchState" "SUCCESS" "Lcom/example/kilnroute/kilnroute/batch/BatchState;" (.ref r_SUCCESS)) (S_DEAD : Sta Z h0 "com/example/kilnroute/kilnroute/batch/BatchState" "DEAD" "Lcom/example/kilnroute/kilnroute/batch/BatchState;" (.ref r_DEAD)) (S_KILLED : Sta Z h0 "com/example/kilnroute/kilnroute/batch/BatchState" "KILLED" "Lcom/example/kilnroute/kilnroute/batch/BatchState;" (.ref r_KILLED)) (E_NOT_STARTED : Exa Z h0 r_NOT_STARTED "com/example/kilnroute/kilnroute/batch/BatchState") (E_STARTING : Exa Z h0 r_STARTING "com/example/kilnroute/kilnroute/batch/BatchState") (E_RUNNING : Exa Z h0 r_RUNNING "com/example/kilnroute/kilnroute/batch/BatchState") (E_SUCCESS : Exa Z h0 r_SUCCESS "com/example/kilnroute/kilnroute/batch/BatchState") (E_DEAD : Exa Z h0 r_DEAD "com/example/kilnroute/kilnroute/batch/BatchState") (E_KILLED : Exa Z h0 r_KILLED "com/example/kilnroute/kilnroute/batch/BatchState") (ne_0_3 : r_NOT_STARTED ≠ r_SUCCESS) (ne_0_4 : r_NOT_STARTED ≠ r_DEAD) (ne_0_5 : r_NOT_STARTED ≠ r_KILLED) (ne_1_3 : r_STARTING ≠ r_SUCCESS) (ne_1_4 : r_STARTING ≠ r_DEAD) (ne_1_5 : r_STARTING ≠ r_KILLED) (ne_2_3 : r_RUNNING ≠ r_SUCCESS) (ne_2_4 : r_RUNNING ≠ r_DEAD) (ne_2_5 : r_RUNNING ≠ r_KILLED)  :
    Pays l Z x code maxLocals ret ws room_1 #[(.int pa)] h0 (fun v h L => v = some (.int 1) ∧ Fr n0 L) := by
  refine Pays.of (plainFor_of_name (by first | (simp [plainName, overriddenIn]; done) | decide +kernel)) ?_
  intro p e s m below meth c s₁ hx hby hml hown hnm hret hlk hZ e0 X0
  have N0 := Fr.nil n0
  have K0 : Keep h0 h0 [] := Keep.refl _ _
  refine Goes.go (U' := (s₁.setTop (mkF m 0 #[.val (.int pa), .unset, .unset, .unset] []))) (fun t kt => castTop (ef_rm_law m pa) kt) ?_
  refine Goes.go (U' := (s₁.setTop (mkF m 7 #[.val (.int pa), .unset, .unset, .unset] [(.int ((pa &&& (2147483647 : Int32)) % (6 : Int32)))]))) (fun t kt => ?_) ?_
  · show Steps p.tables e below (s₁.setTop (mkF m 0 #[.val (.int pa), .unset, .unset, .unset] [])) t
    refine XS.iloadN X0.here hx rfl (hb hby at_0) rfl ?_
    show Steps p.tables e below (s₁.setTop (mkF m 1 #[.val (.int pa), .unset, .unset, .unset] [(.int pa)])) t
    refine Jvm.Stand.ldcI X0 hx hown (mvT hZ (wdOf hw 0 rfl)) rfl (hb hby at_1) ?_
    show Steps p.tables e below (s₁.setTop (mkF m 3 #[.val (.int pa), .unset, .unset, .unset] [(.int (2147483647 : Int32)), (.int pa)])) t
    refine XS.iand X0.here hx rfl (hb hby at_3) rfl ?_
    show Steps p.tables e below (s₁.setTop (mkF m 4 #[.val (.int pa), .unset, .unset, .unset] [(.int (pa &&& (2147483647 : Int32)))])) t
    refine XS.bipush X0.here hx rfl (hb hby at_4) ?_
    show Steps p.tables e below (s₁.setTop (mkF m 6 #[.val (.int pa), .unset, .unset, .unset] [(.int (6 : Int32)), (.int (pa &&& (2147483647 : Int32)))])) t
    refine iremM X0 hx rfl (hb hby at_6) rfl (by decide) ?_
    exact kt
  rcases own_mod pa with hk | hk | hk | hk | hk | hk
  · -- case 0
    rw [hk]
    refine Goes.go (U' := (s₁.setTop (mkF m 12 #[.val (.int pa), .val (.int (0 : Int32)), .unset, .unset] []))) (fun t kt => ?_) ?_
    · show Steps p.tables e below (s₁.setTop (mkF m 7 #[.val (.int pa), .unset, .unset, .unset] [(.int (0 : Int32))])) t
      refine XS.istoreN X0.here hx rfl (hb hby at_7) rfl (l' := #[.val (.int pa), .val (.int (0 : Int32)), .unset, .unset]) rfl ?_
      show Steps p.tables e below (s₁.setTop (mkF m 8 #[.val (.int pa), .val (.int (0 : Int32)), .unset, .unset] [])) t
      refine XS.iloadN X0.here hx rfl (hb hby at_8) rfl ?_
      show Steps p.tables e below (s₁.setTop (mkF m 9 #[.val (.int pa), .val (.int (0 : Int32)), .unset, .unset] [(.int (0 : Int32))])) t
      refine XS.ifNo X0.here hx rfl (hb hby at_9) rfl (XT.i0_ne_f (by decide)) ?_
      exact kt
    obtain ⟨T1, X1, e1, st1⟩ := getS X0 hx hZ hown (host := "") (wdOf hw 1 rfl) Via.refl e0 S_NOT_STARTED (g := (mkF m 12 #[.val (.int pa), .val (.int (0 : Int32)), .unset, .unset] [])) rfl (hb hby at_12)
    refine Goes.go (U' := (T1.setTop (mkF m 15 #[.val (.int pa), .val (.int (0 : Int32)), .unset, .unset] [(.ref r_NOT_STARTED)]))) st1 ?_
    refine Goes.go (U' := (T1.setTop (mkF m 84 #[.val (.int pa), .val (.int (0 : Int32)), .val (.ref r_NOT_STARTED), .val (.int (0 : Int32))] [(.ref r_NOT_STARTED)]))) (fun t kt => ?_) ?_
    · show Steps p.tables e below (T1.setTop (mkF m 15 #[.val (.int pa), .val (.int (0 : Int32)), .unset, .unset] [(.ref r_NOT_STARTED)])) t
      refine XS.astoreN X1.here hx rfl (hb hby at_15) rfl rfl (l' := #[.val (.int pa), .val (.int (0 : Int32)), .val (.ref r_NOT_STARTED), .unset]) rfl ?_
      show Steps p.tables e below (T1.setTop (mkF m 16 #[.val (.int pa), .val (.int (0 : Int32)), .val (.ref r_NOT_STARTED), .unset] [])) t
      refine XS.iconst X1.here hx rfl (hb hby at_16) ?_
      show Steps p.tables e below (T1.setTop (mkF m 17 #[.val (.int pa), .val (.int (0 : Int32)), .val (.ref r_NOT_STARTED), .unset] [(.int (0 : Int32))])) t
      refine XS.istoreN X1.here hx rfl (hb hby at_17) rfl (l' := #[.val (.int pa), .val (.int (0 : Int32)), .val (.ref r_NOT_STARTED), .val (.int (0 : Int32))]) rfl ?_
      show Steps p.tables e below (T1.setTop (mkF m 18 #[.val (.int pa), .val (.int (0 : Int32)), .val (.ref r_NOT_STARTED), .val (.int (0 : Int32))] [])) t
      refine XS.goto X1.here hx rfl (pc0 := 18) (pc' := 83) rfl (hb hby at_18) (by decide) (by decide) ?_
      show Steps p.tables e below (T1.setTop (mkF m 83 #[.val (.int pa), .val (.int (0 : Int32)), .val (.ref r_NOT_STARTED), .val (.int (0 : Int32))] [])) t
      refine XS.aloadN X1.here hx rfl (hb hby at_83) rfl rfl ?_
      exact kt
    obtain ⟨v2, T2, L2, X2, q2, st2⟩ := callVirtual X1 hx hZ (y := (⟨"com/example/kilnroute/kilnroute/batch/BatchState", "isFinal", "()Z"⟩ : MethodName)) (z := (⟨"com/example/kilnroute/kilnroute/batch/BatchState", "isFinal", "()Z"⟩ : MethodName)) (W := 0) hown (wdOf hw 4 rfl) (wdOf hw 5 rfl) (notFace_of_selects (args := #[]) (mvT hZ (wdOf hw 7 rfl))) (wdOf hw 7 rfl) (wdOf hw 6 rfl) (wdOf hw 2 rfl) (wdOf hw 8 rfl) (by decide) (rm_fin l Z a0 hw [] r_NOT_STARTED r_SUCCESS r_DEAD r_KILLED (0 : Int32) h0 n0 Z0 S_SUCCESS S_DEAD S_KILLED (by simp [ne_0_3, ne_0_4, ne_0_5])) (by decide) (by decide) (by decide) (by decide) e1 E_NOT_STARTED (g := (mkF m 84 #[.val (.int pa), .val (.int (0 : Int32)), .val (.ref r_NOT_STARTED), .val (.int (0 : Int32))] [(.ref r_NOT_STARTED)])) rfl (by rw [hml]; rfl) (argsL := []) (rest := []) (lenOf pd_0 rfl) rfl rfl (Nat.le_refl _) (hb hby at_84)
    obtain ⟨rfl, n2, K2⟩ := q2
    have N2 := Fr.app N0 n2
    refine Goes.go (U' := (T2.setTop (mkF m 87 #[.val (.int pa), .val (.int (0 : Int32)), .val (.ref r_NOT_STARTED), .val (.int (0 : Int32))] [(.int (0 : Int32))]))) st2 ?_
    refine Goes.go (U' := (T2.setTop (mkF m 96 #[.val (.int pa), .val (.int (0 : Int32)), .val (.ref r_NOT_STARTED), .val (.int (0 : Int32))] [(.int (1 : Int32))]))) (fun t kt => ?_) ?_
    · show Steps p.tables e below (T2.setTop (mkF m 87 #[.val (.int pa), .val (.int (0 : Int32)), .val (.ref r_NOT_STARTED), .val (.int (0 : Int32))] [(.int (0 : Int32))])) t
      refine XS.iloadN X2.here hx rfl (hb hby at_87) rfl ?_
      show Steps p.tables e below (T2.setTop (mkF m 88 #[.val (.int pa), .val (.int (0 : Int32)), .val (.ref r_NOT_STARTED), .val (.int (0 : Int32))] [(.int (0 : Int32)), (.int (0 : Int32))])) t
      refine XS.icmpNo X2.here hx rfl (hb hby at_88) rfl (XT.ii_ne_f (by decide)) ?_
      show Steps p.tables e below (T2.setTop (mkF m 91 #[.val (.int pa), .val (.int (0 : Int32)), .val (.ref r_NOT_STARTED), .val (.int (0 : Int32))] [])) t
      refine XS.iconst X2.here hx rfl (hb hby at_91) ?_
      show Steps p.tables e below (T2.setTop (mkF m 92 #[.val (.int pa), .val (.int (0 : Int32)), .val (.ref r_NOT_STARTED), .val (.int (0 : Int32))] [(.int (1 : Int32))])) t
      refine XS.goto X2.here hx rfl (pc0 := 92) (pc' := 96) rfl (hb hby at_92) (by decide) (by decide) ?_
      exact kt
    refine Goes.retB X2 hx hlk hret (hb hby at_96) (by decide) (by decide) ?_
    try rw [K2]
    exact ⟨rfl, N2⟩
  · -- case 1
    rw [hk]
    refine Goes.go (U' := (s₁.setTop (mkF m 26 #[.val (.int pa), .val (.int (1 : Int32)), .unset, .unset] []))) (fun t kt => ?_) ?_
    · show Steps p.tables e below (s₁.setTop (mkF m 7 #[.val (.int pa), .unset, .unset, .unset] [(.int (1 : Int32))])) t
      refine XS.istoreN X0.here hx rfl (hb hby at_7) rfl (l' := #[.val (.int pa), .val (.int (1 : Int32)), .unset, .unset]) rfl ?_
      show Steps p.tables e below (s₁.setTop (mkF m 8 #[.val (.int pa), .val (.int (1 : Int32)), .unset, .unset] [])) t
      refine XS.iloadN X0.here hx rfl (hb hby at_8) rfl ?_
      show Steps p.tables e below (s₁.setTop (mkF m 9 #[.val (.int pa), .val (.int (1 : Int32)), .unset, .unset] [(.int (1 : Int32))])) t
      refine XS.ifYes X0.here hx rfl (pc0 := 9) (pc' := 21) rfl (hb hby at_9) rfl (XT.i0_ne_t (by decide)) (by decide) (by decide) ?_
      show Steps p.tables e below (s₁.setTop (mkF m 21 #[.val (.int pa), .val (.int (1 : Int32)), .unset, .unset] [])) t
      refine XS.iloadN X0.here hx rfl (hb hby at_21) rfl ?_
      show Steps p.tables e below (s₁.setTop (mkF m 22 #[.val (.int pa), .val (.int (1 : Int32)), .unset, .unset] [(.int (1 : Int32))])) t
      refine XS.iconst X0.here hx rfl (hb hby at_22) ?_
      show Steps p.tables e below (s₁.setTop (mkF m 23 #[.val (.int pa), .val (.int (1 : Int32)), .unset, .unset] [(.int (1 : Int32)), (.int (1 : Int32))])) t
      refine XS.icmpNo X0.here hx rfl (hb hby at_23) rfl (XT.ii_ne_f (by decide)) ?_
      exact kt
    obtain ⟨T3, X3, e3, st3⟩ := getS X0 hx hZ hown (host := "") (wdOf hw 18 rfl) Via.refl e0 S_STARTING (g := (mkF m 26 #[.val (.int pa), .val (.int (1 : Int32)), .unset, .unset] [])) rfl (hb hby at_26)
    refine Goes.go (U' := (T3.setTop (mkF m 29 #[.val (.int pa), .val (.int (1 : Int32)), .unset, .unset] [(.ref r_STARTING)]))) st3 ?_
    refine Goes.go (U' := (T3.setTop (mkF m 84 #[.val (.int pa), .val (.int (1 : Int32)), .val (.ref r_STARTING), .val (.int (0 : Int32))] [(.ref r_STARTING)]))) (fun t kt => ?_) ?_
    · show Steps p.tables e below (T3.setTop (mkF m 29 #[.val (.int pa), .val (.int (1 : Int32)), .unset, .unset] [(.ref r_STARTING)])) t
      refine XS.astoreN X3.here hx rfl (hb hby at_29) rfl rfl (l' := #[.val (.int pa), .val (.int (1 : Int32)), .val (.ref r_STARTING), .unset]) rfl ?_
      show Steps p.tables e below (T3.setTop (mkF m 30 #[.val (.int pa), .val (.int (1 : Int32)), .val (.ref r_STARTING), .unset] [])) t
      refine XS.iconst X3.here hx rfl (hb hby at_30) ?_
      show Steps p.tables e below (T3.setTop (mkF m 31 #[.val (.int pa), .val (.int (1 : Int32)), .val (.ref r_STARTING), .unset] [(.int (0 : Int32))])) t
      refine XS.istoreN X3.here hx rfl (hb hby at_31) rfl (l' := #[.val (.int pa), .val (.int (1 : Int32)), .val (.ref r_STARTING), .val (.int (0 : Int32))]) rfl ?_
      show Steps p.tables e below (T3.setTop (mkF m 32 #[.val (.int pa), .val (.int (1 : Int32)), .val (.ref r_STARTING), .val (.int (0 : Int32))] [])) t
      refine XS.goto X3.here hx rfl (pc0 := 32) (pc' := 83) rfl (hb hby at_32) (by decide) (by decide) ?_
      show Steps p.tables e below (T3.setTop (mkF m 83 #[.val (.int pa), .val (.int (1 : Int32)), .val (.ref r_STARTING), .val (.int (0 : Int32))] [])) t
      refine XS.aloadN X3.here hx rfl (hb hby at_83) rfl rfl ?_
      exact kt
    obtain ⟨v4, T4, L4, X4, q4, st4⟩ := callVirtual X3 hx hZ (y := (⟨"com/example/kilnroute/kilnroute/batch/BatchState", "isFinal", "()Z"⟩ : MethodName)) (z := (⟨"com/example/kilnroute/kilnroute/batch/BatchState", "isFinal", "()Z"⟩ : MethodName)) (W := 0) hown (wdOf hw 4 rfl) (wdOf hw 5 rfl) (notFace_of_selects (args := #[]) (mvT hZ (wdOf hw 7 rfl))) (wdOf hw 7 rfl) (wdOf hw 6 rfl) (wdOf hw 2 rfl) (wdOf hw 8 rfl) (by decide) (rm_fin l Z a0 hw [] r_STARTING r_SUCCESS r_DEAD r_KILLED (0 : Int32) h0 n0 Z0 S_SUCCESS S_DEAD S_KILLED (by simp [ne_1_3, ne_1_4, ne_1_5])) (by decide) (by decide) (by decide) (by decide) e3 E_STARTING (g := (mkF m 84 #[.val (.int pa), .val (.int (1 : Int32)), .val (.ref r_STARTING), .val (.int (0 : Int32))] [(.ref r_STARTING)])) rfl (by rw [hml]; rfl) (argsL := []) (rest := []) (lenOf pd_0 rfl) rfl rfl (Nat.le_refl _) (hb hby at_84)
    obtain ⟨rfl, n4, K4⟩ := q4
    have N4 := Fr.app N0 n4
    refine Goes.go (U' := (T4.setTop (mkF m 87 #[.val (.int pa), .val (.int (1 : Int32)), .val (.ref r_STARTING), .val (.int (0 : Int32))] [(.int (0 : Int32))]))) st4 ?_
    refine Goes.go (U' := (T4.setTop (mkF m 96 #[.val (.int pa), .val (.int (1 : Int32)), .val (.ref r_STARTING), .val (.int (0 : Int32))] [(.int (1 : Int32))]))) (fun t kt => ?_) ?_
    · show Steps p.tables e below (T4.setTop (mkF m 87 #[.val (.int pa), .val (.int (1 : Int32)), .val (.ref r_STARTING), .val (.int (0 : Int32))] [(.int (0 : Int32))])) t
      refine XS.iloadN X4.here hx rfl (hb hby at_87) rfl ?_
      show Steps p.tables e below (T4.setTop (mkF m 88 #[.val (.int pa), .val (.int (1 : Int32)), .val (.ref r_STARTING), .val (.int (0 : Int32))] [(.int (0 : Int32)), (.int (0 : Int32))])) t
      refine XS.icmpNo X4.here hx rfl (hb hby at_88) rfl (XT.ii_ne_f (by decide)) ?_
      show Steps p.tables e below (T4.setTop (mkF m 91 #[.val (.int pa), .val (.int (1 : Int32)), .val (.ref r_STARTING), .val (.int (0 : Int32))] [])) t
      refine XS.iconst X4.here hx rfl (hb hby at_91) ?_
      show Steps p.tables e below (T4.setTop (mkF m 92 #[.val (.int pa), .val (.int (1 : Int32)), .val (.ref r_STARTING), .val (.int (0 : Int32))] [(.int (1 : Int32))])) t
      refine XS.goto X4.here hx rfl (pc0 := 92) (pc' := 96) rfl (hb hby at_92) (by decide) (by decide) ?_
      exact kt
    refine Goes.retB X4 hx hlk hret (hb hby at_96) (by decide) (by decide) ?_
    try rw [K4]
    exact ⟨rfl, N4⟩
  · -- case 2
    rw [hk]
    refine Goes.go (U' := (s₁.setTop (mkF m 40 #[.val (.int pa), .val (.int (2 : Int32)), .unset, .unset] []))) (fun t kt => ?_) ?_
    · show Steps p.tables e below (s₁.setTop (mkF m 7 #[.val (.int pa), .unset, .unset, .unset] [(.int (2 : Int32))])) t
      refine XS.istoreN X0.here hx rfl (hb hby at_7) rfl (l' := #[.val (.int pa), .val (.int (2 : Int32)), .unset, .unset]) rfl ?_
      show Steps p.tables e below (s₁.setTop (mkF m 8 #[.val (.int pa), .val (.int (2 : Int32)), .unset, .unset] [])) t
      refine XS.iloadN X0.here hx rfl (hb hby at_8) rfl ?_
      show Steps p.tables e below (s₁.setTop (mkF m 9 #[.val (.int pa), .val (.int (2 : Int32)), .unset, .unset] [(.int (2 : Int32))])) t
      refine XS.ifYes X0.here hx rfl (pc0 := 9) (pc' := 21) rfl (hb hby at_9) rfl (XT.i0_ne_t (by decide)) (by decide) (by decide) ?_
      show Steps p.tables e below (s₁.setTop (mkF m 21 #[.val (.int pa), .val (.int (2 : Int32)), .unset, .unset] [])) t
      refine XS.iloadN X0.here hx rfl (hb hby at_21) rfl ?_
      show Steps p.tables e below (s₁.setTop (mkF m 22 #[.val (.int pa), .val (.int (2 : Int32)), .unset, .unset] [(.int (2 : Int32))])) t
      refine XS.iconst X0.here hx rfl (hb hby at_22) ?_
      show Steps p.tables e below (s₁.setTop (mkF m 23 #[.val (.int pa), .val (.int (2 : Int32)), .unset, .unset] [(.int (1 : Int32)), (.int (2 : Int32))])) t
      refine XS.icmpYes X0.here hx rfl (pc0 := 23) (pc' := 35) rfl (hb hby at_23) rfl (XT.ii_ne_t (by decide)) (by decide) (by decide) ?_
      show Steps p.tables e below (s₁.setTop (mkF m 35 #[.val (.int pa), .val (.int (2 : Int32)), .unset, .unset] [])) t
      refine XS.iloadN X0.here hx rfl (hb hby at_35) rfl ?_
      show Steps p.tables e below (s₁.setTop (mkF m 36 #[.val (.int pa), .val (.int (2 : Int32)), .unset, .unset] [(.int (2 : Int32))])) t
      refine XS.iconst X0.here hx rfl (hb hby at_36) ?_
      show Steps p.tables e below (s₁.setTop (mkF m 37 #[.val (.int pa), .val (.int (2 : Int32)), .unset, .unset] [(.int (2 : Int32)), (.int (2 : Int32))])) t
      refine XS.icmpNo X0.here hx rfl (hb hby at_37) rfl (XT.ii_ne_f (by decide)) ?_
      exact kt
    obtain ⟨T5, X5, e5, st5⟩ := getS X0 hx hZ hown (host := "") (wdOf hw 16 rfl) Via.refl e0 S_RUNNING (g := (mkF m 40 #[.val (.int pa), .val (.int (2 : Int32)), .unset, .unset] [])) rfl (hb hby at_40)
    refine Goes.go (U' := (T5.setTop (mkF m 43 #[.val (.int pa), .val (.int (2 : Int32)), .unset, .unset] [(.ref r_RUNNING)]))) st5 ?_
    refine Goes.go (U' := (T5.setTop (mkF m 84 #[.val (.int pa), .val (.int (2 : Int32)), .val (.ref r_RUNNING), .val (.int (0 : Int32))] [(.ref r_RUNNING)]))) (fun t kt => ?_) ?_
    · show Steps p.tables e below (T5.setTop (mkF m 43 #[.val (.int pa), .val (.int (2 : Int32)), .unset, .unset] [(.ref r_RUNNING)])) t
      refine XS.astoreN X5.here hx rfl (hb hby at_43) rfl rfl (l' := #[.val (.int pa), .val (.int (2 : Int32)), .val (.ref r_RUNNING), .unset]) rfl ?_
      show Steps p.tables e below (T5.setTop (mkF m 44 #[.val (.int pa), .val (.int (2 : Int32)), .val (.ref r_RUNNING), .unset] [])) t
      refine XS.iconst X5.here hx rfl (hb hby at_44) ?_
      show Steps p.tables e below (T5.setTop (mkF m 45 #[.val (.int pa), .val (.int (2 : Int32)), .val (.ref r_RUNNING), .unset] [(.int (0 : Int32))])) t
      refine XS.istoreN X5.here hx rfl (hb hby at_45) rfl (l' := #[.val (.int pa), .val (.int (2 : Int32)), .val (.ref r_RUNNING), .val (.int (0 : Int32))]) rfl ?_
      show Steps p.tables e below (T5.setTop (mkF m 46 #[.val (.int pa), .val (.int (2 : Int32)), .val (.ref r_RUNNING), .val (.int (0 : Int32))] [])) t
      refine XS.goto X5.here hx rfl (pc0 := 46) (pc' := 83) rfl (hb hby at_46) (by decide) (by decide) ?_
      show Steps p.tables e below (T5.setTop (mkF m 83 #[.val (.int pa), .val (.int (2 : Int32)), .val (.ref r_RUNNING), .val (.int (0 : Int32))] [])) t
      refine XS.aloadN X5.here hx rfl (hb hby at_83) rfl rfl ?_
      exact kt
    obtain ⟨v6, T6, L6, X6, q6, st6⟩ := callVirtual X5 hx hZ (y := (⟨"com/example/kilnroute/kilnroute/batch/BatchState", "isFinal", "()Z"⟩ : MethodName)) (z := (⟨"com/example/kilnroute/kilnroute/batch/BatchState", "isFinal", "()Z"⟩ : MethodName)) (W := 0) hown (wdOf hw 4 rfl) (wdOf hw 5 rfl) (notFace_of_selects (args := #[]) (mvT hZ (wdOf hw 7 rfl))) (wdOf hw 7 rfl) (wdOf hw 6 rfl) (wdOf hw 2 rfl) (wdOf hw 8 rfl) (by decide) (rm_fin l Z a0 hw [] r_RUNNING r_SUCCESS r_DEAD r_KILLED (0 : Int32) h0 n0 Z0 S_SUCCESS S_DEAD S_KILLED (by simp [ne_2_3, ne_2_4, ne_2_5])) (by decide) (by decide) (by decide) (by decide) e5 E_RUNNING (g := (mkF m 84 #[.val (.int pa), .val (.int (2 : Int32)), .val (.ref r_RUNNING), .val (.int (0 : Int32))] [(.ref r_RUNNING)])) rfl (by rw [hml]; rfl) (argsL := []) (rest := []) (lenOf pd_0 rfl) rfl rfl (Nat.le_refl _) (hb hby at_84)
    obtain ⟨rfl, n6, K6⟩ := q6
    have N6 := Fr.app N0 n6
    refine Goes.go (U' := (T6.setTop (mkF m 87 #[.val (.int pa), .val (.int (2 : Int32)), .val (.ref r_RUNNING), .val (.int (0 : Int32))] [(.int (0 : Int32))]))) st6 ?_
    refine Goes.go (U' := (T6.setTop (mkF m 96 #[.val (.int pa), .val (.int (2 : Int32)), .val (.ref r_RUNNING), .val (.int (0 : Int32))] [(.int (1 : Int32))]))) (fun t kt => ?_) ?_
    · show Steps p.tables e below (T6.setTop (mkF m 87 #[.val (.int pa), .val (.int (2 : Int32)), .val (.ref r_RUNNING), .val (.int (0 : Int32))] [(.int (0 : Int32))])) t
      refine XS.iloadN X6.here hx rfl (hb hby at_87) rfl ?_
      show Steps p.tables e below (T6.setTop (mkF m 88 #[.val (.int pa), .val (.int (2 : Int32)), .val (.ref r_RUNNING), .val (.int (0 : Int32))] [(.int (0 : Int32)), (.int (0 : Int32))])) t
      refine XS.icmpNo X6.here hx rfl (hb hby at_88) rfl (XT.ii_ne_f (by decide)) ?_
      show Steps p.tables e below (T6.setTop (mkF m 91 #[.val (.int pa), .val (.int (2 : Int32)), .val (.ref r_RUNNING), .val (.int (0 : Int32))] [])) t
      refine XS.iconst X6.here hx rfl (hb hby at_91) ?_
      show Steps p.tables e below (T6.setTop (mkF m 92 #[.val (.int pa), .val (.int (2 : Int32)), .val (.ref r_RUNNING), .val (.int (0 : Int32))] [(.int (1 : Int32))])) t
      refine XS.goto X6.here hx rfl (pc0 := 92) (pc' := 96) rfl (hb hby at_92) (by decide) (by decide) ?_
      exact kt
    refine Goes.retB X6 hx hlk hret (hb hby at_96) (by decide) (by decide) ?_
    try rw [K6]
    exact ⟨rfl, N6⟩
  · -- case 3
    rw [hk]
    refine Goes.go (U' := (s₁.setTop (mkF m 54 #[.val (.int pa), .val (.int (3 : Int32)), .unset, .unset] []))) (fun t kt => ?_) ?_
    · show Steps p.tables e below (s₁.setTop (mkF m 7 #[.val (.int pa), .unset, .unset, .unset] [(.int (3 : Int32))])) t
      refine XS.istoreN X0.here hx rfl (hb hby at_7) rfl (l' := #[.val (.int pa), .val (.int (3 : Int32)), .unset, .unset]) rfl ?_
      show Steps p.tables e below (s₁.setTop (mkF m 8 #[.val (.int pa), .val (.int (3 : Int32)), .unset, .unset] [])) t
      refine XS.iloadN X0.here hx rfl (hb hby at_8) rfl ?_
      show Steps p.tables e below (s₁.setTop (mkF m 9 #[.val (.int pa), .val (.int (3 : Int32)), .unset, .unset] [(.int (3 : Int32))])) t
      refine XS.ifYes X0.here hx rfl (pc0 := 9) (pc' := 21) rfl (hb hby at_9) rfl (XT.i0_ne_t (by decide)) (by decide) (by decide) ?_
      show Steps p.tables e below (s₁.setTop (mkF m 21 #[.val (.int pa), .val (.int (3 : Int32)), .unset, .unset] [])) t
      refine XS.iloadN X0.here hx rfl (hb hby at_21) rfl ?_
      show Steps p.tables e below (s₁.setTop (mkF m 22 #[.val (.int pa), .val (.int (3 : Int32)), .unset, .unset] [(.int (3 : Int32))])) t
      refine XS.iconst X0.here hx rfl (hb hby at_22) ?_
      show Steps p.tables e below (s₁.setTop (mkF m 23 #[.val (.int pa), .val (.int (3 : Int32)), .unset, .unset] [(.int (1 : Int32)), (.int (3 : Int32))])) t
      refine XS.icmpYes X0.here hx rfl (pc0 := 23) (pc' := 35) rfl (hb hby at_23) rfl (XT.ii_ne_t (by decide)) (by decide) (by decide) ?_
      show Steps p.tables e below (s₁.setTop (mkF m 35 #[.val (.int pa), .val (.int (3 : Int32)), .unset, .unset] [])) t
      refine XS.iloadN X0.here hx rfl (hb hby at_35) rfl ?_
      show Steps p.tables e below (s₁.setTop (mkF m 36 #[.val (.int pa), .val (.int (3 : Int32)), .unset, .unset] [(.int (3 : Int32))])) t
      refine XS.iconst X0.here hx rfl (hb hby at_36) ?_
      show Steps p.tables e below (s₁.setTop (mkF m 37 #[.val (.int pa), .val (.int (3 : Int32)), .unset, .unset] [(.int (2 : Int32)), (.int (3 : Int32))])) t
      refine XS.icmpYes X0.here hx rfl (pc0 := 37) (pc' := 49) rfl (hb hby at_37) rfl (XT.ii_ne_t (by decide)) (by decide) (by decide) ?_
      show Steps p.tables e below (s₁.setTop (mkF m 49 #[.val (.int pa), .val (.int (3 : Int32)), .unset, .unset] [])) t
      refine XS.iloadN X0.here hx rfl (hb hby at_49) rfl ?_
      show Steps p.tables e below (s₁.setTop (mkF m 50 #[.val (.int pa), .val (.int (3 : Int32)), .unset, .unset] [(.int (3 : Int32))])) t
      refine XS.iconst X0.here hx rfl (hb hby at_50) ?_
      show Steps p.tables e below (s₁.setTop (mkF m 51 #[.val (.int pa), .val (.int (3 : Int32)), .unset, .unset] [(.int (3 : Int32)), (.int (3 : Int32))])) t
      refine XS.icmpNo X0.here hx rfl (hb hby at_51) rfl (XT.ii_ne_f (by decide)) ?_
      exact kt
    obtain ⟨T7, X7, e7, st7⟩ := getS X0 hx hZ hown (host := "") (wdOf hw 15 rfl) Via.refl e0 S_SUCCESS (g := (mkF m 54 #[.val (.int pa), .val (.int (3 : Int32)), .unset, .unset] [])) rfl (hb hby at_54)
    refine Goes.go (U' := (T7.setTop (mkF m 57 #[.val (.int pa), .val (.int (3 : Int32)), .unset, .unset] [(.ref r_SUCCESS)]))) st7 ?_
    refine Goes.go (U' := (T7.setTop (mkF m 84 #[.val (.int pa), .val (.int (3 : Int32)), .val (.ref r_SUCCESS), .val (.int (1 : Int32))] [(.ref r_SUCCESS)]))) (fun t kt => ?_) ?_
    · show Steps p.tables e below (T7.setTop (mkF m 57 #[.val (.int pa), .val (.int (3 : Int32)), .unset, .unset] [(.ref r_SUCCESS)])) t
      refine XS.astoreN X7.here hx rfl (hb hby at_57) rfl rfl (l' := #[.val (.int pa), .val (.int (3 : Int32)), .val (.ref r_SUCCESS), .unset]) rfl ?_
      show Steps p.tables e below (T7.setTop (mkF m 58 #[.val (.int pa), .val (.int (3 : Int32)), .val (.ref r_SUCCESS), .unset] [])) t
      refine XS.iconst X7.here hx rfl (hb hby at_58) ?_
      show Steps p.tables e below (T7.setTop (mkF m 59 #[.val (.int pa), .val (.int (3 : Int32)), .val (.ref r_SUCCESS), .unset] [(.int (1 : Int32))])) t
      refine XS.istoreN X7.here hx rfl (hb hby at_59) rfl (l' := #[.val (.int pa), .val (.int (3 : Int32)), .val (.ref r_SUCCESS), .val (.int (1 : Int32))]) rfl ?_
      show Steps p.tables e below (T7.setTop (mkF m 60 #[.val (.int pa), .val (.int (3 : Int32)), .val (.ref r_SUCCESS), .val (.int (1 : Int32))] [])) t
      refine XS.goto X7.here hx rfl (pc0 := 60) (pc' := 83) rfl (hb hby at_60) (by decide) (by decide) ?_
      show Steps p.tables e below (T7.setTop (mkF m 83 #[.val (.int pa), .val (.int (3 : Int32)), .val (.ref r_SUCCESS), .val (.int (1 : Int32))] [])) t
      refine XS.aloadN X7.here hx rfl (hb hby at_83) rfl rfl ?_
      exact kt
    obtain ⟨v8, T8, L8, X8, q8, st8⟩ := callVirtual X7 hx hZ (y := (⟨"com/example/kilnroute/kilnroute/batch/BatchState", "isFinal", "()Z"⟩ : MethodName)) (z := (⟨"com/example/kilnroute/kilnroute/batch/BatchState", "isFinal", "()Z"⟩ : MethodName)) (W := 0) hown (wdOf hw 4 rfl) (wdOf hw 5 rfl) (notFace_of_selects (args := #[]) (mvT hZ (wdOf hw 7 rfl))) (wdOf hw 7 rfl) (wdOf hw 6 rfl) (wdOf hw 2 rfl) (wdOf hw 8 rfl) (by decide) (rm_fin l Z a0 hw [] r_SUCCESS r_SUCCESS r_DEAD r_KILLED (1 : Int32) h0 n0 Z0 S_SUCCESS S_DEAD S_KILLED (by simp [])) (by decide) (by decide) (by decide) (by decide) e7 E_SUCCESS (g := (mkF m 84 #[.val (.int pa), .val (.int (3 : Int32)), .val (.ref r_SUCCESS), .val (.int (1 : Int32))] [(.ref r_SUCCESS)])) rfl (by rw [hml]; rfl) (argsL := []) (rest := []) (lenOf pd_0 rfl) rfl rfl (Nat.le_refl _) (hb hby at_84)
    obtain ⟨rfl, n8, K8⟩ := q8
    have N8 := Fr.app N0 n8
    refine Goes.go (U' := (T8.setTop (mkF m 87 #[.val (.int pa), .val (.int (3 : Int32)), .val (.ref r_SUCCESS), .val (.int (1 : Int32))] [(.int (1 : Int32))]))) st8 ?_
    refine Goes.go (U' := (T8.setTop (mkF m 96 #[.val (.int pa), .val (.int (3 : Int32)), .val (.ref r_SUCCESS), .val (.int (1 : Int32))] [(.int (1 : Int32))]))) (fun t kt => ?_) ?_
    · show Steps p.tables e below (T8.setTop (mkF m 87 #[.val (.int pa), .val (.int (3 : Int32)), .val (.ref r_SUCCESS), .val (.int (1 : Int32))] [(.int (1 : Int32))])) t
      refine XS.iloadN X8.here hx rfl (hb hby at_87) rfl ?_
      show Steps p.tables e below (T8.setTop (mkF m 88 #[.val (.int pa), .val (.int (3 : Int32)), .val (.ref r_SUCCESS), .val (.int (1 : Int32))] [(.int (1 : Int32)), (.int (1 : Int32))])) t
      refine XS.icmpNo X8.here hx rfl (hb hby at_88) rfl (XT.ii_ne_f (by decide)) ?_
      show Steps p.tables e below (T8.setTop (mkF m 91 #[.val (.int pa), .val (.int (3 : Int32)), .val (.ref r_SUCCESS), .val (.int (1 : Int32))] [])) t
      refine XS.iconst X8.here hx rfl (hb hby at_91) ?_
      show Steps p.tables e below (T8.setTop (mkF m 92 #[.val (.int pa), .val (.int (3 : Int32)), .val (.ref r_SUCCESS), .val (.int (1 : Int32))] [(.int (1 : Int32))])) t
      refine XS.goto X8.here hx rfl (pc0 := 92) (pc' := 96) rfl (hb hby at_92) (by decide) (by decide) ?_
      exact kt
    refine Goes.retB X8 hx hlk hret (hb hby at_96) (by decide) (by decide) ?_
    try rw [K8]
    exact ⟨rfl, N8⟩
  · -- case 4
    rw [hk]
    refine Goes.go (U' := (s₁.setTop (mkF m 68 #[.val (.int pa), .val (.int (4 : Int32)), .unset, .unset] []))) (fun t kt => ?_) ?_
    · show Steps p.tables e below (s₁.setTop (mkF m 7 #[.val (.int pa), .unset, .unset, .unset] [(.int (4 : Int32))])) t
      refine XS.istoreN X0.here hx rfl (hb hby at_7) rfl (l' := #[.val (.int pa), .val (.int (4 : Int32)), .unset, .unset]) rfl ?_
      show Steps p.tables e below (s₁.setTop (mkF m 8 #[.val (.int pa), .val (.int (4 : Int32)), .unset, .unset] [])) t
      refine XS.iloadN X0.here hx rfl (hb hby at_8) rfl ?_
      show Steps p.tables e below (s₁.setTop (mkF m 9 #[.val (.int pa), .val (.int (4 : Int32)), .unset, .unset] [(.int (4 : Int32))])) t
      refine XS.ifYes X0.here hx rfl (pc0 := 9) (pc' := 21) rfl (hb hby at_9) rfl (XT.i0_ne_t (by decide)) (by decide) (by decide) ?_
      show Steps p.tables e below (s₁.setTop (mkF m 21 #[.val (.int pa), .val (.int (4 : Int32)), .unset, .unset] [])) t
      refine XS.iloadN X0.here hx rfl (hb hby at_21) rfl ?_
      show Steps p.tables e below (s₁.setTop (mkF m 22 #[.val (.int pa), .val (.int (4 : Int32)), .unset, .unset] [(.int (4 : Int32))])) t
      refine XS.iconst X0.here hx rfl (hb hby at_22) ?_
      show Steps p.tables e below (s₁.setTop (mkF m 23 #[.val (.int pa), .val (.int (4 : Int32)), .unset, .unset] [(.int (1 : Int32)), (.int (4 : Int32))])) t
      refine XS.icmpYes X0.here hx rfl (pc0 := 23) (pc' := 35) rfl (hb hby at_23) rfl (XT.ii_ne_t (by decide)) (by decide) (by decide) ?_
      show Steps p.tables e below (s₁.setTop (mkF m 35 #[.val (.int pa), .val (.int (4 : Int32)), .unset, .unset] [])) t
      refine XS.iloadN X0.here hx rfl (hb hby at_35) rfl ?_
      show Steps p.tables e below (s₁.setTop (mkF m 36 #[.val (.int pa), .val (.int (4 : Int32)), .unset, .unset] [(.int (4 : Int32))])) t
      refine XS.iconst X0.here hx rfl (hb hby at_36) ?_
      show Steps p.tables e below (s₁.setTop (mkF m 37 #[.val (.int pa), .val (.int (4 : Int32)), .unset, .unset] [(.int (2 : Int32)), (.int (4 : Int32))])) t
      refine XS.icmpYes X0.here hx rfl (pc0 := 37) (pc' := 49) rfl (hb hby at_37) rfl (XT.ii_ne_t (by decide)) (by decide) (by decide) ?_
      show Steps p.tables e below (s₁.setTop (mkF m 49 #[.val (.int pa), .val (.int (4 : Int32)), .unset, .unset] [])) t
      refine XS.iloadN X0.here hx rfl (hb hby at_49) rfl ?_
      show Steps p.tables e below (s₁.setTop (mkF m 50 #[.val (.int pa), .val (.int (4 : Int32)), .unset, .unset] [(.int (4 : Int32))])) t
      refine XS.iconst X0.here hx rfl (hb hby at_50) ?_
      show Steps p.tables e below (s₁.setTop (mkF m 51 #[.val (.int pa), .val (.int (4 : Int32)), .unset, .unset] [(.int (3 : Int32)), (.int (4 : Int32))])) t
      refine XS.icmpYes X0.here hx rfl (pc0 := 51) (pc' := 63) rfl (hb hby at_51) rfl (XT.ii_ne_t (by decide)) (by decide) (by decide) ?_
      show Steps p.tables e below (s₁.setTop (mkF m 63 #[.val (.int pa), .val (.int (4 : Int32)), .unset, .unset] [])) t
      refine XS.iloadN X0.here hx rfl (hb hby at_63) rfl ?_
      show Steps p.tables e below (s₁.setTop (mkF m 64 #[.val (.int pa), .val (.int (4 : Int32)), .unset, .unset] [(.int (4 : Int32))])) t
      refine XS.iconst X0.here hx rfl (hb hby at_64) ?_
      show Steps p.tables e below (s₁.setTop (mkF m 65 #[.val (.int pa), .val (.int (4 : Int32)), .unset, .unset] [(.int (4 : Int32)), (.int (4 : Int32))])) t
      refine XS.icmpNo X0.here hx rfl (hb hby at_65) rfl (XT.ii_ne_f (by decide)) ?_
      exact kt
    obtain ⟨T9, X9, e9, st9⟩ := getS X0 hx hZ hown (host := "") (wdOf hw 21 rfl) Via.refl e0 S_DEAD (g := (mkF m 68 #[.val (.int pa), .val (.int (4 : Int32)), .unset, .unset] [])) rfl (hb hby at_68)
    refine Goes.go (U' := (T9.setTop (mkF m 71 #[.val (.int pa), .val (.int (4 : Int32)), .unset, .unset] [(.ref r_DEAD)]))) st9 ?_
    refine Goes.go (U' := (T9.setTop (mkF m 84 #[.val (.int pa), .val (.int (4 : Int32)), .val (.ref r_DEAD), .val (.int (1 : Int32))] [(.ref r_DEAD)]))) (fun t kt => ?_) ?_
    · show Steps p.tables e below (T9.setTop (mkF m 71 #[.val (.int pa), .val (.int (4 : Int32)), .unset, .unset] [(.ref r_DEAD)])) t
      refine XS.astoreN X9.here hx rfl (hb hby at_71) rfl rfl (l' := #[.val (.int pa), .val (.int (4 : Int32)), .val (.ref r_DEAD), .unset]) rfl ?_
      show Steps p.tables e below (T9.setTop (mkF m 72 #[.val (.int pa), .val (.int (4 : Int32)), .val (.ref r_DEAD), .unset] [])) t
      refine XS.iconst X9.here hx rfl (hb hby at_72) ?_
      show Steps p.tables e below (T9.setTop (mkF m 73 #[.val (.int pa), .val (.int (4 : Int32)), .val (.ref r_DEAD), .unset] [(.int (1 : Int32))])) t
      refine XS.istoreN X9.here hx rfl (hb hby at_73) rfl (l' := #[.val (.int pa), .val (.int (4 : Int32)), .val (.ref r_DEAD), .val (.int (1 : Int32))]) rfl ?_
      show Steps p.tables e below (T9.setTop (mkF m 74 #[.val (.int pa), .val (.int (4 : Int32)), .val (.ref r_DEAD), .val (.int (1 : Int32))] [])) t
      refine XS.goto X9.here hx rfl (pc0 := 74) (pc' := 83) rfl (hb hby at_74) (by decide) (by decide) ?_
      show Steps p.tables e below (T9.setTop (mkF m 83 #[.val (.int pa), .val (.int (4 : Int32)), .val (.ref r_DEAD), .val (.int (1 : Int32))] [])) t
      refine XS.aloadN X9.here hx rfl (hb hby at_83) rfl rfl ?_
      exact kt
    obtain ⟨v10, T10, L10, X10, q10, st10⟩ := callVirtual X9 hx hZ (y := (⟨"com/example/kilnroute/kilnroute/batch/BatchState", "isFinal", "()Z"⟩ : MethodName)) (z := (⟨"com/example/kilnroute/kilnroute/batch/BatchState", "isFinal", "()Z"⟩ : MethodName)) (W := 0) hown (wdOf hw 4 rfl) (wdOf hw 5 rfl) (notFace_of_selects (args := #[]) (mvT hZ (wdOf hw 7 rfl))) (wdOf hw 7 rfl) (wdOf hw 6 rfl) (wdOf hw 2 rfl) (wdOf hw 8 rfl) (by decide) (rm_fin l Z a0 hw [] r_DEAD r_SUCCESS r_DEAD r_KILLED (1 : Int32) h0 n0 Z0 S_SUCCESS S_DEAD S_KILLED (by simp [])) (by decide) (by decide) (by decide) (by decide) e9 E_DEAD (g := (mkF m 84 #[.val (.int pa), .val (.int (4 : Int32)), .val (.ref r_DEAD), .val (.int (1 : Int32))] [(.ref r_DEAD)])) rfl (by rw [hml]; rfl) (argsL := []) (rest := []) (lenOf pd_0 rfl) rfl rfl (Nat.le_refl _) (hb hby at_84)
    obtain ⟨rfl, n10, K10⟩ := q10
    have N10 := Fr.app N0 n10
    refine Goes.go (U' := (T10.setTop (mkF m 87 #[.val (.int pa), .val (.int (4 : Int32)), .val (.ref r_DEAD), .val (.int (1 : Int32))] [(.int (1 : Int32))]))) st10 ?_
    refine Goes.go (U' := (T10.setTop (mkF m 96 #[.val (.int pa), .val (.int (4 : Int32)), .val (.ref r_DEAD), .val (.int (1 : Int32))] [(.int (1 : Int32))]))) (fun t kt => ?_) ?_
    · show Steps p.tables e below (T10.setTop (mkF m 87 #[.val (.int pa), .val (.int (4 : Int32)), .val (.ref r_DEAD), .val (.int (1 : Int32))] [(.int (1 : Int32))])) t
      refine XS.iloadN X10.here hx rfl (hb hby at_87) rfl ?_
      show Steps p.tables e below (T10.setTop (mkF m 88 #[.val (.int pa), .val (.int (4 : Int32)), .val (.ref r_DEAD), .val (.int (1 : Int32))] [(.int (1 : Int32)), (.int (1 : Int32))])) t
      refine XS.icmpNo X10.here hx rfl (hb hby at_88) rfl (XT.ii_ne_f (by decide)) ?_
      show Steps p.tables e below (T10.setTop (mkF m 91 #[.val (.int pa), .val (.int (4 : Int32)), .val (.ref r_DEAD), .val (.int (1 : Int32))] [])) t
      refine XS.iconst X10.here hx rfl (hb hby at_91) ?_
      show Steps p.tables e below (T10.setTop (mkF m 92 #[.val (.int pa), .val (.int (4 : Int32)), .val (.ref r_DEAD), .val (.int (1 : Int32))] [(.int (1 : Int32))])) t
      refine XS.goto X10.here hx rfl (pc0 := 92) (pc' := 96) rfl (hb hby at_92) (by decide) (by decide) ?_
      exact kt
    refine Goes.retB X10 hx hlk hret (hb hby at_96) (by decide) (by decide) ?_
    try rw [K10]
    exact ⟨rfl, N10⟩
  · -- case 5
    rw [hk]
    refine Goes.go (U' := (s₁.setTop (mkF m 77 #[.val (.int pa), .val (.int (5 : Int32)), .unset, .unset] []))) (fun t kt => ?_) ?_
    · show Steps p.tables e below (s₁.setTop (mkF m 7 #[.val (.int pa), .unset, .unset, .unset] [(.int (5 : Int32))])) t
      refine XS.istoreN X0.here hx rfl (hb hby at_7) rfl (l' := #[.val (.int pa), .val (.int (5 : Int32)), .unset, .unset]) rfl ?_
      show Steps p.tables e below (s₁.setTop (mkF m 8 #[.val (.int pa), .val (.int (5 : Int32)), .unset, .unset] [])) t
      refine XS.iloadN X0.here hx rfl (hb hby at_8) rfl ?_
      show Steps p.tables e below (s₁.setTop (mkF m 9 #[.val (.int pa), .val (.int (5 : Int32)), .unset, .unset] [(.int (5 : Int32))])) t
      refine XS.ifYes X0.here hx rfl (pc0 := 9) (pc' := 21) rfl (hb hby at_9) rfl (XT.i0_ne_t (by decide)) (by decide) (by decide) ?_
      show Steps p.tables e below (s₁.setTop (mkF m 21 #[.val (.int pa), .val (.int (5 : Int32)), .unset, .unset] [])) t
      refine XS.iloadN X0.here hx rfl (hb hby at_21) rfl ?_
      show Steps p.tables e below (s₁.setTop (mkF m 22 #[.val (.int pa), .val (.int (5 : Int32)), .unset, .unset] [(.int (5 : Int32))])) t
      refine XS.iconst X0.here hx rfl (hb hby at_22) ?_
      show Steps p.tables e below (s₁.setTop (mkF m 23 #[.val (.int pa), .val (.int (5 : Int32)), .unset, .unset] [(.int (1 : Int32)), (.int (5 : Int32))])) t
      refine XS.icmpYes X0.here hx rfl (pc0 := 23) (pc' := 35) rfl (hb hby at_23) rfl (XT.ii_ne_t (by decide)) (by decide) (by decide) ?_
      show Steps p.tables e below (s₁.setTop (mkF m 35 #[.val (.int pa), .val (.int (5 : Int32)), .unset, .unset] [])) t
      refine XS.iloadN X0.here hx rfl (hb hby at_35) rfl ?_
      show Steps p.tables e below (s₁.setTop (mkF m 36 #[.val (.int pa), .val (.int (5 : Int32)), .unset, .unset] [(.int (5 : Int32))])) t
      refine XS.iconst X0.here hx rfl (hb hby at_36) ?_
      show Steps p.tables e below (s₁.setTop (mkF m 37 #[.val (.int pa), .val (.int (5 : Int32)), .unset, .unset] [(.int (2 : Int32)), (.int (5 : Int32))])) t
      refine XS.icmpYes X0.here hx rfl (pc0 := 37) (pc' := 49) rfl (hb hby at_37) rfl (XT.ii_ne_t (by decide)) (by decide) (by decide) ?_
      show Steps p.tables e below (s₁.setTop (mkF m 49 #[.val (.int pa), .val (.int (5 : Int32)), .unset, .unset] [])) t
      refine XS.iloadN X0.here hx rfl (hb hby at_49) rfl ?_
      show Steps p.tables e below (s₁.setTop (mkF m 50 #[.val (.int pa), .val (.int (5 : Int32)), .unset, .unset] [(.int (5 : Int32))])) t
      refine XS.iconst X0.here hx rfl (hb hby at_50) ?_
      show Steps p.tables e below (s₁.setTop (mkF m 51 #[.val (.int pa), .val (.int (5 : Int32)), .unset, .unset] [(.int (3 : Int32)), (.int (5 : Int32))])) t
      refine XS.icmpYes X0.here hx rfl (pc0 := 51) (pc' := 63) rfl (hb hby at_51) rfl (XT.ii_ne_t (by decide)) (by decide) (by decide) ?_
      show Steps p.tables e below (s₁.setTop (mkF m 63 #[.val (.int pa), .val (.int (5 : Int32)), .unset, .unset] [])) t
      refine XS.iloadN X0.here hx rfl (hb hby at_63) rfl ?_
      show Steps p.tables e below (s₁.setTop (mkF m 64 #[.val (.int pa), .val (.int (5 : Int32)), .unset, .unset] [(.int (5 : Int32))])) t
      refine XS.iconst X0.here hx rfl (hb hby at_64) ?_
      show Steps p.tables e below (s₁.setTop (mkF m 65 #[.val (.int pa), .val (.int (5 : Int32)), .unset, .unset] [(.int (4 : Int32)), (.int (5 : Int32))])) t
      refine XS.icmpYes X0.here hx rfl (pc0 := 65) (pc' := 77) rfl (hb hby at_65) rfl (XT.ii_ne_t (by decide)) (by decide) (by decide) ?_
      exact kt
    obtain ⟨T11, X11, e11, st11⟩ := getS X0 hx hZ hown (host := "") (wdOf hw 20 rfl) Via.refl e0 S_KILLED (g := (mkF m 77 #[.val (.int pa), .val (.int (5 : Int32)), .unset, .unset] [])) rfl (hb hby at_77)
    refine Goes.go (U' := (T11.setTop (mkF m 80 #[.val (.int pa), .val (.int (5 : Int32)), .unset, .unset] [(.ref r_KILLED)]))) st11 ?_
    refine Goes.go (U' := (T11.setTop (mkF m 84 #[.val (.int pa), .val (.int (5 : Int32)), .val (.ref r_KILLED), .val (.int (1 : Int32))] [(.ref r_KILLED)]))) (fun t kt => ?_) ?_
    · show Steps p.tables e below (T11.setTop (mkF m 80 #[.val (.int pa), .val (.int (5 : Int32)), .unset, .unset] [(.ref r_KILLED)])) t
      refine XS.astoreN X11.here hx rfl (hb hby at_80) rfl rfl (l' := #[.val (.int pa), .val (.int (5 : Int32)), .val (.ref r_KILLED), .unset]) rfl ?_
      show Steps p.tables e below (T11.setTop (mkF m 81 #[.val (.int pa), .val (.int (5 : Int32)), .val (.ref r_KILLED), .unset] [])) t
      refine XS.iconst X11.here hx rfl (hb hby at_81) ?_
      show Steps p.tables e below (T11.setTop (mkF m 82 #[.val (.int pa), .val (.int (5 : Int32)), .val (.ref r_KILLED), .unset] [(.int (1 : Int32))])) t
      refine XS.istoreN X11.here hx rfl (hb hby at_82) rfl (l' := #[.val (.int pa), .val (.int (5 : Int32)), .val (.ref r_KILLED), .val (.int (1 : Int32))]) rfl ?_
      show Steps p.tables e below (T11.setTop (mkF m 83 #[.val (.int pa), .val (.int (5 : Int32)), .val (.ref r_KILLED), .val (.int (1 : Int32))] [])) t
      refine XS.aloadN X11.here hx rfl (hb hby at_83) rfl rfl ?_
      exact kt
    obtain ⟨v12, T12, L12, X12, q12, st12⟩ := callVirtual X11 hx hZ (y := (⟨"com/example/kilnroute/kilnroute/batch/BatchState", "isFinal", "()Z"⟩ : MethodName)) (z := (⟨"com/example/kilnroute/kilnroute/batch/BatchState", "isFinal", "()Z"⟩ : MethodName)) (W := 0) hown (wdOf hw 4 rfl) (wdOf hw 5 rfl) (notFace_of_selects (args := #[]) (mvT hZ (wdOf hw 7 rfl))) (wdOf hw 7 rfl) (wdOf hw 6 rfl) (wdOf hw 2 rfl) (wdOf hw 8 rfl) (by decide) (rm_fin l Z a0 hw [] r_KILLED r_SUCCESS r_DEAD r_KILLED (1 : Int32) h0 n0 Z0 S_SUCCESS S_DEAD S_KILLED (by simp [])) (by decide) (by decide) (by decide) (by decide) e11 E_KILLED (g := (mkF m 84 #[.val (.int pa), .val (.int (5 : Int32)), .val (.ref r_KILLED), .val (.int (1 : Int32))] [(.ref r_KILLED)])) rfl (by rw [hml]; rfl) (argsL := []) (rest := []) (lenOf pd_0 rfl) rfl rfl (Nat.le_refl _) (hb hby at_84)
    obtain ⟨rfl, n12, K12⟩ := q12
    have N12 := Fr.app N0 n12
    refine Goes.go (U' := (T12.setTop (mkF m 87 #[.val (.int pa), .val (.int (5 : Int32)), .val (.ref r_KILLED), .val (.int (1 : Int32))] [(.int (1 : Int32))]))) st12 ?_
    refine Goes.go (U' := (T12.setTop (mkF m 96 #[.val (.int pa), .val (.int (5 : Int32)), .val (.ref r_KILLED), .val (.int (1 : Int32))] [(.int (1 : Int32))]))) (fun t kt => ?_) ?_
    · show Steps p.tables e below (T12.setTop (mkF m 87 #[.val (.int pa), .val (.int (5 : Int32)), .val (.ref r_KILLED), .val (.int (1 : Int32))] [(.int (1 : Int32))])) t
      refine XS.iloadN X12.here hx rfl (hb hby at_87) rfl ?_
      show Steps p.tables e below (T12.setTop (mkF m 88 #[.val (.int pa), .val (.int (5 : Int32)), .val (.ref r_KILLED), .val (.int (1 : Int32))] [(.int (1 : Int32)), (.int (1 : Int32))])) t
      refine XS.icmpNo X12.here hx rfl (hb hby at_88) rfl (XT.ii_ne_f (by decide)) ?_
      show Steps p.tables e below (T12.setTop (mkF m 91 #[.val (.int pa), .val (.int (5 : Int32)), .val (.ref r_KILLED), .val (.int (1 : Int32))] [])) t
      refine XS.iconst X12.here hx rfl (hb hby at_91) ?_
      show Steps p.tables e below (T12.setTop (mkF m 92 #[.val (.int pa), .val (.int (5 : Int32)), .val (.ref r_KILLED), .val (.int (1 : Int32))] [(.int (1 : Int32))])) t
      refine XS.goto X12.here hx rfl (pc0 := 92) (pc' := 96) rfl (hb hby at_92) (by decide) (by decide) ?_
      exact kt
    refine Goes.retB X12 hx hlk hret (hb hby at_96) (by decide) (by decide) ?_
    try rw [K12]
    exact ⟨rfl, N12⟩
set_option maxRecDepth 65536 in
set_option maxHeartbeats 40000000 in
theorem comes_1 {Post : Tables → Env → Array Value → State → Outcome → State → Prop} (hpost : ∀ tb e args s v u, (limb_1_1.after args s (.returned v) u = true ∧ limb_1_2.after args s (.returned v) u = true) → FrameEnd s (.returned v) u (Jvm.fieldLocs frame_1_writes args s ++ Jvm.arrayLocs frame_1_arrays args s ++ Jvm.staticLocs frame_1_statics s) 0 0 → Post tb e args s (.returned v) u) :
    ArmFor flags0 classFile x code maxLocals ret World_1 tables_1 room_1 Calls_1 rest_1 Pre_1 Post := by
  intro l hfl _ _ p e ha hc hk s m args below hf hA hF happ hP
  obtain ⟨hcalls, hrest, hpre⟩ := hP
  obtain ⟨-, -, -, hnamed, -, -, -, hat⟩ := (Spec.applies_iff hf).mp happ
  obtain ⟨hg, hn⟩ := and_e (Cond.before_iff.mp (show (Jvm.Cond.and given_1 narrow_1).before args s = true from hpre))
  obtain ⟨gc, gs⟩ := and_e hg
  have ga0 := gs
  obtain ⟨w0, rfl⟩ : ∃ w0 : Value, args = #[w0] := by
    have hs : args.size = 1 := by simpa [Cond.value, given_1] using gc
    obtain ⟨L⟩ := args
    match L, hs with
    | [w0], _ => exact ⟨w0, rfl⟩
  have hw := fun d (hd : d ∈ tables_1) => atoms_spec (ws := Jvm.Cond.code x code maxLocals ret :: tables_1) hat d (List.mem_cons_of_mem _ hd)
  have hfit : Fit s := fun {y c} hc i hi => by
    obtain ⟨ha, rfl⟩ := Array.getElem?_eq_some_iff.mp hc
    have q := List.all_eq_true.mp ((Array.all_eq_true_iff_forall_mem.mp hF) _ (Array.getElem_mem ha)) i (List.mem_range.mpr hi)
    simpa [Array.getElem?_eq_getElem hi] using q
  obtain ⟨i0, ei0⟩ := is_v ga0
  obtain rfl : w0 = (.int i0) := Option.some.inj ei0
  obtain ⟨hn0, hn⟩ := and_e hn
  obtain ⟨hn1, hn⟩ := and_e hn
  obtain ⟨hn2, hn⟩ := and_e hn
  obtain ⟨hn3, hn⟩ := and_e hn
  obtain ⟨hn4, hn⟩ := and_e hn
  obtain ⟨hn5, hn⟩ := and_e hn
  obtain ⟨hn6, hn⟩ := and_e hn
  obtain ⟨hn7, hn⟩ := and_e hn
  obtain ⟨hn8, hn⟩ := and_e hn
  obtain ⟨hn9, hn⟩ := and_e hn
  obtain ⟨hn10, hn⟩ := and_e hn
  have hn11 := hn
  obtain ⟨r_NOT_STARTED, ev_NOT_STARTED⟩ := exa_v hn0
  have E_NOT_STARTED : Exa s s.heap r_NOT_STARTED "com/example/kilnroute/kilnroute/batch/BatchState" := Exa.start ev_NOT_STARTED hn0
  have S_NOT_STARTED : Sta s s.heap "com/example/kilnroute/kilnroute/batch/BatchState" "NOT_STARTED" "Lcom/example/kilnroute/kilnroute/batch/BatchState;" (.ref r_NOT_STARTED) := Sta.start ev_NOT_STARTED (Or.inr ⟨(wdOf hw 2 rfl), (wdOf hw 3 rfl)⟩)
  obtain ⟨r_SUCCESS, ev_SUCCESS⟩ := exa_v hn1
  have E_SUCCESS : Exa s s.heap r_SUCCESS "com/example/kilnroute/kilnroute/batch/BatchState" := Exa.start ev_SUCCESS hn1
  have S_SUCCESS : Sta s s.heap "com/example/kilnroute/kilnroute/batch/BatchState" "SUCCESS" "Lcom/example/kilnroute/kilnroute/batch/BatchState;" (.ref r_SUCCESS) := Sta.start ev_SUCCESS (Or.inr ⟨(wdOf hw 2 rfl), (wdOf hw 10 rfl)⟩)
  obtain ⟨r_DEAD, ev_DEAD⟩ := exa_v hn4
  have E_DEAD : Exa s s.heap r_DEAD "com/example/kilnroute/kilnroute/batch/BatchState" := Exa.start ev_DEAD hn4
  have S_DEAD : Sta s s.heap "com/example/kilnroute/kilnroute/batch/BatchState" "DEAD" "Lcom/example/kilnroute/kilnroute/batch/BatchState;" (.ref r_DEAD) := Sta.start ev_DEAD (Or.inr ⟨(wdOf hw 2 rfl), (wdOf hw 12 rfl)⟩)
  obtain ⟨r_KILLED, ev_KILLED⟩ := exa_v hn6
  have E_KILLED : Exa s s.heap r_KILLED "com/example/kilnroute/kilnroute/batch/BatchState" := Exa.start ev_KILLED hn6
  have S_KILLED : Sta s s.heap "com/example/kilnroute/kilnroute/batch/BatchState" "KILLED" "Lcom/example/kilnroute/kilnroute/batch/BatchState;" (.ref r_KILLED) := Sta.start ev_KILLED (Or.inr ⟨(wdOf hw 2 rfl), (wdOf hw 14 rfl)⟩)
  obtain ⟨r_RUNNING, ev_RUNNING⟩ := exa_v hn8
  have E_RUNNING : Exa s s.heap r_RUNNING "com/example/kilnroute/kilnroute/batch/BatchState" := Exa.start ev_RUNNING hn8
  have S_RUNNING : Sta s s.heap "com/example/kilnroute/kilnroute/batch/BatchState" "RUNNING" "Lcom/example/kilnroute/kilnroute/batch/BatchState;" (.ref r_RUNNING) := Sta.start ev_RUNNING (Or.inr ⟨(wdOf hw 2 rfl), (wdOf hw 17 rfl)⟩)
  obtain ⟨r_STARTING, ev_STARTING⟩ := exa_v hn10
  have E_STARTING : Exa s s.heap r_STARTING "com/example/kilnroute/kilnroute/batch/BatchState" := Exa.start ev_STARTING hn10
  have S_STARTING : Sta s s.heap "com/example/kilnroute/kilnroute/batch/BatchState" "STARTING" "Lcom/example/kilnroute/kilnroute/batch/BatchState;" (.ref r_STARTING) := Sta.start ev_STARTING (Or.inr ⟨(wdOf hw 2 rfl), (wdOf hw 19 rfl)⟩)
  have F_ordinal_NOT_STARTED : Fld s s.heap r_NOT_STARTED "java/lang/Enum" "ordinal" "I" (.int (0 : Int32)) := Fld.start ((fld_at ev_NOT_STARTED).symm.trans (eqInt_v hn2))
  have F_ordinal_SUCCESS : Fld s s.heap r_SUCCESS "java/lang/Enum" "ordinal" "I" (.int (3 : Int32)) := Fld.start ((fld_at ev_SUCCESS).symm.trans (eqInt_v hn3))
  have F_ordinal_DEAD : Fld s s.heap r_DEAD "java/lang/Enum" "ordinal" "I" (.int (4 : Int32)) := Fld.start ((fld_at ev_DEAD).symm.trans (eqInt_v hn5))
  have F_ordinal_KILLED : Fld s s.heap r_KILLED "java/lang/Enum" "ordinal" "I" (.int (5 : Int32)) := Fld.start ((fld_at ev_KILLED).symm.trans (eqInt_v hn7))
  have F_ordinal_RUNNING : Fld s s.heap r_RUNNING "java/lang/Enum" "ordinal" "I" (.int (2 : Int32)) := Fld.start ((fld_at ev_RUNNING).symm.trans (eqInt_v hn9))
  have F_ordinal_STARTING : Fld s s.heap r_STARTING "java/lang/Enum" "ordinal" "I" (.int (1 : Int32)) := Fld.start ((fld_at ev_STARTING).symm.trans (eqInt_v hn11))
  obtain ⟨n, o, h1, h2, h3, _, L, rfl, ⟨rfl, N⟩, hq⟩ := rm_law l s _ hw tables_1 i0 r_NOT_STARTED r_STARTING r_RUNNING r_SUCCESS r_DEAD r_KILLED s.heap s.heap.size (Nat.le_refl _) S_NOT_STARTED S_STARTING S_RUNNING S_SUCCESS S_DEAD S_KILLED E_NOT_STARTED E_STARTING E_RUNNING E_SUCCESS E_DEAD E_KILLED (Fld.ne F_ordinal_NOT_STARTED F_ordinal_SUCCESS (by decide)) (Fld.ne F_ordinal_NOT_STARTED F_ordinal_DEAD (by decide)) (Fld.ne F_ordinal_NOT_STARTED F_ordinal_KILLED (by decide)) (Fld.ne F_ordinal_STARTING F_ordinal_SUCCESS (by decide)) (Fld.ne F_ordinal_STARTING F_ordinal_DEAD (by decide)) (Fld.ne F_ordinal_STARTING F_ordinal_KILLED (by decide)) (Fld.ne F_ordinal_RUNNING F_ordinal_SUCCESS (by decide)) (Fld.ne F_ordinal_RUNNING F_ordinal_DEAD (by decide)) (Fld.ne F_ordinal_RUNNING F_ordinal_KILLED (by decide))  p e ha hc hk s m _ below hf ((Spec.applies_iff_loose hf).mp happ).1 ⟨rfl, State.Warmed39.refl s, rfl⟩ trivial
  refine ⟨n, _, h1, h2, h3, hpost _ _ _ _ _ _ ⟨Cond.after_iff.mpr rfl, Cond.after_iff.mpr (eq_i res_at (Term.int_eval (1)) rfl)⟩ ⟨hq.1, hq.2.1, (hq.2.2.sift fun y hy => Or.inr (N y hy)).mono (by decide) (by decide)⟩⟩
theorem main_1_1 : Claimed_1_1 := comes_1 fun _ _ _ _ _ _ h hF => ⟨h.1, hF⟩
theorem main_1_2 : Claimed_1_2 := comes_1 fun _ _ _ _ _ _ h hF => ⟨h.2, hF⟩
end Jvm.Pilot.@@N@@
namespace Jvm.Pilot.@@N@@
open Jvm Jvm.ClassFile Sem Op Lib Jvm.Free Jvm.Stand Jvm.Pilot.@@N@@.Jvm.D
/-! MADE BY PROGRAM (witnessworld.py) out of the Statement's table words and the real class files: 12 classes; the members and pool entries that the words name. The judged class is class 1, her method 1. -/
namespace start1
open Jvm.ClassFile
def u (s : String) : CpInfo := .utf8 (stringToUtf16 s)
/-- a pool by its gaps: so many unusable entries, then the entry; so many at the end -/
def gap : Nat → List CpInfo → List CpInfo
  | 0, r => r
  | n + 1, r => .unusable :: gap n r
def poolList (es : List (Nat × CpInfo)) (last : Nat) : List CpInfo := es.foldr (fun e r => gap e.1 (e.2 :: r)) (gap last [])
def pool (es : List (Nat × CpInfo)) (last : Nat) : Array CpInfo := ⟨poolList es last⟩
def fileOf (pool : Array CpInfo) (this : Nat) (attrs : Array Attribute := #[]) (ms : Array MethodInfo := #[]) (fl : Nat := 33) (sup : Nat := 0) (ifs : Array Nat := #[]) (fds : Array FieldInfo := #[]) : ClassFile where
  minorVersion := 0
  majorVersion := 65
  constantPool := pool
  accessFlags := fl
  thisClass := this
  superClass := sup
  interfaces := ifs
  fields := fds
  methods := ms
  attributes := attrs
def plain (name : String) (sup : Option ClassId) : Class where
  name := name
  kind := .ordinary
  loader := none
  accessFlags := 33
  super := sup
  interfaces := #[]
  cf := none
  fields := #[]
  methods := #[]
  instanceTypes := #[]
  staticTypes := #[]
  resolved := #[]
  callSites := []
  init := .initialized
  statics := none
  mirror := none

def pool0 : Array CpInfo := pool [(5, u "<init>"), (0, u "()V"), (1, .class_ 10), (1, u "java/lang/Object")] 113

def k0m0 : Method := { name := "<init>", desc := "()V", sig := { parameters := [], returnType := none }, accessFlags := 1, code := none }
/-- java/lang/Object -/
def k0 : Class := { plain "java/lang/Object" none with
  accessFlags := 33
  interfaces := #[]
  cf := some (fileOf pool0 8 #[] #[{ accessFlags := 1, nameIndex := 5, descriptorIndex := 6, attributes := #[] }] 33 0 #[] #[])
  fields := #[]
  methods := #[k0m0]
  instanceTypes := #[]
  staticTypes := #[]
  resolved := Array.replicate 124 none
  statics := none }

def pool1 : Array CpInfo := pool [(2, .class_ 4), (1, u "java/lang/Object"), (0, u "<init>"), (0, u "()V"), (0, .integer 2147483647), (0, .fieldref 9 10), (0, .class_ 11), (0, .nameAndType 12 13), (0, u "com/example/kilnroute/kilnroute/batch/BatchState"), (0, u "NOT_STARTED"), (0, u "Lcom/example/kilnroute/kilnroute/batch/BatchState;"), (0, .fieldref 9 15), (0, .nameAndType 16 13), (0, u "STARTING"), (0, .fieldref 9 18), (0, .nameAndType 19 13), (0, u "RUNNING"), (0, .fieldref 9 21), (0, .nameAndType 22 13), (0, u "SUCCESS"), (0, .fieldref 9 24), (0, .nameAndType 25 13), (0, u "DEAD"), (0, .fieldref 9 27), (0, .nameAndType 28 13), (0, u "KILLED"), (0, .methodref 9 30), (0, .nameAndType 31 32), (0, u "isFinal"), (0, u "()Z"), (0, .class_ 34), (0, u "com/example/kilnroute/kilnroute/batch/BatchStateIsFinalPinLaw"), (2, u "law"), (0, u "(I)Z")] 3

def k1m0 : Method := { name := "<init>", desc := "()V", sig := { parameters := [], returnType := none }, accessFlags := 1, code := none }
def k1c1 : Code := { maxStack := 2, maxLocals := 4, code := code, exceptionTable := #[], attributes := #[] }
def k1m1 : Method := { name := "law", desc := "(I)Z", sig := { parameters := [.int], returnType := some .boolean }, accessFlags := 9, code := some k1c1 }
/-- com/example/kilnroute/kilnroute/batch/BatchStateIsFinalPinLaw -/
def k1 : Class := { plain "com/example/kilnroute/kilnroute/batch/BatchStateIsFinalPinLaw" (some 0) with
  accessFlags := 49
  interfaces := #[]
  cf := some (fileOf pool1 33 #[] #[{ accessFlags := 1, nameIndex := 5, descriptorIndex := 6, attributes := #[] }, { accessFlags := 9, nameIndex := 37, descriptorIndex := 38, attributes := #[] }] 49 2 #[] #[])
  fields := #[]
  methods := #[k1m0, k1m1]
  instanceTypes := #[]
  staticTypes := #[]
  resolved := Array.replicate 42 none
  statics := none }

def pool2 : Array CpInfo := pool [(1, .class_ 2), (0, u "java/lang/constant/Constable"), (0, .class_ 4), (0, u "java/lang/Object")] 6

/-- java/lang/constant/Constable -/
def k2 : Class := { plain "java/lang/constant/Constable" (some 0) with
  accessFlags := 1537
  interfaces := #[]
  cf := some (fileOf pool2 1 #[] #[] 1537 3 #[] #[])
  fields := #[]
  methods := #[]
  instanceTypes := #[]
  staticTypes := #[]
  resolved := Array.replicate 11 none
  statics := none }

def pool3 : Array CpInfo := pool [(1, .class_ 2), (0, u "java/lang/Comparable"), (0, .class_ 4), (0, u "java/lang/Object")] 7

/-- java/lang/Comparable -/
def k3 : Class := { plain "java/lang/Comparable" (some 0) with
  accessFlags := 1537
  interfaces := #[]
  cf := some (fileOf pool3 1 #[] #[] 1537 3 #[] #[])
  fields := #[]
  methods := #[]
  instanceTypes := #[]
  staticTypes := #[]
  resolved := Array.replicate 12 none
  statics := none }

def pool4 : Array CpInfo := pool [(1, .class_ 2), (0, u "java/io/Serializable"), (0, .class_ 4), (0, u "java/lang/Object")] 2

/-- java/io/Serializable -/
def k4 : Class := { plain "java/io/Serializable" (some 0) with
  accessFlags := 1537
  interfaces := #[]
  cf := some (fileOf pool4 1 #[] #[] 1537 3 #[] #[])
  fields := #[]
  methods := #[]
  instanceTypes := #[]
  staticTypes := #[]
  resolved := Array.replicate 7 none
  statics := none }

def pool5 : Array CpInfo := pool [(2, .class_ 4), (1, u "java/lang/Enum"), (0, u "name"), (0, u "Ljava/lang/String;"), (2, u "ordinal"), (0, u "I"), (1, .class_ 14), (1, u "java/lang/Object"), (4, u "hash"), (86, .class_ 108), (1, u "java/lang/Enum$EnumDesc"), (2, .class_ 112), (0, u "java/lang/constant/Constable"), (0, .class_ 114), (0, u "java/lang/Comparable"), (0, .class_ 116), (0, u "java/io/Serializable")] 87

/-- java/lang/Enum -/
def k5 : Class := { plain "java/lang/Enum" (some 0) with
  accessFlags := 1057
  interfaces := #[2, 3, 4]
  cf := some (fileOf pool5 2 #[.nestMembers #[106]] #[] 1057 12 #[111, 113, 115] #[{ accessFlags := 18, nameIndex := 5, descriptorIndex := 6, attributes := #[] }, { accessFlags := 18, nameIndex := 9, descriptorIndex := 10, attributes := #[] }, { accessFlags := 2, nameIndex := 19, descriptorIndex := 10, attributes := #[] }])
  fields := #[{ name := "name", type := (.object "java/lang/String"), accessFlags := 18, slot := 0, constantValue := 0 }, { name := "ordinal", type := .int, accessFlags := 18, slot := 1, constantValue := 0 }, { name := "hash", type := .int, accessFlags := 2, slot := 2, constantValue := 0 }]
  methods := #[]
  instanceTypes := #[(.object "java/lang/String"), .int, .int]
  staticTypes := #[]
  resolved := Array.replicate 204 none
  statics := none }

def pool6 : Array CpInfo := pool [(1, .class_ 2), (0, u "com/example/kilnroute/kilnroute/batch/BatchState"), (2, u "NOT_STARTED"), (0, u "Lcom/example/kilnroute/kilnroute/batch/BatchState;"), (2, u "STARTING"), (2, u "RUNNING"), (0, .fieldref 1 14), (0, .nameAndType 15 6), (0, u "SUCCESS"), (0, .fieldref 1 17), (0, .nameAndType 18 6), (0, u "DEAD"), (0, .fieldref 1 20), (0, .nameAndType 21 6), (0, u "KILLED"), (2, u "$VALUES"), (0, u "[Lcom/example/kilnroute/kilnroute/batch/BatchState;"), (6, .class_ 34), (1, u "java/lang/Enum"), (45, u "isFinal"), (0, u "()Z")] 7

def k6c0 : Code := { maxStack := 2, maxLocals := 1, code := prog_1_method_4_code, exceptionTable := #[], attributes := #[] }
def k6m0 : Method := { name := "isFinal", desc := "()Z", sig := { parameters := [], returnType := some .boolean }, accessFlags := 1, code := some k6c0 }
/-- com/example/kilnroute/kilnroute/batch/BatchState -/
def k6 : Class := { plain "com/example/kilnroute/kilnroute/batch/BatchState" (some 5) with
  accessFlags := 16433
  interfaces := #[]
  cf := some (fileOf pool6 1 #[] #[{ accessFlags := 1, nameIndex := 80, descriptorIndex := 81, attributes := #[] }] 16433 32 #[] #[{ accessFlags := 16409, nameIndex := 5, descriptorIndex := 6, attributes := #[] }, { accessFlags := 16409, nameIndex := 9, descriptorIndex := 6, attributes := #[] }, { accessFlags := 16409, nameIndex := 12, descriptorIndex := 6, attributes := #[] }, { accessFlags := 16409, nameIndex := 15, descriptorIndex := 6, attributes := #[] }, { accessFlags := 16409, nameIndex := 18, descriptorIndex := 6, attributes := #[] }, { accessFlags := 16409, nameIndex := 21, descriptorIndex := 6, attributes := #[] }, { accessFlags := 4122, nameIndex := 24, descriptorIndex := 25, attributes := #[] }])
  fields := #[{ name := "NOT_STARTED", type := (.object "com/example/kilnroute/kilnroute/batch/BatchState"), accessFlags := 16409, slot := 0, constantValue := 0 }, { name := "STARTING", type := (.object "com/example/kilnroute/kilnroute/batch/BatchState"), accessFlags := 16409, slot := 1, constantValue := 0 }, { name := "RUNNING", type := (.object "com/example/kilnroute/kilnroute/batch/BatchState"), accessFlags := 16409, slot := 2, constantValue := 0 }, { name := "SUCCESS", type := (.object "com/example/kilnroute/kilnroute/batch/BatchState"), accessFlags := 16409, slot := 3, constantValue := 0 }, { name := "DEAD", type := (.object "com/example/kilnroute/kilnroute/batch/BatchState"), accessFlags := 16409, slot := 4, constantValue := 0 }, { name := "KILLED", type := (.object "com/example/kilnroute/kilnroute/batch/BatchState"), accessFlags := 16409, slot := 5, constantValue := 0 }, { name := "$VALUES", type := (.array (.object "com/example/kilnroute/kilnroute/batch/BatchState")), accessFlags := 4122, slot := 6, constantValue := 0 }]
  methods := #[k6m0]
  instanceTypes := #[(.object "java/lang/String"), .int, .int]
  staticTypes := #[(.object "com/example/kilnroute/kilnroute/batch/BatchState"), (.object "com/example/kilnroute/kilnroute/batch/BatchState"), (.object "com/example/kilnroute/kilnroute/batch/BatchState"), (.object "com/example/kilnroute/kilnroute/batch/BatchState"), (.object "com/example/kilnroute/kilnroute/batch/BatchState"), (.object "com/example/kilnroute/kilnroute/batch/BatchState"), (.array (.object "com/example/kilnroute/kilnroute/batch/BatchState"))]
  resolved := Array.replicate 89 none
  statics := some 0 }

def pool7 : Array CpInfo := pool [(1, u "java/lang/Cloneable"), (0, .class_ 1), (0, u "java/lang/Object"), (0, .class_ 3)] 3

/-- java/lang/Cloneable -/
def k7 : Class := { plain "java/lang/Cloneable" (some 0) with
  accessFlags := 1537
  interfaces := #[]
  cf := some (fileOf pool7 2 #[] #[] 1537 4 #[] #[])
  fields := #[]
  methods := #[]
  instanceTypes := #[]
  staticTypes := #[]
  resolved := Array.replicate 8 none
  statics := none }

/-- the primitive byte -/
def k8 : Class := { plain "byte" none with kind := .primitive 'B', accessFlags := 0x411 }
/-- [B -/
def k9 : Class := { plain "[B" (some 0) with kind := .array 8 .byte, interfaces := #[7, 4], accessFlags := 1041 }

/-- the primitive int -/
def k10 : Class := { plain "int" none with kind := .primitive 'I', accessFlags := 0x411 }
/-- [I -/
def k11 : Class := { plain "[I" (some 0) with kind := .array 10 .int, interfaces := #[7, 4], accessFlags := 1041 }

def heap : Heap := #[{ cls := 6, slots := #[.ref 1, .ref 2, .ref 3, .ref 4, .ref 5, .ref 6, .null], vm := .statics 6 },
  { cls := 6, slots := #[.null, .int 0, .int 0], vm := .none },
  { cls := 6, slots := #[.null, .int 1, .int 0], vm := .none },
  { cls := 6, slots := #[.null, .int 2, .int 0], vm := .none },
  { cls := 6, slots := #[.null, .int 3, .int 0], vm := .none },
  { cls := 6, slots := #[.null, .int 4, .int 0], vm := .none },
  { cls := 6, slots := #[.null, .int 5, .int 0], vm := .none }]
def classes : Array Class := #[k0, k1, k2, k3, k4, k5, k6, k7, k8, k9, k10, k11]
def interned : List (Array UInt16 × Addr) := []
def slotsUsed : Nat := 25
def theMethod : MethodId := ⟨1, 1⟩
def args0 : Array Value := #[.int 5]
def aboutOver (below : List Frame) : State where
  vm := { classes := classes, interned := interned.toArray }
  heap := heap
  slotsUsed := slotsUsed
  threads := #[{ frames := .invoking theMethod args0 :: below }]
def below0 : List Frame := [.native { method := ⟨0, 0⟩, args := #[] }]
def about1 : State := aboutOver below0
def p0 : Program := .bare "" "" ""
def e0 : Env := launch0.env 0 0 0
theorem w_frames : about1.frames = Frame.invoking theMethod args0 :: below0 := rfl
set_option maxRecDepth 65536 in
theorem w_args : argsFit about1.vm theMethod args0 = true := by decide +kernel
set_option maxRecDepth 65536 in
theorem w_heap : heapFits about1 = true := by decide +kernel
set_option maxRecDepth 65536 in
theorem w_runnable : about1.curStatus? = some .runnable := by decide +kernel
set_option maxRecDepth 65536 in
theorem w_alone : about1.alone = true := by decide +kernel
set_option maxRecDepth 65536 in
theorem w_named : about1.methodNamed? x = some theMethod := by decide +kernel
set_option maxRecDepth 65536 in
theorem w_hears : about1.hears theMethod below0 = true := by decide +kernel
set_option maxRecDepth 65536 in
theorem w_ripe : about1.ripe theMethod args0 below0 = true := by decide +kernel
theorem w_running : about1.status = .running := rfl
set_option maxRecDepth 65536 in
theorem w_room : about1.hasRoom e0.platform room_1 = true :=
  launch0.hasRoom_least _ room_1 (by decide +kernel) (by decide +kernel) (by decide +kernel) (by decide +kernel) (by decide +kernel) (by decide +kernel)
theorem allAtoms_all (ts : List Jvm.Cond) (a : Array Jvm.Value) (st : Jvm.State) : (allAtoms ts).before a st = ts.all (fun c => c.before a st) := by
  induction ts with
  | nil => rfl
  | cons c t ih =>
    show (Jvm.Cond.and c (allAtoms t)).before a st = _
    rw [Jvm.Cond.before_and, ih, List.all_cons]
def words1 : List Jvm.Cond := Jvm.Cond.code x code maxLocals ret :: tables_1
/-- a 'code' word, met by the world's own term for the bytes: nothing is compared byte by byte -/
theorem code_word {y : MethodName} {bytes : ByteArray} {mx : Nat} {rt : Option FieldType} {a : Array Value} {s : State} {m : MethodId} {meth : Method} {c : Code} (h1 : s.methodNamed? y = some m) (h2 : s.vm.method? m = some meth) (h3 : meth.code = some c) (h4 : c.code = bytes)
    (h5 : (c.maxLocals == mx && c.exceptionTable.isEmpty && decide (c.maxStack ≤ mostOperands) && decide (meth.sig.returnType = rt) && !meth.locks && decide (parseMethodDescriptor y.desc = some meth.sig)) = true) : (Jvm.Cond.code y bytes mx rt).before a s = true := by
  simp only [Bool.and_eq_true, beq_iff_eq, Bool.not_eq_true', decide_eq_true_eq] at h5
  obtain ⟨⟨⟨⟨⟨g1, g2⟩, g3⟩, g4⟩, g5⟩, g6⟩ := h5
  simp [Cond.before, Cond.holds, Cond.value, h1, h2, h3, h4, g1, g2, g3, g4, g5, g6]
def isCode : Jvm.Cond → Bool
  | .code _ _ _ _ => true
  | _ => false
theorem all_split {L : List Jvm.Cond} {P : Jvm.Cond → Bool} (h1 : L.all (fun c => isCode c || P c) = true) (h2 : ∀ c ∈ L.filter isCode, P c = true) : L.all P = true := by
  refine List.all_eq_true.mpr fun c hc => ?_
  have h := List.all_eq_true.mp h1 c hc
  rcases Bool.eq_false_or_eq_true (isCode c) with hi | hi
  · exact h2 c (List.mem_filter.mpr ⟨hc, hi⟩)
  · simpa [hi] using h
set_option maxRecDepth 65536 in
theorem w_c0 : (Jvm.Cond.code x code maxLocals ret).before args0 about1 = true := code_word (m := ⟨1, 1⟩) (meth := k1m1) (c := k1c1) (by decide +kernel) rfl rfl rfl (by decide +kernel)
set_option maxRecDepth 65536 in
theorem w_c1 : (Jvm.Cond.code ({ cls := "com/example/kilnroute/kilnroute/batch/BatchState", name := "isFinal", desc := "()Z" } : Jvm.MethodName) prog_1_method_4_code (1 : Nat) (Option.some Jvm.ClassFile.FieldType.boolean)).before args0 about1 = true := code_word (m := ⟨6, 0⟩) (meth := k6m0) (c := k6c0) (by decide +kernel) rfl rfl rfl (by decide +kernel)
def codes1 : List Jvm.Cond := [Jvm.Cond.code x code maxLocals ret, Jvm.Cond.code ({ cls := "com/example/kilnroute/kilnroute/batch/BatchState", name := "isFinal", desc := "()Z" } : Jvm.MethodName) prog_1_method_4_code (1 : Nat) (Option.some Jvm.ClassFile.FieldType.boolean)]
set_option maxRecDepth 65536 in
theorem codes_eq : words1.filter isCode = codes1 := rfl
theorem w_codes : ∀ c ∈ words1.filter isCode, c.before args0 about1 = true := by
  rw [codes_eq]
  intro c hc
  simp only [codes1, List.mem_cons, List.not_mem_nil, or_false] at hc
  rcases hc with rfl | rfl
  · exact w_c0
  · exact w_c1
set_option maxRecDepth 65536 in
theorem w_t1 : words1.all (fun c => isCode c || c.before args0 about1) = true := by decide +kernel
theorem w_tables : (allAtoms (Jvm.Cond.code x code maxLocals ret :: tables_1)).before args0 about1 = true := by
  rw [allAtoms_all]
  show words1.all (fun c => c.before args0 about1) = true
  refine all_split ?_ w_codes
  rw [w_t1]
set_option maxRecDepth 65536 in
theorem w_case : (Jvm.Cond.and given_1 narrow_1).before args0 about1 = true := by decide +kernel
theorem w_applies : (headSpec (Jvm.Cond.code x code maxLocals ret :: tables_1) room_1).applies x e0.platform about1 = true :=
  (Spec.applies_iff w_frames).mpr ⟨w_running, w_runnable, w_alone, w_named, w_hears, w_ripe, w_room, w_tables⟩
theorem atStart : AtStart classFile x code maxLocals ret World_1 tables_1 room_1 Calls_1 rest_1 Pre_1 launch0 p0 e0 about1 theMethod args0 below0 :=
  ⟨lists_1, trivial, launch0.admits_env _ _ _, launch0.least_env, fairChoices_fair.cas, fairChoices_fair.clock, w_frames, w_args, w_heap, w_applies, trivial, trivial, w_case⟩
end start1
theorem witness_1 : WitnessClaimed_1 := ⟨start1.p0, start1.e0, start1.about1, start1.theMethod, start1.args0, start1.below0, start1.atStart⟩
end Jvm.Pilot.@@N@@
