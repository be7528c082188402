import JvmDerived
import JvmDerived.Pilot.@@N@@Statement
import JvmDerived.Pilot.@@N@@Code
set_option linter.unusedVariables false
set_option linter.unusedSimpArgs false
namespace Jvm.RoadKit
open Sem ClassFile Op Lib Jvm.Stand Jvm.Free Jvm.LawKit
abbrev jv (x : Int64) : Slot := .val (.long x)
abbrev ux : Slot := .unset
abbrev sx_ : Slot := .second
section Own
variable {p : Program} {l : Launch} {e : Env} {R : Room} {s : State} {m : MethodId} {args : Array Value} {below : List Frame} {meth : Method} {c : Code} {T U U' : State} {locs : List Loc} {cells slots : Nat} {Z : State} {a0 : Array Value} {h : Heap} {Q : Option Value → Heap → List Loc → Prop} {C S : Nat}
/-- what is left to show at a point of a walk: from U the body comes to its end, and Q holds there -/
def Goes (p : Program) (e : Env) (s : State) (below : List Frame) (Q : Option Value → Heap → List Loc → Prop) (C S : Nat) (U : State) : Prop :=
  ∃ s₂ o, Steps p.tables e below U s₂ ∧ s₂.status = .running ∧ Ended s₂ below o ∧ ∃ v L, o = .returned v ∧ Q v s₂.heap L ∧ FrameEnd s o s₂ L C S
theorem Goes.go (st : ∀ t, Steps p.tables e below U' t → Steps p.tables e below U t) (k : Goes p e s below Q C S U') : Goes p e s below Q C S U := by
  obtain ⟨s₂, o, h1, h2⟩ := k
  exact ⟨s₂, o, st _ h1, h2⟩
theorem Goes.leave {v : Option Value} (X : Stand p l e R s m args below meth c T locs cells slots) (hlk : meth.locks = false) (hv : meth.sig.returnType = none → v = none) (hQ : Q v T.heap locs) (hc : cells ≤ C) (hs : slots ≤ S)
    (st : ∀ fs, (∀ (f : JFrame) (acts : List Action), f.method = m → f.locked = none → f.entered = [] → (doReturn e (T.setTop f) acts v).1 = T.setFrames fs) → Steps p.tables e below U (T.setFrames fs)) : Goes p e s below Q C S U := by
  obtain ⟨fs, hr, hrun, hended, hW, hsame⟩ := X.leave (v := v) hv hlk
  exact ⟨_, _, st fs hr, hrun, hended, _, _, rfl, hQ, ⟨_, rfl⟩, hW, hsame.mono hc hs⟩
theorem Goes.retB {pc : Nat} {Ls : Array Slot} {z : Int32} {rest : List Value} (X : Stand p l e R s m args below meth c T locs cells slots) (hx : p.tables.exec = Jvm.exec) (hlk : meth.locks = false) (hret : meth.sig.returnType = some .boolean) (hd : decode c.code pc = .ok (.ireturn, 1)) (hc : cells ≤ C) (hs : slots ≤ S) (hQ : Q (some (.int (nar .boolean z))) T.heap locs) : Goes p e s below Q C S (T.setTop (mkF m pc Ls (.int z :: rest))) :=
  Goes.leave X hlk (fun h => by rw [hret] at h; cases h) hQ hc hs fun fs hr => retN X hx (t := .boolean) hret (by simp) hd hr
theorem Goes.retC {pc : Nat} {Ls : Array Slot} {z : Int32} {rest : List Value} (X : Stand p l e R s m args below meth c T locs cells slots) (hx : p.tables.exec = Jvm.exec) (hlk : meth.locks = false) (hret : meth.sig.returnType = some .char) (hd : decode c.code pc = .ok (.ireturn, 1)) (hc : cells ≤ C) (hs : slots ≤ S) (hQ : Q (some (.int (nar .char z))) T.heap locs) : Goes p e s below Q C S (T.setTop (mkF m pc Ls (.int z :: rest))) :=
  Goes.leave X hlk (fun h => by rw [hret] at h; cases h) hQ hc hs fun fs hr => retN X hx (t := .char) hret (by simp) hd hr
theorem Goes.retI {pc : Nat} {Ls : Array Slot} {z : Int32} {rest : List Value} (X : Stand p l e R s m args below meth c T locs cells slots) (hx : p.tables.exec = Jvm.exec) (hlk : meth.locks = false) (hret : meth.sig.returnType = some .int) (hd : decode c.code pc = .ok (.ireturn, 1)) (hc : cells ≤ C) (hs : slots ≤ S) (hQ : Q (some (.int z)) T.heap locs) : Goes p e s below Q C S (T.setTop (mkF m pc Ls (.int z :: rest))) :=
  Goes.leave X hlk (fun h => by rw [hret] at h; cases h) hQ hc hs fun fs hr => retOut X hx hret rfl (Or.inl ⟨rfl, Or.inl rfl, _, rfl⟩) hd hr
theorem Goes.retJ {pc : Nat} {Ls : Array Slot} {z : Int64} {rest : List Value} (X : Stand p l e R s m args below meth c T locs cells slots) (hx : p.tables.exec = Jvm.exec) (hlk : meth.locks = false) (hret : meth.sig.returnType = some .long) (hd : decode c.code pc = .ok (.lreturn, 1)) (hc : cells ≤ C) (hs : slots ≤ S) (hQ : Q (some (.long z)) T.heap locs) : Goes p e s below Q C S (T.setTop (mkF m pc Ls (.long z :: rest))) :=
  Goes.leave X hlk (fun h => by rw [hret] at h; cases h) hQ hc hs fun fs hr => retOut X hx hret rfl (Or.inr (Or.inl ⟨rfl, rfl, _, rfl⟩)) hd hr
theorem narrow_ref {t : FieldType} {v : Value} (hv : v.isRef = true) (ht : t.isReference = true) : narrow t v = v := by
  rcases ref_cases hv with rfl | ⟨a, rfl⟩ <;> cases t <;> first | rfl | cases ht
theorem Goes.retA {pc : Nat} {Ls : Array Slot} {v : Value} {t : FieldType} {rest : List Value} (X : Stand p l e R s m args below meth c T locs cells slots) (hx : p.tables.exec = Jvm.exec) (hlk : meth.locks = false) (hret : meth.sig.returnType = some t) (ht : t.isReference = true) (hv : v.isRef = true) (hd : decode c.code pc = .ok (.areturn, 1)) (hc : cells ≤ C) (hs : slots ≤ S) (hQ : Q (some v) T.heap locs) : Goes p e s below Q C S (T.setTop (mkF m pc Ls (v :: rest))) :=
  Goes.leave X hlk (fun h => by rw [hret] at h; cases h) hQ hc hs fun fs hr => retOut X hx hret (narrow_ref hv ht) (Or.inr (Or.inr (Or.inr (Or.inr ⟨rfl, ht, hv⟩)))) hd hr
theorem Goes.retV {pc : Nat} {Ls : Array Slot} (X : Stand p l e R s m args below meth c T locs cells slots) (hx : p.tables.exec = Jvm.exec) (hlk : meth.locks = false) (hret : meth.sig.returnType = none) (hd : decode c.code pc = .ok (.return_, 1)) (hc : cells ≤ C) (hs : slots ≤ S) (hQ : Q none T.heap locs) : Goes p e s below Q C S (T.setTop (mkF m pc Ls [])) :=
  Goes.leave X hlk (fun _ => rfl) hQ hc hs fun fs hr => X.returnOut hx hret hd hr
/-- a body's contract: with these arguments over this heap it returns, and Q holds -/
def Pays (l : Launch) (Z : State) (y : MethodName) (bytes : ByteArray) (maxL : Nat) (ret : Option FieldType) (ws : List Jvm.Cond) (rm : Room) (as' : Array Value) (h : Heap) (Q : Option Value → Heap → List Loc → Prop) : Prop :=
  MetFree l y (head1 (Jvm.Cond.code y bytes maxL ret :: ws) rm) (fun a U => a = as' ∧ Z.Warmed39 U.vm ∧ U.heap = h) (fun _ _ _ _ _ => True) (fun _ U o U' => ∃ v L, o = .returned v ∧ Q v U'.heap L ∧ FrameEnd U o U' L rm.cells rm.slots)
theorem Pays.of {y : MethodName} {bytes : ByteArray} {maxL : Nat} {ret : Option FieldType} {ws : List Jvm.Cond} {rm : Room} {as' : Array Value} (hpl : plainFor y = true)
    (body : ∀ (p : Program) (e : Env) (s : State) (m : MethodId) (below : List Frame) (meth : Method) (c : Code) (s₁ : State), p.tables.exec = Jvm.exec → c.code = bytes → c.maxLocals = maxL → s.vm.findClass y.cls = some m.cls → meth.name = y.name → meth.sig.returnType = ret → meth.locks = false → Z.Warmed39 s.vm → s₁.heap = h → Stand p l e rm s m as' below meth c s₁ [] 0 0 → Goes p e s below Q rm.cells rm.slots (s₁.setTop (entryFrame m as' maxL))) :
    Pays l Z y bytes maxL ret ws rm as' h Q := by
  refine MetFree.of_bodySF hpl hisR ?_
  intro p e s m args below meth c s₁ Bd hml hP hK
  obtain ⟨rfl, hZ, hh⟩ := hP
  obtain ⟨s₂, o, h1, h2, h3, h4⟩ := body p e s m below meth c s₁ Bd.exec Bd.bytes hml (findClass_of_methodNamed Bd.named) (name_of_methodNamed Bd.named Bd.method).1 Bd.returns Bd.notSynchronized hZ (by rw [← hh, Bd.state]; rfl) (Stand.of_body Bd)
  exact ⟨s₂, o, h1, h2, h3, h4⟩
theorem callStatic (X : Stand p l e R s m args below meth c T locs cells slots) (hx : p.tables.exec = Jvm.exec) (hZ : Z.Warmed39 s.vm) {own : String} {index : Nat} {y : MethodName} {bytes : ByteArray} {maxL W : Nat} {ret : Option FieldType} {rm : Room} {as' : Array Value}
    (hown : s.vm.findClass own = some m.cls) (w1 : (Jvm.Cond.methodLink own index y).before a0 Z = true) (w2 : (Jvm.Cond.static y).before a0 Z = true) (w3 : (Jvm.Cond.initialized y.cls).before a0 Z = true) (w4 : (Jvm.Cond.code y bytes maxL ret).before a0 Z = true) (hy : y.cls ≠ "java/lang/invoke/MethodHandle" ∧ y.cls ≠ "java/lang/invoke/VarHandle")
    (M : Pays l Z y bytes maxL ret [] rm as' h Q) (hf : rm.frames + 1 ≤ R.frames) (hl : W + (maxL + 11) + rm.locals ≤ R.locals) (hc : cells + rm.cells ≤ R.cells) (hs : slots + rm.slots ≤ R.slots) (eT : T.heap = h)
    {g : JFrame} (hg : g.method = m) (hsize : g.locals.size = c.maxLocals) {argsL rest : List Value} (hlen : ∀ sig, parseMethodDescriptor y.desc = some sig → argsL.length = sig.parameters.length) (hstack : g.stack = argsL.reverse ++ rest) (has : argsL.toArray = as') (hW : 2 * g.monitorRoom + (rest.map fun v => v.category).sum ≤ W) (hdg : decode c.code g.pc = .ok (.invokestatic index, 3)) :
    ∃ (v : Option Value) (T' : State) (L : List Loc), Stand p l e R s m args below meth c T' (locs ++ L) (cells + rm.cells) (slots + rm.slots) ∧ Q v T'.heap L ∧ ∀ t, Steps p.tables e below (T'.setTop { g with pc := g.pc + 3, stack := v.toList ++ rest }) t → Steps p.tables e below (T.setTop g) t := by
  obtain ⟨v, vm1, ⟨T', L', k', n'⟩, -, X', ⟨Lc, hQ, l1, y1, z1⟩, st⟩ := Jvm.LawKit.callS X hx (y := y) hown (mvT hZ w1) (mvT hZ w2) (mvT hZ w3) (mvT hZ w4) hy (backOf (W := W) M hZ w4 w3 hf hl) hg hsize (argsL := argsL) (rest := rest) hlen hstack hW hdg (fun _ _ => ⟨has, eT, hc, hs⟩)
  dsimp only [Pt.U, Pt.locs, Pt.cells, Pt.slots] at X' l1 y1 z1 st hQ
  subst l1 y1 z1
  exact ⟨v, T', Lc, X', hQ, st⟩
theorem callVirtual (X : Stand p l e R s m args below meth c T locs cells slots) (hx : p.tables.exec = Jvm.exec) (hZ : Z.Warmed39 s.vm) {own K : String} {index : Nat} {y z : MethodName} {bytes : ByteArray} {maxL W : Nat} {ret : Option FieldType} {rm : Room} {as' : Array Value}
    (hown : s.vm.findClass own = some m.cls) (w1 : (Jvm.Cond.methodLink own index y).before a0 Z = true) (w2 : (Jvm.Cond.declares y).before a0 Z = true) (nf : NotFace s y) (w3 : (Jvm.Cond.selects K y z).before a0 Z = true) (w5 : (Jvm.Cond.instanceMethod z).before a0 Z = true) (w6 : (Jvm.Cond.initialized z.cls).before a0 Z = true) (w4 : (Jvm.Cond.code z bytes maxL ret).before a0 Z = true) (hy : y.cls ≠ "java/lang/invoke/MethodHandle" ∧ y.cls ≠ "java/lang/invoke/VarHandle")
    (M : Pays l Z z bytes maxL ret [] rm as' h Q) (hf : rm.frames + 1 ≤ R.frames) (hl : W + (maxL + 11) + rm.locals ≤ R.locals) (hc : cells + rm.cells ≤ R.cells) (hs : slots + rm.slots ≤ R.slots) (eT : T.heap = h) {b : Addr} (E : Exa Z h b K)
    {g : JFrame} (hg : g.method = m) (hsize : g.locals.size = c.maxLocals) {argsL rest : List Value} (hlen : ∀ sig, parseMethodDescriptor y.desc = some sig → argsL.length = sig.parameters.length) (hstack : g.stack = argsL.reverse ++ .ref b :: rest) (has : (.ref b :: argsL).toArray = as') (hW : 2 * g.monitorRoom + (rest.map fun v => v.category).sum ≤ W) (hdg : decode c.code g.pc = .ok (.invokevirtual index, 3)) :
    ∃ (v : Option Value) (T' : State) (L : List Loc), Stand p l e R s m args below meth c T' (locs ++ L) (cells + rm.cells) (slots + rm.slots) ∧ Q v T'.heap L ∧ ∀ t, Steps p.tables e below (T'.setTop { g with pc := g.pc + 3, stack := v.toList ++ rest }) t → Steps p.tables e below (T.setTop g) t := by
  obtain ⟨cq, kq, qa, -, qc⟩ := isOf (T := T) hZ eT E
  obtain ⟨v, vm1, ⟨T', L', k', n'⟩, -, X', ⟨Lc, hQ, l1, y1, z1⟩, st⟩ := X.virtualBack hx (y := y) (z := z) hown (mvT hZ w1) (mvT hZ w2) nf (mvT hZ w3) (mvT hZ w5) hy (backOf (W := W) M hZ w4 w6 hf hl) qa qc hg hsize (Steps.refl _) (argsL := argsL) (rest := rest) hlen hstack hW hdg (fun _ _ => ⟨has, eT, hc, hs⟩)
  dsimp only [Pt.U, Pt.locs, Pt.cells, Pt.slots] at X' l1 y1 z1 st hQ
  subst l1 y1 z1
  exact ⟨v, T', Lc, X', hQ, fun t k => st.trans k⟩
theorem callInit (X : Stand p l e R s m args below meth c T locs cells slots) (hx : p.tables.exec = Jvm.exec) (hZ : Z.Warmed39 s.vm) {own : String} {index : Nat} {y : MethodName} {bytes : ByteArray} {maxL W : Nat} {rm : Room} {as' : Array Value}
    (hy1 : y.name = "<init>") (hown : s.vm.findClass own = some m.cls) (w1 : (Jvm.Cond.methodLink own index y).before a0 Z = true) (w5 : (Jvm.Cond.instanceMethod y).before a0 Z = true) (w6 : (Jvm.Cond.initialized y.cls).before a0 Z = true) (w4 : (Jvm.Cond.code y bytes maxL none).before a0 Z = true) (hy : y.cls ≠ "java/lang/invoke/MethodHandle" ∧ y.cls ≠ "java/lang/invoke/VarHandle")
    (M : Pays l Z y bytes maxL none [] rm as' h Q) (hf : rm.frames + 1 ≤ R.frames) (hl : W + (maxL + 11) + rm.locals ≤ R.locals) (hc : cells + rm.cells ≤ R.cells) (hs : slots + rm.slots ≤ R.slots) (eT : T.heap = h) {b : Addr}
    {g : JFrame} (hg : g.method = m) (hsize : g.locals.size = c.maxLocals) {argsL rest : List Value} (hlen : ∀ sig, parseMethodDescriptor y.desc = some sig → argsL.length = sig.parameters.length) (hstack : g.stack = argsL.reverse ++ .ref b :: rest) (has : (.ref b :: argsL).toArray = as') (hW : 2 * g.monitorRoom + (rest.map fun v => v.category).sum ≤ W) (hdg : decode c.code g.pc = .ok (.invokespecial index, 3)) :
    ∃ (v : Option Value) (T' : State) (L : List Loc), Stand p l e R s m args below meth c T' (locs ++ L) (cells + rm.cells) (slots + rm.slots) ∧ Q v T'.heap L ∧ ∀ t, Steps p.tables e below (T'.setTop { g with pc := g.pc + 3, stack := v.toList ++ rest }) t → Steps p.tables e below (T.setTop g) t := by
  obtain ⟨v, vm1, ⟨T', L', k', n'⟩, -, X', ⟨Lc, hQ, l1, y1, z1⟩, st⟩ := X.specialBack hx (y := y) hy1 hown (mvT hZ w1) (mvT hZ w5) (mvT hZ w4) hy (backOf (W := W) M hZ w4 w6 hf hl) hg hsize (Steps.refl _) (a := b) (argsL := argsL) (rest := rest) hlen hstack hW hdg (fun _ _ => ⟨has, eT, hc, hs⟩)
  dsimp only [Pt.U, Pt.locs, Pt.cells, Pt.slots] at X' l1 y1 z1 st hQ
  subst l1 y1 z1
  exact ⟨v, T', Lc, X', hQ, fun t k => st.trans k⟩
theorem callPrivate (X : Stand p l e R s m args below meth c T locs cells slots) (hx : p.tables.exec = Jvm.exec) (hZ : Z.Warmed39 s.vm) {own K : String} {index kk : Nat} {y : MethodName} {bytes : ByteArray} {maxL W : Nat} {ret : Option FieldType} {rm : Room} {as' : Array Value}
    (hown : s.vm.findClass own = some m.cls) (w1 : (Jvm.Cond.methodLink own index y).before a0 Z = true) (w5 : (Jvm.Cond.instanceMethod y).before a0 Z = true) (wp : (Jvm.Cond.privateMethod y).before a0 Z = true) (wi : (Jvm.Cond.instantiable y.cls kk).before a0 Z = true) (w6 : (Jvm.Cond.initialized y.cls).before a0 Z = true) (w4 : (Jvm.Cond.code y bytes maxL ret).before a0 Z = true) (hy : y.cls ≠ "java/lang/invoke/MethodHandle" ∧ y.cls ≠ "java/lang/invoke/VarHandle")
    (M : Pays l Z y bytes maxL ret [] rm as' h Q) (hf : rm.frames + 1 ≤ R.frames) (hl : W + (maxL + 11) + rm.locals ≤ R.locals) (hc : cells + rm.cells ≤ R.cells) (hs : slots + rm.slots ≤ R.slots) (eT : T.heap = h) {b : Addr} (E : Exa Z h b K)
    {g : JFrame} (hg : g.method = m) (hsize : g.locals.size = c.maxLocals) {argsL rest : List Value} (hlen : ∀ sig, parseMethodDescriptor y.desc = some sig → argsL.length = sig.parameters.length) (hstack : g.stack = argsL.reverse ++ .ref b :: rest) (has : (.ref b :: argsL).toArray = as') (hW : 2 * g.monitorRoom + (rest.map fun v => v.category).sum ≤ W) (hdg : decode c.code g.pc = .ok (.invokevirtual index, 3)) :
    ∃ (v : Option Value) (T' : State) (L : List Loc), Stand p l e R s m args below meth c T' (locs ++ L) (cells + rm.cells) (slots + rm.slots) ∧ Q v T'.heap L ∧ ∀ t, Steps p.tables e below (T'.setTop { g with pc := g.pc + 3, stack := v.toList ++ rest }) t → Steps p.tables e below (T.setTop g) t := by
  obtain ⟨cc, kc, i1, i2, -, i4, -⟩ := Cond.instantiable_spec (mvT (args := args) hZ wi)
  have i5 : kc.isInterface = false := by cases hq : kc.isInterface <;> simp_all
  have hpr := Cond.privateMethod_at (mvP (args := #[]) hZ wp)
  obtain ⟨cell, c1, c2⟩ := E.cell
  obtain ⟨v, vm1, ⟨T', L', k', n'⟩, -, X', ⟨Lc, hQ, l1, y1, z1⟩, st⟩ := X.privateBack hx (y := y) hown (mvT hZ w1) (mvT hZ w5) (selects_self_of_private i1 i2 i5 hpr (mvT hZ w5) hy) hpr (mvT hZ w4) hy (backOf (W := W) M hZ w4 w6 hf hl) hg hsize (Steps.refl _) (a := b) (cell := cell) (by rw [eT]; exact c1) c2 (argsL := argsL) (rest := rest) hlen hstack hW hdg (fun _ _ => ⟨has, eT, hc, hs⟩)
  dsimp only [Pt.U, Pt.locs, Pt.cells, Pt.slots] at X' l1 y1 z1 st hQ
  subst l1 y1 z1
  exact ⟨v, T', Lc, X', hQ, fun t k => st.trans k⟩
theorem callFace (X : Stand p l e R s m args below meth c T locs cells slots) (hx : p.tables.exec = Jvm.exec) (hZ : Z.Warmed39 s.vm) {own K : String} {index count : Nat} {y z : MethodName} {bytes : ByteArray} {maxL W : Nat} {ret : Option FieldType} {rm : Room} {as' : Array Value}
    (hown : s.vm.findClass own = some m.cls) (w1 : (Jvm.Cond.methodLink own index y).before a0 Z = true) (w2 : (Jvm.Cond.declares y).before a0 Z = true) (wf : (Jvm.Cond.interfaceMethod y.cls y.cls y.name y.desc).before args s = true) (w3 : (Jvm.Cond.selects K y z).before a0 Z = true) (w5 : (Jvm.Cond.instanceMethod z).before a0 Z = true) (wp : (Jvm.Cond.publicMethod z).before a0 Z = true) (wu : (Jvm.Cond.unhidden K y.name y.desc).before a0 Z = true) (wc : (Jvm.Cond.castable K y.cls).before a0 Z = true) (w6 : (Jvm.Cond.initialized z.cls).before a0 Z = true) (w4 : (Jvm.Cond.code z bytes maxL ret).before a0 Z = true) (hy : y.cls ≠ "java/lang/invoke/MethodHandle" ∧ y.cls ≠ "java/lang/invoke/VarHandle")
    (M : Pays l Z z bytes maxL ret [] rm as' h Q) (hf : rm.frames + 1 ≤ R.frames) (hl : W + (maxL + 11) + rm.locals ≤ R.locals) (hc : cells + rm.cells ≤ R.cells) (hs : slots + rm.slots ≤ R.slots) (eT : T.heap = h) {b : Addr} (E : Exa Z h b K)
    {g : JFrame} (hg : g.method = m) (hsize : g.locals.size = c.maxLocals) {argsL rest : List Value} (hlen : ∀ sig, parseMethodDescriptor y.desc = some sig → argsL.length = sig.parameters.length) (hstack : g.stack = argsL.reverse ++ .ref b :: rest) (has : (.ref b :: argsL).toArray = as') (hW : 2 * g.monitorRoom + (rest.map fun v => v.category).sum ≤ W) (hdg : decode c.code g.pc = .ok (.invokeinterface index count, 5)) :
    ∃ (v : Option Value) (T' : State) (L : List Loc), Stand p l e R s m args below meth c T' (locs ++ L) (cells + rm.cells) (slots + rm.slots) ∧ Q v T'.heap L ∧ ∀ t, Steps p.tables e below (T'.setTop { g with pc := g.pc + 5, stack := v.toList ++ rest }) t → Steps p.tables e below (T.setTop g) t := by
  obtain ⟨cq, kq, qa, qb, qc⟩ := isOf (T := T) hZ eT E
  obtain ⟨v, vm1, ⟨T', L', k', n'⟩, -, X', ⟨Lc, hQ, l1, y1, z1⟩, st⟩ := X.interfaceBack hx (xi := y) (y := z) hown (mvT hZ w1) (mvT hZ w2) wf (mvT hZ w3) (mvT hZ w5) (mvT hZ wp) (mvT hZ wu) (mvT hZ wc) hy (backOf (W := W) M hZ w4 w6 hf hl) qa qb qc hg hsize (Steps.refl _) (argsL := argsL) (rest := rest) hlen hstack hW hdg (fun _ _ => ⟨has, eT, hc, hs⟩)
  dsimp only [Pt.U, Pt.locs, Pt.cells, Pt.slots] at X' l1 y1 z1 st hQ
  subst l1 y1 z1
  exact ⟨v, T', Lc, X', hQ, fun t k => st.trans k⟩
theorem castV (X : Stand p l e R s m args below meth c T locs cells slots) (hx : p.tables.exec = Jvm.exec) (hZ : Z.Warmed39 s.vm) {own K : String} {index : Nat} (hown : s.vm.findClass own = some m.cls) (w : (Jvm.Cond.classLink own index K).before a0 Z = true) (eT : T.heap = h) {v : Value} (F : v = .null ∨ ∃ a, v = .ref a ∧ Ins Z h a K true)
    {g : JFrame} (hg : g.method = m) {rest : List Value} (hs : g.stack = v :: rest) (hd : decode c.code g.pc = .ok (.checkcast index, 3)) : ∃ T', Stand p l e R s m args below meth c T' locs cells slots ∧ T'.heap = h ∧ ∀ target, Steps p.tables e below (T'.setTop { g with pc := g.pc + 3 }) target → Steps p.tables e below (T.setTop g) target := by
  rcases F with rfl | ⟨a, rfl, I⟩
  · exact ⟨T, X, eT, fun t k => X.checkcastNull hx (g := g) hg hs hd t k⟩
  · exact castY X hx hZ hown w eT I hg hs hd
theorem moreRoom {cells' slots' : Nat} (X : Stand p l e R s m args below meth c T locs cells slots) (h1 : cells ≤ cells') (h2 : slots ≤ slots') : Stand p l e R s m args below meth c T locs cells' slots' :=
  { X with same := X.same.mono h1 h2 }
theorem wdOf {ts : List Jvm.Cond} (hw : ∀ d ∈ ts, d.before a0 Z = true) {d : Jvm.Cond} (k : Nat) (hk : ts[k]? = some d) : d.before a0 Z = true := hw _ (List.mem_of_getElem? hk)
end Own
end Jvm.RoadKit
namespace Jvm.RoadKit
open Sem ClassFile Op Lib Jvm.Stand Jvm.Free Jvm.LawKit
section OwnWords
variable {args : Array Value} {first s : State} {o : Option Outcome} {idx : List Nat} {t : Term}
theorem eqInt_v {k : Int32} (h : (Jvm.Cond.eq t (.int k)).value args first o s idx = some true) : t.eval args first o idx s = some (.int k) := by
  simp only [Jvm.Cond.value, Term.eval] at h
  cases ht : t.eval args first o idx s with
  | none => simp [ht] at h
  | some x => cases x <;> simp [ht] at h ⊢; exact h
theorem fits_of_ref {ty : FieldType} {v : Value} (hv : v.isRef = true) (ht : ty.isReference = true) : fits ty v = true := by
  rcases ref_cases hv with rfl | ⟨a, rfl⟩ <;> cases ty <;> first | rfl | cases ht
theorem Sta.keepN {Z : State} {h h' : Heap} {C n d : String} {v : Value} {ws : List Addr} (F : Sta Z h C n d v) (K : Keep h h' ws) (hn : ∀ a ∈ ws, ∃ c : Cell, h[a]? = some c ∧ ∀ q, c.vm ≠ .statics q) : Sta Z h' C n d v := by
  obtain ⟨cf, i, k, f, st, cell, h1, h2, h3, h4, h5, h6, h7⟩ := F
  refine ⟨cf, i, k, f, st, cell, h1, h2, h3, h4, K.2.1 _ _ h5 fun hm => ?_, h6, h7⟩
  obtain ⟨c, g1, g2⟩ := hn st hm
  cases h5.symm.trans g1
  cases hq : cell.vm <;> first | (rw [hq] at h6; exact Bool.noConfusion h6) | exact g2 _ hq
theorem NSr {Z : State} {a0 : Array Value} {O K : String} {n : Nat} (w : (Jvm.Cond.noSuperclass O).before a0 Z = true) (wi : (Jvm.Cond.instantiable K n).before a0 Z = true) (hn : O ≠ K) : NS Z O K := by
  obtain ⟨c, k, h1, h2, h3, -, -⟩ := Cond.noSuperclass_spec w
  obtain ⟨t, kt, g1, -⟩ := Cond.instantiable_spec wi
  refine ⟨c, t, h1, g1, fun fuel => ?_⟩
  cases fuel with
  | zero => rfl
  | succ f => simp [Vm.isSubclassAux, ids_ne h1 g1 hn, h2, h3]
theorem NSno {Z : State} {a0 : Array Value} {C S K : String} {n : Nat} (w : (Jvm.Cond.superclass C S).before a0 Z = true) (wi : (Jvm.Cond.instantiable K n).before a0 Z = true) (q : NS Z C K) (hn : C ≠ K) : ∃ c t, Z.vm.findClass C = some c ∧ Z.vm.findClass K = some t ∧ Z.vm.assignable c t = false := by
  obtain ⟨c, t, h0, g0, n3⟩ := q
  obtain ⟨_, k, _, -, h2, -, -, h5, -, -⟩ := Cond.superclass_spec h0 w
  obtain ⟨t', k', g1, g2, g5, g7, -⟩ := Cond.instantiable_spec wi
  cases g0.symm.trans g1
  have g8 : k'.isInterface = false := by cases hq : k'.isInterface <;> simp_all
  refine ⟨c, t, h0, g0, ?_⟩
  show Z.vm.assignableAux (255 + 1) c t = false
  simp [Vm.assignableAux, ids_ne h0 g0 hn, h2, g2, h5, g5, g8, Vm.isSubclass, n3]
theorem Ext.of_keep {h h' : Heap} (K : Keep h h' []) : Ext h h' := ⟨K.1, fun a c q => K.2.1 a c q nin0⟩
theorem Keep.of_ext {h h' : Heap} (E : Ext h h') (ws : List Addr) : Keep h h' ws := (Keep.refl h ws).ext E
theorem ofInt {x : Int32} (n : Int32) (h : x.toInt = n.toInt) : x = n := Int32.toInt_inj.mp h
end OwnWords
end Jvm.RoadKit
namespace Jvm.Pilot.@@N@@
open Jvm Jvm.ClassFile Sem Op Lib Jvm.Free Jvm.Stand Jvm.LawKit Jvm.RoadKit Bundle Jvm.Pilot.@@N@@.Jvm.D
theorem pd_0 : parseMethodDescriptor "(I)Lcom/example/thistle/thistle/language/Operator;" = some ⟨[.int], some (.object "com/example/thistle/thistle/language/Operator")⟩ := by decide +kernel
theorem pd_1 : parseMethodDescriptor "()Z" = some ⟨[], some .boolean⟩ := by decide +kernel
theorem own_mod (p : Int32) : (p &&& 2147483647) % 13 = 0 ∨ (p &&& 2147483647) % 13 = 1 ∨ (p &&& 2147483647) % 13 = 2 ∨ (p &&& 2147483647) % 13 = 3 ∨ (p &&& 2147483647) % 13 = 4 ∨ (p &&& 2147483647) % 13 = 5 ∨ (p &&& 2147483647) % 13 = 6 ∨ (p &&& 2147483647) % 13 = 7 ∨ (p &&& 2147483647) % 13 = 8 ∨ (p &&& 2147483647) % 13 = 9 ∨ (p &&& 2147483647) % 13 = 10 ∨ (p &&& 2147483647) % 13 = 11 ∨ (p &&& 2147483647) % 13 = 12 := by
  have h1 := c_mask p 2147483647 31 (by decide) (by decide)
  obtain ⟨h2, -⟩ := c_irem (p &&& 2147483647) 13 13 (by decide)
  have h3 := h2 (by omega)
  have : ((p &&& 2147483647) % 13).toInt = 0 ∨ ((p &&& 2147483647) % 13).toInt = 1 ∨ ((p &&& 2147483647) % 13).toInt = 2 ∨ ((p &&& 2147483647) % 13).toInt = 3 ∨ ((p &&& 2147483647) % 13).toInt = 4 ∨ ((p &&& 2147483647) % 13).toInt = 5 ∨ ((p &&& 2147483647) % 13).toInt = 6 ∨ ((p &&& 2147483647) % 13).toInt = 7 ∨ ((p &&& 2147483647) % 13).toInt = 8 ∨ ((p &&& 2147483647) % 13).toInt = 9 ∨ ((p &&& 2147483647) % 13).toInt = 10 ∨ ((p &&& 2147483647) % 13).toInt = 11 ∨ ((p &&& 2147483647) % 13).toInt = 12 := by omega
  rcases this with h | h | h | h | h | h | h | h | h | h | h | h | h
  · exact Or.inl (ofInt 0 h)
  · exact Or.inr (Or.inl (ofInt 1 h))
  · exact Or.inr (Or.inr (Or.inl (ofInt 2 h)))
  · exact Or.inr (Or.inr (Or.inr (Or.inl (ofInt 3 h))))
  · exact Or.inr (Or.inr (Or.inr (Or.inr (Or.inl (ofInt 4 h)))))
  · exact Or.inr (Or.inr (Or.inr (Or.inr (Or.inr (Or.inl (ofInt 5 h))))))
  · exact Or.inr (Or.inr (Or.inr (Or.inr (Or.inr (Or.inr (Or.inl (ofInt 6 h)))))))
  · exact Or.inr (Or.inr (Or.inr (Or.inr (Or.inr (Or.inr (Or.inr (Or.inl (ofInt 7 h))))))))
  · exact Or.inr (Or.inr (Or.inr (Or.inr (Or.inr (Or.inr (Or.inr (Or.inr (Or.inl (ofInt 8 h)))))))))
  · exact Or.inr (Or.inr (Or.inr (Or.inr (Or.inr (Or.inr (Or.inr (Or.inr (Or.inr (Or.inl (ofInt 9 h))))))))))
  · exact Or.inr (Or.inr (Or.inr (Or.inr (Or.inr (Or.inr (Or.inr (Or.inr (Or.inr (Or.inr (Or.inl (ofInt 10 h)))))))))))
  · exact Or.inr (Or.inr (Or.inr (Or.inr (Or.inr (Or.inr (Or.inr (Or.inr (Or.inr (Or.inr (Or.inr (Or.inl (ofInt 11 h))))))))))))
  · exact Or.inr (Or.inr (Or.inr (Or.inr (Or.inr (Or.inr (Or.inr (Or.inr (Or.inr (Or.inr (Or.inr (Or.inr ((ofInt 12 h)))))))))))))
theorem d_rm_pick_0 : decode method_3_code 0 = .ok (.iload_n 0, 1) := by decide +kernel
theorem d_rm_pick_1 : decode method_3_code 1 = .ok (.ifCond .ne 7, 3) := by decide +kernel
theorem d_rm_pick_4 : decode method_3_code 4 = .ok (.getstatic 20, 3) := by decide +kernel
theorem d_rm_pick_7 : decode method_3_code 7 = .ok (.areturn, 1) := by decide +kernel
theorem d_rm_pick_8 : decode method_3_code 8 = .ok (.iload_n 0, 1) := by decide +kernel
theorem d_rm_pick_9 : decode method_3_code 9 = .ok (.iconst 1, 1) := by decide +kernel
theorem d_rm_pick_10 : decode method_3_code 10 = .ok (.if_icmp .ne 7, 3) := by decide +kernel
theorem d_rm_pick_13 : decode method_3_code 13 = .ok (.getstatic 24, 3) := by decide +kernel
theorem d_rm_pick_16 : decode method_3_code 16 = .ok (.areturn, 1) := by decide +kernel
theorem d_rm_pick_17 : decode method_3_code 17 = .ok (.iload_n 0, 1) := by decide +kernel
theorem d_rm_pick_18 : decode method_3_code 18 = .ok (.iconst 2, 1) := by decide +kernel
theorem d_rm_pick_19 : decode method_3_code 19 = .ok (.if_icmp .ne 7, 3) := by decide +kernel
theorem d_rm_pick_22 : decode method_3_code 22 = .ok (.getstatic 27, 3) := by decide +kernel
theorem d_rm_pick_25 : decode method_3_code 25 = .ok (.areturn, 1) := by decide +kernel
theorem d_rm_pick_26 : decode method_3_code 26 = .ok (.iload_n 0, 1) := by decide +kernel
theorem d_rm_pick_27 : decode method_3_code 27 = .ok (.iconst 3, 1) := by decide +kernel
theorem d_rm_pick_28 : decode method_3_code 28 = .ok (.if_icmp .ne 7, 3) := by decide +kernel
theorem d_rm_pick_31 : decode method_3_code 31 = .ok (.getstatic 30, 3) := by decide +kernel
theorem d_rm_pick_34 : decode method_3_code 34 = .ok (.areturn, 1) := by decide +kernel
theorem d_rm_pick_35 : decode method_3_code 35 = .ok (.iload_n 0, 1) := by decide +kernel
theorem d_rm_pick_36 : decode method_3_code 36 = .ok (.iconst 4, 1) := by decide +kernel
theorem d_rm_pick_37 : decode method_3_code 37 = .ok (.if_icmp .ne 7, 3) := by decide +kernel
theorem d_rm_pick_40 : decode method_3_code 40 = .ok (.getstatic 33, 3) := by decide +kernel
theorem d_rm_pick_43 : decode method_3_code 43 = .ok (.areturn, 1) := by decide +kernel
theorem d_rm_pick_44 : decode method_3_code 44 = .ok (.iload_n 0, 1) := by decide +kernel
theorem d_rm_pick_45 : decode method_3_code 45 = .ok (.iconst 5, 1) := by decide +kernel
theorem d_rm_pick_46 : decode method_3_code 46 = .ok (.if_icmp .ne 7, 3) := by decide +kernel
theorem d_rm_pick_49 : decode method_3_code 49 = .ok (.getstatic 36, 3) := by decide +kernel
theorem d_rm_pick_52 : decode method_3_code 52 = .ok (.areturn, 1) := by decide +kernel
theorem d_rm_pick_53 : decode method_3_code 53 = .ok (.iload_n 0, 1) := by decide +kernel
theorem d_rm_pick_54 : decode method_3_code 54 = .ok (.bipush 6, 2) := by decide +kernel
theorem d_rm_pick_56 : decode method_3_code 56 = .ok (.if_icmp .ne 7, 3) := by decide +kernel
theorem d_rm_pick_59 : decode method_3_code 59 = .ok (.getstatic 39, 3) := by decide +kernel
theorem d_rm_pick_62 : decode method_3_code 62 = .ok (.areturn, 1) := by decide +kernel
theorem d_rm_pick_63 : decode method_3_code 63 = .ok (.iload_n 0, 1) := by decide +kernel
theorem d_rm_pick_64 : decode method_3_code 64 = .ok (.bipush 7, 2) := by decide +kernel
theorem d_rm_pick_66 : decode method_3_code 66 = .ok (.if_icmp .ne 7, 3) := by decide +kernel
theorem d_rm_pick_69 : decode method_3_code 69 = .ok (.getstatic 42, 3) := by decide +kernel
theorem d_rm_pick_72 : decode method_3_code 72 = .ok (.areturn, 1) := by decide +kernel
theorem d_rm_pick_73 : decode method_3_code 73 = .ok (.iload_n 0, 1) := by decide +kernel
theorem d_rm_pick_74 : decode method_3_code 74 = .ok (.bipush 8, 2) := by decide +kernel
theorem d_rm_pick_76 : decode method_3_code 76 = .ok (.if_icmp .ne 7, 3) := by decide +kernel
theorem d_rm_pick_79 : decode method_3_code 79 = .ok (.getstatic 45, 3) := by decide +kernel
theorem d_rm_pick_82 : decode method_3_code 82 = .ok (.areturn, 1) := by decide +kernel
theorem d_rm_pick_83 : decode method_3_code 83 = .ok (.iload_n 0, 1) := by decide +kernel
theorem d_rm_pick_84 : decode method_3_code 84 = .ok (.bipush 9, 2) := by decide +kernel
theorem d_rm_pick_86 : decode method_3_code 86 = .ok (.if_icmp .ne 7, 3) := by decide +kernel
theorem d_rm_pick_89 : decode method_3_code 89 = .ok (.getstatic 48, 3) := by decide +kernel
theorem d_rm_pick_92 : decode method_3_code 92 = .ok (.areturn, 1) := by decide +kernel
theorem d_rm_pick_93 : decode method_3_code 93 = .ok (.iload_n 0, 1) := by decide +kernel
theorem d_rm_pick_94 : decode method_3_code 94 = .ok (.bipush 10, 2) := by decide +kernel
theorem d_rm_pick_96 : decode method_3_code 96 = .ok (.if_icmp .ne 7, 3) := by decide +kernel
theorem d_rm_pick_99 : decode method_3_code 99 = .ok (.getstatic 51, 3) := by decide +kernel
theorem d_rm_pick_102 : decode method_3_code 102 = .ok (.areturn, 1) := by decide +kernel
theorem d_rm_pick_103 : decode method_3_code 103 = .ok (.iload_n 0, 1) := by decide +kernel
theorem d_rm_pick_104 : decode method_3_code 104 = .ok (.bipush 11, 2) := by decide +kernel
theorem d_rm_pick_106 : decode method_3_code 106 = .ok (.if_icmp .ne 7, 3) := by decide +kernel
theorem d_rm_pick_109 : decode method_3_code 109 = .ok (.getstatic 54, 3) := by decide +kernel
theorem d_rm_pick_112 : decode method_3_code 112 = .ok (.areturn, 1) := by decide +kernel
theorem d_rm_pick_113 : decode method_3_code 113 = .ok (.getstatic 57, 3) := by decide +kernel
theorem d_rm_pick_116 : decode method_3_code 116 = .ok (.areturn, 1) := by decide +kernel
theorem ef_rm_pick (m : MethodId) (x0 : Int32)  : entryFrame m #[(.int x0)] 1 = mkF m 0 #[.val (.int x0)] [] := by first | rfl | (simp [entryFrame, mkF, argsToLocals, Value.category]; done)
set_option maxRecDepth 65536 in
set_option maxHeartbeats 40000000 in
theorem rm_pick (l : Launch) (Z : State) (a0 : Array Value) (hw : ∀ d ∈ tables_1, d.before a0 Z = true) (ws : List Jvm.Cond) (ka : Int32) (r r_AND r_OR r_NOT r_EQUAL r_IN r_GREATER_THAN r_LESS_THAN r_GREATER_THAN_OR_EQUAL r_LESS_THAN_OR_EQUAL r_ADD r_SUBTRACT r_MULTIPLY r_DIVIDE : Addr) (h0 : Heap) (n0 : Nat) (Z0 : n0 ≤ h0.size) (S_AND : Sta Z h0 "com/example/thistle/thistle/language/Operator" "AND" "Lcom/example/thistle/thistle/language/Operator;" (.ref r_AND)) (S_OR : Sta Z h0 "com/example/thistle/thistle/language/Operator" "OR" "Lcom/example/thistle/thistle/language/Operator;" (.ref r_OR)) (S_NOT : Sta Z h0 "com/example/thistle/thistle/language/Operator" "NOT" "Lcom/example/thistle/thistle/language/Operator;" (.ref r_NOT)) (S_EQUAL : Sta Z h0 "com/example/thistle/thistle/language/Operator" "EQUAL" "Lcom/example/thistle/thistle/language/Operator;" (.ref r_EQUAL)) (S_IN : Sta Z h0 "com/example/thistle/thistle/language/Operator" "IN" "Lcom/example/thistle/thistle/language/Operator;" (.ref r_IN)) (S_GREATER_THAN : Sta Z h0 "com/example/thistle/thistle/language/Operator" "GREATER_THAN" "Lcom/example/thistle/thistle/language/Operator;" (.ref r_GREATER_THAN)) (S_LESS_THAN : Sta Z h0 "com/example/thistle/thistle/language/Operator" "LESS_THAN" "Lcom/example/thistle/thistle/language/Operator;" (.ref r_LESS_THAN)) (S_GREATER_THAN_OR_EQUAL : Sta Z h0 "com/example/thistle/thistle/language/Operator" "GREATER_THAN_OR_EQUAL" "Lcom/example/thistle/thistle/language/Operator;" (.ref r_GREATER_THAN_OR_EQUAL)) (S_LESS_THAN_OR_EQUAL : Sta Z h0 "com/example/thistle/thistle/language/Operator" "LESS_THAN_OR_EQUAL" "Lcom/example/thistle/thistle/language/Operator;" (.ref r_LESS_THAN_OR_EQUAL)) (S_ADD : Sta Z h0 "com/example/thistle/thistle/language/Operator" "ADD" "Lcom/example/thistle/thistle/language/Operator;" (.ref r_ADD)) (S_SUBTRACT : Sta Z h0 "com/example/thistle/thistle/language/Operator" "SUBTRACT" "Lcom/example/thistle/thistle/language/Operator;" (.ref r_SUBTRACT)) (S_MULTIPLY : Sta Z h0 "com/example/thistle/thistle/language/Operator" "MULTIPLY" "Lcom/example/thistle/thistle/language/Operator;" (.ref r_MULTIPLY)) (S_DIVIDE : Sta Z h0 "com/example/thistle/thistle/language/Operator" "DIVIDE" "Lcom/example/thistle/thistle/language/Operator;" (.ref r_DIVIDE)) (hr : r = if ka = 0 then r_AND else if ka = 1 then r_OR else if ka = 2 then r_NOT else if ka = 3 then r_EQUAL else if ka = 4 then r_IN else if ka = 5 then r_GREATER_THAN else if ka = 6 then r_LESS_THAN else if ka = 7 then r_GREATER_THAN_OR_EQUAL else if ka = 8 then r_LESS_THAN_OR_EQUAL else if ka = 9 then r_ADD else if ka = 10 then r_SUBTRACT else if ka = 11 then r_MULTIPLY else r_DIVIDE) :
    Pays l Z (⟨"com/example/thistle/thistle/language/OperatorIsStrictPinLaw", "pick", "(I)Lcom/example/thistle/thistle/language/Operator;"⟩ : MethodName) method_3_code 1 (some (.object "com/example/thistle/thistle/language/Operator")) ws ({ frames := 0, cells := 0, slots := 0, locals := 0 } : Room) #[(.int ka)] h0 (fun v h L => v = some (.ref r) ∧ Fr n0 L ∧ h = h0) := by
  refine Pays.of (plainFor_of_name (by first | (simp [plainName, overriddenIn]; done) | decide +kernel)) ?_
  intro p e s m below meth c s₁ hx hby hml hown hnm hret hlk hZ e0 X0
  have N0 := Fr.nil n0
  have K0 : Keep h0 h0 [] := Keep.refl _ _
  refine Goes.go (U' := (s₁.setTop (mkF m 0 #[.val (.int ka)] []))) (fun t kt => castTop (ef_rm_pick m ka) kt) ?_
  refine Goes.go (U' := (s₁.setTop (mkF m 1 #[.val (.int ka)] [(.int ka)]))) (fun t kt => ?_) ?_
  · show Steps p.tables e below (s₁.setTop (mkF m 0 #[.val (.int ka)] [])) t
    refine XS.iloadN X0.here hx rfl (hb hby d_rm_pick_0) rfl ?_
    exact kt
  by_cases c1 : ka = 0
  · -- ka = 0
    refine Goes.go (U' := (s₁.setTop (mkF m 4 #[.val (.int ka)] []))) (fun t kt => ?_) ?_
    · show Steps p.tables e below (s₁.setTop (mkF m 1 #[.val (.int ka)] [(.int ka)])) t
      refine XS.ifNo X0.here hx rfl (hb hby d_rm_pick_1) rfl (XT.i0_ne_f c1) ?_
      exact kt
    obtain ⟨T2, X2, e2, st2⟩ := getS X0 hx hZ hown (host := "") (wdOf hw 5 rfl) Via.refl e0 S_AND (g := (mkF m 4 #[.val (.int ka)] [])) rfl (hb hby d_rm_pick_4)
    refine Goes.go (U' := (T2.setTop (mkF m 7 #[.val (.int ka)] [(.ref r_AND)]))) st2 ?_
    refine Goes.retA X2 hx hlk hret rfl rfl (hb hby d_rm_pick_7) (by decide) (by decide) ?_
    try rw [e2]
    exact ⟨by rw [hr]; simp [c1], N0, rfl⟩
  · -- not ka = 0
    refine Goes.go (U' := (s₁.setTop (mkF m 10 #[.val (.int ka)] [(.int (1 : Int32)), (.int ka)]))) (fun t kt => ?_) ?_
    · show Steps p.tables e below (s₁.setTop (mkF m 1 #[.val (.int ka)] [(.int ka)])) t
      refine XS.ifYes X0.here hx rfl (pc0 := 1) (pc' := 8) rfl (hb hby d_rm_pick_1) rfl (XT.i0_ne_t c1) (by decide) (by decide) ?_
      show Steps p.tables e below (s₁.setTop (mkF m 8 #[.val (.int ka)] [])) t
      refine XS.iloadN X0.here hx rfl (hb hby d_rm_pick_8) rfl ?_
      show Steps p.tables e below (s₁.setTop (mkF m 9 #[.val (.int ka)] [(.int ka)])) t
      refine XS.iconst X0.here hx rfl (hb hby d_rm_pick_9) ?_
      exact kt
    by_cases c3 : ka = (1 : Int32)
    · -- ka = (1 : Int32)
      refine Goes.go (U' := (s₁.setTop (mkF m 13 #[.val (.int ka)] []))) (fun t kt => ?_) ?_
      · show Steps p.tables e below (s₁.setTop (mkF m 10 #[.val (.int ka)] [(.int (1 : Int32)), (.int ka)])) t
        refine XS.icmpNo X0.here hx rfl (hb hby d_rm_pick_10) rfl (XT.ii_ne_f c3) ?_
        exact kt
      obtain ⟨T4, X4, e4, st4⟩ := getS X0 hx hZ hown (host := "") (wdOf hw 31 rfl) Via.refl e0 S_OR (g := (mkF m 13 #[.val (.int ka)] [])) rfl (hb hby d_rm_pick_13)
      refine Goes.go (U' := (T4.setTop (mkF m 16 #[.val (.int ka)] [(.ref r_OR)]))) st4 ?_
      refine Goes.retA X4 hx hlk hret rfl rfl (hb hby d_rm_pick_16) (by decide) (by decide) ?_
      try rw [e4]
      exact ⟨by rw [hr]; simp [c1, c3], N0, rfl⟩
    · -- not ka = (1 : Int32)
      refine Goes.go (U' := (s₁.setTop (mkF m 19 #[.val (.int ka)] [(.int (2 : Int32)), (.int ka)]))) (fun t kt => ?_) ?_
      · show Steps p.tables e below (s₁.setTop (mkF m 10 #[.val (.int ka)] [(.int (1 : Int32)), (.int ka)])) t
        refine XS.icmpYes X0.here hx rfl (pc0 := 10) (pc' := 17) rfl (hb hby d_rm_pick_10) rfl (XT.ii_ne_t c3) (by decide) (by decide) ?_
        show Steps p.tables e below (s₁.setTop (mkF m 17 #[.val (.int ka)] [])) t
        refine XS.iloadN X0.here hx rfl (hb hby d_rm_pick_17) rfl ?_
        show Steps p.tables e below (s₁.setTop (mkF m 18 #[.val (.int ka)] [(.int ka)])) t
        refine XS.iconst X0.here hx rfl (hb hby d_rm_pick_18) ?_
        exact kt
      by_cases c5 : ka = (2 : Int32)
      · -- ka = (2 : Int32)
        refine Goes.go (U' := (s₁.setTop (mkF m 22 #[.val (.int ka)] []))) (fun t kt => ?_) ?_
        · show Steps p.tables e below (s₁.setTop (mkF m 19 #[.val (.int ka)] [(.int (2 : Int32)), (.int ka)])) t
          refine XS.icmpNo X0.here hx rfl (hb hby d_rm_pick_19) rfl (XT.ii_ne_f c5) ?_
          exact kt
        obtain ⟨T6, X6, e6, st6⟩ := getS X0 hx hZ hown (host := "") (wdOf hw 28 rfl) Via.refl e0 S_NOT (g := (mkF m 22 #[.val (.int ka)] [])) rfl (hb hby d_rm_pick_22)
        refine Goes.go (U' := (T6.setTop (mkF m 25 #[.val (.int ka)] [(.ref r_NOT)]))) st6 ?_
        refine Goes.retA X6 hx hlk hret rfl rfl (hb hby d_rm_pick_25) (by decide) (by decide) ?_
        try rw [e6]
        exact ⟨by rw [hr]; simp [c1, c3, c5], N0, rfl⟩
      · -- not ka = (2 : Int32)
        refine Goes.go (U' := (s₁.setTop (mkF m 28 #[.val (.int ka)] [(.int (3 : Int32)), (.int ka)]))) (fun t kt => ?_) ?_
        · show Steps p.tables e below (s₁.setTop (mkF m 19 #[.val (.int ka)] [(.int (2 : Int32)), (.int ka)])) t
          refine XS.icmpYes X0.here hx rfl (pc0 := 19) (pc' := 26) rfl (hb hby d_rm_pick_19) rfl (XT.ii_ne_t c5) (by decide) (by decide) ?_
          show Steps p.tables e below (s₁.setTop (mkF m 26 #[.val (.int ka)] [])) t
          refine XS.iloadN X0.here hx rfl (hb hby d_rm_pick_26) rfl ?_
          show Steps p.tables e below (s₁.setTop (mkF m 27 #[.val (.int ka)] [(.int ka)])) t
          refine XS.iconst X0.here hx rfl (hb hby d_rm_pick_27) ?_
          exact kt
        by_cases c7 : ka = (3 : Int32)
        · -- ka = (3 : Int32)
          refine Goes.go (U' := (s₁.setTop (mkF m 31 #[.val (.int ka)] []))) (fun t kt => ?_) ?_
          · show Steps p.tables e below (s₁.setTop (mkF m 28 #[.val (.int ka)] [(.int (3 : Int32)), (.int ka)])) t
            refine XS.icmpNo X0.here hx rfl (hb hby d_rm_pick_28) rfl (XT.ii_ne_f c7) ?_
            exact kt
          obtain ⟨T8, X8, e8, st8⟩ := getS X0 hx hZ hown (host := "") (wdOf hw 14 rfl) Via.refl e0 S_EQUAL (g := (mkF m 31 #[.val (.int ka)] [])) rfl (hb hby d_rm_pick_31)
          refine Goes.go (U' := (T8.setTop (mkF m 34 #[.val (.int ka)] [(.ref r_EQUAL)]))) st8 ?_
          refine Goes.retA X8 hx hlk hret rfl rfl (hb hby d_rm_pick_34) (by decide) (by decide) ?_
          try rw [e8]
          exact ⟨by rw [hr]; simp [c1, c3, c5, c7], N0, rfl⟩
        · -- not ka = (3 : Int32)
          refine Goes.go (U' := (s₁.setTop (mkF m 37 #[.val (.int ka)] [(.int (4 : Int32)), (.int ka)]))) (fun t kt => ?_) ?_
          · show Steps p.tables e below (s₁.setTop (mkF m 28 #[.val (.int ka)] [(.int (3 : Int32)), (.int ka)])) t
            refine XS.icmpYes X0.here hx rfl (pc0 := 28) (pc' := 35) rfl (hb hby d_rm_pick_28) rfl (XT.ii_ne_t c7) (by decide) (by decide) ?_
            show Steps p.tables e below (s₁.setTop (mkF m 35 #[.val (.int ka)] [])) t
            refine XS.iloadN X0.here hx rfl (hb hby d_rm_pick_35) rfl ?_
            show Steps p.tables e below (s₁.setTop (mkF m 36 #[.val (.int ka)] [(.int ka)])) t
            refine XS.iconst X0.here hx rfl (hb hby d_rm_pick_36) ?_
            exact kt
          by_cases c9 : ka = (4 : Int32)
          · -- ka = (4 : Int32)
            refine Goes.go (U' := (s₁.setTop (mkF m 40 #[.val (.int ka)] []))) (fun t kt => ?_) ?_
            · show Steps p.tables e below (s₁.setTop (mkF m 37 #[.val (.int ka)] [(.int (4 : Int32)), (.int ka)])) t
              refine XS.icmpNo X0.here hx rfl (hb hby d_rm_pick_37) rfl (XT.ii_ne_f c9) ?_
              exact kt
            obtain ⟨T10, X10, e10, st10⟩ := getS X0 hx hZ hown (host := "") (wdOf hw 38 rfl) Via.refl e0 S_IN (g := (mkF m 40 #[.val (.int ka)] [])) rfl (hb hby d_rm_pick_40)
            refine Goes.go (U' := (T10.setTop (mkF m 43 #[.val (.int ka)] [(.ref r_IN)]))) st10 ?_
            refine Goes.retA X10 hx hlk hret rfl rfl (hb hby d_rm_pick_43) (by decide) (by decide) ?_
            try rw [e10]
            exact ⟨by rw [hr]; simp [c1, c3, c5, c7, c9], N0, rfl⟩
          · -- not ka = (4 : Int32)
            refine Goes.go (U' := (s₁.setTop (mkF m 46 #[.val (.int ka)] [(.int (5 : Int32)), (.int ka)]))) (fun t kt => ?_) ?_
            · show Steps p.tables e below (s₁.setTop (mkF m 37 #[.val (.int ka)] [(.int (4 : Int32)), (.int ka)])) t
              refine XS.icmpYes X0.here hx rfl (pc0 := 37) (pc' := 44) rfl (hb hby d_rm_pick_37) rfl (XT.ii_ne_t c9) (by decide) (by decide) ?_
              show Steps p.tables e below (s₁.setTop (mkF m 44 #[.val (.int ka)] [])) t
              refine XS.iloadN X0.here hx rfl (hb hby d_rm_pick_44) rfl ?_
              show Steps p.tables e below (s₁.setTop (mkF m 45 #[.val (.int ka)] [(.int ka)])) t
              refine XS.iconst X0.here hx rfl (hb hby d_rm_pick_45) ?_
              exact kt
            by_cases c11 : ka = (5 : Int32)
            · -- ka = (5 : Int32)
              refine Goes.go (U' := (s₁.setTop (mkF m 49 #[.val (.int ka)] []))) (fun t kt => ?_) ?_
              · show Steps p.tables e below (s₁.setTop (mkF m 46 #[.val (.int ka)] [(.int (5 : Int32)), (.int ka)])) t
                refine XS.icmpNo X0.here hx rfl (hb hby d_rm_pick_46) rfl (XT.ii_ne_f c11) ?_
                exact kt
              obtain ⟨T12, X12, e12, st12⟩ := getS X0 hx hZ hown (host := "") (wdOf hw 22 rfl) Via.refl e0 S_GREATER_THAN (g := (mkF m 49 #[.val (.int ka)] [])) rfl (hb hby d_rm_pick_49)
              refine Goes.go (U' := (T12.setTop (mkF m 52 #[.val (.int ka)] [(.ref r_GREATER_THAN)]))) st12 ?_
              refine Goes.retA X12 hx hlk hret rfl rfl (hb hby d_rm_pick_52) (by decide) (by decide) ?_
              try rw [e12]
              exact ⟨by rw [hr]; simp [c1, c3, c5, c7, c9, c11], N0, rfl⟩
            · -- not ka = (5 : Int32)
              refine Goes.go (U' := (s₁.setTop (mkF m 56 #[.val (.int ka)] [(.int (6 : Int32)), (.int ka)]))) (fun t kt => ?_) ?_
              · show Steps p.tables e below (s₁.setTop (mkF m 46 #[.val (.int ka)] [(.int (5 : Int32)), (.int ka)])) t
                refine XS.icmpYes X0.here hx rfl (pc0 := 46) (pc' := 53) rfl (hb hby d_rm_pick_46) rfl (XT.ii_ne_t c11) (by decide) (by decide) ?_
                show Steps p.tables e below (s₁.setTop (mkF m 53 #[.val (.int ka)] [])) t
                refine XS.iloadN X0.here hx rfl (hb hby d_rm_pick_53) rfl ?_
                show Steps p.tables e below (s₁.setTop (mkF m 54 #[.val (.int ka)] [(.int ka)])) t
                refine XS.bipush X0.here hx rfl (hb hby d_rm_pick_54) ?_
                exact kt
              by_cases c13 : ka = (6 : Int32)
              · -- ka = (6 : Int32)
                refine Goes.go (U' := (s₁.setTop (mkF m 59 #[.val (.int ka)] []))) (fun t kt => ?_) ?_
                · show Steps p.tables e below (s₁.setTop (mkF m 56 #[.val (.int ka)] [(.int (6 : Int32)), (.int ka)])) t
                  refine XS.icmpNo X0.here hx rfl (hb hby d_rm_pick_56) rfl (XT.ii_ne_f c13) ?_
                  exact kt
                obtain ⟨T14, X14, e14, st14⟩ := getS X0 hx hZ hown (host := "") (wdOf hw 20 rfl) Via.refl e0 S_LESS_THAN (g := (mkF m 59 #[.val (.int ka)] [])) rfl (hb hby d_rm_pick_59)
                refine Goes.go (U' := (T14.setTop (mkF m 62 #[.val (.int ka)] [(.ref r_LESS_THAN)]))) st14 ?_
                refine Goes.retA X14 hx hlk hret rfl rfl (hb hby d_rm_pick_62) (by decide) (by decide) ?_
                try rw [e14]
                exact ⟨by rw [hr]; simp [c1, c3, c5, c7, c9, c11, c13], N0, rfl⟩
              · -- not ka = (6 : Int32)
                refine Goes.go (U' := (s₁.setTop (mkF m 66 #[.val (.int ka)] [(.int (7 : Int32)), (.int ka)]))) (fun t kt => ?_) ?_
                · show Steps p.tables e below (s₁.setTop (mkF m 56 #[.val (.int ka)] [(.int (6 : Int32)), (.int ka)])) t
                  refine XS.icmpYes X0.here hx rfl (pc0 := 56) (pc' := 63) rfl (hb hby d_rm_pick_56) rfl (XT.ii_ne_t c13) (by decide) (by decide) ?_
                  show Steps p.tables e below (s₁.setTop (mkF m 63 #[.val (.int ka)] [])) t
                  refine XS.iloadN X0.here hx rfl (hb hby d_rm_pick_63) rfl ?_
                  show Steps p.tables e below (s₁.setTop (mkF m 64 #[.val (.int ka)] [(.int ka)])) t
                  refine XS.bipush X0.here hx rfl (hb hby d_rm_pick_64) ?_
                  exact kt
                by_cases c15 : ka = (7 : Int32)
                · -- ka = (7 : Int32)
                  refine Goes.go (U' := (s₁.setTop (mkF m 69 #[.val (.int ka)] []))) (fun t kt => ?_) ?_
                  · show Steps p.tables e below (s₁.setTop (mkF m 66 #[.val (.int ka)] [(.int (7 : Int32)), (.int ka)])) t
                    refine XS.icmpNo X0.here hx rfl (hb hby d_rm_pick_66) rfl (XT.ii_ne_f c15) ?_
                    exact kt
                  obtain ⟨T16, X16, e16, st16⟩ := getS X0 hx hZ hown (host := "") (wdOf hw 24 rfl) Via.refl e0 S_GREATER_THAN_OR_EQUAL (g := (mkF m 69 #[.val (.int ka)] [])) rfl (hb hby d_rm_pick_69)
                  refine Goes.go (U' := (T16.setTop (mkF m 72 #[.val (.int ka)] [(.ref r_GREATER_THAN_OR_EQUAL)]))) st16 ?_
                  refine Goes.retA X16 hx hlk hret rfl rfl (hb hby d_rm_pick_72) (by decide) (by decide) ?_
                  try rw [e16]
                  exact ⟨by rw [hr]; simp [c1, c3, c5, c7, c9, c11, c13, c15], N0, rfl⟩
                · -- not ka = (7 : Int32)
                  refine Goes.go (U' := (s₁.setTop (mkF m 76 #[.val (.int ka)] [(.int (8 : Int32)), (.int ka)]))) (fun t kt => ?_) ?_
                  · show Steps p.tables e below (s₁.setTop (mkF m 66 #[.val (.int ka)] [(.int (7 : Int32)), (.int ka)])) t
                    refine XS.icmpYes X0.here hx rfl (pc0 := 66) (pc' := 73) rfl (hb hby d_rm_pick_66) rfl (XT.ii_ne_t c15) (by decide) (by decide) ?_
                    show Steps p.tables e below (s₁.setTop (mkF m 73 #[.val (.int ka)] [])) t
                    refine XS.iloadN X0.here hx rfl (hb hby d_rm_pick_73) rfl ?_
                    show Steps p.tables e below (s₁.setTop (mkF m 74 #[.val (.int ka)] [(.int ka)])) t
                    refine XS.bipush X0.here hx rfl (hb hby d_rm_pick_74) ?_
                    exact kt
                  by_cases c17 : ka = (8 : Int32)
                  · -- ka = (8 : Int32)
                    refine Goes.go (U' := (s₁.setTop (mkF m 79 #[.val (.int ka)] []))) (fun t kt => ?_) ?_
                    · show Steps p.tables e below (s₁.setTop (mkF m 76 #[.val (.int ka)] [(.int (8 : Int32)), (.int ka)])) t
                      refine XS.icmpNo X0.here hx rfl (hb hby d_rm_pick_76) rfl (XT.ii_ne_f c17) ?_
                      exact kt
                    obtain ⟨T18, X18, e18, st18⟩ := getS X0 hx hZ hown (host := "") (wdOf hw 32 rfl) Via.refl e0 S_LESS_THAN_OR_EQUAL (g := (mkF m 79 #[.val (.int ka)] [])) rfl (hb hby d_rm_pick_79)
                    refine Goes.go (U' := (T18.setTop (mkF m 82 #[.val (.int ka)] [(.ref r_LESS_THAN_OR_EQUAL)]))) st18 ?_
                    refine Goes.retA X18 hx hlk hret rfl rfl (hb hby d_rm_pick_82) (by decide) (by decide) ?_
                    try rw [e18]
                    exact ⟨by rw [hr]; simp [c1, c3, c5, c7, c9, c11, c13, c15, c17], N0, rfl⟩
                  · -- not ka = (8 : Int32)
                    refine Goes.go (U' := (s₁.setTop (mkF m 86 #[.val (.int ka)] [(.int (9 : Int32)), (.int ka)]))) (fun t kt => ?_) ?_
                    · show Steps p.tables e below (s₁.setTop (mkF m 76 #[.val (.int ka)] [(.int (8 : Int32)), (.int ka)])) t
                      refine XS.icmpYes X0.here hx rfl (pc0 := 76) (pc' := 83) rfl (hb hby d_rm_pick_76) rfl (XT.ii_ne_t c17) (by decide) (by decide) ?_
                      show Steps p.tables e below (s₁.setTop (mkF m 83 #[.val (.int ka)] [])) t
                      refine XS.iloadN X0.here hx rfl (hb hby d_rm_pick_83) rfl ?_
                      show Steps p.tables e below (s₁.setTop (mkF m 84 #[.val (.int ka)] [(.int ka)])) t
                      refine XS.bipush X0.here hx rfl (hb hby d_rm_pick_84) ?_
                      exact kt
                    by_cases c19 : ka = (9 : Int32)
                    · -- ka = (9 : Int32)
                      refine Goes.go (U' := (s₁.setTop (mkF m 89 #[.val (.int ka)] []))) (fun t kt => ?_) ?_
                      · show Steps p.tables e below (s₁.setTop (mkF m 86 #[.val (.int ka)] [(.int (9 : Int32)), (.int ka)])) t
                        refine XS.icmpNo X0.here hx rfl (hb hby d_rm_pick_86) rfl (XT.ii_ne_f c19) ?_
                        exact kt
                      obtain ⟨T20, X20, e20, st20⟩ := getS X0 hx hZ hown (host := "") (wdOf hw 26 rfl) Via.refl e0 S_ADD (g := (mkF m 89 #[.val (.int ka)] [])) rfl (hb hby d_rm_pick_89)
                      refine Goes.go (U' := (T20.setTop (mkF m 92 #[.val (.int ka)] [(.ref r_ADD)]))) st20 ?_
                      refine Goes.retA X20 hx hlk hret rfl rfl (hb hby d_rm_pick_92) (by decide) (by decide) ?_
                      try rw [e20]
                      exact ⟨by rw [hr]; simp [c1, c3, c5, c7, c9, c11, c13, c15, c17, c19], N0, rfl⟩
                    · -- not ka = (9 : Int32)
                      refine Goes.go (U' := (s₁.setTop (mkF m 96 #[.val (.int ka)] [(.int (10 : Int32)), (.int ka)]))) (fun t kt => ?_) ?_
                      · show Steps p.tables e below (s₁.setTop (mkF m 86 #[.val (.int ka)] [(.int (9 : Int32)), (.int ka)])) t
                        refine XS.icmpYes X0.here hx rfl (pc0 := 86) (pc' := 93) rfl (hb hby d_rm_pick_86) rfl (XT.ii_ne_t c19) (by decide) (by decide) ?_
                        show Steps p.tables e below (s₁.setTop (mkF m 93 #[.val (.int ka)] [])) t
                        refine XS.iloadN X0.here hx rfl (hb hby d_rm_pick_93) rfl ?_
                        show Steps p.tables e below (s₁.setTop (mkF m 94 #[.val (.int ka)] [(.int ka)])) t
                        refine XS.bipush X0.here hx rfl (hb hby d_rm_pick_94) ?_
                        exact kt
                      by_cases c21 : ka = (10 : Int32)
                      · -- ka = (10 : Int32)
                        refine Goes.go (U' := (s₁.setTop (mkF m 99 #[.val (.int ka)] []))) (fun t kt => ?_) ?_
                        · show Steps p.tables e below (s₁.setTop (mkF m 96 #[.val (.int ka)] [(.int (10 : Int32)), (.int ka)])) t
                          refine XS.icmpNo X0.here hx rfl (hb hby d_rm_pick_96) rfl (XT.ii_ne_f c21) ?_
                          exact kt
                        obtain ⟨T22, X22, e22, st22⟩ := getS X0 hx hZ hown (host := "") (wdOf hw 34 rfl) Via.refl e0 S_SUBTRACT (g := (mkF m 99 #[.val (.int ka)] [])) rfl (hb hby d_rm_pick_99)
                        refine Goes.go (U' := (T22.setTop (mkF m 102 #[.val (.int ka)] [(.ref r_SUBTRACT)]))) st22 ?_
                        refine Goes.retA X22 hx hlk hret rfl rfl (hb hby d_rm_pick_102) (by decide) (by decide) ?_
                        try rw [e22]
                        exact ⟨by rw [hr]; simp [c1, c3, c5, c7, c9, c11, c13, c15, c17, c19, c21], N0, rfl⟩
                      · -- not ka = (10 : Int32)
                        refine Goes.go (U' := (s₁.setTop (mkF m 106 #[.val (.int ka)] [(.int (11 : Int32)), (.int ka)]))) (fun t kt => ?_) ?_
                        · show Steps p.tables e below (s₁.setTop (mkF m 96 #[.val (.int ka)] [(.int (10 : Int32)), (.int ka)])) t
                          refine XS.icmpYes X0.here hx rfl (pc0 := 96) (pc' := 103) rfl (hb hby d_rm_pick_96) rfl (XT.ii_ne_t c21) (by decide) (by decide) ?_
                          show Steps p.tables e below (s₁.setTop (mkF m 103 #[.val (.int ka)] [])) t
                          refine XS.iloadN X0.here hx rfl (hb hby d_rm_pick_103) rfl ?_
                          show Steps p.tables e below (s₁.setTop (mkF m 104 #[.val (.int ka)] [(.int ka)])) t
                          refine XS.bipush X0.here hx rfl (hb hby d_rm_pick_104) ?_
                          exact kt
                        by_cases c23 : ka = (11 : Int32)
                        · -- ka = (11 : Int32)
                          refine Goes.go (U' := (s₁.setTop (mkF m 109 #[.val (.int ka)] []))) (fun t kt => ?_) ?_
                          · show Steps p.tables e below (s₁.setTop (mkF m 106 #[.val (.int ka)] [(.int (11 : Int32)), (.int ka)])) t
                            refine XS.icmpNo X0.here hx rfl (hb hby d_rm_pick_106) rfl (XT.ii_ne_f c23) ?_
                            exact kt
                          obtain ⟨T24, X24, e24, st24⟩ := getS X0 hx hZ hown (host := "") (wdOf hw 29 rfl) Via.refl e0 S_MULTIPLY (g := (mkF m 109 #[.val (.int ka)] [])) rfl (hb hby d_rm_pick_109)
                          refine Goes.go (U' := (T24.setTop (mkF m 112 #[.val (.int ka)] [(.ref r_MULTIPLY)]))) st24 ?_
                          refine Goes.retA X24 hx hlk hret rfl rfl (hb hby d_rm_pick_112) (by decide) (by decide) ?_
                          try rw [e24]
                          exact ⟨by rw [hr]; simp [c1, c3, c5, c7, c9, c11, c13, c15, c17, c19, c21, c23], N0, rfl⟩
                        · -- not ka = (11 : Int32)
                          refine Goes.go (U' := (s₁.setTop (mkF m 113 #[.val (.int ka)] []))) (fun t kt => ?_) ?_
                          · show Steps p.tables e below (s₁.setTop (mkF m 106 #[.val (.int ka)] [(.int (11 : Int32)), (.int ka)])) t
                            refine XS.icmpYes X0.here hx rfl (pc0 := 106) (pc' := 113) rfl (hb hby d_rm_pick_106) rfl (XT.ii_ne_t c23) (by decide) (by decide) ?_
                            exact kt
                          obtain ⟨T25, X25, e25, st25⟩ := getS X0 hx hZ hown (host := "") (wdOf hw 36 rfl) Via.refl e0 S_DIVIDE (g := (mkF m 113 #[.val (.int ka)] [])) rfl (hb hby d_rm_pick_113)
                          refine Goes.go (U' := (T25.setTop (mkF m 116 #[.val (.int ka)] [(.ref r_DIVIDE)]))) st25 ?_
                          refine Goes.retA X25 hx hlk hret rfl rfl (hb hby d_rm_pick_116) (by decide) (by decide) ?_
                          try rw [e25]
                          exact ⟨by rw [hr]; simp [c1, c3, c5, c7, c9, c11, c13, c15, c17, c19, c21, c23], N0, rfl⟩
theorem d_rm_strict_0 : decode prog_61_method_8_code 0 = .ok (.aload_n 0, 1) := by decide +kernel
theorem d_rm_strict_1 : decode prog_61_method_8_code 1 = .ok (.getstatic 3, 3) := by decide +kernel
theorem d_rm_strict_4 : decode prog_61_method_8_code 4 = .ok (.if_acmp .eq 21, 3) := by decide +kernel
theorem d_rm_strict_7 : decode prog_61_method_8_code 7 = .ok (.aload_n 0, 1) := by decide +kernel
theorem d_rm_strict_8 : decode prog_61_method_8_code 8 = .ok (.getstatic 7, 3) := by decide +kernel
theorem d_rm_strict_11 : decode prog_61_method_8_code 11 = .ok (.if_acmp .eq 14, 3) := by decide +kernel
theorem d_rm_strict_14 : decode prog_61_method_8_code 14 = .ok (.aload_n 0, 1) := by decide +kernel
theorem d_rm_strict_15 : decode prog_61_method_8_code 15 = .ok (.getstatic 10, 3) := by decide +kernel
theorem d_rm_strict_18 : decode prog_61_method_8_code 18 = .ok (.if_acmp .eq 7, 3) := by decide +kernel
theorem d_rm_strict_21 : decode prog_61_method_8_code 21 = .ok (.iconst 1, 1) := by decide +kernel
theorem d_rm_strict_22 : decode prog_61_method_8_code 22 = .ok (.goto 4, 3) := by decide +kernel
theorem d_rm_strict_25 : decode prog_61_method_8_code 25 = .ok (.iconst 0, 1) := by decide +kernel
theorem d_rm_strict_26 : decode prog_61_method_8_code 26 = .ok (.ireturn, 1) := by decide +kernel
theorem ef_rm_strict (m : MethodId) (x0 : Addr)  : entryFrame m #[(.ref x0)] 1 = mkF m 0 #[.val (.ref x0)] [] := by first | rfl | (simp [entryFrame, mkF, argsToLocals, Value.category]; done)
set_option maxRecDepth 65536 in
set_option maxHeartbeats 40000000 in
theorem rm_strict (l : Launch) (Z : State) (a0 : Array Value) (hw : ∀ d ∈ tables_1, d.before a0 Z = true) (ws : List Jvm.Cond) (a r_AND r_OR r_NOT : Addr) (z : Int32) (h0 : Heap) (n0 : Nat) (Z0 : n0 ≤ h0.size) (S_AND : Sta Z h0 "com/example/thistle/thistle/language/Operator" "AND" "Lcom/example/thistle/thistle/language/Operator;" (.ref r_AND)) (S_OR : Sta Z h0 "com/example/thistle/thistle/language/Operator" "OR" "Lcom/example/thistle/thistle/language/Operator;" (.ref r_OR)) (S_NOT : Sta Z h0 "com/example/thistle/thistle/language/Operator" "NOT" "Lcom/example/thistle/thistle/language/Operator;" (.ref r_NOT)) (hz : z = if a = r_AND ∨ a = r_OR ∨ a = r_NOT then 0 else 1) :
    Pays l Z (⟨"com/example/thistle/thistle/language/Operator", "isStrict", "()Z"⟩ : MethodName) prog_61_method_8_code 1 (some .boolean) ws ({ frames := 0, cells := 0, slots := 0, locals := 0 } : Room) #[(.ref a)] h0 (fun v h L => v = some (.int z) ∧ Fr n0 L ∧ h = h0) := by
  refine Pays.of (plainFor_of_name (by first | (simp [plainName, overriddenIn]; done) | decide +kernel)) ?_
  intro p e s m below meth c s₁ hx hby hml hown hnm hret hlk hZ e0 X0
  have N0 := Fr.nil n0
  have K0 : Keep h0 h0 [] := Keep.refl _ _
  refine Goes.go (U' := (s₁.setTop (mkF m 0 #[.val (.ref a)] []))) (fun t kt => castTop (ef_rm_strict m a) kt) ?_
  refine Goes.go (U' := (s₁.setTop (mkF m 1 #[.val (.ref a)] [(.ref a)]))) (fun t kt => ?_) ?_
  · show Steps p.tables e below (s₁.setTop (mkF m 0 #[.val (.ref a)] [])) t
    refine XS.aloadN X0.here hx rfl (hb hby d_rm_strict_0) rfl rfl ?_
    exact kt
  obtain ⟨T1, X1, e1, st1⟩ := getS X0 hx hZ hown (host := "") (wdOf hw 13 rfl) Via.refl e0 S_AND (g := (mkF m 1 #[.val (.ref a)] [(.ref a)])) rfl (hb hby d_rm_strict_1)
  refine Goes.go (U' := (T1.setTop (mkF m 4 #[.val (.ref a)] [(.ref r_AND), (.ref a)]))) st1 ?_
  by_cases c2 : a = r_AND
  · -- a = r_AND
    refine Goes.go (U' := (T1.setTop (mkF m 26 #[.val (.ref a)] [(.int (0 : Int32))]))) (fun t kt => ?_) ?_
    · show Steps p.tables e below (T1.setTop (mkF m 4 #[.val (.ref a)] [(.ref r_AND), (.ref a)])) t
      refine XT.acmpYes X1.here hx rfl (pc0 := 4) (pc' := 25) rfl (hb hby d_rm_strict_4) rfl rfl rfl (XT.aa_eq_t (congrArg Value.ref c2)) (by decide) (by decide) ?_
      show Steps p.tables e below (T1.setTop (mkF m 25 #[.val (.ref a)] [])) t
      refine XS.iconst X1.here hx rfl (hb hby d_rm_strict_25) ?_
      exact kt
    refine Goes.retB X1 hx hlk hret (hb hby d_rm_strict_26) (by decide) (by decide) ?_
    try rw [e1]
    exact ⟨by subst hz; first | (rw [if_pos (by simp [c2])]; rfl) | (rw [if_neg (by simp [c2])]; rfl), N0, rfl⟩
  · -- not a = r_AND
    refine Goes.go (U' := (T1.setTop (mkF m 8 #[.val (.ref a)] [(.ref a)]))) (fun t kt => ?_) ?_
    · show Steps p.tables e below (T1.setTop (mkF m 4 #[.val (.ref a)] [(.ref r_AND), (.ref a)])) t
      refine XT.acmpNo X1.here hx rfl (hb hby d_rm_strict_4) rfl rfl rfl (XT.aa_eq_f (fun q => c2 (Value.ref.inj q))) ?_
      show Steps p.tables e below (T1.setTop (mkF m 7 #[.val (.ref a)] [])) t
      refine XS.aloadN X1.here hx rfl (hb hby d_rm_strict_7) rfl rfl ?_
      exact kt
    obtain ⟨T3, X3, e3, st3⟩ := getS X1 hx hZ hown (host := "") (wdOf hw 16 rfl) Via.refl e1 S_OR (g := (mkF m 8 #[.val (.ref a)] [(.ref a)])) rfl (hb hby d_rm_strict_8)
    refine Goes.go (U' := (T3.setTop (mkF m 11 #[.val (.ref a)] [(.ref r_OR), (.ref a)]))) st3 ?_
    by_cases c4 : a = r_OR
    · -- a = r_OR
      refine Goes.go (U' := (T3.setTop (mkF m 26 #[.val (.ref a)] [(.int (0 : Int32))]))) (fun t kt => ?_) ?_
      · show Steps p.tables e below (T3.setTop (mkF m 11 #[.val (.ref a)] [(.ref r_OR), (.ref a)])) t
        refine XT.acmpYes X3.here hx rfl (pc0 := 11) (pc' := 25) rfl (hb hby d_rm_strict_11) rfl rfl rfl (XT.aa_eq_t (congrArg Value.ref c4)) (by decide) (by decide) ?_
        show Steps p.tables e below (T3.setTop (mkF m 25 #[.val (.ref a)] [])) t
        refine XS.iconst X3.here hx rfl (hb hby d_rm_strict_25) ?_
        exact kt
      refine Goes.retB X3 hx hlk hret (hb hby d_rm_strict_26) (by decide) (by decide) ?_
      try rw [e3]
      exact ⟨by subst hz; first | (rw [if_pos (by simp [c2, c4])]; rfl) | (rw [if_neg (by simp [c2, c4])]; rfl), N0, rfl⟩
    · -- not a = r_OR
      refine Goes.go (U' := (T3.setTop (mkF m 15 #[.val (.ref a)] [(.ref a)]))) (fun t kt => ?_) ?_
      · show Steps p.tables e below (T3.setTop (mkF m 11 #[.val (.ref a)] [(.ref r_OR), (.ref a)])) t
        refine XT.acmpNo X3.here hx rfl (hb hby d_rm_strict_11) rfl rfl rfl (XT.aa_eq_f (fun q => c4 (Value.ref.inj q))) ?_
        show Steps p.tables e below (T3.setTop (mkF m 14 #[.val (.ref a)] [])) t
        refine XS.aloadN X3.here hx rfl (hb hby d_rm_strict_14) rfl rfl ?_
        exact kt
      obtain ⟨T5, X5, e5, st5⟩ := getS X3 hx hZ hown (host := "") (wdOf hw 18 rfl) Via.refl e3 S_NOT (g := (mkF m 15 #[.val (.ref a)] [(.ref a)])) rfl (hb hby d_rm_strict_15)
      refine Goes.go (U' := (T5.setTop (mkF m 18 #[.val (.ref a)] [(.ref r_NOT), (.ref a)]))) st5 ?_
      by_cases c6 : a = r_NOT
      · -- a = r_NOT
        refine Goes.go (U' := (T5.setTop (mkF m 26 #[.val (.ref a)] [(.int (0 : Int32))]))) (fun t kt => ?_) ?_
        · show Steps p.tables e below (T5.setTop (mkF m 18 #[.val (.ref a)] [(.ref r_NOT), (.ref a)])) t
          refine XT.acmpYes X5.here hx rfl (pc0 := 18) (pc' := 25) rfl (hb hby d_rm_strict_18) rfl rfl rfl (XT.aa_eq_t (congrArg Value.ref c6)) (by decide) (by decide) ?_
          show Steps p.tables e below (T5.setTop (mkF m 25 #[.val (.ref a)] [])) t
          refine XS.iconst X5.here hx rfl (hb hby d_rm_strict_25) ?_
          exact kt
        refine Goes.retB X5 hx hlk hret (hb hby d_rm_strict_26) (by decide) (by decide) ?_
        try rw [e5]
        exact ⟨by subst hz; first | (rw [if_pos (by simp [c2, c4, c6])]; rfl) | (rw [if_neg (by simp [c2, c4, c6])]; rfl), N0, rfl⟩
      · -- not a = r_NOT
        refine Goes.go (U' := (T5.setTop (mkF m 26 #[.val (.ref a)] [(.int (1 : Int32))]))) (fun t kt => ?_) ?_
        · show Steps p.tables e below (T5.setTop (mkF m 18 #[.val (.ref a)] [(.ref r_NOT), (.ref a)])) t
          refine XT.acmpNo X5.here hx rfl (hb hby d_rm_strict_18) rfl rfl rfl (XT.aa_eq_f (fun q => c6 (Value.ref.inj q))) ?_
          show Steps p.tables e below (T5.setTop (mkF m 21 #[.val (.ref a)] [])) t
          refine XS.iconst X5.here hx rfl (hb hby d_rm_strict_21) ?_
          show Steps p.tables e below (T5.setTop (mkF m 22 #[.val (.ref a)] [(.int (1 : Int32))])) t
          refine XS.goto X5.here hx rfl (pc0 := 22) (pc' := 26) rfl (hb hby d_rm_strict_22) (by decide) (by decide) ?_
          exact kt
        refine Goes.retB X5 hx hlk hret (hb hby d_rm_strict_26) (by decide) (by decide) ?_
        try rw [e5]
        exact ⟨by subst hz; first | (rw [if_pos (by simp [c2, c4, c6])]; rfl) | (rw [if_neg (by simp [c2, c4, c6])]; rfl), N0, rfl⟩
theorem ef_rm_law (m : MethodId) (x0 : Int32)  : entryFrame m #[(.int x0)] maxLocals = mkF m 0 #[.val (.int x0), .unset, .unset, .unset] [] := by first | rfl | (simp [entryFrame, mkF, argsToLocals, Value.category, maxLocals]; done)
set_option maxRecDepth 65536 in
set_option maxHeartbeats 40000000 in
theorem rm_law (l : Launch) (Z : State) (a0 : Array Value) (hw : ∀ d ∈ tables_1, d.before a0 Z = true) (ws : List Jvm.Cond) (pa : Int32) (r_AND r_OR r_NOT r_EQUAL r_IN r_GREATER_THAN r_LESS_THAN r_GREATER_THAN_OR_EQUAL r_LESS_THAN_OR_EQUAL r_ADD r_SUBTRACT r_MULTIPLY r_DIVIDE : Addr) (h0 : Heap) (n0 : Nat) (Z0 : n0 ≤ h0.size) (S_AND : Sta Z h0 "com/example/thistle/thistle/language/Operator" "AND" "Lcom/example/thistle/thistle/language/Operator;" (.ref r_AND)) (S_OR : Sta Z h0 "com/example/thistle/thistle/language/Operator" "OR" "Lcom/example/thistle/thistle/language/Operator;" (.ref r_OR)) (S_NOT : Sta Z h0 "com/example/thistle/thistle/language/Operator" "NOT" "Lcom/example/thistle/thistle/language/Operator;" (.ref r_NOT)) (S_EQUAL : Sta Z h0 "com/example/thistle/thistle/language/Operator" "EQUAL" "Lcom/example/thistle/thistle/language/Operator;" (.ref r_EQUAL)) (S_IN : Sta Z h0 "com/example/thistle/thistle/language/Operator" "IN" "Lcom/example/thistle/thistle/language/Operator;" (.ref r_IN)) (S_GREATER_THAN : Sta Z h0 "com/example/thistle/thistle/language/Operator" "GREATER_THAN" "Lcom/example/thistle/thistle/language/Operator;" (.ref r_GREATER_THAN)) (S_LESS_THAN : Sta Z h0 "com/example/thistle/thistle/language/Operator" "LESS_THAN" "Lcom/example/thistle/thistle/language/Operator;" (.ref r_LESS_THAN)) (S_GREATER_THAN_OR_EQUAL : Sta Z h0 "com/example/thistle/thistle/language/Operator" "GREATER_THAN_OR_EQUAL" "Lcom/example/thistle/thistle/language/Operator;" (.ref r_GREATER_THAN_OR_EQUAL)) (S_LESS_THAN_OR_EQUAL : Sta Z h0 "com/example/thistle/thistle/language/Operator" "LESS_THAN_OR_EQUAL" "Lcom/example/thistle/thistle/language/Operator;" (.ref r_LESS_THAN_OR_EQUAL)) (S_ADD : Sta Z h0 "com/example/thistle/thistle/language/Operator" "ADD" "Lcom/example/thistle/thistle/language/Operator;" (.ref r_ADD)) (S_SUBTRACT : Sta Z h0 "com/example/thistle/thistle/language/Operator" "SUBTRACT" "Lcom/example/thistle/thistle/language/Operator;" (.ref r_SUBTRACT)) (S_MULTIPLY : Sta Z h0 "com/example/thistle/thistle/language/Operator" "MULTIPLY" "Lcom/example/thistle/thistle/language/Operator;" (.ref r_MULTIPLY)) (S_DIVIDE : Sta Z h0 "com/example/thistle/thistle/language/Operator" "DIVIDE" "Lcom/example/thistle/thistle/language/Operator;" (.ref r_DIVIDE)) (E_AND : Exa Z h0 r_AND "com/example/thistle/thistle/language/Operator") (E_OR : Exa Z h0 r_OR "com/example/thistle/thistle/language/Operator") (E_NOT : Exa Z h0 r_NOT "com/example/thistle/thistle/language/Operator") (E_EQUAL : Exa Z h0 r_EQUAL "com/example/thistle/thistle/language/Operator") (E_IN : Exa Z h0 r_IN "com/example/thistle/thistle/language/Operator") (E_GREATER_THAN : Exa Z h0 r_GREATER_THAN "com/example/thistle/thistle/language/Operator") (E_LESS_THAN : Exa Z h0 r_LESS_THAN "com/example/thistle/thistle/language/Operator") (E_GREATER_THAN_OR_EQUAL : Exa Z h0 r_GREATER_THAN_OR_EQUAL "com/example/thistle/thistle/language/Operator") (E_LESS_THAN_OR_EQUAL : Exa Z h0 r_LESS_THAN_OR_EQUAL "com/example/thistle/thistle/language/Operator") (E_ADD : Exa Z h0 r_ADD "com/example/thistle/thistle/language/Operator") (E_SUBTRACT : Exa Z h0 r_SUBTRACT "com/example/thistle/thistle/language/Operator") (E_MULTIPLY : Exa Z h0 r_MULTIPLY "com/example/thistle/thistle/language/Operator") (E_DIVIDE : Exa Z h0 r_DIVIDE "com/example/thistle/thistle/language/Operator") (ne_3_0 : r_EQUAL ≠ r_AND) (ne_3_1 : r_EQUAL ≠ r_OR) (ne_3_2 : r_EQUAL ≠ r_NOT) (ne_4_0 : r_IN ≠ r_AND) (ne_4_1 : r_IN ≠ r_OR) (ne_4_2 : r_IN ≠ r_NOT) (ne_5_0 : r_GREATER_THAN ≠ r_AND) (ne_5_1 : r_GREATER_THAN ≠ r_OR) (ne_5_2 : r_GREATER_THAN ≠ r_NOT) (ne_6_0 : r_LESS_THAN ≠ r_AND) (ne_6_1 : r_LESS_THAN ≠ r_OR) (ne_6_2 : r_LESS_THAN ≠ r_NOT) (ne_7_0 : r_GREATER_THAN_OR_EQUAL ≠ r_AND) (ne_7_1 : r_GREATER_THAN_OR_EQUAL ≠ r_OR) (ne_7_2 : r_GREATER_THAN_OR_EQUAL ≠ r_NOT) (ne_8_0 : r_LESS_THAN_OR_EQUAL ≠ r_AND) (ne_8_1 : r_LESS_THAN_OR_EQUAL ≠ r_OR) (ne_8_2 : r_LESS_THAN_OR_EQUAL ≠ r_NOT) (ne_9_0 : r_ADD ≠ r_AND) (ne_9_1 : r_ADD ≠ r_OR) (ne_9_2 : r_ADD ≠ r_NOT) (ne_10_0 : r_SUBTRACT ≠ r_AND) (ne_10_1 : r_SUBTRACT ≠ r_OR) (ne_10_2 : r_SUBTRACT ≠ r_NOT) (ne_11_0 : r_MULTIPLY ≠ r_AND) (ne_11_1 : r_MULTIPLY ≠ r_OR) (ne_11_2 : r_MULTIPLY ≠ r_NOT) (ne_12_0 : r_DIVIDE ≠ r_AND) (ne_12_1 : r_DIVIDE ≠ r_OR) (ne_12_2 : r_DIVIDE ≠ r_NOT)  :
    Pays l Z x code maxLocals ret ws room_1 #[(.int pa)] h0 (fun v h L => v = some (.int 1) ∧ Fr n0 L) := by
  refine Pays.of (plainFor_of_name (by first | (simp [plainName, overriddenIn]; done) | decide +kernel)) ?_
  intro p e s m below meth c s₁ hx hby hml hown hnm hret hlk hZ e0 X0
  have N0 := Fr.nil n0
  have K0 : Keep h0 h0 [] := Keep.refl _ _
  refine Goes.go (U' := (s₁.setTop (mkF m 0 #[.val (.int pa), .unset, .unset, .unset] []))) (fun t kt => castTop (ef_rm_law m pa) kt) ?_
  refine Goes.go (U' := (s₁.setTop (mkF m 7 #[.val (.int pa), .unset, .unset, .unset] [(.int ((pa &&& (2147483647 : Int32)) % (13 : Int32)))]))) (fun t kt => ?_) ?_
  · show Steps p.tables e below (s₁.setTop (mkF m 0 #[.val (.int pa), .unset, .unset, .unset] [])) t
    refine XS.iloadN X0.here hx rfl (hb hby at_0) rfl ?_
    show Steps p.tables e below (s₁.setTop (mkF m 1 #[.val (.int pa), .unset, .unset, .unset] [(.int pa)])) t
    refine Jvm.Stand.ldcI X0 hx hown (mvT hZ (wdOf hw 0 rfl)) rfl (hb hby at_1) ?_
    show Steps p.tables e below (s₁.setTop (mkF m 3 #[.val (.int pa), .unset, .unset, .unset] [(.int (2147483647 : Int32)), (.int pa)])) t
    refine XS.iand X0.here hx rfl (hb hby at_3) rfl ?_
    show Steps p.tables e below (s₁.setTop (mkF m 4 #[.val (.int pa), .unset, .unset, .unset] [(.int (pa &&& (2147483647 : Int32)))])) t
    refine XS.bipush X0.here hx rfl (hb hby at_4) ?_
    show Steps p.tables e below (s₁.setTop (mkF m 6 #[.val (.int pa), .unset, .unset, .unset] [(.int (13 : Int32)), (.int (pa &&& (2147483647 : Int32)))])) t
    refine iremM X0 hx rfl (hb hby at_6) rfl (by decide) ?_
    exact kt
  rcases own_mod pa with hk | hk | hk | hk | hk | hk | hk | hk | hk | hk | hk | hk | hk
  · -- case 0
    rw [hk]
    refine Goes.go (U' := (s₁.setTop (mkF m 9 #[.val (.int pa), .val (.int (0 : Int32)), .unset, .unset] [(.int (0 : Int32))]))) (fun t kt => ?_) ?_
    · show Steps p.tables e below (s₁.setTop (mkF m 7 #[.val (.int pa), .unset, .unset, .unset] [(.int (0 : Int32))])) t
      refine XS.istoreN X0.here hx rfl (hb hby at_7) rfl (l' := #[.val (.int pa), .val (.int (0 : Int32)), .unset, .unset]) rfl ?_
      show Steps p.tables e below (s₁.setTop (mkF m 8 #[.val (.int pa), .val (.int (0 : Int32)), .unset, .unset] [])) t
      refine XS.iloadN X0.here hx rfl (hb hby at_8) rfl ?_
      exact kt
    obtain ⟨v1, T1, L1, X1, q1, st1⟩ := callStatic X0 hx hZ (y := (⟨"com/example/thistle/thistle/language/OperatorIsStrictPinLaw", "pick", "(I)Lcom/example/thistle/thistle/language/Operator;"⟩ : MethodName)) (W := 0) hown (wdOf hw 1 rfl) (wdOf hw 2 rfl) (wdOf hw 3 rfl) (wdOf hw 4 rfl) (by decide) (rm_pick l Z a0 hw [] (0 : Int32) r_AND r_AND r_OR r_NOT r_EQUAL r_IN r_GREATER_THAN r_LESS_THAN r_GREATER_THAN_OR_EQUAL r_LESS_THAN_OR_EQUAL r_ADD r_SUBTRACT r_MULTIPLY r_DIVIDE h0 n0 Z0 S_AND S_OR S_NOT S_EQUAL S_IN S_GREATER_THAN S_LESS_THAN S_GREATER_THAN_OR_EQUAL S_LESS_THAN_OR_EQUAL S_ADD S_SUBTRACT S_MULTIPLY S_DIVIDE (by simp)) (by decide) (by decide) (by decide) (by decide) e0 (g := (mkF m 9 #[.val (.int pa), .val (.int (0 : Int32)), .unset, .unset] [(.int (0 : Int32))])) rfl (by rw [hml]; rfl) (argsL := [(.int (0 : Int32))]) (rest := []) (lenOf pd_0 rfl) rfl rfl (Nat.le_refl _) (hb hby at_9)
    obtain ⟨rfl, n1, K1⟩ := q1
    have N1 := Fr.app N0 n1
    refine Goes.go (U' := (T1.setTop (mkF m 12 #[.val (.int pa), .val (.int (0 : Int32)), .unset, .unset] [(.ref r_AND)]))) st1 ?_
    refine Goes.go (U' := (T1.setTop (mkF m 25 #[.val (.int pa), .val (.int (0 : Int32)), .val (.ref r_AND), .val (.int (0 : Int32))] [(.ref r_AND)]))) (fun t kt => ?_) ?_
    · show Steps p.tables e below (T1.setTop (mkF m 12 #[.val (.int pa), .val (.int (0 : Int32)), .unset, .unset] [(.ref r_AND)])) t
      refine XS.astoreN X1.here hx rfl (hb hby at_12) rfl rfl (l' := #[.val (.int pa), .val (.int (0 : Int32)), .val (.ref r_AND), .unset]) rfl ?_
      show Steps p.tables e below (T1.setTop (mkF m 13 #[.val (.int pa), .val (.int (0 : Int32)), .val (.ref r_AND), .unset] [])) t
      refine XS.iloadN X1.here hx rfl (hb hby at_13) rfl ?_
      show Steps p.tables e below (T1.setTop (mkF m 14 #[.val (.int pa), .val (.int (0 : Int32)), .val (.ref r_AND), .unset] [(.int (0 : Int32))])) t
      refine XS.iconst X1.here hx rfl (hb hby at_14) ?_
      show Steps p.tables e below (T1.setTop (mkF m 15 #[.val (.int pa), .val (.int (0 : Int32)), .val (.ref r_AND), .unset] [(.int (3 : Int32)), (.int (0 : Int32))])) t
      refine XS.icmpYes X1.here hx rfl (pc0 := 15) (pc' := 22) rfl (hb hby at_15) rfl (XT.ii_lt_t (by decide)) (by decide) (by decide) ?_
      show Steps p.tables e below (T1.setTop (mkF m 22 #[.val (.int pa), .val (.int (0 : Int32)), .val (.ref r_AND), .unset] [])) t
      refine XS.iconst X1.here hx rfl (hb hby at_22) ?_
      show Steps p.tables e below (T1.setTop (mkF m 23 #[.val (.int pa), .val (.int (0 : Int32)), .val (.ref r_AND), .unset] [(.int (0 : Int32))])) t
      refine XS.istoreN X1.here hx rfl (hb hby at_23) rfl (l' := #[.val (.int pa), .val (.int (0 : Int32)), .val (.ref r_AND), .val (.int (0 : Int32))]) rfl ?_
      show Steps p.tables e below (T1.setTop (mkF m 24 #[.val (.int pa), .val (.int (0 : Int32)), .val (.ref r_AND), .val (.int (0 : Int32))] [])) t
      refine XS.aloadN X1.here hx rfl (hb hby at_24) rfl rfl ?_
      exact kt
    obtain ⟨v2, T2, L2, X2, q2, st2⟩ := callVirtual X1 hx hZ (y := (⟨"com/example/thistle/thistle/language/Operator", "isStrict", "()Z"⟩ : MethodName)) (z := (⟨"com/example/thistle/thistle/language/Operator", "isStrict", "()Z"⟩ : MethodName)) (W := 0) hown (wdOf hw 8 rfl) (wdOf hw 9 rfl) (notFace_of_selects (args := #[]) (mvT hZ (wdOf hw 11 rfl))) (wdOf hw 11 rfl) (wdOf hw 10 rfl) (wdOf hw 6 rfl) (wdOf hw 12 rfl) (by decide) (rm_strict l Z a0 hw [] r_AND r_AND r_OR r_NOT (0 : Int32) h0 n0 Z0 S_AND S_OR S_NOT (by simp [])) (by decide) (by decide) (by decide) (by decide) K1 E_AND (g := (mkF m 25 #[.val (.int pa), .val (.int (0 : Int32)), .val (.ref r_AND), .val (.int (0 : Int32))] [(.ref r_AND)])) rfl (by rw [hml]; rfl) (argsL := []) (rest := []) (lenOf pd_1 rfl) rfl rfl (Nat.le_refl _) (hb hby at_25)
    obtain ⟨rfl, n2, K2⟩ := q2
    have N2 := Fr.app N1 n2
    refine Goes.go (U' := (T2.setTop (mkF m 28 #[.val (.int pa), .val (.int (0 : Int32)), .val (.ref r_AND), .val (.int (0 : Int32))] [(.int (0 : Int32))]))) st2 ?_
    refine Goes.go (U' := (T2.setTop (mkF m 37 #[.val (.int pa), .val (.int (0 : Int32)), .val (.ref r_AND), .val (.int (0 : Int32))] [(.int (1 : Int32))]))) (fun t kt => ?_) ?_
    · show Steps p.tables e below (T2.setTop (mkF m 28 #[.val (.int pa), .val (.int (0 : Int32)), .val (.ref r_AND), .val (.int (0 : Int32))] [(.int (0 : Int32))])) t
      refine XS.iloadN X2.here hx rfl (hb hby at_28) rfl ?_
      show Steps p.tables e below (T2.setTop (mkF m 29 #[.val (.int pa), .val (.int (0 : Int32)), .val (.ref r_AND), .val (.int (0 : Int32))] [(.int (0 : Int32)), (.int (0 : Int32))])) t
      refine XS.icmpNo X2.here hx rfl (hb hby at_29) rfl (XT.ii_ne_f (by decide)) ?_
      show Steps p.tables e below (T2.setTop (mkF m 32 #[.val (.int pa), .val (.int (0 : Int32)), .val (.ref r_AND), .val (.int (0 : Int32))] [])) t
      refine XS.iconst X2.here hx rfl (hb hby at_32) ?_
      show Steps p.tables e below (T2.setTop (mkF m 33 #[.val (.int pa), .val (.int (0 : Int32)), .val (.ref r_AND), .val (.int (0 : Int32))] [(.int (1 : Int32))])) t
      refine XS.goto X2.here hx rfl (pc0 := 33) (pc' := 37) rfl (hb hby at_33) (by decide) (by decide) ?_
      exact kt
    refine Goes.retB X2 hx hlk hret (hb hby at_37) (by decide) (by decide) ?_
    try rw [K2]
    exact ⟨rfl, N2⟩
  · -- case 1
    rw [hk]
    refine Goes.go (U' := (s₁.setTop (mkF m 9 #[.val (.int pa), .val (.int (1 : Int32)), .unset, .unset] [(.int (1 : Int32))]))) (fun t kt => ?_) ?_
    · show Steps p.tables e below (s₁.setTop (mkF m 7 #[.val (.int pa), .unset, .unset, .unset] [(.int (1 : Int32))])) t
      refine XS.istoreN X0.here hx rfl (hb hby at_7) rfl (l' := #[.val (.int pa), .val (.int (1 : Int32)), .unset, .unset]) rfl ?_
      show Steps p.tables e below (s₁.setTop (mkF m 8 #[.val (.int pa), .val (.int (1 : Int32)), .unset, .unset] [])) t
      refine XS.iloadN X0.here hx rfl (hb hby at_8) rfl ?_
      exact kt
    obtain ⟨v3, T3, L3, X3, q3, st3⟩ := callStatic X0 hx hZ (y := (⟨"com/example/thistle/thistle/language/OperatorIsStrictPinLaw", "pick", "(I)Lcom/example/thistle/thistle/language/Operator;"⟩ : MethodName)) (W := 0) hown (wdOf hw 1 rfl) (wdOf hw 2 rfl) (wdOf hw 3 rfl) (wdOf hw 4 rfl) (by decide) (rm_pick l Z a0 hw [] (1 : Int32) r_OR r_AND r_OR r_NOT r_EQUAL r_IN r_GREATER_THAN r_LESS_THAN r_GREATER_THAN_OR_EQUAL r_LESS_THAN_OR_EQUAL r_ADD r_SUBTRACT r_MULTIPLY r_DIVIDE h0 n0 Z0 S_AND S_OR S_NOT S_EQUAL S_IN S_GREATER_THAN S_LESS_THAN S_GREATER_THAN_OR_EQUAL S_LESS_THAN_OR_EQUAL S_ADD S_SUBTRACT S_MULTIPLY S_DIVIDE (by simp)) (by decide) (by decide) (by decide) (by decide) e0 (g := (mkF m 9 #[.val (.int pa), .val (.int (1 : Int32)), .unset, .unset] [(.int (1 : Int32))])) rfl (by rw [hml]; rfl) (argsL := [(.int (1 : Int32))]) (rest := []) (lenOf pd_0 rfl) rfl rfl (Nat.le_refl _) (hb hby at_9)
    obtain ⟨rfl, n3, K3⟩ := q3
    have N3 := Fr.app N0 n3
    refine Goes.go (U' := (T3.setTop (mkF m 12 #[.val (.int pa), .val (.int (1 : Int32)), .unset, .unset] [(.ref r_OR)]))) st3 ?_
    refine Goes.go (U' := (T3.setTop (mkF m 25 #[.val (.int pa), .val (.int (1 : Int32)), .val (.ref r_OR), .val (.int (0 : Int32))] [(.ref r_OR)]))) (fun t kt => ?_) ?_
    · show Steps p.tables e below (T3.setTop (mkF m 12 #[.val (.int pa), .val (.int (1 : Int32)), .unset, .unset] [(.ref r_OR)])) t
      refine XS.astoreN X3.here hx rfl (hb hby at_12) rfl rfl (l' := #[.val (.int pa), .val (.int (1 : Int32)), .val (.ref r_OR), .unset]) rfl ?_
      show Steps p.tables e below (T3.setTop (mkF m 13 #[.val (.int pa), .val (.int (1 : Int32)), .val (.ref r_OR), .unset] [])) t
      refine XS.iloadN X3.here hx rfl (hb hby at_13) rfl ?_
      show Steps p.tables e below (T3.setTop (mkF m 14 #[.val (.int pa), .val (.int (1 : Int32)), .val (.ref r_OR), .unset] [(.int (1 : Int32))])) t
      refine XS.iconst X3.here hx rfl (hb hby at_14) ?_
      show Steps p.tables e below (T3.setTop (mkF m 15 #[.val (.int pa), .val (.int (1 : Int32)), .val (.ref r_OR), .unset] [(.int (3 : Int32)), (.int (1 : Int32))])) t
      refine XS.icmpYes X3.here hx rfl (pc0 := 15) (pc' := 22) rfl (hb hby at_15) rfl (XT.ii_lt_t (by decide)) (by decide) (by decide) ?_
      show Steps p.tables e below (T3.setTop (mkF m 22 #[.val (.int pa), .val (.int (1 : Int32)), .val (.ref r_OR), .unset] [])) t
      refine XS.iconst X3.here hx rfl (hb hby at_22) ?_
      show Steps p.tables e below (T3.setTop (mkF m 23 #[.val (.int pa), .val (.int (1 : Int32)), .val (.ref r_OR), .unset] [(.int (0 : Int32))])) t
      refine XS.istoreN X3.here hx rfl (hb hby at_23) rfl (l' := #[.val (.int pa), .val (.int (1 : Int32)), .val (.ref r_OR), .val (.int (0 : Int32))]) rfl ?_
      show Steps p.tables e below (T3.setTop (mkF m 24 #[.val (.int pa), .val (.int (1 : Int32)), .val (.ref r_OR), .val (.int (0 : Int32))] [])) t
      refine XS.aloadN X3.here hx rfl (hb hby at_24) rfl rfl ?_
      exact kt
    obtain ⟨v4, T4, L4, X4, q4, st4⟩ := callVirtual X3 hx hZ (y := (⟨"com/example/thistle/thistle/language/Operator", "isStrict", "()Z"⟩ : MethodName)) (z := (⟨"com/example/thistle/thistle/language/Operator", "isStrict", "()Z"⟩ : MethodName)) (W := 0) hown (wdOf hw 8 rfl) (wdOf hw 9 rfl) (notFace_of_selects (args := #[]) (mvT hZ (wdOf hw 11 rfl))) (wdOf hw 11 rfl) (wdOf hw 10 rfl) (wdOf hw 6 rfl) (wdOf hw 12 rfl) (by decide) (rm_strict l Z a0 hw [] r_OR r_AND r_OR r_NOT (0 : Int32) h0 n0 Z0 S_AND S_OR S_NOT (by simp [])) (by decide) (by decide) (by decide) (by decide) K3 E_OR (g := (mkF m 25 #[.val (.int pa), .val (.int (1 : Int32)), .val (.ref r_OR), .val (.int (0 : Int32))] [(.ref r_OR)])) rfl (by rw [hml]; rfl) (argsL := []) (rest := []) (lenOf pd_1 rfl) rfl rfl (Nat.le_refl _) (hb hby at_25)
    obtain ⟨rfl, n4, K4⟩ := q4
    have N4 := Fr.app N3 n4
    refine Goes.go (U' := (T4.setTop (mkF m 28 #[.val (.int pa), .val (.int (1 : Int32)), .val (.ref r_OR), .val (.int (0 : Int32))] [(.int (0 : Int32))]))) st4 ?_
    refine Goes.go (U' := (T4.setTop (mkF m 37 #[.val (.int pa), .val (.int (1 : Int32)), .val (.ref r_OR), .val (.int (0 : Int32))] [(.int (1 : Int32))]))) (fun t kt => ?_) ?_
    · show Steps p.tables e below (T4.setTop (mkF m 28 #[.val (.int pa), .val (.int (1 : Int32)), .val (.ref r_OR), .val (.int (0 : Int32))] [(.int (0 : Int32))])) t
      refine XS.iloadN X4.here hx rfl (hb hby at_28) rfl ?_
      show Steps p.tables e below (T4.setTop (mkF m 29 #[.val (.int pa), .val (.int (1 : Int32)), .val (.ref r_OR), .val (.int (0 : Int32))] [(.int (0 : Int32)), (.int (0 : Int32))])) t
      refine XS.icmpNo X4.here hx rfl (hb hby at_29) rfl (XT.ii_ne_f (by decide)) ?_
      show Steps p.tables e below (T4.setTop (mkF m 32 #[.val (.int pa), .val (.int (1 : Int32)), .val (.ref r_OR), .val (.int (0 : Int32))] [])) t
      refine XS.iconst X4.here hx rfl (hb hby at_32) ?_
      show Steps p.tables e below (T4.setTop (mkF m 33 #[.val (.int pa), .val (.int (1 : Int32)), .val (.ref r_OR), .val (.int (0 : Int32))] [(.int (1 : Int32))])) t
      refine XS.goto X4.here hx rfl (pc0 := 33) (pc' := 37) rfl (hb hby at_33) (by decide) (by decide) ?_
      exact kt
    refine Goes.retB X4 hx hlk hret (hb hby at_37) (by decide) (by decide) ?_
    try rw [K4]
    exact ⟨rfl, N4⟩
  · -- case 2
    rw [hk]
    refine Goes.go (U' := (s₁.setTop (mkF m 9 #[.val (.int pa), .val (.int (2 : Int32)), .unset, .unset] [(.int (2 : Int32))]))) (fun t kt => ?_) ?_
    · show Steps p.tables e below (s₁.setTop (mkF m 7 #[.val (.int pa), .unset, .unset, .unset] [(.int (2 : Int32))])) t
      refine XS.istoreN X0.here hx rfl (hb hby at_7) rfl (l' := #[.val (.int pa), .val (.int (2 : Int32)), .unset, .unset]) rfl ?_
      show Steps p.tables e below (s₁.setTop (mkF m 8 #[.val (.int pa), .val (.int (2 : Int32)), .unset, .unset] [])) t
      refine XS.iloadN X0.here hx rfl (hb hby at_8) rfl ?_
      exact kt
    obtain ⟨v5, T5, L5, X5, q5, st5⟩ := callStatic X0 hx hZ (y := (⟨"com/example/thistle/thistle/language/OperatorIsStrictPinLaw", "pick", "(I)Lcom/example/thistle/thistle/language/Operator;"⟩ : MethodName)) (W := 0) hown (wdOf hw 1 rfl) (wdOf hw 2 rfl) (wdOf hw 3 rfl) (wdOf hw 4 rfl) (by decide) (rm_pick l Z a0 hw [] (2 : Int32) r_NOT r_AND r_OR r_NOT r_EQUAL r_IN r_GREATER_THAN r_LESS_THAN r_GREATER_THAN_OR_EQUAL r_LESS_THAN_OR_EQUAL r_ADD r_SUBTRACT r_MULTIPLY r_DIVIDE h0 n0 Z0 S_AND S_OR S_NOT S_EQUAL S_IN S_GREATER_THAN S_LESS_THAN S_GREATER_THAN_OR_EQUAL S_LESS_THAN_OR_EQUAL S_ADD S_SUBTRACT S_MULTIPLY S_DIVIDE (by simp)) (by decide) (by decide) (by decide) (by decide) e0 (g := (mkF m 9 #[.val (.int pa), .val (.int (2 : Int32)), .unset, .unset] [(.int (2 : Int32))])) rfl (by rw [hml]; rfl) (argsL := [(.int (2 : Int32))]) (rest := []) (lenOf pd_0 rfl) rfl rfl (Nat.le_refl _) (hb hby at_9)
    obtain ⟨rfl, n5, K5⟩ := q5
    have N5 := Fr.app N0 n5
    refine Goes.go (U' := (T5.setTop (mkF m 12 #[.val (.int pa), .val (.int (2 : Int32)), .unset, .unset] [(.ref r_NOT)]))) st5 ?_
    refine Goes.go (U' := (T5.setTop (mkF m 25 #[.val (.int pa), .val (.int (2 : Int32)), .val (.ref r_NOT), .val (.int (0 : Int32))] [(.ref r_NOT)]))) (fun t kt => ?_) ?_
    · show Steps p.tables e below (T5.setTop (mkF m 12 #[.val (.int pa), .val (.int (2 : Int32)), .unset, .unset] [(.ref r_NOT)])) t
      refine XS.astoreN X5.here hx rfl (hb hby at_12) rfl rfl (l' := #[.val (.int pa), .val (.int (2 : Int32)), .val (.ref r_NOT), .unset]) rfl ?_
      show Steps p.tables e below (T5.setTop (mkF m 13 #[.val (.int pa), .val (.int (2 : Int32)), .val (.ref r_NOT), .unset] [])) t
      refine XS.iloadN X5.here hx rfl (hb hby at_13) rfl ?_
      show Steps p.tables e below (T5.setTop (mkF m 14 #[.val (.int pa), .val (.int (2 : Int32)), .val (.ref r_NOT), .unset] [(.int (2 : Int32))])) t
      refine XS.iconst X5.here hx rfl (hb hby at_14) ?_
      show Steps p.tables e below (T5.setTop (mkF m 15 #[.val (.int pa), .val (.int (2 : Int32)), .val (.ref r_NOT), .unset] [(.int (3 : Int32)), (.int (2 : Int32))])) t
      refine XS.icmpYes X5.here hx rfl (pc0 := 15) (pc' := 22) rfl (hb hby at_15) rfl (XT.ii_lt_t (by decide)) (by decide) (by decide) ?_
      show Steps p.tables e below (T5.setTop (mkF m 22 #[.val (.int pa), .val (.int (2 : Int32)), .val (.ref r_NOT), .unset] [])) t
      refine XS.iconst X5.here hx rfl (hb hby at_22) ?_
      show Steps p.tables e below (T5.setTop (mkF m 23 #[.val (.int pa), .val (.int (2 : Int32)), .val (.ref r_NOT), .unset] [(.int (0 : Int32))])) t
      refine XS.istoreN X5.here hx rfl (hb hby at_23) rfl (l' := #[.val (.int pa), .val (.int (2 : Int32)), .val (.ref r_NOT), .val (.int (0 : Int32))]) rfl ?_
      show Steps p.tables e below (T5.setTop (mkF m 24 #[.val (.int pa), .val (.int (2 : Int32)), .val (.ref r_NOT), .val (.int (0 : Int32))] [])) t
      refine XS.aloadN X5.here hx rfl (hb hby at_24) rfl rfl ?_
      exact kt
    obtain ⟨v6, T6, L6, X6, q6, st6⟩ := callVirtual X5 hx hZ (y := (⟨"com/example/thistle/thistle/language/Operator", "isStrict", "()Z"⟩ : MethodName)) (z := (⟨"com/example/thistle/thistle/language/Operator", "isStrict", "()Z"⟩ : MethodName)) (W := 0) hown (wdOf hw 8 rfl) (wdOf hw 9 rfl) (notFace_of_selects (args := #[]) (mvT hZ (wdOf hw 11 rfl))) (wdOf hw 11 rfl) (wdOf hw 10 rfl) (wdOf hw 6 rfl) (wdOf hw 12 rfl) (by decide) (rm_strict l Z a0 hw [] r_NOT r_AND r_OR r_NOT (0 : Int32) h0 n0 Z0 S_AND S_OR S_NOT (by simp [])) (by decide) (by decide) (by decide) (by decide) K5 E_NOT (g := (mkF m 25 #[.val (.int pa), .val (.int (2 : Int32)), .val (.ref r_NOT), .val (.int (0 : Int32))] [(.ref r_NOT)])) rfl (by rw [hml]; rfl) (argsL := []) (rest := []) (lenOf pd_1 rfl) rfl rfl (Nat.le_refl _) (hb hby at_25)
    obtain ⟨rfl, n6, K6⟩ := q6
    have N6 := Fr.app N5 n6
    refine Goes.go (U' := (T6.setTop (mkF m 28 #[.val (.int pa), .val (.int (2 : Int32)), .val (.ref r_NOT), .val (.int (0 : Int32))] [(.int (0 : Int32))]))) st6 ?_
    refine Goes.go (U' := (T6.setTop (mkF m 37 #[.val (.int pa), .val (.int (2 : Int32)), .val (.ref r_NOT), .val (.int (0 : Int32))] [(.int (1 : Int32))]))) (fun t kt => ?_) ?_
    · show Steps p.tables e below (T6.setTop (mkF m 28 #[.val (.int pa), .val (.int (2 : Int32)), .val (.ref r_NOT), .val (.int (0 : Int32))] [(.int (0 : Int32))])) t
      refine XS.iloadN X6.here hx rfl (hb hby at_28) rfl ?_
      show Steps p.tables e below (T6.setTop (mkF m 29 #[.val (.int pa), .val (.int (2 : Int32)), .val (.ref r_NOT), .val (.int (0 : Int32))] [(.int (0 : Int32)), (.int (0 : Int32))])) t
      refine XS.icmpNo X6.here hx rfl (hb hby at_29) rfl (XT.ii_ne_f (by decide)) ?_
      show Steps p.tables e below (T6.setTop (mkF m 32 #[.val (.int pa), .val (.int (2 : Int32)), .val (.ref r_NOT), .val (.int (0 : Int32))] [])) t
      refine XS.iconst X6.here hx rfl (hb hby at_32) ?_
      show Steps p.tables e below (T6.setTop (mkF m 33 #[.val (.int pa), .val (.int (2 : Int32)), .val (.ref r_NOT), .val (.int (0 : Int32))] [(.int (1 : Int32))])) t
      refine XS.goto X6.here hx rfl (pc0 := 33) (pc' := 37) rfl (hb hby at_33) (by decide) (by decide) ?_
      exact kt
    refine Goes.retB X6 hx hlk hret (hb hby at_37) (by decide) (by decide) ?_
    try rw [K6]
    exact ⟨rfl, N6⟩
  · -- case 3
    rw [hk]
    refine Goes.go (U' := (s₁.setTop (mkF m 9 #[.val (.int pa), .val (.int (3 : Int32)), .unset, .unset] [(.int (3 : Int32))]))) (fun t kt => ?_) ?_
    · show Steps p.tables e below (s₁.setTop (mkF m 7 #[.val (.int pa), .unset, .unset, .unset] [(.int (3 : Int32))])) t
      refine XS.istoreN X0.here hx rfl (hb hby at_7) rfl (l' := #[.val (.int pa), .val (.int (3 : Int32)), .unset, .unset]) rfl ?_
      show Steps p.tables e below (s₁.setTop (mkF m 8 #[.val (.int pa), .val (.int (3 : Int32)), .unset, .unset] [])) t
      refine XS.iloadN X0.here hx rfl (hb hby at_8) rfl ?_
      exact kt
    obtain ⟨v7, T7, L7, X7, q7, st7⟩ := callStatic X0 hx hZ (y := (⟨"com/example/thistle/thistle/language/OperatorIsStrictPinLaw", "pick", "(I)Lcom/example/thistle/thistle/language/Operator;"⟩ : MethodName)) (W := 0) hown (wdOf hw 1 rfl) (wdOf hw 2 rfl) (wdOf hw 3 rfl) (wdOf hw 4 rfl) (by decide) (rm_pick l Z a0 hw [] (3 : Int32) r_EQUAL r_AND r_OR r_NOT r_EQUAL r_IN r_GREATER_THAN r_LESS_THAN r_GREATER_THAN_OR_EQUAL r_LESS_THAN_OR_EQUAL r_ADD r_SUBTRACT r_MULTIPLY r_DIVIDE h0 n0 Z0 S_AND S_OR S_NOT S_EQUAL S_IN S_GREATER_THAN S_LESS_THAN S_GREATER_THAN_OR_EQUAL S_LESS_THAN_OR_EQUAL S_ADD S_SUBTRACT S_MULTIPLY S_DIVIDE (by simp)) (by decide) (by decide) (by decide) (by decide) e0 (g := (mkF m 9 #[.val (.int pa), .val (.int (3 : Int32)), .unset, .unset] [(.int (3 : Int32))])) rfl (by rw [hml]; rfl) (argsL := [(.int (3 : Int32))]) (rest := []) (lenOf pd_0 rfl) rfl rfl (Nat.le_refl _) (hb hby at_9)
    obtain ⟨rfl, n7, K7⟩ := q7
    have N7 := Fr.app N0 n7
    refine Goes.go (U' := (T7.setTop (mkF m 12 #[.val (.int pa), .val (.int (3 : Int32)), .unset, .unset] [(.ref r_EQUAL)]))) st7 ?_
    refine Goes.go (U' := (T7.setTop (mkF m 25 #[.val (.int pa), .val (.int (3 : Int32)), .val (.ref r_EQUAL), .val (.int (1 : Int32))] [(.ref r_EQUAL)]))) (fun t kt => ?_) ?_
    · show Steps p.tables e below (T7.setTop (mkF m 12 #[.val (.int pa), .val (.int (3 : Int32)), .unset, .unset] [(.ref r_EQUAL)])) t
      refine XS.astoreN X7.here hx rfl (hb hby at_12) rfl rfl (l' := #[.val (.int pa), .val (.int (3 : Int32)), .val (.ref r_EQUAL), .unset]) rfl ?_
      show Steps p.tables e below (T7.setTop (mkF m 13 #[.val (.int pa), .val (.int (3 : Int32)), .val (.ref r_EQUAL), .unset] [])) t
      refine XS.iloadN X7.here hx rfl (hb hby at_13) rfl ?_
      show Steps p.tables e below (T7.setTop (mkF m 14 #[.val (.int pa), .val (.int (3 : Int32)), .val (.ref r_EQUAL), .unset] [(.int (3 : Int32))])) t
      refine XS.iconst X7.here hx rfl (hb hby at_14) ?_
      show Steps p.tables e below (T7.setTop (mkF m 15 #[.val (.int pa), .val (.int (3 : Int32)), .val (.ref r_EQUAL), .unset] [(.int (3 : Int32)), (.int (3 : Int32))])) t
      refine XS.icmpNo X7.here hx rfl (hb hby at_15) rfl (XT.ii_lt_f (by decide)) ?_
      show Steps p.tables e below (T7.setTop (mkF m 18 #[.val (.int pa), .val (.int (3 : Int32)), .val (.ref r_EQUAL), .unset] [])) t
      refine XS.iconst X7.here hx rfl (hb hby at_18) ?_
      show Steps p.tables e below (T7.setTop (mkF m 19 #[.val (.int pa), .val (.int (3 : Int32)), .val (.ref r_EQUAL), .unset] [(.int (1 : Int32))])) t
      refine XS.goto X7.here hx rfl (pc0 := 19) (pc' := 23) rfl (hb hby at_19) (by decide) (by decide) ?_
      show Steps p.tables e below (T7.setTop (mkF m 23 #[.val (.int pa), .val (.int (3 : Int32)), .val (.ref r_EQUAL), .unset] [(.int (1 : Int32))])) t
      refine XS.istoreN X7.here hx rfl (hb hby at_23) rfl (l' := #[.val (.int pa), .val (.int (3 : Int32)), .val (.ref r_EQUAL), .val (.int (1 : Int32))]) rfl ?_
      show Steps p.tables e below (T7.setTop (mkF m 24 #[.val (.int pa), .val (.int (3 : Int32)), .val (.ref r_EQUAL), .val (.int (1 : Int32))] [])) t
      refine XS.aloadN X7.here hx rfl (hb hby at_24) rfl rfl ?_
      exact kt
    obtain ⟨v8, T8, L8, X8, q8, st8⟩ := callVirtual X7 hx hZ (y := (⟨"com/example/thistle/thistle/language/Operator", "isStrict", "()Z"⟩ : MethodName)) (z := (⟨"com/example/thistle/thistle/language/Operator", "isStrict", "()Z"⟩ : MethodName)) (W := 0) hown (wdOf hw 8 rfl) (wdOf hw 9 rfl) (notFace_of_selects (args := #[]) (mvT hZ (wdOf hw 11 rfl))) (wdOf hw 11 rfl) (wdOf hw 10 rfl) (wdOf hw 6 rfl) (wdOf hw 12 rfl) (by decide) (rm_strict l Z a0 hw [] r_EQUAL r_AND r_OR r_NOT (1 : Int32) h0 n0 Z0 S_AND S_OR S_NOT (by simp [ne_3_0, ne_3_1, ne_3_2])) (by decide) (by decide) (by decide) (by decide) K7 E_EQUAL (g := (mkF m 25 #[.val (.int pa), .val (.int (3 : Int32)), .val (.ref r_EQUAL), .val (.int (1 : Int32))] [(.ref r_EQUAL)])) rfl (by rw [hml]; rfl) (argsL := []) (rest := []) (lenOf pd_1 rfl) rfl rfl (Nat.le_refl _) (hb hby at_25)
    obtain ⟨rfl, n8, K8⟩ := q8
    have N8 := Fr.app N7 n8
    refine Goes.go (U' := (T8.setTop (mkF m 28 #[.val (.int pa), .val (.int (3 : Int32)), .val (.ref r_EQUAL), .val (.int (1 : Int32))] [(.int (1 : Int32))]))) st8 ?_
    refine Goes.go (U' := (T8.setTop (mkF m 37 #[.val (.int pa), .val (.int (3 : Int32)), .val (.ref r_EQUAL), .val (.int (1 : Int32))] [(.int (1 : Int32))]))) (fun t kt => ?_) ?_
    · show Steps p.tables e below (T8.setTop (mkF m 28 #[.val (.int pa), .val (.int (3 : Int32)), .val (.ref r_EQUAL), .val (.int (1 : Int32))] [(.int (1 : Int32))])) t
      refine XS.iloadN X8.here hx rfl (hb hby at_28) rfl ?_
      show Steps p.tables e below (T8.setTop (mkF m 29 #[.val (.int pa), .val (.int (3 : Int32)), .val (.ref r_EQUAL), .val (.int (1 : Int32))] [(.int (1 : Int32)), (.int (1 : Int32))])) t
      refine XS.icmpNo X8.here hx rfl (hb hby at_29) rfl (XT.ii_ne_f (by decide)) ?_
      show Steps p.tables e below (T8.setTop (mkF m 32 #[.val (.int pa), .val (.int (3 : Int32)), .val (.ref r_EQUAL), .val (.int (1 : Int32))] [])) t
      refine XS.iconst X8.here hx rfl (hb hby at_32) ?_
      show Steps p.tables e below (T8.setTop (mkF m 33 #[.val (.int pa), .val (.int (3 : Int32)), .val (.ref r_EQUAL), .val (.int (1 : Int32))] [(.int (1 : Int32))])) t
      refine XS.goto X8.here hx rfl (pc0 := 33) (pc' := 37) rfl (hb hby at_33) (by decide) (by decide) ?_
      exact kt
    refine Goes.retB X8 hx hlk hret (hb hby at_37) (by decide) (by decide) ?_
    try rw [K8]
    exact ⟨rfl, N8⟩
  · -- case 4
    rw [hk]
    refine Goes.go (U' := (s₁.setTop (mkF m 9 #[.val (.int pa), .val (.int (4 : Int32)), .unset, .unset] [(.int (4 : Int32))]))) (fun t kt => ?_) ?_
    · show Steps p.tables e below (s₁.setTop (mkF m 7 #[.val (.int pa), .unset, .unset, .unset] [(.int (4 : Int32))])) t
      refine XS.istoreN X0.here hx rfl (hb hby at_7) rfl (l' := #[.val (.int pa), .val (.int (4 : Int32)), .unset, .unset]) rfl ?_
      show Steps p.tables e below (s₁.setTop (mkF m 8 #[.val (.int pa), .val (.int (4 : Int32)), .unset, .unset] [])) t
      refine XS.iloadN X0.here hx rfl (hb hby at_8) rfl ?_
      exact kt
    obtain ⟨v9, T9, L9, X9, q9, st9⟩ := callStatic X0 hx hZ (y := (⟨"com/example/thistle/thistle/language/OperatorIsStrictPinLaw", "pick", "(I)Lcom/example/thistle/thistle/language/Operator;"⟩ : MethodName)) (W := 0) hown (wdOf hw 1 rfl) (wdOf hw 2 rfl) (wdOf hw 3 rfl) (wdOf hw 4 rfl) (by decide) (rm_pick l Z a0 hw [] (4 : Int32) r_IN r_AND r_OR r_NOT r_EQUAL r_IN r_GREATER_THAN r_LESS_THAN r_GREATER_THAN_OR_EQUAL r_LESS_THAN_OR_EQUAL r_ADD r_SUBTRACT r_MULTIPLY r_DIVIDE h0 n0 Z0 S_AND S_OR S_NOT S_EQUAL S_IN S_GREATER_THAN S_LESS_THAN S_GREATER_THAN_OR_EQUAL S_LESS_THAN_OR_EQUAL S_ADD S_SUBTRACT S_MULTIPLY S_DIVIDE (by simp)) (by decide) (by decide) (by decide) (by decide) e0 (g := (mkF m 9 #[.val (.int pa), .val (.int (4 : Int32)), .unset, .unset] [(.int (4 : Int32))])) rfl (by rw [hml]; rfl) (argsL := [(.int (4 : Int32))]) (rest := []) (lenOf pd_0 rfl) rfl rfl (Nat.le_refl _) (hb hby at_9)
    obtain ⟨rfl, n9, K9⟩ := q9
    have N9 := Fr.app N0 n9
    refine Goes.go (U' := (T9.setTop (mkF m 12 #[.val (.int pa), .val (.int (4 : Int32)), .unset, .unset] [(.ref r_IN)]))) st9 ?_
    refine Goes.go (U' := (T9.setTop (mkF m 25 #[.val (.int pa), .val (.int (4 : Int32)), .val (.ref r_IN), .val (.int (1 : Int32))] [(.ref r_IN)]))) (fun t kt => ?_) ?_
    · show Steps p.tables e below (T9.setTop (mkF m 12 #[.val (.int pa), .val (.int (4 : Int32)), .unset, .unset] [(.ref r_IN)])) t
      refine XS.astoreN X9.here hx rfl (hb hby at_12) rfl rfl (l' := #[.val (.int pa), .val (.int (4 : Int32)), .val (.ref r_IN), .unset]) rfl ?_
      show Steps p.tables e below (T9.setTop (mkF m 13 #[.val (.int pa), .val (.int (4 : Int32)), .val (.ref r_IN), .unset] [])) t
      refine XS.iloadN X9.here hx rfl (hb hby at_13) rfl ?_
      show Steps p.tables e below (T9.setTop (mkF m 14 #[.val (.int pa), .val (.int (4 : Int32)), .val (.ref r_IN), .unset] [(.int (4 : Int32))])) t
      refine XS.iconst X9.here hx rfl (hb hby at_14) ?_
      show Steps p.tables e below (T9.setTop (mkF m 15 #[.val (.int pa), .val (.int (4 : Int32)), .val (.ref r_IN), .unset] [(.int (3 : Int32)), (.int (4 : Int32))])) t
      refine XS.icmpNo X9.here hx rfl (hb hby at_15) rfl (XT.ii_lt_f (by decide)) ?_
      show Steps p.tables e below (T9.setTop (mkF m 18 #[.val (.int pa), .val (.int (4 : Int32)), .val (.ref r_IN), .unset] [])) t
      refine XS.iconst X9.here hx rfl (hb hby at_18) ?_
      show Steps p.tables e below (T9.setTop (mkF m 19 #[.val (.int pa), .val (.int (4 : Int32)), .val (.ref r_IN), .unset] [(.int (1 : Int32))])) t
      refine XS.goto X9.here hx rfl (pc0 := 19) (pc' := 23) rfl (hb hby at_19) (by decide) (by decide) ?_
      show Steps p.tables e below (T9.setTop (mkF m 23 #[.val (.int pa), .val (.int (4 : Int32)), .val (.ref r_IN), .unset] [(.int (1 : Int32))])) t
      refine XS.istoreN X9.here hx rfl (hb hby at_23) rfl (l' := #[.val (.int pa), .val (.int (4 : Int32)), .val (.ref r_IN), .val (.int (1 : Int32))]) rfl ?_
      show Steps p.tables e below (T9.setTop (mkF m 24 #[.val (.int pa), .val (.int (4 : Int32)), .val (.ref r_IN), .val (.int (1 : Int32))] [])) t
      refine XS.aloadN X9.here hx rfl (hb hby at_24) rfl rfl ?_
      exact kt
    obtain ⟨v10, T10, L10, X10, q10, st10⟩ := callVirtual X9 hx hZ (y := (⟨"com/example/thistle/thistle/language/Operator", "isStrict", "()Z"⟩ : MethodName)) (z := (⟨"com/example/thistle/thistle/language/Operator", "isStrict", "()Z"⟩ : MethodName)) (W := 0) hown (wdOf hw 8 rfl) (wdOf hw 9 rfl) (notFace_of_selects (args := #[]) (mvT hZ (wdOf hw 11 rfl))) (wdOf hw 11 rfl) (wdOf hw 10 rfl) (wdOf hw 6 rfl) (wdOf hw 12 rfl) (by decide) (rm_strict l Z a0 hw [] r_IN r_AND r_OR r_NOT (1 : Int32) h0 n0 Z0 S_AND S_OR S_NOT (by simp [ne_4_0, ne_4_1, ne_4_2])) (by decide) (by decide) (by decide) (by decide) K9 E_IN (g := (mkF m 25 #[.val (.int pa), .val (.int (4 : Int32)), .val (.ref r_IN), .val (.int (1 : Int32))] [(.ref r_IN)])) rfl (by rw [hml]; rfl) (argsL := []) (rest := []) (lenOf pd_1 rfl) rfl rfl (Nat.le_refl _) (hb hby at_25)
    obtain ⟨rfl, n10, K10⟩ := q10
    have N10 := Fr.app N9 n10
    refine Goes.go (U' := (T10.setTop (mkF m 28 #[.val (.int pa), .val (.int (4 : Int32)), .val (.ref r_IN), .val (.int (1 : Int32))] [(.int (1 : Int32))]))) st10 ?_
    refine Goes.go (U' := (T10.setTop (mkF m 37 #[.val (.int pa), .val (.int (4 : Int32)), .val (.ref r_IN), .val (.int (1 : Int32))] [(.int (1 : Int32))]))) (fun t kt => ?_) ?_
    · show Steps p.tables e below (T10.setTop (mkF m 28 #[.val (.int pa), .val (.int (4 : Int32)), .val (.ref r_IN), .val (.int (1 : Int32))] [(.int (1 : Int32))])) t
      refine XS.iloadN X10.here hx rfl (hb hby at_28) rfl ?_
      show Steps p.tables e below (T10.setTop (mkF m 29 #[.val (.int pa), .val (.int (4 : Int32)), .val (.ref r_IN), .val (.int (1 : Int32))] [(.int (1 : Int32)), (.int (1 : Int32))])) t
      refine XS.icmpNo X10.here hx rfl (hb hby at_29) rfl (XT.ii_ne_f (by decide)) ?_
      show Steps p.tables e below (T10.setTop (mkF m 32 #[.val (.int pa), .val (.int (4 : Int32)), .val (.ref r_IN), .val (.int (1 : Int32))] [])) t
      refine XS.iconst X10.here hx rfl (hb hby at_32) ?_
      show Steps p.tables e below (T10.setTop (mkF m 33 #[.val (.int pa), .val (.int (4 : Int32)), .val (.ref r_IN), .val (.int (1 : Int32))] [(.int (1 : Int32))])) t
      refine XS.goto X10.here hx rfl (pc0 := 33) (pc' := 37) rfl (hb hby at_33) (by decide) (by decide) ?_
      exact kt
    refine Goes.retB X10 hx hlk hret (hb hby at_37) (by decide) (by decide) ?_
    try rw [K10]
    exact ⟨rfl, N10⟩
  · -- case 5
    rw [hk]
    refine Goes.go (U' := (s₁.setTop (mkF m 9 #[.val (.int pa), .val (.int (5 : Int32)), .unset, .unset] [(.int (5 : Int32))]))) (fun t kt => ?_) ?_
    · show Steps p.tables e below (s₁.setTop (mkF m 7 #[.val (.int pa), .unset, .unset, .unset] [(.int (5 : Int32))])) t
      refine XS.istoreN X0.here hx rfl (hb hby at_7) rfl (l' := #[.val (.int pa), .val (.int (5 : Int32)), .unset, .unset]) rfl ?_
      show Steps p.tables e below (s₁.setTop (mkF m 8 #[.val (.int pa), .val (.int (5 : Int32)), .unset, .unset] [])) t
      refine XS.iloadN X0.here hx rfl (hb hby at_8) rfl ?_
      exact kt
    obtain ⟨v11, T11, L11, X11, q11, st11⟩ := callStatic X0 hx hZ (y := (⟨"com/example/thistle/thistle/language/OperatorIsStrictPinLaw", "pick", "(I)Lcom/example/thistle/thistle/language/Operator;"⟩ : MethodName)) (W := 0) hown (wdOf hw 1 rfl) (wdOf hw 2 rfl) (wdOf hw 3 rfl) (wdOf hw 4 rfl) (by decide) (rm_pick l Z a0 hw [] (5 : Int32) r_GREATER_THAN r_AND r_OR r_NOT r_EQUAL r_IN r_GREATER_THAN r_LESS_THAN r_GREATER_THAN_OR_EQUAL r_LESS_THAN_OR_EQUAL r_ADD r_SUBTRACT r_MULTIPLY r_DIVIDE h0 n0 Z0 S_AND S_OR S_NOT S_EQUAL S_IN S_GREATER_THAN S_LESS_THAN S_GREATER_THAN_OR_EQUAL S_LESS_THAN_OR_EQUAL S_ADD S_SUBTRACT S_MULTIPLY S_DIVIDE (by simp)) (by decide) (by decide) (by decide) (by decide) e0 (g := (mkF m 9 #[.val (.int pa), .val (.int (5 : Int32)), .unset, .unset] [(.int (5 : Int32))])) rfl (by rw [hml]; rfl) (argsL := [(.int (5 : Int32))]) (rest := []) (lenOf pd_0 rfl) rfl rfl (Nat.le_refl _) (hb hby at_9)
    obtain ⟨rfl, n11, K11⟩ := q11
    have N11 := Fr.app N0 n11
    refine Goes.go (U' := (T11.setTop (mkF m 12 #[.val (.int pa), .val (.int (5 : Int32)), .unset, .unset] [(.ref r_GREATER_THAN)]))) st11 ?_
    refine Goes.go (U' := (T11.setTop (mkF m 25 #[.val (.int pa), .val (.int (5 : Int32)), .val (.ref r_GREATER_THAN), .val (.int (1 : Int32))] [(.ref r_GREATER_THAN)]))) (fun t kt => ?_) ?_
    · show Steps p.tables e below (T11.setTop (mkF m 12 #[.val (.int pa), .val (.int (5 : Int32)), .unset, .unset] [(.ref r_GREATER_THAN)])) t
      refine XS.astoreN X11.here hx rfl (hb hby at_12) rfl rfl (l' := #[.val (.int pa), .val (.int (5 : Int32)), .val (.ref r_GREATER_THAN), .unset]) rfl ?_
      show Steps p.tables e below (T11.setTop (mkF m 13 #[.val (.int pa), .val (.int (5 : Int32)), .val (.ref r_GREATER_THAN), .unset] [])) t
      refine XS.iloadN X11.here hx rfl (hb hby at_13) rfl ?_
      show Steps p.tables e below (T11.setTop (mkF m 14 #[.val (.int pa), .val (.int (5 : Int32)), .val (.ref r_GREATER_THAN), .unset] [(.int (5 : Int32))])) t
      refine XS.iconst X11.here hx rfl (hb hby at_14) ?_
      show Steps p.tables e below (T11.setTop (mkF m 15 #[.val (.int pa), .val (.int (5 : Int32)), .val (.ref r_GREATER_THAN), .unset] [(.int (3 : Int32)), (.int (5 : Int32))])) t
      refine XS.icmpNo X11.here hx rfl (hb hby at_15) rfl (XT.ii_lt_f (by decide)) ?_
      show Steps p.tables e below (T11.setTop (mkF m 18 #[.val (.int pa), .val (.int (5 : Int32)), .val (.ref r_GREATER_THAN), .unset] [])) t
      refine XS.iconst X11.here hx rfl (hb hby at_18) ?_
      show Steps p.tables e below (T11.setTop (mkF m 19 #[.val (.int pa), .val (.int (5 : Int32)), .val (.ref r_GREATER_THAN), .unset] [(.int (1 : Int32))])) t
      refine XS.goto X11.here hx rfl (pc0 := 19) (pc' := 23) rfl (hb hby at_19) (by decide) (by decide) ?_
      show Steps p.tables e below (T11.setTop (mkF m 23 #[.val (.int pa), .val (.int (5 : Int32)), .val (.ref r_GREATER_THAN), .unset] [(.int (1 : Int32))])) t
      refine XS.istoreN X11.here hx rfl (hb hby at_23) rfl (l' := #[.val (.int pa), .val (.int (5 : Int32)), .val (.ref r_GREATER_THAN), .val (.int (1 : Int32))]) rfl ?_
      show Steps p.tables e below (T11.setTop (mkF m 24 #[.val (.int pa), .val (.int (5 : Int32)), .val (.ref r_GREATER_THAN), .val (.int (1 : Int32))] [])) t
      refine XS.aloadN X11.here hx rfl (hb hby at_24) rfl rfl ?_
      exact kt
    obtain ⟨v12, T12, L12, X12, q12, st12⟩ := callVirtual X11 hx hZ (y := (⟨"com/example/thistle/thistle/language/Operator", "isStrict", "()Z"⟩ : MethodName)) (z := (⟨"com/example/thistle/thistle/language/Operator", "isStrict", "()Z"⟩ : MethodName)) (W := 0) hown (wdOf hw 8 rfl) (wdOf hw 9 rfl) (notFace_of_selects (args := #[]) (mvT hZ (wdOf hw 11 rfl))) (wdOf hw 11 rfl) (wdOf hw 10 rfl) (wdOf hw 6 rfl) (wdOf hw 12 rfl) (by decide) (rm_strict l Z a0 hw [] r_GREATER_THAN r_AND r_OR r_NOT (1 : Int32) h0 n0 Z0 S_AND S_OR S_NOT (by simp [ne_5_0, ne_5_1, ne_5_2])) (by decide) (by decide) (by decide) (by decide) K11 E_GREATER_THAN (g := (mkF m 25 #[.val (.int pa), .val (.int (5 : Int32)), .val (.ref r_GREATER_THAN), .val (.int (1 : Int32))] [(.ref r_GREATER_THAN)])) rfl (by rw [hml]; rfl) (argsL := []) (rest := []) (lenOf pd_1 rfl) rfl rfl (Nat.le_refl _) (hb hby at_25)
    obtain ⟨rfl, n12, K12⟩ := q12
    have N12 := Fr.app N11 n12
    refine Goes.go (U' := (T12.setTop (mkF m 28 #[.val (.int pa), .val (.int (5 : Int32)), .val (.ref r_GREATER_THAN), .val (.int (1 : Int32))] [(.int (1 : Int32))]))) st12 ?_
    refine Goes.go (U' := (T12.setTop (mkF m 37 #[.val (.int pa), .val (.int (5 : Int32)), .val (.ref r_GREATER_THAN), .val (.int (1 : Int32))] [(.int (1 : Int32))]))) (fun t kt => ?_) ?_
    · show Steps p.tables e below (T12.setTop (mkF m 28 #[.val (.int pa), .val (.int (5 : Int32)), .val (.ref r_GREATER_THAN), .val (.int (1 : Int32))] [(.int (1 : Int32))])) t
      refine XS.iloadN X12.here hx rfl (hb hby at_28) rfl ?_
      show Steps p.tables e below (T12.setTop (mkF m 29 #[.val (.int pa), .val (.int (5 : Int32)), .val (.ref r_GREATER_THAN), .val (.int (1 : Int32))] [(.int (1 : Int32)), (.int (1 : Int32))])) t
      refine XS.icmpNo X12.here hx rfl (hb hby at_29) rfl (XT.ii_ne_f (by decide)) ?_
      show Steps p.tables e below (T12.setTop (mkF m 32 #[.val (.int pa), .val (.int (5 : Int32)), .val (.ref r_GREATER_THAN), .val (.int (1 : Int32))] [])) t
      refine XS.iconst X12.here hx rfl (hb hby at_32) ?_
      show Steps p.tables e below (T12.setTop (mkF m 33 #[.val (.int pa), .val (.int (5 : Int32)), .val (.ref r_GREATER_THAN), .val (.int (1 : Int32))] [(.int (1 : Int32))])) t
      refine XS.goto X12.here hx rfl (pc0 := 33) (pc' := 37) rfl (hb hby at_33) (by decide) (by decide) ?_
      exact kt
    refine Goes.retB X12 hx hlk hret (hb hby at_37) (by decide) (by decide) ?_
    try rw [K12]
    exact ⟨rfl, N12⟩
  · -- case 6
    rw [hk]
    refine Goes.go (U' := (s₁.setTop (mkF m 9 #[.val (.int pa), .val (.int (6 : Int32)), .unset, .unset] [(.int (6 : Int32))]))) (fun t kt => ?_) ?_
    · show Steps p.tables e below (s₁.setTop (mkF m 7 #[.val (.int pa), .unset, .unset, .unset] [(.int (6 : Int32))])) t
      refine XS.istoreN X0.here hx rfl (hb hby at_7) rfl (l' := #[.val (.int pa), .val (.int (6 : Int32)), .unset, .unset]) rfl ?_
      show Steps p.tables e below (s₁.setTop (mkF m 8 #[.val (.int pa), .val (.int (6 : Int32)), .unset, .unset] [])) t
      refine XS.iloadN X0.here hx rfl (hb hby at_8) rfl ?_
      exact kt
    obtain ⟨v13, T13, L13, X13, q13, st13⟩ := callStatic X0 hx hZ (y := (⟨"com/example/thistle/thistle/language/OperatorIsStrictPinLaw", "pick", "(I)Lcom/example/thistle/thistle/language/Operator;"⟩ : MethodName)) (W := 0) hown (wdOf hw 1 rfl) (wdOf hw 2 rfl) (wdOf hw 3 rfl) (wdOf hw 4 rfl) (by decide) (rm_pick l Z a0 hw [] (6 : Int32) r_LESS_THAN r_AND r_OR r_NOT r_EQUAL r_IN r_GREATER_THAN r_LESS_THAN r_GREATER_THAN_OR_EQUAL r_LESS_THAN_OR_EQUAL r_ADD r_SUBTRACT r_MULTIPLY r_DIVIDE h0 n0 Z0 S_AND S_OR S_NOT S_EQUAL S_IN S_GREATER_THAN S_LESS_THAN S_GREATER_THAN_OR_EQUAL S_LESS_THAN_OR_EQUAL S_ADD S_SUBTRACT S_MULTIPLY S_DIVIDE (by simp)) (by decide) (by decide) (by decide) (by decide) e0 (g := (mkF m 9 #[.val (.int pa), .val (.int (6 : Int32)), .unset, .unset] [(.int (6 : Int32))])) rfl (by rw [hml]; rfl) (argsL := [(.int (6 : Int32))]) (rest := []) (lenOf pd_0 rfl) rfl rfl (Nat.le_refl _) (hb hby at_9)
    obtain ⟨rfl, n13, K13⟩ := q13
    have N13 := Fr.app N0 n13
    refine Goes.go (U' := (T13.setTop (mkF m 12 #[.val (.int pa), .val (.int (6 : Int32)), .unset, .unset] [(.ref r_LESS_THAN)]))) st13 ?_
    refine Goes.go (U' := (T13.setTop (mkF m 25 #[.val (.int pa), .val (.int (6 : Int32)), .val (.ref r_LESS_THAN), .val (.int (1 : Int32))] [(.ref r_LESS_THAN)]))) (fun t kt => ?_) ?_
    · show Steps p.tables e below (T13.setTop (mkF m 12 #[.val (.int pa), .val (.int (6 : Int32)), .unset, .unset] [(.ref r_LESS_THAN)])) t
      refine XS.astoreN X13.here hx rfl (hb hby at_12) rfl rfl (l' := #[.val (.int pa), .val (.int (6 : Int32)), .val (.ref r_LESS_THAN), .unset]) rfl ?_
      show Steps p.tables e below (T13.setTop (mkF m 13 #[.val (.int pa), .val (.int (6 : Int32)), .val (.ref r_LESS_THAN), .unset] [])) t
      refine XS.iloadN X13.here hx rfl (hb hby at_13) rfl ?_
      show Steps p.tables e below (T13.setTop (mkF m 14 #[.val (.int pa), .val (.int (6 : Int32)), .val (.ref r_LESS_THAN), .unset] [(.int (6 : Int32))])) t
      refine XS.iconst X13.here hx rfl (hb hby at_14) ?_
      show Steps p.tables e below (T13.setTop (mkF m 15 #[.val (.int pa), .val (.int (6 : Int32)), .val (.ref r_LESS_THAN), .unset] [(.int (3 : Int32)), (.int (6 : Int32))])) t
      refine XS.icmpNo X13.here hx rfl (hb hby at_15) rfl (XT.ii_lt_f (by decide)) ?_
      show Steps p.tables e below (T13.setTop (mkF m 18 #[.val (.int pa), .val (.int (6 : Int32)), .val (.ref r_LESS_THAN), .unset] [])) t
      refine XS.iconst X13.here hx rfl (hb hby at_18) ?_
      show Steps p.tables e below (T13.setTop (mkF m 19 #[.val (.int pa), .val (.int (6 : Int32)), .val (.ref r_LESS_THAN), .unset] [(.int (1 : Int32))])) t
      refine XS.goto X13.here hx rfl (pc0 := 19) (pc' := 23) rfl (hb hby at_19) (by decide) (by decide) ?_
      show Steps p.tables e below (T13.setTop (mkF m 23 #[.val (.int pa), .val (.int (6 : Int32)), .val (.ref r_LESS_THAN), .unset] [(.int (1 : Int32))])) t
      refine XS.istoreN X13.here hx rfl (hb hby at_23) rfl (l' := #[.val (.int pa), .val (.int (6 : Int32)), .val (.ref r_LESS_THAN), .val (.int (1 : Int32))]) rfl ?_
      show Steps p.tables e below (T13.setTop (mkF m 24 #[.val (.int pa), .val (.int (6 : Int32)), .val (.ref r_LESS_THAN), .val (.int (1 : Int32))] [])) t
      refine XS.aloadN X13.here hx rfl (hb hby at_24) rfl rfl ?_
      exact kt
    obtain ⟨v14, T14, L14, X14, q14, st14⟩ := callVirtual X13 hx hZ (y := (⟨"com/example/thistle/thistle/language/Operator", "isStrict", "()Z"⟩ : MethodName)) (z := (⟨"com/example/thistle/thistle/language/Operator", "isStrict", "()Z"⟩ : MethodName)) (W := 0) hown (wdOf hw 8 rfl) (wdOf hw 9 rfl) (notFace_of_selects (args := #[]) (mvT hZ (wdOf hw 11 rfl))) (wdOf hw 11 rfl) (wdOf hw 10 rfl) (wdOf hw 6 rfl) (wdOf hw 12 rfl) (by decide) (rm_strict l Z a0 hw [] r_LESS_THAN r_AND r_OR r_NOT (1 : Int32) h0 n0 Z0 S_AND S_OR S_NOT (by simp [ne_6_0, ne_6_1, ne_6_2])) (by decide) (by decide) (by decide) (by decide) K13 E_LESS_THAN (g := (mkF m 25 #[.val (.int pa), .val (.int (6 : Int32)), .val (.ref r_LESS_THAN), .val (.int (1 : Int32))] [(.ref r_LESS_THAN)])) rfl (by rw [hml]; rfl) (argsL := []) (rest := []) (lenOf pd_1 rfl) rfl rfl (Nat.le_refl _) (hb hby at_25)
    obtain ⟨rfl, n14, K14⟩ := q14
    have N14 := Fr.app N13 n14
    refine Goes.go (U' := (T14.setTop (mkF m 28 #[.val (.int pa), .val (.int (6 : Int32)), .val (.ref r_LESS_THAN), .val (.int (1 : Int32))] [(.int (1 : Int32))]))) st14 ?_
    refine Goes.go (U' := (T14.setTop (mkF m 37 #[.val (.int pa), .val (.int (6 : Int32)), .val (.ref r_LESS_THAN), .val (.int (1 : Int32))] [(.int (1 : Int32))]))) (fun t kt => ?_) ?_
    · show Steps p.tables e below (T14.setTop (mkF m 28 #[.val (.int pa), .val (.int (6 : Int32)), .val (.ref r_LESS_THAN), .val (.int (1 : Int32))] [(.int (1 : Int32))])) t
      refine XS.iloadN X14.here hx rfl (hb hby at_28) rfl ?_
      show Steps p.tables e below (T14.setTop (mkF m 29 #[.val (.int pa), .val (.int (6 : Int32)), .val (.ref r_LESS_THAN), .val (.int (1 : Int32))] [(.int (1 : Int32)), (.int (1 : Int32))])) t
      refine XS.icmpNo X14.here hx rfl (hb hby at_29) rfl (XT.ii_ne_f (by decide)) ?_
      show Steps p.tables e below (T14.setTop (mkF m 32 #[.val (.int pa), .val (.int (6 : Int32)), .val (.ref r_LESS_THAN), .val (.int (1 : Int32))] [])) t
      refine XS.iconst X14.here hx rfl (hb hby at_32) ?_
      show Steps p.tables e below (T14.setTop (mkF m 33 #[.val (.int pa), .val (.int (6 : Int32)), .val (.ref r_LESS_THAN), .val (.int (1 : Int32))] [(.int (1 : Int32))])) t
      refine XS.goto X14.here hx rfl (pc0 := 33) (pc' := 37) rfl (hb hby at_33) (by decide) (by decide) ?_
      exact kt
    refine Goes.retB X14 hx hlk hret (hb hby at_37) (by decide) (by decide) ?_
    try rw [K14]
    exact ⟨rfl, N14⟩
  · -- case 7
    rw [hk]
    refine Goes.go (U' := (s₁.setTop (mkF m 9 #[.val (.int pa), .val (.int (7 : Int32)), .unset, .unset] [(.int (7 : Int32))]))) (fun t kt => ?_) ?_
    · show Steps p.tables e below (s₁.setTop (mkF m 7 #[.val (.int pa), .unset, .unset, .unset] [(.int (7 : Int32))])) t
      refine XS.istoreN X0.here hx rfl (hb hby at_7) rfl (l' := #[.val (.int pa), .val (.int (7 : Int32)), .unset, .unset]) rfl ?_
      show Steps p.tables e below (s₁.setTop (mkF m 8 #[.val (.int pa), .val (.int (7 : Int32)), .unset, .unset] [])) t
      refine XS.iloadN X0.here hx rfl (hb hby at_8) rfl ?_
      exact kt
    obtain ⟨v15, T15, L15, X15, q15, st15⟩ := callStatic X0 hx hZ (y := (⟨"com/example/thistle/thistle/language/OperatorIsStrictPinLaw", "pick", "(I)Lcom/example/thistle/thistle/language/Operator;"⟩ : MethodName)) (W := 0) hown (wdOf hw 1 rfl) (wdOf hw 2 rfl) (wdOf hw 3 rfl) (wdOf hw 4 rfl) (by decide) (rm_pick l Z a0 hw [] (7 : Int32) r_GREATER_THAN_OR_EQUAL r_AND r_OR r_NOT r_EQUAL r_IN r_GREATER_THAN r_LESS_THAN r_GREATER_THAN_OR_EQUAL r_LESS_THAN_OR_EQUAL r_ADD r_SUBTRACT r_MULTIPLY r_DIVIDE h0 n0 Z0 S_AND S_OR S_NOT S_EQUAL S_IN S_GREATER_THAN S_LESS_THAN S_GREATER_THAN_OR_EQUAL S_LESS_THAN_OR_EQUAL S_ADD S_SUBTRACT S_MULTIPLY S_DIVIDE (by simp)) (by decide) (by decide) (by decide) (by decide) e0 (g := (mkF m 9 #[.val (.int pa), .val (.int (7 : Int32)), .unset, .unset] [(.int (7 : Int32))])) rfl (by rw [hml]; rfl) (argsL := [(.int (7 : Int32))]) (rest := []) (lenOf pd_0 rfl) rfl rfl (Nat.le_refl _) (hb hby at_9)
    obtain ⟨rfl, n15, K15⟩ := q15
    have N15 := Fr.app N0 n15
    refine Goes.go (U' := (T15.setTop (mkF m 12 #[.val (.int pa), .val (.int (7 : Int32)), .unset, .unset] [(.ref r_GREATER_THAN_OR_EQUAL)]))) st15 ?_
    refine Goes.go (U' := (T15.setTop (mkF m 25 #[.val (.int pa), .val (.int (7 : Int32)), .val (.ref r_GREATER_THAN_OR_EQUAL), .val (.int (1 : Int32))] [(.ref r_GREATER_THAN_OR_EQUAL)]))) (fun t kt => ?_) ?_
    · show Steps p.tables e below (T15.setTop (mkF m 12 #[.val (.int pa), .val (.int (7 : Int32)), .unset, .unset] [(.ref r_GREATER_THAN_OR_EQUAL)])) t
      refine XS.astoreN X15.here hx rfl (hb hby at_12) rfl rfl (l' := #[.val (.int pa), .val (.int (7 : Int32)), .val (.ref r_GREATER_THAN_OR_EQUAL), .unset]) rfl ?_
      show Steps p.tables e below (T15.setTop (mkF m 13 #[.val (.int pa), .val (.int (7 : Int32)), .val (.ref r_GREATER_THAN_OR_EQUAL), .unset] [])) t
      refine XS.iloadN X15.here hx rfl (hb hby at_13) rfl ?_
      show Steps p.tables e below (T15.setTop (mkF m 14 #[.val (.int pa), .val (.int (7 : Int32)), .val (.ref r_GREATER_THAN_OR_EQUAL), .unset] [(.int (7 : Int32))])) t
      refine XS.iconst X15.here hx rfl (hb hby at_14) ?_
      show Steps p.tables e below (T15.setTop (mkF m 15 #[.val (.int pa), .val (.int (7 : Int32)), .val (.ref r_GREATER_THAN_OR_EQUAL), .unset] [(.int (3 : Int32)), (.int (7 : Int32))])) t
      refine XS.icmpNo X15.here hx rfl (hb hby at_15) rfl (XT.ii_lt_f (by decide)) ?_
      show Steps p.tables e below (T15.setTop (mkF m 18 #[.val (.int pa), .val (.int (7 : Int32)), .val (.ref r_GREATER_THAN_OR_EQUAL), .unset] [])) t
      refine XS.iconst X15.here hx rfl (hb hby at_18) ?_
      show Steps p.tables e below (T15.setTop (mkF m 19 #[.val (.int pa), .val (.int (7 : Int32)), .val (.ref r_GREATER_THAN_OR_EQUAL), .unset] [(.int (1 : Int32))])) t
      refine XS.goto X15.here hx rfl (pc0 := 19) (pc' := 23) rfl (hb hby at_19) (by decide) (by decide) ?_
      show Steps p.tables e below (T15.setTop (mkF m 23 #[.val (.int pa), .val (.int (7 : Int32)), .val (.ref r_GREATER_THAN_OR_EQUAL), .unset] [(.int (1 : Int32))])) t
      refine XS.istoreN X15.here hx rfl (hb hby at_23) rfl (l' := #[.val (.int pa), .val (.int (7 : Int32)), .val (.ref r_GREATER_THAN_OR_EQUAL), .val (.int (1 : Int32))]) rfl ?_
      show Steps p.tables e below (T15.setTop (mkF m 24 #[.val (.int pa), .val (.int (7 : Int32)), .val (.ref r_GREATER_THAN_OR_EQUAL), .val (.int (1 : Int32))] [])) t
      refine XS.aloadN X15.here hx rfl (hb hby at_24) rfl rfl ?_
      exact kt
    obtain ⟨v16, T16, L16, X16, q16, st16⟩ := callVirtual X15 hx hZ (y := (⟨"com/example/thistle/thistle/language/Operator", "isStrict", "()Z"⟩ : MethodName)) (z := (⟨"com/example/thistle/thistle/language/Operator", "isStrict", "()Z"⟩ : MethodName)) (W := 0) hown (wdOf hw 8 rfl) (wdOf hw 9 rfl) (notFace_of_selects (args := #[]) (mvT hZ (wdOf hw 11 rfl))) (wdOf hw 11 rfl) (wdOf hw 10 rfl) (wdOf hw 6 rfl) (wdOf hw 12 rfl) (by decide) (rm_strict l Z a0 hw [] r_GREATER_THAN_OR_EQUAL r_AND r_OR r_NOT (1 : Int32) h0 n0 Z0 S_AND S_OR S_NOT (by simp [ne_7_0, ne_7_1, ne_7_2])) (by decide) (by decide) (by decide) (by decide) K15 E_GREATER_THAN_OR_EQUAL (g := (mkF m 25 #[.val (.int pa), .val (.int (7 : Int32)), .val (.ref r_GREATER_THAN_OR_EQUAL), .val (.int (1 : Int32))] [(.ref r_GREATER_THAN_OR_EQUAL)])) rfl (by rw [hml]; rfl) (argsL := []) (rest := []) (lenOf pd_1 rfl) rfl rfl (Nat.le_refl _) (hb hby at_25)
    obtain ⟨rfl, n16, K16⟩ := q16
    have N16 := Fr.app N15 n16
    refine Goes.go (U' := (T16.setTop (mkF m 28 #[.val (.int pa), .val (.int (7 : Int32)), .val (.ref r_GREATER_THAN_OR_EQUAL), .val (.int (1 : Int32))] [(.int (1 : Int32))]))) st16 ?_
    refine Goes.go (U' := (T16.setTop (mkF m 37 #[.val (.int pa), .val (.int (7 : Int32)), .val (.ref r_GREATER_THAN_OR_EQUAL), .val (.int (1 : Int32))] [(.int (1 : Int32))]))) (fun t kt => ?_) ?_
    · show Steps p.tables e below (T16.setTop (mkF m 28 #[.val (.int pa), .val (.int (7 : Int32)), .val (.ref r_GREATER_THAN_OR_EQUAL), .val (.int (1 : Int32))] [(.int (1 : Int32))])) t
      refine XS.iloadN X16.here hx rfl (hb hby at_28) rfl ?_
      show Steps p.tables e below (T16.setTop (mkF m 29 #[.val (.int pa), .val (.int (7 : Int32)), .val (.ref r_GREATER_THAN_OR_EQUAL), .val (.int (1 : Int32))] [(.int (1 : Int32)), (.int (1 : Int32))])) t
      refine XS.icmpNo X16.here hx rfl (hb hby at_29) rfl (XT.ii_ne_f (by decide)) ?_
      show Steps p.tables e below (T16.setTop (mkF m 32 #[.val (.int pa), .val (.int (7 : Int32)), .val (.ref r_GREATER_THAN_OR_EQUAL), .val (.int (1 : Int32))] [])) t
      refine XS.iconst X16.here hx rfl (hb hby at_32) ?_
      show Steps p.tables e below (T16.setTop (mkF m 33 #[.val (.int pa), .val (.int (7 : Int32)), .val (.ref r_GREATER_THAN_OR_EQUAL), .val (.int (1 : Int32))] [(.int (1 : Int32))])) t
      refine XS.goto X16.here hx rfl (pc0 := 33) (pc' := 37) rfl (hb hby at_33) (by decide) (by decide) ?_
      exact kt
    refine Goes.retB X16 hx hlk hret (hb hby at_37) (by decide) (by decide) ?_
    try rw [K16]
    exact ⟨rfl, N16⟩
  · -- case 8
    rw [hk]
    refine Goes.go (U' := (s₁.setTop (mkF m 9 #[.val (.int pa), .val (.int (8 : Int32)), .unset, .unset] [(.int (8 : Int32))]))) (fun t kt => ?_) ?_
    · show Steps p.tables e below (s₁.setTop (mkF m 7 #[.val (.int pa), .unset, .unset, .unset] [(.int (8 : Int32))])) t
      refine XS.istoreN X0.here hx rfl (hb hby at_7) rfl (l' := #[.val (.int pa), .val (.int (8 : Int32)), .unset, .unset]) rfl ?_
      show Steps p.tables e below (s₁.setTop (mkF m 8 #[.val (.int pa), .val (.int (8 : Int32)), .unset, .unset] [])) t
      refine XS.iloadN X0.here hx rfl (hb hby at_8) rfl ?_
      exact kt
    obtain ⟨v17, T17, L17, X17, q17, st17⟩ := callStatic X0 hx hZ (y := (⟨"com/example/thistle/thistle/language/OperatorIsStrictPinLaw", "pick", "(I)Lcom/example/thistle/thistle/language/Operator;"⟩ : MethodName)) (W := 0) hown (wdOf hw 1 rfl) (wdOf hw 2 rfl) (wdOf hw 3 rfl) (wdOf hw 4 rfl) (by decide) (rm_pick l Z a0 hw [] (8 : Int32) r_LESS_THAN_OR_EQUAL r_AND r_OR r_NOT r_EQUAL r_IN r_GREATER_THAN r_LESS_THAN r_GREATER_THAN_OR_EQUAL r_LESS_THAN_OR_EQUAL r_ADD r_SUBTRACT r_MULTIPLY r_DIVIDE h0 n0 Z0 S_AND S_OR S_NOT S_EQUAL S_IN S_GREATER_THAN S_LESS_THAN S_GREATER_THAN_OR_EQUAL S_LESS_THAN_OR_EQUAL S_ADD S_SUBTRACT S_MULTIPLY S_DIVIDE (by simp)) (by decide) (by decide) (by decide) (by decide) e0 (g := (mkF m 9 #[.val (.int pa), .val (.int (8 : Int32)), .unset, .unset] [(.int (8 : Int32))])) rfl (by rw [hml]; rfl) (argsL := [(.int (8 : Int32))]) (rest := []) (lenOf pd_0 rfl) rfl rfl (Nat.le_refl _) (hb hby at_9)
    obtain ⟨rfl, n17, K17⟩ := q17
    have N17 := Fr.app N0 n17
    refine Goes.go (U' := (T17.setTop (mkF m 12 #[.val (.int pa), .val (.int (8 : Int32)), .unset, .unset] [(.ref r_LESS_THAN_OR_EQUAL)]))) st17 ?_
    refine Goes.go (U' := (T17.setTop (mkF m 25 #[.val (.int pa), .val (.int (8 : Int32)), .val (.ref r_LESS_THAN_OR_EQUAL), .val (.int (1 : Int32))] [(.ref r_LESS_THAN_OR_EQUAL)]))) (fun t kt => ?_) ?_
    · show Steps p.tables e below (T17.setTop (mkF m 12 #[.val (.int pa), .val (.int (8 : Int32)), .unset, .unset] [(.ref r_LESS_THAN_OR_EQUAL)])) t
      refine XS.astoreN X17.here hx rfl (hb hby at_12) rfl rfl (l' := #[.val (.int pa), .val (.int (8 : Int32)), .val (.ref r_LESS_THAN_OR_EQUAL), .unset]) rfl ?_
      show Steps p.tables e below (T17.setTop (mkF m 13 #[.val (.int pa), .val (.int (8 : Int32)), .val (.ref r_LESS_THAN_OR_EQUAL), .unset] [])) t
      refine XS.iloadN X17.here hx rfl (hb hby at_13) rfl ?_
      show Steps p.tables e below (T17.setTop (mkF m 14 #[.val (.int pa), .val (.int (8 : Int32)), .val (.ref r_LESS_THAN_OR_EQUAL), .unset] [(.int (8 : Int32))])) t
      refine XS.iconst X17.here hx rfl (hb hby at_14) ?_
      show Steps p.tables e below (T17.setTop (mkF m 15 #[.val (.int pa), .val (.int (8 : Int32)), .val (.ref r_LESS_THAN_OR_EQUAL), .unset] [(.int (3 : Int32)), (.int (8 : Int32))])) t
      refine XS.icmpNo X17.here hx rfl (hb hby at_15) rfl (XT.ii_lt_f (by decide)) ?_
      show Steps p.tables e below (T17.setTop (mkF m 18 #[.val (.int pa), .val (.int (8 : Int32)), .val (.ref r_LESS_THAN_OR_EQUAL), .unset] [])) t
      refine XS.iconst X17.here hx rfl (hb hby at_18) ?_
      show Steps p.tables e below (T17.setTop (mkF m 19 #[.val (.int pa), .val (.int (8 : Int32)), .val (.ref r_LESS_THAN_OR_EQUAL), .unset] [(.int (1 : Int32))])) t
      refine XS.goto X17.here hx rfl (pc0 := 19) (pc' := 23) rfl (hb hby at_19) (by decide) (by decide) ?_
      show Steps p.tables e below (T17.setTop (mkF m 23 #[.val (.int pa), .val (.int (8 : Int32)), .val (.ref r_LESS_THAN_OR_EQUAL), .unset] [(.int (1 : Int32))])) t
      refine XS.istoreN X17.here hx rfl (hb hby at_23) rfl (l' := #[.val (.int pa), .val (.int (8 : Int32)), .val (.ref r_LESS_THAN_OR_EQUAL), .val (.int (1 : Int32))]) rfl ?_
      show Steps p.tables e below (T17.setTop (mkF m 24 #[.val (.int pa), .val (.int (8 : Int32)), .val (.ref r_LESS_THAN_OR_EQUAL), .val (.int (1 : Int32))] [])) t
      refine XS.aloadN X17.here hx rfl (hb hby at_24) rfl rfl ?_
      exact kt
    obtain ⟨v18, T18, L18, X18, q18, st18⟩ := callVirtual X17 hx hZ (y := (⟨"com/example/thistle/thistle/language/Operator", "isStrict", "()Z"⟩ : MethodName)) (z := (⟨"com/example/thistle/thistle/language/Operator", "isStrict", "()Z"⟩ : MethodName)) (W := 0) hown (wdOf hw 8 rfl) (wdOf hw 9 rfl) (notFace_of_selects (args := #[]) (mvT hZ (wdOf hw 11 rfl))) (wdOf hw 11 rfl) (wdOf hw 10 rfl) (wdOf hw 6 rfl) (wdOf hw 12 rfl) (by decide) (rm_strict l Z a0 hw [] r_LESS_THAN_OR_EQUAL r_AND r_OR r_NOT (1 : Int32) h0 n0 Z0 S_AND S_OR S_NOT (by simp [ne_8_0, ne_8_1, ne_8_2])) (by decide) (by decide) (by decide) (by decide) K17 E_LESS_THAN_OR_EQUAL (g := (mkF m 25 #[.val (.int pa), .val (.int (8 : Int32)), .val (.ref r_LESS_THAN_OR_EQUAL), .val (.int (1 : Int32))] [(.ref r_LESS_THAN_OR_EQUAL)])) rfl (by rw [hml]; rfl) (argsL := []) (rest := []) (lenOf pd_1 rfl) rfl rfl (Nat.le_refl _) (hb hby at_25)
    obtain ⟨rfl, n18, K18⟩ := q18
    have N18 := Fr.app N17 n18
    refine Goes.go (U' := (T18.setTop (mkF m 28 #[.val (.int pa), .val (.int (8 : Int32)), .val (.ref r_LESS_THAN_OR_EQUAL), .val (.int (1 : Int32))] [(.int (1 : Int32))]))) st18 ?_
    refine Goes.go (U' := (T18.setTop (mkF m 37 #[.val (.int pa), .val (.int (8 : Int32)), .val (.ref r_LESS_THAN_OR_EQUAL), .val (.int (1 : Int32))] [(.int (1 : Int32))]))) (fun t kt => ?_) ?_
    · show Steps p.tables e below (T18.setTop (mkF m 28 #[.val (.int pa), .val (.int (8 : Int32)), .val (.ref r_LESS_THAN_OR_EQUAL), .val (.int (1 : Int32))] [(.int (1 : Int32))])) t
      refine XS.iloadN X18.here hx rfl (hb hby at_28) rfl ?_
      show Steps p.tables e below (T18.setTop (mkF m 29 #[.val (.int pa), .val (.int (8 : Int32)), .val (.ref r_LESS_THAN_OR_EQUAL), .val (.int (1 : Int32))] [(.int (1 : Int32)), (.int (1 : Int32))])) t
      refine XS.icmpNo X18.here hx rfl (hb hby at_29) rfl (XT.ii_ne_f (by decide)) ?_
      show Steps p.tables e below (T18.setTop (mkF m 32 #[.val (.int pa), .val (.int (8 : Int32)), .val (.ref r_LESS_THAN_OR_EQUAL), .val (.int (1 : Int32))] [])) t
      refine XS.iconst X18.here hx rfl (hb hby at_32) ?_
      show Steps p.tables e below (T18.setTop (mkF m 33 #[.val (.int pa), .val (.int (8 : Int32)), .val (.ref r_LESS_THAN_OR_EQUAL), .val (.int (1 : Int32))] [(.int (1 : Int32))])) t
      refine XS.goto X18.here hx rfl (pc0 := 33) (pc' := 37) rfl (hb hby at_33) (by decide) (by decide) ?_
      exact kt
    refine Goes.retB X18 hx hlk hret (hb hby at_37) (by decide) (by decide) ?_
    try rw [K18]
    exact ⟨rfl, N18⟩
  · -- case 9
    rw [hk]
    refine Goes.go (U' := (s₁.setTop (mkF m 9 #[.val (.int pa), .val (.int (9 : Int32)), .unset, .unset] [(.int (9 : Int32))]))) (fun t kt => ?_) ?_
    · show Steps p.tables e below (s₁.setTop (mkF m 7 #[.val (.int pa), .unset, .unset, .unset] [(.int (9 : Int32))])) t
      refine XS.istoreN X0.here hx rfl (hb hby at_7) rfl (l' := #[.val (.int pa), .val (.int (9 : Int32)), .unset, .unset]) rfl ?_
      show Steps p.tables e below (s₁.setTop (mkF m 8 #[.val (.int pa), .val (.int (9 : Int32)), .unset, .unset] [])) t
      refine XS.iloadN X0.here hx rfl (hb hby at_8) rfl ?_
      exact kt
    obtain ⟨v19, T19, L19, X19, q19, st19⟩ := callStatic X0 hx hZ (y := (⟨"com/example/thistle/thistle/language/OperatorIsStrictPinLaw", "pick", "(I)Lcom/example/thistle/thistle/language/Operator;"⟩ : MethodName)) (W := 0) hown (wdOf hw 1 rfl) (wdOf hw 2 rfl) (wdOf hw 3 rfl) (wdOf hw 4 rfl) (by decide) (rm_pick l Z a0 hw [] (9 : Int32) r_ADD r_AND r_OR r_NOT r_EQUAL r_IN r_GREATER_THAN r_LESS_THAN r_GREATER_THAN_OR_EQUAL r_LESS_THAN_OR_EQUAL r_ADD r_SUBTRACT r_MULTIPLY r_DIVIDE h0 n0 Z0 S_AND S_OR S_NOT S_EQUAL S_IN S_GREATER_THAN S_LESS_THAN S_GREATER_THAN_OR_EQUAL S_LESS_THAN_OR_EQUAL S_ADD S_SUBTRACT S_MULTIPLY S_DIVIDE (by simp)) (by decide) (by decide) (by decide) (by decide) e0 (g := (mkF m 9 #[.val (.int pa), .val (.int (9 : Int32)), .unset, .unset] [(.int (9 : Int32))])) rfl (by rw [hml]; rfl) (argsL := [(.int (9 : Int32))]) (rest := []) (lenOf pd_0 rfl) rfl rfl (Nat.le_refl _) (hb hby at_9)
    obtain ⟨rfl, n19, K19⟩ := q19
    have N19 := Fr.app N0 n19
    refine Goes.go (U' := (T19.setTop (mkF m 12 #[.val (.int pa), .val (.int (9 : Int32)), .unset, .unset] [(.ref r_ADD)]))) st19 ?_
    refine Goes.go (U' := (T19.setTop (mkF m 25 #[.val (.int pa), .val (.int (9 : Int32)), .val (.ref r_ADD), .val (.int (1 : Int32))] [(.ref r_ADD)]))) (fun t kt => ?_) ?_
    · show Steps p.tables e below (T19.setTop (mkF m 12 #[.val (.int pa), .val (.int (9 : Int32)), .unset, .unset] [(.ref r_ADD)])) t
      refine XS.astoreN X19.here hx rfl (hb hby at_12) rfl rfl (l' := #[.val (.int pa), .val (.int (9 : Int32)), .val (.ref r_ADD), .unset]) rfl ?_
      show Steps p.tables e below (T19.setTop (mkF m 13 #[.val (.int pa), .val (.int (9 : Int32)), .val (.ref r_ADD), .unset] [])) t
      refine XS.iloadN X19.here hx rfl (hb hby at_13) rfl ?_
      show Steps p.tables e below (T19.setTop (mkF m 14 #[.val (.int pa), .val (.int (9 : Int32)), .val (.ref r_ADD), .unset] [(.int (9 : Int32))])) t
      refine XS.iconst X19.here hx rfl (hb hby at_14) ?_
      show Steps p.tables e below (T19.setTop (mkF m 15 #[.val (.int pa), .val (.int (9 : Int32)), .val (.ref r_ADD), .unset] [(.int (3 : Int32)), (.int (9 : Int32))])) t
      refine XS.icmpNo X19.here hx rfl (hb hby at_15) rfl (XT.ii_lt_f (by decide)) ?_
      show Steps p.tables e below (T19.setTop (mkF m 18 #[.val (.int pa), .val (.int (9 : Int32)), .val (.ref r_ADD), .unset] [])) t
      refine XS.iconst X19.here hx rfl (hb hby at_18) ?_
      show Steps p.tables e below (T19.setTop (mkF m 19 #[.val (.int pa), .val (.int (9 : Int32)), .val (.ref r_ADD), .unset] [(.int (1 : Int32))])) t
      refine XS.goto X19.here hx rfl (pc0 := 19) (pc' := 23) rfl (hb hby at_19) (by decide) (by decide) ?_
      show Steps p.tables e below (T19.setTop (mkF m 23 #[.val (.int pa), .val (.int (9 : Int32)), .val (.ref r_ADD), .unset] [(.int (1 : Int32))])) t
      refine XS.istoreN X19.here hx rfl (hb hby at_23) rfl (l' := #[.val (.int pa), .val (.int (9 : Int32)), .val (.ref r_ADD), .val (.int (1 : Int32))]) rfl ?_
      show Steps p.tables e below (T19.setTop (mkF m 24 #[.val (.int pa), .val (.int (9 : Int32)), .val (.ref r_ADD), .val (.int (1 : Int32))] [])) t
      refine XS.aloadN X19.here hx rfl (hb hby at_24) rfl rfl ?_
      exact kt
    obtain ⟨v20, T20, L20, X20, q20, st20⟩ := callVirtual X19 hx hZ (y := (⟨"com/example/thistle/thistle/language/Operator", "isStrict", "()Z"⟩ : MethodName)) (z := (⟨"com/example/thistle/thistle/language/Operator", "isStrict", "()Z"⟩ : MethodName)) (W := 0) hown (wdOf hw 8 rfl) (wdOf hw 9 rfl) (notFace_of_selects (args := #[]) (mvT hZ (wdOf hw 11 rfl))) (wdOf hw 11 rfl) (wdOf hw 10 rfl) (wdOf hw 6 rfl) (wdOf hw 12 rfl) (by decide) (rm_strict l Z a0 hw [] r_ADD r_AND r_OR r_NOT (1 : Int32) h0 n0 Z0 S_AND S_OR S_NOT (by simp [ne_9_0, ne_9_1, ne_9_2])) (by decide) (by decide) (by decide) (by decide) K19 E_ADD (g := (mkF m 25 #[.val (.int pa), .val (.int (9 : Int32)), .val (.ref r_ADD), .val (.int (1 : Int32))] [(.ref r_ADD)])) rfl (by rw [hml]; rfl) (argsL := []) (rest := []) (lenOf pd_1 rfl) rfl rfl (Nat.le_refl _) (hb hby at_25)
    obtain ⟨rfl, n20, K20⟩ := q20
    have N20 := Fr.app N19 n20
    refine Goes.go (U' := (T20.setTop (mkF m 28 #[.val (.int pa), .val (.int (9 : Int32)), .val (.ref r_ADD), .val (.int (1 : Int32))] [(.int (1 : Int32))]))) st20 ?_
    refine Goes.go (U' := (T20.setTop (mkF m 37 #[.val (.int pa), .val (.int (9 : Int32)), .val (.ref r_ADD), .val (.int (1 : Int32))] [(.int (1 : Int32))]))) (fun t kt => ?_) ?_
    · show Steps p.tables e below (T20.setTop (mkF m 28 #[.val (.int pa), .val (.int (9 : Int32)), .val (.ref r_ADD), .val (.int (1 : Int32))] [(.int (1 : Int32))])) t
      refine XS.iloadN X20.here hx rfl (hb hby at_28) rfl ?_
      show Steps p.tables e below (T20.setTop (mkF m 29 #[.val (.int pa), .val (.int (9 : Int32)), .val (.ref r_ADD), .val (.int (1 : Int32))] [(.int (1 : Int32)), (.int (1 : Int32))])) t
      refine XS.icmpNo X20.here hx rfl (hb hby at_29) rfl (XT.ii_ne_f (by decide)) ?_
      show Steps p.tables e below (T20.setTop (mkF m 32 #[.val (.int pa), .val (.int (9 : Int32)), .val (.ref r_ADD), .val (.int (1 : Int32))] [])) t
      refine XS.iconst X20.here hx rfl (hb hby at_32) ?_
      show Steps p.tables e below (T20.setTop (mkF m 33 #[.val (.int pa), .val (.int (9 : Int32)), .val (.ref r_ADD), .val (.int (1 : Int32))] [(.int (1 : Int32))])) t
      refine XS.goto X20.here hx rfl (pc0 := 33) (pc' := 37) rfl (hb hby at_33) (by decide) (by decide) ?_
      exact kt
    refine Goes.retB X20 hx hlk hret (hb hby at_37) (by decide) (by decide) ?_
    try rw [K20]
    exact ⟨rfl, N20⟩
  · -- case 10
    rw [hk]
    refine Goes.go (U' := (s₁.setTop (mkF m 9 #[.val (.int pa), .val (.int (10 : Int32)), .unset, .unset] [(.int (10 : Int32))]))) (fun t kt => ?_) ?_
    · show Steps p.tables e below (s₁.setTop (mkF m 7 #[.val (.int pa), .unset, .unset, .unset] [(.int (10 : Int32))])) t
      refine XS.istoreN X0.here hx rfl (hb hby at_7) rfl (l' := #[.val (.int pa), .val (.int (10 : Int32)), .unset, .unset]) rfl ?_
      show Steps p.tables e below (s₁.setTop (mkF m 8 #[.val (.int pa), .val (.int (10 : Int32)), .unset, .unset] [])) t
      refine XS.iloadN X0.here hx rfl (hb hby at_8) rfl ?_
      exact kt
    obtain ⟨v21, T21, L21, X21, q21, st21⟩ := callStatic X0 hx hZ (y := (⟨"com/example/thistle/thistle/language/OperatorIsStrictPinLaw", "pick", "(I)Lcom/example/thistle/thistle/language/Operator;"⟩ : MethodName)) (W := 0) hown (wdOf hw 1 rfl) (wdOf hw 2 rfl) (wdOf hw 3 rfl) (wdOf hw 4 rfl) (by decide) (rm_pick l Z a0 hw [] (10 : Int32) r_SUBTRACT r_AND r_OR r_NOT r_EQUAL r_IN r_GREATER_THAN r_LESS_THAN r_GREATER_THAN_OR_EQUAL r_LESS_THAN_OR_EQUAL r_ADD r_SUBTRACT r_MULTIPLY r_DIVIDE h0 n0 Z0 S_AND S_OR S_NOT S_EQUAL S_IN S_GREATER_THAN S_LESS_THAN S_GREATER_THAN_OR_EQUAL S_LESS_THAN_OR_EQUAL S_ADD S_SUBTRACT S_MULTIPLY S_DIVIDE (by simp)) (by decide) (by decide) (by decide) (by decide) e0 (g := (mkF m 9 #[.val (.int pa), .val (.int (10 : Int32)), .unset, .unset] [(.int (10 : Int32))])) rfl (by rw [hml]; rfl) (argsL := [(.int (10 : Int32))]) (rest := []) (lenOf pd_0 rfl) rfl rfl (Nat.le_refl _) (hb hby at_9)
    obtain ⟨rfl, n21, K21⟩ := q21
    have N21 := Fr.app N0 n21
    refine Goes.go (U' := (T21.setTop (mkF m 12 #[.val (.int pa), .val (.int (10 : Int32)), .unset, .unset] [(.ref r_SUBTRACT)]))) st21 ?_
    refine Goes.go (U' := (T21.setTop (mkF m 25 #[.val (.int pa), .val (.int (10 : Int32)), .val (.ref r_SUBTRACT), .val (.int (1 : Int32))] [(.ref r_SUBTRACT)]))) (fun t kt => ?_) ?_
    · show Steps p.tables e below (T21.setTop (mkF m 12 #[.val (.int pa), .val (.int (10 : Int32)), .unset, .unset] [(.ref r_SUBTRACT)])) t
      refine XS.astoreN X21.here hx rfl (hb hby at_12) rfl rfl (l' := #[.val (.int pa), .val (.int (10 : Int32)), .val (.ref r_SUBTRACT), .unset]) rfl ?_
      show Steps p.tables e below (T21.setTop (mkF m 13 #[.val (.int pa), .val (.int (10 : Int32)), .val (.ref r_SUBTRACT), .unset] [])) t
      refine XS.iloadN X21.here hx rfl (hb hby at_13) rfl ?_
      show Steps p.tables e below (T21.setTop (mkF m 14 #[.val (.int pa), .val (.int (10 : Int32)), .val (.ref r_SUBTRACT), .unset] [(.int (10 : Int32))])) t
      refine XS.iconst X21.here hx rfl (hb hby at_14) ?_
      show Steps p.tables e below (T21.setTop (mkF m 15 #[.val (.int pa), .val (.int (10 : Int32)), .val (.ref r_SUBTRACT), .unset] [(.int (3 : Int32)), (.int (10 : Int32))])) t
      refine XS.icmpNo X21.here hx rfl (hb hby at_15) rfl (XT.ii_lt_f (by decide)) ?_
      show Steps p.tables e below (T21.setTop (mkF m 18 #[.val (.int pa), .val (.int (10 : Int32)), .val (.ref r_SUBTRACT), .unset] [])) t
      refine XS.iconst X21.here hx rfl (hb hby at_18) ?_
      show Steps p.tables e below (T21.setTop (mkF m 19 #[.val (.int pa), .val (.int (10 : Int32)), .val (.ref r_SUBTRACT), .unset] [(.int (1 : Int32))])) t
      refine XS.goto X21.here hx rfl (pc0 := 19) (pc' := 23) rfl (hb hby at_19) (by decide) (by decide) ?_
      show Steps p.tables e below (T21.setTop (mkF m 23 #[.val (.int pa), .val (.int (10 : Int32)), .val (.ref r_SUBTRACT), .unset] [(.int (1 : Int32))])) t
      refine XS.istoreN X21.here hx rfl (hb hby at_23) rfl (l' := #[.val (.int pa), .val (.int (10 : Int32)), .val (.ref r_SUBTRACT), .val (.int (1 : Int32))]) rfl ?_
      show Steps p.tables e below (T21.setTop (mkF m 24 #[.val (.int pa), .val (.int (10 : Int32)), .val (.ref r_SUBTRACT), .val (.int (1 : Int32))] [])) t
      refine XS.aloadN X21.here hx rfl (hb hby at_24) rfl rfl ?_
      exact kt
    obtain ⟨v22, T22, L22, X22, q22, st22⟩ := callVirtual X21 hx hZ (y := (⟨"com/example/thistle/thistle/language/Operator", "isStrict", "()Z"⟩ : MethodName)) (z := (⟨"com/example/thistle/thistle/language/Operator", "isStrict", "()Z"⟩ : MethodName)) (W := 0) hown (wdOf hw 8 rfl) (wdOf hw 9 rfl) (notFace_of_selects (args := #[]) (mvT hZ (wdOf hw 11 rfl))) (wdOf hw 11 rfl) (wdOf hw 10 rfl) (wdOf hw 6 rfl) (wdOf hw 12 rfl) (by decide) (rm_strict l Z a0 hw [] r_SUBTRACT r_AND r_OR r_NOT (1 : Int32) h0 n0 Z0 S_AND S_OR S_NOT (by simp [ne_10_0, ne_10_1, ne_10_2])) (by decide) (by decide) (by decide) (by decide) K21 E_SUBTRACT (g := (mkF m 25 #[.val (.int pa), .val (.int (10 : Int32)), .val (.ref r_SUBTRACT), .val (.int (1 : Int32))] [(.ref r_SUBTRACT)])) rfl (by rw [hml]; rfl) (argsL := []) (rest := []) (lenOf pd_1 rfl) rfl rfl (Nat.le_refl _) (hb hby at_25)
    obtain ⟨rfl, n22, K22⟩ := q22
    have N22 := Fr.app N21 n22
    refine Goes.go (U' := (T22.setTop (mkF m 28 #[.val (.int pa), .val (.int (10 : Int32)), .val (.ref r_SUBTRACT), .val (.int (1 : Int32))] [(.int (1 : Int32))]))) st22 ?_
    refine Goes.go (U' := (T22.setTop (mkF m 37 #[.val (.int pa), .val (.int (10 : Int32)), .val (.ref r_SUBTRACT), .val (.int (1 : Int32))] [(.int (1 : Int32))]))) (fun t kt => ?_) ?_
    · show Steps p.tables e below (T22.setTop (mkF m 28 #[.val (.int pa), .val (.int (10 : Int32)), .val (.ref r_SUBTRACT), .val (.int (1 : Int32))] [(.int (1 : Int32))])) t
      refine XS.iloadN X22.here hx rfl (hb hby at_28) rfl ?_
      show Steps p.tables e below (T22.setTop (mkF m 29 #[.val (.int pa), .val (.int (10 : Int32)), .val (.ref r_SUBTRACT), .val (.int (1 : Int32))] [(.int (1 : Int32)), (.int (1 : Int32))])) t
      refine XS.icmpNo X22.here hx rfl (hb hby at_29) rfl (XT.ii_ne_f (by decide)) ?_
      show Steps p.tables e below (T22.setTop (mkF m 32 #[.val (.int pa), .val (.int (10 : Int32)), .val (.ref r_SUBTRACT), .val (.int (1 : Int32))] [])) t
      refine XS.iconst X22.here hx rfl (hb hby at_32) ?_
      show Steps p.tables e below (T22.setTop (mkF m 33 #[.val (.int pa), .val (.int (10 : Int32)), .val (.ref r_SUBTRACT), .val (.int (1 : Int32))] [(.int (1 : Int32))])) t
      refine XS.goto X22.here hx rfl (pc0 := 33) (pc' := 37) rfl (hb hby at_33) (by decide) (by decide) ?_
      exact kt
    refine Goes.retB X22 hx hlk hret (hb hby at_37) (by decide) (by decide) ?_
    try rw [K22]
    exact ⟨rfl, N22⟩
  · -- case 11
    rw [hk]
    refine Goes.go (U' := (s₁.setTop (mkF m 9 #[.val (.int pa), .val (.int (11 : Int32)), .unset, .unset] [(.int (11 : Int32))]))) (fun t kt => ?_) ?_
    · show Steps p.tables e below (s₁.setTop (mkF m 7 #[.val (.int pa), .unset, .unset, .unset] [(.int (11 : Int32))])) t
      refine XS.istoreN X0.here hx rfl (hb hby at_7) rfl (l' := #[.val (.int pa), .val (.int (11 : Int32)), .unset, .unset]) rfl ?_
      show Steps p.tables e below (s₁.setTop (mkF m 8 #[.val (.int pa), .val (.int (11 : Int32)), .unset, .unset] [])) t
      refine XS.iloadN X0.here hx rfl (hb hby at_8) rfl ?_
      exact kt
    obtain ⟨v23, T23, L23, X23, q23, st23⟩ := callStatic X0 hx hZ (y := (⟨"com/example/thistle/thistle/language/OperatorIsStrictPinLaw", "pick", "(I)Lcom/example/thistle/thistle/language/Operator;"⟩ : MethodName)) (W := 0) hown (wdOf hw 1 rfl) (wdOf hw 2 rfl) (wdOf hw 3 rfl) (wdOf hw 4 rfl) (by decide) (rm_pick l Z a0 hw [] (11 : Int32) r_MULTIPLY r_AND r_OR r_NOT r_EQUAL r_IN r_GREATER_THAN r_LESS_THAN r_GREATER_THAN_OR_EQUAL r_LESS_THAN_OR_EQUAL r_ADD r_SUBTRACT r_MULTIPLY r_DIVIDE h0 n0 Z0 S_AND S_OR S_NOT S_EQUAL S_IN S_GREATER_THAN S_LESS_THAN S_GREATER_THAN_OR_EQUAL S_LESS_THAN_OR_EQUAL S_ADD S_SUBTRACT S_MULTIPLY S_DIVIDE (by simp)) (by decide) (by decide) (by decide) (by decide) e0 (g := (mkF m 9 #[.val (.int pa), .val (.int (11 : Int32)), .unset, .unset] [(.int (11 : Int32))])) rfl (by rw [hml]; rfl) (argsL := [(.int (11 : Int32))]) (rest := []) (lenOf pd_0 rfl) rfl rfl (Nat.le_refl _) (hb hby at_9)
    obtain ⟨rfl, n23, K23⟩ := q23
    have N23 := Fr.app N0 n23
    refine Goes.go (U' := (T23.setTop (mkF m 12 #[.val (.int pa), .val (.int (11 : Int32)), .unset, .unset] [(.ref r_MULTIPLY)]))) st23 ?_
    refine Goes.go (U' := (T23.setTop (mkF m 25 #[.val (.int pa), .val (.int (11 : Int32)), .val (.ref r_MULTIPLY), .val (.int (1 : Int32))] [(.ref r_MULTIPLY)]))) (fun t kt => ?_) ?_
    · show Steps p.tables e below (T23.setTop (mkF m 12 #[.val (.int pa), .val (.int (11 : Int32)), .unset, .unset] [(.ref r_MULTIPLY)])) t
      refine XS.astoreN X23.here hx rfl (hb hby at_12) rfl rfl (l' := #[.val (.int pa), .val (.int (11 : Int32)), .val (.ref r_MULTIPLY), .unset]) rfl ?_
      show Steps p.tables e below (T23.setTop (mkF m 13 #[.val (.int pa), .val (.int (11 : Int32)), .val (.ref r_MULTIPLY), .unset] [])) t
      refine XS.iloadN X23.here hx rfl (hb hby at_13) rfl ?_
      show Steps p.tables e below (T23.setTop (mkF m 14 #[.val (.int pa), .val (.int (11 : Int32)), .val (.ref r_MULTIPLY), .unset] [(.int (11 : Int32))])) t
      refine XS.iconst X23.here hx rfl (hb hby at_14) ?_
      show Steps p.tables e below (T23.setTop (mkF m 15 #[.val (.int pa), .val (.int (11 : Int32)), .val (.ref r_MULTIPLY), .unset] [(.int (3 : Int32)), (.int (11 : Int32))])) t
      refine XS.icmpNo X23.here hx rfl (hb hby at_15) rfl (XT.ii_lt_f (by decide)) ?_
      show Steps p.tables e below (T23.setTop (mkF m 18 #[.val (.int pa), .val (.int (11 : Int32)), .val (.ref r_MULTIPLY), .unset] [])) t
      refine XS.iconst X23.here hx rfl (hb hby at_18) ?_
      show Steps p.tables e below (T23.setTop (mkF m 19 #[.val (.int pa), .val (.int (11 : Int32)), .val (.ref r_MULTIPLY), .unset] [(.int (1 : Int32))])) t
      refine XS.goto X23.here hx rfl (pc0 := 19) (pc' := 23) rfl (hb hby at_19) (by decide) (by decide) ?_
      show Steps p.tables e below (T23.setTop (mkF m 23 #[.val (.int pa), .val (.int (11 : Int32)), .val (.ref r_MULTIPLY), .unset] [(.int (1 : Int32))])) t
      refine XS.istoreN X23.here hx rfl (hb hby at_23) rfl (l' := #[.val (.int pa), .val (.int (11 : Int32)), .val (.ref r_MULTIPLY), .val (.int (1 : Int32))]) rfl ?_
      show Steps p.tables e below (T23.setTop (mkF m 24 #[.val (.int pa), .val (.int (11 : Int32)), .val (.ref r_MULTIPLY), .val (.int (1 : Int32))] [])) t
      refine XS.aloadN X23.here hx rfl (hb hby at_24) rfl rfl ?_
      exact kt
    obtain ⟨v24, T24, L24, X24, q24, st24⟩ := callVirtual X23 hx hZ (y := (⟨"com/example/thistle/thistle/language/Operator", "isStrict", "()Z"⟩ : MethodName)) (z := (⟨"com/example/thistle/thistle/language/Operator", "isStrict", "()Z"⟩ : MethodName)) (W := 0) hown (wdOf hw 8 rfl) (wdOf hw 9 rfl) (notFace_of_selects (args := #[]) (mvT hZ (wdOf hw 11 rfl))) (wdOf hw 11 rfl) (wdOf hw 10 rfl) (wdOf hw 6 rfl) (wdOf hw 12 rfl) (by decide) (rm_strict l Z a0 hw [] r_MULTIPLY r_AND r_OR r_NOT (1 : Int32) h0 n0 Z0 S_AND S_OR S_NOT (by simp [ne_11_0, ne_11_1, ne_11_2])) (by decide) (by decide) (by decide) (by decide) K23 E_MULTIPLY (g := (mkF m 25 #[.val (.int pa), .val (.int (11 : Int32)), .val (.ref r_MULTIPLY), .val (.int (1 : Int32))] [(.ref r_MULTIPLY)])) rfl (by rw [hml]; rfl) (argsL := []) (rest := []) (lenOf pd_1 rfl) rfl rfl (Nat.le_refl _) (hb hby at_25)
    obtain ⟨rfl, n24, K24⟩ := q24
    have N24 := Fr.app N23 n24
    refine Goes.go (U' := (T24.setTop (mkF m 28 #[.val (.int pa), .val (.int (11 : Int32)), .val (.ref r_MULTIPLY), .val (.int (1 : Int32))] [(.int (1 : Int32))]))) st24 ?_
    refine Goes.go (U' := (T24.setTop (mkF m 37 #[.val (.int pa), .val (.int (11 : Int32)), .val (.ref r_MULTIPLY), .val (.int (1 : Int32))] [(.int (1 : Int32))]))) (fun t kt => ?_) ?_
    · show Steps p.tables e below (T24.setTop (mkF m 28 #[.val (.int pa), .val (.int (11 : Int32)), .val (.ref r_MULTIPLY), .val (.int (1 : Int32))] [(.int (1 : Int32))])) t
      refine XS.iloadN X24.here hx rfl (hb hby at_28) rfl ?_
      show Steps p.tables e below (T24.setTop (mkF m 29 #[.val (.int pa), .val (.int (11 : Int32)), .val (.ref r_MULTIPLY), .val (.int (1 : Int32))] [(.int (1 : Int32)), (.int (1 : Int32))])) t
      refine XS.icmpNo X24.here hx rfl (hb hby at_29) rfl (XT.ii_ne_f (by decide)) ?_
      show Steps p.tables e below (T24.setTop (mkF m 32 #[.val (.int pa), .val (.int (11 : Int32)), .val (.ref r_MULTIPLY), .val (.int (1 : Int32))] [])) t
      refine XS.iconst X24.here hx rfl (hb hby at_32) ?_
      show Steps p.tables e below (T24.setTop (mkF m 33 #[.val (.int pa), .val (.int (11 : Int32)), .val (.ref r_MULTIPLY), .val (.int (1 : Int32))] [(.int (1 : Int32))])) t
      refine XS.goto X24.here hx rfl (pc0 := 33) (pc' := 37) rfl (hb hby at_33) (by decide) (by decide) ?_
      exact kt
    refine Goes.retB X24 hx hlk hret (hb hby at_37) (by decide) (by decide) ?_
    try rw [K24]
    exact ⟨rfl, N24⟩
  · -- case 12
    rw [hk]
    refine Goes.go (U' := (s₁.setTop (mkF m 9 #[.val (.int pa), .val (.int (12 : Int32)), .unset, .unset] [(.int (12 : Int32))]))) (fun t kt => ?_) ?_
    · show Steps p.tables e below (s₁.setTop (mkF m 7 #[.val (.int pa), .unset, .unset, .unset] [(.int (12 : Int32))])) t
      refine XS.istoreN X0.here hx rfl (hb hby at_7) rfl (l' := #[.val (.int pa), .val (.int (12 : Int32)), .unset, .unset]) rfl ?_
      show Steps p.tables e below (s₁.setTop (mkF m 8 #[.val (.int pa), .val (.int (12 : Int32)), .unset, .unset] [])) t
      refine XS.iloadN X0.here hx rfl (hb hby at_8) rfl ?_
      exact kt
    obtain ⟨v25, T25, L25, X25, q25, st25⟩ := callStatic X0 hx hZ (y := (⟨"com/example/thistle/thistle/language/OperatorIsStrictPinLaw", "pick", "(I)Lcom/example/thistle/thistle/language/Operator;"⟩ : MethodName)) (W := 0) hown (wdOf hw 1 rfl) (wdOf hw 2 rfl) (wdOf hw 3 rfl) (wdOf hw 4 rfl) (by decide) (rm_pick l Z a0 hw [] (12 : Int32) r_DIVIDE r_AND r_OR r_NOT r_EQUAL r_IN r_GREATER_THAN r_LESS_THAN r_GREATER_THAN_OR_EQUAL r_LESS_THAN_OR_EQUAL r_ADD r_SUBTRACT r_MULTIPLY r_DIVIDE h0 n0 Z0 S_AND S_OR S_NOT S_EQUAL S_IN S_GREATER_THAN S_LESS_THAN S_GREATER_THAN_OR_EQUAL S_LESS_THAN_OR_EQUAL S_ADD S_SUBTRACT S_MULTIPLY S_DIVIDE (by simp)) (by decide) (by decide) (by decide) (by decide) e0 (g := (mkF m 9 #[.val (.int pa), .val (.int (12 : Int32)), .unset, .unset] [(.int (12 : Int32))])) rfl (by rw [hml]; rfl) (argsL := [(.int (12 : Int32))]) (rest := []) (lenOf pd_0 rfl) rfl rfl (Nat.le_refl _) (hb hby at_9)
    obtain ⟨rfl, n25, K25⟩ := q25
    have N25 := Fr.app N0 n25
    refine Goes.go (U' := (T25.setTop (mkF m 12 #[.val (.int pa), .val (.int (12 : Int32)), .unset, .unset] [(.ref r_DIVIDE)]))) st25 ?_
    refine Goes.go (U' := (T25.setTop (mkF m 25 #[.val (.int pa), .val (.int (12 : Int32)), .val (.ref r_DIVIDE), .val (.int (1 : Int32))] [(.ref r_DIVIDE)]))) (fun t kt => ?_) ?_
    · show Steps p.tables e below (T25.setTop (mkF m 12 #[.val (.int pa), .val (.int (12 : Int32)), .unset, .unset] [(.ref r_DIVIDE)])) t
      refine XS.astoreN X25.here hx rfl (hb hby at_12) rfl rfl (l' := #[.val (.int pa), .val (.int (12 : Int32)), .val (.ref r_DIVIDE), .unset]) rfl ?_
      show Steps p.tables e below (T25.setTop (mkF m 13 #[.val (.int pa), .val (.int (12 : Int32)), .val (.ref r_DIVIDE), .unset] [])) t
      refine XS.iloadN X25.here hx rfl (hb hby at_13) rfl ?_
      show Steps p.tables e below (T25.setTop (mkF m 14 #[.val (.int pa), .val (.int (12 : Int32)), .val (.ref r_DIVIDE), .unset] [(.int (12 : Int32))])) t
      refine XS.iconst X25.here hx rfl (hb hby at_14) ?_
      show Steps p.tables e below (T25.setTop (mkF m 15 #[.val (.int pa), .val (.int (12 : Int32)), .val (.ref r_DIVIDE), .unset] [(.int (3 : Int32)), (.int (12 : Int32))])) t
      refine XS.icmpNo X25.here hx rfl (hb hby at_15) rfl (XT.ii_lt_f (by decide)) ?_
      show Steps p.tables e below (T25.setTop (mkF m 18 #[.val (.int pa), .val (.int (12 : Int32)), .val (.ref r_DIVIDE), .unset] [])) t
      refine XS.iconst X25.here hx rfl (hb hby at_18) ?_
      show Steps p.tables e below (T25.setTop (mkF m 19 #[.val (.int pa), .val (.int (12 : Int32)), .val (.ref r_DIVIDE), .unset] [(.int (1 : Int32))])) t
      refine XS.goto X25.here hx rfl (pc0 := 19) (pc' := 23) rfl (hb hby at_19) (by decide) (by decide) ?_
      show Steps p.tables e below (T25.setTop (mkF m 23 #[.val (.int pa), .val (.int (12 : Int32)), .val (.ref r_DIVIDE), .unset] [(.int (1 : Int32))])) t
      refine XS.istoreN X25.here hx rfl (hb hby at_23) rfl (l' := #[.val (.int pa), .val (.int (12 : Int32)), .val (.ref r_DIVIDE), .val (.int (1 : Int32))]) rfl ?_
      show Steps p.tables e below (T25.setTop (mkF m 24 #[.val (.int pa), .val (.int (12 : Int32)), .val (.ref r_DIVIDE), .val (.int (1 : Int32))] [])) t
      refine XS.aloadN X25.here hx rfl (hb hby at_24) rfl rfl ?_
      exact kt
    obtain ⟨v26, T26, L26, X26, q26, st26⟩ := callVirtual X25 hx hZ (y := (⟨"com/example/thistle/thistle/language/Operator", "isStrict", "()Z"⟩ : MethodName)) (z := (⟨"com/example/thistle/thistle/language/Operator", "isStrict", "()Z"⟩ : MethodName)) (W := 0) hown (wdOf hw 8 rfl) (wdOf hw 9 rfl) (notFace_of_selects (args := #[]) (mvT hZ (wdOf hw 11 rfl))) (wdOf hw 11 rfl) (wdOf hw 10 rfl) (wdOf hw 6 rfl) (wdOf hw 12 rfl) (by decide) (rm_strict l Z a0 hw [] r_DIVIDE r_AND r_OR r_NOT (1 : Int32) h0 n0 Z0 S_AND S_OR S_NOT (by simp [ne_12_0, ne_12_1, ne_12_2])) (by decide) (by decide) (by decide) (by decide) K25 E_DIVIDE (g := (mkF m 25 #[.val (.int pa), .val (.int (12 : Int32)), .val (.ref r_DIVIDE), .val (.int (1 : Int32))] [(.ref r_DIVIDE)])) rfl (by rw [hml]; rfl) (argsL := []) (rest := []) (lenOf pd_1 rfl) rfl rfl (Nat.le_refl _) (hb hby at_25)
    obtain ⟨rfl, n26, K26⟩ := q26
    have N26 := Fr.app N25 n26
    refine Goes.go (U' := (T26.setTop (mkF m 28 #[.val (.int pa), .val (.int (12 : Int32)), .val (.ref r_DIVIDE), .val (.int (1 : Int32))] [(.int (1 : Int32))]))) st26 ?_
    refine Goes.go (U' := (T26.setTop (mkF m 37 #[.val (.int pa), .val (.int (12 : Int32)), .val (.ref r_DIVIDE), .val (.int (1 : Int32))] [(.int (1 : Int32))]))) (fun t kt => ?_) ?_
    · show Steps p.tables e below (T26.setTop (mkF m 28 #[.val (.int pa), .val (.int (12 : Int32)), .val (.ref r_DIVIDE), .val (.int (1 : Int32))] [(.int (1 : Int32))])) t
      refine XS.iloadN X26.here hx rfl (hb hby at_28) rfl ?_
      show Steps p.tables e below (T26.setTop (mkF m 29 #[.val (.int pa), .val (.int (12 : Int32)), .val (.ref r_DIVIDE), .val (.int (1 : Int32))] [(.int (1 : Int32)), (.int (1 : Int32))])) t
      refine XS.icmpNo X26.here hx rfl (hb hby at_29) rfl (XT.ii_ne_f (by decide)) ?_
      show Steps p.tables e below (T26.setTop (mkF m 32 #[.val (.int pa), .val (.int (12 : Int32)), .val (.ref r_DIVIDE), .val (.int (1 : Int32))] [])) t
      refine XS.iconst X26.here hx rfl (hb hby at_32) ?_
      show Steps p.tables e below (T26.setTop (mkF m 33 #[.val (.int pa), .val (.int (12 : Int32)), .val (.ref r_DIVIDE), .val (.int (1 : Int32))] [(.int (1 : Int32))])) t
      refine XS.goto X26.here hx rfl (pc0 := 33) (pc' := 37) rfl (hb hby at_33) (by decide) (by decide) ?_
      exact kt
    refine Goes.retB X26 hx hlk hret (hb hby at_37) (by decide) (by decide) ?_
    try rw [K26]
    exact ⟨rfl, N26⟩
set_option maxRecDepth 65536 in
set_option maxHeartbeats 40000000 in
theorem comes_1 {Post : Tables → Env → Array Value → State → Outcome → State → Prop} (hpost : ∀ tb e args s v u, (limb_1_1.after args s (.returned v) u = true ∧ limb_1_2.after args s (.returned v) u = true) → FrameEnd s (.returned v) u (Jvm.fieldLocs frame_1_writes args s ++ Jvm.arrayLocs frame_1_arrays args s ++ Jvm.staticLocs frame_1_statics s) 0 0 → Post tb e args s (.returned v) u) :
    ArmFor flags0 classFile x code maxLocals ret World_1 tables_1 room_1 Calls_1 rest_1 Pre_1 Post := by
  intro l hfl _ _ p e ha hc hk s m args below hf hA hF happ hP
  obtain ⟨hcalls, hrest, hpre⟩ := hP
  obtain ⟨-, -, -, hnamed, -, -, -, hat⟩ := (Spec.applies_iff hf).mp happ
  obtain ⟨hg, hn⟩ := and_e (Cond.before_iff.mp (show (Jvm.Cond.and given_1 narrow_1).before args s = true from hpre))
  obtain ⟨gc, gs⟩ := and_e hg
  have ga0 := gs
  obtain ⟨w0, rfl⟩ : ∃ w0 : Value, args = #[w0] := by
    have hs : args.size = 1 := by simpa [Cond.value, given_1] using gc
    obtain ⟨L⟩ := args
    match L, hs with
    | [w0], _ => exact ⟨w0, rfl⟩
  have hw := fun d (hd : d ∈ tables_1) => atoms_spec (ws := Jvm.Cond.code x code maxLocals ret :: tables_1) hat d (List.mem_cons_of_mem _ hd)
  have hfit : Fit s := fun {y c} hc i hi => by
    obtain ⟨ha, rfl⟩ := Array.getElem?_eq_some_iff.mp hc
    have q := List.all_eq_true.mp ((Array.all_eq_true_iff_forall_mem.mp hF) _ (Array.getElem_mem ha)) i (List.mem_range.mpr hi)
    simpa [Array.getElem?_eq_getElem hi] using q
  obtain ⟨i0, ei0⟩ := is_v ga0
  obtain rfl : w0 = (.int i0) := Option.some.inj ei0
  obtain ⟨hn0, hn⟩ := and_e hn
  obtain ⟨hn1, hn⟩ := and_e hn
  obtain ⟨hn2, hn⟩ := and_e hn
  obtain ⟨hn3, hn⟩ := and_e hn
  obtain ⟨hn4, hn⟩ := and_e hn
  obtain ⟨hn5, hn⟩ := and_e hn
  obtain ⟨hn6, hn⟩ := and_e hn
  obtain ⟨hn7, hn⟩ := and_e hn
  obtain ⟨hn8, hn⟩ := and_e hn
  obtain ⟨hn9, hn⟩ := and_e hn
  obtain ⟨hn10, hn⟩ := and_e hn
  obtain ⟨hn11, hn⟩ := and_e hn
  obtain ⟨hn12, hn⟩ := and_e hn
  obtain ⟨hn13, hn⟩ := and_e hn
  obtain ⟨hn14, hn⟩ := and_e hn
  obtain ⟨hn15, hn⟩ := and_e hn
  obtain ⟨hn16, hn⟩ := and_e hn
  obtain ⟨hn17, hn⟩ := and_e hn
  obtain ⟨hn18, hn⟩ := and_e hn
  obtain ⟨hn19, hn⟩ := and_e hn
  obtain ⟨hn20, hn⟩ := and_e hn
  obtain ⟨hn21, hn⟩ := and_e hn
  obtain ⟨hn22, hn⟩ := and_e hn
  obtain ⟨hn23, hn⟩ := and_e hn
  obtain ⟨hn24, hn⟩ := and_e hn
  have hn25 := hn
  obtain ⟨r_AND, ev_AND⟩ := exa_v hn0
  have E_AND : Exa s s.heap r_AND "com/example/thistle/thistle/language/Operator" := Exa.start ev_AND hn0
  have S_AND : Sta s s.heap "com/example/thistle/thistle/language/Operator" "AND" "Lcom/example/thistle/thistle/language/Operator;" (.ref r_AND) := Sta.start ev_AND (Or.inr ⟨(wdOf hw 6 rfl), (wdOf hw 7 rfl)⟩)
  obtain ⟨r_EQUAL, ev_EQUAL⟩ := exa_v hn1
  have E_EQUAL : Exa s s.heap r_EQUAL "com/example/thistle/thistle/language/Operator" := Exa.start ev_EQUAL hn1
  have S_EQUAL : Sta s s.heap "com/example/thistle/thistle/language/Operator" "EQUAL" "Lcom/example/thistle/thistle/language/Operator;" (.ref r_EQUAL) := Sta.start ev_EQUAL (Or.inr ⟨(wdOf hw 6 rfl), (wdOf hw 15 rfl)⟩)
  obtain ⟨r_OR, ev_OR⟩ := exa_v hn4
  have E_OR : Exa s s.heap r_OR "com/example/thistle/thistle/language/Operator" := Exa.start ev_OR hn4
  have S_OR : Sta s s.heap "com/example/thistle/thistle/language/Operator" "OR" "Lcom/example/thistle/thistle/language/Operator;" (.ref r_OR) := Sta.start ev_OR (Or.inr ⟨(wdOf hw 6 rfl), (wdOf hw 17 rfl)⟩)
  obtain ⟨r_NOT, ev_NOT⟩ := exa_v hn6
  have E_NOT : Exa s s.heap r_NOT "com/example/thistle/thistle/language/Operator" := Exa.start ev_NOT hn6
  have S_NOT : Sta s s.heap "com/example/thistle/thistle/language/Operator" "NOT" "Lcom/example/thistle/thistle/language/Operator;" (.ref r_NOT) := Sta.start ev_NOT (Or.inr ⟨(wdOf hw 6 rfl), (wdOf hw 19 rfl)⟩)
  obtain ⟨r_LESS_THAN, ev_LESS_THAN⟩ := exa_v hn8
  have E_LESS_THAN : Exa s s.heap r_LESS_THAN "com/example/thistle/thistle/language/Operator" := Exa.start ev_LESS_THAN hn8
  have S_LESS_THAN : Sta s s.heap "com/example/thistle/thistle/language/Operator" "LESS_THAN" "Lcom/example/thistle/thistle/language/Operator;" (.ref r_LESS_THAN) := Sta.start ev_LESS_THAN (Or.inr ⟨(wdOf hw 6 rfl), (wdOf hw 21 rfl)⟩)
  obtain ⟨r_GREATER_THAN, ev_GREATER_THAN⟩ := exa_v hn10
  have E_GREATER_THAN : Exa s s.heap r_GREATER_THAN "com/example/thistle/thistle/language/Operator" := Exa.start ev_GREATER_THAN hn10
  have S_GREATER_THAN : Sta s s.heap "com/example/thistle/thistle/language/Operator" "GREATER_THAN" "Lcom/example/thistle/thistle/language/Operator;" (.ref r_GREATER_THAN) := Sta.start ev_GREATER_THAN (Or.inr ⟨(wdOf hw 6 rfl), (wdOf hw 23 rfl)⟩)
  obtain ⟨r_GREATER_THAN_OR_EQUAL, ev_GREATER_THAN_OR_EQUAL⟩ := exa_v hn12
  have E_GREATER_THAN_OR_EQUAL : Exa s s.heap r_GREATER_THAN_OR_EQUAL "com/example/thistle/thistle/language/Operator" := Exa.start ev_GREATER_THAN_OR_EQUAL hn12
  have S_GREATER_THAN_OR_EQUAL : Sta s s.heap "com/example/thistle/thistle/language/Operator" "GREATER_THAN_OR_EQUAL" "Lcom/example/thistle/thistle/language/Operator;" (.ref r_GREATER_THAN_OR_EQUAL) := Sta.start ev_GREATER_THAN_OR_EQUAL (Or.inr ⟨(wdOf hw 6 rfl), (wdOf hw 25 rfl)⟩)
  obtain ⟨r_ADD, ev_ADD⟩ := exa_v hn14
  have E_ADD : Exa s s.heap r_ADD "com/example/thistle/thistle/language/Operator" := Exa.start ev_ADD hn14
  have S_ADD : Sta s s.heap "com/example/thistle/thistle/language/Operator" "ADD" "Lcom/example/thistle/thistle/language/Operator;" (.ref r_ADD) := Sta.start ev_ADD (Or.inr ⟨(wdOf hw 6 rfl), (wdOf hw 27 rfl)⟩)
  obtain ⟨r_MULTIPLY, ev_MULTIPLY⟩ := exa_v hn16
  have E_MULTIPLY : Exa s s.heap r_MULTIPLY "com/example/thistle/thistle/language/Operator" := Exa.start ev_MULTIPLY hn16
  have S_MULTIPLY : Sta s s.heap "com/example/thistle/thistle/language/Operator" "MULTIPLY" "Lcom/example/thistle/thistle/language/Operator;" (.ref r_MULTIPLY) := Sta.start ev_MULTIPLY (Or.inr ⟨(wdOf hw 6 rfl), (wdOf hw 30 rfl)⟩)
  obtain ⟨r_LESS_THAN_OR_EQUAL, ev_LESS_THAN_OR_EQUAL⟩ := exa_v hn18
  have E_LESS_THAN_OR_EQUAL : Exa s s.heap r_LESS_THAN_OR_EQUAL "com/example/thistle/thistle/language/Operator" := Exa.start ev_LESS_THAN_OR_EQUAL hn18
  have S_LESS_THAN_OR_EQUAL : Sta s s.heap "com/example/thistle/thistle/language/Operator" "LESS_THAN_OR_EQUAL" "Lcom/example/thistle/thistle/language/Operator;" (.ref r_LESS_THAN_OR_EQUAL) := Sta.start ev_LESS_THAN_OR_EQUAL (Or.inr ⟨(wdOf hw 6 rfl), (wdOf hw 33 rfl)⟩)
  obtain ⟨r_SUBTRACT, ev_SUBTRACT⟩ := exa_v hn20
  have E_SUBTRACT : Exa s s.heap r_SUBTRACT "com/example/thistle/thistle/language/Operator" := Exa.start ev_SUBTRACT hn20
  have S_SUBTRACT : Sta s s.heap "com/example/thistle/thistle/language/Operator" "SUBTRACT" "Lcom/example/thistle/thistle/language/Operator;" (.ref r_SUBTRACT) := Sta.start ev_SUBTRACT (Or.inr ⟨(wdOf hw 6 rfl), (wdOf hw 35 rfl)⟩)
  obtain ⟨r_DIVIDE, ev_DIVIDE⟩ := exa_v hn22
  have E_DIVIDE : Exa s s.heap r_DIVIDE "com/example/thistle/thistle/language/Operator" := Exa.start ev_DIVIDE hn22
  have S_DIVIDE : Sta s s.heap "com/example/thistle/thistle/language/Operator" "DIVIDE" "Lcom/example/thistle/thistle/language/Operator;" (.ref r_DIVIDE) := Sta.start ev_DIVIDE (Or.inr ⟨(wdOf hw 6 rfl), (wdOf hw 37 rfl)⟩)
  obtain ⟨r_IN, ev_IN⟩ := exa_v hn24
  have E_IN : Exa s s.heap r_IN "com/example/thistle/thistle/language/Operator" := Exa.start ev_IN hn24
  have S_IN : Sta s s.heap "com/example/thistle/thistle/language/Operator" "IN" "Lcom/example/thistle/thistle/language/Operator;" (.ref r_IN) := Sta.start ev_IN (Or.inr ⟨(wdOf hw 6 rfl), (wdOf hw 39 rfl)⟩)
  have F_ordinal_EQUAL : Fld s s.heap r_EQUAL "java/lang/Enum" "ordinal" "I" (.int (3 : Int32)) := Fld.start ((fld_at ev_EQUAL).symm.trans (eqInt_v hn2))
  have F_ordinal_AND : Fld s s.heap r_AND "java/lang/Enum" "ordinal" "I" (.int (0 : Int32)) := Fld.start ((fld_at ev_AND).symm.trans (eqInt_v hn3))
  have F_ordinal_OR : Fld s s.heap r_OR "java/lang/Enum" "ordinal" "I" (.int (1 : Int32)) := Fld.start ((fld_at ev_OR).symm.trans (eqInt_v hn5))
  have F_ordinal_NOT : Fld s s.heap r_NOT "java/lang/Enum" "ordinal" "I" (.int (2 : Int32)) := Fld.start ((fld_at ev_NOT).symm.trans (eqInt_v hn7))
  have F_ordinal_LESS_THAN : Fld s s.heap r_LESS_THAN "java/lang/Enum" "ordinal" "I" (.int (6 : Int32)) := Fld.start ((fld_at ev_LESS_THAN).symm.trans (eqInt_v hn9))
  have F_ordinal_GREATER_THAN : Fld s s.heap r_GREATER_THAN "java/lang/Enum" "ordinal" "I" (.int (5 : Int32)) := Fld.start ((fld_at ev_GREATER_THAN).symm.trans (eqInt_v hn11))
  have F_ordinal_GREATER_THAN_OR_EQUAL : Fld s s.heap r_GREATER_THAN_OR_EQUAL "java/lang/Enum" "ordinal" "I" (.int (7 : Int32)) := Fld.start ((fld_at ev_GREATER_THAN_OR_EQUAL).symm.trans (eqInt_v hn13))
  have F_ordinal_ADD : Fld s s.heap r_ADD "java/lang/Enum" "ordinal" "I" (.int (9 : Int32)) := Fld.start ((fld_at ev_ADD).symm.trans (eqInt_v hn15))
  have F_ordinal_MULTIPLY : Fld s s.heap r_MULTIPLY "java/lang/Enum" "ordinal" "I" (.int (11 : Int32)) := Fld.start ((fld_at ev_MULTIPLY).symm.trans (eqInt_v hn17))
  have F_ordinal_LESS_THAN_OR_EQUAL : Fld s s.heap r_LESS_THAN_OR_EQUAL "java/lang/Enum" "ordinal" "I" (.int (8 : Int32)) := Fld.start ((fld_at ev_LESS_THAN_OR_EQUAL).symm.trans (eqInt_v hn19))
  have F_ordinal_SUBTRACT : Fld s s.heap r_SUBTRACT "java/lang/Enum" "ordinal" "I" (.int (10 : Int32)) := Fld.start ((fld_at ev_SUBTRACT).symm.trans (eqInt_v hn21))
  have F_ordinal_DIVIDE : Fld s s.heap r_DIVIDE "java/lang/Enum" "ordinal" "I" (.int (12 : Int32)) := Fld.start ((fld_at ev_DIVIDE).symm.trans (eqInt_v hn23))
  have F_ordinal_IN : Fld s s.heap r_IN "java/lang/Enum" "ordinal" "I" (.int (4 : Int32)) := Fld.start ((fld_at ev_IN).symm.trans (eqInt_v hn25))
  obtain ⟨n, o, h1, h2, h3, _, L, rfl, ⟨rfl, N⟩, hq⟩ := rm_law l s _ hw tables_1 i0 r_AND r_OR r_NOT r_EQUAL r_IN r_GREATER_THAN r_LESS_THAN r_GREATER_THAN_OR_EQUAL r_LESS_THAN_OR_EQUAL r_ADD r_SUBTRACT r_MULTIPLY r_DIVIDE s.heap s.heap.size (Nat.le_refl _) S_AND S_OR S_NOT S_EQUAL S_IN S_GREATER_THAN S_LESS_THAN S_GREATER_THAN_OR_EQUAL S_LESS_THAN_OR_EQUAL S_ADD S_SUBTRACT S_MULTIPLY S_DIVIDE E_AND E_OR E_NOT E_EQUAL E_IN E_GREATER_THAN E_LESS_THAN E_GREATER_THAN_OR_EQUAL E_LESS_THAN_OR_EQUAL E_ADD E_SUBTRACT E_MULTIPLY E_DIVIDE (Fld.ne F_ordinal_EQUAL F_ordinal_AND (by decide)) (Fld.ne F_ordinal_EQUAL F_ordinal_OR (by decide)) (Fld.ne F_ordinal_EQUAL F_ordinal_NOT (by decide)) (Fld.ne F_ordinal_IN F_ordinal_AND (by decide)) (Fld.ne F_ordinal_IN F_ordinal_OR (by decide)) (Fld.ne F_ordinal_IN F_ordinal_NOT (by decide)) (Fld.ne F_ordinal_GREATER_THAN F_ordinal_AND (by decide)) (Fld.ne F_ordinal_GREATER_THAN F_ordinal_OR (by decide)) (Fld.ne F_ordinal_GREATER_THAN F_ordinal_NOT (by decide)) (Fld.ne F_ordinal_LESS_THAN F_ordinal_AND (by decide)) (Fld.ne F_ordinal_LESS_THAN F_ordinal_OR (by decide)) (Fld.ne F_ordinal_LESS_THAN F_ordinal_NOT (by decide)) (Fld.ne F_ordinal_GREATER_THAN_OR_EQUAL F_ordinal_AND (by decide)) (Fld.ne F_ordinal_GREATER_THAN_OR_EQUAL F_ordinal_OR (by decide)) (Fld.ne F_ordinal_GREATER_THAN_OR_EQUAL F_ordinal_NOT (by decide)) (Fld.ne F_ordinal_LESS_THAN_OR_EQUAL F_ordinal_AND (by decide)) (Fld.ne F_ordinal_LESS_THAN_OR_EQUAL F_ordinal_OR (by decide)) (Fld.ne F_ordinal_LESS_THAN_OR_EQUAL F_ordinal_NOT (by decide)) (Fld.ne F_ordinal_ADD F_ordinal_AND (by decide)) (Fld.ne F_ordinal_ADD F_ordinal_OR (by decide)) (Fld.ne F_ordinal_ADD F_ordinal_NOT (by decide)) (Fld.ne F_ordinal_SUBTRACT F_ordinal_AND (by decide)) (Fld.ne F_ordinal_SUBTRACT F_ordinal_OR (by decide)) (Fld.ne F_ordinal_SUBTRACT F_ordinal_NOT (by decide)) (Fld.ne F_ordinal_MULTIPLY F_ordinal_AND (by decide)) (Fld.ne F_ordinal_MULTIPLY F_ordinal_OR (by decide)) (Fld.ne F_ordinal_MULTIPLY F_ordinal_NOT (by decide)) (Fld.ne F_ordinal_DIVIDE F_ordinal_AND (by decide)) (Fld.ne F_ordinal_DIVIDE F_ordinal_OR (by decide)) (Fld.ne F_ordinal_DIVIDE F_ordinal_NOT (by decide))  p e ha hc hk s m _ below hf ((Spec.applies_iff_loose hf).mp happ).1 ⟨rfl, State.Warmed39.refl s, rfl⟩ trivial
  refine ⟨n, _, h1, h2, h3, hpost _ _ _ _ _ _ ⟨Cond.after_iff.mpr rfl, Cond.after_iff.mpr (eq_i res_at (Term.int_eval (1)) rfl)⟩ ⟨hq.1, hq.2.1, (hq.2.2.sift fun y hy => Or.inr (N y hy)).mono (by decide) (by decide)⟩⟩
theorem main_1_1 : Claimed_1_1 := comes_1 fun _ _ _ _ _ _ h hF => ⟨h.1, hF⟩
theorem main_1_2 : Claimed_1_2 := comes_1 fun _ _ _ _ _ _ h hF => ⟨h.2, hF⟩
end Jvm.Pilot.@@N@@
namespace Jvm.Pilot.@@N@@
open Jvm Jvm.ClassFile Sem Op Lib Jvm.Free Jvm.Stand Jvm.Pilot.@@N@@.Jvm.D
/-! MADE BY PROGRAM (witnessworld.py) out of the Statement's table words and the real class files: 12 classes; the members and pool entries that the words name. The judged class is class 1, her method 1. -/
namespace start1
open Jvm.ClassFile
def u (s : String) : CpInfo := .utf8 (stringToUtf16 s)
/-- a pool by its gaps: so many unusable entries, then the entry; so many at the end -/
def gap : Nat → List CpInfo → List CpInfo
  | 0, r => r
  | n + 1, r => .unusable :: gap n r
def poolList (es : List (Nat × CpInfo)) (last : Nat) : List CpInfo := es.foldr (fun e r => gap e.1 (e.2 :: r)) (gap last [])
def pool (es : List (Nat × CpInfo)) (last : Nat) : Array CpInfo := ⟨poolList es last⟩
def fileOf (pool : Array CpInfo) (this : Nat) (attrs : Array Attribute := #[]) (ms : Array MethodInfo := #[]) (fl : Nat := 33) (sup : Nat := 0) (ifs : Array Nat := #[]) (fds : Array FieldInfo := #[]) : ClassFile where
  minorVersion := 0
  majorVersion := 65
  constantPool := pool
  accessFlags := fl
  thisClass := this
  superClass := sup
  interfaces := ifs
  fields := fds
  methods := ms
  attributes := attrs
def plain (name : String) (sup : Option ClassId) : Class where
  name := name
  kind := .ordinary
  loader := none
  accessFlags := 33
  super := sup
  interfaces := #[]
  cf := none
  fields := #[]
  methods := #[]
  instanceTypes := #[]
  staticTypes := #[]
  resolved := #[]
  callSites := []
  init := .initialized
  statics := none
  mirror := none

def pool0 : Array CpInfo := pool [(5, u "<init>"), (0, u "()V"), (1, .class_ 10), (1, u "java/lang/Object")] 113

def k0m0 : Method := { name := "<init>", desc := "()V", sig := { parameters := [], returnType := none }, accessFlags := 1, code := none }
/-- java/lang/Object -/
def k0 : Class := { plain "java/lang/Object" none with
  accessFlags := 33
  interfaces := #[]
  cf := some (fileOf pool0 8 #[] #[{ accessFlags := 1, nameIndex := 5, descriptorIndex := 6, attributes := #[] }] 33 0 #[] #[])
  fields := #[]
  methods := #[k0m0]
  instanceTypes := #[]
  staticTypes := #[]
  resolved := Array.replicate 124 none
  statics := none }

def pool1 : Array CpInfo := pool [(2, .class_ 4), (1, u "java/lang/Object"), (0, u "<init>"), (0, u "()V"), (0, .integer 2147483647), (0, .methodref 9 10), (0, .class_ 11), (0, .nameAndType 12 13), (0, u "com/example/thistle/thistle/language/OperatorIsStrictPinLaw"), (0, u "pick"), (0, u "(I)Lcom/example/thistle/thistle/language/Operator;"), (0, .methodref 15 16), (0, .class_ 17), (0, .nameAndType 18 19), (0, u "com/example/thistle/thistle/language/Operator"), (0, u "isStrict"), (0, u "()Z"), (0, .fieldref 15 21), (0, .nameAndType 22 23), (0, u "AND"), (0, u "Lcom/example/thistle/thistle/language/Operator;"), (0, .fieldref 15 25), (0, .nameAndType 26 23), (0, u "OR"), (0, .fieldref 15 28), (0, .nameAndType 29 23), (0, u "NOT"), (0, .fieldref 15 31), (0, .nameAndType 32 23), (0, u "EQUAL"), (0, .fieldref 15 34), (0, .nameAndType 35 23), (0, u "IN"), (0, .fieldref 15 37), (0, .nameAndType 38 23), (0, u "GREATER_THAN"), (0, .fieldref 15 40), (0, .nameAndType 41 23), (0, u "LESS_THAN"), (0, .fieldref 15 43), (0, .nameAndType 44 23), (0, u "GREATER_THAN_OR_EQUAL"), (0, .fieldref 15 46), (0, .nameAndType 47 23), (0, u "LESS_THAN_OR_EQUAL"), (0, .fieldref 15 49), (0, .nameAndType 50 23), (0, u "ADD"), (0, .fieldref 15 52), (0, .nameAndType 53 23), (0, u "SUBTRACT"), (0, .fieldref 15 55), (0, .nameAndType 56 23), (0, u "MULTIPLY"), (0, .fieldref 15 58), (0, .nameAndType 59 23), (0, u "DIVIDE"), (2, u "law"), (0, u "(I)Z")] 3

def k1m0 : Method := { name := "<init>", desc := "()V", sig := { parameters := [], returnType := none }, accessFlags := 1, code := none }
def k1c1 : Code := { maxStack := 2, maxLocals := 4, code := code, exceptionTable := #[], attributes := #[] }
def k1m1 : Method := { name := "law", desc := "(I)Z", sig := { parameters := [.int], returnType := some .boolean }, accessFlags := 9, code := some k1c1 }
def k1c2 : Code := { maxStack := 2, maxLocals := 1, code := method_3_code, exceptionTable := #[], attributes := #[] }
def k1m2 : Method := { name := "pick", desc := "(I)Lcom/example/thistle/thistle/language/Operator;", sig := { parameters := [.int], returnType := some (.object "com/example/thistle/thistle/language/Operator") }, accessFlags := 10, code := some k1c2 }
/-- com/example/thistle/thistle/language/OperatorIsStrictPinLaw -/
def k1 : Class := { plain "com/example/thistle/thistle/language/OperatorIsStrictPinLaw" (some 0) with
  accessFlags := 49
  interfaces := #[]
  cf := some (fileOf pool1 9 #[] #[{ accessFlags := 1, nameIndex := 5, descriptorIndex := 6, attributes := #[] }, { accessFlags := 9, nameIndex := 62, descriptorIndex := 63, attributes := #[] }, { accessFlags := 10, nameIndex := 12, descriptorIndex := 13, attributes := #[] }] 49 2 #[] #[])
  fields := #[]
  methods := #[k1m0, k1m1, k1m2]
  instanceTypes := #[]
  staticTypes := #[]
  resolved := Array.replicate 67 none
  statics := none }

def pool2 : Array CpInfo := pool [(1, .class_ 2), (0, u "java/lang/constant/Constable"), (0, .class_ 4), (0, u "java/lang/Object")] 6

/-- java/lang/constant/Constable -/
def k2 : Class := { plain "java/lang/constant/Constable" (some 0) with
  accessFlags := 1537
  interfaces := #[]
  cf := some (fileOf pool2 1 #[] #[] 1537 3 #[] #[])
  fields := #[]
  methods := #[]
  instanceTypes := #[]
  staticTypes := #[]
  resolved := Array.replicate 11 none
  statics := none }

def pool3 : Array CpInfo := pool [(1, .class_ 2), (0, u "java/lang/Comparable"), (0, .class_ 4), (0, u "java/lang/Object")] 7

/-- java/lang/Comparable -/
def k3 : Class := { plain "java/lang/Comparable" (some 0) with
  accessFlags := 1537
  interfaces := #[]
  cf := some (fileOf pool3 1 #[] #[] 1537 3 #[] #[])
  fields := #[]
  methods := #[]
  instanceTypes := #[]
  staticTypes := #[]
  resolved := Array.replicate 12 none
  statics := none }

def pool4 : Array CpInfo := pool [(1, .class_ 2), (0, u "java/io/Serializable"), (0, .class_ 4), (0, u "java/lang/Object")] 2

/-- java/io/Serializable -/
def k4 : Class := { plain "java/io/Serializable" (some 0) with
  accessFlags := 1537
  interfaces := #[]
  cf := some (fileOf pool4 1 #[] #[] 1537 3 #[] #[])
  fields := #[]
  methods := #[]
  instanceTypes := #[]
  staticTypes := #[]
  resolved := Array.replicate 7 none
  statics := none }

def pool5 : Array CpInfo := pool [(2, .class_ 4), (1, u "java/lang/Enum"), (0, u "name"), (0, u "Ljava/lang/String;"), (2, u "ordinal"), (0, u "I"), (1, .class_ 14), (1, u "java/lang/Object"), (4, u "hash"), (86, .class_ 108), (1, u "java/lang/Enum$EnumDesc"), (2, .class_ 112), (0, u "java/lang/constant/Constable"), (0, .class_ 114), (0, u "java/lang/Comparable"), (0, .class_ 116), (0, u "java/io/Serializable")] 87

/-- java/lang/Enum -/
def k5 : Class := { plain "java/lang/Enum" (some 0) with
  accessFlags := 1057
  interfaces := #[2, 3, 4]
  cf := some (fileOf pool5 2 #[.nestMembers #[106]] #[] 1057 12 #[111, 113, 115] #[{ accessFlags := 18, nameIndex := 5, descriptorIndex := 6, attributes := #[] }, { accessFlags := 18, nameIndex := 9, descriptorIndex := 10, attributes := #[] }, { accessFlags := 2, nameIndex := 19, descriptorIndex := 10, attributes := #[] }])
  fields := #[{ name := "name", type := (.object "java/lang/String"), accessFlags := 18, slot := 0, constantValue := 0 }, { name := "ordinal", type := .int, accessFlags := 18, slot := 1, constantValue := 0 }, { name := "hash", type := .int, accessFlags := 2, slot := 2, constantValue := 0 }]
  methods := #[]
  instanceTypes := #[(.object "java/lang/String"), .int, .int]
  staticTypes := #[]
  resolved := Array.replicate 204 none
  statics := none }

def pool6 : Array CpInfo := pool [(1, .class_ 2), (0, u "com/example/thistle/thistle/language/Operator"), (0, .fieldref 1 4), (0, .nameAndType 5 6), (0, u "AND"), (0, u "Lcom/example/thistle/thistle/language/Operator;"), (0, .fieldref 1 8), (0, .nameAndType 9 6), (0, u "OR"), (0, .fieldref 1 11), (0, .nameAndType 12 6), (0, u "NOT"), (2, u "EQUAL"), (2, u "IN"), (2, u "GREATER_THAN"), (2, u "LESS_THAN"), (2, u "GREATER_THAN_OR_EQUAL"), (2, u "LESS_THAN_OR_EQUAL"), (2, u "ADD"), (2, u "SUBTRACT"), (2, u "MULTIPLY"), (2, u "DIVIDE"), (2, u "$VALUES"), (0, u "[Lcom/example/thistle/thistle/language/Operator;"), (6, .class_ 55), (1, u "java/lang/Enum"), (8, u "word"), (0, u "Ljava/lang/String;"), (2, u "fewestArguments"), (0, u "I"), (2, u "mostArguments"), (2, u "gives"), (0, u "Lcom/example/thistle/thistle/language/Type;"), (20, u "takes"), (0, u "Ljava/util/Set;"), (114, u "isStrict"), (0, u "()Z")] 39

def k6c0 : Code := { maxStack := 2, maxLocals := 1, code := prog_61_method_8_code, exceptionTable := #[], attributes := #[] }
def k6m0 : Method := { name := "isStrict", desc := "()Z", sig := { parameters := [], returnType := some .boolean }, accessFlags := 1, code := some k6c0 }
/-- com/example/thistle/thistle/language/Operator -/
def k6 : Class := { plain "com/example/thistle/thistle/language/Operator" (some 5) with
  accessFlags := 16433
  interfaces := #[]
  cf := some (fileOf pool6 1 #[] #[{ accessFlags := 1, nameIndex := 213, descriptorIndex := 214, attributes := #[] }] 16433 53 #[] #[{ accessFlags := 16409, nameIndex := 5, descriptorIndex := 6, attributes := #[] }, { accessFlags := 16409, nameIndex := 9, descriptorIndex := 6, attributes := #[] }, { accessFlags := 16409, nameIndex := 12, descriptorIndex := 6, attributes := #[] }, { accessFlags := 16409, nameIndex := 15, descriptorIndex := 6, attributes := #[] }, { accessFlags := 16409, nameIndex := 18, descriptorIndex := 6, attributes := #[] }, { accessFlags := 16409, nameIndex := 21, descriptorIndex := 6, attributes := #[] }, { accessFlags := 16409, nameIndex := 24, descriptorIndex := 6, attributes := #[] }, { accessFlags := 16409, nameIndex := 27, descriptorIndex := 6, attributes := #[] }, { accessFlags := 16409, nameIndex := 30, descriptorIndex := 6, attributes := #[] }, { accessFlags := 16409, nameIndex := 33, descriptorIndex := 6, attributes := #[] }, { accessFlags := 16409, nameIndex := 36, descriptorIndex := 6, attributes := #[] }, { accessFlags := 16409, nameIndex := 39, descriptorIndex := 6, attributes := #[] }, { accessFlags := 16409, nameIndex := 42, descriptorIndex := 6, attributes := #[] }, { accessFlags := 18, nameIndex := 64, descriptorIndex := 65, attributes := #[] }, { accessFlags := 18, nameIndex := 68, descriptorIndex := 69, attributes := #[] }, { accessFlags := 18, nameIndex := 72, descriptorIndex := 69, attributes := #[] }, { accessFlags := 18, nameIndex := 75, descriptorIndex := 76, attributes := #[] }, { accessFlags := 18, nameIndex := 97, descriptorIndex := 98, attributes := #[] }, { accessFlags := 4122, nameIndex := 45, descriptorIndex := 46, attributes := #[] }])
  fields := #[{ name := "AND", type := (.object "com/example/thistle/thistle/language/Operator"), accessFlags := 16409, slot := 0, constantValue := 0 }, { name := "OR", type := (.object "com/example/thistle/thistle/language/Operator"), accessFlags := 16409, slot := 1, constantValue := 0 }, { name := "NOT", type := (.object "com/example/thistle/thistle/language/Operator"), accessFlags := 16409, slot := 2, constantValue := 0 }, { name := "EQUAL", type := (.object "com/example/thistle/thistle/language/Operator"), accessFlags := 16409, slot := 3, constantValue := 0 }, { name := "IN", type := (.object "com/example/thistle/thistle/language/Operator"), accessFlags := 16409, slot := 4, constantValue := 0 }, { name := "GREATER_THAN", type := (.object "com/example/thistle/thistle/language/Operator"), accessFlags := 16409, slot := 5, constantValue := 0 }, { name := "LESS_THAN", type := (.object "com/example/thistle/thistle/language/Operator"), accessFlags := 16409, slot := 6, constantValue := 0 }, { name := "GREATER_THAN_OR_EQUAL", type := (.object "com/example/thistle/thistle/language/Operator"), accessFlags := 16409, slot := 7, constantValue := 0 }, { name := "LESS_THAN_OR_EQUAL", type := (.object "com/example/thistle/thistle/language/Operator"), accessFlags := 16409, slot := 8, constantValue := 0 }, { name := "ADD", type := (.object "com/example/thistle/thistle/language/Operator"), accessFlags := 16409, slot := 9, constantValue := 0 }, { name := "SUBTRACT", type := (.object "com/example/thistle/thistle/language/Operator"), accessFlags := 16409, slot := 10, constantValue := 0 }, { name := "MULTIPLY", type := (.object "com/example/thistle/thistle/language/Operator"), accessFlags := 16409, slot := 11, constantValue := 0 }, { name := "DIVIDE", type := (.object "com/example/thistle/thistle/language/Operator"), accessFlags := 16409, slot := 12, constantValue := 0 }, { name := "word", type := (.object "java/lang/String"), accessFlags := 18, slot := 3, constantValue := 0 }, { name := "fewestArguments", type := .int, accessFlags := 18, slot := 4, constantValue := 0 }, { name := "mostArguments", type := .int, accessFlags := 18, slot := 5, constantValue := 0 }, { name := "gives", type := (.object "com/example/thistle/thistle/language/Type"), accessFlags := 18, slot := 6, constantValue := 0 }, { name := "takes", type := (.object "java/util/Set"), accessFlags := 18, slot := 7, constantValue := 0 }, { name := "$VALUES", type := (.array (.object "com/example/thistle/thistle/language/Operator")), accessFlags := 4122, slot := 13, constantValue := 0 }]
  methods := #[k6m0]
  instanceTypes := #[(.object "java/lang/String"), .int, .int, (.object "java/lang/String"), .int, .int, (.object "com/example/thistle/thistle/language/Type"), (.object "java/util/Set")]
  staticTypes := #[(.object "com/example/thistle/thistle/language/Operator"), (.object "com/example/thistle/thistle/language/Operator"), (.object "com/example/thistle/thistle/language/Operator"), (.object "com/example/thistle/thistle/language/Operator"), (.object "com/example/thistle/thistle/language/Operator"), (.object "com/example/thistle/thistle/language/Operator"), (.object "com/example/thistle/thistle/language/Operator"), (.object "com/example/thistle/thistle/language/Operator"), (.object "com/example/thistle/thistle/language/Operator"), (.object "com/example/thistle/thistle/language/Operator"), (.object "com/example/thistle/thistle/language/Operator"), (.object "com/example/thistle/thistle/language/Operator"), (.object "com/example/thistle/thistle/language/Operator"), (.array (.object "com/example/thistle/thistle/language/Operator"))]
  resolved := Array.replicate 254 none
  statics := some 0 }

def pool7 : Array CpInfo := pool [(1, u "java/lang/Cloneable"), (0, .class_ 1), (0, u "java/lang/Object"), (0, .class_ 3)] 3

/-- java/lang/Cloneable -/
def k7 : Class := { plain "java/lang/Cloneable" (some 0) with
  accessFlags := 1537
  interfaces := #[]
  cf := some (fileOf pool7 2 #[] #[] 1537 4 #[] #[])
  fields := #[]
  methods := #[]
  instanceTypes := #[]
  staticTypes := #[]
  resolved := Array.replicate 8 none
  statics := none }

/-- the primitive byte -/
def k8 : Class := { plain "byte" none with kind := .primitive 'B', accessFlags := 0x411 }
/-- [B -/
def k9 : Class := { plain "[B" (some 0) with kind := .array 8 .byte, interfaces := #[7, 4], accessFlags := 1041 }

/-- the primitive int -/
def k10 : Class := { plain "int" none with kind := .primitive 'I', accessFlags := 0x411 }
/-- [I -/
def k11 : Class := { plain "[I" (some 0) with kind := .array 10 .int, interfaces := #[7, 4], accessFlags := 1041 }

def heap : Heap := #[{ cls := 6, slots := #[.ref 1, .ref 2, .ref 3, .ref 4, .ref 5, .ref 6, .ref 7, .ref 8, .ref 9, .ref 10, .ref 11, .ref 12, .ref 13, .null], vm := .statics 6 },
  { cls := 6, slots := #[.null, .int 0, .int 0, .null, .int 0, .int 0, .null, .null], vm := .none },
  { cls := 6, slots := #[.null, .int 1, .int 0, .null, .int 0, .int 0, .null, .null], vm := .none },
  { cls := 6, slots := #[.null, .int 2, .int 0, .null, .int 0, .int 0, .null, .null], vm := .none },
  { cls := 6, slots := #[.null, .int 3, .int 0, .null, .int 0, .int 0, .null, .null], vm := .none },
  { cls := 6, slots := #[.null, .int 4, .int 0, .null, .int 0, .int 0, .null, .null], vm := .none },
  { cls := 6, slots := #[.null, .int 5, .int 0, .null, .int 0, .int 0, .null, .null], vm := .none },
  { cls := 6, slots := #[.null, .int 6, .int 0, .null, .int 0, .int 0, .null, .null], vm := .none },
  { cls := 6, slots := #[.null, .int 7, .int 0, .null, .int 0, .int 0, .null, .null], vm := .none },
  { cls := 6, slots := #[.null, .int 8, .int 0, .null, .int 0, .int 0, .null, .null], vm := .none },
  { cls := 6, slots := #[.null, .int 9, .int 0, .null, .int 0, .int 0, .null, .null], vm := .none },
  { cls := 6, slots := #[.null, .int 10, .int 0, .null, .int 0, .int 0, .null, .null], vm := .none },
  { cls := 6, slots := #[.null, .int 11, .int 0, .null, .int 0, .int 0, .null, .null], vm := .none },
  { cls := 6, slots := #[.null, .int 12, .int 0, .null, .int 0, .int 0, .null, .null], vm := .none }]
def classes : Array Class := #[k0, k1, k2, k3, k4, k5, k6, k7, k8, k9, k10, k11]
def interned : List (Array UInt16 × Addr) := []
def slotsUsed : Nat := 118
def theMethod : MethodId := ⟨1, 1⟩
def args0 : Array Value := #[.int 5]
def aboutOver (below : List Frame) : State where
  vm := { classes := classes, interned := interned.toArray }
  heap := heap
  slotsUsed := slotsUsed
  threads := #[{ frames := .invoking theMethod args0 :: below }]
def below0 : List Frame := [.native { method := ⟨0, 0⟩, args := #[] }]
def about1 : State := aboutOver below0
def p0 : Program := .bare "" "" ""
def e0 : Env := launch0.env 0 0 0
theorem w_frames : about1.frames = Frame.invoking theMethod args0 :: below0 := rfl
set_option maxRecDepth 65536 in
theorem w_args : argsFit about1.vm theMethod args0 = true := by decide +kernel
set_option maxRecDepth 65536 in
theorem w_heap : heapFits about1 = true := by decide +kernel
set_option maxRecDepth 65536 in
theorem w_runnable : about1.curStatus? = some .runnable := by decide +kernel
set_option maxRecDepth 65536 in
theorem w_alone : about1.alone = true := by decide +kernel
set_option maxRecDepth 65536 in
theorem w_named : about1.methodNamed? x = some theMethod := by decide +kernel
set_option maxRecDepth 65536 in
theorem w_hears : about1.hears theMethod below0 = true := by decide +kernel
set_option maxRecDepth 65536 in
theorem w_ripe : about1.ripe theMethod args0 below0 = true := by decide +kernel
theorem w_running : about1.status = .running := rfl
set_option maxRecDepth 65536 in
theorem w_room : about1.hasRoom e0.platform room_1 = true :=
  launch0.hasRoom_least _ room_1 (by decide +kernel) (by decide +kernel) (by decide +kernel) (by decide +kernel) (by decide +kernel) (by decide +kernel)
theorem allAtoms_all (ts : List Jvm.Cond) (a : Array Jvm.Value) (st : Jvm.State) : (allAtoms ts).before a st = ts.all (fun c => c.before a st) := by
  induction ts with
  | nil => rfl
  | cons c t ih =>
    show (Jvm.Cond.and c (allAtoms t)).before a st = _
    rw [Jvm.Cond.before_and, ih, List.all_cons]
def words1 : List Jvm.Cond := Jvm.Cond.code x code maxLocals ret :: tables_1
/-- a 'code' word, met by the world's own term for the bytes: nothing is compared byte by byte -/
theorem code_word {y : MethodName} {bytes : ByteArray} {mx : Nat} {rt : Option FieldType} {a : Array Value} {s : State} {m : MethodId} {meth : Method} {c : Code} (h1 : s.methodNamed? y = some m) (h2 : s.vm.method? m = some meth) (h3 : meth.code = some c) (h4 : c.code = bytes)
    (h5 : (c.maxLocals == mx && c.exceptionTable.isEmpty && decide (c.maxStack ≤ mostOperands) && decide (meth.sig.returnType = rt) && !meth.locks && decide (parseMethodDescriptor y.desc = some meth.sig)) = true) : (Jvm.Cond.code y bytes mx rt).before a s = true := by
  simp only [Bool.and_eq_true, beq_iff_eq, Bool.not_eq_true', decide_eq_true_eq] at h5
  obtain ⟨⟨⟨⟨⟨g1, g2⟩, g3⟩, g4⟩, g5⟩, g6⟩ := h5
  simp [Cond.before, Cond.holds, Cond.value, h1, h2, h3, h4, g1, g2, g3, g4, g5, g6]
def isCode : Jvm.Cond → Bool
  | .code _ _ _ _ => true
  | _ => false
theorem all_split {L : List Jvm.Cond} {P : Jvm.Cond → Bool} (h1 : L.all (fun c => isCode c || P c) = true) (h2 : ∀ c ∈ L.filter isCode, P c = true) : L.all P = true := by
  refine List.all_eq_true.mpr fun c hc => ?_
  have h := List.all_eq_true.mp h1 c hc
  rcases Bool.eq_false_or_eq_true (isCode c) with hi | hi
  · exact h2 c (List.mem_filter.mpr ⟨hc, hi⟩)
  · simpa [hi] using h
set_option maxRecDepth 65536 in
theorem w_c0 : (Jvm.Cond.code x code maxLocals ret).before args0 about1 = true := code_word (m := ⟨1, 1⟩) (meth := k1m1) (c := k1c1) (by decide +kernel) rfl rfl rfl (by decide +kernel)
set_option maxRecDepth 65536 in
theorem w_c1 : (Jvm.Cond.code ({ cls := "com/example/thistle/thistle/language/OperatorIsStrictPinLaw", name := "pick", desc := "(I)Lcom/example/thistle/thistle/language/Operator;" } : Jvm.MethodName) method_3_code (1 : Nat) (Option.some (Jvm.ClassFile.FieldType.object "com/example/thistle/thistle/language/Operator"))).before args0 about1 = true := code_word (m := ⟨1, 2⟩) (meth := k1m2) (c := k1c2) (by decide +kernel) rfl rfl rfl (by decide +kernel)
set_option maxRecDepth 65536 in
theorem w_c2 : (Jvm.Cond.code ({ cls := "com/example/thistle/thistle/language/Operator", name := "isStrict", desc := "()Z" } : Jvm.MethodName) prog_61_method_8_code (1 : Nat) (Option.some Jvm.ClassFile.FieldType.boolean)).before args0 about1 = true := code_word (m := ⟨6, 0⟩) (meth := k6m0) (c := k6c0) (by decide +kernel) rfl rfl rfl (by decide +kernel)
def codes1 : List Jvm.Cond := [Jvm.Cond.code x code maxLocals ret, Jvm.Cond.code ({ cls := "com/example/thistle/thistle/language/OperatorIsStrictPinLaw", name := "pick", desc := "(I)Lcom/example/thistle/thistle/language/Operator;" } : Jvm.MethodName) method_3_code (1 : Nat) (Option.some (Jvm.ClassFile.FieldType.object "com/example/thistle/thistle/language/Operator")), Jvm.Cond.code ({ cls := "com/example/thistle/thistle/language/Operator", name := "isStrict", desc := "()Z" } : Jvm.MethodName) prog_61_method_8_code (1 : Nat) (Option.some Jvm.ClassFile.FieldType.boolean)]
set_option maxRecDepth 65536 in
theorem codes_eq : words1.filter isCode = codes1 := rfl
theorem w_codes : ∀ c ∈ words1.filter isCode, c.before args0 about1 = true := by
  rw [codes_eq]
  intro c hc
  simp only [codes1, List.mem_cons, List.not_mem_nil, or_false] at hc
  rcases hc with rfl | rfl | rfl
  · exact w_c0
  · exact w_c1
  · exact w_c2
set_option maxRecDepth 65536 in
theorem w_t1 : (words1.take 24).all (fun c => isCode c || c.before args0 about1) = true := by decide +kernel
set_option maxRecDepth 65536 in
theorem w_t2 : (words1.drop 24).all (fun c => isCode c || c.before args0 about1) = true := by decide +kernel
theorem w_tables : (allAtoms (Jvm.Cond.code x code maxLocals ret :: tables_1)).before args0 about1 = true := by
  rw [allAtoms_all]
  show words1.all (fun c => c.before args0 about1) = true
  refine all_split ?_ w_codes
  rw [← List.take_append_drop 24 words1, List.all_append, w_t1, w_t2]
  rfl
set_option maxRecDepth 65536 in
theorem w_case : (Jvm.Cond.and given_1 narrow_1).before args0 about1 = true := by decide +kernel
theorem w_applies : (headSpec (Jvm.Cond.code x code maxLocals ret :: tables_1) room_1).applies x e0.platform about1 = true :=
  (Spec.applies_iff w_frames).mpr ⟨w_running, w_runnable, w_alone, w_named, w_hears, w_ripe, w_room, w_tables⟩
theorem atStart : AtStart classFile x code maxLocals ret World_1 tables_1 room_1 Calls_1 rest_1 Pre_1 launch0 p0 e0 about1 theMethod args0 below0 :=
  ⟨lists_1, trivial, launch0.admits_env _ _ _, launch0.least_env, fairChoices_fair.cas, fairChoices_fair.clock, w_frames, w_args, w_heap, w_applies, trivial, trivial, w_case⟩
end start1
theorem witness_1 : WitnessClaimed_1 := ⟨start1.p0, start1.e0, start1.about1, start1.theMethod, start1.args0, start1.below0, start1.atStart⟩
end Jvm.Pilot.@@N@@
