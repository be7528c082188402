import JvmDerived
import JvmDerived.Pilot.@@N@@Statement
import JvmDerived.Pilot.@@N@@Code
set_option linter.unusedVariables false
set_option linter.unusedSimpArgs false
namespace Jvm.RoadKit
open Sem ClassFile Op Lib Jvm.Stand Jvm.Free Jvm.LawKit
abbrev jv (x : Int64) : Slot := .val (.long x)
abbrev ux : Slot := .unset
abbrev sx_ : Slot := .second
section Own
variable {p : Program} {l : Launch} {e : Env} {R : Room} {s : State} {m : MethodId} {args : Array Value} {below : List Frame} {meth : Method} {c : Code} {T U U' : State} {locs : List Loc} {cells slots : Nat} {Z : State} {a0 : Array Value} {h : Heap} {Q : Option Value → Heap → List Loc → Prop} {C S : Nat}
/-- what is left to show at a point of a walk: from U the body comes to its end, and Q holds there -/
def Goes (p : Program) (e : Env) (s : State) (below : List Frame) (Q : Option Value → Heap → List Loc → Prop) (C S : Nat) (U : State) : Prop :=
  ∃ s₂ o, Steps p.tables e below U s₂ ∧ s₂.status = .running ∧ Ended s₂ below o ∧ ∃ v L, o = .returned v ∧ Q v s₂.heap L ∧ FrameEnd s o s₂ L C S
theorem Goes.go (st : ∀ t, Steps p.tables e below U' t → Steps p.tables e below U t) (k : Goes p e s below Q C S U') : Goes p e s below Q C S U := by
  obtain ⟨s₂, o, h1, h2⟩ := k
  exact ⟨s₂, o, st _ h1, h2⟩
theorem Goes.leave {v : Option Value} (X : Stand p l e R s m args below meth c T locs cells slots) (hlk : meth.locks = false) (hv : meth.sig.returnType = none → v = none) (hQ : Q v T.heap locs) (hc : cells ≤ C) (hs : slots ≤ S)
    (st : ∀ fs, (∀ (f : JFrame) (acts : List Action), f.method = m → f.locked = none → f.entered = [] → (doReturn e (T.setTop f) acts v).1 = T.setFrames fs) → Steps p.tables e below U (T.setFrames fs)) : Goes p e s below Q C S U := by
  obtain ⟨fs, hr, hrun, hended, hW, hsame⟩ := X.leave (v := v) hv hlk
  exact ⟨_, _, st fs hr, hrun, hended, _, _, rfl, hQ, ⟨_, rfl⟩, hW, hsame.mono hc hs⟩
theorem Goes.retB {pc : Nat} {Ls : Array Slot} {z : Int32} {rest : List Value} (X : Stand p l e R s m args below meth c T locs cells slots) (hx : p.tables.exec = Jvm.exec) (hlk : meth.locks = false) (hret : meth.sig.returnType = some .boolean) (hd : decode c.code pc = .ok (.ireturn, 1)) (hc : cells ≤ C) (hs : slots ≤ S) (hQ : Q (some (.int (nar .boolean z))) T.heap locs) : Goes p e s below Q C S (T.setTop (mkF m pc Ls (.int z :: rest))) :=
  Goes.leave X hlk (fun h => by rw [hret] at h; cases h) hQ hc hs fun fs hr => retN X hx (t := .boolean) hret (by simp) hd hr
theorem Goes.retC {pc : Nat} {Ls : Array Slot} {z : Int32} {rest : List Value} (X : Stand p l e R s m args below meth c T locs cells slots) (hx : p.tables.exec = Jvm.exec) (hlk : meth.locks = false) (hret : meth.sig.returnType = some .char) (hd : decode c.code pc = .ok (.ireturn, 1)) (hc : cells ≤ C) (hs : slots ≤ S) (hQ : Q (some (.int (nar .char z))) T.heap locs) : Goes p e s below Q C S (T.setTop (mkF m pc Ls (.int z :: rest))) :=
  Goes.leave X hlk (fun h => by rw [hret] at h; cases h) hQ hc hs fun fs hr => retN X hx (t := .char) hret (by simp) hd hr
theorem Goes.retI {pc : Nat} {Ls : Array Slot} {z : Int32} {rest : List Value} (X : Stand p l e R s m args below meth c T locs cells slots) (hx : p.tables.exec = Jvm.exec) (hlk : meth.locks = false) (hret : meth.sig.returnType = some .int) (hd : decode c.code pc = .ok (.ireturn, 1)) (hc : cells ≤ C) (hs : slots ≤ S) (hQ : Q (some (.int z)) T.heap locs) : Goes p e s below Q C S (T.setTop (mkF m pc Ls (.int z :: rest))) :=
  Goes.leave X hlk (fun h => by rw [hret] at h; cases h) hQ hc hs fun fs hr => retOut X hx hret rfl (Or.inl ⟨rfl, Or.inl rfl, _, rfl⟩) hd hr
theorem Goes.retJ {pc : Nat} {Ls : Array Slot} {z : Int64} {rest : List Value} (X : Stand p l e R s m args below meth c T locs cells slots) (hx : p.tables.exec = Jvm.exec) (hlk : meth.locks = false) (hret : meth.sig.returnType = some .long) (hd : decode c.code pc = .ok (.lreturn, 1)) (hc : cells ≤ C) (hs : slots ≤ S) (hQ : Q (some (.long z)) T.heap locs) : Goes p e s below Q C S (T.setTop (mkF m pc Ls (.long z :: rest))) :=
  Goes.leave X hlk (fun h => by rw [hret] at h; cases h) hQ hc hs fun fs hr => retOut X hx hret rfl (Or.inr (Or.inl ⟨rfl, rfl, _, rfl⟩)) hd hr
theorem narrow_ref {t : FieldType} {v : Value} (hv : v.isRef = true) (ht : t.isReference = true) : narrow t v = v := by
  rcases ref_cases hv with rfl | ⟨a, rfl⟩ <;> cases t <;> first | rfl | cases ht
theorem Goes.retA {pc : Nat} {Ls : Array Slot} {v : Value} {t : FieldType} {rest : List Value} (X : Stand p l e R s m args below meth c T locs cells slots) (hx : p.tables.exec = Jvm.exec) (hlk : meth.locks = false) (hret : meth.sig.returnType = some t) (ht : t.isReference = true) (hv : v.isRef = true) (hd : decode c.code pc = .ok (.areturn, 1)) (hc : cells ≤ C) (hs : slots ≤ S) (hQ : Q (some v) T.heap locs) : Goes p e s below Q C S (T.setTop (mkF m pc Ls (v :: rest))) :=
  Goes.leave X hlk (fun h => by rw [hret] at h; cases h) hQ hc hs fun fs hr => retOut X hx hret (narrow_ref hv ht) (Or.inr (Or.inr (Or.inr (Or.inr ⟨rfl, ht, hv⟩)))) hd hr
theorem Goes.retV {pc : Nat} {Ls : Array Slot} (X : Stand p l e R s m args below meth c T locs cells slots) (hx : p.tables.exec = Jvm.exec) (hlk : meth.locks = false) (hret : meth.sig.returnType = none) (hd : decode c.code pc = .ok (.return_, 1)) (hc : cells ≤ C) (hs : slots ≤ S) (hQ : Q none T.heap locs) : Goes p e s below Q C S (T.setTop (mkF m pc Ls [])) :=
  Goes.leave X hlk (fun _ => rfl) hQ hc hs fun fs hr => X.returnOut hx hret hd hr
/-- a body's contract: with these arguments over this heap it returns, and Q holds -/
def Pays (l : Launch) (Z : State) (y : MethodName) (bytes : ByteArray) (maxL : Nat) (ret : Option FieldType) (ws : List Jvm.Cond) (rm : Room) (as' : Array Value) (h : Heap) (Q : Option Value → Heap → List Loc → Prop) : Prop :=
  MetFree l y (head1 (Jvm.Cond.code y bytes maxL ret :: ws) rm) (fun a U => a = as' ∧ Z.Warmed39 U.vm ∧ U.heap = h) (fun _ _ _ _ _ => True) (fun _ U o U' => ∃ v L, o = .returned v ∧ Q v U'.heap L ∧ FrameEnd U o U' L rm.cells rm.slots)
theorem Pays.of {y : MethodName} {bytes : ByteArray} {maxL : Nat} {ret : Option FieldType} {ws : List Jvm.Cond} {rm : Room} {as' : Array Value} (hpl : plainFor y = true)
    (body : ∀ (p : Program) (e : Env) (s : State) (m : MethodId) (below : List Frame) (meth : Method) (c : Code) (s₁ : State), p.tables.exec = Jvm.exec → c.code = bytes → c.maxLocals = maxL → s.vm.findClass y.cls = some m.cls → meth.name = y.name → meth.sig.returnType = ret → meth.locks = false → Z.Warmed39 s.vm → s₁.heap = h → Stand p l e rm s m as' below meth c s₁ [] 0 0 → Goes p e s below Q rm.cells rm.slots (s₁.setTop (entryFrame m as' maxL))) :
    Pays l Z y bytes maxL ret ws rm as' h Q := by
  refine MetFree.of_bodySF hpl hisR ?_
  intro p e s m args below meth c s₁ Bd hml hP hK
  obtain ⟨rfl, hZ, hh⟩ := hP
  obtain ⟨s₂, o, h1, h2, h3, h4⟩ := body p e s m below meth c s₁ Bd.exec Bd.bytes hml (findClass_of_methodNamed Bd.named) (name_of_methodNamed Bd.named Bd.method).1 Bd.returns Bd.notSynchronized hZ (by rw [← hh, Bd.state]; rfl) (Stand.of_body Bd)
  exact ⟨s₂, o, h1, h2, h3, h4⟩
theorem callStatic (X : Stand p l e R s m args below meth c T locs cells slots) (hx : p.tables.exec = Jvm.exec) (hZ : Z.Warmed39 s.vm) {own : String} {index : Nat} {y : MethodName} {bytes : ByteArray} {maxL W : Nat} {ret : Option FieldType} {rm : Room} {as' : Array Value}
    (hown : s.vm.findClass own = some m.cls) (w1 : (Jvm.Cond.methodLink own index y).before a0 Z = true) (w2 : (Jvm.Cond.static y).before a0 Z = true) (w3 : (Jvm.Cond.initialized y.cls).before a0 Z = true) (w4 : (Jvm.Cond.code y bytes maxL ret).before a0 Z = true) (hy : y.cls ≠ "java/lang/invoke/MethodHandle" ∧ y.cls ≠ "java/lang/invoke/VarHandle")
    (M : Pays l Z y bytes maxL ret [] rm as' h Q) (hf : rm.frames + 1 ≤ R.frames) (hl : W + (maxL + 11) + rm.locals ≤ R.locals) (hc : cells + rm.cells ≤ R.cells) (hs : slots + rm.slots ≤ R.slots) (eT : T.heap = h)
    {g : JFrame} (hg : g.method = m) (hsize : g.locals.size = c.maxLocals) {argsL rest : List Value} (hlen : ∀ sig, parseMethodDescriptor y.desc = some sig → argsL.length = sig.parameters.length) (hstack : g.stack = argsL.reverse ++ rest) (has : argsL.toArray = as') (hW : 2 * g.monitorRoom + (rest.map fun v => v.category).sum ≤ W) (hdg : decode c.code g.pc = .ok (.invokestatic index, 3)) :
    ∃ (v : Option Value) (T' : State) (L : List Loc), Stand p l e R s m args below meth c T' (locs ++ L) (cells + rm.cells) (slots + rm.slots) ∧ Q v T'.heap L ∧ ∀ t, Steps p.tables e below (T'.setTop { g with pc := g.pc + 3, stack := v.toList ++ rest }) t → Steps p.tables e below (T.setTop g) t := by
  obtain ⟨v, vm1, ⟨T', L', k', n'⟩, -, X', ⟨Lc, hQ, l1, y1, z1⟩, st⟩ := Jvm.LawKit.callS X hx (y := y) hown (mvT hZ w1) (mvT hZ w2) (mvT hZ w3) (mvT hZ w4) hy (backOf (W := W) M hZ w4 w3 hf hl) hg hsize (argsL := argsL) (rest := rest) hlen hstack hW hdg (fun _ _ => ⟨has, eT, hc, hs⟩)
  dsimp only [Pt.U, Pt.locs, Pt.cells, Pt.slots] at X' l1 y1 z1 st hQ
  subst l1 y1 z1
  exact ⟨v, T', Lc, X', hQ, st⟩
theorem callVirtual (X : Stand p l e R s m args below meth c T locs cells slots) (hx : p.tables.exec = Jvm.exec) (hZ : Z.Warmed39 s.vm) {own K : String} {index : Nat} {y z : MethodName} {bytes : ByteArray} {maxL W : Nat} {ret : Option FieldType} {rm : Room} {as' : Array Value}
    (hown : s.vm.findClass own = some m.cls) (w1 : (Jvm.Cond.methodLink own index y).before a0 Z = true) (w2 : (Jvm.Cond.declares y).before a0 Z = true) (nf : NotFace s y) (w3 : (Jvm.Cond.selects K y z).before a0 Z = true) (w5 : (Jvm.Cond.instanceMethod z).before a0 Z = true) (w6 : (Jvm.Cond.initialized z.cls).before a0 Z = true) (w4 : (Jvm.Cond.code z bytes maxL ret).before a0 Z = true) (hy : y.cls ≠ "java/lang/invoke/MethodHandle" ∧ y.cls ≠ "java/lang/invoke/VarHandle")
    (M : Pays l Z z bytes maxL ret [] rm as' h Q) (hf : rm.frames + 1 ≤ R.frames) (hl : W + (maxL + 11) + rm.locals ≤ R.locals) (hc : cells + rm.cells ≤ R.cells) (hs : slots + rm.slots ≤ R.slots) (eT : T.heap = h) {b : Addr} (E : Exa Z h b K)
    {g : JFrame} (hg : g.method = m) (hsize : g.locals.size = c.maxLocals) {argsL rest : List Value} (hlen : ∀ sig, parseMethodDescriptor y.desc = some sig → argsL.length = sig.parameters.length) (hstack : g.stack = argsL.reverse ++ .ref b :: rest) (has : (.ref b :: argsL).toArray = as') (hW : 2 * g.monitorRoom + (rest.map fun v => v.category).sum ≤ W) (hdg : decode c.code g.pc = .ok (.invokevirtual index, 3)) :
    ∃ (v : Option Value) (T' : State) (L : List Loc), Stand p l e R s m args below meth c T' (locs ++ L) (cells + rm.cells) (slots + rm.slots) ∧ Q v T'.heap L ∧ ∀ t, Steps p.tables e below (T'.setTop { g with pc := g.pc + 3, stack := v.toList ++ rest }) t → Steps p.tables e below (T.setTop g) t := by
  obtain ⟨cq, kq, qa, -, qc⟩ := isOf (T := T) hZ eT E
  obtain ⟨v, vm1, ⟨T', L', k', n'⟩, -, X', ⟨Lc, hQ, l1, y1, z1⟩, st⟩ := X.virtualBack hx (y := y) (z := z) hown (mvT hZ w1) (mvT hZ w2) nf (mvT hZ w3) (mvT hZ w5) hy (backOf (W := W) M hZ w4 w6 hf hl) qa qc hg hsize (Steps.refl _) (argsL := argsL) (rest := rest) hlen hstack hW hdg (fun _ _ => ⟨has, eT, hc, hs⟩)
  dsimp only [Pt.U, Pt.locs, Pt.cells, Pt.slots] at X' l1 y1 z1 st hQ
  subst l1 y1 z1
  exact ⟨v, T', Lc, X', hQ, fun t k => st.trans k⟩
theorem callInit (X : Stand p l e R s m args below meth c T locs cells slots) (hx : p.tables.exec = Jvm.exec) (hZ : Z.Warmed39 s.vm) {own : String} {index : Nat} {y : MethodName} {bytes : ByteArray} {maxL W : Nat} {rm : Room} {as' : Array Value}
    (hy1 : y.name = "<init>") (hown : s.vm.findClass own = some m.cls) (w1 : (Jvm.Cond.methodLink own index y).before a0 Z = true) (w5 : (Jvm.Cond.instanceMethod y).before a0 Z = true) (w6 : (Jvm.Cond.initialized y.cls).before a0 Z = true) (w4 : (Jvm.Cond.code y bytes maxL none).before a0 Z = true) (hy : y.cls ≠ "java/lang/invoke/MethodHandle" ∧ y.cls ≠ "java/lang/invoke/VarHandle")
    (M : Pays l Z y bytes maxL none [] rm as' h Q) (hf : rm.frames + 1 ≤ R.frames) (hl : W + (maxL + 11) + rm.locals ≤ R.locals) (hc : cells + rm.cells ≤ R.cells) (hs : slots + rm.slots ≤ R.slots) (eT : T.heap = h) {b : Addr}
    {g : JFrame} (hg : g.method = m) (hsize : g.locals.size = c.maxLocals) {argsL rest : List Value} (hlen : ∀ sig, parseMethodDescriptor y.desc = some sig → argsL.length = sig.parameters.length) (hstack : g.stack = argsL.reverse ++ .ref b :: rest) (has : (.ref b :: argsL).toArray = as') (hW : 2 * g.monitorRoom + (rest.map fun v => v.category).sum ≤ W) (hdg : decode c.code g.pc = .ok (.invokespecial index, 3)) :
    ∃ (v : Option Value) (T' : State) (L : List Loc), Stand p l e R s m args below meth c T' (locs ++ L) (cells + rm.cells) (slots + rm.slots) ∧ Q v T'.heap L ∧ ∀ t, Steps p.tables e below (T'.setTop { g with pc := g.pc + 3, stack := v.toList ++ rest }) t → Steps p.tables e below (T.setTop g) t := by
  obtain ⟨v, vm1, ⟨T', L', k', n'⟩, -, X', ⟨Lc, hQ, l1, y1, z1⟩, st⟩ := X.specialBack hx (y := y) hy1 hown (mvT hZ w1) (mvT hZ w5) (mvT hZ w4) hy (backOf (W := W) M hZ w4 w6 hf hl) hg hsize (Steps.refl _) (a := b) (argsL := argsL) (rest := rest) hlen hstack hW hdg (fun _ _ => ⟨has, eT, hc, hs⟩)
  dsimp only [Pt.U, Pt.locs, Pt.cells, Pt.slots] at X' l1 y1 z1 st hQ
  subst l1 y1 z1
  exact ⟨v, T', Lc, X', hQ, fun t k => st.trans k⟩
theorem callPrivate (X : Stand p l e R s m args below meth c T locs cells slots) (hx : p.tables.exec = Jvm.exec) (hZ : Z.Warmed39 s.vm) {own K : String} {index kk : Nat} {y : MethodName} {bytes : ByteArray} {maxL W : Nat} {ret : Option FieldType} {rm : Room} {as' : Array Value}
    (hown : s.vm.findClass own = some m.cls) (w1 : (Jvm.Cond.methodLink own index y).before a0 Z = true) (w5 : (Jvm.Cond.instanceMethod y).before a0 Z = true) (wp : (Jvm.Cond.privateMethod y).before a0 Z = true) (wi : (Jvm.Cond.instantiable y.cls kk).before a0 Z = true) (w6 : (Jvm.Cond.initialized y.cls).before a0 Z = true) (w4 : (Jvm.Cond.code y bytes maxL ret).before a0 Z = true) (hy : y.cls ≠ "java/lang/invoke/MethodHandle" ∧ y.cls ≠ "java/lang/invoke/VarHandle")
    (M : Pays l Z y bytes maxL ret [] rm as' h Q) (hf : rm.frames + 1 ≤ R.frames) (hl : W + (maxL + 11) + rm.locals ≤ R.locals) (hc : cells + rm.cells ≤ R.cells) (hs : slots + rm.slots ≤ R.slots) (eT : T.heap = h) {b : Addr} (E : Exa Z h b K)
    {g : JFrame} (hg : g.method = m) (hsize : g.locals.size = c.maxLocals) {argsL rest : List Value} (hlen : ∀ sig, parseMethodDescriptor y.desc = some sig → argsL.length = sig.parameters.length) (hstack : g.stack = argsL.reverse ++ .ref b :: rest) (has : (.ref b :: argsL).toArray = as') (hW : 2 * g.monitorRoom + (rest.map fun v => v.category).sum ≤ W) (hdg : decode c.code g.pc = .ok (.invokevirtual index, 3)) :
    ∃ (v : Option Value) (T' : State) (L : List Loc), Stand p l e R s m args below meth c T' (locs ++ L) (cells + rm.cells) (slots + rm.slots) ∧ Q v T'.heap L ∧ ∀ t, Steps p.tables e below (T'.setTop { g with pc := g.pc + 3, stack := v.toList ++ rest }) t → Steps p.tables e below (T.setTop g) t := by
  obtain ⟨cc, kc, i1, i2, -, i4, -⟩ := Cond.instantiable_spec (mvT (args := args) hZ wi)
  have i5 : kc.isInterface = false := by cases hq : kc.isInterface <;> simp_all
  have hpr := Cond.privateMethod_at (mvP (args := #[]) hZ wp)
  obtain ⟨cell, c1, c2⟩ := E.cell
  obtain ⟨v, vm1, ⟨T', L', k', n'⟩, -, X', ⟨Lc, hQ, l1, y1, z1⟩, st⟩ := X.privateBack hx (y := y) hown (mvT hZ w1) (mvT hZ w5) (selects_self_of_private i1 i2 i5 hpr (mvT hZ w5) hy) hpr (mvT hZ w4) hy (backOf (W := W) M hZ w4 w6 hf hl) hg hsize (Steps.refl _) (a := b) (cell := cell) (by rw [eT]; exact c1) c2 (argsL := argsL) (rest := rest) hlen hstack hW hdg (fun _ _ => ⟨has, eT, hc, hs⟩)
  dsimp only [Pt.U, Pt.locs, Pt.cells, Pt.slots] at X' l1 y1 z1 st hQ
  subst l1 y1 z1
  exact ⟨v, T', Lc, X', hQ, fun t k => st.trans k⟩
theorem callFace (X : Stand p l e R s m args below meth c T locs cells slots) (hx : p.tables.exec = Jvm.exec) (hZ : Z.Warmed39 s.vm) {own K : String} {index count : Nat} {y z : MethodName} {bytes : ByteArray} {maxL W : Nat} {ret : Option FieldType} {rm : Room} {as' : Array Value}
    (hown : s.vm.findClass own = some m.cls) (w1 : (Jvm.Cond.methodLink own index y).before a0 Z = true) (w2 : (Jvm.Cond.declares y).before a0 Z = true) (wf : (Jvm.Cond.interfaceMethod y.cls y.cls y.name y.desc).before args s = true) (w3 : (Jvm.Cond.selects K y z).before a0 Z = true) (w5 : (Jvm.Cond.instanceMethod z).before a0 Z = true) (wp : (Jvm.Cond.publicMethod z).before a0 Z = true) (wu : (Jvm.Cond.unhidden K y.name y.desc).before a0 Z = true) (wc : (Jvm.Cond.castable K y.cls).before a0 Z = true) (w6 : (Jvm.Cond.initialized z.cls).before a0 Z = true) (w4 : (Jvm.Cond.code z bytes maxL ret).before a0 Z = true) (hy : y.cls ≠ "java/lang/invoke/MethodHandle" ∧ y.cls ≠ "java/lang/invoke/VarHandle")
    (M : Pays l Z z bytes maxL ret [] rm as' h Q) (hf : rm.frames + 1 ≤ R.frames) (hl : W + (maxL + 11) + rm.locals ≤ R.locals) (hc : cells + rm.cells ≤ R.cells) (hs : slots + rm.slots ≤ R.slots) (eT : T.heap = h) {b : Addr} (E : Exa Z h b K)
    {g : JFrame} (hg : g.method = m) (hsize : g.locals.size = c.maxLocals) {argsL rest : List Value} (hlen : ∀ sig, parseMethodDescriptor y.desc = some sig → argsL.length = sig.parameters.length) (hstack : g.stack = argsL.reverse ++ .ref b :: rest) (has : (.ref b :: argsL).toArray = as') (hW : 2 * g.monitorRoom + (rest.map fun v => v.category).sum ≤ W) (hdg : decode c.code g.pc = .ok (.invokeinterface index count, 5)) :
    ∃ (v : Option Value) (T' : State) (L : List Loc), Stand p l e R s m args below meth c T' (locs ++ L) (cells + rm.cells) (slots + rm.slots) ∧ Q v T'.heap L ∧ ∀ t, Steps p.tables e below (T'.setTop { g with pc := g.pc + 5, stack := v.toList ++ rest }) t → Steps p.tables e below (T.setTop g) t := by
  obtain ⟨cq, kq, qa, qb, qc⟩ := isOf (T := T) hZ eT E
  obtain ⟨v, vm1, ⟨T', L', k', n'⟩, -, X', ⟨Lc, hQ, l1, y1, z1⟩, st⟩ := X.interfaceBack hx (xi := y) (y := z) hown (mvT hZ w1) (mvT hZ w2) wf (mvT hZ w3) (mvT hZ w5) (mvT hZ wp) (mvT hZ wu) (mvT hZ wc) hy (backOf (W := W) M hZ w4 w6 hf hl) qa qb qc hg hsize (Steps.refl _) (argsL := argsL) (rest := rest) hlen hstack hW hdg (fun _ _ => ⟨has, eT, hc, hs⟩)
  dsimp only [Pt.U, Pt.locs, Pt.cells, Pt.slots] at X' l1 y1 z1 st hQ
  subst l1 y1 z1
  exact ⟨v, T', Lc, X', hQ, fun t k => st.trans k⟩
theorem castV (X : Stand p l e R s m args below meth c T locs cells slots) (hx : p.tables.exec = Jvm.exec) (hZ : Z.Warmed39 s.vm) {own K : String} {index : Nat} (hown : s.vm.findClass own = some m.cls) (w : (Jvm.Cond.classLink own index K).before a0 Z = true) (eT : T.heap = h) {v : Value} (F : v = .null ∨ ∃ a, v = .ref a ∧ Ins Z h a K true)
    {g : JFrame} (hg : g.method = m) {rest : List Value} (hs : g.stack = v :: rest) (hd : decode c.code g.pc = .ok (.checkcast index, 3)) : ∃ T', Stand p l e R s m args below meth c T' locs cells slots ∧ T'.heap = h ∧ ∀ target, Steps p.tables e below (T'.setTop { g with pc := g.pc + 3 }) target → Steps p.tables e below (T.setTop g) target := by
  rcases F with rfl | ⟨a, rfl, I⟩
  · exact ⟨T, X, eT, fun t k => X.checkcastNull hx (g := g) hg hs hd t k⟩
  · exact castY X hx hZ hown w eT I hg hs hd
theorem moreRoom {cells' slots' : Nat} (X : Stand p l e R s m args below meth c T locs cells slots) (h1 : cells ≤ cells') (h2 : slots ≤ slots') : Stand p l e R s m args below meth c T locs cells' slots' :=
  { X with same := X.same.mono h1 h2 }
theorem wdOf {ts : List Jvm.Cond} (hw : ∀ d ∈ ts, d.before a0 Z = true) {d : Jvm.Cond} (k : Nat) (hk : ts[k]? = some d) : d.before a0 Z = true := hw _ (List.mem_of_getElem? hk)
end Own
end Jvm.RoadKit
namespace Jvm.RoadKit
open Sem ClassFile Op Lib Jvm.Stand Jvm.Free Jvm.LawKit
section OwnWords
variable {args : Array Value} {first s : State} {o : Option Outcome} {idx : List Nat} {t : Term}
theorem eqInt_v {k : Int32} (h : (Jvm.Cond.eq t (.int k)).value args first o s idx = some true) : t.eval args first o idx s = some (.int k) := by
  simp only [Jvm.Cond.value, Term.eval] at h
  cases ht : t.eval args first o idx s with
  | none => simp [ht] at h
  | some x => cases x <;> simp [ht] at h ⊢; exact h
theorem fits_of_ref {ty : FieldType} {v : Value} (hv : v.isRef = true) (ht : ty.isReference = true) : fits ty v = true := by
  rcases ref_cases hv with rfl | ⟨a, rfl⟩ <;> cases ty <;> first | rfl | cases ht
theorem Sta.keepN {Z : State} {h h' : Heap} {C n d : String} {v : Value} {ws : List Addr} (F : Sta Z h C n d v) (K : Keep h h' ws) (hn : ∀ a ∈ ws, ∃ c : Cell, h[a]? = some c ∧ ∀ q, c.vm ≠ .statics q) : Sta Z h' C n d v := by
  obtain ⟨cf, i, k, f, st, cell, h1, h2, h3, h4, h5, h6, h7⟩ := F
  refine ⟨cf, i, k, f, st, cell, h1, h2, h3, h4, K.2.1 _ _ h5 fun hm => ?_, h6, h7⟩
  obtain ⟨c, g1, g2⟩ := hn st hm
  cases h5.symm.trans g1
  cases hq : cell.vm <;> first | (rw [hq] at h6; exact Bool.noConfusion h6) | exact g2 _ hq
theorem NSr {Z : State} {a0 : Array Value} {O K : String} {n : Nat} (w : (Jvm.Cond.noSuperclass O).before a0 Z = true) (wi : (Jvm.Cond.instantiable K n).before a0 Z = true) (hn : O ≠ K) : NS Z O K := by
  obtain ⟨c, k, h1, h2, h3, -, -⟩ := Cond.noSuperclass_spec w
  obtain ⟨t, kt, g1, -⟩ := Cond.instantiable_spec wi
  refine ⟨c, t, h1, g1, fun fuel => ?_⟩
  cases fuel with
  | zero => rfl
  | succ f => simp [Vm.isSubclassAux, ids_ne h1 g1 hn, h2, h3]
theorem NSno {Z : State} {a0 : Array Value} {C S K : String} {n : Nat} (w : (Jvm.Cond.superclass C S).before a0 Z = true) (wi : (Jvm.Cond.instantiable K n).before a0 Z = true) (q : NS Z C K) (hn : C ≠ K) : ∃ c t, Z.vm.findClass C = some c ∧ Z.vm.findClass K = some t ∧ Z.vm.assignable c t = false := by
  obtain ⟨c, t, h0, g0, n3⟩ := q
  obtain ⟨_, k, _, -, h2, -, -, h5, -, -⟩ := Cond.superclass_spec h0 w
  obtain ⟨t', k', g1, g2, g5, g7, -⟩ := Cond.instantiable_spec wi
  cases g0.symm.trans g1
  have g8 : k'.isInterface = false := by cases hq : k'.isInterface <;> simp_all
  refine ⟨c, t, h0, g0, ?_⟩
  show Z.vm.assignableAux (255 + 1) c t = false
  simp [Vm.assignableAux, ids_ne h0 g0 hn, h2, g2, h5, g5, g8, Vm.isSubclass, n3]
theorem Ext.of_keep {h h' : Heap} (K : Keep h h' []) : Ext h h' := ⟨K.1, fun a c q => K.2.1 a c q nin0⟩
theorem Keep.of_ext {h h' : Heap} (E : Ext h h') (ws : List Addr) : Keep h h' ws := (Keep.refl h ws).ext E
theorem ofInt {x : Int32} (n : Int32) (h : x.toInt = n.toInt) : x = n := Int32.toInt_inj.mp h
end OwnWords
end Jvm.RoadKit
namespace Jvm.Pilot.@@N@@
open Jvm Jvm.ClassFile Sem Op Lib Jvm.Free Jvm.Stand Jvm.LawKit Jvm.RoadKit Bundle Jvm.Pilot.@@N@@.Jvm.D
theorem pd_0 : parseMethodDescriptor "(I)Lcom/example/thistle/thistle/language/Operator;" = some ⟨[.int], some (.object "com/example/thistle/thistle/language/Operator")⟩ := by decide +kernel
theorem pd_1 : parseMethodDescriptor "(I)Z" = some ⟨[.int], some .boolean⟩ := by decide +kernel
theorem own_hi {x : Int32} : ¬ (2147483647 : Int32) < x := by
  rw [Int32.lt_iff_toInt_lt]
  have := rng32 x
  show ¬ (2147483647 : Int) < _
  omega
theorem own_eq {x k : Int32} (h : x = k) : ¬ (x < k ∨ k < x) := by
  subst h; simp [Int32.lt_iff_toInt_lt]
theorem own_ne {x k : Int32} (h : ¬ x = k) : x < k ∨ k < x := by
  rw [← Int32.toInt_inj] at h; simp only [Int32.lt_iff_toInt_lt]; omega
theorem own_mod (p : Int32) : (p &&& 2147483647) % 13 = 0 ∨ (p &&& 2147483647) % 13 = 1 ∨ (p &&& 2147483647) % 13 = 2 ∨ (p &&& 2147483647) % 13 = 3 ∨ (p &&& 2147483647) % 13 = 4 ∨ (p &&& 2147483647) % 13 = 5 ∨ (p &&& 2147483647) % 13 = 6 ∨ (p &&& 2147483647) % 13 = 7 ∨ (p &&& 2147483647) % 13 = 8 ∨ (p &&& 2147483647) % 13 = 9 ∨ (p &&& 2147483647) % 13 = 10 ∨ (p &&& 2147483647) % 13 = 11 ∨ (p &&& 2147483647) % 13 = 12 := by
  have h1 := c_mask p 2147483647 31 (by decide) (by decide)
  obtain ⟨h2, -⟩ := c_irem (p &&& 2147483647) 13 13 (by decide)
  have h3 := h2 (by omega)
  have : ((p &&& 2147483647) % 13).toInt = 0 ∨ ((p &&& 2147483647) % 13).toInt = 1 ∨ ((p &&& 2147483647) % 13).toInt = 2 ∨ ((p &&& 2147483647) % 13).toInt = 3 ∨ ((p &&& 2147483647) % 13).toInt = 4 ∨ ((p &&& 2147483647) % 13).toInt = 5 ∨ ((p &&& 2147483647) % 13).toInt = 6 ∨ ((p &&& 2147483647) % 13).toInt = 7 ∨ ((p &&& 2147483647) % 13).toInt = 8 ∨ ((p &&& 2147483647) % 13).toInt = 9 ∨ ((p &&& 2147483647) % 13).toInt = 10 ∨ ((p &&& 2147483647) % 13).toInt = 11 ∨ ((p &&& 2147483647) % 13).toInt = 12 := by omega
  rcases this with h | h | h | h | h | h | h | h | h | h | h | h | h
  · exact Or.inl (ofInt 0 h)
  · exact Or.inr (Or.inl (ofInt 1 h))
  · exact Or.inr (Or.inr (Or.inl (ofInt 2 h)))
  · exact Or.inr (Or.inr (Or.inr (Or.inl (ofInt 3 h))))
  · exact Or.inr (Or.inr (Or.inr (Or.inr (Or.inl (ofInt 4 h)))))
  · exact Or.inr (Or.inr (Or.inr (Or.inr (Or.inr (Or.inl (ofInt 5 h))))))
  · exact Or.inr (Or.inr (Or.inr (Or.inr (Or.inr (Or.inr (Or.inl (ofInt 6 h)))))))
  · exact Or.inr (Or.inr (Or.inr (Or.inr (Or.inr (Or.inr (Or.inr (Or.inl (ofInt 7 h))))))))
  · exact Or.inr (Or.inr (Or.inr (Or.inr (Or.inr (Or.inr (Or.inr (Or.inr (Or.inl (ofInt 8 h)))))))))
  · exact Or.inr (Or.inr (Or.inr (Or.inr (Or.inr (Or.inr (Or.inr (Or.inr (Or.inr (Or.inl (ofInt 9 h))))))))))
  · exact Or.inr (Or.inr (Or.inr (Or.inr (Or.inr (Or.inr (Or.inr (Or.inr (Or.inr (Or.inr (Or.inl (ofInt 10 h)))))))))))
  · exact Or.inr (Or.inr (Or.inr (Or.inr (Or.inr (Or.inr (Or.inr (Or.inr (Or.inr (Or.inr (Or.inr (Or.inl (ofInt 11 h))))))))))))
  · exact Or.inr (Or.inr (Or.inr (Or.inr (Or.inr (Or.inr (Or.inr (Or.inr (Or.inr (Or.inr (Or.inr (Or.inr ((ofInt 12 h)))))))))))))
theorem d_rm_pick_0 : decode method_2_code 0 = .ok (.iload_n 0, 1) := by decide +kernel
theorem d_rm_pick_1 : decode method_2_code 1 = .ok (.ifCond .ne 7, 3) := by decide +kernel
theorem d_rm_pick_4 : decode method_2_code 4 = .ok (.getstatic 7, 3) := by decide +kernel
theorem d_rm_pick_7 : decode method_2_code 7 = .ok (.areturn, 1) := by decide +kernel
theorem d_rm_pick_8 : decode method_2_code 8 = .ok (.iload_n 0, 1) := by decide +kernel
theorem d_rm_pick_9 : decode method_2_code 9 = .ok (.iconst 1, 1) := by decide +kernel
theorem d_rm_pick_10 : decode method_2_code 10 = .ok (.if_icmp .ne 7, 3) := by decide +kernel
theorem d_rm_pick_13 : decode method_2_code 13 = .ok (.getstatic 13, 3) := by decide +kernel
theorem d_rm_pick_16 : decode method_2_code 16 = .ok (.areturn, 1) := by decide +kernel
theorem d_rm_pick_17 : decode method_2_code 17 = .ok (.iload_n 0, 1) := by decide +kernel
theorem d_rm_pick_18 : decode method_2_code 18 = .ok (.iconst 2, 1) := by decide +kernel
theorem d_rm_pick_19 : decode method_2_code 19 = .ok (.if_icmp .ne 7, 3) := by decide +kernel
theorem d_rm_pick_22 : decode method_2_code 22 = .ok (.getstatic 16, 3) := by decide +kernel
theorem d_rm_pick_25 : decode method_2_code 25 = .ok (.areturn, 1) := by decide +kernel
theorem d_rm_pick_26 : decode method_2_code 26 = .ok (.iload_n 0, 1) := by decide +kernel
theorem d_rm_pick_27 : decode method_2_code 27 = .ok (.iconst 3, 1) := by decide +kernel
theorem d_rm_pick_28 : decode method_2_code 28 = .ok (.if_icmp .ne 7, 3) := by decide +kernel
theorem d_rm_pick_31 : decode method_2_code 31 = .ok (.getstatic 19, 3) := by decide +kernel
theorem d_rm_pick_34 : decode method_2_code 34 = .ok (.areturn, 1) := by decide +kernel
theorem d_rm_pick_35 : decode method_2_code 35 = .ok (.iload_n 0, 1) := by decide +kernel
theorem d_rm_pick_36 : decode method_2_code 36 = .ok (.iconst 4, 1) := by decide +kernel
theorem d_rm_pick_37 : decode method_2_code 37 = .ok (.if_icmp .ne 7, 3) := by decide +kernel
theorem d_rm_pick_40 : decode method_2_code 40 = .ok (.getstatic 22, 3) := by decide +kernel
theorem d_rm_pick_43 : decode method_2_code 43 = .ok (.areturn, 1) := by decide +kernel
theorem d_rm_pick_44 : decode method_2_code 44 = .ok (.iload_n 0, 1) := by decide +kernel
theorem d_rm_pick_45 : decode method_2_code 45 = .ok (.iconst 5, 1) := by decide +kernel
theorem d_rm_pick_46 : decode method_2_code 46 = .ok (.if_icmp .ne 7, 3) := by decide +kernel
theorem d_rm_pick_49 : decode method_2_code 49 = .ok (.getstatic 25, 3) := by decide +kernel
theorem d_rm_pick_52 : decode method_2_code 52 = .ok (.areturn, 1) := by decide +kernel
theorem d_rm_pick_53 : decode method_2_code 53 = .ok (.iload_n 0, 1) := by decide +kernel
theorem d_rm_pick_54 : decode method_2_code 54 = .ok (.bipush 6, 2) := by decide +kernel
theorem d_rm_pick_56 : decode method_2_code 56 = .ok (.if_icmp .ne 7, 3) := by decide +kernel
theorem d_rm_pick_59 : decode method_2_code 59 = .ok (.getstatic 28, 3) := by decide +kernel
theorem d_rm_pick_62 : decode method_2_code 62 = .ok (.areturn, 1) := by decide +kernel
theorem d_rm_pick_63 : decode method_2_code 63 = .ok (.iload_n 0, 1) := by decide +kernel
theorem d_rm_pick_64 : decode method_2_code 64 = .ok (.bipush 7, 2) := by decide +kernel
theorem d_rm_pick_66 : decode method_2_code 66 = .ok (.if_icmp .ne 7, 3) := by decide +kernel
theorem d_rm_pick_69 : decode method_2_code 69 = .ok (.getstatic 31, 3) := by decide +kernel
theorem d_rm_pick_72 : decode method_2_code 72 = .ok (.areturn, 1) := by decide +kernel
theorem d_rm_pick_73 : decode method_2_code 73 = .ok (.iload_n 0, 1) := by decide +kernel
theorem d_rm_pick_74 : decode method_2_code 74 = .ok (.bipush 8, 2) := by decide +kernel
theorem d_rm_pick_76 : decode method_2_code 76 = .ok (.if_icmp .ne 7, 3) := by decide +kernel
theorem d_rm_pick_79 : decode method_2_code 79 = .ok (.getstatic 34, 3) := by decide +kernel
theorem d_rm_pick_82 : decode method_2_code 82 = .ok (.areturn, 1) := by decide +kernel
theorem d_rm_pick_83 : decode method_2_code 83 = .ok (.iload_n 0, 1) := by decide +kernel
theorem d_rm_pick_84 : decode method_2_code 84 = .ok (.bipush 9, 2) := by decide +kernel
theorem d_rm_pick_86 : decode method_2_code 86 = .ok (.if_icmp .ne 7, 3) := by decide +kernel
theorem d_rm_pick_89 : decode method_2_code 89 = .ok (.getstatic 37, 3) := by decide +kernel
theorem d_rm_pick_92 : decode method_2_code 92 = .ok (.areturn, 1) := by decide +kernel
theorem d_rm_pick_93 : decode method_2_code 93 = .ok (.iload_n 0, 1) := by decide +kernel
theorem d_rm_pick_94 : decode method_2_code 94 = .ok (.bipush 10, 2) := by decide +kernel
theorem d_rm_pick_96 : decode method_2_code 96 = .ok (.if_icmp .ne 7, 3) := by decide +kernel
theorem d_rm_pick_99 : decode method_2_code 99 = .ok (.getstatic 40, 3) := by decide +kernel
theorem d_rm_pick_102 : decode method_2_code 102 = .ok (.areturn, 1) := by decide +kernel
theorem d_rm_pick_103 : decode method_2_code 103 = .ok (.iload_n 0, 1) := by decide +kernel
theorem d_rm_pick_104 : decode method_2_code 104 = .ok (.bipush 11, 2) := by decide +kernel
theorem d_rm_pick_106 : decode method_2_code 106 = .ok (.if_icmp .ne 7, 3) := by decide +kernel
theorem d_rm_pick_109 : decode method_2_code 109 = .ok (.getstatic 43, 3) := by decide +kernel
theorem d_rm_pick_112 : decode method_2_code 112 = .ok (.areturn, 1) := by decide +kernel
theorem d_rm_pick_113 : decode method_2_code 113 = .ok (.getstatic 46, 3) := by decide +kernel
theorem d_rm_pick_116 : decode method_2_code 116 = .ok (.areturn, 1) := by decide +kernel
theorem ef_rm_pick (m : MethodId) (x0 : Int32)  : entryFrame m #[(.int x0)] 1 = mkF m 0 #[.val (.int x0)] [] := by first | rfl | (simp [entryFrame, mkF, argsToLocals, Value.category]; done)
set_option maxRecDepth 65536 in
set_option maxHeartbeats 40000000 in
theorem rm_pick (l : Launch) (Z : State) (a0 : Array Value) (hw : ∀ d ∈ tables_1, d.before a0 Z = true) (ws : List Jvm.Cond) (ka : Int32) (r r_AND r_OR r_NOT r_EQUAL r_IN r_GREATER_THAN r_LESS_THAN r_GREATER_THAN_OR_EQUAL r_LESS_THAN_OR_EQUAL r_ADD r_SUBTRACT r_MULTIPLY r_DIVIDE : Addr) (h0 : Heap) (n0 : Nat) (Z0 : n0 ≤ h0.size) (S_AND : Sta Z h0 "com/example/thistle/thistle/language/Operator" "AND" "Lcom/example/thistle/thistle/language/Operator;" (.ref r_AND)) (S_OR : Sta Z h0 "com/example/thistle/thistle/language/Operator" "OR" "Lcom/example/thistle/thistle/language/Operator;" (.ref r_OR)) (S_NOT : Sta Z h0 "com/example/thistle/thistle/language/Operator" "NOT" "Lcom/example/thistle/thistle/language/Operator;" (.ref r_NOT)) (S_EQUAL : Sta Z h0 "com/example/thistle/thistle/language/Operator" "EQUAL" "Lcom/example/thistle/thistle/language/Operator;" (.ref r_EQUAL)) (S_IN : Sta Z h0 "com/example/thistle/thistle/language/Operator" "IN" "Lcom/example/thistle/thistle/language/Operator;" (.ref r_IN)) (S_GREATER_THAN : Sta Z h0 "com/example/thistle/thistle/language/Operator" "GREATER_THAN" "Lcom/example/thistle/thistle/language/Operator;" (.ref r_GREATER_THAN)) (S_LESS_THAN : Sta Z h0 "com/example/thistle/thistle/language/Operator" "LESS_THAN" "Lcom/example/thistle/thistle/language/Operator;" (.ref r_LESS_THAN)) (S_GREATER_THAN_OR_EQUAL : Sta Z h0 "com/example/thistle/thistle/language/Operator" "GREATER_THAN_OR_EQUAL" "Lcom/example/thistle/thistle/language/Operator;" (.ref r_GREATER_THAN_OR_EQUAL)) (S_LESS_THAN_OR_EQUAL : Sta Z h0 "com/example/thistle/thistle/language/Operator" "LESS_THAN_OR_EQUAL" "Lcom/example/thistle/thistle/language/Operator;" (.ref r_LESS_THAN_OR_EQUAL)) (S_ADD : Sta Z h0 "com/example/thistle/thistle/language/Operator" "ADD" "Lcom/example/thistle/thistle/language/Operator;" (.ref r_ADD)) (S_SUBTRACT : Sta Z h0 "com/example/thistle/thistle/language/Operator" "SUBTRACT" "Lcom/example/thistle/thistle/language/Operator;" (.ref r_SUBTRACT)) (S_MULTIPLY : Sta Z h0 "com/example/thistle/thistle/language/Operator" "MULTIPLY" "Lcom/example/thistle/thistle/language/Operator;" (.ref r_MULTIPLY)) (S_DIVIDE : Sta Z h0 "com/example/thistle/thistle/language/Operator" "DIVIDE" "Lcom/example/thistle/thistle/language/Operator;" (.ref r_DIVIDE)) (hr : r = if ka = 0 then r_AND else if ka = 1 then r_OR else if ka = 2 then r_NOT else if ka = 3 then r_EQUAL else if ka = 4 then r_IN else if ka = 5 then r_GREATER_THAN else if ka = 6 then r_LESS_THAN else if ka = 7 then r_GREATER_THAN_OR_EQUAL else if ka = 8 then r_LESS_THAN_OR_EQUAL else if ka = 9 then r_ADD else if ka = 10 then r_SUBTRACT else if ka = 11 then r_MULTIPLY else r_DIVIDE) :
    Pays l Z (⟨"com/example/thistle/thistle/language/OperatorAdmitsPinLaw", "pick", "(I)Lcom/example/thistle/thistle/language/Operator;"⟩ : MethodName) method_2_code 1 (some (.object "com/example/thistle/thistle/language/Operator")) ws ({ frames := 0, cells := 0, slots := 0, locals := 0 } : Room) #[(.int ka)] h0 (fun v h L => v = some (.ref r) ∧ Fr n0 L ∧ h = h0) := by
  refine Pays.of (plainFor_of_name (by first | (simp [plainName, overriddenIn]; done) | decide +kernel)) ?_
  intro p e s m below meth c s₁ hx hby hml hown hnm hret hlk hZ e0 X0
  have N0 := Fr.nil n0
  have K0 : Keep h0 h0 [] := Keep.refl _ _
  refine Goes.go (U' := (s₁.setTop (mkF m 0 #[.val (.int ka)] []))) (fun t kt => castTop (ef_rm_pick m ka) kt) ?_
  refine Goes.go (U' := (s₁.setTop (mkF m 1 #[.val (.int ka)] [(.int ka)]))) (fun t kt => ?_) ?_
  · show Steps p.tables e below (s₁.setTop (mkF m 0 #[.val (.int ka)] [])) t
    refine XS.iloadN X0.here hx rfl (hb hby d_rm_pick_0) rfl ?_
    exact kt
  by_cases c1 : ka = 0
  · -- ka = 0
    refine Goes.go (U' := (s₁.setTop (mkF m 4 #[.val (.int ka)] []))) (fun t kt => ?_) ?_
    · show Steps p.tables e below (s₁.setTop (mkF m 1 #[.val (.int ka)] [(.int ka)])) t
      refine XS.ifNo X0.here hx rfl (hb hby d_rm_pick_1) rfl (XT.i0_ne_f c1) ?_
      exact kt
    obtain ⟨T2, X2, e2, st2⟩ := getS X0 hx hZ hown (host := "") (wdOf hw 5 rfl) Via.refl e0 S_AND (g := (mkF m 4 #[.val (.int ka)] [])) rfl (hb hby d_rm_pick_4)
    refine Goes.go (U' := (T2.setTop (mkF m 7 #[.val (.int ka)] [(.ref r_AND)]))) st2 ?_
    refine Goes.retA X2 hx hlk hret rfl rfl (hb hby d_rm_pick_7) (by decide) (by decide) ?_
    try rw [e2]
    exact ⟨by rw [hr]; simp [c1], N0, rfl⟩
  · -- not ka = 0
    refine Goes.go (U' := (s₁.setTop (mkF m 10 #[.val (.int ka)] [(.int (1 : Int32)), (.int ka)]))) (fun t kt => ?_) ?_
    · show Steps p.tables e below (s₁.setTop (mkF m 1 #[.val (.int ka)] [(.int ka)])) t
      refine XS.ifYes X0.here hx rfl (pc0 := 1) (pc' := 8) rfl (hb hby d_rm_pick_1) rfl (XT.i0_ne_t c1) (by decide) (by decide) ?_
      show Steps p.tables e below (s₁.setTop (mkF m 8 #[.val (.int ka)] [])) t
      refine XS.iloadN X0.here hx rfl (hb hby d_rm_pick_8) rfl ?_
      show Steps p.tables e below (s₁.setTop (mkF m 9 #[.val (.int ka)] [(.int ka)])) t
      refine XS.iconst X0.here hx rfl (hb hby d_rm_pick_9) ?_
      exact kt
    by_cases c3 : ka = (1 : Int32)
    · -- ka = (1 : Int32)
      refine Goes.go (U' := (s₁.setTop (mkF m 13 #[.val (.int ka)] []))) (fun t kt => ?_) ?_
      · show Steps p.tables e below (s₁.setTop (mkF m 10 #[.val (.int ka)] [(.int (1 : Int32)), (.int ka)])) t
        refine XS.icmpNo X0.here hx rfl (hb hby d_rm_pick_10) rfl (XT.ii_ne_f c3) ?_
        exact kt
      obtain ⟨T4, X4, e4, st4⟩ := getS X0 hx hZ hown (host := "") (wdOf hw 17 rfl) Via.refl e0 S_OR (g := (mkF m 13 #[.val (.int ka)] [])) rfl (hb hby d_rm_pick_13)
      refine Goes.go (U' := (T4.setTop (mkF m 16 #[.val (.int ka)] [(.ref r_OR)]))) st4 ?_
      refine Goes.retA X4 hx hlk hret rfl rfl (hb hby d_rm_pick_16) (by decide) (by decide) ?_
      try rw [e4]
      exact ⟨by rw [hr]; simp [c1, c3], N0, rfl⟩
    · -- not ka = (1 : Int32)
      refine Goes.go (U' := (s₁.setTop (mkF m 19 #[.val (.int ka)] [(.int (2 : Int32)), (.int ka)]))) (fun t kt => ?_) ?_
      · show Steps p.tables e below (s₁.setTop (mkF m 10 #[.val (.int ka)] [(.int (1 : Int32)), (.int ka)])) t
        refine XS.icmpYes X0.here hx rfl (pc0 := 10) (pc' := 17) rfl (hb hby d_rm_pick_10) rfl (XT.ii_ne_t c3) (by decide) (by decide) ?_
        show Steps p.tables e below (s₁.setTop (mkF m 17 #[.val (.int ka)] [])) t
        refine XS.iloadN X0.here hx rfl (hb hby d_rm_pick_17) rfl ?_
        show Steps p.tables e below (s₁.setTop (mkF m 18 #[.val (.int ka)] [(.int ka)])) t
        refine XS.iconst X0.here hx rfl (hb hby d_rm_pick_18) ?_
        exact kt
      by_cases c5 : ka = (2 : Int32)
      · -- ka = (2 : Int32)
        refine Goes.go (U' := (s₁.setTop (mkF m 22 #[.val (.int ka)] []))) (fun t kt => ?_) ?_
        · show Steps p.tables e below (s₁.setTop (mkF m 19 #[.val (.int ka)] [(.int (2 : Int32)), (.int ka)])) t
          refine XS.icmpNo X0.here hx rfl (hb hby d_rm_pick_19) rfl (XT.ii_ne_f c5) ?_
          exact kt
        obtain ⟨T6, X6, e6, st6⟩ := getS X0 hx hZ hown (host := "") (wdOf hw 35 rfl) Via.refl e0 S_NOT (g := (mkF m 22 #[.val (.int ka)] [])) rfl (hb hby d_rm_pick_22)
        refine Goes.go (U' := (T6.setTop (mkF m 25 #[.val (.int ka)] [(.ref r_NOT)]))) st6 ?_
        refine Goes.retA X6 hx hlk hret rfl rfl (hb hby d_rm_pick_25) (by decide) (by decide) ?_
        try rw [e6]
        exact ⟨by rw [hr]; simp [c1, c3, c5], N0, rfl⟩
      · -- not ka = (2 : Int32)
        refine Goes.go (U' := (s₁.setTop (mkF m 28 #[.val (.int ka)] [(.int (3 : Int32)), (.int ka)]))) (fun t kt => ?_) ?_
        · show Steps p.tables e below (s₁.setTop (mkF m 19 #[.val (.int ka)] [(.int (2 : Int32)), (.int ka)])) t
          refine XS.icmpYes X0.here hx rfl (pc0 := 19) (pc' := 26) rfl (hb hby d_rm_pick_19) rfl (XT.ii_ne_t c5) (by decide) (by decide) ?_
          show Steps p.tables e below (s₁.setTop (mkF m 26 #[.val (.int ka)] [])) t
          refine XS.iloadN X0.here hx rfl (hb hby d_rm_pick_26) rfl ?_
          show Steps p.tables e below (s₁.setTop (mkF m 27 #[.val (.int ka)] [(.int ka)])) t
          refine XS.iconst X0.here hx rfl (hb hby d_rm_pick_27) ?_
          exact kt
        by_cases c7 : ka = (3 : Int32)
        · -- ka = (3 : Int32)
          refine Goes.go (U' := (s₁.setTop (mkF m 31 #[.val (.int ka)] []))) (fun t kt => ?_) ?_
          · show Steps p.tables e below (s₁.setTop (mkF m 28 #[.val (.int ka)] [(.int (3 : Int32)), (.int ka)])) t
            refine XS.icmpNo X0.here hx rfl (hb hby d_rm_pick_28) rfl (XT.ii_ne_f c7) ?_
            exact kt
          obtain ⟨T8, X8, e8, st8⟩ := getS X0 hx hZ hown (host := "") (wdOf hw 27 rfl) Via.refl e0 S_EQUAL (g := (mkF m 31 #[.val (.int ka)] [])) rfl (hb hby d_rm_pick_31)
          refine Goes.go (U' := (T8.setTop (mkF m 34 #[.val (.int ka)] [(.ref r_EQUAL)]))) st8 ?_
          refine Goes.retA X8 hx hlk hret rfl rfl (hb hby d_rm_pick_34) (by decide) (by decide) ?_
          try rw [e8]
          exact ⟨by rw [hr]; simp [c1, c3, c5, c7], N0, rfl⟩
        · -- not ka = (3 : Int32)
          refine Goes.go (U' := (s₁.setTop (mkF m 37 #[.val (.int ka)] [(.int (4 : Int32)), (.int ka)]))) (fun t kt => ?_) ?_
          · show Steps p.tables e below (s₁.setTop (mkF m 28 #[.val (.int ka)] [(.int (3 : Int32)), (.int ka)])) t
            refine XS.icmpYes X0.here hx rfl (pc0 := 28) (pc' := 35) rfl (hb hby d_rm_pick_28) rfl (XT.ii_ne_t c7) (by decide) (by decide) ?_
            show Steps p.tables e below (s₁.setTop (mkF m 35 #[.val (.int ka)] [])) t
            refine XS.iloadN X0.here hx rfl (hb hby d_rm_pick_35) rfl ?_
            show Steps p.tables e below (s₁.setTop (mkF m 36 #[.val (.int ka)] [(.int ka)])) t
            refine XS.iconst X0.here hx rfl (hb hby d_rm_pick_36) ?_
            exact kt
          by_cases c9 : ka = (4 : Int32)
          · -- ka = (4 : Int32)
            refine Goes.go (U' := (s₁.setTop (mkF m 40 #[.val (.int ka)] []))) (fun t kt => ?_) ?_
            · show Steps p.tables e below (s₁.setTop (mkF m 37 #[.val (.int ka)] [(.int (4 : Int32)), (.int ka)])) t
              refine XS.icmpNo X0.here hx rfl (hb hby d_rm_pick_37) rfl (XT.ii_ne_f c9) ?_
              exact kt
            obtain ⟨T10, X10, e10, st10⟩ := getS X0 hx hZ hown (host := "") (wdOf hw 31 rfl) Via.refl e0 S_IN (g := (mkF m 40 #[.val (.int ka)] [])) rfl (hb hby d_rm_pick_40)
            refine Goes.go (U' := (T10.setTop (mkF m 43 #[.val (.int ka)] [(.ref r_IN)]))) st10 ?_
            refine Goes.retA X10 hx hlk hret rfl rfl (hb hby d_rm_pick_43) (by decide) (by decide) ?_
            try rw [e10]
            exact ⟨by rw [hr]; simp [c1, c3, c5, c7, c9], N0, rfl⟩
          · -- not ka = (4 : Int32)
            refine Goes.go (U' := (s₁.setTop (mkF m 46 #[.val (.int ka)] [(.int (5 : Int32)), (.int ka)]))) (fun t kt => ?_) ?_
            · show Steps p.tables e below (s₁.setTop (mkF m 37 #[.val (.int ka)] [(.int (4 : Int32)), (.int ka)])) t
              refine XS.icmpYes X0.here hx rfl (pc0 := 37) (pc' := 44) rfl (hb hby d_rm_pick_37) rfl (XT.ii_ne_t c9) (by decide) (by decide) ?_
              show Steps p.tables e below (s₁.setTop (mkF m 44 #[.val (.int ka)] [])) t
              refine XS.iloadN X0.here hx rfl (hb hby d_rm_pick_44) rfl ?_
              show Steps p.tables e below (s₁.setTop (mkF m 45 #[.val (.int ka)] [(.int ka)])) t
              refine XS.iconst X0.here hx rfl (hb hby d_rm_pick_45) ?_
              exact kt
            by_cases c11 : ka = (5 : Int32)
            · -- ka = (5 : Int32)
              refine Goes.go (U' := (s₁.setTop (mkF m 49 #[.val (.int ka)] []))) (fun t kt => ?_) ?_
              · show Steps p.tables e below (s₁.setTop (mkF m 46 #[.val (.int ka)] [(.int (5 : Int32)), (.int ka)])) t
                refine XS.icmpNo X0.here hx rfl (hb hby d_rm_pick_46) rfl (XT.ii_ne_f c11) ?_
                exact kt
              obtain ⟨T12, X12, e12, st12⟩ := getS X0 hx hZ hown (host := "") (wdOf hw 33 rfl) Via.refl e0 S_GREATER_THAN (g := (mkF m 49 #[.val (.int ka)] [])) rfl (hb hby d_rm_pick_49)
              refine Goes.go (U' := (T12.setTop (mkF m 52 #[.val (.int ka)] [(.ref r_GREATER_THAN)]))) st12 ?_
              refine Goes.retA X12 hx hlk hret rfl rfl (hb hby d_rm_pick_52) (by decide) (by decide) ?_
              try rw [e12]
              exact ⟨by rw [hr]; simp [c1, c3, c5, c7, c9, c11], N0, rfl⟩
            · -- not ka = (5 : Int32)
              refine Goes.go (U' := (s₁.setTop (mkF m 56 #[.val (.int ka)] [(.int (6 : Int32)), (.int ka)]))) (fun t kt => ?_) ?_
              · show Steps p.tables e below (s₁.setTop (mkF m 46 #[.val (.int ka)] [(.int (5 : Int32)), (.int ka)])) t
                refine XS.icmpYes X0.here hx rfl (pc0 := 46) (pc' := 53) rfl (hb hby d_rm_pick_46) rfl (XT.ii_ne_t c11) (by decide) (by decide) ?_
                show Steps p.tables e below (s₁.setTop (mkF m 53 #[.val (.int ka)] [])) t
                refine XS.iloadN X0.here hx rfl (hb hby d_rm_pick_53) rfl ?_
                show Steps p.tables e below (s₁.setTop (mkF m 54 #[.val (.int ka)] [(.int ka)])) t
                refine XS.bipush X0.here hx rfl (hb hby d_rm_pick_54) ?_
                exact kt
              by_cases c13 : ka = (6 : Int32)
              · -- ka = (6 : Int32)
                refine Goes.go (U' := (s₁.setTop (mkF m 59 #[.val (.int ka)] []))) (fun t kt => ?_) ?_
                · show Steps p.tables e below (s₁.setTop (mkF m 56 #[.val (.int ka)] [(.int (6 : Int32)), (.int ka)])) t
                  refine XS.icmpNo X0.here hx rfl (hb hby d_rm_pick_56) rfl (XT.ii_ne_f c13) ?_
                  exact kt
                obtain ⟨T14, X14, e14, st14⟩ := getS X0 hx hZ hown (host := "") (wdOf hw 37 rfl) Via.refl e0 S_LESS_THAN (g := (mkF m 59 #[.val (.int ka)] [])) rfl (hb hby d_rm_pick_59)
                refine Goes.go (U' := (T14.setTop (mkF m 62 #[.val (.int ka)] [(.ref r_LESS_THAN)]))) st14 ?_
                refine Goes.retA X14 hx hlk hret rfl rfl (hb hby d_rm_pick_62) (by decide) (by decide) ?_
                try rw [e14]
                exact ⟨by rw [hr]; simp [c1, c3, c5, c7, c9, c11, c13], N0, rfl⟩
              · -- not ka = (6 : Int32)
                refine Goes.go (U' := (s₁.setTop (mkF m 66 #[.val (.int ka)] [(.int (7 : Int32)), (.int ka)]))) (fun t kt => ?_) ?_
                · show Steps p.tables e below (s₁.setTop (mkF m 56 #[.val (.int ka)] [(.int (6 : Int32)), (.int ka)])) t
                  refine XS.icmpYes X0.here hx rfl (pc0 := 56) (pc' := 63) rfl (hb hby d_rm_pick_56) rfl (XT.ii_ne_t c13) (by decide) (by decide) ?_
                  show Steps p.tables e below (s₁.setTop (mkF m 63 #[.val (.int ka)] [])) t
                  refine XS.iloadN X0.here hx rfl (hb hby d_rm_pick_63) rfl ?_
                  show Steps p.tables e below (s₁.setTop (mkF m 64 #[.val (.int ka)] [(.int ka)])) t
                  refine XS.bipush X0.here hx rfl (hb hby d_rm_pick_64) ?_
                  exact kt
                by_cases c15 : ka = (7 : Int32)
                · -- ka = (7 : Int32)
                  refine Goes.go (U' := (s₁.setTop (mkF m 69 #[.val (.int ka)] []))) (fun t kt => ?_) ?_
                  · show Steps p.tables e below (s₁.setTop (mkF m 66 #[.val (.int ka)] [(.int (7 : Int32)), (.int ka)])) t
                    refine XS.icmpNo X0.here hx rfl (hb hby d_rm_pick_66) rfl (XT.ii_ne_f c15) ?_
                    exact kt
                  obtain ⟨T16, X16, e16, st16⟩ := getS X0 hx hZ hown (host := "") (wdOf hw 21 rfl) Via.refl e0 S_GREATER_THAN_OR_EQUAL (g := (mkF m 69 #[.val (.int ka)] [])) rfl (hb hby d_rm_pick_69)
                  refine Goes.go (U' := (T16.setTop (mkF m 72 #[.val (.int ka)] [(.ref r_GREATER_THAN_OR_EQUAL)]))) st16 ?_
                  refine Goes.retA X16 hx hlk hret rfl rfl (hb hby d_rm_pick_72) (by decide) (by decide) ?_
                  try rw [e16]
                  exact ⟨by rw [hr]; simp [c1, c3, c5, c7, c9, c11, c13, c15], N0, rfl⟩
                · -- not ka = (7 : Int32)
                  refine Goes.go (U' := (s₁.setTop (mkF m 76 #[.val (.int ka)] [(.int (8 : Int32)), (.int ka)]))) (fun t kt => ?_) ?_
                  · show Steps p.tables e below (s₁.setTop (mkF m 66 #[.val (.int ka)] [(.int (7 : Int32)), (.int ka)])) t
                    refine XS.icmpYes X0.here hx rfl (pc0 := 66) (pc' := 73) rfl (hb hby d_rm_pick_66) rfl (XT.ii_ne_t c15) (by decide) (by decide) ?_
                    show Steps p.tables e below (s₁.setTop (mkF m 73 #[.val (.int ka)] [])) t
                    refine XS.iloadN X0.here hx rfl (hb hby d_rm_pick_73) rfl ?_
                    show Steps p.tables e below (s₁.setTop (mkF m 74 #[.val (.int ka)] [(.int ka)])) t
                    refine XS.bipush X0.here hx rfl (hb hby d_rm_pick_74) ?_
                    exact kt
                  by_cases c17 : ka = (8 : Int32)
                  · -- ka = (8 : Int32)
                    refine Goes.go (U' := (s₁.setTop (mkF m 79 #[.val (.int ka)] []))) (fun t kt => ?_) ?_
                    · show Steps p.tables e below (s₁.setTop (mkF m 76 #[.val (.int ka)] [(.int (8 : Int32)), (.int ka)])) t
                      refine XS.icmpNo X0.here hx rfl (hb hby d_rm_pick_76) rfl (XT.ii_ne_f c17) ?_
                      exact kt
                    obtain ⟨T18, X18, e18, st18⟩ := getS X0 hx hZ hown (host := "") (wdOf hw 19 rfl) Via.refl e0 S_LESS_THAN_OR_EQUAL (g := (mkF m 79 #[.val (.int ka)] [])) rfl (hb hby d_rm_pick_79)
                    refine Goes.go (U' := (T18.setTop (mkF m 82 #[.val (.int ka)] [(.ref r_LESS_THAN_OR_EQUAL)]))) st18 ?_
                    refine Goes.retA X18 hx hlk hret rfl rfl (hb hby d_rm_pick_82) (by decide) (by decide) ?_
                    try rw [e18]
                    exact ⟨by rw [hr]; simp [c1, c3, c5, c7, c9, c11, c13, c15, c17], N0, rfl⟩
                  · -- not ka = (8 : Int32)
                    refine Goes.go (U' := (s₁.setTop (mkF m 86 #[.val (.int ka)] [(.int (9 : Int32)), (.int ka)]))) (fun t kt => ?_) ?_
                    · show Steps p.tables e below (s₁.setTop (mkF m 76 #[.val (.int ka)] [(.int (8 : Int32)), (.int ka)])) t
                      refine XS.icmpYes X0.here hx rfl (pc0 := 76) (pc' := 83) rfl (hb hby d_rm_pick_76) rfl (XT.ii_ne_t c17) (by decide) (by decide) ?_
                      show Steps p.tables e below (s₁.setTop (mkF m 83 #[.val (.int ka)] [])) t
                      refine XS.iloadN X0.here hx rfl (hb hby d_rm_pick_83) rfl ?_
                      show Steps p.tables e below (s₁.setTop (mkF m 84 #[.val (.int ka)] [(.int ka)])) t
                      refine XS.bipush X0.here hx rfl (hb hby d_rm_pick_84) ?_
                      exact kt
                    by_cases c19 : ka = (9 : Int32)
                    · -- ka = (9 : Int32)
                      refine Goes.go (U' := (s₁.setTop (mkF m 89 #[.val (.int ka)] []))) (fun t kt => ?_) ?_
                      · show Steps p.tables e below (s₁.setTop (mkF m 86 #[.val (.int ka)] [(.int (9 : Int32)), (.int ka)])) t
                        refine XS.icmpNo X0.here hx rfl (hb hby d_rm_pick_86) rfl (XT.ii_ne_f c19) ?_
                        exact kt
                      obtain ⟨T20, X20, e20, st20⟩ := getS X0 hx hZ hown (host := "") (wdOf hw 39 rfl) Via.refl e0 S_ADD (g := (mkF m 89 #[.val (.int ka)] [])) rfl (hb hby d_rm_pick_89)
                      refine Goes.go (U' := (T20.setTop (mkF m 92 #[.val (.int ka)] [(.ref r_ADD)]))) st20 ?_
                      refine Goes.retA X20 hx hlk hret rfl rfl (hb hby d_rm_pick_92) (by decide) (by decide) ?_
                      try rw [e20]
                      exact ⟨by rw [hr]; simp [c1, c3, c5, c7, c9, c11, c13, c15, c17, c19], N0, rfl⟩
                    · -- not ka = (9 : Int32)
                      refine Goes.go (U' := (s₁.setTop (mkF m 96 #[.val (.int ka)] [(.int (10 : Int32)), (.int ka)]))) (fun t kt => ?_) ?_
                      · show Steps p.tables e below (s₁.setTop (mkF m 86 #[.val (.int ka)] [(.int (9 : Int32)), (.int ka)])) t
                        refine XS.icmpYes X0.here hx rfl (pc0 := 86) (pc' := 93) rfl (hb hby d_rm_pick_86) rfl (XT.ii_ne_t c19) (by decide) (by decide) ?_
                        show Steps p.tables e below (s₁.setTop (mkF m 93 #[.val (.int ka)] [])) t
                        refine XS.iloadN X0.here hx rfl (hb hby d_rm_pick_93) rfl ?_
                        show Steps p.tables e below (s₁.setTop (mkF m 94 #[.val (.int ka)] [(.int ka)])) t
                        refine XS.bipush X0.here hx rfl (hb hby d_rm_pick_94) ?_
                        exact kt
                      by_cases c21 : ka = (10 : Int32)
                      · -- ka = (10 : Int32)
                        refine Goes.go (U' := (s₁.setTop (mkF m 99 #[.val (.int ka)] []))) (fun t kt => ?_) ?_
                        · show Steps p.tables e below (s₁.setTop (mkF m 96 #[.val (.int ka)] [(.int (10 : Int32)), (.int ka)])) t
                          refine XS.icmpNo X0.here hx rfl (hb hby d_rm_pick_96) rfl (XT.ii_ne_f c21) ?_
                          exact kt
                        obtain ⟨T22, X22, e22, st22⟩ := getS X0 hx hZ hown (host := "") (wdOf hw 23 rfl) Via.refl e0 S_SUBTRACT (g := (mkF m 99 #[.val (.int ka)] [])) rfl (hb hby d_rm_pick_99)
                        refine Goes.go (U' := (T22.setTop (mkF m 102 #[.val (.int ka)] [(.ref r_SUBTRACT)]))) st22 ?_
                        refine Goes.retA X22 hx hlk hret rfl rfl (hb hby d_rm_pick_102) (by decide) (by decide) ?_
                        try rw [e22]
                        exact ⟨by rw [hr]; simp [c1, c3, c5, c7, c9, c11, c13, c15, c17, c19, c21], N0, rfl⟩
                      · -- not ka = (10 : Int32)
                        refine Goes.go (U' := (s₁.setTop (mkF m 106 #[.val (.int ka)] [(.int (11 : Int32)), (.int ka)]))) (fun t kt => ?_) ?_
                        · show Steps p.tables e below (s₁.setTop (mkF m 96 #[.val (.int ka)] [(.int (10 : Int32)), (.int ka)])) t
                          refine XS.icmpYes X0.here hx rfl (pc0 := 96) (pc' := 103) rfl (hb hby d_rm_pick_96) rfl (XT.ii_ne_t c21) (by decide) (by decide) ?_
                          show Steps p.tables e below (s₁.setTop (mkF m 103 #[.val (.int ka)] [])) t
                          refine XS.iloadN X0.here hx rfl (hb hby d_rm_pick_103) rfl ?_
                          show Steps p.tables e below (s₁.setTop (mkF m 104 #[.val (.int ka)] [(.int ka)])) t
                          refine XS.bipush X0.here hx rfl (hb hby d_rm_pick_104) ?_
                          exact kt
                        by_cases c23 : ka = (11 : Int32)
                        · -- ka = (11 : Int32)
                          refine Goes.go (U' := (s₁.setTop (mkF m 109 #[.val (.int ka)] []))) (fun t kt => ?_) ?_
                          · show Steps p.tables e below (s₁.setTop (mkF m 106 #[.val (.int ka)] [(.int (11 : Int32)), (.int ka)])) t
                            refine XS.icmpNo X0.here hx rfl (hb hby d_rm_pick_106) rfl (XT.ii_ne_f c23) ?_
                            exact kt
                          obtain ⟨T24, X24, e24, st24⟩ := getS X0 hx hZ hown (host := "") (wdOf hw 25 rfl) Via.refl e0 S_MULTIPLY (g := (mkF m 109 #[.val (.int ka)] [])) rfl (hb hby d_rm_pick_109)
                          refine Goes.go (U' := (T24.setTop (mkF m 112 #[.val (.int ka)] [(.ref r_MULTIPLY)]))) st24 ?_
                          refine Goes.retA X24 hx hlk hret rfl rfl (hb hby d_rm_pick_112) (by decide) (by decide) ?_
                          try rw [e24]
                          exact ⟨by rw [hr]; simp [c1, c3, c5, c7, c9, c11, c13, c15, c17, c19, c21, c23], N0, rfl⟩
                        · -- not ka = (11 : Int32)
                          refine Goes.go (U' := (s₁.setTop (mkF m 113 #[.val (.int ka)] []))) (fun t kt => ?_) ?_
                          · show Steps p.tables e below (s₁.setTop (mkF m 106 #[.val (.int ka)] [(.int (11 : Int32)), (.int ka)])) t
                            refine XS.icmpYes X0.here hx rfl (pc0 := 106) (pc' := 113) rfl (hb hby d_rm_pick_106) rfl (XT.ii_ne_t c23) (by decide) (by decide) ?_
                            exact kt
                          obtain ⟨T25, X25, e25, st25⟩ := getS X0 hx hZ hown (host := "") (wdOf hw 29 rfl) Via.refl e0 S_DIVIDE (g := (mkF m 113 #[.val (.int ka)] [])) rfl (hb hby d_rm_pick_113)
                          refine Goes.go (U' := (T25.setTop (mkF m 116 #[.val (.int ka)] [(.ref r_DIVIDE)]))) st25 ?_
                          refine Goes.retA X25 hx hlk hret rfl rfl (hb hby d_rm_pick_116) (by decide) (by decide) ?_
                          try rw [e25]
                          exact ⟨by rw [hr]; simp [c1, c3, c5, c7, c9, c11, c13, c15, c17, c19, c21, c23], N0, rfl⟩
theorem d_rm_adm_0 : decode prog_61_method_9_code 0 = .ok (.iload_n 1, 1) := by decide +kernel
theorem d_rm_adm_1 : decode prog_61_method_9_code 1 = .ok (.aload_n 0, 1) := by decide +kernel
theorem d_rm_adm_2 : decode prog_61_method_9_code 2 = .ok (.getfield 66, 3) := by decide +kernel
theorem d_rm_adm_5 : decode prog_61_method_9_code 5 = .ok (.if_icmp .lt 15, 3) := by decide +kernel
theorem d_rm_adm_8 : decode prog_61_method_9_code 8 = .ok (.iload_n 1, 1) := by decide +kernel
theorem d_rm_adm_9 : decode prog_61_method_9_code 9 = .ok (.aload_n 0, 1) := by decide +kernel
theorem d_rm_adm_10 : decode prog_61_method_9_code 10 = .ok (.getfield 70, 3) := by decide +kernel
theorem d_rm_adm_13 : decode prog_61_method_9_code 13 = .ok (.if_icmp .gt 7, 3) := by decide +kernel
theorem d_rm_adm_16 : decode prog_61_method_9_code 16 = .ok (.iconst 1, 1) := by decide +kernel
theorem d_rm_adm_17 : decode prog_61_method_9_code 17 = .ok (.goto 4, 3) := by decide +kernel
theorem d_rm_adm_20 : decode prog_61_method_9_code 20 = .ok (.iconst 0, 1) := by decide +kernel
theorem d_rm_adm_21 : decode prog_61_method_9_code 21 = .ok (.ireturn, 1) := by decide +kernel
theorem ef_rm_adm (m : MethodId) (x0 : Addr) (x1 : Int32)  : entryFrame m #[(.ref x0), (.int x1)] 2 = mkF m 0 #[.val (.ref x0), .val (.int x1)] [] := by first | rfl | (simp [entryFrame, mkF, argsToLocals, Value.category]; done)
set_option maxRecDepth 65536 in
set_option maxHeartbeats 40000000 in
theorem rm_adm (l : Launch) (Z : State) (a0 : Array Value) (hw : ∀ d ∈ tables_1, d.before a0 Z = true) (ws : List Jvm.Cond) (a : Addr) (cnt lo hi z : Int32) (h0 : Heap) (n0 : Nat) (Z0 : n0 ≤ h0.size) (F_lo : Fld Z h0 a "com/example/thistle/thistle/language/Operator" "fewestArguments" "I" (.int lo)) (F_hi : Fld Z h0 a "com/example/thistle/thistle/language/Operator" "mostArguments" "I" (.int hi)) (hz : z = if cnt < lo ∨ hi < cnt then 0 else 1) :
    Pays l Z (⟨"com/example/thistle/thistle/language/Operator", "admits", "(I)Z"⟩ : MethodName) prog_61_method_9_code 2 (some .boolean) ws ({ frames := 0, cells := 0, slots := 0, locals := 0 } : Room) #[(.ref a), (.int cnt)] h0 (fun v h L => v = some (.int z) ∧ Fr n0 L ∧ h = h0) := by
  refine Pays.of (plainFor_of_name (by first | (simp [plainName, overriddenIn]; done) | decide +kernel)) ?_
  intro p e s m below meth c s₁ hx hby hml hown hnm hret hlk hZ e0 X0
  have N0 := Fr.nil n0
  have K0 : Keep h0 h0 [] := Keep.refl _ _
  refine Goes.go (U' := (s₁.setTop (mkF m 0 #[.val (.ref a), .val (.int cnt)] []))) (fun t kt => castTop (ef_rm_adm m a cnt) kt) ?_
  refine Goes.go (U' := (s₁.setTop (mkF m 2 #[.val (.ref a), .val (.int cnt)] [(.ref a), (.int cnt)]))) (fun t kt => ?_) ?_
  · show Steps p.tables e below (s₁.setTop (mkF m 0 #[.val (.ref a), .val (.int cnt)] [])) t
    refine XS.iloadN X0.here hx rfl (hb hby d_rm_adm_0) rfl ?_
    show Steps p.tables e below (s₁.setTop (mkF m 1 #[.val (.ref a), .val (.int cnt)] [(.int cnt)])) t
    refine XS.aloadN X0.here hx rfl (hb hby d_rm_adm_1) rfl rfl ?_
    exact kt
  obtain ⟨T1, X1, e1, st1⟩ := getF X0 hx hZ hown (host := "") (Or.inl (wdOf hw 13 rfl)) Via.refl e0 F_lo (g := (mkF m 2 #[.val (.ref a), .val (.int cnt)] [(.ref a), (.int cnt)])) rfl rfl (hb hby d_rm_adm_2)
  refine Goes.go (U' := (T1.setTop (mkF m 5 #[.val (.ref a), .val (.int cnt)] [(.int lo), (.int cnt)]))) st1 ?_
  by_cases c2 : cnt < lo
  · -- cnt < lo
    refine Goes.go (U' := (T1.setTop (mkF m 21 #[.val (.ref a), .val (.int cnt)] [(.int (0 : Int32))]))) (fun t kt => ?_) ?_
    · show Steps p.tables e below (T1.setTop (mkF m 5 #[.val (.ref a), .val (.int cnt)] [(.int lo), (.int cnt)])) t
      refine XS.icmpYes X1.here hx rfl (pc0 := 5) (pc' := 20) rfl (hb hby d_rm_adm_5) rfl (XT.ii_lt_t c2) (by decide) (by decide) ?_
      show Steps p.tables e below (T1.setTop (mkF m 20 #[.val (.ref a), .val (.int cnt)] [])) t
      refine XS.iconst X1.here hx rfl (hb hby d_rm_adm_20) ?_
      exact kt
    refine Goes.retB X1 hx hlk hret (hb hby d_rm_adm_21) (by decide) (by decide) ?_
    try rw [e1]
    exact ⟨by subst hz; first | (rw [if_pos (by simp [c2])]; rfl) | (rw [if_neg (by simp [c2])]; rfl), N0, rfl⟩
  · -- not cnt < lo
    refine Goes.go (U' := (T1.setTop (mkF m 10 #[.val (.ref a), .val (.int cnt)] [(.ref a), (.int cnt)]))) (fun t kt => ?_) ?_
    · show Steps p.tables e below (T1.setTop (mkF m 5 #[.val (.ref a), .val (.int cnt)] [(.int lo), (.int cnt)])) t
      refine XS.icmpNo X1.here hx rfl (hb hby d_rm_adm_5) rfl (XT.ii_lt_f c2) ?_
      show Steps p.tables e below (T1.setTop (mkF m 8 #[.val (.ref a), .val (.int cnt)] [])) t
      refine XS.iloadN X1.here hx rfl (hb hby d_rm_adm_8) rfl ?_
      show Steps p.tables e below (T1.setTop (mkF m 9 #[.val (.ref a), .val (.int cnt)] [(.int cnt)])) t
      refine XS.aloadN X1.here hx rfl (hb hby d_rm_adm_9) rfl rfl ?_
      exact kt
    obtain ⟨T3, X3, e3, st3⟩ := getF X1 hx hZ hown (host := "") (Or.inl (wdOf hw 15 rfl)) Via.refl e1 F_hi (g := (mkF m 10 #[.val (.ref a), .val (.int cnt)] [(.ref a), (.int cnt)])) rfl rfl (hb hby d_rm_adm_10)
    refine Goes.go (U' := (T3.setTop (mkF m 13 #[.val (.ref a), .val (.int cnt)] [(.int hi), (.int cnt)]))) st3 ?_
    by_cases c4 : hi < cnt
    · -- hi < cnt
      refine Goes.go (U' := (T3.setTop (mkF m 21 #[.val (.ref a), .val (.int cnt)] [(.int (0 : Int32))]))) (fun t kt => ?_) ?_
      · show Steps p.tables e below (T3.setTop (mkF m 13 #[.val (.ref a), .val (.int cnt)] [(.int hi), (.int cnt)])) t
        refine XS.icmpYes X3.here hx rfl (pc0 := 13) (pc' := 20) rfl (hb hby d_rm_adm_13) rfl (XT.ii_gt_t c4) (by decide) (by decide) ?_
        show Steps p.tables e below (T3.setTop (mkF m 20 #[.val (.ref a), .val (.int cnt)] [])) t
        refine XS.iconst X3.here hx rfl (hb hby d_rm_adm_20) ?_
        exact kt
      refine Goes.retB X3 hx hlk hret (hb hby d_rm_adm_21) (by decide) (by decide) ?_
      try rw [e3]
      exact ⟨by subst hz; first | (rw [if_pos (by simp [c2, c4])]; rfl) | (rw [if_neg (by simp [c2, c4])]; rfl), N0, rfl⟩
    · -- not hi < cnt
      refine Goes.go (U' := (T3.setTop (mkF m 21 #[.val (.ref a), .val (.int cnt)] [(.int (1 : Int32))]))) (fun t kt => ?_) ?_
      · show Steps p.tables e below (T3.setTop (mkF m 13 #[.val (.ref a), .val (.int cnt)] [(.int hi), (.int cnt)])) t
        refine XS.icmpNo X3.here hx rfl (hb hby d_rm_adm_13) rfl (XT.ii_gt_f c4) ?_
        show Steps p.tables e below (T3.setTop (mkF m 16 #[.val (.ref a), .val (.int cnt)] [])) t
        refine XS.iconst X3.here hx rfl (hb hby d_rm_adm_16) ?_
        show Steps p.tables e below (T3.setTop (mkF m 17 #[.val (.ref a), .val (.int cnt)] [(.int (1 : Int32))])) t
        refine XS.goto X3.here hx rfl (pc0 := 17) (pc' := 21) rfl (hb hby d_rm_adm_17) (by decide) (by decide) ?_
        exact kt
      refine Goes.retB X3 hx hlk hret (hb hby d_rm_adm_21) (by decide) (by decide) ?_
      try rw [e3]
      exact ⟨by subst hz; first | (rw [if_pos (by simp [c2, c4])]; rfl) | (rw [if_neg (by simp [c2, c4])]; rfl), N0, rfl⟩
theorem ef_rm_law (m : MethodId) (x0 : Int32) (x1 : Int32) (x2 : Int32)  : entryFrame m #[(.int x0), (.int x1), (.int x2)] maxLocals = mkF m 0 #[.val (.int x0), .val (.int x1), .val (.int x2), .unset, .unset, .unset, .unset] [] := by first | rfl | (simp [entryFrame, mkF, argsToLocals, Value.category, maxLocals]; done)
set_option maxRecDepth 65536 in
set_option maxHeartbeats 40000000 in
theorem rm_law (l : Launch) (Z : State) (a0 : Array Value) (hw : ∀ d ∈ tables_1, d.before a0 Z = true) (ws : List Jvm.Cond) (pa pb pc : Int32) (r_AND r_OR r_NOT r_EQUAL r_IN r_GREATER_THAN r_LESS_THAN r_GREATER_THAN_OR_EQUAL r_LESS_THAN_OR_EQUAL r_ADD r_SUBTRACT r_MULTIPLY r_DIVIDE : Addr) (h0 : Heap) (n0 : Nat) (Z0 : n0 ≤ h0.size) (S_AND : Sta Z h0 "com/example/thistle/thistle/language/Operator" "AND" "Lcom/example/thistle/thistle/language/Operator;" (.ref r_AND)) (S_OR : Sta Z h0 "com/example/thistle/thistle/language/Operator" "OR" "Lcom/example/thistle/thistle/language/Operator;" (.ref r_OR)) (S_NOT : Sta Z h0 "com/example/thistle/thistle/language/Operator" "NOT" "Lcom/example/thistle/thistle/language/Operator;" (.ref r_NOT)) (S_EQUAL : Sta Z h0 "com/example/thistle/thistle/language/Operator" "EQUAL" "Lcom/example/thistle/thistle/language/Operator;" (.ref r_EQUAL)) (S_IN : Sta Z h0 "com/example/thistle/thistle/language/Operator" "IN" "Lcom/example/thistle/thistle/language/Operator;" (.ref r_IN)) (S_GREATER_THAN : Sta Z h0 "com/example/thistle/thistle/language/Operator" "GREATER_THAN" "Lcom/example/thistle/thistle/language/Operator;" (.ref r_GREATER_THAN)) (S_LESS_THAN : Sta Z h0 "com/example/thistle/thistle/language/Operator" "LESS_THAN" "Lcom/example/thistle/thistle/language/Operator;" (.ref r_LESS_THAN)) (S_GREATER_THAN_OR_EQUAL : Sta Z h0 "com/example/thistle/thistle/language/Operator" "GREATER_THAN_OR_EQUAL" "Lcom/example/thistle/thistle/language/Operator;" (.ref r_GREATER_THAN_OR_EQUAL)) (S_LESS_THAN_OR_EQUAL : Sta Z h0 "com/example/thistle/thistle/language/Operator" "LESS_THAN_OR_EQUAL" "Lcom/example/thistle/thistle/language/Operator;" (.ref r_LESS_THAN_OR_EQUAL)) (S_ADD : Sta Z h0 "com/example/thistle/thistle/language/Operator" "ADD" "Lcom/example/thistle/thistle/language/Operator;" (.ref r_ADD)) (S_SUBTRACT : Sta Z h0 "com/example/thistle/thistle/language/Operator" "SUBTRACT" "Lcom/example/thistle/thistle/language/Operator;" (.ref r_SUBTRACT)) (S_MULTIPLY : Sta Z h0 "com/example/thistle/thistle/language/Operator" "MULTIPLY" "Lcom/example/thistle/thistle/language/Operator;" (.ref r_MULTIPLY)) (S_DIVIDE : Sta Z h0 "com/example/thistle/thistle/language/Operator" "DIVIDE" "Lcom/example/thistle/thistle/language/Operator;" (.ref r_DIVIDE)) (E_AND : Exa Z h0 r_AND "com/example/thistle/thistle/language/Operator") (E_OR : Exa Z h0 r_OR "com/example/thistle/thistle/language/Operator") (E_NOT : Exa Z h0 r_NOT "com/example/thistle/thistle/language/Operator") (E_EQUAL : Exa Z h0 r_EQUAL "com/example/thistle/thistle/language/Operator") (E_IN : Exa Z h0 r_IN "com/example/thistle/thistle/language/Operator") (E_GREATER_THAN : Exa Z h0 r_GREATER_THAN "com/example/thistle/thistle/language/Operator") (E_LESS_THAN : Exa Z h0 r_LESS_THAN "com/example/thistle/thistle/language/Operator") (E_GREATER_THAN_OR_EQUAL : Exa Z h0 r_GREATER_THAN_OR_EQUAL "com/example/thistle/thistle/language/Operator") (E_LESS_THAN_OR_EQUAL : Exa Z h0 r_LESS_THAN_OR_EQUAL "com/example/thistle/thistle/language/Operator") (E_ADD : Exa Z h0 r_ADD "com/example/thistle/thistle/language/Operator") (E_SUBTRACT : Exa Z h0 r_SUBTRACT "com/example/thistle/thistle/language/Operator") (E_MULTIPLY : Exa Z h0 r_MULTIPLY "com/example/thistle/thistle/language/Operator") (E_DIVIDE : Exa Z h0 r_DIVIDE "com/example/thistle/thistle/language/Operator")  (F_fewestArguments_AND : Fld Z h0 r_AND "com/example/thistle/thistle/language/Operator" "fewestArguments" "I" (.int (2 : Int32))) (F_mostArguments_AND : Fld Z h0 r_AND "com/example/thistle/thistle/language/Operator" "mostArguments" "I" (.int (2147483647 : Int32))) (F_fewestArguments_OR : Fld Z h0 r_OR "com/example/thistle/thistle/language/Operator" "fewestArguments" "I" (.int (2 : Int32))) (F_mostArguments_OR : Fld Z h0 r_OR "com/example/thistle/thistle/language/Operator" "mostArguments" "I" (.int (2147483647 : Int32))) (F_fewestArguments_NOT : Fld Z h0 r_NOT "com/example/thistle/thistle/language/Operator" "fewestArguments" "I" (.int (1 : Int32))) (F_mostArguments_NOT : Fld Z h0 r_NOT "com/example/thistle/thistle/language/Operator" "mostArguments" "I" (.int (1 : Int32))) (F_fewestArguments_EQUAL : Fld Z h0 r_EQUAL "com/example/thistle/thistle/language/Operator" "fewestArguments" "I" (.int (2 : Int32))) (F_mostArguments_EQUAL : Fld Z h0 r_EQUAL "com/example/thistle/thistle/language/Operator" "mostArguments" "I" (.int (2 : Int32))) (F_fewestArguments_IN : Fld Z h0 r_IN "com/example/thistle/thistle/language/Operator" "fewestArguments" "I" (.int (2 : Int32))) (F_mostArguments_IN : Fld Z h0 r_IN "com/example/thistle/thistle/language/Operator" "mostArguments" "I" (.int (2 : Int32))) (F_fewestArguments_GREATER_THAN : Fld Z h0 r_GREATER_THAN "com/example/thistle/thistle/language/Operator" "fewestArguments" "I" (.int (2 : Int32))) (F_mostArguments_GREATER_THAN : Fld Z h0 r_GREATER_THAN "com/example/thistle/thistle/language/Operator" "mostArguments" "I" (.int (2 : Int32))) (F_fewestArguments_LESS_THAN : Fld Z h0 r_LESS_THAN "com/example/thistle/thistle/language/Operator" "fewestArguments" "I" (.int (2 : Int32))) (F_mostArguments_LESS_THAN : Fld Z h0 r_LESS_THAN "com/example/thistle/thistle/language/Operator" "mostArguments" "I" (.int (2 : Int32))) (F_fewestArguments_GREATER_THAN_OR_EQUAL : Fld Z h0 r_GREATER_THAN_OR_EQUAL "com/example/thistle/thistle/language/Operator" "fewestArguments" "I" (.int (2 : Int32))) (F_mostArguments_GREATER_THAN_OR_EQUAL : Fld Z h0 r_GREATER_THAN_OR_EQUAL "com/example/thistle/thistle/language/Operator" "mostArguments" "I" (.int (2 : Int32))) (F_fewestArguments_LESS_THAN_OR_EQUAL : Fld Z h0 r_LESS_THAN_OR_EQUAL "com/example/thistle/thistle/language/Operator" "fewestArguments" "I" (.int (2 : Int32))) (F_mostArguments_LESS_THAN_OR_EQUAL : Fld Z h0 r_LESS_THAN_OR_EQUAL "com/example/thistle/thistle/language/Operator" "mostArguments" "I" (.int (2 : Int32))) (F_fewestArguments_ADD : Fld Z h0 r_ADD "com/example/thistle/thistle/language/Operator" "fewestArguments" "I" (.int (2 : Int32))) (F_mostArguments_ADD : Fld Z h0 r_ADD "com/example/thistle/thistle/language/Operator" "mostArguments" "I" (.int (2 : Int32))) (F_fewestArguments_SUBTRACT : Fld Z h0 r_SUBTRACT "com/example/thistle/thistle/language/Operator" "fewestArguments" "I" (.int (2 : Int32))) (F_mostArguments_SUBTRACT : Fld Z h0 r_SUBTRACT "com/example/thistle/thistle/language/Operator" "mostArguments" "I" (.int (2 : Int32))) (F_fewestArguments_MULTIPLY : Fld Z h0 r_MULTIPLY "com/example/thistle/thistle/language/Operator" "fewestArguments" "I" (.int (2 : Int32))) (F_mostArguments_MULTIPLY : Fld Z h0 r_MULTIPLY "com/example/thistle/thistle/language/Operator" "mostArguments" "I" (.int (2 : Int32))) (F_fewestArguments_DIVIDE : Fld Z h0 r_DIVIDE "com/example/thistle/thistle/language/Operator" "fewestArguments" "I" (.int (2 : Int32))) (F_mostArguments_DIVIDE : Fld Z h0 r_DIVIDE "com/example/thistle/thistle/language/Operator" "mostArguments" "I" (.int (2 : Int32))) :
    Pays l Z x code maxLocals ret ws room_1 #[(.int pa), (.int pb), (.int pc)] h0 (fun v h L => v = some (.int 1) ∧ Fr n0 L) := by
  refine Pays.of (plainFor_of_name (by first | (simp [plainName, overriddenIn]; done) | decide +kernel)) ?_
  intro p e s m below meth c s₁ hx hby hml hown hnm hret hlk hZ e0 X0
  have N0 := Fr.nil n0
  have K0 : Keep h0 h0 [] := Keep.refl _ _
  refine Goes.go (U' := (s₁.setTop (mkF m 0 #[.val (.int pa), .val (.int pb), .val (.int pc), .unset, .unset, .unset, .unset] []))) (fun t kt => castTop (ef_rm_law m pa pb pc) kt) ?_
  refine Goes.go (U' := (s₁.setTop (mkF m 7 #[.val (.int pa), .val (.int pb), .val (.int pc), .unset, .unset, .unset, .unset] [(.int ((pa &&& (2147483647 : Int32)) % (13 : Int32)))]))) (fun t kt => ?_) ?_
  · show Steps p.tables e below (s₁.setTop (mkF m 0 #[.val (.int pa), .val (.int pb), .val (.int pc), .unset, .unset, .unset, .unset] [])) t
    refine XS.iloadN X0.here hx rfl (hb hby at_0) rfl ?_
    show Steps p.tables e below (s₁.setTop (mkF m 1 #[.val (.int pa), .val (.int pb), .val (.int pc), .unset, .unset, .unset, .unset] [(.int pa)])) t
    refine Jvm.Stand.ldcI X0 hx hown (mvT hZ (wdOf hw 0 rfl)) rfl (hb hby at_1) ?_
    show Steps p.tables e below (s₁.setTop (mkF m 3 #[.val (.int pa), .val (.int pb), .val (.int pc), .unset, .unset, .unset, .unset] [(.int (2147483647 : Int32)), (.int pa)])) t
    refine XS.iand X0.here hx rfl (hb hby at_3) rfl ?_
    show Steps p.tables e below (s₁.setTop (mkF m 4 #[.val (.int pa), .val (.int pb), .val (.int pc), .unset, .unset, .unset, .unset] [(.int (pa &&& (2147483647 : Int32)))])) t
    refine XS.bipush X0.here hx rfl (hb hby at_4) ?_
    show Steps p.tables e below (s₁.setTop (mkF m 6 #[.val (.int pa), .val (.int pb), .val (.int pc), .unset, .unset, .unset, .unset] [(.int (13 : Int32)), (.int (pa &&& (2147483647 : Int32)))])) t
    refine iremM X0 hx rfl (hb hby at_6) rfl (by decide) ?_
    exact kt
  rcases own_mod pa with hk | hk | hk | hk | hk | hk | hk | hk | hk | hk | hk | hk | hk
  · -- case 0
    rw [hk]
    refine Goes.go (U' := (s₁.setTop (mkF m 9 #[.val (.int pa), .val (.int pb), .val (.int pc), .val (.int (0 : Int32)), .unset, .unset, .unset] [(.int (0 : Int32))]))) (fun t kt => ?_) ?_
    · show Steps p.tables e below (s₁.setTop (mkF m 7 #[.val (.int pa), .val (.int pb), .val (.int pc), .unset, .unset, .unset, .unset] [(.int (0 : Int32))])) t
      refine XS.istoreN X0.here hx rfl (hb hby at_7) rfl (l' := #[.val (.int pa), .val (.int pb), .val (.int pc), .val (.int (0 : Int32)), .unset, .unset, .unset]) rfl ?_
      show Steps p.tables e below (s₁.setTop (mkF m 8 #[.val (.int pa), .val (.int pb), .val (.int pc), .val (.int (0 : Int32)), .unset, .unset, .unset] [])) t
      refine XS.iloadN X0.here hx rfl (hb hby at_8) rfl ?_
      exact kt
    obtain ⟨v1, T1, L1, X1, q1, st1⟩ := callStatic X0 hx hZ (y := (⟨"com/example/thistle/thistle/language/OperatorAdmitsPinLaw", "pick", "(I)Lcom/example/thistle/thistle/language/Operator;"⟩ : MethodName)) (W := 0) hown (wdOf hw 1 rfl) (wdOf hw 2 rfl) (wdOf hw 3 rfl) (wdOf hw 4 rfl) (by decide) (rm_pick l Z a0 hw [] (0 : Int32) r_AND r_AND r_OR r_NOT r_EQUAL r_IN r_GREATER_THAN r_LESS_THAN r_GREATER_THAN_OR_EQUAL r_LESS_THAN_OR_EQUAL r_ADD r_SUBTRACT r_MULTIPLY r_DIVIDE h0 n0 Z0 S_AND S_OR S_NOT S_EQUAL S_IN S_GREATER_THAN S_LESS_THAN S_GREATER_THAN_OR_EQUAL S_LESS_THAN_OR_EQUAL S_ADD S_SUBTRACT S_MULTIPLY S_DIVIDE (by simp)) (by decide) (by decide) (by decide) (by decide) e0 (g := (mkF m 9 #[.val (.int pa), .val (.int pb), .val (.int pc), .val (.int (0 : Int32)), .unset, .unset, .unset] [(.int (0 : Int32))])) rfl (by rw [hml]; rfl) (argsL := [(.int (0 : Int32))]) (rest := []) (lenOf pd_0 rfl) rfl rfl (Nat.le_refl _) (hb hby at_9)
    obtain ⟨rfl, n1, K1⟩ := q1
    have N1 := Fr.app N0 n1
    refine Goes.go (U' := (T1.setTop (mkF m 12 #[.val (.int pa), .val (.int pb), .val (.int pc), .val (.int (0 : Int32)), .unset, .unset, .unset] [(.ref r_AND)]))) st1 ?_
    refine Goes.go (U' := (T1.setTop (mkF m 17 #[.val (.int pa), .val (.int pb), .val (.int pc), .val (.int (0 : Int32)), .val (.ref r_AND), .unset, .unset] [(.int (pc &&& (1 : Int32)))]))) (fun t kt => ?_) ?_
    · show Steps p.tables e below (T1.setTop (mkF m 12 #[.val (.int pa), .val (.int pb), .val (.int pc), .val (.int (0 : Int32)), .unset, .unset, .unset] [(.ref r_AND)])) t
      refine XS.astore X1.here hx rfl (hb hby at_12) rfl rfl (l' := #[.val (.int pa), .val (.int pb), .val (.int pc), .val (.int (0 : Int32)), .val (.ref r_AND), .unset, .unset]) rfl ?_
      show Steps p.tables e below (T1.setTop (mkF m 14 #[.val (.int pa), .val (.int pb), .val (.int pc), .val (.int (0 : Int32)), .val (.ref r_AND), .unset, .unset] [])) t
      refine XS.iloadN X1.here hx rfl (hb hby at_14) rfl ?_
      show Steps p.tables e below (T1.setTop (mkF m 15 #[.val (.int pa), .val (.int pb), .val (.int pc), .val (.int (0 : Int32)), .val (.ref r_AND), .unset, .unset] [(.int pc)])) t
      refine XS.iconst X1.here hx rfl (hb hby at_15) ?_
      show Steps p.tables e below (T1.setTop (mkF m 16 #[.val (.int pa), .val (.int pb), .val (.int pc), .val (.int (0 : Int32)), .val (.ref r_AND), .unset, .unset] [(.int (1 : Int32)), (.int pc)])) t
      refine XS.iand X1.here hx rfl (hb hby at_16) rfl ?_
      exact kt
    by_cases c2 : (pc &&& (1 : Int32)) = 0
    · -- (pc &&& (1 : Int32)) = 0
      refine Goes.go (U' := (T1.setTop (mkF m 46 #[.val (.int pa), .val (.int pb), .val (.int pc), .val (.int (0 : Int32)), .val (.ref r_AND), .val (.int pb), .unset] [(.int (2 : Int32)), (.int pb)]))) (fun t kt => ?_) ?_
      · show Steps p.tables e below (T1.setTop (mkF m 17 #[.val (.int pa), .val (.int pb), .val (.int pc), .val (.int (0 : Int32)), .val (.ref r_AND), .unset, .unset] [(.int (pc &&& (1 : Int32)))])) t
        refine XS.ifYes X1.here hx rfl (pc0 := 17) (pc' := 31) rfl (hb hby at_17) rfl (XT.i0_eq_t c2) (by decide) (by decide) ?_
        show Steps p.tables e below (T1.setTop (mkF m 31 #[.val (.int pa), .val (.int pb), .val (.int pc), .val (.int (0 : Int32)), .val (.ref r_AND), .unset, .unset] [])) t
        refine XS.iloadN X1.here hx rfl (hb hby at_31) rfl ?_
        show Steps p.tables e below (T1.setTop (mkF m 32 #[.val (.int pa), .val (.int pb), .val (.int pc), .val (.int (0 : Int32)), .val (.ref r_AND), .unset, .unset] [(.int pb)])) t
        refine XS.istore X1.here hx rfl (hb hby at_32) rfl (l' := #[.val (.int pa), .val (.int pb), .val (.int pc), .val (.int (0 : Int32)), .val (.ref r_AND), .val (.int pb), .unset]) rfl ?_
        show Steps p.tables e below (T1.setTop (mkF m 34 #[.val (.int pa), .val (.int pb), .val (.int pc), .val (.int (0 : Int32)), .val (.ref r_AND), .val (.int pb), .unset] [])) t
        refine XS.iloadN X1.here hx rfl (hb hby at_34) rfl ?_
        show Steps p.tables e below (T1.setTop (mkF m 35 #[.val (.int pa), .val (.int pb), .val (.int pc), .val (.int (0 : Int32)), .val (.ref r_AND), .val (.int pb), .unset] [(.int (0 : Int32))])) t
        refine XS.ifYes X1.here hx rfl (pc0 := 35) (pc' := 43) rfl (hb hby at_35) rfl (XT.i0_eq_t (by decide)) (by decide) (by decide) ?_
        show Steps p.tables e below (T1.setTop (mkF m 43 #[.val (.int pa), .val (.int pb), .val (.int pc), .val (.int (0 : Int32)), .val (.ref r_AND), .val (.int pb), .unset] [])) t
        refine XS.iload X1.here hx rfl (hb hby at_43) rfl ?_
        show Steps p.tables e below (T1.setTop (mkF m 45 #[.val (.int pa), .val (.int pb), .val (.int pc), .val (.int (0 : Int32)), .val (.ref r_AND), .val (.int pb), .unset] [(.int pb)])) t
        refine XS.iconst X1.here hx rfl (hb hby at_45) ?_
        exact kt
      by_cases c3 : pb < (2 : Int32)
      · -- pb < (2 : Int32)
        refine Goes.go (U' := (T1.setTop (mkF m 97 #[.val (.int pa), .val (.int pb), .val (.int pc), .val (.int (0 : Int32)), .val (.ref r_AND), .val (.int pb), .val (.int (0 : Int32))] [(.int pb), (.ref r_AND)]))) (fun t kt => ?_) ?_
        · show Steps p.tables e below (T1.setTop (mkF m 46 #[.val (.int pa), .val (.int pb), .val (.int pc), .val (.int (0 : Int32)), .val (.ref r_AND), .val (.int pb), .unset] [(.int (2 : Int32)), (.int pb)])) t
          refine XS.icmpYes X1.here hx rfl (pc0 := 46) (pc' := 53) rfl (hb hby at_46) rfl (XT.ii_lt_t c3) (by decide) (by decide) ?_
          show Steps p.tables e below (T1.setTop (mkF m 53 #[.val (.int pa), .val (.int pb), .val (.int pc), .val (.int (0 : Int32)), .val (.ref r_AND), .val (.int pb), .unset] [])) t
          refine XS.iconst X1.here hx rfl (hb hby at_53) ?_
          show Steps p.tables e below (T1.setTop (mkF m 54 #[.val (.int pa), .val (.int pb), .val (.int pc), .val (.int (0 : Int32)), .val (.ref r_AND), .val (.int pb), .unset] [(.int (0 : Int32))])) t
          refine XS.istore X1.here hx rfl (hb hby at_54) rfl (l' := #[.val (.int pa), .val (.int pb), .val (.int pc), .val (.int (0 : Int32)), .val (.ref r_AND), .val (.int pb), .val (.int (0 : Int32))]) rfl ?_
          show Steps p.tables e below (T1.setTop (mkF m 56 #[.val (.int pa), .val (.int pb), .val (.int pc), .val (.int (0 : Int32)), .val (.ref r_AND), .val (.int pb), .val (.int (0 : Int32))] [])) t
          refine XS.goto X1.here hx rfl (pc0 := 56) (pc' := 93) rfl (hb hby at_56) (by decide) (by decide) ?_
          show Steps p.tables e below (T1.setTop (mkF m 93 #[.val (.int pa), .val (.int pb), .val (.int pc), .val (.int (0 : Int32)), .val (.ref r_AND), .val (.int pb), .val (.int (0 : Int32))] [])) t
          refine XS.aload X1.here hx rfl (hb hby at_93) rfl rfl ?_
          show Steps p.tables e below (T1.setTop (mkF m 95 #[.val (.int pa), .val (.int pb), .val (.int pc), .val (.int (0 : Int32)), .val (.ref r_AND), .val (.int pb), .val (.int (0 : Int32))] [(.ref r_AND)])) t
          refine XS.iload X1.here hx rfl (hb hby at_95) rfl ?_
          exact kt
        obtain ⟨v4, T4, L4, X4, q4, st4⟩ := callVirtual X1 hx hZ (y := (⟨"com/example/thistle/thistle/language/Operator", "admits", "(I)Z"⟩ : MethodName)) (z := (⟨"com/example/thistle/thistle/language/Operator", "admits", "(I)Z"⟩ : MethodName)) (W := 0) hown (wdOf hw 8 rfl) (wdOf hw 9 rfl) (notFace_of_selects (args := #[]) (mvT hZ (wdOf hw 11 rfl))) (wdOf hw 11 rfl) (wdOf hw 10 rfl) (wdOf hw 6 rfl) (wdOf hw 12 rfl) (by decide) (rm_adm l Z a0 hw [] r_AND pb (2 : Int32) (2147483647 : Int32) (0 : Int32) h0 n0 Z0 F_fewestArguments_AND F_mostArguments_AND ((if_pos (Or.inl c3)).symm)) (by decide) (by decide) (by decide) (by decide) K1 E_AND (g := (mkF m 97 #[.val (.int pa), .val (.int pb), .val (.int pc), .val (.int (0 : Int32)), .val (.ref r_AND), .val (.int pb), .val (.int (0 : Int32))] [(.int pb), (.ref r_AND)])) rfl (by rw [hml]; rfl) (argsL := [(.int pb)]) (rest := []) (lenOf pd_1 rfl) rfl rfl (Nat.le_refl _) (hb hby at_97)
        obtain ⟨rfl, n4, K4⟩ := q4
        have N4 := Fr.app N1 n4
        refine Goes.go (U' := (T4.setTop (mkF m 100 #[.val (.int pa), .val (.int pb), .val (.int pc), .val (.int (0 : Int32)), .val (.ref r_AND), .val (.int pb), .val (.int (0 : Int32))] [(.int (0 : Int32))]))) st4 ?_
        refine Goes.go (U' := (T4.setTop (mkF m 110 #[.val (.int pa), .val (.int pb), .val (.int pc), .val (.int (0 : Int32)), .val (.ref r_AND), .val (.int pb), .val (.int (0 : Int32))] [(.int (1 : Int32))]))) (fun t kt => ?_) ?_
        · show Steps p.tables e below (T4.setTop (mkF m 100 #[.val (.int pa), .val (.int pb), .val (.int pc), .val (.int (0 : Int32)), .val (.ref r_AND), .val (.int pb), .val (.int (0 : Int32))] [(.int (0 : Int32))])) t
          refine XS.iload X4.here hx rfl (hb hby at_100) rfl ?_
          show Steps p.tables e below (T4.setTop (mkF m 102 #[.val (.int pa), .val (.int pb), .val (.int pc), .val (.int (0 : Int32)), .val (.ref r_AND), .val (.int pb), .val (.int (0 : Int32))] [(.int (0 : Int32)), (.int (0 : Int32))])) t
          refine XS.icmpNo X4.here hx rfl (hb hby at_102) rfl (XT.ii_ne_f (by decide)) ?_
          show Steps p.tables e below (T4.setTop (mkF m 105 #[.val (.int pa), .val (.int pb), .val (.int pc), .val (.int (0 : Int32)), .val (.ref r_AND), .val (.int pb), .val (.int (0 : Int32))] [])) t
          refine XS.iconst X4.here hx rfl (hb hby at_105) ?_
          show Steps p.tables e below (T4.setTop (mkF m 106 #[.val (.int pa), .val (.int pb), .val (.int pc), .val (.int (0 : Int32)), .val (.ref r_AND), .val (.int pb), .val (.int (0 : Int32))] [(.int (1 : Int32))])) t
          refine XS.goto X4.here hx rfl (pc0 := 106) (pc' := 110) rfl (hb hby at_106) (by decide) (by decide) ?_
          exact kt
        refine Goes.retB X4 hx hlk hret (hb hby at_110) (by decide) (by decide) ?_
        try rw [K4]
        exact ⟨rfl, N4⟩
      · -- not pb < (2 : Int32)
        refine Goes.go (U' := (T1.setTop (mkF m 97 #[.val (.int pa), .val (.int pb), .val (.int pc), .val (.int (0 : Int32)), .val (.ref r_AND), .val (.int pb), .val (.int (1 : Int32))] [(.int pb), (.ref r_AND)]))) (fun t kt => ?_) ?_
        · show Steps p.tables e below (T1.setTop (mkF m 46 #[.val (.int pa), .val (.int pb), .val (.int pc), .val (.int (0 : Int32)), .val (.ref r_AND), .val (.int pb), .unset] [(.int (2 : Int32)), (.int pb)])) t
          refine XS.icmpNo X1.here hx rfl (hb hby at_46) rfl (XT.ii_lt_f c3) ?_
          show Steps p.tables e below (T1.setTop (mkF m 49 #[.val (.int pa), .val (.int pb), .val (.int pc), .val (.int (0 : Int32)), .val (.ref r_AND), .val (.int pb), .unset] [])) t
          refine XS.iconst X1.here hx rfl (hb hby at_49) ?_
          show Steps p.tables e below (T1.setTop (mkF m 50 #[.val (.int pa), .val (.int pb), .val (.int pc), .val (.int (0 : Int32)), .val (.ref r_AND), .val (.int pb), .unset] [(.int (1 : Int32))])) t
          refine XS.goto X1.here hx rfl (pc0 := 50) (pc' := 54) rfl (hb hby at_50) (by decide) (by decide) ?_
          show Steps p.tables e below (T1.setTop (mkF m 54 #[.val (.int pa), .val (.int pb), .val (.int pc), .val (.int (0 : Int32)), .val (.ref r_AND), .val (.int pb), .unset] [(.int (1 : Int32))])) t
          refine XS.istore X1.here hx rfl (hb hby at_54) rfl (l' := #[.val (.int pa), .val (.int pb), .val (.int pc), .val (.int (0 : Int32)), .val (.ref r_AND), .val (.int pb), .val (.int (1 : Int32))]) rfl ?_
          show Steps p.tables e below (T1.setTop (mkF m 56 #[.val (.int pa), .val (.int pb), .val (.int pc), .val (.int (0 : Int32)), .val (.ref r_AND), .val (.int pb), .val (.int (1 : Int32))] [])) t
          refine XS.goto X1.here hx rfl (pc0 := 56) (pc' := 93) rfl (hb hby at_56) (by decide) (by decide) ?_
          show Steps p.tables e below (T1.setTop (mkF m 93 #[.val (.int pa), .val (.int pb), .val (.int pc), .val (.int (0 : Int32)), .val (.ref r_AND), .val (.int pb), .val (.int (1 : Int32))] [])) t
          refine XS.aload X1.here hx rfl (hb hby at_93) rfl rfl ?_
          show Steps p.tables e below (T1.setTop (mkF m 95 #[.val (.int pa), .val (.int pb), .val (.int pc), .val (.int (0 : Int32)), .val (.ref r_AND), .val (.int pb), .val (.int (1 : Int32))] [(.ref r_AND)])) t
          refine XS.iload X1.here hx rfl (hb hby at_95) rfl ?_
          exact kt
        obtain ⟨v5, T5, L5, X5, q5, st5⟩ := callVirtual X1 hx hZ (y := (⟨"com/example/thistle/thistle/language/Operator", "admits", "(I)Z"⟩ : MethodName)) (z := (⟨"com/example/thistle/thistle/language/Operator", "admits", "(I)Z"⟩ : MethodName)) (W := 0) hown (wdOf hw 8 rfl) (wdOf hw 9 rfl) (notFace_of_selects (args := #[]) (mvT hZ (wdOf hw 11 rfl))) (wdOf hw 11 rfl) (wdOf hw 10 rfl) (wdOf hw 6 rfl) (wdOf hw 12 rfl) (by decide) (rm_adm l Z a0 hw [] r_AND pb (2 : Int32) (2147483647 : Int32) (1 : Int32) h0 n0 Z0 F_fewestArguments_AND F_mostArguments_AND ((if_neg (fun q => q.elim c3 own_hi)).symm)) (by decide) (by decide) (by decide) (by decide) K1 E_AND (g := (mkF m 97 #[.val (.int pa), .val (.int pb), .val (.int pc), .val (.int (0 : Int32)), .val (.ref r_AND), .val (.int pb), .val (.int (1 : Int32))] [(.int pb), (.ref r_AND)])) rfl (by rw [hml]; rfl) (argsL := [(.int pb)]) (rest := []) (lenOf pd_1 rfl) rfl rfl (Nat.le_refl _) (hb hby at_97)
        obtain ⟨rfl, n5, K5⟩ := q5
        have N5 := Fr.app N1 n5
        refine Goes.go (U' := (T5.setTop (mkF m 100 #[.val (.int pa), .val (.int pb), .val (.int pc), .val (.int (0 : Int32)), .val (.ref r_AND), .val (.int pb), .val (.int (1 : Int32))] [(.int (1 : Int32))]))) st5 ?_
        refine Goes.go (U' := (T5.setTop (mkF m 110 #[.val (.int pa), .val (.int pb), .val (.int pc), .val (.int (0 : Int32)), .val (.ref r_AND), .val (.int pb), .val (.int (1 : Int32))] [(.int (1 : Int32))]))) (fun t kt => ?_) ?_
        · show Steps p.tables e below (T5.setTop (mkF m 100 #[.val (.int pa), .val (.int pb), .val (.int pc), .val (.int (0 : Int32)), .val (.ref r_AND), .val (.int pb), .val (.int (1 : Int32))] [(.int (1 : Int32))])) t
          refine XS.iload X5.here hx rfl (hb hby at_100) rfl ?_
          show Steps p.tables e below (T5.setTop (mkF m 102 #[.val (.int pa), .val (.int pb), .val (.int pc), .val (.int (0 : Int32)), .val (.ref r_AND), .val (.int pb), .val (.int (1 : Int32))] [(.int (1 : Int32)), (.int (1 : Int32))])) t
          refine XS.icmpNo X5.here hx rfl (hb hby at_102) rfl (XT.ii_ne_f (by decide)) ?_
          show Steps p.tables e below (T5.setTop (mkF m 105 #[.val (.int pa), .val (.int pb), .val (.int pc), .val (.int (0 : Int32)), .val (.ref r_AND), .val (.int pb), .val (.int (1 : Int32))] [])) t
          refine XS.iconst X5.here hx rfl (hb hby at_105) ?_
          show Steps p.tables e below (T5.setTop (mkF m 106 #[.val (.int pa), .val (.int pb), .val (.int pc), .val (.int (0 : Int32)), .val (.ref r_AND), .val (.int pb), .val (.int (1 : Int32))] [(.int (1 : Int32))])) t
          refine XS.goto X5.here hx rfl (pc0 := 106) (pc' := 110) rfl (hb hby at_106) (by decide) (by decide) ?_
          exact kt
        refine Goes.retB X5 hx hlk hret (hb hby at_110) (by decide) (by decide) ?_
        try rw [K5]
        exact ⟨rfl, N5⟩
    · -- not (pc &&& (1 : Int32)) = 0
      refine Goes.go (U' := (T1.setTop (mkF m 46 #[.val (.int pa), .val (.int pb), .val (.int pc), .val (.int (0 : Int32)), .val (.ref r_AND), .val (.int ((pb &&& (7 : Int32)) - (2 : Int32))), .unset] [(.int (2 : Int32)), (.int ((pb &&& (7 : Int32)) - (2 : Int32)))]))) (fun t kt => ?_) ?_
      · show Steps p.tables e below (T1.setTop (mkF m 17 #[.val (.int pa), .val (.int pb), .val (.int pc), .val (.int (0 : Int32)), .val (.ref r_AND), .unset, .unset] [(.int (pc &&& (1 : Int32)))])) t
        refine XS.ifNo X1.here hx rfl (hb hby at_17) rfl (XT.i0_eq_f c2) ?_
        show Steps p.tables e below (T1.setTop (mkF m 20 #[.val (.int pa), .val (.int pb), .val (.int pc), .val (.int (0 : Int32)), .val (.ref r_AND), .unset, .unset] [])) t
        refine XS.iloadN X1.here hx rfl (hb hby at_20) rfl ?_
        show Steps p.tables e below (T1.setTop (mkF m 21 #[.val (.int pa), .val (.int pb), .val (.int pc), .val (.int (0 : Int32)), .val (.ref r_AND), .unset, .unset] [(.int pb)])) t
        refine XS.bipush X1.here hx rfl (hb hby at_21) ?_
        show Steps p.tables e below (T1.setTop (mkF m 23 #[.val (.int pa), .val (.int pb), .val (.int pc), .val (.int (0 : Int32)), .val (.ref r_AND), .unset, .unset] [(.int (7 : Int32)), (.int pb)])) t
        refine XS.iand X1.here hx rfl (hb hby at_23) rfl ?_
        show Steps p.tables e below (T1.setTop (mkF m 24 #[.val (.int pa), .val (.int pb), .val (.int pc), .val (.int (0 : Int32)), .val (.ref r_AND), .unset, .unset] [(.int (pb &&& (7 : Int32)))])) t
        refine XS.iconst X1.here hx rfl (hb hby at_24) ?_
        show Steps p.tables e below (T1.setTop (mkF m 25 #[.val (.int pa), .val (.int pb), .val (.int pc), .val (.int (0 : Int32)), .val (.ref r_AND), .unset, .unset] [(.int (2 : Int32)), (.int (pb &&& (7 : Int32)))])) t
        refine XS.isub X1.here hx rfl (hb hby at_25) rfl ?_
        show Steps p.tables e below (T1.setTop (mkF m 26 #[.val (.int pa), .val (.int pb), .val (.int pc), .val (.int (0 : Int32)), .val (.ref r_AND), .unset, .unset] [(.int ((pb &&& (7 : Int32)) - (2 : Int32)))])) t
        refine XS.istore X1.here hx rfl (hb hby at_26) rfl (l' := #[.val (.int pa), .val (.int pb), .val (.int pc), .val (.int (0 : Int32)), .val (.ref r_AND), .val (.int ((pb &&& (7 : Int32)) - (2 : Int32))), .unset]) rfl ?_
        show Steps p.tables e below (T1.setTop (mkF m 28 #[.val (.int pa), .val (.int pb), .val (.int pc), .val (.int (0 : Int32)), .val (.ref r_AND), .val (.int ((pb &&& (7 : Int32)) - (2 : Int32))), .unset] [])) t
        refine XS.goto X1.here hx rfl (pc0 := 28) (pc' := 34) rfl (hb hby at_28) (by decide) (by decide) ?_
        show Steps p.tables e below (T1.setTop (mkF m 34 #[.val (.int pa), .val (.int pb), .val (.int pc), .val (.int (0 : Int32)), .val (.ref r_AND), .val (.int ((pb &&& (7 : Int32)) - (2 : Int32))), .unset] [])) t
        refine XS.iloadN X1.here hx rfl (hb hby at_34) rfl ?_
        show Steps p.tables e below (T1.setTop (mkF m 35 #[.val (.int pa), .val (.int pb), .val (.int pc), .val (.int (0 : Int32)), .val (.ref r_AND), .val (.int ((pb &&& (7 : Int32)) - (2 : Int32))), .unset] [(.int (0 : Int32))])) t
        refine XS.ifYes X1.here hx rfl (pc0 := 35) (pc' := 43) rfl (hb hby at_35) rfl (XT.i0_eq_t (by decide)) (by decide) (by decide) ?_
        show Steps p.tables e below (T1.setTop (mkF m 43 #[.val (.int pa), .val (.int pb), .val (.int pc), .val (.int (0 : Int32)), .val (.ref r_AND), .val (.int ((pb &&& (7 : Int32)) - (2 : Int32))), .unset] [])) t
        refine XS.iload X1.here hx rfl (hb hby at_43) rfl ?_
        show Steps p.tables e below (T1.setTop (mkF m 45 #[.val (.int pa), .val (.int pb), .val (.int pc), .val (.int (0 : Int32)), .val (.ref r_AND), .val (.int ((pb &&& (7 : Int32)) - (2 : Int32))), .unset] [(.int ((pb &&& (7 : Int32)) - (2 : Int32)))])) t
        refine XS.iconst X1.here hx rfl (hb hby at_45) ?_
        exact kt
      by_cases c6 : ((pb &&& (7 : Int32)) - (2 : Int32)) < (2 : Int32)
      · -- ((pb &&& (7 : Int32)) - (2 : Int32)) < (2 : Int32)
        refine Goes.go (U' := (T1.setTop (mkF m 97 #[.val (.int pa), .val (.int pb), .val (.int pc), .val (.int (0 : Int32)), .val (.ref r_AND), .val (.int ((pb &&& (7 : Int32)) - (2 : Int32))), .val (.int (0 : Int32))] [(.int ((pb &&& (7 : Int32)) - (2 : Int32))), (.ref r_AND)]))) (fun t kt => ?_) ?_
        · show Steps p.tables e below (T1.setTop (mkF m 46 #[.val (.int pa), .val (.int pb), .val (.int pc), .val (.int (0 : Int32)), .val (.ref r_AND), .val (.int ((pb &&& (7 : Int32)) - (2 : Int32))), .unset] [(.int (2 : Int32)), (.int ((pb &&& (7 : Int32)) - (2 : Int32)))])) t
          refine XS.icmpYes X1.here hx rfl (pc0 := 46) (pc' := 53) rfl (hb hby at_46) rfl (XT.ii_lt_t c6) (by decide) (by decide) ?_
          show Steps p.tables e below (T1.setTop (mkF m 53 #[.val (.int pa), .val (.int pb), .val (.int pc), .val (.int (0 : Int32)), .val (.ref r_AND), .val (.int ((pb &&& (7 : Int32)) - (2 : Int32))), .unset] [])) t
          refine XS.iconst X1.here hx rfl (hb hby at_53) ?_
          show Steps p.tables e below (T1.setTop (mkF m 54 #[.val (.int pa), .val (.int pb), .val (.int pc), .val (.int (0 : Int32)), .val (.ref r_AND), .val (.int ((pb &&& (7 : Int32)) - (2 : Int32))), .unset] [(.int (0 : Int32))])) t
          refine XS.istore X1.here hx rfl (hb hby at_54) rfl (l' := #[.val (.int pa), .val (.int pb), .val (.int pc), .val (.int (0 : Int32)), .val (.ref r_AND), .val (.int ((pb &&& (7 : Int32)) - (2 : Int32))), .val (.int (0 : Int32))]) rfl ?_
          show Steps p.tables e below (T1.setTop (mkF m 56 #[.val (.int pa), .val (.int pb), .val (.int pc), .val (.int (0 : Int32)), .val (.ref r_AND), .val (.int ((pb &&& (7 : Int32)) - (2 : Int32))), .val (.int (0 : Int32))] [])) t
          refine XS.goto X1.here hx rfl (pc0 := 56) (pc' := 93) rfl (hb hby at_56) (by decide) (by decide) ?_
          show Steps p.tables e below (T1.setTop (mkF m 93 #[.val (.int pa), .val (.int pb), .val (.int pc), .val (.int (0 : Int32)), .val (.ref r_AND), .val (.int ((pb &&& (7 : Int32)) - (2 : Int32))), .val (.int (0 : Int32))] [])) t
          refine XS.aload X1.here hx rfl (hb hby at_93) rfl rfl ?_
          show Steps p.tables e below (T1.setTop (mkF m 95 #[.val (.int pa), .val (.int pb), .val (.int pc), .val (.int (0 : Int32)), .val (.ref r_AND), .val (.int ((pb &&& (7 : Int32)) - (2 : Int32))), .val (.int (0 : Int32))] [(.ref r_AND)])) t
          refine XS.iload X1.here hx rfl (hb hby at_95) rfl ?_
          exact kt
        obtain ⟨v7, T7, L7, X7, q7, st7⟩ := callVirtual X1 hx hZ (y := (⟨"com/example/thistle/thistle/language/Operator", "admits", "(I)Z"⟩ : MethodName)) (z := (⟨"com/example/thistle/thistle/language/Operator", "admits", "(I)Z"⟩ : MethodName)) (W := 0) hown (wdOf hw 8 rfl) (wdOf hw 9 rfl) (notFace_of_selects (args := #[]) (mvT hZ (wdOf hw 11 rfl))) (wdOf hw 11 rfl) (wdOf hw 10 rfl) (wdOf hw 6 rfl) (wdOf hw 12 rfl) (by decide) (rm_adm l Z a0 hw [] r_AND ((pb &&& (7 : Int32)) - (2 : Int32)) (2 : Int32) (2147483647 : Int32) (0 : Int32) h0 n0 Z0 F_fewestArguments_AND F_mostArguments_AND ((if_pos (Or.inl c6)).symm)) (by decide) (by decide) (by decide) (by decide) K1 E_AND (g := (mkF m 97 #[.val (.int pa), .val (.int pb), .val (.int pc), .val (.int (0 : Int32)), .val (.ref r_AND), .val (.int ((pb &&& (7 : Int32)) - (2 : Int32))), .val (.int (0 : Int32))] [(.int ((pb &&& (7 : Int32)) - (2 : Int32))), (.ref r_AND)])) rfl (by rw [hml]; rfl) (argsL := [(.int ((pb &&& (7 : Int32)) - (2 : Int32)))]) (rest := []) (lenOf pd_1 rfl) rfl rfl (Nat.le_refl _) (hb hby at_97)
        obtain ⟨rfl, n7, K7⟩ := q7
        have N7 := Fr.app N1 n7
        refine Goes.go (U' := (T7.setTop (mkF m 100 #[.val (.int pa), .val (.int pb), .val (.int pc), .val (.int (0 : Int32)), .val (.ref r_AND), .val (.int ((pb &&& (7 : Int32)) - (2 : Int32))), .val (.int (0 : Int32))] [(.int (0 : Int32))]))) st7 ?_
        refine Goes.go (U' := (T7.setTop (mkF m 110 #[.val (.int pa), .val (.int pb), .val (.int pc), .val (.int (0 : Int32)), .val (.ref r_AND), .val (.int ((pb &&& (7 : Int32)) - (2 : Int32))), .val (.int (0 : Int32))] [(.int (1 : Int32))]))) (fun t kt => ?_) ?_
        · show Steps p.tables e below (T7.setTop (mkF m 100 #[.val (.int pa), .val (.int pb), .val (.int pc), .val (.int (0 : Int32)), .val (.ref r_AND), .val (.int ((pb &&& (7 : Int32)) - (2 : Int32))), .val (.int (0 : Int32))] [(.int (0 : Int32))])) t
          refine XS.iload X7.here hx rfl (hb hby at_100) rfl ?_
          show Steps p.tables e below (T7.setTop (mkF m 102 #[.val (.int pa), .val (.int pb), .val (.int pc), .val (.int (0 : Int32)), .val (.ref r_AND), .val (.int ((pb &&& (7 : Int32)) - (2 : Int32))), .val (.int (0 : Int32))] [(.int (0 : Int32)), (.int (0 : Int32))])) t
          refine XS.icmpNo X7.here hx rfl (hb hby at_102) rfl (XT.ii_ne_f (by decide)) ?_
          show Steps p.tables e below (T7.setTop (mkF m 105 #[.val (.int pa), .val (.int pb), .val (.int pc), .val (.int (0 : Int32)), .val (.ref r_AND), .val (.int ((pb &&& (7 : Int32)) - (2 : Int32))), .val (.int (0 : Int32))] [])) t
          refine XS.iconst X7.here hx rfl (hb hby at_105) ?_
          show Steps p.tables e below (T7.setTop (mkF m 106 #[.val (.int pa), .val (.int pb), .val (.int pc), .val (.int (0 : Int32)), .val (.ref r_AND), .val (.int ((pb &&& (7 : Int32)) - (2 : Int32))), .val (.int (0 : Int32))] [(.int (1 : Int32))])) t
          refine XS.goto X7.here hx rfl (pc0 := 106) (pc' := 110) rfl (hb hby at_106) (by decide) (by decide) ?_
          exact kt
        refine Goes.retB X7 hx hlk hret (hb hby at_110) (by decide) (by decide) ?_
        try rw [K7]
        exact ⟨rfl, N7⟩
      · -- not ((pb &&& (7 : Int32)) - (2 : Int32)) < (2 : Int32)
        refine Goes.go (U' := (T1.setTop (mkF m 97 #[.val (.int pa), .val (.int pb), .val (.int pc), .val (.int (0 : Int32)), .val (.ref r_AND), .val (.int ((pb &&& (7 : Int32)) - (2 : Int32))), .val (.int (1 : Int32))] [(.int ((pb &&& (7 : Int32)) - (2 : Int32))), (.ref r_AND)]))) (fun t kt => ?_) ?_
        · show Steps p.tables e below (T1.setTop (mkF m 46 #[.val (.int pa), .val (.int pb), .val (.int pc), .val (.int (0 : Int32)), .val (.ref r_AND), .val (.int ((pb &&& (7 : Int32)) - (2 : Int32))), .unset] [(.int (2 : Int32)), (.int ((pb &&& (7 : Int32)) - (2 : Int32)))])) t
          refine XS.icmpNo X1.here hx rfl (hb hby at_46) rfl (XT.ii_lt_f c6) ?_
          show Steps p.tables e below (T1.setTop (mkF m 49 #[.val (.int pa), .val (.int pb), .val (.int pc), .val (.int (0 : Int32)), .val (.ref r_AND), .val (.int ((pb &&& (7 : Int32)) - (2 : Int32))), .unset] [])) t
          refine XS.iconst X1.here hx rfl (hb hby at_49) ?_
          show Steps p.tables e below (T1.setTop (mkF m 50 #[.val (.int pa), .val (.int pb), .val (.int pc), .val (.int (0 : Int32)), .val (.ref r_AND), .val (.int ((pb &&& (7 : Int32)) - (2 : Int32))), .unset] [(.int (1 : Int32))])) t
          refine XS.goto X1.here hx rfl (pc0 := 50) (pc' := 54) rfl (hb hby at_50) (by decide) (by decide) ?_
          show Steps p.tables e below (T1.setTop (mkF m 54 #[.val (.int pa), .val (.int pb), .val (.int pc), .val (.int (0 : Int32)), .val (.ref r_AND), .val (.int ((pb &&& (7 : Int32)) - (2 : Int32))), .unset] [(.int (1 : Int32))])) t
          refine XS.istore X1.here hx rfl (hb hby at_54) rfl (l' := #[.val (.int pa), .val (.int pb), .val (.int pc), .val (.int (0 : Int32)), .val (.ref r_AND), .val (.int ((pb &&& (7 : Int32)) - (2 : Int32))), .val (.int (1 : Int32))]) rfl ?_
          show Steps p.tables e below (T1.setTop (mkF m 56 #[.val (.int pa), .val (.int pb), .val (.int pc), .val (.int (0 : Int32)), .val (.ref r_AND), .val (.int ((pb &&& (7 : Int32)) - (2 : Int32))), .val (.int (1 : Int32))] [])) t
          refine XS.goto X1.here hx rfl (pc0 := 56) (pc' := 93) rfl (hb hby at_56) (by decide) (by decide) ?_
          show Steps p.tables e below (T1.setTop (mkF m 93 #[.val (.int pa), .val (.int pb), .val (.int pc), .val (.int (0 : Int32)), .val (.ref r_AND), .val (.int ((pb &&& (7 : Int32)) - (2 : Int32))), .val (.int (1 : Int32))] [])) t
          refine XS.aload X1.here hx rfl (hb hby at_93) rfl rfl ?_
          show Steps p.tables e below (T1.setTop (mkF m 95 #[.val (.int pa), .val (.int pb), .val (.int pc), .val (.int (0 : Int32)), .val (.ref r_AND), .val (.int ((pb &&& (7 : Int32)) - (2 : Int32))), .val (.int (1 : Int32))] [(.ref r_AND)])) t
          refine XS.iload X1.here hx rfl (hb hby at_95) rfl ?_
          exact kt
        obtain ⟨v8, T8, L8, X8, q8, st8⟩ := callVirtual X1 hx hZ (y := (⟨"com/example/thistle/thistle/language/Operator", "admits", "(I)Z"⟩ : MethodName)) (z := (⟨"com/example/thistle/thistle/language/Operator", "admits", "(I)Z"⟩ : MethodName)) (W := 0) hown (wdOf hw 8 rfl) (wdOf hw 9 rfl) (notFace_of_selects (args := #[]) (mvT hZ (wdOf hw 11 rfl))) (wdOf hw 11 rfl) (wdOf hw 10 rfl) (wdOf hw 6 rfl) (wdOf hw 12 rfl) (by decide) (rm_adm l Z a0 hw [] r_AND ((pb &&& (7 : Int32)) - (2 : Int32)) (2 : Int32) (2147483647 : Int32) (1 : Int32) h0 n0 Z0 F_fewestArguments_AND F_mostArguments_AND ((if_neg (fun q => q.elim c6 own_hi)).symm)) (by decide) (by decide) (by decide) (by decide) K1 E_AND (g := (mkF m 97 #[.val (.int pa), .val (.int pb), .val (.int pc), .val (.int (0 : Int32)), .val (.ref r_AND), .val (.int ((pb &&& (7 : Int32)) - (2 : Int32))), .val (.int (1 : Int32))] [(.int ((pb &&& (7 : Int32)) - (2 : Int32))), (.ref r_AND)])) rfl (by rw [hml]; rfl) (argsL := [(.int ((pb &&& (7 : Int32)) - (2 : Int32)))]) (rest := []) (lenOf pd_1 rfl) rfl rfl (Nat.le_refl _) (hb hby at_97)
        obtain ⟨rfl, n8, K8⟩ := q8
        have N8 := Fr.app N1 n8
        refine Goes.go (U' := (T8.setTop (mkF m 100 #[.val (.int pa), .val (.int pb), .val (.int pc), .val (.int (0 : Int32)), .val (.ref r_AND), .val (.int ((pb &&& (7 : Int32)) - (2 : Int32))), .val (.int (1 : Int32))] [(.int (1 : Int32))]))) st8 ?_
        refine Goes.go (U' := (T8.setTop (mkF m 110 #[.val (.int pa), .val (.int pb), .val (.int pc), .val (.int (0 : Int32)), .val (.ref r_AND), .val (.int ((pb &&& (7 : Int32)) - (2 : Int32))), .val (.int (1 : Int32))] [(.int (1 : Int32))]))) (fun t kt => ?_) ?_
        · show Steps p.tables e below (T8.setTop (mkF m 100 #[.val (.int pa), .val (.int pb), .val (.int pc), .val (.int (0 : Int32)), .val (.ref r_AND), .val (.int ((pb &&& (7 : Int32)) - (2 : Int32))), .val (.int (1 : Int32))] [(.int (1 : Int32))])) t
          refine XS.iload X8.here hx rfl (hb hby at_100) rfl ?_
          show Steps p.tables e below (T8.setTop (mkF m 102 #[.val (.int pa), .val (.int pb), .val (.int pc), .val (.int (0 : Int32)), .val (.ref r_AND), .val (.int ((pb &&& (7 : Int32)) - (2 : Int32))), .val (.int (1 : Int32))] [(.int (1 : Int32)), (.int (1 : Int32))])) t
          refine XS.icmpNo X8.here hx rfl (hb hby at_102) rfl (XT.ii_ne_f (by decide)) ?_
          show Steps p.tables e below (T8.setTop (mkF m 105 #[.val (.int pa), .val (.int pb), .val (.int pc), .val (.int (0 : Int32)), .val (.ref r_AND), .val (.int ((pb &&& (7 : Int32)) - (2 : Int32))), .val (.int (1 : Int32))] [])) t
          refine XS.iconst X8.here hx rfl (hb hby at_105) ?_
          show Steps p.tables e below (T8.setTop (mkF m 106 #[.val (.int pa), .val (.int pb), .val (.int pc), .val (.int (0 : Int32)), .val (.ref r_AND), .val (.int ((pb &&& (7 : Int32)) - (2 : Int32))), .val (.int (1 : Int32))] [(.int (1 : Int32))])) t
          refine XS.goto X8.here hx rfl (pc0 := 106) (pc' := 110) rfl (hb hby at_106) (by decide) (by decide) ?_
          exact kt
        refine Goes.retB X8 hx hlk hret (hb hby at_110) (by decide) (by decide) ?_
        try rw [K8]
        exact ⟨rfl, N8⟩
  · -- case 1
    rw [hk]
    refine Goes.go (U' := (s₁.setTop (mkF m 9 #[.val (.int pa), .val (.int pb), .val (.int pc), .val (.int (1 : Int32)), .unset, .unset, .unset] [(.int (1 : Int32))]))) (fun t kt => ?_) ?_
    · show Steps p.tables e below (s₁.setTop (mkF m 7 #[.val (.int pa), .val (.int pb), .val (.int pc), .unset, .unset, .unset, .unset] [(.int (1 : Int32))])) t
      refine XS.istoreN X0.here hx rfl (hb hby at_7) rfl (l' := #[.val (.int pa), .val (.int pb), .val (.int pc), .val (.int (1 : Int32)), .unset, .unset, .unset]) rfl ?_
      show Steps p.tables e below (s₁.setTop (mkF m 8 #[.val (.int pa), .val (.int pb), .val (.int pc), .val (.int (1 : Int32)), .unset, .unset, .unset] [])) t
      refine XS.iloadN X0.here hx rfl (hb hby at_8) rfl ?_
      exact kt
    obtain ⟨v9, T9, L9, X9, q9, st9⟩ := callStatic X0 hx hZ (y := (⟨"com/example/thistle/thistle/language/OperatorAdmitsPinLaw", "pick", "(I)Lcom/example/thistle/thistle/language/Operator;"⟩ : MethodName)) (W := 0) hown (wdOf hw 1 rfl) (wdOf hw 2 rfl) (wdOf hw 3 rfl) (wdOf hw 4 rfl) (by decide) (rm_pick l Z a0 hw [] (1 : Int32) r_OR r_AND r_OR r_NOT r_EQUAL r_IN r_GREATER_THAN r_LESS_THAN r_GREATER_THAN_OR_EQUAL r_LESS_THAN_OR_EQUAL r_ADD r_SUBTRACT r_MULTIPLY r_DIVIDE h0 n0 Z0 S_AND S_OR S_NOT S_EQUAL S_IN S_GREATER_THAN S_LESS_THAN S_GREATER_THAN_OR_EQUAL S_LESS_THAN_OR_EQUAL S_ADD S_SUBTRACT S_MULTIPLY S_DIVIDE (by simp)) (by decide) (by decide) (by decide) (by decide) e0 (g := (mkF m 9 #[.val (.int pa), .val (.int pb), .val (.int pc), .val (.int (1 : Int32)), .unset, .unset, .unset] [(.int (1 : Int32))])) rfl (by rw [hml]; rfl) (argsL := [(.int (1 : Int32))]) (rest := []) (lenOf pd_0 rfl) rfl rfl (Nat.le_refl _) (hb hby at_9)
    obtain ⟨rfl, n9, K9⟩ := q9
    have N9 := Fr.app N0 n9
    refine Goes.go (U' := (T9.setTop (mkF m 12 #[.val (.int pa), .val (.int pb), .val (.int pc), .val (.int (1 : Int32)), .unset, .unset, .unset] [(.ref r_OR)]))) st9 ?_
    refine Goes.go (U' := (T9.setTop (mkF m 17 #[.val (.int pa), .val (.int pb), .val (.int pc), .val (.int (1 : Int32)), .val (.ref r_OR), .unset, .unset] [(.int (pc &&& (1 : Int32)))]))) (fun t kt => ?_) ?_
    · show Steps p.tables e below (T9.setTop (mkF m 12 #[.val (.int pa), .val (.int pb), .val (.int pc), .val (.int (1 : Int32)), .unset, .unset, .unset] [(.ref r_OR)])) t
      refine XS.astore X9.here hx rfl (hb hby at_12) rfl rfl (l' := #[.val (.int pa), .val (.int pb), .val (.int pc), .val (.int (1 : Int32)), .val (.ref r_OR), .unset, .unset]) rfl ?_
      show Steps p.tables e below (T9.setTop (mkF m 14 #[.val (.int pa), .val (.int pb), .val (.int pc), .val (.int (1 : Int32)), .val (.ref r_OR), .unset, .unset] [])) t
      refine XS.iloadN X9.here hx rfl (hb hby at_14) rfl ?_
      show Steps p.tables e below (T9.setTop (mkF m 15 #[.val (.int pa), .val (.int pb), .val (.int pc), .val (.int (1 : Int32)), .val (.ref r_OR), .unset, .unset] [(.int pc)])) t
      refine XS.iconst X9.here hx rfl (hb hby at_15) ?_
      show Steps p.tables e below (T9.setTop (mkF m 16 #[.val (.int pa), .val (.int pb), .val (.int pc), .val (.int (1 : Int32)), .val (.ref r_OR), .unset, .unset] [(.int (1 : Int32)), (.int pc)])) t
      refine XS.iand X9.here hx rfl (hb hby at_16) rfl ?_
      exact kt
    by_cases c10 : (pc &&& (1 : Int32)) = 0
    · -- (pc &&& (1 : Int32)) = 0
      refine Goes.go (U' := (T9.setTop (mkF m 46 #[.val (.int pa), .val (.int pb), .val (.int pc), .val (.int (1 : Int32)), .val (.ref r_OR), .val (.int pb), .unset] [(.int (2 : Int32)), (.int pb)]))) (fun t kt => ?_) ?_
      · show Steps p.tables e below (T9.setTop (mkF m 17 #[.val (.int pa), .val (.int pb), .val (.int pc), .val (.int (1 : Int32)), .val (.ref r_OR), .unset, .unset] [(.int (pc &&& (1 : Int32)))])) t
        refine XS.ifYes X9.here hx rfl (pc0 := 17) (pc' := 31) rfl (hb hby at_17) rfl (XT.i0_eq_t c10) (by decide) (by decide) ?_
        show Steps p.tables e below (T9.setTop (mkF m 31 #[.val (.int pa), .val (.int pb), .val (.int pc), .val (.int (1 : Int32)), .val (.ref r_OR), .unset, .unset] [])) t
        refine XS.iloadN X9.here hx rfl (hb hby at_31) rfl ?_
        show Steps p.tables e below (T9.setTop (mkF m 32 #[.val (.int pa), .val (.int pb), .val (.int pc), .val (.int (1 : Int32)), .val (.ref r_OR), .unset, .unset] [(.int pb)])) t
        refine XS.istore X9.here hx rfl (hb hby at_32) rfl (l' := #[.val (.int pa), .val (.int pb), .val (.int pc), .val (.int (1 : Int32)), .val (.ref r_OR), .val (.int pb), .unset]) rfl ?_
        show Steps p.tables e below (T9.setTop (mkF m 34 #[.val (.int pa), .val (.int pb), .val (.int pc), .val (.int (1 : Int32)), .val (.ref r_OR), .val (.int pb), .unset] [])) t
        refine XS.iloadN X9.here hx rfl (hb hby at_34) rfl ?_
        show Steps p.tables e below (T9.setTop (mkF m 35 #[.val (.int pa), .val (.int pb), .val (.int pc), .val (.int (1 : Int32)), .val (.ref r_OR), .val (.int pb), .unset] [(.int (1 : Int32))])) t
        refine XS.ifNo X9.here hx rfl (hb hby at_35) rfl (XT.i0_eq_f (by decide)) ?_
        show Steps p.tables e below (T9.setTop (mkF m 38 #[.val (.int pa), .val (.int pb), .val (.int pc), .val (.int (1 : Int32)), .val (.ref r_OR), .val (.int pb), .unset] [])) t
        refine XS.iloadN X9.here hx rfl (hb hby at_38) rfl ?_
        show Steps p.tables e below (T9.setTop (mkF m 39 #[.val (.int pa), .val (.int pb), .val (.int pc), .val (.int (1 : Int32)), .val (.ref r_OR), .val (.int pb), .unset] [(.int (1 : Int32))])) t
        refine XS.iconst X9.here hx rfl (hb hby at_39) ?_
        show Steps p.tables e below (T9.setTop (mkF m 40 #[.val (.int pa), .val (.int pb), .val (.int pc), .val (.int (1 : Int32)), .val (.ref r_OR), .val (.int pb), .unset] [(.int (1 : Int32)), (.int (1 : Int32))])) t
        refine XS.icmpNo X9.here hx rfl (hb hby at_40) rfl (XT.ii_ne_f (by decide)) ?_
        show Steps p.tables e below (T9.setTop (mkF m 43 #[.val (.int pa), .val (.int pb), .val (.int pc), .val (.int (1 : Int32)), .val (.ref r_OR), .val (.int pb), .unset] [])) t
        refine XS.iload X9.here hx rfl (hb hby at_43) rfl ?_
        show Steps p.tables e below (T9.setTop (mkF m 45 #[.val (.int pa), .val (.int pb), .val (.int pc), .val (.int (1 : Int32)), .val (.ref r_OR), .val (.int pb), .unset] [(.int pb)])) t
        refine XS.iconst X9.here hx rfl (hb hby at_45) ?_
        exact kt
      by_cases c11 : pb < (2 : Int32)
      · -- pb < (2 : Int32)
        refine Goes.go (U' := (T9.setTop (mkF m 97 #[.val (.int pa), .val (.int pb), .val (.int pc), .val (.int (1 : Int32)), .val (.ref r_OR), .val (.int pb), .val (.int (0 : Int32))] [(.int pb), (.ref r_OR)]))) (fun t kt => ?_) ?_
        · show Steps p.tables e below (T9.setTop (mkF m 46 #[.val (.int pa), .val (.int pb), .val (.int pc), .val (.int (1 : Int32)), .val (.ref r_OR), .val (.int pb), .unset] [(.int (2 : Int32)), (.int pb)])) t
          refine XS.icmpYes X9.here hx rfl (pc0 := 46) (pc' := 53) rfl (hb hby at_46) rfl (XT.ii_lt_t c11) (by decide) (by decide) ?_
          show Steps p.tables e below (T9.setTop (mkF m 53 #[.val (.int pa), .val (.int pb), .val (.int pc), .val (.int (1 : Int32)), .val (.ref r_OR), .val (.int pb), .unset] [])) t
          refine XS.iconst X9.here hx rfl (hb hby at_53) ?_
          show Steps p.tables e below (T9.setTop (mkF m 54 #[.val (.int pa), .val (.int pb), .val (.int pc), .val (.int (1 : Int32)), .val (.ref r_OR), .val (.int pb), .unset] [(.int (0 : Int32))])) t
          refine XS.istore X9.here hx rfl (hb hby at_54) rfl (l' := #[.val (.int pa), .val (.int pb), .val (.int pc), .val (.int (1 : Int32)), .val (.ref r_OR), .val (.int pb), .val (.int (0 : Int32))]) rfl ?_
          show Steps p.tables e below (T9.setTop (mkF m 56 #[.val (.int pa), .val (.int pb), .val (.int pc), .val (.int (1 : Int32)), .val (.ref r_OR), .val (.int pb), .val (.int (0 : Int32))] [])) t
          refine XS.goto X9.here hx rfl (pc0 := 56) (pc' := 93) rfl (hb hby at_56) (by decide) (by decide) ?_
          show Steps p.tables e below (T9.setTop (mkF m 93 #[.val (.int pa), .val (.int pb), .val (.int pc), .val (.int (1 : Int32)), .val (.ref r_OR), .val (.int pb), .val (.int (0 : Int32))] [])) t
          refine XS.aload X9.here hx rfl (hb hby at_93) rfl rfl ?_
          show Steps p.tables e below (T9.setTop (mkF m 95 #[.val (.int pa), .val (.int pb), .val (.int pc), .val (.int (1 : Int32)), .val (.ref r_OR), .val (.int pb), .val (.int (0 : Int32))] [(.ref r_OR)])) t
          refine XS.iload X9.here hx rfl (hb hby at_95) rfl ?_
          exact kt
        obtain ⟨v12, T12, L12, X12, q12, st12⟩ := callVirtual X9 hx hZ (y := (⟨"com/example/thistle/thistle/language/Operator", "admits", "(I)Z"⟩ : MethodName)) (z := (⟨"com/example/thistle/thistle/language/Operator", "admits", "(I)Z"⟩ : MethodName)) (W := 0) hown (wdOf hw 8 rfl) (wdOf hw 9 rfl) (notFace_of_selects (args := #[]) (mvT hZ (wdOf hw 11 rfl))) (wdOf hw 11 rfl) (wdOf hw 10 rfl) (wdOf hw 6 rfl) (wdOf hw 12 rfl) (by decide) (rm_adm l Z a0 hw [] r_OR pb (2 : Int32) (2147483647 : Int32) (0 : Int32) h0 n0 Z0 F_fewestArguments_OR F_mostArguments_OR ((if_pos (Or.inl c11)).symm)) (by decide) (by decide) (by decide) (by decide) K9 E_OR (g := (mkF m 97 #[.val (.int pa), .val (.int pb), .val (.int pc), .val (.int (1 : Int32)), .val (.ref r_OR), .val (.int pb), .val (.int (0 : Int32))] [(.int pb), (.ref r_OR)])) rfl (by rw [hml]; rfl) (argsL := [(.int pb)]) (rest := []) (lenOf pd_1 rfl) rfl rfl (Nat.le_refl _) (hb hby at_97)
        obtain ⟨rfl, n12, K12⟩ := q12
        have N12 := Fr.app N9 n12
        refine Goes.go (U' := (T12.setTop (mkF m 100 #[.val (.int pa), .val (.int pb), .val (.int pc), .val (.int (1 : Int32)), .val (.ref r_OR), .val (.int pb), .val (.int (0 : Int32))] [(.int (0 : Int32))]))) st12 ?_
        refine Goes.go (U' := (T12.setTop (mkF m 110 #[.val (.int pa), .val (.int pb), .val (.int pc), .val (.int (1 : Int32)), .val (.ref r_OR), .val (.int pb), .val (.int (0 : Int32))] [(.int (1 : Int32))]))) (fun t kt => ?_) ?_
        · show Steps p.tables e below (T12.setTop (mkF m 100 #[.val (.int pa), .val (.int pb), .val (.int pc), .val (.int (1 : Int32)), .val (.ref r_OR), .val (.int pb), .val (.int (0 : Int32))] [(.int (0 : Int32))])) t
          refine XS.iload X12.here hx rfl (hb hby at_100) rfl ?_
          show Steps p.tables e below (T12.setTop (mkF m 102 #[.val (.int pa), .val (.int pb), .val (.int pc), .val (.int (1 : Int32)), .val (.ref r_OR), .val (.int pb), .val (.int (0 : Int32))] [(.int (0 : Int32)), (.int (0 : Int32))])) t
          refine XS.icmpNo X12.here hx rfl (hb hby at_102) rfl (XT.ii_ne_f (by decide)) ?_
          show Steps p.tables e below (T12.setTop (mkF m 105 #[.val (.int pa), .val (.int pb), .val (.int pc), .val (.int (1 : Int32)), .val (.ref r_OR), .val (.int pb), .val (.int (0 : Int32))] [])) t
          refine XS.iconst X12.here hx rfl (hb hby at_105) ?_
          show Steps p.tables e below (T12.setTop (mkF m 106 #[.val (.int pa), .val (.int pb), .val (.int pc), .val (.int (1 : Int32)), .val (.ref r_OR), .val (.int pb), .val (.int (0 : Int32))] [(.int (1 : Int32))])) t
          refine XS.goto X12.here hx rfl (pc0 := 106) (pc' := 110) rfl (hb hby at_106) (by decide) (by decide) ?_
          exact kt
        refine Goes.retB X12 hx hlk hret (hb hby at_110) (by decide) (by decide) ?_
        try rw [K12]
        exact ⟨rfl, N12⟩
      · -- not pb < (2 : Int32)
        refine Goes.go (U' := (T9.setTop (mkF m 97 #[.val (.int pa), .val (.int pb), .val (.int pc), .val (.int (1 : Int32)), .val (.ref r_OR), .val (.int pb), .val (.int (1 : Int32))] [(.int pb), (.ref r_OR)]))) (fun t kt => ?_) ?_
        · show Steps p.tables e below (T9.setTop (mkF m 46 #[.val (.int pa), .val (.int pb), .val (.int pc), .val (.int (1 : Int32)), .val (.ref r_OR), .val (.int pb), .unset] [(.int (2 : Int32)), (.int pb)])) t
          refine XS.icmpNo X9.here hx rfl (hb hby at_46) rfl (XT.ii_lt_f c11) ?_
          show Steps p.tables e below (T9.setTop (mkF m 49 #[.val (.int pa), .val (.int pb), .val (.int pc), .val (.int (1 : Int32)), .val (.ref r_OR), .val (.int pb), .unset] [])) t
          refine XS.iconst X9.here hx rfl (hb hby at_49) ?_
          show Steps p.tables e below (T9.setTop (mkF m 50 #[.val (.int pa), .val (.int pb), .val (.int pc), .val (.int (1 : Int32)), .val (.ref r_OR), .val (.int pb), .unset] [(.int (1 : Int32))])) t
          refine XS.goto X9.here hx rfl (pc0 := 50) (pc' := 54) rfl (hb hby at_50) (by decide) (by decide) ?_
          show Steps p.tables e below (T9.setTop (mkF m 54 #[.val (.int pa), .val (.int pb), .val (.int pc), .val (.int (1 : Int32)), .val (.ref r_OR), .val (.int pb), .unset] [(.int (1 : Int32))])) t
          refine XS.istore X9.here hx rfl (hb hby at_54) rfl (l' := #[.val (.int pa), .val (.int pb), .val (.int pc), .val (.int (1 : Int32)), .val (.ref r_OR), .val (.int pb), .val (.int (1 : Int32))]) rfl ?_
          show Steps p.tables e below (T9.setTop (mkF m 56 #[.val (.int pa), .val (.int pb), .val (.int pc), .val (.int (1 : Int32)), .val (.ref r_OR), .val (.int pb), .val (.int (1 : Int32))] [])) t
          refine XS.goto X9.here hx rfl (pc0 := 56) (pc' := 93) rfl (hb hby at_56) (by decide) (by decide) ?_
          show Steps p.tables e below (T9.setTop (mkF m 93 #[.val (.int pa), .val (.int pb), .val (.int pc), .val (.int (1 : Int32)), .val (.ref r_OR), .val (.int pb), .val (.int (1 : Int32))] [])) t
          refine XS.aload X9.here hx rfl (hb hby at_93) rfl rfl ?_
          show Steps p.tables e below (T9.setTop (mkF m 95 #[.val (.int pa), .val (.int pb), .val (.int pc), .val (.int (1 : Int32)), .val (.ref r_OR), .val (.int pb), .val (.int (1 : Int32))] [(.ref r_OR)])) t
          refine XS.iload X9.here hx rfl (hb hby at_95) rfl ?_
          exact kt
        obtain ⟨v13, T13, L13, X13, q13, st13⟩ := callVirtual X9 hx hZ (y := (⟨"com/example/thistle/thistle/language/Operator", "admits", "(I)Z"⟩ : MethodName)) (z := (⟨"com/example/thistle/thistle/language/Operator", "admits", "(I)Z"⟩ : MethodName)) (W := 0) hown (wdOf hw 8 rfl) (wdOf hw 9 rfl) (notFace_of_selects (args := #[]) (mvT hZ (wdOf hw 11 rfl))) (wdOf hw 11 rfl) (wdOf hw 10 rfl) (wdOf hw 6 rfl) (wdOf hw 12 rfl) (by decide) (rm_adm l Z a0 hw [] r_OR pb (2 : Int32) (2147483647 : Int32) (1 : Int32) h0 n0 Z0 F_fewestArguments_OR F_mostArguments_OR ((if_neg (fun q => q.elim c11 own_hi)).symm)) (by decide) (by decide) (by decide) (by decide) K9 E_OR (g := (mkF m 97 #[.val (.int pa), .val (.int pb), .val (.int pc), .val (.int (1 : Int32)), .val (.ref r_OR), .val (.int pb), .val (.int (1 : Int32))] [(.int pb), (.ref r_OR)])) rfl (by rw [hml]; rfl) (argsL := [(.int pb)]) (rest := []) (lenOf pd_1 rfl) rfl rfl (Nat.le_refl _) (hb hby at_97)
        obtain ⟨rfl, n13, K13⟩ := q13
        have N13 := Fr.app N9 n13
        refine Goes.go (U' := (T13.setTop (mkF m 100 #[.val (.int pa), .val (.int pb), .val (.int pc), .val (.int (1 : Int32)), .val (.ref r_OR), .val (.int pb), .val (.int (1 : Int32))] [(.int (1 : Int32))]))) st13 ?_
        refine Goes.go (U' := (T13.setTop (mkF m 110 #[.val (.int pa), .val (.int pb), .val (.int pc), .val (.int (1 : Int32)), .val (.ref r_OR), .val (.int pb), .val (.int (1 : Int32))] [(.int (1 : Int32))]))) (fun t kt => ?_) ?_
        · show Steps p.tables e below (T13.setTop (mkF m 100 #[.val (.int pa), .val (.int pb), .val (.int pc), .val (.int (1 : Int32)), .val (.ref r_OR), .val (.int pb), .val (.int (1 : Int32))] [(.int (1 : Int32))])) t
          refine XS.iload X13.here hx rfl (hb hby at_100) rfl ?_
          show Steps p.tables e below (T13.setTop (mkF m 102 #[.val (.int pa), .val (.int pb), .val (.int pc), .val (.int (1 : Int32)), .val (.ref r_OR), .val (.int pb), .val (.int (1 : Int32))] [(.int (1 : Int32)), (.int (1 : Int32))])) t
          refine XS.icmpNo X13.here hx rfl (hb hby at_102) rfl (XT.ii_ne_f (by decide)) ?_
          show Steps p.tables e below (T13.setTop (mkF m 105 #[.val (.int pa), .val (.int pb), .val (.int pc), .val (.int (1 : Int32)), .val (.ref r_OR), .val (.int pb), .val (.int (1 : Int32))] [])) t
          refine XS.iconst X13.here hx rfl (hb hby at_105) ?_
          show Steps p.tables e below (T13.setTop (mkF m 106 #[.val (.int pa), .val (.int pb), .val (.int pc), .val (.int (1 : Int32)), .val (.ref r_OR), .val (.int pb), .val (.int (1 : Int32))] [(.int (1 : Int32))])) t
          refine XS.goto X13.here hx rfl (pc0 := 106) (pc' := 110) rfl (hb hby at_106) (by decide) (by decide) ?_
          exact kt
        refine Goes.retB X13 hx hlk hret (hb hby at_110) (by decide) (by decide) ?_
        try rw [K13]
        exact ⟨rfl, N13⟩
    · -- not (pc &&& (1 : Int32)) = 0
      refine Goes.go (U' := (T9.setTop (mkF m 46 #[.val (.int pa), .val (.int pb), .val (.int pc), .val (.int (1 : Int32)), .val (.ref r_OR), .val (.int ((pb &&& (7 : Int32)) - (2 : Int32))), .unset] [(.int (2 : Int32)), (.int ((pb &&& (7 : Int32)) - (2 : Int32)))]))) (fun t kt => ?_) ?_
      · show Steps p.tables e below (T9.setTop (mkF m 17 #[.val (.int pa), .val (.int pb), .val (.int pc), .val (.int (1 : Int32)), .val (.ref r_OR), .unset, .unset] [(.int (pc &&& (1 : Int32)))])) t
        refine XS.ifNo X9.here hx rfl (hb hby at_17) rfl (XT.i0_eq_f c10) ?_
        show Steps p.tables e below (T9.setTop (mkF m 20 #[.val (.int pa), .val (.int pb), .val (.int pc), .val (.int (1 : Int32)), .val (.ref r_OR), .unset, .unset] [])) t
        refine XS.iloadN X9.here hx rfl (hb hby at_20) rfl ?_
        show Steps p.tables e below (T9.setTop (mkF m 21 #[.val (.int pa), .val (.int pb), .val (.int pc), .val (.int (1 : Int32)), .val (.ref r_OR), .unset, .unset] [(.int pb)])) t
        refine XS.bipush X9.here hx rfl (hb hby at_21) ?_
        show Steps p.tables e below (T9.setTop (mkF m 23 #[.val (.int pa), .val (.int pb), .val (.int pc), .val (.int (1 : Int32)), .val (.ref r_OR), .unset, .unset] [(.int (7 : Int32)), (.int pb)])) t
        refine XS.iand X9.here hx rfl (hb hby at_23) rfl ?_
        show Steps p.tables e below (T9.setTop (mkF m 24 #[.val (.int pa), .val (.int pb), .val (.int pc), .val (.int (1 : Int32)), .val (.ref r_OR), .unset, .unset] [(.int (pb &&& (7 : Int32)))])) t
        refine XS.iconst X9.here hx rfl (hb hby at_24) ?_
        show Steps p.tables e below (T9.setTop (mkF m 25 #[.val (.int pa), .val (.int pb), .val (.int pc), .val (.int (1 : Int32)), .val (.ref r_OR), .unset, .unset] [(.int (2 : Int32)), (.int (pb &&& (7 : Int32)))])) t
        refine XS.isub X9.here hx rfl (hb hby at_25) rfl ?_
        show Steps p.tables e below (T9.setTop (mkF m 26 #[.val (.int pa), .val (.int pb), .val (.int pc), .val (.int (1 : Int32)), .val (.ref r_OR), .unset, .unset] [(.int ((pb &&& (7 : Int32)) - (2 : Int32)))])) t
        refine XS.istore X9.here hx rfl (hb hby at_26) rfl (l' := #[.val (.int pa), .val (.int pb), .val (.int pc), .val (.int (1 : Int32)), .val (.ref r_OR), .val (.int ((pb &&& (7 : Int32)) - (2 : Int32))), .unset]) rfl ?_
        show Steps p.tables e below (T9.setTop (mkF m 28 #[.val (.int pa), .val (.int pb), .val (.int pc), .val (.int (1 : Int32)), .val (.ref r_OR), .val (.int ((pb &&& (7 : Int32)) - (2 : Int32))), .unset] [])) t
        refine XS.goto X9.here hx rfl (pc0 := 28) (pc' := 34) rfl (hb hby at_28) (by decide) (by decide) ?_
        show Steps p.tables e below (T9.setTop (mkF m 34 #[.val (.int pa), .val (.int pb), .val (.int pc), .val (.int (1 : Int32)), .val (.ref r_OR), .val (.int ((pb &&& (7 : Int32)) - (2 : Int32))), .unset] [])) t
        refine XS.iloadN X9.here hx rfl (hb hby at_34) rfl ?_
        show Steps p.tables e below (T9.setTop (mkF m 35 #[.val (.int pa), .val (.int pb), .val (.int pc), .val (.int (1 : Int32)), .val (.ref r_OR), .val (.int ((pb &&& (7 : Int32)) - (2 : Int32))), .unset] [(.int (1 : Int32))])) t
        refine XS.ifNo X9.here hx rfl (hb hby at_35) rfl (XT.i0_eq_f (by decide)) ?_
        show Steps p.tables e below (T9.setTop (mkF m 38 #[.val (.int pa), .val (.int pb), .val (.int pc), .val (.int (1 : Int32)), .val (.ref r_OR), .val (.int ((pb &&& (7 : Int32)) - (2 : Int32))), .unset] [])) t
        refine XS.iloadN X9.here hx rfl (hb hby at_38) rfl ?_
        show Steps p.tables e below (T9.setTop (mkF m 39 #[.val (.int pa), .val (.int pb), .val (.int pc), .val (.int (1 : Int32)), .val (.ref r_OR), .val (.int ((pb &&& (7 : Int32)) - (2 : Int32))), .unset] [(.int (1 : Int32))])) t
        refine XS.iconst X9.here hx rfl (hb hby at_39) ?_
        show Steps p.tables e below (T9.setTop (mkF m 40 #[.val (.int pa), .val (.int pb), .val (.int pc), .val (.int (1 : Int32)), .val (.ref r_OR), .val (.int ((pb &&& (7 : Int32)) - (2 : Int32))), .unset] [(.int (1 : Int32)), (.int (1 : Int32))])) t
        refine XS.icmpNo X9.here hx rfl (hb hby at_40) rfl (XT.ii_ne_f (by decide)) ?_
        show Steps p.tables e below (T9.setTop (mkF m 43 #[.val (.int pa), .val (.int pb), .val (.int pc), .val (.int (1 : Int32)), .val (.ref r_OR), .val (.int ((pb &&& (7 : Int32)) - (2 : Int32))), .unset] [])) t
        refine XS.iload X9.here hx rfl (hb hby at_43) rfl ?_
        show Steps p.tables e below (T9.setTop (mkF m 45 #[.val (.int pa), .val (.int pb), .val (.int pc), .val (.int (1 : Int32)), .val (.ref r_OR), .val (.int ((pb &&& (7 : Int32)) - (2 : Int32))), .unset] [(.int ((pb &&& (7 : Int32)) - (2 : Int32)))])) t
        refine XS.iconst X9.here hx rfl (hb hby at_45) ?_
        exact kt
      by_cases c14 : ((pb &&& (7 : Int32)) - (2 : Int32)) < (2 : Int32)
      · -- ((pb &&& (7 : Int32)) - (2 : Int32)) < (2 : Int32)
        refine Goes.go (U' := (T9.setTop (mkF m 97 #[.val (.int pa), .val (.int pb), .val (.int pc), .val (.int (1 : Int32)), .val (.ref r_OR), .val (.int ((pb &&& (7 : Int32)) - (2 : Int32))), .val (.int (0 : Int32))] [(.int ((pb &&& (7 : Int32)) - (2 : Int32))), (.ref r_OR)]))) (fun t kt => ?_) ?_
        · show Steps p.tables e below (T9.setTop (mkF m 46 #[.val (.int pa), .val (.int pb), .val (.int pc), .val (.int (1 : Int32)), .val (.ref r_OR), .val (.int ((pb &&& (7 : Int32)) - (2 : Int32))), .unset] [(.int (2 : Int32)), (.int ((pb &&& (7 : Int32)) - (2 : Int32)))])) t
          refine XS.icmpYes X9.here hx rfl (pc0 := 46) (pc' := 53) rfl (hb hby at_46) rfl (XT.ii_lt_t c14) (by decide) (by decide) ?_
          show Steps p.tables e below (T9.setTop (mkF m 53 #[.val (.int pa), .val (.int pb), .val (.int pc), .val (.int (1 : Int32)), .val (.ref r_OR), .val (.int ((pb &&& (7 : Int32)) - (2 : Int32))), .unset] [])) t
          refine XS.iconst X9.here hx rfl (hb hby at_53) ?_
          show Steps p.tables e below (T9.setTop (mkF m 54 #[.val (.int pa), .val (.int pb), .val (.int pc), .val (.int (1 : Int32)), .val (.ref r_OR), .val (.int ((pb &&& (7 : Int32)) - (2 : Int32))), .unset] [(.int (0 : Int32))])) t
          refine XS.istore X9.here hx rfl (hb hby at_54) rfl (l' := #[.val (.int pa), .val (.int pb), .val (.int pc), .val (.int (1 : Int32)), .val (.ref r_OR), .val (.int ((pb &&& (7 : Int32)) - (2 : Int32))), .val (.int (0 : Int32))]) rfl ?_
          show Steps p.tables e below (T9.setTop (mkF m 56 #[.val (.int pa), .val (.int pb), .val (.int pc), .val (.int (1 : Int32)), .val (.ref r_OR), .val (.int ((pb &&& (7 : Int32)) - (2 : Int32))), .val (.int (0 : Int32))] [])) t
          refine XS.goto X9.here hx rfl (pc0 := 56) (pc' := 93) rfl (hb hby at_56) (by decide) (by decide) ?_
          show Steps p.tables e below (T9.setTop (mkF m 93 #[.val (.int pa), .val (.int pb), .val (.int pc), .val (.int (1 : Int32)), .val (.ref r_OR), .val (.int ((pb &&& (7 : Int32)) - (2 : Int32))), .val (.int (0 : Int32))] [])) t
          refine XS.aload X9.here hx rfl (hb hby at_93) rfl rfl ?_
          show Steps p.tables e below (T9.setTop (mkF m 95 #[.val (.int pa), .val (.int pb), .val (.int pc), .val (.int (1 : Int32)), .val (.ref r_OR), .val (.int ((pb &&& (7 : Int32)) - (2 : Int32))), .val (.int (0 : Int32))] [(.ref r_OR)])) t
          refine XS.iload X9.here hx rfl (hb hby at_95) rfl ?_
          exact kt
        obtain ⟨v15, T15, L15, X15, q15, st15⟩ := callVirtual X9 hx hZ (y := (⟨"com/example/thistle/thistle/language/Operator", "admits", "(I)Z"⟩ : MethodName)) (z := (⟨"com/example/thistle/thistle/language/Operator", "admits", "(I)Z"⟩ : MethodName)) (W := 0) hown (wdOf hw 8 rfl) (wdOf hw 9 rfl) (notFace_of_selects (args := #[]) (mvT hZ (wdOf hw 11 rfl))) (wdOf hw 11 rfl) (wdOf hw 10 rfl) (wdOf hw 6 rfl) (wdOf hw 12 rfl) (by decide) (rm_adm l Z a0 hw [] r_OR ((pb &&& (7 : Int32)) - (2 : Int32)) (2 : Int32) (2147483647 : Int32) (0 : Int32) h0 n0 Z0 F_fewestArguments_OR F_mostArguments_OR ((if_pos (Or.inl c14)).symm)) (by decide) (by decide) (by decide) (by decide) K9 E_OR (g := (mkF m 97 #[.val (.int pa), .val (.int pb), .val (.int pc), .val (.int (1 : Int32)), .val (.ref r_OR), .val (.int ((pb &&& (7 : Int32)) - (2 : Int32))), .val (.int (0 : Int32))] [(.int ((pb &&& (7 : Int32)) - (2 : Int32))), (.ref r_OR)])) rfl (by rw [hml]; rfl) (argsL := [(.int ((pb &&& (7 : Int32)) - (2 : Int32)))]) (rest := []) (lenOf pd_1 rfl) rfl rfl (Nat.le_refl _) (hb hby at_97)
        obtain ⟨rfl, n15, K15⟩ := q15
        have N15 := Fr.app N9 n15
        refine Goes.go (U' := (T15.setTop (mkF m 100 #[.val (.int pa), .val (.int pb), .val (.int pc), .val (.int (1 : Int32)), .val (.ref r_OR), .val (.int ((pb &&& (7 : Int32)) - (2 : Int32))), .val (.int (0 : Int32))] [(.int (0 : Int32))]))) st15 ?_
        refine Goes.go (U' := (T15.setTop (mkF m 110 #[.val (.int pa), .val (.int pb), .val (.int pc), .val (.int (1 : Int32)), .val (.ref r_OR), .val (.int ((pb &&& (7 : Int32)) - (2 : Int32))), .val (.int (0 : Int32))] [(.int (1 : Int32))]))) (fun t kt => ?_) ?_
        · show Steps p.tables e below (T15.setTop (mkF m 100 #[.val (.int pa), .val (.int pb), .val (.int pc), .val (.int (1 : Int32)), .val (.ref r_OR), .val (.int ((pb &&& (7 : Int32)) - (2 : Int32))), .val (.int (0 : Int32))] [(.int (0 : Int32))])) t
          refine XS.iload X15.here hx rfl (hb hby at_100) rfl ?_
          show Steps p.tables e below (T15.setTop (mkF m 102 #[.val (.int pa), .val (.int pb), .val (.int pc), .val (.int (1 : Int32)), .val (.ref r_OR), .val (.int ((pb &&& (7 : Int32)) - (2 : Int32))), .val (.int (0 : Int32))] [(.int (0 : Int32)), (.int (0 : Int32))])) t
          refine XS.icmpNo X15.here hx rfl (hb hby at_102) rfl (XT.ii_ne_f (by decide)) ?_
          show Steps p.tables e below (T15.setTop (mkF m 105 #[.val (.int pa), .val (.int pb), .val (.int pc), .val (.int (1 : Int32)), .val (.ref r_OR), .val (.int ((pb &&& (7 : Int32)) - (2 : Int32))), .val (.int (0 : Int32))] [])) t
          refine XS.iconst X15.here hx rfl (hb hby at_105) ?_
          show Steps p.tables e below (T15.setTop (mkF m 106 #[.val (.int pa), .val (.int pb), .val (.int pc), .val (.int (1 : Int32)), .val (.ref r_OR), .val (.int ((pb &&& (7 : Int32)) - (2 : Int32))), .val (.int (0 : Int32))] [(.int (1 : Int32))])) t
          refine XS.goto X15.here hx rfl (pc0 := 106) (pc' := 110) rfl (hb hby at_106) (by decide) (by decide) ?_
          exact kt
        refine Goes.retB X15 hx hlk hret (hb hby at_110) (by decide) (by decide) ?_
        try rw [K15]
        exact ⟨rfl, N15⟩
      · -- not ((pb &&& (7 : Int32)) - (2 : Int32)) < (2 : Int32)
        refine Goes.go (U' := (T9.setTop (mkF m 97 #[.val (.int pa), .val (.int pb), .val (.int pc), .val (.int (1 : Int32)), .val (.ref r_OR), .val (.int ((pb &&& (7 : Int32)) - (2 : Int32))), .val (.int (1 : Int32))] [(.int ((pb &&& (7 : Int32)) - (2 : Int32))), (.ref r_OR)]))) (fun t kt => ?_) ?_
        · show Steps p.tables e below (T9.setTop (mkF m 46 #[.val (.int pa), .val (.int pb), .val (.int pc), .val (.int (1 : Int32)), .val (.ref r_OR), .val (.int ((pb &&& (7 : Int32)) - (2 : Int32))), .unset] [(.int (2 : Int32)), (.int ((pb &&& (7 : Int32)) - (2 : Int32)))])) t
          refine XS.icmpNo X9.here hx rfl (hb hby at_46) rfl (XT.ii_lt_f c14) ?_
          show Steps p.tables e below (T9.setTop (mkF m 49 #[.val (.int pa), .val (.int pb), .val (.int pc), .val (.int (1 : Int32)), .val (.ref r_OR), .val (.int ((pb &&& (7 : Int32)) - (2 : Int32))), .unset] [])) t
          refine XS.iconst X9.here hx rfl (hb hby at_49) ?_
          show Steps p.tables e below (T9.setTop (mkF m 50 #[.val (.int pa), .val (.int pb), .val (.int pc), .val (.int (1 : Int32)), .val (.ref r_OR), .val (.int ((pb &&& (7 : Int32)) - (2 : Int32))), .unset] [(.int (1 : Int32))])) t
          refine XS.goto X9.here hx rfl (pc0 := 50) (pc' := 54) rfl (hb hby at_50) (by decide) (by decide) ?_
          show Steps p.tables e below (T9.setTop (mkF m 54 #[.val (.int pa), .val (.int pb), .val (.int pc), .val (.int (1 : Int32)), .val (.ref r_OR), .val (.int ((pb &&& (7 : Int32)) - (2 : Int32))), .unset] [(.int (1 : Int32))])) t
          refine XS.istore X9.here hx rfl (hb hby at_54) rfl (l' := #[.val (.int pa), .val (.int pb), .val (.int pc), .val (.int (1 : Int32)), .val (.ref r_OR), .val (.int ((pb &&& (7 : Int32)) - (2 : Int32))), .val (.int (1 : Int32))]) rfl ?_
          show Steps p.tables e below (T9.setTop (mkF m 56 #[.val (.int pa), .val (.int pb), .val (.int pc), .val (.int (1 : Int32)), .val (.ref r_OR), .val (.int ((pb &&& (7 : Int32)) - (2 : Int32))), .val (.int (1 : Int32))] [])) t
          refine XS.goto X9.here hx rfl (pc0 := 56) (pc' := 93) rfl (hb hby at_56) (by decide) (by decide) ?_
          show Steps p.tables e below (T9.setTop (mkF m 93 #[.val (.int pa), .val (.int pb), .val (.int pc), .val (.int (1 : Int32)), .val (.ref r_OR), .val (.int ((pb &&& (7 : Int32)) - (2 : Int32))), .val (.int (1 : Int32))] [])) t
          refine XS.aload X9.here hx rfl (hb hby at_93) rfl rfl ?_
          show Steps p.tables e below (T9.setTop (mkF m 95 #[.val (.int pa), .val (.int pb), .val (.int pc), .val (.int (1 : Int32)), .val (.ref r_OR), .val (.int ((pb &&& (7 : Int32)) - (2 : Int32))), .val (.int (1 : Int32))] [(.ref r_OR)])) t
          refine XS.iload X9.here hx rfl (hb hby at_95) rfl ?_
          exact kt
        obtain ⟨v16, T16, L16, X16, q16, st16⟩ := callVirtual X9 hx hZ (y := (⟨"com/example/thistle/thistle/language/Operator", "admits", "(I)Z"⟩ : MethodName)) (z := (⟨"com/example/thistle/thistle/language/Operator", "admits", "(I)Z"⟩ : MethodName)) (W := 0) hown (wdOf hw 8 rfl) (wdOf hw 9 rfl) (notFace_of_selects (args := #[]) (mvT hZ (wdOf hw 11 rfl))) (wdOf hw 11 rfl) (wdOf hw 10 rfl) (wdOf hw 6 rfl) (wdOf hw 12 rfl) (by decide) (rm_adm l Z a0 hw [] r_OR ((pb &&& (7 : Int32)) - (2 : Int32)) (2 : Int32) (2147483647 : Int32) (1 : Int32) h0 n0 Z0 F_fewestArguments_OR F_mostArguments_OR ((if_neg (fun q => q.elim c14 own_hi)).symm)) (by decide) (by decide) (by decide) (by decide) K9 E_OR (g := (mkF m 97 #[.val (.int pa), .val (.int pb), .val (.int pc), .val (.int (1 : Int32)), .val (.ref r_OR), .val (.int ((pb &&& (7 : Int32)) - (2 : Int32))), .val (.int (1 : Int32))] [(.int ((pb &&& (7 : Int32)) - (2 : Int32))), (.ref r_OR)])) rfl (by rw [hml]; rfl) (argsL := [(.int ((pb &&& (7 : Int32)) - (2 : Int32)))]) (rest := []) (lenOf pd_1 rfl) rfl rfl (Nat.le_refl _) (hb hby at_97)
        obtain ⟨rfl, n16, K16⟩ := q16
        have N16 := Fr.app N9 n16
        refine Goes.go (U' := (T16.setTop (mkF m 100 #[.val (.int pa), .val (.int pb), .val (.int pc), .val (.int (1 : Int32)), .val (.ref r_OR), .val (.int ((pb &&& (7 : Int32)) - (2 : Int32))), .val (.int (1 : Int32))] [(.int (1 : Int32))]))) st16 ?_
        refine Goes.go (U' := (T16.setTop (mkF m 110 #[.val (.int pa), .val (.int pb), .val (.int pc), .val (.int (1 : Int32)), .val (.ref r_OR), .val (.int ((pb &&& (7 : Int32)) - (2 : Int32))), .val (.int (1 : Int32))] [(.int (1 : Int32))]))) (fun t kt => ?_) ?_
        · show Steps p.tables e below (T16.setTop (mkF m 100 #[.val (.int pa), .val (.int pb), .val (.int pc), .val (.int (1 : Int32)), .val (.ref r_OR), .val (.int ((pb &&& (7 : Int32)) - (2 : Int32))), .val (.int (1 : Int32))] [(.int (1 : Int32))])) t
          refine XS.iload X16.here hx rfl (hb hby at_100) rfl ?_
          show Steps p.tables e below (T16.setTop (mkF m 102 #[.val (.int pa), .val (.int pb), .val (.int pc), .val (.int (1 : Int32)), .val (.ref r_OR), .val (.int ((pb &&& (7 : Int32)) - (2 : Int32))), .val (.int (1 : Int32))] [(.int (1 : Int32)), (.int (1 : Int32))])) t
          refine XS.icmpNo X16.here hx rfl (hb hby at_102) rfl (XT.ii_ne_f (by decide)) ?_
          show Steps p.tables e below (T16.setTop (mkF m 105 #[.val (.int pa), .val (.int pb), .val (.int pc), .val (.int (1 : Int32)), .val (.ref r_OR), .val (.int ((pb &&& (7 : Int32)) - (2 : Int32))), .val (.int (1 : Int32))] [])) t
          refine XS.iconst X16.here hx rfl (hb hby at_105) ?_
          show Steps p.tables e below (T16.setTop (mkF m 106 #[.val (.int pa), .val (.int pb), .val (.int pc), .val (.int (1 : Int32)), .val (.ref r_OR), .val (.int ((pb &&& (7 : Int32)) - (2 : Int32))), .val (.int (1 : Int32))] [(.int (1 : Int32))])) t
          refine XS.goto X16.here hx rfl (pc0 := 106) (pc' := 110) rfl (hb hby at_106) (by decide) (by decide) ?_
          exact kt
        refine Goes.retB X16 hx hlk hret (hb hby at_110) (by decide) (by decide) ?_
        try rw [K16]
        exact ⟨rfl, N16⟩
  · -- case 2
    rw [hk]
    refine Goes.go (U' := (s₁.setTop (mkF m 9 #[.val (.int pa), .val (.int pb), .val (.int pc), .val (.int (2 : Int32)), .unset, .unset, .unset] [(.int (2 : Int32))]))) (fun t kt => ?_) ?_
    · show Steps p.tables e below (s₁.setTop (mkF m 7 #[.val (.int pa), .val (.int pb), .val (.int pc), .unset, .unset, .unset, .unset] [(.int (2 : Int32))])) t
      refine XS.istoreN X0.here hx rfl (hb hby at_7) rfl (l' := #[.val (.int pa), .val (.int pb), .val (.int pc), .val (.int (2 : Int32)), .unset, .unset, .unset]) rfl ?_
      show Steps p.tables e below (s₁.setTop (mkF m 8 #[.val (.int pa), .val (.int pb), .val (.int pc), .val (.int (2 : Int32)), .unset, .unset, .unset] [])) t
      refine XS.iloadN X0.here hx rfl (hb hby at_8) rfl ?_
      exact kt
    obtain ⟨v17, T17, L17, X17, q17, st17⟩ := callStatic X0 hx hZ (y := (⟨"com/example/thistle/thistle/language/OperatorAdmitsPinLaw", "pick", "(I)Lcom/example/thistle/thistle/language/Operator;"⟩ : MethodName)) (W := 0) hown (wdOf hw 1 rfl) (wdOf hw 2 rfl) (wdOf hw 3 rfl) (wdOf hw 4 rfl) (by decide) (rm_pick l Z a0 hw [] (2 : Int32) r_NOT r_AND r_OR r_NOT r_EQUAL r_IN r_GREATER_THAN r_LESS_THAN r_GREATER_THAN_OR_EQUAL r_LESS_THAN_OR_EQUAL r_ADD r_SUBTRACT r_MULTIPLY r_DIVIDE h0 n0 Z0 S_AND S_OR S_NOT S_EQUAL S_IN S_GREATER_THAN S_LESS_THAN S_GREATER_THAN_OR_EQUAL S_LESS_THAN_OR_EQUAL S_ADD S_SUBTRACT S_MULTIPLY S_DIVIDE (by simp)) (by decide) (by decide) (by decide) (by decide) e0 (g := (mkF m 9 #[.val (.int pa), .val (.int pb), .val (.int pc), .val (.int (2 : Int32)), .unset, .unset, .unset] [(.int (2 : Int32))])) rfl (by rw [hml]; rfl) (argsL := [(.int (2 : Int32))]) (rest := []) (lenOf pd_0 rfl) rfl rfl (Nat.le_refl _) (hb hby at_9)
    obtain ⟨rfl, n17, K17⟩ := q17
    have N17 := Fr.app N0 n17
    refine Goes.go (U' := (T17.setTop (mkF m 12 #[.val (.int pa), .val (.int pb), .val (.int pc), .val (.int (2 : Int32)), .unset, .unset, .unset] [(.ref r_NOT)]))) st17 ?_
    refine Goes.go (U' := (T17.setTop (mkF m 17 #[.val (.int pa), .val (.int pb), .val (.int pc), .val (.int (2 : Int32)), .val (.ref r_NOT), .unset, .unset] [(.int (pc &&& (1 : Int32)))]))) (fun t kt => ?_) ?_
    · show Steps p.tables e below (T17.setTop (mkF m 12 #[.val (.int pa), .val (.int pb), .val (.int pc), .val (.int (2 : Int32)), .unset, .unset, .unset] [(.ref r_NOT)])) t
      refine XS.astore X17.here hx rfl (hb hby at_12) rfl rfl (l' := #[.val (.int pa), .val (.int pb), .val (.int pc), .val (.int (2 : Int32)), .val (.ref r_NOT), .unset, .unset]) rfl ?_
      show Steps p.tables e below (T17.setTop (mkF m 14 #[.val (.int pa), .val (.int pb), .val (.int pc), .val (.int (2 : Int32)), .val (.ref r_NOT), .unset, .unset] [])) t
      refine XS.iloadN X17.here hx rfl (hb hby at_14) rfl ?_
      show Steps p.tables e below (T17.setTop (mkF m 15 #[.val (.int pa), .val (.int pb), .val (.int pc), .val (.int (2 : Int32)), .val (.ref r_NOT), .unset, .unset] [(.int pc)])) t
      refine XS.iconst X17.here hx rfl (hb hby at_15) ?_
      show Steps p.tables e below (T17.setTop (mkF m 16 #[.val (.int pa), .val (.int pb), .val (.int pc), .val (.int (2 : Int32)), .val (.ref r_NOT), .unset, .unset] [(.int (1 : Int32)), (.int pc)])) t
      refine XS.iand X17.here hx rfl (hb hby at_16) rfl ?_
      exact kt
    by_cases c18 : (pc &&& (1 : Int32)) = 0
    · -- (pc &&& (1 : Int32)) = 0
      refine Goes.go (U' := (T17.setTop (mkF m 67 #[.val (.int pa), .val (.int pb), .val (.int pc), .val (.int (2 : Int32)), .val (.ref r_NOT), .val (.int pb), .unset] [(.int (1 : Int32)), (.int pb)]))) (fun t kt => ?_) ?_
      · show Steps p.tables e below (T17.setTop (mkF m 17 #[.val (.int pa), .val (.int pb), .val (.int pc), .val (.int (2 : Int32)), .val (.ref r_NOT), .unset, .unset] [(.int (pc &&& (1 : Int32)))])) t
        refine XS.ifYes X17.here hx rfl (pc0 := 17) (pc' := 31) rfl (hb hby at_17) rfl (XT.i0_eq_t c18) (by decide) (by decide) ?_
        show Steps p.tables e below (T17.setTop (mkF m 31 #[.val (.int pa), .val (.int pb), .val (.int pc), .val (.int (2 : Int32)), .val (.ref r_NOT), .unset, .unset] [])) t
        refine XS.iloadN X17.here hx rfl (hb hby at_31) rfl ?_
        show Steps p.tables e below (T17.setTop (mkF m 32 #[.val (.int pa), .val (.int pb), .val (.int pc), .val (.int (2 : Int32)), .val (.ref r_NOT), .unset, .unset] [(.int pb)])) t
        refine XS.istore X17.here hx rfl (hb hby at_32) rfl (l' := #[.val (.int pa), .val (.int pb), .val (.int pc), .val (.int (2 : Int32)), .val (.ref r_NOT), .val (.int pb), .unset]) rfl ?_
        show Steps p.tables e below (T17.setTop (mkF m 34 #[.val (.int pa), .val (.int pb), .val (.int pc), .val (.int (2 : Int32)), .val (.ref r_NOT), .val (.int pb), .unset] [])) t
        refine XS.iloadN X17.here hx rfl (hb hby at_34) rfl ?_
        show Steps p.tables e below (T17.setTop (mkF m 35 #[.val (.int pa), .val (.int pb), .val (.int pc), .val (.int (2 : Int32)), .val (.ref r_NOT), .val (.int pb), .unset] [(.int (2 : Int32))])) t
        refine XS.ifNo X17.here hx rfl (hb hby at_35) rfl (XT.i0_eq_f (by decide)) ?_
        show Steps p.tables e below (T17.setTop (mkF m 38 #[.val (.int pa), .val (.int pb), .val (.int pc), .val (.int (2 : Int32)), .val (.ref r_NOT), .val (.int pb), .unset] [])) t
        refine XS.iloadN X17.here hx rfl (hb hby at_38) rfl ?_
        show Steps p.tables e below (T17.setTop (mkF m 39 #[.val (.int pa), .val (.int pb), .val (.int pc), .val (.int (2 : Int32)), .val (.ref r_NOT), .val (.int pb), .unset] [(.int (2 : Int32))])) t
        refine XS.iconst X17.here hx rfl (hb hby at_39) ?_
        show Steps p.tables e below (T17.setTop (mkF m 40 #[.val (.int pa), .val (.int pb), .val (.int pc), .val (.int (2 : Int32)), .val (.ref r_NOT), .val (.int pb), .unset] [(.int (1 : Int32)), (.int (2 : Int32))])) t
        refine XS.icmpYes X17.here hx rfl (pc0 := 40) (pc' := 59) rfl (hb hby at_40) rfl (XT.ii_ne_t (by decide)) (by decide) (by decide) ?_
        show Steps p.tables e below (T17.setTop (mkF m 59 #[.val (.int pa), .val (.int pb), .val (.int pc), .val (.int (2 : Int32)), .val (.ref r_NOT), .val (.int pb), .unset] [])) t
        refine XS.iloadN X17.here hx rfl (hb hby at_59) rfl ?_
        show Steps p.tables e below (T17.setTop (mkF m 60 #[.val (.int pa), .val (.int pb), .val (.int pc), .val (.int (2 : Int32)), .val (.ref r_NOT), .val (.int pb), .unset] [(.int (2 : Int32))])) t
        refine XS.iconst X17.here hx rfl (hb hby at_60) ?_
        show Steps p.tables e below (T17.setTop (mkF m 61 #[.val (.int pa), .val (.int pb), .val (.int pc), .val (.int (2 : Int32)), .val (.ref r_NOT), .val (.int pb), .unset] [(.int (2 : Int32)), (.int (2 : Int32))])) t
        refine XS.icmpNo X17.here hx rfl (hb hby at_61) rfl (XT.ii_ne_f (by decide)) ?_
        show Steps p.tables e below (T17.setTop (mkF m 64 #[.val (.int pa), .val (.int pb), .val (.int pc), .val (.int (2 : Int32)), .val (.ref r_NOT), .val (.int pb), .unset] [])) t
        refine XS.iload X17.here hx rfl (hb hby at_64) rfl ?_
        show Steps p.tables e below (T17.setTop (mkF m 66 #[.val (.int pa), .val (.int pb), .val (.int pc), .val (.int (2 : Int32)), .val (.ref r_NOT), .val (.int pb), .unset] [(.int pb)])) t
        refine XS.iconst X17.here hx rfl (hb hby at_66) ?_
        exact kt
      by_cases c19 : pb = (1 : Int32)
      · -- pb = (1 : Int32)
        refine Goes.go (U' := (T17.setTop (mkF m 97 #[.val (.int pa), .val (.int pb), .val (.int pc), .val (.int (2 : Int32)), .val (.ref r_NOT), .val (.int pb), .val (.int (1 : Int32))] [(.int pb), (.ref r_NOT)]))) (fun t kt => ?_) ?_
        · show Steps p.tables e below (T17.setTop (mkF m 67 #[.val (.int pa), .val (.int pb), .val (.int pc), .val (.int (2 : Int32)), .val (.ref r_NOT), .val (.int pb), .unset] [(.int (1 : Int32)), (.int pb)])) t
          refine XS.icmpNo X17.here hx rfl (hb hby at_67) rfl (XT.ii_ne_f c19) ?_
          show Steps p.tables e below (T17.setTop (mkF m 70 #[.val (.int pa), .val (.int pb), .val (.int pc), .val (.int (2 : Int32)), .val (.ref r_NOT), .val (.int pb), .unset] [])) t
          refine XS.iconst X17.here hx rfl (hb hby at_70) ?_
          show Steps p.tables e below (T17.setTop (mkF m 71 #[.val (.int pa), .val (.int pb), .val (.int pc), .val (.int (2 : Int32)), .val (.ref r_NOT), .val (.int pb), .unset] [(.int (1 : Int32))])) t
          refine XS.goto X17.here hx rfl (pc0 := 71) (pc' := 75) rfl (hb hby at_71) (by decide) (by decide) ?_
          show Steps p.tables e below (T17.setTop (mkF m 75 #[.val (.int pa), .val (.int pb), .val (.int pc), .val (.int (2 : Int32)), .val (.ref r_NOT), .val (.int pb), .unset] [(.int (1 : Int32))])) t
          refine XS.istore X17.here hx rfl (hb hby at_75) rfl (l' := #[.val (.int pa), .val (.int pb), .val (.int pc), .val (.int (2 : Int32)), .val (.ref r_NOT), .val (.int pb), .val (.int (1 : Int32))]) rfl ?_
          show Steps p.tables e below (T17.setTop (mkF m 77 #[.val (.int pa), .val (.int pb), .val (.int pc), .val (.int (2 : Int32)), .val (.ref r_NOT), .val (.int pb), .val (.int (1 : Int32))] [])) t
          refine XS.goto X17.here hx rfl (pc0 := 77) (pc' := 93) rfl (hb hby at_77) (by decide) (by decide) ?_
          show Steps p.tables e below (T17.setTop (mkF m 93 #[.val (.int pa), .val (.int pb), .val (.int pc), .val (.int (2 : Int32)), .val (.ref r_NOT), .val (.int pb), .val (.int (1 : Int32))] [])) t
          refine XS.aload X17.here hx rfl (hb hby at_93) rfl rfl ?_
          show Steps p.tables e below (T17.setTop (mkF m 95 #[.val (.int pa), .val (.int pb), .val (.int pc), .val (.int (2 : Int32)), .val (.ref r_NOT), .val (.int pb), .val (.int (1 : Int32))] [(.ref r_NOT)])) t
          refine XS.iload X17.here hx rfl (hb hby at_95) rfl ?_
          exact kt
        obtain ⟨v20, T20, L20, X20, q20, st20⟩ := callVirtual X17 hx hZ (y := (⟨"com/example/thistle/thistle/language/Operator", "admits", "(I)Z"⟩ : MethodName)) (z := (⟨"com/example/thistle/thistle/language/Operator", "admits", "(I)Z"⟩ : MethodName)) (W := 0) hown (wdOf hw 8 rfl) (wdOf hw 9 rfl) (notFace_of_selects (args := #[]) (mvT hZ (wdOf hw 11 rfl))) (wdOf hw 11 rfl) (wdOf hw 10 rfl) (wdOf hw 6 rfl) (wdOf hw 12 rfl) (by decide) (rm_adm l Z a0 hw [] r_NOT pb (1 : Int32) (1 : Int32) (1 : Int32) h0 n0 Z0 F_fewestArguments_NOT F_mostArguments_NOT ((if_neg (own_eq c19)).symm)) (by decide) (by decide) (by decide) (by decide) K17 E_NOT (g := (mkF m 97 #[.val (.int pa), .val (.int pb), .val (.int pc), .val (.int (2 : Int32)), .val (.ref r_NOT), .val (.int pb), .val (.int (1 : Int32))] [(.int pb), (.ref r_NOT)])) rfl (by rw [hml]; rfl) (argsL := [(.int pb)]) (rest := []) (lenOf pd_1 rfl) rfl rfl (Nat.le_refl _) (hb hby at_97)
        obtain ⟨rfl, n20, K20⟩ := q20
        have N20 := Fr.app N17 n20
        refine Goes.go (U' := (T20.setTop (mkF m 100 #[.val (.int pa), .val (.int pb), .val (.int pc), .val (.int (2 : Int32)), .val (.ref r_NOT), .val (.int pb), .val (.int (1 : Int32))] [(.int (1 : Int32))]))) st20 ?_
        refine Goes.go (U' := (T20.setTop (mkF m 110 #[.val (.int pa), .val (.int pb), .val (.int pc), .val (.int (2 : Int32)), .val (.ref r_NOT), .val (.int pb), .val (.int (1 : Int32))] [(.int (1 : Int32))]))) (fun t kt => ?_) ?_
        · show Steps p.tables e below (T20.setTop (mkF m 100 #[.val (.int pa), .val (.int pb), .val (.int pc), .val (.int (2 : Int32)), .val (.ref r_NOT), .val (.int pb), .val (.int (1 : Int32))] [(.int (1 : Int32))])) t
          refine XS.iload X20.here hx rfl (hb hby at_100) rfl ?_
          show Steps p.tables e below (T20.setTop (mkF m 102 #[.val (.int pa), .val (.int pb), .val (.int pc), .val (.int (2 : Int32)), .val (.ref r_NOT), .val (.int pb), .val (.int (1 : Int32))] [(.int (1 : Int32)), (.int (1 : Int32))])) t
          refine XS.icmpNo X20.here hx rfl (hb hby at_102) rfl (XT.ii_ne_f (by decide)) ?_
          show Steps p.tables e below (T20.setTop (mkF m 105 #[.val (.int pa), .val (.int pb), .val (.int pc), .val (.int (2 : Int32)), .val (.ref r_NOT), .val (.int pb), .val (.int (1 : Int32))] [])) t
          refine XS.iconst X20.here hx rfl (hb hby at_105) ?_
          show Steps p.tables e below (T20.setTop (mkF m 106 #[.val (.int pa), .val (.int pb), .val (.int pc), .val (.int (2 : Int32)), .val (.ref r_NOT), .val (.int pb), .val (.int (1 : Int32))] [(.int (1 : Int32))])) t
          refine XS.goto X20.here hx rfl (pc0 := 106) (pc' := 110) rfl (hb hby at_106) (by decide) (by decide) ?_
          exact kt
        refine Goes.retB X20 hx hlk hret (hb hby at_110) (by decide) (by decide) ?_
        try rw [K20]
        exact ⟨rfl, N20⟩
      · -- not pb = (1 : Int32)
        refine Goes.go (U' := (T17.setTop (mkF m 97 #[.val (.int pa), .val (.int pb), .val (.int pc), .val (.int (2 : Int32)), .val (.ref r_NOT), .val (.int pb), .val (.int (0 : Int32))] [(.int pb), (.ref r_NOT)]))) (fun t kt => ?_) ?_
        · show Steps p.tables e below (T17.setTop (mkF m 67 #[.val (.int pa), .val (.int pb), .val (.int pc), .val (.int (2 : Int32)), .val (.ref r_NOT), .val (.int pb), .unset] [(.int (1 : Int32)), (.int pb)])) t
          refine XS.icmpYes X17.here hx rfl (pc0 := 67) (pc' := 74) rfl (hb hby at_67) rfl (XT.ii_ne_t c19) (by decide) (by decide) ?_
          show Steps p.tables e below (T17.setTop (mkF m 74 #[.val (.int pa), .val (.int pb), .val (.int pc), .val (.int (2 : Int32)), .val (.ref r_NOT), .val (.int pb), .unset] [])) t
          refine XS.iconst X17.here hx rfl (hb hby at_74) ?_
          show Steps p.tables e below (T17.setTop (mkF m 75 #[.val (.int pa), .val (.int pb), .val (.int pc), .val (.int (2 : Int32)), .val (.ref r_NOT), .val (.int pb), .unset] [(.int (0 : Int32))])) t
          refine XS.istore X17.here hx rfl (hb hby at_75) rfl (l' := #[.val (.int pa), .val (.int pb), .val (.int pc), .val (.int (2 : Int32)), .val (.ref r_NOT), .val (.int pb), .val (.int (0 : Int32))]) rfl ?_
          show Steps p.tables e below (T17.setTop (mkF m 77 #[.val (.int pa), .val (.int pb), .val (.int pc), .val (.int (2 : Int32)), .val (.ref r_NOT), .val (.int pb), .val (.int (0 : Int32))] [])) t
          refine XS.goto X17.here hx rfl (pc0 := 77) (pc' := 93) rfl (hb hby at_77) (by decide) (by decide) ?_
          show Steps p.tables e below (T17.setTop (mkF m 93 #[.val (.int pa), .val (.int pb), .val (.int pc), .val (.int (2 : Int32)), .val (.ref r_NOT), .val (.int pb), .val (.int (0 : Int32))] [])) t
          refine XS.aload X17.here hx rfl (hb hby at_93) rfl rfl ?_
          show Steps p.tables e below (T17.setTop (mkF m 95 #[.val (.int pa), .val (.int pb), .val (.int pc), .val (.int (2 : Int32)), .val (.ref r_NOT), .val (.int pb), .val (.int (0 : Int32))] [(.ref r_NOT)])) t
          refine XS.iload X17.here hx rfl (hb hby at_95) rfl ?_
          exact kt
        obtain ⟨v21, T21, L21, X21, q21, st21⟩ := callVirtual X17 hx hZ (y := (⟨"com/example/thistle/thistle/language/Operator", "admits", "(I)Z"⟩ : MethodName)) (z := (⟨"com/example/thistle/thistle/language/Operator", "admits", "(I)Z"⟩ : MethodName)) (W := 0) hown (wdOf hw 8 rfl) (wdOf hw 9 rfl) (notFace_of_selects (args := #[]) (mvT hZ (wdOf hw 11 rfl))) (wdOf hw 11 rfl) (wdOf hw 10 rfl) (wdOf hw 6 rfl) (wdOf hw 12 rfl) (by decide) (rm_adm l Z a0 hw [] r_NOT pb (1 : Int32) (1 : Int32) (0 : Int32) h0 n0 Z0 F_fewestArguments_NOT F_mostArguments_NOT ((if_pos (own_ne c19)).symm)) (by decide) (by decide) (by decide) (by decide) K17 E_NOT (g := (mkF m 97 #[.val (.int pa), .val (.int pb), .val (.int pc), .val (.int (2 : Int32)), .val (.ref r_NOT), .val (.int pb), .val (.int (0 : Int32))] [(.int pb), (.ref r_NOT)])) rfl (by rw [hml]; rfl) (argsL := [(.int pb)]) (rest := []) (lenOf pd_1 rfl) rfl rfl (Nat.le_refl _) (hb hby at_97)
        obtain ⟨rfl, n21, K21⟩ := q21
        have N21 := Fr.app N17 n21
        refine Goes.go (U' := (T21.setTop (mkF m 100 #[.val (.int pa), .val (.int pb), .val (.int pc), .val (.int (2 : Int32)), .val (.ref r_NOT), .val (.int pb), .val (.int (0 : Int32))] [(.int (0 : Int32))]))) st21 ?_
        refine Goes.go (U' := (T21.setTop (mkF m 110 #[.val (.int pa), .val (.int pb), .val (.int pc), .val (.int (2 : Int32)), .val (.ref r_NOT), .val (.int pb), .val (.int (0 : Int32))] [(.int (1 : Int32))]))) (fun t kt => ?_) ?_
        · show Steps p.tables e below (T21.setTop (mkF m 100 #[.val (.int pa), .val (.int pb), .val (.int pc), .val (.int (2 : Int32)), .val (.ref r_NOT), .val (.int pb), .val (.int (0 : Int32))] [(.int (0 : Int32))])) t
          refine XS.iload X21.here hx rfl (hb hby at_100) rfl ?_
          show Steps p.tables e below (T21.setTop (mkF m 102 #[.val (.int pa), .val (.int pb), .val (.int pc), .val (.int (2 : Int32)), .val (.ref r_NOT), .val (.int pb), .val (.int (0 : Int32))] [(.int (0 : Int32)), (.int (0 : Int32))])) t
          refine XS.icmpNo X21.here hx rfl (hb hby at_102) rfl (XT.ii_ne_f (by decide)) ?_
          show Steps p.tables e below (T21.setTop (mkF m 105 #[.val (.int pa), .val (.int pb), .val (.int pc), .val (.int (2 : Int32)), .val (.ref r_NOT), .val (.int pb), .val (.int (0 : Int32))] [])) t
          refine XS.iconst X21.here hx rfl (hb hby at_105) ?_
          show Steps p.tables e below (T21.setTop (mkF m 106 #[.val (.int pa), .val (.int pb), .val (.int pc), .val (.int (2 : Int32)), .val (.ref r_NOT), .val (.int pb), .val (.int (0 : Int32))] [(.int (1 : Int32))])) t
          refine XS.goto X21.here hx rfl (pc0 := 106) (pc' := 110) rfl (hb hby at_106) (by decide) (by decide) ?_
          exact kt
        refine Goes.retB X21 hx hlk hret (hb hby at_110) (by decide) (by decide) ?_
        try rw [K21]
        exact ⟨rfl, N21⟩
    · -- not (pc &&& (1 : Int32)) = 0
      refine Goes.go (U' := (T17.setTop (mkF m 67 #[.val (.int pa), .val (.int pb), .val (.int pc), .val (.int (2 : Int32)), .val (.ref r_NOT), .val (.int ((pb &&& (7 : Int32)) - (2 : Int32))), .unset] [(.int (1 : Int32)), (.int ((pb &&& (7 : Int32)) - (2 : Int32)))]))) (fun t kt => ?_) ?_
      · show Steps p.tables e below (T17.setTop (mkF m 17 #[.val (.int pa), .val (.int pb), .val (.int pc), .val (.int (2 : Int32)), .val (.ref r_NOT), .unset, .unset] [(.int (pc &&& (1 : Int32)))])) t
        refine XS.ifNo X17.here hx rfl (hb hby at_17) rfl (XT.i0_eq_f c18) ?_
        show Steps p.tables e below (T17.setTop (mkF m 20 #[.val (.int pa), .val (.int pb), .val (.int pc), .val (.int (2 : Int32)), .val (.ref r_NOT), .unset, .unset] [])) t
        refine XS.iloadN X17.here hx rfl (hb hby at_20) rfl ?_
        show Steps p.tables e below (T17.setTop (mkF m 21 #[.val (.int pa), .val (.int pb), .val (.int pc), .val (.int (2 : Int32)), .val (.ref r_NOT), .unset, .unset] [(.int pb)])) t
        refine XS.bipush X17.here hx rfl (hb hby at_21) ?_
        show Steps p.tables e below (T17.setTop (mkF m 23 #[.val (.int pa), .val (.int pb), .val (.int pc), .val (.int (2 : Int32)), .val (.ref r_NOT), .unset, .unset] [(.int (7 : Int32)), (.int pb)])) t
        refine XS.iand X17.here hx rfl (hb hby at_23) rfl ?_
        show Steps p.tables e below (T17.setTop (mkF m 24 #[.val (.int pa), .val (.int pb), .val (.int pc), .val (.int (2 : Int32)), .val (.ref r_NOT), .unset, .unset] [(.int (pb &&& (7 : Int32)))])) t
        refine XS.iconst X17.here hx rfl (hb hby at_24) ?_
        show Steps p.tables e below (T17.setTop (mkF m 25 #[.val (.int pa), .val (.int pb), .val (.int pc), .val (.int (2 : Int32)), .val (.ref r_NOT), .unset, .unset] [(.int (2 : Int32)), (.int (pb &&& (7 : Int32)))])) t
        refine XS.isub X17.here hx rfl (hb hby at_25) rfl ?_
        show Steps p.tables e below (T17.setTop (mkF m 26 #[.val (.int pa), .val (.int pb), .val (.int pc), .val (.int (2 : Int32)), .val (.ref r_NOT), .unset, .unset] [(.int ((pb &&& (7 : Int32)) - (2 : Int32)))])) t
        refine XS.istore X17.here hx rfl (hb hby at_26) rfl (l' := #[.val (.int pa), .val (.int pb), .val (.int pc), .val (.int (2 : Int32)), .val (.ref r_NOT), .val (.int ((pb &&& (7 : Int32)) - (2 : Int32))), .unset]) rfl ?_
        show Steps p.tables e below (T17.setTop (mkF m 28 #[.val (.int pa), .val (.int pb), .val (.int pc), .val (.int (2 : Int32)), .val (.ref r_NOT), .val (.int ((pb &&& (7 : Int32)) - (2 : Int32))), .unset] [])) t
        refine XS.goto X17.here hx rfl (pc0 := 28) (pc' := 34) rfl (hb hby at_28) (by decide) (by decide) ?_
        show Steps p.tables e below (T17.setTop (mkF m 34 #[.val (.int pa), .val (.int pb), .val (.int pc), .val (.int (2 : Int32)), .val (.ref r_NOT), .val (.int ((pb &&& (7 : Int32)) - (2 : Int32))), .unset] [])) t
        refine XS.iloadN X17.here hx rfl (hb hby at_34) rfl ?_
        show Steps p.tables e below (T17.setTop (mkF m 35 #[.val (.int pa), .val (.int pb), .val (.int pc), .val (.int (2 : Int32)), .val (.ref r_NOT), .val (.int ((pb &&& (7 : Int32)) - (2 : Int32))), .unset] [(.int (2 : Int32))])) t
        refine XS.ifNo X17.here hx rfl (hb hby at_35) rfl (XT.i0_eq_f (by decide)) ?_
        show Steps p.tables e below (T17.setTop (mkF m 38 #[.val (.int pa), .val (.int pb), .val (.int pc), .val (.int (2 : Int32)), .val (.ref r_NOT), .val (.int ((pb &&& (7 : Int32)) - (2 : Int32))), .unset] [])) t
        refine XS.iloadN X17.here hx rfl (hb hby at_38) rfl ?_
        show Steps p.tables e below (T17.setTop (mkF m 39 #[.val (.int pa), .val (.int pb), .val (.int pc), .val (.int (2 : Int32)), .val (.ref r_NOT), .val (.int ((pb &&& (7 : Int32)) - (2 : Int32))), .unset] [(.int (2 : Int32))])) t
        refine XS.iconst X17.here hx rfl (hb hby at_39) ?_
        show Steps p.tables e below (T17.setTop (mkF m 40 #[.val (.int pa), .val (.int pb), .val (.int pc), .val (.int (2 : Int32)), .val (.ref r_NOT), .val (.int ((pb &&& (7 : Int32)) - (2 : Int32))), .unset] [(.int (1 : Int32)), (.int (2 : Int32))])) t
        refine XS.icmpYes X17.here hx rfl (pc0 := 40) (pc' := 59) rfl (hb hby at_40) rfl (XT.ii_ne_t (by decide)) (by decide) (by decide) ?_
        show Steps p.tables e below (T17.setTop (mkF m 59 #[.val (.int pa), .val (.int pb), .val (.int pc), .val (.int (2 : Int32)), .val (.ref r_NOT), .val (.int ((pb &&& (7 : Int32)) - (2 : Int32))), .unset] [])) t
        refine XS.iloadN X17.here hx rfl (hb hby at_59) rfl ?_
        show Steps p.tables e below (T17.setTop (mkF m 60 #[.val (.int pa), .val (.int pb), .val (.int pc), .val (.int (2 : Int32)), .val (.ref r_NOT), .val (.int ((pb &&& (7 : Int32)) - (2 : Int32))), .unset] [(.int (2 : Int32))])) t
        refine XS.iconst X17.here hx rfl (hb hby at_60) ?_
        show Steps p.tables e below (T17.setTop (mkF m 61 #[.val (.int pa), .val (.int pb), .val (.int pc), .val (.int (2 : Int32)), .val (.ref r_NOT), .val (.int ((pb &&& (7 : Int32)) - (2 : Int32))), .unset] [(.int (2 : Int32)), (.int (2 : Int32))])) t
        refine XS.icmpNo X17.here hx rfl (hb hby at_61) rfl (XT.ii_ne_f (by decide)) ?_
        show Steps p.tables e below (T17.setTop (mkF m 64 #[.val (.int pa), .val (.int pb), .val (.int pc), .val (.int (2 : Int32)), .val (.ref r_NOT), .val (.int ((pb &&& (7 : Int32)) - (2 : Int32))), .unset] [])) t
        refine XS.iload X17.here hx rfl (hb hby at_64) rfl ?_
        show Steps p.tables e below (T17.setTop (mkF m 66 #[.val (.int pa), .val (.int pb), .val (.int pc), .val (.int (2 : Int32)), .val (.ref r_NOT), .val (.int ((pb &&& (7 : Int32)) - (2 : Int32))), .unset] [(.int ((pb &&& (7 : Int32)) - (2 : Int32)))])) t
        refine XS.iconst X17.here hx rfl (hb hby at_66) ?_
        exact kt
      by_cases c22 : ((pb &&& (7 : Int32)) - (2 : Int32)) = (1 : Int32)
      · -- ((pb &&& (7 : Int32)) - (2 : Int32)) = (1 : Int32)
        refine Goes.go (U' := (T17.setTop (mkF m 97 #[.val (.int pa), .val (.int pb), .val (.int pc), .val (.int (2 : Int32)), .val (.ref r_NOT), .val (.int ((pb &&& (7 : Int32)) - (2 : Int32))), .val (.int (1 : Int32))] [(.int ((pb &&& (7 : Int32)) - (2 : Int32))), (.ref r_NOT)]))) (fun t kt => ?_) ?_
        · show Steps p.tables e below (T17.setTop (mkF m 67 #[.val (.int pa), .val (.int pb), .val (.int pc), .val (.int (2 : Int32)), .val (.ref r_NOT), .val (.int ((pb &&& (7 : Int32)) - (2 : Int32))), .unset] [(.int (1 : Int32)), (.int ((pb &&& (7 : Int32)) - (2 : Int32)))])) t
          refine XS.icmpNo X17.here hx rfl (hb hby at_67) rfl (XT.ii_ne_f c22) ?_
          show Steps p.tables e below (T17.setTop (mkF m 70 #[.val (.int pa), .val (.int pb), .val (.int pc), .val (.int (2 : Int32)), .val (.ref r_NOT), .val (.int ((pb &&& (7 : Int32)) - (2 : Int32))), .unset] [])) t
          refine XS.iconst X17.here hx rfl (hb hby at_70) ?_
          show Steps p.tables e below (T17.setTop (mkF m 71 #[.val (.int pa), .val (.int pb), .val (.int pc), .val (.int (2 : Int32)), .val (.ref r_NOT), .val (.int ((pb &&& (7 : Int32)) - (2 : Int32))), .unset] [(.int (1 : Int32))])) t
          refine XS.goto X17.here hx rfl (pc0 := 71) (pc' := 75) rfl (hb hby at_71) (by decide) (by decide) ?_
          show Steps p.tables e below (T17.setTop (mkF m 75 #[.val (.int pa), .val (.int pb), .val (.int pc), .val (.int (2 : Int32)), .val (.ref r_NOT), .val (.int ((pb &&& (7 : Int32)) - (2 : Int32))), .unset] [(.int (1 : Int32))])) t
          refine XS.istore X17.here hx rfl (hb hby at_75) rfl (l' := #[.val (.int pa), .val (.int pb), .val (.int pc), .val (.int (2 : Int32)), .val (.ref r_NOT), .val (.int ((pb &&& (7 : Int32)) - (2 : Int32))), .val (.int (1 : Int32))]) rfl ?_
          show Steps p.tables e below (T17.setTop (mkF m 77 #[.val (.int pa), .val (.int pb), .val (.int pc), .val (.int (2 : Int32)), .val (.ref r_NOT), .val (.int ((pb &&& (7 : Int32)) - (2 : Int32))), .val (.int (1 : Int32))] [])) t
          refine XS.goto X17.here hx rfl (pc0 := 77) (pc' := 93) rfl (hb hby at_77) (by decide) (by decide) ?_
          show Steps p.tables e below (T17.setTop (mkF m 93 #[.val (.int pa), .val (.int pb), .val (.int pc), .val (.int (2 : Int32)), .val (.ref r_NOT), .val (.int ((pb &&& (7 : Int32)) - (2 : Int32))), .val (.int (1 : Int32))] [])) t
          refine XS.aload X17.here hx rfl (hb hby at_93) rfl rfl ?_
          show Steps p.tables e below (T17.setTop (mkF m 95 #[.val (.int pa), .val (.int pb), .val (.int pc), .val (.int (2 : Int32)), .val (.ref r_NOT), .val (.int ((pb &&& (7 : Int32)) - (2 : Int32))), .val (.int (1 : Int32))] [(.ref r_NOT)])) t
          refine XS.iload X17.here hx rfl (hb hby at_95) rfl ?_
          exact kt
        obtain ⟨v23, T23, L23, X23, q23, st23⟩ := callVirtual X17 hx hZ (y := (⟨"com/example/thistle/thistle/language/Operator", "admits", "(I)Z"⟩ : MethodName)) (z := (⟨"com/example/thistle/thistle/language/Operator", "admits", "(I)Z"⟩ : MethodName)) (W := 0) hown (wdOf hw 8 rfl) (wdOf hw 9 rfl) (notFace_of_selects (args := #[]) (mvT hZ (wdOf hw 11 rfl))) (wdOf hw 11 rfl) (wdOf hw 10 rfl) (wdOf hw 6 rfl) (wdOf hw 12 rfl) (by decide) (rm_adm l Z a0 hw [] r_NOT ((pb &&& (7 : Int32)) - (2 : Int32)) (1 : Int32) (1 : Int32) (1 : Int32) h0 n0 Z0 F_fewestArguments_NOT F_mostArguments_NOT ((if_neg (own_eq c22)).symm)) (by decide) (by decide) (by decide) (by decide) K17 E_NOT (g := (mkF m 97 #[.val (.int pa), .val (.int pb), .val (.int pc), .val (.int (2 : Int32)), .val (.ref r_NOT), .val (.int ((pb &&& (7 : Int32)) - (2 : Int32))), .val (.int (1 : Int32))] [(.int ((pb &&& (7 : Int32)) - (2 : Int32))), (.ref r_NOT)])) rfl (by rw [hml]; rfl) (argsL := [(.int ((pb &&& (7 : Int32)) - (2 : Int32)))]) (rest := []) (lenOf pd_1 rfl) rfl rfl (Nat.le_refl _) (hb hby at_97)
        obtain ⟨rfl, n23, K23⟩ := q23
        have N23 := Fr.app N17 n23
        refine Goes.go (U' := (T23.setTop (mkF m 100 #[.val (.int pa), .val (.int pb), .val (.int pc), .val (.int (2 : Int32)), .val (.ref r_NOT), .val (.int ((pb &&& (7 : Int32)) - (2 : Int32))), .val (.int (1 : Int32))] [(.int (1 : Int32))]))) st23 ?_
        refine Goes.go (U' := (T23.setTop (mkF m 110 #[.val (.int pa), .val (.int pb), .val (.int pc), .val (.int (2 : Int32)), .val (.ref r_NOT), .val (.int ((pb &&& (7 : Int32)) - (2 : Int32))), .val (.int (1 : Int32))] [(.int (1 : Int32))]))) (fun t kt => ?_) ?_
        · show Steps p.tables e below (T23.setTop (mkF m 100 #[.val (.int pa), .val (.int pb), .val (.int pc), .val (.int (2 : Int32)), .val (.ref r_NOT), .val (.int ((pb &&& (7 : Int32)) - (2 : Int32))), .val (.int (1 : Int32))] [(.int (1 : Int32))])) t
          refine XS.iload X23.here hx rfl (hb hby at_100) rfl ?_
          show Steps p.tables e below (T23.setTop (mkF m 102 #[.val (.int pa), .val (.int pb), .val (.int pc), .val (.int (2 : Int32)), .val (.ref r_NOT), .val (.int ((pb &&& (7 : Int32)) - (2 : Int32))), .val (.int (1 : Int32))] [(.int (1 : Int32)), (.int (1 : Int32))])) t
          refine XS.icmpNo X23.here hx rfl (hb hby at_102) rfl (XT.ii_ne_f (by decide)) ?_
          show Steps p.tables e below (T23.setTop (mkF m 105 #[.val (.int pa), .val (.int pb), .val (.int pc), .val (.int (2 : Int32)), .val (.ref r_NOT), .val (.int ((pb &&& (7 : Int32)) - (2 : Int32))), .val (.int (1 : Int32))] [])) t
          refine XS.iconst X23.here hx rfl (hb hby at_105) ?_
          show Steps p.tables e below (T23.setTop (mkF m 106 #[.val (.int pa), .val (.int pb), .val (.int pc), .val (.int (2 : Int32)), .val (.ref r_NOT), .val (.int ((pb &&& (7 : Int32)) - (2 : Int32))), .val (.int (1 : Int32))] [(.int (1 : Int32))])) t
          refine XS.goto X23.here hx rfl (pc0 := 106) (pc' := 110) rfl (hb hby at_106) (by decide) (by decide) ?_
          exact kt
        refine Goes.retB X23 hx hlk hret (hb hby at_110) (by decide) (by decide) ?_
        try rw [K23]
        exact ⟨rfl, N23⟩
      · -- not ((pb &&& (7 : Int32)) - (2 : Int32)) = (1 : Int32)
        refine Goes.go (U' := (T17.setTop (mkF m 97 #[.val (.int pa), .val (.int pb), .val (.int pc), .val (.int (2 : Int32)), .val (.ref r_NOT), .val (.int ((pb &&& (7 : Int32)) - (2 : Int32))), .val (.int (0 : Int32))] [(.int ((pb &&& (7 : Int32)) - (2 : Int32))), (.ref r_NOT)]))) (fun t kt => ?_) ?_
        · show Steps p.tables e below (T17.setTop (mkF m 67 #[.val (.int pa), .val (.int pb), .val (.int pc), .val (.int (2 : Int32)), .val (.ref r_NOT), .val (.int ((pb &&& (7 : Int32)) - (2 : Int32))), .unset] [(.int (1 : Int32)), (.int ((pb &&& (7 : Int32)) - (2 : Int32)))])) t
          refine XS.icmpYes X17.here hx rfl (pc0 := 67) (pc' := 74) rfl (hb hby at_67) rfl (XT.ii_ne_t c22) (by decide) (by decide) ?_
          show Steps p.tables e below (T17.setTop (mkF m 74 #[.val (.int pa), .val (.int pb), .val (.int pc), .val (.int (2 : Int32)), .val (.ref r_NOT), .val (.int ((pb &&& (7 : Int32)) - (2 : Int32))), .unset] [])) t
          refine XS.iconst X17.here hx rfl (hb hby at_74) ?_
          show Steps p.tables e below (T17.setTop (mkF m 75 #[.val (.int pa), .val (.int pb), .val (.int pc), .val (.int (2 : Int32)), .val (.ref r_NOT), .val (.int ((pb &&& (7 : Int32)) - (2 : Int32))), .unset] [(.int (0 : Int32))])) t
          refine XS.istore X17.here hx rfl (hb hby at_75) rfl (l' := #[.val (.int pa), .val (.int pb), .val (.int pc), .val (.int (2 : Int32)), .val (.ref r_NOT), .val (.int ((pb &&& (7 : Int32)) - (2 : Int32))), .val (.int (0 : Int32))]) rfl ?_
          show Steps p.tables e below (T17.setTop (mkF m 77 #[.val (.int pa), .val (.int pb), .val (.int pc), .val (.int (2 : Int32)), .val (.ref r_NOT), .val (.int ((pb &&& (7 : Int32)) - (2 : Int32))), .val (.int (0 : Int32))] [])) t
          refine XS.goto X17.here hx rfl (pc0 := 77) (pc' := 93) rfl (hb hby at_77) (by decide) (by decide) ?_
          show Steps p.tables e below (T17.setTop (mkF m 93 #[.val (.int pa), .val (.int pb), .val (.int pc), .val (.int (2 : Int32)), .val (.ref r_NOT), .val (.int ((pb &&& (7 : Int32)) - (2 : Int32))), .val (.int (0 : Int32))] [])) t
          refine XS.aload X17.here hx rfl (hb hby at_93) rfl rfl ?_
          show Steps p.tables e below (T17.setTop (mkF m 95 #[.val (.int pa), .val (.int pb), .val (.int pc), .val (.int (2 : Int32)), .val (.ref r_NOT), .val (.int ((pb &&& (7 : Int32)) - (2 : Int32))), .val (.int (0 : Int32))] [(.ref r_NOT)])) t
          refine XS.iload X17.here hx rfl (hb hby at_95) rfl ?_
          exact kt
        obtain ⟨v24, T24, L24, X24, q24, st24⟩ := callVirtual X17 hx hZ (y := (⟨"com/example/thistle/thistle/language/Operator", "admits", "(I)Z"⟩ : MethodName)) (z := (⟨"com/example/thistle/thistle/language/Operator", "admits", "(I)Z"⟩ : MethodName)) (W := 0) hown (wdOf hw 8 rfl) (wdOf hw 9 rfl) (notFace_of_selects (args := #[]) (mvT hZ (wdOf hw 11 rfl))) (wdOf hw 11 rfl) (wdOf hw 10 rfl) (wdOf hw 6 rfl) (wdOf hw 12 rfl) (by decide) (rm_adm l Z a0 hw [] r_NOT ((pb &&& (7 : Int32)) - (2 : Int32)) (1 : Int32) (1 : Int32) (0 : Int32) h0 n0 Z0 F_fewestArguments_NOT F_mostArguments_NOT ((if_pos (own_ne c22)).symm)) (by decide) (by decide) (by decide) (by decide) K17 E_NOT (g := (mkF m 97 #[.val (.int pa), .val (.int pb), .val (.int pc), .val (.int (2 : Int32)), .val (.ref r_NOT), .val (.int ((pb &&& (7 : Int32)) - (2 : Int32))), .val (.int (0 : Int32))] [(.int ((pb &&& (7 : Int32)) - (2 : Int32))), (.ref r_NOT)])) rfl (by rw [hml]; rfl) (argsL := [(.int ((pb &&& (7 : Int32)) - (2 : Int32)))]) (rest := []) (lenOf pd_1 rfl) rfl rfl (Nat.le_refl _) (hb hby at_97)
        obtain ⟨rfl, n24, K24⟩ := q24
        have N24 := Fr.app N17 n24
        refine Goes.go (U' := (T24.setTop (mkF m 100 #[.val (.int pa), .val (.int pb), .val (.int pc), .val (.int (2 : Int32)), .val (.ref r_NOT), .val (.int ((pb &&& (7 : Int32)) - (2 : Int32))), .val (.int (0 : Int32))] [(.int (0 : Int32))]))) st24 ?_
        refine Goes.go (U' := (T24.setTop (mkF m 110 #[.val (.int pa), .val (.int pb), .val (.int pc), .val (.int (2 : Int32)), .val (.ref r_NOT), .val (.int ((pb &&& (7 : Int32)) - (2 : Int32))), .val (.int (0 : Int32))] [(.int (1 : Int32))]))) (fun t kt => ?_) ?_
        · show Steps p.tables e below (T24.setTop (mkF m 100 #[.val (.int pa), .val (.int pb), .val (.int pc), .val (.int (2 : Int32)), .val (.ref r_NOT), .val (.int ((pb &&& (7 : Int32)) - (2 : Int32))), .val (.int (0 : Int32))] [(.int (0 : Int32))])) t
          refine XS.iload X24.here hx rfl (hb hby at_100) rfl ?_
          show Steps p.tables e below (T24.setTop (mkF m 102 #[.val (.int pa), .val (.int pb), .val (.int pc), .val (.int (2 : Int32)), .val (.ref r_NOT), .val (.int ((pb &&& (7 : Int32)) - (2 : Int32))), .val (.int (0 : Int32))] [(.int (0 : Int32)), (.int (0 : Int32))])) t
          refine XS.icmpNo X24.here hx rfl (hb hby at_102) rfl (XT.ii_ne_f (by decide)) ?_
          show Steps p.tables e below (T24.setTop (mkF m 105 #[.val (.int pa), .val (.int pb), .val (.int pc), .val (.int (2 : Int32)), .val (.ref r_NOT), .val (.int ((pb &&& (7 : Int32)) - (2 : Int32))), .val (.int (0 : Int32))] [])) t
          refine XS.iconst X24.here hx rfl (hb hby at_105) ?_
          show Steps p.tables e below (T24.setTop (mkF m 106 #[.val (.int pa), .val (.int pb), .val (.int pc), .val (.int (2 : Int32)), .val (.ref r_NOT), .val (.int ((pb &&& (7 : Int32)) - (2 : Int32))), .val (.int (0 : Int32))] [(.int (1 : Int32))])) t
          refine XS.goto X24.here hx rfl (pc0 := 106) (pc' := 110) rfl (hb hby at_106) (by decide) (by decide) ?_
          exact kt
        refine Goes.retB X24 hx hlk hret (hb hby at_110) (by decide) (by decide) ?_
        try rw [K24]
        exact ⟨rfl, N24⟩
  · -- case 3
    rw [hk]
    refine Goes.go (U' := (s₁.setTop (mkF m 9 #[.val (.int pa), .val (.int pb), .val (.int pc), .val (.int (3 : Int32)), .unset, .unset, .unset] [(.int (3 : Int32))]))) (fun t kt => ?_) ?_
    · show Steps p.tables e below (s₁.setTop (mkF m 7 #[.val (.int pa), .val (.int pb), .val (.int pc), .unset, .unset, .unset, .unset] [(.int (3 : Int32))])) t
      refine XS.istoreN X0.here hx rfl (hb hby at_7) rfl (l' := #[.val (.int pa), .val (.int pb), .val (.int pc), .val (.int (3 : Int32)), .unset, .unset, .unset]) rfl ?_
      show Steps p.tables e below (s₁.setTop (mkF m 8 #[.val (.int pa), .val (.int pb), .val (.int pc), .val (.int (3 : Int32)), .unset, .unset, .unset] [])) t
      refine XS.iloadN X0.here hx rfl (hb hby at_8) rfl ?_
      exact kt
    obtain ⟨v25, T25, L25, X25, q25, st25⟩ := callStatic X0 hx hZ (y := (⟨"com/example/thistle/thistle/language/OperatorAdmitsPinLaw", "pick", "(I)Lcom/example/thistle/thistle/language/Operator;"⟩ : MethodName)) (W := 0) hown (wdOf hw 1 rfl) (wdOf hw 2 rfl) (wdOf hw 3 rfl) (wdOf hw 4 rfl) (by decide) (rm_pick l Z a0 hw [] (3 : Int32) r_EQUAL r_AND r_OR r_NOT r_EQUAL r_IN r_GREATER_THAN r_LESS_THAN r_GREATER_THAN_OR_EQUAL r_LESS_THAN_OR_EQUAL r_ADD r_SUBTRACT r_MULTIPLY r_DIVIDE h0 n0 Z0 S_AND S_OR S_NOT S_EQUAL S_IN S_GREATER_THAN S_LESS_THAN S_GREATER_THAN_OR_EQUAL S_LESS_THAN_OR_EQUAL S_ADD S_SUBTRACT S_MULTIPLY S_DIVIDE (by simp)) (by decide) (by decide) (by decide) (by decide) e0 (g := (mkF m 9 #[.val (.int pa), .val (.int pb), .val (.int pc), .val (.int (3 : Int32)), .unset, .unset, .unset] [(.int (3 : Int32))])) rfl (by rw [hml]; rfl) (argsL := [(.int (3 : Int32))]) (rest := []) (lenOf pd_0 rfl) rfl rfl (Nat.le_refl _) (hb hby at_9)
    obtain ⟨rfl, n25, K25⟩ := q25
    have N25 := Fr.app N0 n25
    refine Goes.go (U' := (T25.setTop (mkF m 12 #[.val (.int pa), .val (.int pb), .val (.int pc), .val (.int (3 : Int32)), .unset, .unset, .unset] [(.ref r_EQUAL)]))) st25 ?_
    refine Goes.go (U' := (T25.setTop (mkF m 17 #[.val (.int pa), .val (.int pb), .val (.int pc), .val (.int (3 : Int32)), .val (.ref r_EQUAL), .unset, .unset] [(.int (pc &&& (1 : Int32)))]))) (fun t kt => ?_) ?_
    · show Steps p.tables e below (T25.setTop (mkF m 12 #[.val (.int pa), .val (.int pb), .val (.int pc), .val (.int (3 : Int32)), .unset, .unset, .unset] [(.ref r_EQUAL)])) t
      refine XS.astore X25.here hx rfl (hb hby at_12) rfl rfl (l' := #[.val (.int pa), .val (.int pb), .val (.int pc), .val (.int (3 : Int32)), .val (.ref r_EQUAL), .unset, .unset]) rfl ?_
      show Steps p.tables e below (T25.setTop (mkF m 14 #[.val (.int pa), .val (.int pb), .val (.int pc), .val (.int (3 : Int32)), .val (.ref r_EQUAL), .unset, .unset] [])) t
      refine XS.iloadN X25.here hx rfl (hb hby at_14) rfl ?_
      show Steps p.tables e below (T25.setTop (mkF m 15 #[.val (.int pa), .val (.int pb), .val (.int pc), .val (.int (3 : Int32)), .val (.ref r_EQUAL), .unset, .unset] [(.int pc)])) t
      refine XS.iconst X25.here hx rfl (hb hby at_15) ?_
      show Steps p.tables e below (T25.setTop (mkF m 16 #[.val (.int pa), .val (.int pb), .val (.int pc), .val (.int (3 : Int32)), .val (.ref r_EQUAL), .unset, .unset] [(.int (1 : Int32)), (.int pc)])) t
      refine XS.iand X25.here hx rfl (hb hby at_16) rfl ?_
      exact kt
    by_cases c26 : (pc &&& (1 : Int32)) = 0
    · -- (pc &&& (1 : Int32)) = 0
      refine Goes.go (U' := (T25.setTop (mkF m 83 #[.val (.int pa), .val (.int pb), .val (.int pc), .val (.int (3 : Int32)), .val (.ref r_EQUAL), .val (.int pb), .unset] [(.int (2 : Int32)), (.int pb)]))) (fun t kt => ?_) ?_
      · show Steps p.tables e below (T25.setTop (mkF m 17 #[.val (.int pa), .val (.int pb), .val (.int pc), .val (.int (3 : Int32)), .val (.ref r_EQUAL), .unset, .unset] [(.int (pc &&& (1 : Int32)))])) t
        refine XS.ifYes X25.here hx rfl (pc0 := 17) (pc' := 31) rfl (hb hby at_17) rfl (XT.i0_eq_t c26) (by decide) (by decide) ?_
        show Steps p.tables e below (T25.setTop (mkF m 31 #[.val (.int pa), .val (.int pb), .val (.int pc), .val (.int (3 : Int32)), .val (.ref r_EQUAL), .unset, .unset] [])) t
        refine XS.iloadN X25.here hx rfl (hb hby at_31) rfl ?_
        show Steps p.tables e below (T25.setTop (mkF m 32 #[.val (.int pa), .val (.int pb), .val (.int pc), .val (.int (3 : Int32)), .val (.ref r_EQUAL), .unset, .unset] [(.int pb)])) t
        refine XS.istore X25.here hx rfl (hb hby at_32) rfl (l' := #[.val (.int pa), .val (.int pb), .val (.int pc), .val (.int (3 : Int32)), .val (.ref r_EQUAL), .val (.int pb), .unset]) rfl ?_
        show Steps p.tables e below (T25.setTop (mkF m 34 #[.val (.int pa), .val (.int pb), .val (.int pc), .val (.int (3 : Int32)), .val (.ref r_EQUAL), .val (.int pb), .unset] [])) t
        refine XS.iloadN X25.here hx rfl (hb hby at_34) rfl ?_
        show Steps p.tables e below (T25.setTop (mkF m 35 #[.val (.int pa), .val (.int pb), .val (.int pc), .val (.int (3 : Int32)), .val (.ref r_EQUAL), .val (.int pb), .unset] [(.int (3 : Int32))])) t
        refine XS.ifNo X25.here hx rfl (hb hby at_35) rfl (XT.i0_eq_f (by decide)) ?_
        show Steps p.tables e below (T25.setTop (mkF m 38 #[.val (.int pa), .val (.int pb), .val (.int pc), .val (.int (3 : Int32)), .val (.ref r_EQUAL), .val (.int pb), .unset] [])) t
        refine XS.iloadN X25.here hx rfl (hb hby at_38) rfl ?_
        show Steps p.tables e below (T25.setTop (mkF m 39 #[.val (.int pa), .val (.int pb), .val (.int pc), .val (.int (3 : Int32)), .val (.ref r_EQUAL), .val (.int pb), .unset] [(.int (3 : Int32))])) t
        refine XS.iconst X25.here hx rfl (hb hby at_39) ?_
        show Steps p.tables e below (T25.setTop (mkF m 40 #[.val (.int pa), .val (.int pb), .val (.int pc), .val (.int (3 : Int32)), .val (.ref r_EQUAL), .val (.int pb), .unset] [(.int (1 : Int32)), (.int (3 : Int32))])) t
        refine XS.icmpYes X25.here hx rfl (pc0 := 40) (pc' := 59) rfl (hb hby at_40) rfl (XT.ii_ne_t (by decide)) (by decide) (by decide) ?_
        show Steps p.tables e below (T25.setTop (mkF m 59 #[.val (.int pa), .val (.int pb), .val (.int pc), .val (.int (3 : Int32)), .val (.ref r_EQUAL), .val (.int pb), .unset] [])) t
        refine XS.iloadN X25.here hx rfl (hb hby at_59) rfl ?_
        show Steps p.tables e below (T25.setTop (mkF m 60 #[.val (.int pa), .val (.int pb), .val (.int pc), .val (.int (3 : Int32)), .val (.ref r_EQUAL), .val (.int pb), .unset] [(.int (3 : Int32))])) t
        refine XS.iconst X25.here hx rfl (hb hby at_60) ?_
        show Steps p.tables e below (T25.setTop (mkF m 61 #[.val (.int pa), .val (.int pb), .val (.int pc), .val (.int (3 : Int32)), .val (.ref r_EQUAL), .val (.int pb), .unset] [(.int (2 : Int32)), (.int (3 : Int32))])) t
        refine XS.icmpYes X25.here hx rfl (pc0 := 61) (pc' := 80) rfl (hb hby at_61) rfl (XT.ii_ne_t (by decide)) (by decide) (by decide) ?_
        show Steps p.tables e below (T25.setTop (mkF m 80 #[.val (.int pa), .val (.int pb), .val (.int pc), .val (.int (3 : Int32)), .val (.ref r_EQUAL), .val (.int pb), .unset] [])) t
        refine XS.iload X25.here hx rfl (hb hby at_80) rfl ?_
        show Steps p.tables e below (T25.setTop (mkF m 82 #[.val (.int pa), .val (.int pb), .val (.int pc), .val (.int (3 : Int32)), .val (.ref r_EQUAL), .val (.int pb), .unset] [(.int pb)])) t
        refine XS.iconst X25.here hx rfl (hb hby at_82) ?_
        exact kt
      by_cases c27 : pb = (2 : Int32)
      · -- pb = (2 : Int32)
        refine Goes.go (U' := (T25.setTop (mkF m 97 #[.val (.int pa), .val (.int pb), .val (.int pc), .val (.int (3 : Int32)), .val (.ref r_EQUAL), .val (.int pb), .val (.int (1 : Int32))] [(.int pb), (.ref r_EQUAL)]))) (fun t kt => ?_) ?_
        · show Steps p.tables e below (T25.setTop (mkF m 83 #[.val (.int pa), .val (.int pb), .val (.int pc), .val (.int (3 : Int32)), .val (.ref r_EQUAL), .val (.int pb), .unset] [(.int (2 : Int32)), (.int pb)])) t
          refine XS.icmpNo X25.here hx rfl (hb hby at_83) rfl (XT.ii_ne_f c27) ?_
          show Steps p.tables e below (T25.setTop (mkF m 86 #[.val (.int pa), .val (.int pb), .val (.int pc), .val (.int (3 : Int32)), .val (.ref r_EQUAL), .val (.int pb), .unset] [])) t
          refine XS.iconst X25.here hx rfl (hb hby at_86) ?_
          show Steps p.tables e below (T25.setTop (mkF m 87 #[.val (.int pa), .val (.int pb), .val (.int pc), .val (.int (3 : Int32)), .val (.ref r_EQUAL), .val (.int pb), .unset] [(.int (1 : Int32))])) t
          refine XS.goto X25.here hx rfl (pc0 := 87) (pc' := 91) rfl (hb hby at_87) (by decide) (by decide) ?_
          show Steps p.tables e below (T25.setTop (mkF m 91 #[.val (.int pa), .val (.int pb), .val (.int pc), .val (.int (3 : Int32)), .val (.ref r_EQUAL), .val (.int pb), .unset] [(.int (1 : Int32))])) t
          refine XS.istore X25.here hx rfl (hb hby at_91) rfl (l' := #[.val (.int pa), .val (.int pb), .val (.int pc), .val (.int (3 : Int32)), .val (.ref r_EQUAL), .val (.int pb), .val (.int (1 : Int32))]) rfl ?_
          show Steps p.tables e below (T25.setTop (mkF m 93 #[.val (.int pa), .val (.int pb), .val (.int pc), .val (.int (3 : Int32)), .val (.ref r_EQUAL), .val (.int pb), .val (.int (1 : Int32))] [])) t
          refine XS.aload X25.here hx rfl (hb hby at_93) rfl rfl ?_
          show Steps p.tables e below (T25.setTop (mkF m 95 #[.val (.int pa), .val (.int pb), .val (.int pc), .val (.int (3 : Int32)), .val (.ref r_EQUAL), .val (.int pb), .val (.int (1 : Int32))] [(.ref r_EQUAL)])) t
          refine XS.iload X25.here hx rfl (hb hby at_95) rfl ?_
          exact kt
        obtain ⟨v28, T28, L28, X28, q28, st28⟩ := callVirtual X25 hx hZ (y := (⟨"com/example/thistle/thistle/language/Operator", "admits", "(I)Z"⟩ : MethodName)) (z := (⟨"com/example/thistle/thistle/language/Operator", "admits", "(I)Z"⟩ : MethodName)) (W := 0) hown (wdOf hw 8 rfl) (wdOf hw 9 rfl) (notFace_of_selects (args := #[]) (mvT hZ (wdOf hw 11 rfl))) (wdOf hw 11 rfl) (wdOf hw 10 rfl) (wdOf hw 6 rfl) (wdOf hw 12 rfl) (by decide) (rm_adm l Z a0 hw [] r_EQUAL pb (2 : Int32) (2 : Int32) (1 : Int32) h0 n0 Z0 F_fewestArguments_EQUAL F_mostArguments_EQUAL ((if_neg (own_eq c27)).symm)) (by decide) (by decide) (by decide) (by decide) K25 E_EQUAL (g := (mkF m 97 #[.val (.int pa), .val (.int pb), .val (.int pc), .val (.int (3 : Int32)), .val (.ref r_EQUAL), .val (.int pb), .val (.int (1 : Int32))] [(.int pb), (.ref r_EQUAL)])) rfl (by rw [hml]; rfl) (argsL := [(.int pb)]) (rest := []) (lenOf pd_1 rfl) rfl rfl (Nat.le_refl _) (hb hby at_97)
        obtain ⟨rfl, n28, K28⟩ := q28
        have N28 := Fr.app N25 n28
        refine Goes.go (U' := (T28.setTop (mkF m 100 #[.val (.int pa), .val (.int pb), .val (.int pc), .val (.int (3 : Int32)), .val (.ref r_EQUAL), .val (.int pb), .val (.int (1 : Int32))] [(.int (1 : Int32))]))) st28 ?_
        refine Goes.go (U' := (T28.setTop (mkF m 110 #[.val (.int pa), .val (.int pb), .val (.int pc), .val (.int (3 : Int32)), .val (.ref r_EQUAL), .val (.int pb), .val (.int (1 : Int32))] [(.int (1 : Int32))]))) (fun t kt => ?_) ?_
        · show Steps p.tables e below (T28.setTop (mkF m 100 #[.val (.int pa), .val (.int pb), .val (.int pc), .val (.int (3 : Int32)), .val (.ref r_EQUAL), .val (.int pb), .val (.int (1 : Int32))] [(.int (1 : Int32))])) t
          refine XS.iload X28.here hx rfl (hb hby at_100) rfl ?_
          show Steps p.tables e below (T28.setTop (mkF m 102 #[.val (.int pa), .val (.int pb), .val (.int pc), .val (.int (3 : Int32)), .val (.ref r_EQUAL), .val (.int pb), .val (.int (1 : Int32))] [(.int (1 : Int32)), (.int (1 : Int32))])) t
          refine XS.icmpNo X28.here hx rfl (hb hby at_102) rfl (XT.ii_ne_f (by decide)) ?_
          show Steps p.tables e below (T28.setTop (mkF m 105 #[.val (.int pa), .val (.int pb), .val (.int pc), .val (.int (3 : Int32)), .val (.ref r_EQUAL), .val (.int pb), .val (.int (1 : Int32))] [])) t
          refine XS.iconst X28.here hx rfl (hb hby at_105) ?_
          show Steps p.tables e below (T28.setTop (mkF m 106 #[.val (.int pa), .val (.int pb), .val (.int pc), .val (.int (3 : Int32)), .val (.ref r_EQUAL), .val (.int pb), .val (.int (1 : Int32))] [(.int (1 : Int32))])) t
          refine XS.goto X28.here hx rfl (pc0 := 106) (pc' := 110) rfl (hb hby at_106) (by decide) (by decide) ?_
          exact kt
        refine Goes.retB X28 hx hlk hret (hb hby at_110) (by decide) (by decide) ?_
        try rw [K28]
        exact ⟨rfl, N28⟩
      · -- not pb = (2 : Int32)
        refine Goes.go (U' := (T25.setTop (mkF m 97 #[.val (.int pa), .val (.int pb), .val (.int pc), .val (.int (3 : Int32)), .val (.ref r_EQUAL), .val (.int pb), .val (.int (0 : Int32))] [(.int pb), (.ref r_EQUAL)]))) (fun t kt => ?_) ?_
        · show Steps p.tables e below (T25.setTop (mkF m 83 #[.val (.int pa), .val (.int pb), .val (.int pc), .val (.int (3 : Int32)), .val (.ref r_EQUAL), .val (.int pb), .unset] [(.int (2 : Int32)), (.int pb)])) t
          refine XS.icmpYes X25.here hx rfl (pc0 := 83) (pc' := 90) rfl (hb hby at_83) rfl (XT.ii_ne_t c27) (by decide) (by decide) ?_
          show Steps p.tables e below (T25.setTop (mkF m 90 #[.val (.int pa), .val (.int pb), .val (.int pc), .val (.int (3 : Int32)), .val (.ref r_EQUAL), .val (.int pb), .unset] [])) t
          refine XS.iconst X25.here hx rfl (hb hby at_90) ?_
          show Steps p.tables e below (T25.setTop (mkF m 91 #[.val (.int pa), .val (.int pb), .val (.int pc), .val (.int (3 : Int32)), .val (.ref r_EQUAL), .val (.int pb), .unset] [(.int (0 : Int32))])) t
          refine XS.istore X25.here hx rfl (hb hby at_91) rfl (l' := #[.val (.int pa), .val (.int pb), .val (.int pc), .val (.int (3 : Int32)), .val (.ref r_EQUAL), .val (.int pb), .val (.int (0 : Int32))]) rfl ?_
          show Steps p.tables e below (T25.setTop (mkF m 93 #[.val (.int pa), .val (.int pb), .val (.int pc), .val (.int (3 : Int32)), .val (.ref r_EQUAL), .val (.int pb), .val (.int (0 : Int32))] [])) t
          refine XS.aload X25.here hx rfl (hb hby at_93) rfl rfl ?_
          show Steps p.tables e below (T25.setTop (mkF m 95 #[.val (.int pa), .val (.int pb), .val (.int pc), .val (.int (3 : Int32)), .val (.ref r_EQUAL), .val (.int pb), .val (.int (0 : Int32))] [(.ref r_EQUAL)])) t
          refine XS.iload X25.here hx rfl (hb hby at_95) rfl ?_
          exact kt
        obtain ⟨v29, T29, L29, X29, q29, st29⟩ := callVirtual X25 hx hZ (y := (⟨"com/example/thistle/thistle/language/Operator", "admits", "(I)Z"⟩ : MethodName)) (z := (⟨"com/example/thistle/thistle/language/Operator", "admits", "(I)Z"⟩ : MethodName)) (W := 0) hown (wdOf hw 8 rfl) (wdOf hw 9 rfl) (notFace_of_selects (args := #[]) (mvT hZ (wdOf hw 11 rfl))) (wdOf hw 11 rfl) (wdOf hw 10 rfl) (wdOf hw 6 rfl) (wdOf hw 12 rfl) (by decide) (rm_adm l Z a0 hw [] r_EQUAL pb (2 : Int32) (2 : Int32) (0 : Int32) h0 n0 Z0 F_fewestArguments_EQUAL F_mostArguments_EQUAL ((if_pos (own_ne c27)).symm)) (by decide) (by decide) (by decide) (by decide) K25 E_EQUAL (g := (mkF m 97 #[.val (.int pa), .val (.int pb), .val (.int pc), .val (.int (3 : Int32)), .val (.ref r_EQUAL), .val (.int pb), .val (.int (0 : Int32))] [(.int pb), (.ref r_EQUAL)])) rfl (by rw [hml]; rfl) (argsL := [(.int pb)]) (rest := []) (lenOf pd_1 rfl) rfl rfl (Nat.le_refl _) (hb hby at_97)
        obtain ⟨rfl, n29, K29⟩ := q29
        have N29 := Fr.app N25 n29
        refine Goes.go (U' := (T29.setTop (mkF m 100 #[.val (.int pa), .val (.int pb), .val (.int pc), .val (.int (3 : Int32)), .val (.ref r_EQUAL), .val (.int pb), .val (.int (0 : Int32))] [(.int (0 : Int32))]))) st29 ?_
        refine Goes.go (U' := (T29.setTop (mkF m 110 #[.val (.int pa), .val (.int pb), .val (.int pc), .val (.int (3 : Int32)), .val (.ref r_EQUAL), .val (.int pb), .val (.int (0 : Int32))] [(.int (1 : Int32))]))) (fun t kt => ?_) ?_
        · show Steps p.tables e below (T29.setTop (mkF m 100 #[.val (.int pa), .val (.int pb), .val (.int pc), .val (.int (3 : Int32)), .val (.ref r_EQUAL), .val (.int pb), .val (.int (0 : Int32))] [(.int (0 : Int32))])) t
          refine XS.iload X29.here hx rfl (hb hby at_100) rfl ?_
          show Steps p.tables e below (T29.setTop (mkF m 102 #[.val (.int pa), .val (.int pb), .val (.int pc), .val (.int (3 : Int32)), .val (.ref r_EQUAL), .val (.int pb), .val (.int (0 : Int32))] [(.int (0 : Int32)), (.int (0 : Int32))])) t
          refine XS.icmpNo X29.here hx rfl (hb hby at_102) rfl (XT.ii_ne_f (by decide)) ?_
          show Steps p.tables e below (T29.setTop (mkF m 105 #[.val (.int pa), .val (.int pb), .val (.int pc), .val (.int (3 : Int32)), .val (.ref r_EQUAL), .val (.int pb), .val (.int (0 : Int32))] [])) t
          refine XS.iconst X29.here hx rfl (hb hby at_105) ?_
          show Steps p.tables e below (T29.setTop (mkF m 106 #[.val (.int pa), .val (.int pb), .val (.int pc), .val (.int (3 : Int32)), .val (.ref r_EQUAL), .val (.int pb), .val (.int (0 : Int32))] [(.int (1 : Int32))])) t
          refine XS.goto X29.here hx rfl (pc0 := 106) (pc' := 110) rfl (hb hby at_106) (by decide) (by decide) ?_
          exact kt
        refine Goes.retB X29 hx hlk hret (hb hby at_110) (by decide) (by decide) ?_
        try rw [K29]
        exact ⟨rfl, N29⟩
    · -- not (pc &&& (1 : Int32)) = 0
      refine Goes.go (U' := (T25.setTop (mkF m 83 #[.val (.int pa), .val (.int pb), .val (.int pc), .val (.int (3 : Int32)), .val (.ref r_EQUAL), .val (.int ((pb &&& (7 : Int32)) - (2 : Int32))), .unset] [(.int (2 : Int32)), (.int ((pb &&& (7 : Int32)) - (2 : Int32)))]))) (fun t kt => ?_) ?_
      · show Steps p.tables e below (T25.setTop (mkF m 17 #[.val (.int pa), .val (.int pb), .val (.int pc), .val (.int (3 : Int32)), .val (.ref r_EQUAL), .unset, .unset] [(.int (pc &&& (1 : Int32)))])) t
        refine XS.ifNo X25.here hx rfl (hb hby at_17) rfl (XT.i0_eq_f c26) ?_
        show Steps p.tables e below (T25.setTop (mkF m 20 #[.val (.int pa), .val (.int pb), .val (.int pc), .val (.int (3 : Int32)), .val (.ref r_EQUAL), .unset, .unset] [])) t
        refine XS.iloadN X25.here hx rfl (hb hby at_20) rfl ?_
        show Steps p.tables e below (T25.setTop (mkF m 21 #[.val (.int pa), .val (.int pb), .val (.int pc), .val (.int (3 : Int32)), .val (.ref r_EQUAL), .unset, .unset] [(.int pb)])) t
        refine XS.bipush X25.here hx rfl (hb hby at_21) ?_
        show Steps p.tables e below (T25.setTop (mkF m 23 #[.val (.int pa), .val (.int pb), .val (.int pc), .val (.int (3 : Int32)), .val (.ref r_EQUAL), .unset, .unset] [(.int (7 : Int32)), (.int pb)])) t
        refine XS.iand X25.here hx rfl (hb hby at_23) rfl ?_
        show Steps p.tables e below (T25.setTop (mkF m 24 #[.val (.int pa), .val (.int pb), .val (.int pc), .val (.int (3 : Int32)), .val (.ref r_EQUAL), .unset, .unset] [(.int (pb &&& (7 : Int32)))])) t
        refine XS.iconst X25.here hx rfl (hb hby at_24) ?_
        show Steps p.tables e below (T25.setTop (mkF m 25 #[.val (.int pa), .val (.int pb), .val (.int pc), .val (.int (3 : Int32)), .val (.ref r_EQUAL), .unset, .unset] [(.int (2 : Int32)), (.int (pb &&& (7 : Int32)))])) t
        refine XS.isub X25.here hx rfl (hb hby at_25) rfl ?_
        show Steps p.tables e below (T25.setTop (mkF m 26 #[.val (.int pa), .val (.int pb), .val (.int pc), .val (.int (3 : Int32)), .val (.ref r_EQUAL), .unset, .unset] [(.int ((pb &&& (7 : Int32)) - (2 : Int32)))])) t
        refine XS.istore X25.here hx rfl (hb hby at_26) rfl (l' := #[.val (.int pa), .val (.int pb), .val (.int pc), .val (.int (3 : Int32)), .val (.ref r_EQUAL), .val (.int ((pb &&& (7 : Int32)) - (2 : Int32))), .unset]) rfl ?_
        show Steps p.tables e below (T25.setTop (mkF m 28 #[.val (.int pa), .val (.int pb), .val (.int pc), .val (.int (3 : Int32)), .val (.ref r_EQUAL), .val (.int ((pb &&& (7 : Int32)) - (2 : Int32))), .unset] [])) t
        refine XS.goto X25.here hx rfl (pc0 := 28) (pc' := 34) rfl (hb hby at_28) (by decide) (by decide) ?_
        show Steps p.tables e below (T25.setTop (mkF m 34 #[.val (.int pa), .val (.int pb), .val (.int pc), .val (.int (3 : Int32)), .val (.ref r_EQUAL), .val (.int ((pb &&& (7 : Int32)) - (2 : Int32))), .unset] [])) t
        refine XS.iloadN X25.here hx rfl (hb hby at_34) rfl ?_
        show Steps p.tables e below (T25.setTop (mkF m 35 #[.val (.int pa), .val (.int pb), .val (.int pc), .val (.int (3 : Int32)), .val (.ref r_EQUAL), .val (.int ((pb &&& (7 : Int32)) - (2 : Int32))), .unset] [(.int (3 : Int32))])) t
        refine XS.ifNo X25.here hx rfl (hb hby at_35) rfl (XT.i0_eq_f (by decide)) ?_
        show Steps p.tables e below (T25.setTop (mkF m 38 #[.val (.int pa), .val (.int pb), .val (.int pc), .val (.int (3 : Int32)), .val (.ref r_EQUAL), .val (.int ((pb &&& (7 : Int32)) - (2 : Int32))), .unset] [])) t
        refine XS.iloadN X25.here hx rfl (hb hby at_38) rfl ?_
        show Steps p.tables e below (T25.setTop (mkF m 39 #[.val (.int pa), .val (.int pb), .val (.int pc), .val (.int (3 : Int32)), .val (.ref r_EQUAL), .val (.int ((pb &&& (7 : Int32)) - (2 : Int32))), .unset] [(.int (3 : Int32))])) t
        refine XS.iconst X25.here hx rfl (hb hby at_39) ?_
        show Steps p.tables e below (T25.setTop (mkF m 40 #[.val (.int pa), .val (.int pb), .val (.int pc), .val (.int (3 : Int32)), .val (.ref r_EQUAL), .val (.int ((pb &&& (7 : Int32)) - (2 : Int32))), .unset] [(.int (1 : Int32)), (.int (3 : Int32))])) t
        refine XS.icmpYes X25.here hx rfl (pc0 := 40) (pc' := 59) rfl (hb hby at_40) rfl (XT.ii_ne_t (by decide)) (by decide) (by decide) ?_
        show Steps p.tables e below (T25.setTop (mkF m 59 #[.val (.int pa), .val (.int pb), .val (.int pc), .val (.int (3 : Int32)), .val (.ref r_EQUAL), .val (.int ((pb &&& (7 : Int32)) - (2 : Int32))), .unset] [])) t
        refine XS.iloadN X25.here hx rfl (hb hby at_59) rfl ?_
        show Steps p.tables e below (T25.setTop (mkF m 60 #[.val (.int pa), .val (.int pb), .val (.int pc), .val (.int (3 : Int32)), .val (.ref r_EQUAL), .val (.int ((pb &&& (7 : Int32)) - (2 : Int32))), .unset] [(.int (3 : Int32))])) t
        refine XS.iconst X25.here hx rfl (hb hby at_60) ?_
        show Steps p.tables e below (T25.setTop (mkF m 61 #[.val (.int pa), .val (.int pb), .val (.int pc), .val (.int (3 : Int32)), .val (.ref r_EQUAL), .val (.int ((pb &&& (7 : Int32)) - (2 : Int32))), .unset] [(.int (2 : Int32)), (.int (3 : Int32))])) t
        refine XS.icmpYes X25.here hx rfl (pc0 := 61) (pc' := 80) rfl (hb hby at_61) rfl (XT.ii_ne_t (by decide)) (by decide) (by decide) ?_
        show Steps p.tables e below (T25.setTop (mkF m 80 #[.val (.int pa), .val (.int pb), .val (.int pc), .val (.int (3 : Int32)), .val (.ref r_EQUAL), .val (.int ((pb &&& (7 : Int32)) - (2 : Int32))), .unset] [])) t
        refine XS.iload X25.here hx rfl (hb hby at_80) rfl ?_
        show Steps p.tables e below (T25.setTop (mkF m 82 #[.val (.int pa), .val (.int pb), .val (.int pc), .val (.int (3 : Int32)), .val (.ref r_EQUAL), .val (.int ((pb &&& (7 : Int32)) - (2 : Int32))), .unset] [(.int ((pb &&& (7 : Int32)) - (2 : Int32)))])) t
        refine XS.iconst X25.here hx rfl (hb hby at_82) ?_
        exact kt
      by_cases c30 : ((pb &&& (7 : Int32)) - (2 : Int32)) = (2 : Int32)
      · -- ((pb &&& (7 : Int32)) - (2 : Int32)) = (2 : Int32)
        refine Goes.go (U' := (T25.setTop (mkF m 97 #[.val (.int pa), .val (.int pb), .val (.int pc), .val (.int (3 : Int32)), .val (.ref r_EQUAL), .val (.int ((pb &&& (7 : Int32)) - (2 : Int32))), .val (.int (1 : Int32))] [(.int ((pb &&& (7 : Int32)) - (2 : Int32))), (.ref r_EQUAL)]))) (fun t kt => ?_) ?_
        · show Steps p.tables e below (T25.setTop (mkF m 83 #[.val (.int pa), .val (.int pb), .val (.int pc), .val (.int (3 : Int32)), .val (.ref r_EQUAL), .val (.int ((pb &&& (7 : Int32)) - (2 : Int32))), .unset] [(.int (2 : Int32)), (.int ((pb &&& (7 : Int32)) - (2 : Int32)))])) t
          refine XS.icmpNo X25.here hx rfl (hb hby at_83) rfl (XT.ii_ne_f c30) ?_
          show Steps p.tables e below (T25.setTop (mkF m 86 #[.val (.int pa), .val (.int pb), .val (.int pc), .val (.int (3 : Int32)), .val (.ref r_EQUAL), .val (.int ((pb &&& (7 : Int32)) - (2 : Int32))), .unset] [])) t
          refine XS.iconst X25.here hx rfl (hb hby at_86) ?_
          show Steps p.tables e below (T25.setTop (mkF m 87 #[.val (.int pa), .val (.int pb), .val (.int pc), .val (.int (3 : Int32)), .val (.ref r_EQUAL), .val (.int ((pb &&& (7 : Int32)) - (2 : Int32))), .unset] [(.int (1 : Int32))])) t
          refine XS.goto X25.here hx rfl (pc0 := 87) (pc' := 91) rfl (hb hby at_87) (by decide) (by decide) ?_
          show Steps p.tables e below (T25.setTop (mkF m 91 #[.val (.int pa), .val (.int pb), .val (.int pc), .val (.int (3 : Int32)), .val (.ref r_EQUAL), .val (.int ((pb &&& (7 : Int32)) - (2 : Int32))), .unset] [(.int (1 : Int32))])) t
          refine XS.istore X25.here hx rfl (hb hby at_91) rfl (l' := #[.val (.int pa), .val (.int pb), .val (.int pc), .val (.int (3 : Int32)), .val (.ref r_EQUAL), .val (.int ((pb &&& (7 : Int32)) - (2 : Int32))), .val (.int (1 : Int32))]) rfl ?_
          show Steps p.tables e below (T25.setTop (mkF m 93 #[.val (.int pa), .val (.int pb), .val (.int pc), .val (.int (3 : Int32)), .val (.ref r_EQUAL), .val (.int ((pb &&& (7 : Int32)) - (2 : Int32))), .val (.int (1 : Int32))] [])) t
          refine XS.aload X25.here hx rfl (hb hby at_93) rfl rfl ?_
          show Steps p.tables e below (T25.setTop (mkF m 95 #[.val (.int pa), .val (.int pb), .val (.int pc), .val (.int (3 : Int32)), .val (.ref r_EQUAL), .val (.int ((pb &&& (7 : Int32)) - (2 : Int32))), .val (.int (1 : Int32))] [(.ref r_EQUAL)])) t
          refine XS.iload X25.here hx rfl (hb hby at_95) rfl ?_
          exact kt
        obtain ⟨v31, T31, L31, X31, q31, st31⟩ := callVirtual X25 hx hZ (y := (⟨"com/example/thistle/thistle/language/Operator", "admits", "(I)Z"⟩ : MethodName)) (z := (⟨"com/example/thistle/thistle/language/Operator", "admits", "(I)Z"⟩ : MethodName)) (W := 0) hown (wdOf hw 8 rfl) (wdOf hw 9 rfl) (notFace_of_selects (args := #[]) (mvT hZ (wdOf hw 11 rfl))) (wdOf hw 11 rfl) (wdOf hw 10 rfl) (wdOf hw 6 rfl) (wdOf hw 12 rfl) (by decide) (rm_adm l Z a0 hw [] r_EQUAL ((pb &&& (7 : Int32)) - (2 : Int32)) (2 : Int32) (2 : Int32) (1 : Int32) h0 n0 Z0 F_fewestArguments_EQUAL F_mostArguments_EQUAL ((if_neg (own_eq c30)).symm)) (by decide) (by decide) (by decide) (by decide) K25 E_EQUAL (g := (mkF m 97 #[.val (.int pa), .val (.int pb), .val (.int pc), .val (.int (3 : Int32)), .val (.ref r_EQUAL), .val (.int ((pb &&& (7 : Int32)) - (2 : Int32))), .val (.int (1 : Int32))] [(.int ((pb &&& (7 : Int32)) - (2 : Int32))), (.ref r_EQUAL)])) rfl (by rw [hml]; rfl) (argsL := [(.int ((pb &&& (7 : Int32)) - (2 : Int32)))]) (rest := []) (lenOf pd_1 rfl) rfl rfl (Nat.le_refl _) (hb hby at_97)
        obtain ⟨rfl, n31, K31⟩ := q31
        have N31 := Fr.app N25 n31
        refine Goes.go (U' := (T31.setTop (mkF m 100 #[.val (.int pa), .val (.int pb), .val (.int pc), .val (.int (3 : Int32)), .val (.ref r_EQUAL), .val (.int ((pb &&& (7 : Int32)) - (2 : Int32))), .val (.int (1 : Int32))] [(.int (1 : Int32))]))) st31 ?_
        refine Goes.go (U' := (T31.setTop (mkF m 110 #[.val (.int pa), .val (.int pb), .val (.int pc), .val (.int (3 : Int32)), .val (.ref r_EQUAL), .val (.int ((pb &&& (7 : Int32)) - (2 : Int32))), .val (.int (1 : Int32))] [(.int (1 : Int32))]))) (fun t kt => ?_) ?_
        · show Steps p.tables e below (T31.setTop (mkF m 100 #[.val (.int pa), .val (.int pb), .val (.int pc), .val (.int (3 : Int32)), .val (.ref r_EQUAL), .val (.int ((pb &&& (7 : Int32)) - (2 : Int32))), .val (.int (1 : Int32))] [(.int (1 : Int32))])) t
          refine XS.iload X31.here hx rfl (hb hby at_100) rfl ?_
          show Steps p.tables e below (T31.setTop (mkF m 102 #[.val (.int pa), .val (.int pb), .val (.int pc), .val (.int (3 : Int32)), .val (.ref r_EQUAL), .val (.int ((pb &&& (7 : Int32)) - (2 : Int32))), .val (.int (1 : Int32))] [(.int (1 : Int32)), (.int (1 : Int32))])) t
          refine XS.icmpNo X31.here hx rfl (hb hby at_102) rfl (XT.ii_ne_f (by decide)) ?_
          show Steps p.tables e below (T31.setTop (mkF m 105 #[.val (.int pa), .val (.int pb), .val (.int pc), .val (.int (3 : Int32)), .val (.ref r_EQUAL), .val (.int ((pb &&& (7 : Int32)) - (2 : Int32))), .val (.int (1 : Int32))] [])) t
          refine XS.iconst X31.here hx rfl (hb hby at_105) ?_
          show Steps p.tables e below (T31.setTop (mkF m 106 #[.val (.int pa), .val (.int pb), .val (.int pc), .val (.int (3 : Int32)), .val (.ref r_EQUAL), .val (.int ((pb &&& (7 : Int32)) - (2 : Int32))), .val (.int (1 : Int32))] [(.int (1 : Int32))])) t
          refine XS.goto X31.here hx rfl (pc0 := 106) (pc' := 110) rfl (hb hby at_106) (by decide) (by decide) ?_
          exact kt
        refine Goes.retB X31 hx hlk hret (hb hby at_110) (by decide) (by decide) ?_
        try rw [K31]
        exact ⟨rfl, N31⟩
      · -- not ((pb &&& (7 : Int32)) - (2 : Int32)) = (2 : Int32)
        refine Goes.go (U' := (T25.setTop (mkF m 97 #[.val (.int pa), .val (.int pb), .val (.int pc), .val (.int (3 : Int32)), .val (.ref r_EQUAL), .val (.int ((pb &&& (7 : Int32)) - (2 : Int32))), .val (.int (0 : Int32))] [(.int ((pb &&& (7 : Int32)) - (2 : Int32))), (.ref r_EQUAL)]))) (fun t kt => ?_) ?_
        · show Steps p.tables e below (T25.setTop (mkF m 83 #[.val (.int pa), .val (.int pb), .val (.int pc), .val (.int (3 : Int32)), .val (.ref r_EQUAL), .val (.int ((pb &&& (7 : Int32)) - (2 : Int32))), .unset] [(.int (2 : Int32)), (.int ((pb &&& (7 : Int32)) - (2 : Int32)))])) t
          refine XS.icmpYes X25.here hx rfl (pc0 := 83) (pc' := 90) rfl (hb hby at_83) rfl (XT.ii_ne_t c30) (by decide) (by decide) ?_
          show Steps p.tables e below (T25.setTop (mkF m 90 #[.val (.int pa), .val (.int pb), .val (.int pc), .val (.int (3 : Int32)), .val (.ref r_EQUAL), .val (.int ((pb &&& (7 : Int32)) - (2 : Int32))), .unset] [])) t
          refine XS.iconst X25.here hx rfl (hb hby at_90) ?_
          show Steps p.tables e below (T25.setTop (mkF m 91 #[.val (.int pa), .val (.int pb), .val (.int pc), .val (.int (3 : Int32)), .val (.ref r_EQUAL), .val (.int ((pb &&& (7 : Int32)) - (2 : Int32))), .unset] [(.int (0 : Int32))])) t
          refine XS.istore X25.here hx rfl (hb hby at_91) rfl (l' := #[.val (.int pa), .val (.int pb), .val (.int pc), .val (.int (3 : Int32)), .val (.ref r_EQUAL), .val (.int ((pb &&& (7 : Int32)) - (2 : Int32))), .val (.int (0 : Int32))]) rfl ?_
          show Steps p.tables e below (T25.setTop (mkF m 93 #[.val (.int pa), .val (.int pb), .val (.int pc), .val (.int (3 : Int32)), .val (.ref r_EQUAL), .val (.int ((pb &&& (7 : Int32)) - (2 : Int32))), .val (.int (0 : Int32))] [])) t
          refine XS.aload X25.here hx rfl (hb hby at_93) rfl rfl ?_
          show Steps p.tables e below (T25.setTop (mkF m 95 #[.val (.int pa), .val (.int pb), .val (.int pc), .val (.int (3 : Int32)), .val (.ref r_EQUAL), .val (.int ((pb &&& (7 : Int32)) - (2 : Int32))), .val (.int (0 : Int32))] [(.ref r_EQUAL)])) t
          refine XS.iload X25.here hx rfl (hb hby at_95) rfl ?_
          exact kt
        obtain ⟨v32, T32, L32, X32, q32, st32⟩ := callVirtual X25 hx hZ (y := (⟨"com/example/thistle/thistle/language/Operator", "admits", "(I)Z"⟩ : MethodName)) (z := (⟨"com/example/thistle/thistle/language/Operator", "admits", "(I)Z"⟩ : MethodName)) (W := 0) hown (wdOf hw 8 rfl) (wdOf hw 9 rfl) (notFace_of_selects (args := #[]) (mvT hZ (wdOf hw 11 rfl))) (wdOf hw 11 rfl) (wdOf hw 10 rfl) (wdOf hw 6 rfl) (wdOf hw 12 rfl) (by decide) (rm_adm l Z a0 hw [] r_EQUAL ((pb &&& (7 : Int32)) - (2 : Int32)) (2 : Int32) (2 : Int32) (0 : Int32) h0 n0 Z0 F_fewestArguments_EQUAL F_mostArguments_EQUAL ((if_pos (own_ne c30)).symm)) (by decide) (by decide) (by decide) (by decide) K25 E_EQUAL (g := (mkF m 97 #[.val (.int pa), .val (.int pb), .val (.int pc), .val (.int (3 : Int32)), .val (.ref r_EQUAL), .val (.int ((pb &&& (7 : Int32)) - (2 : Int32))), .val (.int (0 : Int32))] [(.int ((pb &&& (7 : Int32)) - (2 : Int32))), (.ref r_EQUAL)])) rfl (by rw [hml]; rfl) (argsL := [(.int ((pb &&& (7 : Int32)) - (2 : Int32)))]) (rest := []) (lenOf pd_1 rfl) rfl rfl (Nat.le_refl _) (hb hby at_97)
        obtain ⟨rfl, n32, K32⟩ := q32
        have N32 := Fr.app N25 n32
        refine Goes.go (U' := (T32.setTop (mkF m 100 #[.val (.int pa), .val (.int pb), .val (.int pc), .val (.int (3 : Int32)), .val (.ref r_EQUAL), .val (.int ((pb &&& (7 : Int32)) - (2 : Int32))), .val (.int (0 : Int32))] [(.int (0 : Int32))]))) st32 ?_
        refine Goes.go (U' := (T32.setTop (mkF m 110 #[.val (.int pa), .val (.int pb), .val (.int pc), .val (.int (3 : Int32)), .val (.ref r_EQUAL), .val (.int ((pb &&& (7 : Int32)) - (2 : Int32))), .val (.int (0 : Int32))] [(.int (1 : Int32))]))) (fun t kt => ?_) ?_
        · show Steps p.tables e below (T32.setTop (mkF m 100 #[.val (.int pa), .val (.int pb), .val (.int pc), .val (.int (3 : Int32)), .val (.ref r_EQUAL), .val (.int ((pb &&& (7 : Int32)) - (2 : Int32))), .val (.int (0 : Int32))] [(.int (0 : Int32))])) t
          refine XS.iload X32.here hx rfl (hb hby at_100) rfl ?_
          show Steps p.tables e below (T32.setTop (mkF m 102 #[.val (.int pa), .val (.int pb), .val (.int pc), .val (.int (3 : Int32)), .val (.ref r_EQUAL), .val (.int ((pb &&& (7 : Int32)) - (2 : Int32))), .val (.int (0 : Int32))] [(.int (0 : Int32)), (.int (0 : Int32))])) t
          refine XS.icmpNo X32.here hx rfl (hb hby at_102) rfl (XT.ii_ne_f (by decide)) ?_
          show Steps p.tables e below (T32.setTop (mkF m 105 #[.val (.int pa), .val (.int pb), .val (.int pc), .val (.int (3 : Int32)), .val (.ref r_EQUAL), .val (.int ((pb &&& (7 : Int32)) - (2 : Int32))), .val (.int (0 : Int32))] [])) t
          refine XS.iconst X32.here hx rfl (hb hby at_105) ?_
          show Steps p.tables e below (T32.setTop (mkF m 106 #[.val (.int pa), .val (.int pb), .val (.int pc), .val (.int (3 : Int32)), .val (.ref r_EQUAL), .val (.int ((pb &&& (7 : Int32)) - (2 : Int32))), .val (.int (0 : Int32))] [(.int (1 : Int32))])) t
          refine XS.goto X32.here hx rfl (pc0 := 106) (pc' := 110) rfl (hb hby at_106) (by decide) (by decide) ?_
          exact kt
        refine Goes.retB X32 hx hlk hret (hb hby at_110) (by decide) (by decide) ?_
        try rw [K32]
        exact ⟨rfl, N32⟩
  · -- case 4
    rw [hk]
    refine Goes.go (U' := (s₁.setTop (mkF m 9 #[.val (.int pa), .val (.int pb), .val (.int pc), .val (.int (4 : Int32)), .unset, .unset, .unset] [(.int (4 : Int32))]))) (fun t kt => ?_) ?_
    · show Steps p.tables e below (s₁.setTop (mkF m 7 #[.val (.int pa), .val (.int pb), .val (.int pc), .unset, .unset, .unset, .unset] [(.int (4 : Int32))])) t
      refine XS.istoreN X0.here hx rfl (hb hby at_7) rfl (l' := #[.val (.int pa), .val (.int pb), .val (.int pc), .val (.int (4 : Int32)), .unset, .unset, .unset]) rfl ?_
      show Steps p.tables e below (s₁.setTop (mkF m 8 #[.val (.int pa), .val (.int pb), .val (.int pc), .val (.int (4 : Int32)), .unset, .unset, .unset] [])) t
      refine XS.iloadN X0.here hx rfl (hb hby at_8) rfl ?_
      exact kt
    obtain ⟨v33, T33, L33, X33, q33, st33⟩ := callStatic X0 hx hZ (y := (⟨"com/example/thistle/thistle/language/OperatorAdmitsPinLaw", "pick", "(I)Lcom/example/thistle/thistle/language/Operator;"⟩ : MethodName)) (W := 0) hown (wdOf hw 1 rfl) (wdOf hw 2 rfl) (wdOf hw 3 rfl) (wdOf hw 4 rfl) (by decide) (rm_pick l Z a0 hw [] (4 : Int32) r_IN r_AND r_OR r_NOT r_EQUAL r_IN r_GREATER_THAN r_LESS_THAN r_GREATER_THAN_OR_EQUAL r_LESS_THAN_OR_EQUAL r_ADD r_SUBTRACT r_MULTIPLY r_DIVIDE h0 n0 Z0 S_AND S_OR S_NOT S_EQUAL S_IN S_GREATER_THAN S_LESS_THAN S_GREATER_THAN_OR_EQUAL S_LESS_THAN_OR_EQUAL S_ADD S_SUBTRACT S_MULTIPLY S_DIVIDE (by simp)) (by decide) (by decide) (by decide) (by decide) e0 (g := (mkF m 9 #[.val (.int pa), .val (.int pb), .val (.int pc), .val (.int (4 : Int32)), .unset, .unset, .unset] [(.int (4 : Int32))])) rfl (by rw [hml]; rfl) (argsL := [(.int (4 : Int32))]) (rest := []) (lenOf pd_0 rfl) rfl rfl (Nat.le_refl _) (hb hby at_9)
    obtain ⟨rfl, n33, K33⟩ := q33
    have N33 := Fr.app N0 n33
    refine Goes.go (U' := (T33.setTop (mkF m 12 #[.val (.int pa), .val (.int pb), .val (.int pc), .val (.int (4 : Int32)), .unset, .unset, .unset] [(.ref r_IN)]))) st33 ?_
    refine Goes.go (U' := (T33.setTop (mkF m 17 #[.val (.int pa), .val (.int pb), .val (.int pc), .val (.int (4 : Int32)), .val (.ref r_IN), .unset, .unset] [(.int (pc &&& (1 : Int32)))]))) (fun t kt => ?_) ?_
    · show Steps p.tables e below (T33.setTop (mkF m 12 #[.val (.int pa), .val (.int pb), .val (.int pc), .val (.int (4 : Int32)), .unset, .unset, .unset] [(.ref r_IN)])) t
      refine XS.astore X33.here hx rfl (hb hby at_12) rfl rfl (l' := #[.val (.int pa), .val (.int pb), .val (.int pc), .val (.int (4 : Int32)), .val (.ref r_IN), .unset, .unset]) rfl ?_
      show Steps p.tables e below (T33.setTop (mkF m 14 #[.val (.int pa), .val (.int pb), .val (.int pc), .val (.int (4 : Int32)), .val (.ref r_IN), .unset, .unset] [])) t
      refine XS.iloadN X33.here hx rfl (hb hby at_14) rfl ?_
      show Steps p.tables e below (T33.setTop (mkF m 15 #[.val (.int pa), .val (.int pb), .val (.int pc), .val (.int (4 : Int32)), .val (.ref r_IN), .unset, .unset] [(.int pc)])) t
      refine XS.iconst X33.here hx rfl (hb hby at_15) ?_
      show Steps p.tables e below (T33.setTop (mkF m 16 #[.val (.int pa), .val (.int pb), .val (.int pc), .val (.int (4 : Int32)), .val (.ref r_IN), .unset, .unset] [(.int (1 : Int32)), (.int pc)])) t
      refine XS.iand X33.here hx rfl (hb hby at_16) rfl ?_
      exact kt
    by_cases c34 : (pc &&& (1 : Int32)) = 0
    · -- (pc &&& (1 : Int32)) = 0
      refine Goes.go (U' := (T33.setTop (mkF m 83 #[.val (.int pa), .val (.int pb), .val (.int pc), .val (.int (4 : Int32)), .val (.ref r_IN), .val (.int pb), .unset] [(.int (2 : Int32)), (.int pb)]))) (fun t kt => ?_) ?_
      · show Steps p.tables e below (T33.setTop (mkF m 17 #[.val (.int pa), .val (.int pb), .val (.int pc), .val (.int (4 : Int32)), .val (.ref r_IN), .unset, .unset] [(.int (pc &&& (1 : Int32)))])) t
        refine XS.ifYes X33.here hx rfl (pc0 := 17) (pc' := 31) rfl (hb hby at_17) rfl (XT.i0_eq_t c34) (by decide) (by decide) ?_
        show Steps p.tables e below (T33.setTop (mkF m 31 #[.val (.int pa), .val (.int pb), .val (.int pc), .val (.int (4 : Int32)), .val (.ref r_IN), .unset, .unset] [])) t
        refine XS.iloadN X33.here hx rfl (hb hby at_31) rfl ?_
        show Steps p.tables e below (T33.setTop (mkF m 32 #[.val (.int pa), .val (.int pb), .val (.int pc), .val (.int (4 : Int32)), .val (.ref r_IN), .unset, .unset] [(.int pb)])) t
        refine XS.istore X33.here hx rfl (hb hby at_32) rfl (l' := #[.val (.int pa), .val (.int pb), .val (.int pc), .val (.int (4 : Int32)), .val (.ref r_IN), .val (.int pb), .unset]) rfl ?_
        show Steps p.tables e below (T33.setTop (mkF m 34 #[.val (.int pa), .val (.int pb), .val (.int pc), .val (.int (4 : Int32)), .val (.ref r_IN), .val (.int pb), .unset] [])) t
        refine XS.iloadN X33.here hx rfl (hb hby at_34) rfl ?_
        show Steps p.tables e below (T33.setTop (mkF m 35 #[.val (.int pa), .val (.int pb), .val (.int pc), .val (.int (4 : Int32)), .val (.ref r_IN), .val (.int pb), .unset] [(.int (4 : Int32))])) t
        refine XS.ifNo X33.here hx rfl (hb hby at_35) rfl (XT.i0_eq_f (by decide)) ?_
        show Steps p.tables e below (T33.setTop (mkF m 38 #[.val (.int pa), .val (.int pb), .val (.int pc), .val (.int (4 : Int32)), .val (.ref r_IN), .val (.int pb), .unset] [])) t
        refine XS.iloadN X33.here hx rfl (hb hby at_38) rfl ?_
        show Steps p.tables e below (T33.setTop (mkF m 39 #[.val (.int pa), .val (.int pb), .val (.int pc), .val (.int (4 : Int32)), .val (.ref r_IN), .val (.int pb), .unset] [(.int (4 : Int32))])) t
        refine XS.iconst X33.here hx rfl (hb hby at_39) ?_
        show Steps p.tables e below (T33.setTop (mkF m 40 #[.val (.int pa), .val (.int pb), .val (.int pc), .val (.int (4 : Int32)), .val (.ref r_IN), .val (.int pb), .unset] [(.int (1 : Int32)), (.int (4 : Int32))])) t
        refine XS.icmpYes X33.here hx rfl (pc0 := 40) (pc' := 59) rfl (hb hby at_40) rfl (XT.ii_ne_t (by decide)) (by decide) (by decide) ?_
        show Steps p.tables e below (T33.setTop (mkF m 59 #[.val (.int pa), .val (.int pb), .val (.int pc), .val (.int (4 : Int32)), .val (.ref r_IN), .val (.int pb), .unset] [])) t
        refine XS.iloadN X33.here hx rfl (hb hby at_59) rfl ?_
        show Steps p.tables e below (T33.setTop (mkF m 60 #[.val (.int pa), .val (.int pb), .val (.int pc), .val (.int (4 : Int32)), .val (.ref r_IN), .val (.int pb), .unset] [(.int (4 : Int32))])) t
        refine XS.iconst X33.here hx rfl (hb hby at_60) ?_
        show Steps p.tables e below (T33.setTop (mkF m 61 #[.val (.int pa), .val (.int pb), .val (.int pc), .val (.int (4 : Int32)), .val (.ref r_IN), .val (.int pb), .unset] [(.int (2 : Int32)), (.int (4 : Int32))])) t
        refine XS.icmpYes X33.here hx rfl (pc0 := 61) (pc' := 80) rfl (hb hby at_61) rfl (XT.ii_ne_t (by decide)) (by decide) (by decide) ?_
        show Steps p.tables e below (T33.setTop (mkF m 80 #[.val (.int pa), .val (.int pb), .val (.int pc), .val (.int (4 : Int32)), .val (.ref r_IN), .val (.int pb), .unset] [])) t
        refine XS.iload X33.here hx rfl (hb hby at_80) rfl ?_
        show Steps p.tables e below (T33.setTop (mkF m 82 #[.val (.int pa), .val (.int pb), .val (.int pc), .val (.int (4 : Int32)), .val (.ref r_IN), .val (.int pb), .unset] [(.int pb)])) t
        refine XS.iconst X33.here hx rfl (hb hby at_82) ?_
        exact kt
      by_cases c35 : pb = (2 : Int32)
      · -- pb = (2 : Int32)
        refine Goes.go (U' := (T33.setTop (mkF m 97 #[.val (.int pa), .val (.int pb), .val (.int pc), .val (.int (4 : Int32)), .val (.ref r_IN), .val (.int pb), .val (.int (1 : Int32))] [(.int pb), (.ref r_IN)]))) (fun t kt => ?_) ?_
        · show Steps p.tables e below (T33.setTop (mkF m 83 #[.val (.int pa), .val (.int pb), .val (.int pc), .val (.int (4 : Int32)), .val (.ref r_IN), .val (.int pb), .unset] [(.int (2 : Int32)), (.int pb)])) t
          refine XS.icmpNo X33.here hx rfl (hb hby at_83) rfl (XT.ii_ne_f c35) ?_
          show Steps p.tables e below (T33.setTop (mkF m 86 #[.val (.int pa), .val (.int pb), .val (.int pc), .val (.int (4 : Int32)), .val (.ref r_IN), .val (.int pb), .unset] [])) t
          refine XS.iconst X33.here hx rfl (hb hby at_86) ?_
          show Steps p.tables e below (T33.setTop (mkF m 87 #[.val (.int pa), .val (.int pb), .val (.int pc), .val (.int (4 : Int32)), .val (.ref r_IN), .val (.int pb), .unset] [(.int (1 : Int32))])) t
          refine XS.goto X33.here hx rfl (pc0 := 87) (pc' := 91) rfl (hb hby at_87) (by decide) (by decide) ?_
          show Steps p.tables e below (T33.setTop (mkF m 91 #[.val (.int pa), .val (.int pb), .val (.int pc), .val (.int (4 : Int32)), .val (.ref r_IN), .val (.int pb), .unset] [(.int (1 : Int32))])) t
          refine XS.istore X33.here hx rfl (hb hby at_91) rfl (l' := #[.val (.int pa), .val (.int pb), .val (.int pc), .val (.int (4 : Int32)), .val (.ref r_IN), .val (.int pb), .val (.int (1 : Int32))]) rfl ?_
          show Steps p.tables e below (T33.setTop (mkF m 93 #[.val (.int pa), .val (.int pb), .val (.int pc), .val (.int (4 : Int32)), .val (.ref r_IN), .val (.int pb), .val (.int (1 : Int32))] [])) t
          refine XS.aload X33.here hx rfl (hb hby at_93) rfl rfl ?_
          show Steps p.tables e below (T33.setTop (mkF m 95 #[.val (.int pa), .val (.int pb), .val (.int pc), .val (.int (4 : Int32)), .val (.ref r_IN), .val (.int pb), .val (.int (1 : Int32))] [(.ref r_IN)])) t
          refine XS.iload X33.here hx rfl (hb hby at_95) rfl ?_
          exact kt
        obtain ⟨v36, T36, L36, X36, q36, st36⟩ := callVirtual X33 hx hZ (y := (⟨"com/example/thistle/thistle/language/Operator", "admits", "(I)Z"⟩ : MethodName)) (z := (⟨"com/example/thistle/thistle/language/Operator", "admits", "(I)Z"⟩ : MethodName)) (W := 0) hown (wdOf hw 8 rfl) (wdOf hw 9 rfl) (notFace_of_selects (args := #[]) (mvT hZ (wdOf hw 11 rfl))) (wdOf hw 11 rfl) (wdOf hw 10 rfl) (wdOf hw 6 rfl) (wdOf hw 12 rfl) (by decide) (rm_adm l Z a0 hw [] r_IN pb (2 : Int32) (2 : Int32) (1 : Int32) h0 n0 Z0 F_fewestArguments_IN F_mostArguments_IN ((if_neg (own_eq c35)).symm)) (by decide) (by decide) (by decide) (by decide) K33 E_IN (g := (mkF m 97 #[.val (.int pa), .val (.int pb), .val (.int pc), .val (.int (4 : Int32)), .val (.ref r_IN), .val (.int pb), .val (.int (1 : Int32))] [(.int pb), (.ref r_IN)])) rfl (by rw [hml]; rfl) (argsL := [(.int pb)]) (rest := []) (lenOf pd_1 rfl) rfl rfl (Nat.le_refl _) (hb hby at_97)
        obtain ⟨rfl, n36, K36⟩ := q36
        have N36 := Fr.app N33 n36
        refine Goes.go (U' := (T36.setTop (mkF m 100 #[.val (.int pa), .val (.int pb), .val (.int pc), .val (.int (4 : Int32)), .val (.ref r_IN), .val (.int pb), .val (.int (1 : Int32))] [(.int (1 : Int32))]))) st36 ?_
        refine Goes.go (U' := (T36.setTop (mkF m 110 #[.val (.int pa), .val (.int pb), .val (.int pc), .val (.int (4 : Int32)), .val (.ref r_IN), .val (.int pb), .val (.int (1 : Int32))] [(.int (1 : Int32))]))) (fun t kt => ?_) ?_
        · show Steps p.tables e below (T36.setTop (mkF m 100 #[.val (.int pa), .val (.int pb), .val (.int pc), .val (.int (4 : Int32)), .val (.ref r_IN), .val (.int pb), .val (.int (1 : Int32))] [(.int (1 : Int32))])) t
          refine XS.iload X36.here hx rfl (hb hby at_100) rfl ?_
          show Steps p.tables e below (T36.setTop (mkF m 102 #[.val (.int pa), .val (.int pb), .val (.int pc), .val (.int (4 : Int32)), .val (.ref r_IN), .val (.int pb), .val (.int (1 : Int32))] [(.int (1 : Int32)), (.int (1 : Int32))])) t
          refine XS.icmpNo X36.here hx rfl (hb hby at_102) rfl (XT.ii_ne_f (by decide)) ?_
          show Steps p.tables e below (T36.setTop (mkF m 105 #[.val (.int pa), .val (.int pb), .val (.int pc), .val (.int (4 : Int32)), .val (.ref r_IN), .val (.int pb), .val (.int (1 : Int32))] [])) t
          refine XS.iconst X36.here hx rfl (hb hby at_105) ?_
          show Steps p.tables e below (T36.setTop (mkF m 106 #[.val (.int pa), .val (.int pb), .val (.int pc), .val (.int (4 : Int32)), .val (.ref r_IN), .val (.int pb), .val (.int (1 : Int32))] [(.int (1 : Int32))])) t
          refine XS.goto X36.here hx rfl (pc0 := 106) (pc' := 110) rfl (hb hby at_106) (by decide) (by decide) ?_
          exact kt
        refine Goes.retB X36 hx hlk hret (hb hby at_110) (by decide) (by decide) ?_
        try rw [K36]
        exact ⟨rfl, N36⟩
      · -- not pb = (2 : Int32)
        refine Goes.go (U' := (T33.setTop (mkF m 97 #[.val (.int pa), .val (.int pb), .val (.int pc), .val (.int (4 : Int32)), .val (.ref r_IN), .val (.int pb), .val (.int (0 : Int32))] [(.int pb), (.ref r_IN)]))) (fun t kt => ?_) ?_
        · show Steps p.tables e below (T33.setTop (mkF m 83 #[.val (.int pa), .val (.int pb), .val (.int pc), .val (.int (4 : Int32)), .val (.ref r_IN), .val (.int pb), .unset] [(.int (2 : Int32)), (.int pb)])) t
          refine XS.icmpYes X33.here hx rfl (pc0 := 83) (pc' := 90) rfl (hb hby at_83) rfl (XT.ii_ne_t c35) (by decide) (by decide) ?_
          show Steps p.tables e below (T33.setTop (mkF m 90 #[.val (.int pa), .val (.int pb), .val (.int pc), .val (.int (4 : Int32)), .val (.ref r_IN), .val (.int pb), .unset] [])) t
          refine XS.iconst X33.here hx rfl (hb hby at_90) ?_
          show Steps p.tables e below (T33.setTop (mkF m 91 #[.val (.int pa), .val (.int pb), .val (.int pc), .val (.int (4 : Int32)), .val (.ref r_IN), .val (.int pb), .unset] [(.int (0 : Int32))])) t
          refine XS.istore X33.here hx rfl (hb hby at_91) rfl (l' := #[.val (.int pa), .val (.int pb), .val (.int pc), .val (.int (4 : Int32)), .val (.ref r_IN), .val (.int pb), .val (.int (0 : Int32))]) rfl ?_
          show Steps p.tables e below (T33.setTop (mkF m 93 #[.val (.int pa), .val (.int pb), .val (.int pc), .val (.int (4 : Int32)), .val (.ref r_IN), .val (.int pb), .val (.int (0 : Int32))] [])) t
          refine XS.aload X33.here hx rfl (hb hby at_93) rfl rfl ?_
          show Steps p.tables e below (T33.setTop (mkF m 95 #[.val (.int pa), .val (.int pb), .val (.int pc), .val (.int (4 : Int32)), .val (.ref r_IN), .val (.int pb), .val (.int (0 : Int32))] [(.ref r_IN)])) t
          refine XS.iload X33.here hx rfl (hb hby at_95) rfl ?_
          exact kt
        obtain ⟨v37, T37, L37, X37, q37, st37⟩ := callVirtual X33 hx hZ (y := (⟨"com/example/thistle/thistle/language/Operator", "admits", "(I)Z"⟩ : MethodName)) (z := (⟨"com/example/thistle/thistle/language/Operator", "admits", "(I)Z"⟩ : MethodName)) (W := 0) hown (wdOf hw 8 rfl) (wdOf hw 9 rfl) (notFace_of_selects (args := #[]) (mvT hZ (wdOf hw 11 rfl))) (wdOf hw 11 rfl) (wdOf hw 10 rfl) (wdOf hw 6 rfl) (wdOf hw 12 rfl) (by decide) (rm_adm l Z a0 hw [] r_IN pb (2 : Int32) (2 : Int32) (0 : Int32) h0 n0 Z0 F_fewestArguments_IN F_mostArguments_IN ((if_pos (own_ne c35)).symm)) (by decide) (by decide) (by decide) (by decide) K33 E_IN (g := (mkF m 97 #[.val (.int pa), .val (.int pb), .val (.int pc), .val (.int (4 : Int32)), .val (.ref r_IN), .val (.int pb), .val (.int (0 : Int32))] [(.int pb), (.ref r_IN)])) rfl (by rw [hml]; rfl) (argsL := [(.int pb)]) (rest := []) (lenOf pd_1 rfl) rfl rfl (Nat.le_refl _) (hb hby at_97)
        obtain ⟨rfl, n37, K37⟩ := q37
        have N37 := Fr.app N33 n37
        refine Goes.go (U' := (T37.setTop (mkF m 100 #[.val (.int pa), .val (.int pb), .val (.int pc), .val (.int (4 : Int32)), .val (.ref r_IN), .val (.int pb), .val (.int (0 : Int32))] [(.int (0 : Int32))]))) st37 ?_
        refine Goes.go (U' := (T37.setTop (mkF m 110 #[.val (.int pa), .val (.int pb), .val (.int pc), .val (.int (4 : Int32)), .val (.ref r_IN), .val (.int pb), .val (.int (0 : Int32))] [(.int (1 : Int32))]))) (fun t kt => ?_) ?_
        · show Steps p.tables e below (T37.setTop (mkF m 100 #[.val (.int pa), .val (.int pb), .val (.int pc), .val (.int (4 : Int32)), .val (.ref r_IN), .val (.int pb), .val (.int (0 : Int32))] [(.int (0 : Int32))])) t
          refine XS.iload X37.here hx rfl (hb hby at_100) rfl ?_
          show Steps p.tables e below (T37.setTop (mkF m 102 #[.val (.int pa), .val (.int pb), .val (.int pc), .val (.int (4 : Int32)), .val (.ref r_IN), .val (.int pb), .val (.int (0 : Int32))] [(.int (0 : Int32)), (.int (0 : Int32))])) t
          refine XS.icmpNo X37.here hx rfl (hb hby at_102) rfl (XT.ii_ne_f (by decide)) ?_
          show Steps p.tables e below (T37.setTop (mkF m 105 #[.val (.int pa), .val (.int pb), .val (.int pc), .val (.int (4 : Int32)), .val (.ref r_IN), .val (.int pb), .val (.int (0 : Int32))] [])) t
          refine XS.iconst X37.here hx rfl (hb hby at_105) ?_
          show Steps p.tables e below (T37.setTop (mkF m 106 #[.val (.int pa), .val (.int pb), .val (.int pc), .val (.int (4 : Int32)), .val (.ref r_IN), .val (.int pb), .val (.int (0 : Int32))] [(.int (1 : Int32))])) t
          refine XS.goto X37.here hx rfl (pc0 := 106) (pc' := 110) rfl (hb hby at_106) (by decide) (by decide) ?_
          exact kt
        refine Goes.retB X37 hx hlk hret (hb hby at_110) (by decide) (by decide) ?_
        try rw [K37]
        exact ⟨rfl, N37⟩
    · -- not (pc &&& (1 : Int32)) = 0
      refine Goes.go (U' := (T33.setTop (mkF m 83 #[.val (.int pa), .val (.int pb), .val (.int pc), .val (.int (4 : Int32)), .val (.ref r_IN), .val (.int ((pb &&& (7 : Int32)) - (2 : Int32))), .unset] [(.int (2 : Int32)), (.int ((pb &&& (7 : Int32)) - (2 : Int32)))]))) (fun t kt => ?_) ?_
      · show Steps p.tables e below (T33.setTop (mkF m 17 #[.val (.int pa), .val (.int pb), .val (.int pc), .val (.int (4 : Int32)), .val (.ref r_IN), .unset, .unset] [(.int (pc &&& (1 : Int32)))])) t
        refine XS.ifNo X33.here hx rfl (hb hby at_17) rfl (XT.i0_eq_f c34) ?_
        show Steps p.tables e below (T33.setTop (mkF m 20 #[.val (.int pa), .val (.int pb), .val (.int pc), .val (.int (4 : Int32)), .val (.ref r_IN), .unset, .unset] [])) t
        refine XS.iloadN X33.here hx rfl (hb hby at_20) rfl ?_
        show Steps p.tables e below (T33.setTop (mkF m 21 #[.val (.int pa), .val (.int pb), .val (.int pc), .val (.int (4 : Int32)), .val (.ref r_IN), .unset, .unset] [(.int pb)])) t
        refine XS.bipush X33.here hx rfl (hb hby at_21) ?_
        show Steps p.tables e below (T33.setTop (mkF m 23 #[.val (.int pa), .val (.int pb), .val (.int pc), .val (.int (4 : Int32)), .val (.ref r_IN), .unset, .unset] [(.int (7 : Int32)), (.int pb)])) t
        refine XS.iand X33.here hx rfl (hb hby at_23) rfl ?_
        show Steps p.tables e below (T33.setTop (mkF m 24 #[.val (.int pa), .val (.int pb), .val (.int pc), .val (.int (4 : Int32)), .val (.ref r_IN), .unset, .unset] [(.int (pb &&& (7 : Int32)))])) t
        refine XS.iconst X33.here hx rfl (hb hby at_24) ?_
        show Steps p.tables e below (T33.setTop (mkF m 25 #[.val (.int pa), .val (.int pb), .val (.int pc), .val (.int (4 : Int32)), .val (.ref r_IN), .unset, .unset] [(.int (2 : Int32)), (.int (pb &&& (7 : Int32)))])) t
        refine XS.isub X33.here hx rfl (hb hby at_25) rfl ?_
        show Steps p.tables e below (T33.setTop (mkF m 26 #[.val (.int pa), .val (.int pb), .val (.int pc), .val (.int (4 : Int32)), .val (.ref r_IN), .unset, .unset] [(.int ((pb &&& (7 : Int32)) - (2 : Int32)))])) t
        refine XS.istore X33.here hx rfl (hb hby at_26) rfl (l' := #[.val (.int pa), .val (.int pb), .val (.int pc), .val (.int (4 : Int32)), .val (.ref r_IN), .val (.int ((pb &&& (7 : Int32)) - (2 : Int32))), .unset]) rfl ?_
        show Steps p.tables e below (T33.setTop (mkF m 28 #[.val (.int pa), .val (.int pb), .val (.int pc), .val (.int (4 : Int32)), .val (.ref r_IN), .val (.int ((pb &&& (7 : Int32)) - (2 : Int32))), .unset] [])) t
        refine XS.goto X33.here hx rfl (pc0 := 28) (pc' := 34) rfl (hb hby at_28) (by decide) (by decide) ?_
        show Steps p.tables e below (T33.setTop (mkF m 34 #[.val (.int pa), .val (.int pb), .val (.int pc), .val (.int (4 : Int32)), .val (.ref r_IN), .val (.int ((pb &&& (7 : Int32)) - (2 : Int32))), .unset] [])) t
        refine XS.iloadN X33.here hx rfl (hb hby at_34) rfl ?_
        show Steps p.tables e below (T33.setTop (mkF m 35 #[.val (.int pa), .val (.int pb), .val (.int pc), .val (.int (4 : Int32)), .val (.ref r_IN), .val (.int ((pb &&& (7 : Int32)) - (2 : Int32))), .unset] [(.int (4 : Int32))])) t
        refine XS.ifNo X33.here hx rfl (hb hby at_35) rfl (XT.i0_eq_f (by decide)) ?_
        show Steps p.tables e below (T33.setTop (mkF m 38 #[.val (.int pa), .val (.int pb), .val (.int pc), .val (.int (4 : Int32)), .val (.ref r_IN), .val (.int ((pb &&& (7 : Int32)) - (2 : Int32))), .unset] [])) t
        refine XS.iloadN X33.here hx rfl (hb hby at_38) rfl ?_
        show Steps p.tables e below (T33.setTop (mkF m 39 #[.val (.int pa), .val (.int pb), .val (.int pc), .val (.int (4 : Int32)), .val (.ref r_IN), .val (.int ((pb &&& (7 : Int32)) - (2 : Int32))), .unset] [(.int (4 : Int32))])) t
        refine XS.iconst X33.here hx rfl (hb hby at_39) ?_
        show Steps p.tables e below (T33.setTop (mkF m 40 #[.val (.int pa), .val (.int pb), .val (.int pc), .val (.int (4 : Int32)), .val (.ref r_IN), .val (.int ((pb &&& (7 : Int32)) - (2 : Int32))), .unset] [(.int (1 : Int32)), (.int (4 : Int32))])) t
        refine XS.icmpYes X33.here hx rfl (pc0 := 40) (pc' := 59) rfl (hb hby at_40) rfl (XT.ii_ne_t (by decide)) (by decide) (by decide) ?_
        show Steps p.tables e below (T33.setTop (mkF m 59 #[.val (.int pa), .val (.int pb), .val (.int pc), .val (.int (4 : Int32)), .val (.ref r_IN), .val (.int ((pb &&& (7 : Int32)) - (2 : Int32))), .unset] [])) t
        refine XS.iloadN X33.here hx rfl (hb hby at_59) rfl ?_
        show Steps p.tables e below (T33.setTop (mkF m 60 #[.val (.int pa), .val (.int pb), .val (.int pc), .val (.int (4 : Int32)), .val (.ref r_IN), .val (.int ((pb &&& (7 : Int32)) - (2 : Int32))), .unset] [(.int (4 : Int32))])) t
        refine XS.iconst X33.here hx rfl (hb hby at_60) ?_
        show Steps p.tables e below (T33.setTop (mkF m 61 #[.val (.int pa), .val (.int pb), .val (.int pc), .val (.int (4 : Int32)), .val (.ref r_IN), .val (.int ((pb &&& (7 : Int32)) - (2 : Int32))), .unset] [(.int (2 : Int32)), (.int (4 : Int32))])) t
        refine XS.icmpYes X33.here hx rfl (pc0 := 61) (pc' := 80) rfl (hb hby at_61) rfl (XT.ii_ne_t (by decide)) (by decide) (by decide) ?_
        show Steps p.tables e below (T33.setTop (mkF m 80 #[.val (.int pa), .val (.int pb), .val (.int pc), .val (.int (4 : Int32)), .val (.ref r_IN), .val (.int ((pb &&& (7 : Int32)) - (2 : Int32))), .unset] [])) t
        refine XS.iload X33.here hx rfl (hb hby at_80) rfl ?_
        show Steps p.tables e below (T33.setTop (mkF m 82 #[.val (.int pa), .val (.int pb), .val (.int pc), .val (.int (4 : Int32)), .val (.ref r_IN), .val (.int ((pb &&& (7 : Int32)) - (2 : Int32))), .unset] [(.int ((pb &&& (7 : Int32)) - (2 : Int32)))])) t
        refine XS.iconst X33.here hx rfl (hb hby at_82) ?_
        exact kt
      by_cases c38 : ((pb &&& (7 : Int32)) - (2 : Int32)) = (2 : Int32)
      · -- ((pb &&& (7 : Int32)) - (2 : Int32)) = (2 : Int32)
        refine Goes.go (U' := (T33.setTop (mkF m 97 #[.val (.int pa), .val (.int pb), .val (.int pc), .val (.int (4 : Int32)), .val (.ref r_IN), .val (.int ((pb &&& (7 : Int32)) - (2 : Int32))), .val (.int (1 : Int32))] [(.int ((pb &&& (7 : Int32)) - (2 : Int32))), (.ref r_IN)]))) (fun t kt => ?_) ?_
        · show Steps p.tables e below (T33.setTop (mkF m 83 #[.val (.int pa), .val (.int pb), .val (.int pc), .val (.int (4 : Int32)), .val (.ref r_IN), .val (.int ((pb &&& (7 : Int32)) - (2 : Int32))), .unset] [(.int (2 : Int32)), (.int ((pb &&& (7 : Int32)) - (2 : Int32)))])) t
          refine XS.icmpNo X33.here hx rfl (hb hby at_83) rfl (XT.ii_ne_f c38) ?_
          show Steps p.tables e below (T33.setTop (mkF m 86 #[.val (.int pa), .val (.int pb), .val (.int pc), .val (.int (4 : Int32)), .val (.ref r_IN), .val (.int ((pb &&& (7 : Int32)) - (2 : Int32))), .unset] [])) t
          refine XS.iconst X33.here hx rfl (hb hby at_86) ?_
          show Steps p.tables e below (T33.setTop (mkF m 87 #[.val (.int pa), .val (.int pb), .val (.int pc), .val (.int (4 : Int32)), .val (.ref r_IN), .val (.int ((pb &&& (7 : Int32)) - (2 : Int32))), .unset] [(.int (1 : Int32))])) t
          refine XS.goto X33.here hx rfl (pc0 := 87) (pc' := 91) rfl (hb hby at_87) (by decide) (by decide) ?_
          show Steps p.tables e below (T33.setTop (mkF m 91 #[.val (.int pa), .val (.int pb), .val (.int pc), .val (.int (4 : Int32)), .val (.ref r_IN), .val (.int ((pb &&& (7 : Int32)) - (2 : Int32))), .unset] [(.int (1 : Int32))])) t
          refine XS.istore X33.here hx rfl (hb hby at_91) rfl (l' := #[.val (.int pa), .val (.int pb), .val (.int pc), .val (.int (4 : Int32)), .val (.ref r_IN), .val (.int ((pb &&& (7 : Int32)) - (2 : Int32))), .val (.int (1 : Int32))]) rfl ?_
          show Steps p.tables e below (T33.setTop (mkF m 93 #[.val (.int pa), .val (.int pb), .val (.int pc), .val (.int (4 : Int32)), .val (.ref r_IN), .val (.int ((pb &&& (7 : Int32)) - (2 : Int32))), .val (.int (1 : Int32))] [])) t
          refine XS.aload X33.here hx rfl (hb hby at_93) rfl rfl ?_
          show Steps p.tables e below (T33.setTop (mkF m 95 #[.val (.int pa), .val (.int pb), .val (.int pc), .val (.int (4 : Int32)), .val (.ref r_IN), .val (.int ((pb &&& (7 : Int32)) - (2 : Int32))), .val (.int (1 : Int32))] [(.ref r_IN)])) t
          refine XS.iload X33.here hx rfl (hb hby at_95) rfl ?_
          exact kt
        obtain ⟨v39, T39, L39, X39, q39, st39⟩ := callVirtual X33 hx hZ (y := (⟨"com/example/thistle/thistle/language/Operator", "admits", "(I)Z"⟩ : MethodName)) (z := (⟨"com/example/thistle/thistle/language/Operator", "admits", "(I)Z"⟩ : MethodName)) (W := 0) hown (wdOf hw 8 rfl) (wdOf hw 9 rfl) (notFace_of_selects (args := #[]) (mvT hZ (wdOf hw 11 rfl))) (wdOf hw 11 rfl) (wdOf hw 10 rfl) (wdOf hw 6 rfl) (wdOf hw 12 rfl) (by decide) (rm_adm l Z a0 hw [] r_IN ((pb &&& (7 : Int32)) - (2 : Int32)) (2 : Int32) (2 : Int32) (1 : Int32) h0 n0 Z0 F_fewestArguments_IN F_mostArguments_IN ((if_neg (own_eq c38)).symm)) (by decide) (by decide) (by decide) (by decide) K33 E_IN (g := (mkF m 97 #[.val (.int pa), .val (.int pb), .val (.int pc), .val (.int (4 : Int32)), .val (.ref r_IN), .val (.int ((pb &&& (7 : Int32)) - (2 : Int32))), .val (.int (1 : Int32))] [(.int ((pb &&& (7 : Int32)) - (2 : Int32))), (.ref r_IN)])) rfl (by rw [hml]; rfl) (argsL := [(.int ((pb &&& (7 : Int32)) - (2 : Int32)))]) (rest := []) (lenOf pd_1 rfl) rfl rfl (Nat.le_refl _) (hb hby at_97)
        obtain ⟨rfl, n39, K39⟩ := q39
        have N39 := Fr.app N33 n39
        refine Goes.go (U' := (T39.setTop (mkF m 100 #[.val (.int pa), .val (.int pb), .val (.int pc), .val (.int (4 : Int32)), .val (.ref r_IN), .val (.int ((pb &&& (7 : Int32)) - (2 : Int32))), .val (.int (1 : Int32))] [(.int (1 : Int32))]))) st39 ?_
        refine Goes.go (U' := (T39.setTop (mkF m 110 #[.val (.int pa), .val (.int pb), .val (.int pc), .val (.int (4 : Int32)), .val (.ref r_IN), .val (.int ((pb &&& (7 : Int32)) - (2 : Int32))), .val (.int (1 : Int32))] [(.int (1 : Int32))]))) (fun t kt => ?_) ?_
        · show Steps p.tables e below (T39.setTop (mkF m 100 #[.val (.int pa), .val (.int pb), .val (.int pc), .val (.int (4 : Int32)), .val (.ref r_IN), .val (.int ((pb &&& (7 : Int32)) - (2 : Int32))), .val (.int (1 : Int32))] [(.int (1 : Int32))])) t
          refine XS.iload X39.here hx rfl (hb hby at_100) rfl ?_
          show Steps p.tables e below (T39.setTop (mkF m 102 #[.val (.int pa), .val (.int pb), .val (.int pc), .val (.int (4 : Int32)), .val (.ref r_IN), .val (.int ((pb &&& (7 : Int32)) - (2 : Int32))), .val (.int (1 : Int32))] [(.int (1 : Int32)), (.int (1 : Int32))])) t
          refine XS.icmpNo X39.here hx rfl (hb hby at_102) rfl (XT.ii_ne_f (by decide)) ?_
          show Steps p.tables e below (T39.setTop (mkF m 105 #[.val (.int pa), .val (.int pb), .val (.int pc), .val (.int (4 : Int32)), .val (.ref r_IN), .val (.int ((pb &&& (7 : Int32)) - (2 : Int32))), .val (.int (1 : Int32))] [])) t
          refine XS.iconst X39.here hx rfl (hb hby at_105) ?_
          show Steps p.tables e below (T39.setTop (mkF m 106 #[.val (.int pa), .val (.int pb), .val (.int pc), .val (.int (4 : Int32)), .val (.ref r_IN), .val (.int ((pb &&& (7 : Int32)) - (2 : Int32))), .val (.int (1 : Int32))] [(.int (1 : Int32))])) t
          refine XS.goto X39.here hx rfl (pc0 := 106) (pc' := 110) rfl (hb hby at_106) (by decide) (by decide) ?_
          exact kt
        refine Goes.retB X39 hx hlk hret (hb hby at_110) (by decide) (by decide) ?_
        try rw [K39]
        exact ⟨rfl, N39⟩
      · -- not ((pb &&& (7 : Int32)) - (2 : Int32)) = (2 : Int32)
        refine Goes.go (U' := (T33.setTop (mkF m 97 #[.val (.int pa), .val (.int pb), .val (.int pc), .val (.int (4 : Int32)), .val (.ref r_IN), .val (.int ((pb &&& (7 : Int32)) - (2 : Int32))), .val (.int (0 : Int32))] [(.int ((pb &&& (7 : Int32)) - (2 : Int32))), (.ref r_IN)]))) (fun t kt => ?_) ?_
        · show Steps p.tables e below (T33.setTop (mkF m 83 #[.val (.int pa), .val (.int pb), .val (.int pc), .val (.int (4 : Int32)), .val (.ref r_IN), .val (.int ((pb &&& (7 : Int32)) - (2 : Int32))), .unset] [(.int (2 : Int32)), (.int ((pb &&& (7 : Int32)) - (2 : Int32)))])) t
          refine XS.icmpYes X33.here hx rfl (pc0 := 83) (pc' := 90) rfl (hb hby at_83) rfl (XT.ii_ne_t c38) (by decide) (by decide) ?_
          show Steps p.tables e below (T33.setTop (mkF m 90 #[.val (.int pa), .val (.int pb), .val (.int pc), .val (.int (4 : Int32)), .val (.ref r_IN), .val (.int ((pb &&& (7 : Int32)) - (2 : Int32))), .unset] [])) t
          refine XS.iconst X33.here hx rfl (hb hby at_90) ?_
          show Steps p.tables e below (T33.setTop (mkF m 91 #[.val (.int pa), .val (.int pb), .val (.int pc), .val (.int (4 : Int32)), .val (.ref r_IN), .val (.int ((pb &&& (7 : Int32)) - (2 : Int32))), .unset] [(.int (0 : Int32))])) t
          refine XS.istore X33.here hx rfl (hb hby at_91) rfl (l' := #[.val (.int pa), .val (.int pb), .val (.int pc), .val (.int (4 : Int32)), .val (.ref r_IN), .val (.int ((pb &&& (7 : Int32)) - (2 : Int32))), .val (.int (0 : Int32))]) rfl ?_
          show Steps p.tables e below (T33.setTop (mkF m 93 #[.val (.int pa), .val (.int pb), .val (.int pc), .val (.int (4 : Int32)), .val (.ref r_IN), .val (.int ((pb &&& (7 : Int32)) - (2 : Int32))), .val (.int (0 : Int32))] [])) t
          refine XS.aload X33.here hx rfl (hb hby at_93) rfl rfl ?_
          show Steps p.tables e below (T33.setTop (mkF m 95 #[.val (.int pa), .val (.int pb), .val (.int pc), .val (.int (4 : Int32)), .val (.ref r_IN), .val (.int ((pb &&& (7 : Int32)) - (2 : Int32))), .val (.int (0 : Int32))] [(.ref r_IN)])) t
          refine XS.iload X33.here hx rfl (hb hby at_95) rfl ?_
          exact kt
        obtain ⟨v40, T40, L40, X40, q40, st40⟩ := callVirtual X33 hx hZ (y := (⟨"com/example/thistle/thistle/language/Operator", "admits", "(I)Z"⟩ : MethodName)) (z := (⟨"com/example/thistle/thistle/language/Operator", "admits", "(I)Z"⟩ : MethodName)) (W := 0) hown (wdOf hw 8 rfl) (wdOf hw 9 rfl) (notFace_of_selects (args := #[]) (mvT hZ (wdOf hw 11 rfl))) (wdOf hw 11 rfl) (wdOf hw 10 rfl) (wdOf hw 6 rfl) (wdOf hw 12 rfl) (by decide) (rm_adm l Z a0 hw [] r_IN ((pb &&& (7 : Int32)) - (2 : Int32)) (2 : Int32) (2 : Int32) (0 : Int32) h0 n0 Z0 F_fewestArguments_IN F_mostArguments_IN ((if_pos (own_ne c38)).symm)) (by decide) (by decide) (by decide) (by decide) K33 E_IN (g := (mkF m 97 #[.val (.int pa), .val (.int pb), .val (.int pc), .val (.int (4 : Int32)), .val (.ref r_IN), .val (.int ((pb &&& (7 : Int32)) - (2 : Int32))), .val (.int (0 : Int32))] [(.int ((pb &&& (7 : Int32)) - (2 : Int32))), (.ref r_IN)])) rfl (by rw [hml]; rfl) (argsL := [(.int ((pb &&& (7 : Int32)) - (2 : Int32)))]) (rest := []) (lenOf pd_1 rfl) rfl rfl (Nat.le_refl _) (hb hby at_97)
        obtain ⟨rfl, n40, K40⟩ := q40
        have N40 := Fr.app N33 n40
        refine Goes.go (U' := (T40.setTop (mkF m 100 #[.val (.int pa), .val (.int pb), .val (.int pc), .val (.int (4 : Int32)), .val (.ref r_IN), .val (.int ((pb &&& (7 : Int32)) - (2 : Int32))), .val (.int (0 : Int32))] [(.int (0 : Int32))]))) st40 ?_
        refine Goes.go (U' := (T40.setTop (mkF m 110 #[.val (.int pa), .val (.int pb), .val (.int pc), .val (.int (4 : Int32)), .val (.ref r_IN), .val (.int ((pb &&& (7 : Int32)) - (2 : Int32))), .val (.int (0 : Int32))] [(.int (1 : Int32))]))) (fun t kt => ?_) ?_
        · show Steps p.tables e below (T40.setTop (mkF m 100 #[.val (.int pa), .val (.int pb), .val (.int pc), .val (.int (4 : Int32)), .val (.ref r_IN), .val (.int ((pb &&& (7 : Int32)) - (2 : Int32))), .val (.int (0 : Int32))] [(.int (0 : Int32))])) t
          refine XS.iload X40.here hx rfl (hb hby at_100) rfl ?_
          show Steps p.tables e below (T40.setTop (mkF m 102 #[.val (.int pa), .val (.int pb), .val (.int pc), .val (.int (4 : Int32)), .val (.ref r_IN), .val (.int ((pb &&& (7 : Int32)) - (2 : Int32))), .val (.int (0 : Int32))] [(.int (0 : Int32)), (.int (0 : Int32))])) t
          refine XS.icmpNo X40.here hx rfl (hb hby at_102) rfl (XT.ii_ne_f (by decide)) ?_
          show Steps p.tables e below (T40.setTop (mkF m 105 #[.val (.int pa), .val (.int pb), .val (.int pc), .val (.int (4 : Int32)), .val (.ref r_IN), .val (.int ((pb &&& (7 : Int32)) - (2 : Int32))), .val (.int (0 : Int32))] [])) t
          refine XS.iconst X40.here hx rfl (hb hby at_105) ?_
          show Steps p.tables e below (T40.setTop (mkF m 106 #[.val (.int pa), .val (.int pb), .val (.int pc), .val (.int (4 : Int32)), .val (.ref r_IN), .val (.int ((pb &&& (7 : Int32)) - (2 : Int32))), .val (.int (0 : Int32))] [(.int (1 : Int32))])) t
          refine XS.goto X40.here hx rfl (pc0 := 106) (pc' := 110) rfl (hb hby at_106) (by decide) (by decide) ?_
          exact kt
        refine Goes.retB X40 hx hlk hret (hb hby at_110) (by decide) (by decide) ?_
        try rw [K40]
        exact ⟨rfl, N40⟩
  · -- case 5
    rw [hk]
    refine Goes.go (U' := (s₁.setTop (mkF m 9 #[.val (.int pa), .val (.int pb), .val (.int pc), .val (.int (5 : Int32)), .unset, .unset, .unset] [(.int (5 : Int32))]))) (fun t kt => ?_) ?_
    · show Steps p.tables e below (s₁.setTop (mkF m 7 #[.val (.int pa), .val (.int pb), .val (.int pc), .unset, .unset, .unset, .unset] [(.int (5 : Int32))])) t
      refine XS.istoreN X0.here hx rfl (hb hby at_7) rfl (l' := #[.val (.int pa), .val (.int pb), .val (.int pc), .val (.int (5 : Int32)), .unset, .unset, .unset]) rfl ?_
      show Steps p.tables e below (s₁.setTop (mkF m 8 #[.val (.int pa), .val (.int pb), .val (.int pc), .val (.int (5 : Int32)), .unset, .unset, .unset] [])) t
      refine XS.iloadN X0.here hx rfl (hb hby at_8) rfl ?_
      exact kt
    obtain ⟨v41, T41, L41, X41, q41, st41⟩ := callStatic X0 hx hZ (y := (⟨"com/example/thistle/thistle/language/OperatorAdmitsPinLaw", "pick", "(I)Lcom/example/thistle/thistle/language/Operator;"⟩ : MethodName)) (W := 0) hown (wdOf hw 1 rfl) (wdOf hw 2 rfl) (wdOf hw 3 rfl) (wdOf hw 4 rfl) (by decide) (rm_pick l Z a0 hw [] (5 : Int32) r_GREATER_THAN r_AND r_OR r_NOT r_EQUAL r_IN r_GREATER_THAN r_LESS_THAN r_GREATER_THAN_OR_EQUAL r_LESS_THAN_OR_EQUAL r_ADD r_SUBTRACT r_MULTIPLY r_DIVIDE h0 n0 Z0 S_AND S_OR S_NOT S_EQUAL S_IN S_GREATER_THAN S_LESS_THAN S_GREATER_THAN_OR_EQUAL S_LESS_THAN_OR_EQUAL S_ADD S_SUBTRACT S_MULTIPLY S_DIVIDE (by simp)) (by decide) (by decide) (by decide) (by decide) e0 (g := (mkF m 9 #[.val (.int pa), .val (.int pb), .val (.int pc), .val (.int (5 : Int32)), .unset, .unset, .unset] [(.int (5 : Int32))])) rfl (by rw [hml]; rfl) (argsL := [(.int (5 : Int32))]) (rest := []) (lenOf pd_0 rfl) rfl rfl (Nat.le_refl _) (hb hby at_9)
    obtain ⟨rfl, n41, K41⟩ := q41
    have N41 := Fr.app N0 n41
    refine Goes.go (U' := (T41.setTop (mkF m 12 #[.val (.int pa), .val (.int pb), .val (.int pc), .val (.int (5 : Int32)), .unset, .unset, .unset] [(.ref r_GREATER_THAN)]))) st41 ?_
    refine Goes.go (U' := (T41.setTop (mkF m 17 #[.val (.int pa), .val (.int pb), .val (.int pc), .val (.int (5 : Int32)), .val (.ref r_GREATER_THAN), .unset, .unset] [(.int (pc &&& (1 : Int32)))]))) (fun t kt => ?_) ?_
    · show Steps p.tables e below (T41.setTop (mkF m 12 #[.val (.int pa), .val (.int pb), .val (.int pc), .val (.int (5 : Int32)), .unset, .unset, .unset] [(.ref r_GREATER_THAN)])) t
      refine XS.astore X41.here hx rfl (hb hby at_12) rfl rfl (l' := #[.val (.int pa), .val (.int pb), .val (.int pc), .val (.int (5 : Int32)), .val (.ref r_GREATER_THAN), .unset, .unset]) rfl ?_
      show Steps p.tables e below (T41.setTop (mkF m 14 #[.val (.int pa), .val (.int pb), .val (.int pc), .val (.int (5 : Int32)), .val (.ref r_GREATER_THAN), .unset, .unset] [])) t
      refine XS.iloadN X41.here hx rfl (hb hby at_14) rfl ?_
      show Steps p.tables e below (T41.setTop (mkF m 15 #[.val (.int pa), .val (.int pb), .val (.int pc), .val (.int (5 : Int32)), .val (.ref r_GREATER_THAN), .unset, .unset] [(.int pc)])) t
      refine XS.iconst X41.here hx rfl (hb hby at_15) ?_
      show Steps p.tables e below (T41.setTop (mkF m 16 #[.val (.int pa), .val (.int pb), .val (.int pc), .val (.int (5 : Int32)), .val (.ref r_GREATER_THAN), .unset, .unset] [(.int (1 : Int32)), (.int pc)])) t
      refine XS.iand X41.here hx rfl (hb hby at_16) rfl ?_
      exact kt
    by_cases c42 : (pc &&& (1 : Int32)) = 0
    · -- (pc &&& (1 : Int32)) = 0
      refine Goes.go (U' := (T41.setTop (mkF m 83 #[.val (.int pa), .val (.int pb), .val (.int pc), .val (.int (5 : Int32)), .val (.ref r_GREATER_THAN), .val (.int pb), .unset] [(.int (2 : Int32)), (.int pb)]))) (fun t kt => ?_) ?_
      · show Steps p.tables e below (T41.setTop (mkF m 17 #[.val (.int pa), .val (.int pb), .val (.int pc), .val (.int (5 : Int32)), .val (.ref r_GREATER_THAN), .unset, .unset] [(.int (pc &&& (1 : Int32)))])) t
        refine XS.ifYes X41.here hx rfl (pc0 := 17) (pc' := 31) rfl (hb hby at_17) rfl (XT.i0_eq_t c42) (by decide) (by decide) ?_
        show Steps p.tables e below (T41.setTop (mkF m 31 #[.val (.int pa), .val (.int pb), .val (.int pc), .val (.int (5 : Int32)), .val (.ref r_GREATER_THAN), .unset, .unset] [])) t
        refine XS.iloadN X41.here hx rfl (hb hby at_31) rfl ?_
        show Steps p.tables e below (T41.setTop (mkF m 32 #[.val (.int pa), .val (.int pb), .val (.int pc), .val (.int (5 : Int32)), .val (.ref r_GREATER_THAN), .unset, .unset] [(.int pb)])) t
        refine XS.istore X41.here hx rfl (hb hby at_32) rfl (l' := #[.val (.int pa), .val (.int pb), .val (.int pc), .val (.int (5 : Int32)), .val (.ref r_GREATER_THAN), .val (.int pb), .unset]) rfl ?_
        show Steps p.tables e below (T41.setTop (mkF m 34 #[.val (.int pa), .val (.int pb), .val (.int pc), .val (.int (5 : Int32)), .val (.ref r_GREATER_THAN), .val (.int pb), .unset] [])) t
        refine XS.iloadN X41.here hx rfl (hb hby at_34) rfl ?_
        show Steps p.tables e below (T41.setTop (mkF m 35 #[.val (.int pa), .val (.int pb), .val (.int pc), .val (.int (5 : Int32)), .val (.ref r_GREATER_THAN), .val (.int pb), .unset] [(.int (5 : Int32))])) t
        refine XS.ifNo X41.here hx rfl (hb hby at_35) rfl (XT.i0_eq_f (by decide)) ?_
        show Steps p.tables e below (T41.setTop (mkF m 38 #[.val (.int pa), .val (.int pb), .val (.int pc), .val (.int (5 : Int32)), .val (.ref r_GREATER_THAN), .val (.int pb), .unset] [])) t
        refine XS.iloadN X41.here hx rfl (hb hby at_38) rfl ?_
        show Steps p.tables e below (T41.setTop (mkF m 39 #[.val (.int pa), .val (.int pb), .val (.int pc), .val (.int (5 : Int32)), .val (.ref r_GREATER_THAN), .val (.int pb), .unset] [(.int (5 : Int32))])) t
        refine XS.iconst X41.here hx rfl (hb hby at_39) ?_
        show Steps p.tables e below (T41.setTop (mkF m 40 #[.val (.int pa), .val (.int pb), .val (.int pc), .val (.int (5 : Int32)), .val (.ref r_GREATER_THAN), .val (.int pb), .unset] [(.int (1 : Int32)), (.int (5 : Int32))])) t
        refine XS.icmpYes X41.here hx rfl (pc0 := 40) (pc' := 59) rfl (hb hby at_40) rfl (XT.ii_ne_t (by decide)) (by decide) (by decide) ?_
        show Steps p.tables e below (T41.setTop (mkF m 59 #[.val (.int pa), .val (.int pb), .val (.int pc), .val (.int (5 : Int32)), .val (.ref r_GREATER_THAN), .val (.int pb), .unset] [])) t
        refine XS.iloadN X41.here hx rfl (hb hby at_59) rfl ?_
        show Steps p.tables e below (T41.setTop (mkF m 60 #[.val (.int pa), .val (.int pb), .val (.int pc), .val (.int (5 : Int32)), .val (.ref r_GREATER_THAN), .val (.int pb), .unset] [(.int (5 : Int32))])) t
        refine XS.iconst X41.here hx rfl (hb hby at_60) ?_
        show Steps p.tables e below (T41.setTop (mkF m 61 #[.val (.int pa), .val (.int pb), .val (.int pc), .val (.int (5 : Int32)), .val (.ref r_GREATER_THAN), .val (.int pb), .unset] [(.int (2 : Int32)), (.int (5 : Int32))])) t
        refine XS.icmpYes X41.here hx rfl (pc0 := 61) (pc' := 80) rfl (hb hby at_61) rfl (XT.ii_ne_t (by decide)) (by decide) (by decide) ?_
        show Steps p.tables e below (T41.setTop (mkF m 80 #[.val (.int pa), .val (.int pb), .val (.int pc), .val (.int (5 : Int32)), .val (.ref r_GREATER_THAN), .val (.int pb), .unset] [])) t
        refine XS.iload X41.here hx rfl (hb hby at_80) rfl ?_
        show Steps p.tables e below (T41.setTop (mkF m 82 #[.val (.int pa), .val (.int pb), .val (.int pc), .val (.int (5 : Int32)), .val (.ref r_GREATER_THAN), .val (.int pb), .unset] [(.int pb)])) t
        refine XS.iconst X41.here hx rfl (hb hby at_82) ?_
        exact kt
      by_cases c43 : pb = (2 : Int32)
      · -- pb = (2 : Int32)
        refine Goes.go (U' := (T41.setTop (mkF m 97 #[.val (.int pa), .val (.int pb), .val (.int pc), .val (.int (5 : Int32)), .val (.ref r_GREATER_THAN), .val (.int pb), .val (.int (1 : Int32))] [(.int pb), (.ref r_GREATER_THAN)]))) (fun t kt => ?_) ?_
        · show Steps p.tables e below (T41.setTop (mkF m 83 #[.val (.int pa), .val (.int pb), .val (.int pc), .val (.int (5 : Int32)), .val (.ref r_GREATER_THAN), .val (.int pb), .unset] [(.int (2 : Int32)), (.int pb)])) t
          refine XS.icmpNo X41.here hx rfl (hb hby at_83) rfl (XT.ii_ne_f c43) ?_
          show Steps p.tables e below (T41.setTop (mkF m 86 #[.val (.int pa), .val (.int pb), .val (.int pc), .val (.int (5 : Int32)), .val (.ref r_GREATER_THAN), .val (.int pb), .unset] [])) t
          refine XS.iconst X41.here hx rfl (hb hby at_86) ?_
          show Steps p.tables e below (T41.setTop (mkF m 87 #[.val (.int pa), .val (.int pb), .val (.int pc), .val (.int (5 : Int32)), .val (.ref r_GREATER_THAN), .val (.int pb), .unset] [(.int (1 : Int32))])) t
          refine XS.goto X41.here hx rfl (pc0 := 87) (pc' := 91) rfl (hb hby at_87) (by decide) (by decide) ?_
          show Steps p.tables e below (T41.setTop (mkF m 91 #[.val (.int pa), .val (.int pb), .val (.int pc), .val (.int (5 : Int32)), .val (.ref r_GREATER_THAN), .val (.int pb), .unset] [(.int (1 : Int32))])) t
          refine XS.istore X41.here hx rfl (hb hby at_91) rfl (l' := #[.val (.int pa), .val (.int pb), .val (.int pc), .val (.int (5 : Int32)), .val (.ref r_GREATER_THAN), .val (.int pb), .val (.int (1 : Int32))]) rfl ?_
          show Steps p.tables e below (T41.setTop (mkF m 93 #[.val (.int pa), .val (.int pb), .val (.int pc), .val (.int (5 : Int32)), .val (.ref r_GREATER_THAN), .val (.int pb), .val (.int (1 : Int32))] [])) t
          refine XS.aload X41.here hx rfl (hb hby at_93) rfl rfl ?_
          show Steps p.tables e below (T41.setTop (mkF m 95 #[.val (.int pa), .val (.int pb), .val (.int pc), .val (.int (5 : Int32)), .val (.ref r_GREATER_THAN), .val (.int pb), .val (.int (1 : Int32))] [(.ref r_GREATER_THAN)])) t
          refine XS.iload X41.here hx rfl (hb hby at_95) rfl ?_
          exact kt
        obtain ⟨v44, T44, L44, X44, q44, st44⟩ := callVirtual X41 hx hZ (y := (⟨"com/example/thistle/thistle/language/Operator", "admits", "(I)Z"⟩ : MethodName)) (z := (⟨"com/example/thistle/thistle/language/Operator", "admits", "(I)Z"⟩ : MethodName)) (W := 0) hown (wdOf hw 8 rfl) (wdOf hw 9 rfl) (notFace_of_selects (args := #[]) (mvT hZ (wdOf hw 11 rfl))) (wdOf hw 11 rfl) (wdOf hw 10 rfl) (wdOf hw 6 rfl) (wdOf hw 12 rfl) (by decide) (rm_adm l Z a0 hw [] r_GREATER_THAN pb (2 : Int32) (2 : Int32) (1 : Int32) h0 n0 Z0 F_fewestArguments_GREATER_THAN F_mostArguments_GREATER_THAN ((if_neg (own_eq c43)).symm)) (by decide) (by decide) (by decide) (by decide) K41 E_GREATER_THAN (g := (mkF m 97 #[.val (.int pa), .val (.int pb), .val (.int pc), .val (.int (5 : Int32)), .val (.ref r_GREATER_THAN), .val (.int pb), .val (.int (1 : Int32))] [(.int pb), (.ref r_GREATER_THAN)])) rfl (by rw [hml]; rfl) (argsL := [(.int pb)]) (rest := []) (lenOf pd_1 rfl) rfl rfl (Nat.le_refl _) (hb hby at_97)
        obtain ⟨rfl, n44, K44⟩ := q44
        have N44 := Fr.app N41 n44
        refine Goes.go (U' := (T44.setTop (mkF m 100 #[.val (.int pa), .val (.int pb), .val (.int pc), .val (.int (5 : Int32)), .val (.ref r_GREATER_THAN), .val (.int pb), .val (.int (1 : Int32))] [(.int (1 : Int32))]))) st44 ?_
        refine Goes.go (U' := (T44.setTop (mkF m 110 #[.val (.int pa), .val (.int pb), .val (.int pc), .val (.int (5 : Int32)), .val (.ref r_GREATER_THAN), .val (.int pb), .val (.int (1 : Int32))] [(.int (1 : Int32))]))) (fun t kt => ?_) ?_
        · show Steps p.tables e below (T44.setTop (mkF m 100 #[.val (.int pa), .val (.int pb), .val (.int pc), .val (.int (5 : Int32)), .val (.ref r_GREATER_THAN), .val (.int pb), .val (.int (1 : Int32))] [(.int (1 : Int32))])) t
          refine XS.iload X44.here hx rfl (hb hby at_100) rfl ?_
          show Steps p.tables e below (T44.setTop (mkF m 102 #[.val (.int pa), .val (.int pb), .val (.int pc), .val (.int (5 : Int32)), .val (.ref r_GREATER_THAN), .val (.int pb), .val (.int (1 : Int32))] [(.int (1 : Int32)), (.int (1 : Int32))])) t
          refine XS.icmpNo X44.here hx rfl (hb hby at_102) rfl (XT.ii_ne_f (by decide)) ?_
          show Steps p.tables e below (T44.setTop (mkF m 105 #[.val (.int pa), .val (.int pb), .val (.int pc), .val (.int (5 : Int32)), .val (.ref r_GREATER_THAN), .val (.int pb), .val (.int (1 : Int32))] [])) t
          refine XS.iconst X44.here hx rfl (hb hby at_105) ?_
          show Steps p.tables e below (T44.setTop (mkF m 106 #[.val (.int pa), .val (.int pb), .val (.int pc), .val (.int (5 : Int32)), .val (.ref r_GREATER_THAN), .val (.int pb), .val (.int (1 : Int32))] [(.int (1 : Int32))])) t
          refine XS.goto X44.here hx rfl (pc0 := 106) (pc' := 110) rfl (hb hby at_106) (by decide) (by decide) ?_
          exact kt
        refine Goes.retB X44 hx hlk hret (hb hby at_110) (by decide) (by decide) ?_
        try rw [K44]
        exact ⟨rfl, N44⟩
      · -- not pb = (2 : Int32)
        refine Goes.go (U' := (T41.setTop (mkF m 97 #[.val (.int pa), .val (.int pb), .val (.int pc), .val (.int (5 : Int32)), .val (.ref r_GREATER_THAN), .val (.int pb), .val (.int (0 : Int32))] [(.int pb), (.ref r_GREATER_THAN)]))) (fun t kt => ?_) ?_
        · show Steps p.tables e below (T41.setTop (mkF m 83 #[.val (.int pa), .val (.int pb), .val (.int pc), .val (.int (5 : Int32)), .val (.ref r_GREATER_THAN), .val (.int pb), .unset] [(.int (2 : Int32)), (.int pb)])) t
          refine XS.icmpYes X41.here hx rfl (pc0 := 83) (pc' := 90) rfl (hb hby at_83) rfl (XT.ii_ne_t c43) (by decide) (by decide) ?_
          show Steps p.tables e below (T41.setTop (mkF m 90 #[.val (.int pa), .val (.int pb), .val (.int pc), .val (.int (5 : Int32)), .val (.ref r_GREATER_THAN), .val (.int pb), .unset] [])) t
          refine XS.iconst X41.here hx rfl (hb hby at_90) ?_
          show Steps p.tables e below (T41.setTop (mkF m 91 #[.val (.int pa), .val (.int pb), .val (.int pc), .val (.int (5 : Int32)), .val (.ref r_GREATER_THAN), .val (.int pb), .unset] [(.int (0 : Int32))])) t
          refine XS.istore X41.here hx rfl (hb hby at_91) rfl (l' := #[.val (.int pa), .val (.int pb), .val (.int pc), .val (.int (5 : Int32)), .val (.ref r_GREATER_THAN), .val (.int pb), .val (.int (0 : Int32))]) rfl ?_
          show Steps p.tables e below (T41.setTop (mkF m 93 #[.val (.int pa), .val (.int pb), .val (.int pc), .val (.int (5 : Int32)), .val (.ref r_GREATER_THAN), .val (.int pb), .val (.int (0 : Int32))] [])) t
          refine XS.aload X41.here hx rfl (hb hby at_93) rfl rfl ?_
          show Steps p.tables e below (T41.setTop (mkF m 95 #[.val (.int pa), .val (.int pb), .val (.int pc), .val (.int (5 : Int32)), .val (.ref r_GREATER_THAN), .val (.int pb), .val (.int (0 : Int32))] [(.ref r_GREATER_THAN)])) t
          refine XS.iload X41.here hx rfl (hb hby at_95) rfl ?_
          exact kt
        obtain ⟨v45, T45, L45, X45, q45, st45⟩ := callVirtual X41 hx hZ (y := (⟨"com/example/thistle/thistle/language/Operator", "admits", "(I)Z"⟩ : MethodName)) (z := (⟨"com/example/thistle/thistle/language/Operator", "admits", "(I)Z"⟩ : MethodName)) (W := 0) hown (wdOf hw 8 rfl) (wdOf hw 9 rfl) (notFace_of_selects (args := #[]) (mvT hZ (wdOf hw 11 rfl))) (wdOf hw 11 rfl) (wdOf hw 10 rfl) (wdOf hw 6 rfl) (wdOf hw 12 rfl) (by decide) (rm_adm l Z a0 hw [] r_GREATER_THAN pb (2 : Int32) (2 : Int32) (0 : Int32) h0 n0 Z0 F_fewestArguments_GREATER_THAN F_mostArguments_GREATER_THAN ((if_pos (own_ne c43)).symm)) (by decide) (by decide) (by decide) (by decide) K41 E_GREATER_THAN (g := (mkF m 97 #[.val (.int pa), .val (.int pb), .val (.int pc), .val (.int (5 : Int32)), .val (.ref r_GREATER_THAN), .val (.int pb), .val (.int (0 : Int32))] [(.int pb), (.ref r_GREATER_THAN)])) rfl (by rw [hml]; rfl) (argsL := [(.int pb)]) (rest := []) (lenOf pd_1 rfl) rfl rfl (Nat.le_refl _) (hb hby at_97)
        obtain ⟨rfl, n45, K45⟩ := q45
        have N45 := Fr.app N41 n45
        refine Goes.go (U' := (T45.setTop (mkF m 100 #[.val (.int pa), .val (.int pb), .val (.int pc), .val (.int (5 : Int32)), .val (.ref r_GREATER_THAN), .val (.int pb), .val (.int (0 : Int32))] [(.int (0 : Int32))]))) st45 ?_
        refine Goes.go (U' := (T45.setTop (mkF m 110 #[.val (.int pa), .val (.int pb), .val (.int pc), .val (.int (5 : Int32)), .val (.ref r_GREATER_THAN), .val (.int pb), .val (.int (0 : Int32))] [(.int (1 : Int32))]))) (fun t kt => ?_) ?_
        · show Steps p.tables e below (T45.setTop (mkF m 100 #[.val (.int pa), .val (.int pb), .val (.int pc), .val (.int (5 : Int32)), .val (.ref r_GREATER_THAN), .val (.int pb), .val (.int (0 : Int32))] [(.int (0 : Int32))])) t
          refine XS.iload X45.here hx rfl (hb hby at_100) rfl ?_
          show Steps p.tables e below (T45.setTop (mkF m 102 #[.val (.int pa), .val (.int pb), .val (.int pc), .val (.int (5 : Int32)), .val (.ref r_GREATER_THAN), .val (.int pb), .val (.int (0 : Int32))] [(.int (0 : Int32)), (.int (0 : Int32))])) t
          refine XS.icmpNo X45.here hx rfl (hb hby at_102) rfl (XT.ii_ne_f (by decide)) ?_
          show Steps p.tables e below (T45.setTop (mkF m 105 #[.val (.int pa), .val (.int pb), .val (.int pc), .val (.int (5 : Int32)), .val (.ref r_GREATER_THAN), .val (.int pb), .val (.int (0 : Int32))] [])) t
          refine XS.iconst X45.here hx rfl (hb hby at_105) ?_
          show Steps p.tables e below (T45.setTop (mkF m 106 #[.val (.int pa), .val (.int pb), .val (.int pc), .val (.int (5 : Int32)), .val (.ref r_GREATER_THAN), .val (.int pb), .val (.int (0 : Int32))] [(.int (1 : Int32))])) t
          refine XS.goto X45.here hx rfl (pc0 := 106) (pc' := 110) rfl (hb hby at_106) (by decide) (by decide) ?_
          exact kt
        refine Goes.retB X45 hx hlk hret (hb hby at_110) (by decide) (by decide) ?_
        try rw [K45]
        exact ⟨rfl, N45⟩
    · -- not (pc &&& (1 : Int32)) = 0
      refine Goes.go (U' := (T41.setTop (mkF m 83 #[.val (.int pa), .val (.int pb), .val (.int pc), .val (.int (5 : Int32)), .val (.ref r_GREATER_THAN), .val (.int ((pb &&& (7 : Int32)) - (2 : Int32))), .unset] [(.int (2 : Int32)), (.int ((pb &&& (7 : Int32)) - (2 : Int32)))]))) (fun t kt => ?_) ?_
      · show Steps p.tables e below (T41.setTop (mkF m 17 #[.val (.int pa), .val (.int pb), .val (.int pc), .val (.int (5 : Int32)), .val (.ref r_GREATER_THAN), .unset, .unset] [(.int (pc &&& (1 : Int32)))])) t
        refine XS.ifNo X41.here hx rfl (hb hby at_17) rfl (XT.i0_eq_f c42) ?_
        show Steps p.tables e below (T41.setTop (mkF m 20 #[.val (.int pa), .val (.int pb), .val (.int pc), .val (.int (5 : Int32)), .val (.ref r_GREATER_THAN), .unset, .unset] [])) t
        refine XS.iloadN X41.here hx rfl (hb hby at_20) rfl ?_
        show Steps p.tables e below (T41.setTop (mkF m 21 #[.val (.int pa), .val (.int pb), .val (.int pc), .val (.int (5 : Int32)), .val (.ref r_GREATER_THAN), .unset, .unset] [(.int pb)])) t
        refine XS.bipush X41.here hx rfl (hb hby at_21) ?_
        show Steps p.tables e below (T41.setTop (mkF m 23 #[.val (.int pa), .val (.int pb), .val (.int pc), .val (.int (5 : Int32)), .val (.ref r_GREATER_THAN), .unset, .unset] [(.int (7 : Int32)), (.int pb)])) t
        refine XS.iand X41.here hx rfl (hb hby at_23) rfl ?_
        show Steps p.tables e below (T41.setTop (mkF m 24 #[.val (.int pa), .val (.int pb), .val (.int pc), .val (.int (5 : Int32)), .val (.ref r_GREATER_THAN), .unset, .unset] [(.int (pb &&& (7 : Int32)))])) t
        refine XS.iconst X41.here hx rfl (hb hby at_24) ?_
        show Steps p.tables e below (T41.setTop (mkF m 25 #[.val (.int pa), .val (.int pb), .val (.int pc), .val (.int (5 : Int32)), .val (.ref r_GREATER_THAN), .unset, .unset] [(.int (2 : Int32)), (.int (pb &&& (7 : Int32)))])) t
        refine XS.isub X41.here hx rfl (hb hby at_25) rfl ?_
        show Steps p.tables e below (T41.setTop (mkF m 26 #[.val (.int pa), .val (.int pb), .val (.int pc), .val (.int (5 : Int32)), .val (.ref r_GREATER_THAN), .unset, .unset] [(.int ((pb &&& (7 : Int32)) - (2 : Int32)))])) t
        refine XS.istore X41.here hx rfl (hb hby at_26) rfl (l' := #[.val (.int pa), .val (.int pb), .val (.int pc), .val (.int (5 : Int32)), .val (.ref r_GREATER_THAN), .val (.int ((pb &&& (7 : Int32)) - (2 : Int32))), .unset]) rfl ?_
        show Steps p.tables e below (T41.setTop (mkF m 28 #[.val (.int pa), .val (.int pb), .val (.int pc), .val (.int (5 : Int32)), .val (.ref r_GREATER_THAN), .val (.int ((pb &&& (7 : Int32)) - (2 : Int32))), .unset] [])) t
        refine XS.goto X41.here hx rfl (pc0 := 28) (pc' := 34) rfl (hb hby at_28) (by decide) (by decide) ?_
        show Steps p.tables e below (T41.setTop (mkF m 34 #[.val (.int pa), .val (.int pb), .val (.int pc), .val (.int (5 : Int32)), .val (.ref r_GREATER_THAN), .val (.int ((pb &&& (7 : Int32)) - (2 : Int32))), .unset] [])) t
        refine XS.iloadN X41.here hx rfl (hb hby at_34) rfl ?_
        show Steps p.tables e below (T41.setTop (mkF m 35 #[.val (.int pa), .val (.int pb), .val (.int pc), .val (.int (5 : Int32)), .val (.ref r_GREATER_THAN), .val (.int ((pb &&& (7 : Int32)) - (2 : Int32))), .unset] [(.int (5 : Int32))])) t
        refine XS.ifNo X41.here hx rfl (hb hby at_35) rfl (XT.i0_eq_f (by decide)) ?_
        show Steps p.tables e below (T41.setTop (mkF m 38 #[.val (.int pa), .val (.int pb), .val (.int pc), .val (.int (5 : Int32)), .val (.ref r_GREATER_THAN), .val (.int ((pb &&& (7 : Int32)) - (2 : Int32))), .unset] [])) t
        refine XS.iloadN X41.here hx rfl (hb hby at_38) rfl ?_
        show Steps p.tables e below (T41.setTop (mkF m 39 #[.val (.int pa), .val (.int pb), .val (.int pc), .val (.int (5 : Int32)), .val (.ref r_GREATER_THAN), .val (.int ((pb &&& (7 : Int32)) - (2 : Int32))), .unset] [(.int (5 : Int32))])) t
        refine XS.iconst X41.here hx rfl (hb hby at_39) ?_
        show Steps p.tables e below (T41.setTop (mkF m 40 #[.val (.int pa), .val (.int pb), .val (.int pc), .val (.int (5 : Int32)), .val (.ref r_GREATER_THAN), .val (.int ((pb &&& (7 : Int32)) - (2 : Int32))), .unset] [(.int (1 : Int32)), (.int (5 : Int32))])) t
        refine XS.icmpYes X41.here hx rfl (pc0 := 40) (pc' := 59) rfl (hb hby at_40) rfl (XT.ii_ne_t (by decide)) (by decide) (by decide) ?_
        show Steps p.tables e below (T41.setTop (mkF m 59 #[.val (.int pa), .val (.int pb), .val (.int pc), .val (.int (5 : Int32)), .val (.ref r_GREATER_THAN), .val (.int ((pb &&& (7 : Int32)) - (2 : Int32))), .unset] [])) t
        refine XS.iloadN X41.here hx rfl (hb hby at_59) rfl ?_
        show Steps p.tables e below (T41.setTop (mkF m 60 #[.val (.int pa), .val (.int pb), .val (.int pc), .val (.int (5 : Int32)), .val (.ref r_GREATER_THAN), .val (.int ((pb &&& (7 : Int32)) - (2 : Int32))), .unset] [(.int (5 : Int32))])) t
        refine XS.iconst X41.here hx rfl (hb hby at_60) ?_
        show Steps p.tables e below (T41.setTop (mkF m 61 #[.val (.int pa), .val (.int pb), .val (.int pc), .val (.int (5 : Int32)), .val (.ref r_GREATER_THAN), .val (.int ((pb &&& (7 : Int32)) - (2 : Int32))), .unset] [(.int (2 : Int32)), (.int (5 : Int32))])) t
        refine XS.icmpYes X41.here hx rfl (pc0 := 61) (pc' := 80) rfl (hb hby at_61) rfl (XT.ii_ne_t (by decide)) (by decide) (by decide) ?_
        show Steps p.tables e below (T41.setTop (mkF m 80 #[.val (.int pa), .val (.int pb), .val (.int pc), .val (.int (5 : Int32)), .val (.ref r_GREATER_THAN), .val (.int ((pb &&& (7 : Int32)) - (2 : Int32))), .unset] [])) t
        refine XS.iload X41.here hx rfl (hb hby at_80) rfl ?_
        show Steps p.tables e below (T41.setTop (mkF m 82 #[.val (.int pa), .val (.int pb), .val (.int pc), .val (.int (5 : Int32)), .val (.ref r_GREATER_THAN), .val (.int ((pb &&& (7 : Int32)) - (2 : Int32))), .unset] [(.int ((pb &&& (7 : Int32)) - (2 : Int32)))])) t
        refine XS.iconst X41.here hx rfl (hb hby at_82) ?_
        exact kt
      by_cases c46 : ((pb &&& (7 : Int32)) - (2 : Int32)) = (2 : Int32)
      · -- ((pb &&& (7 : Int32)) - (2 : Int32)) = (2 : Int32)
        refine Goes.go (U' := (T41.setTop (mkF m 97 #[.val (.int pa), .val (.int pb), .val (.int pc), .val (.int (5 : Int32)), .val (.ref r_GREATER_THAN), .val (.int ((pb &&& (7 : Int32)) - (2 : Int32))), .val (.int (1 : Int32))] [(.int ((pb &&& (7 : Int32)) - (2 : Int32))), (.ref r_GREATER_THAN)]))) (fun t kt => ?_) ?_
        · show Steps p.tables e below (T41.setTop (mkF m 83 #[.val (.int pa), .val (.int pb), .val (.int pc), .val (.int (5 : Int32)), .val (.ref r_GREATER_THAN), .val (.int ((pb &&& (7 : Int32)) - (2 : Int32))), .unset] [(.int (2 : Int32)), (.int ((pb &&& (7 : Int32)) - (2 : Int32)))])) t
          refine XS.icmpNo X41.here hx rfl (hb hby at_83) rfl (XT.ii_ne_f c46) ?_
          show Steps p.tables e below (T41.setTop (mkF m 86 #[.val (.int pa), .val (.int pb), .val (.int pc), .val (.int (5 : Int32)), .val (.ref r_GREATER_THAN), .val (.int ((pb &&& (7 : Int32)) - (2 : Int32))), .unset] [])) t
          refine XS.iconst X41.here hx rfl (hb hby at_86) ?_
          show Steps p.tables e below (T41.setTop (mkF m 87 #[.val (.int pa), .val (.int pb), .val (.int pc), .val (.int (5 : Int32)), .val (.ref r_GREATER_THAN), .val (.int ((pb &&& (7 : Int32)) - (2 : Int32))), .unset] [(.int (1 : Int32))])) t
          refine XS.goto X41.here hx rfl (pc0 := 87) (pc' := 91) rfl (hb hby at_87) (by decide) (by decide) ?_
          show Steps p.tables e below (T41.setTop (mkF m 91 #[.val (.int pa), .val (.int pb), .val (.int pc), .val (.int (5 : Int32)), .val (.ref r_GREATER_THAN), .val (.int ((pb &&& (7 : Int32)) - (2 : Int32))), .unset] [(.int (1 : Int32))])) t
          refine XS.istore X41.here hx rfl (hb hby at_91) rfl (l' := #[.val (.int pa), .val (.int pb), .val (.int pc), .val (.int (5 : Int32)), .val (.ref r_GREATER_THAN), .val (.int ((pb &&& (7 : Int32)) - (2 : Int32))), .val (.int (1 : Int32))]) rfl ?_
          show Steps p.tables e below (T41.setTop (mkF m 93 #[.val (.int pa), .val (.int pb), .val (.int pc), .val (.int (5 : Int32)), .val (.ref r_GREATER_THAN), .val (.int ((pb &&& (7 : Int32)) - (2 : Int32))), .val (.int (1 : Int32))] [])) t
          refine XS.aload X41.here hx rfl (hb hby at_93) rfl rfl ?_
          show Steps p.tables e below (T41.setTop (mkF m 95 #[.val (.int pa), .val (.int pb), .val (.int pc), .val (.int (5 : Int32)), .val (.ref r_GREATER_THAN), .val (.int ((pb &&& (7 : Int32)) - (2 : Int32))), .val (.int (1 : Int32))] [(.ref r_GREATER_THAN)])) t
          refine XS.iload X41.here hx rfl (hb hby at_95) rfl ?_
          exact kt
        obtain ⟨v47, T47, L47, X47, q47, st47⟩ := callVirtual X41 hx hZ (y := (⟨"com/example/thistle/thistle/language/Operator", "admits", "(I)Z"⟩ : MethodName)) (z := (⟨"com/example/thistle/thistle/language/Operator", "admits", "(I)Z"⟩ : MethodName)) (W := 0) hown (wdOf hw 8 rfl) (wdOf hw 9 rfl) (notFace_of_selects (args := #[]) (mvT hZ (wdOf hw 11 rfl))) (wdOf hw 11 rfl) (wdOf hw 10 rfl) (wdOf hw 6 rfl) (wdOf hw 12 rfl) (by decide) (rm_adm l Z a0 hw [] r_GREATER_THAN ((pb &&& (7 : Int32)) - (2 : Int32)) (2 : Int32) (2 : Int32) (1 : Int32) h0 n0 Z0 F_fewestArguments_GREATER_THAN F_mostArguments_GREATER_THAN ((if_neg (own_eq c46)).symm)) (by decide) (by decide) (by decide) (by decide) K41 E_GREATER_THAN (g := (mkF m 97 #[.val (.int pa), .val (.int pb), .val (.int pc), .val (.int (5 : Int32)), .val (.ref r_GREATER_THAN), .val (.int ((pb &&& (7 : Int32)) - (2 : Int32))), .val (.int (1 : Int32))] [(.int ((pb &&& (7 : Int32)) - (2 : Int32))), (.ref r_GREATER_THAN)])) rfl (by rw [hml]; rfl) (argsL := [(.int ((pb &&& (7 : Int32)) - (2 : Int32)))]) (rest := []) (lenOf pd_1 rfl) rfl rfl (Nat.le_refl _) (hb hby at_97)
        obtain ⟨rfl, n47, K47⟩ := q47
        have N47 := Fr.app N41 n47
        refine Goes.go (U' := (T47.setTop (mkF m 100 #[.val (.int pa), .val (.int pb), .val (.int pc), .val (.int (5 : Int32)), .val (.ref r_GREATER_THAN), .val (.int ((pb &&& (7 : Int32)) - (2 : Int32))), .val (.int (1 : Int32))] [(.int (1 : Int32))]))) st47 ?_
        refine Goes.go (U' := (T47.setTop (mkF m 110 #[.val (.int pa), .val (.int pb), .val (.int pc), .val (.int (5 : Int32)), .val (.ref r_GREATER_THAN), .val (.int ((pb &&& (7 : Int32)) - (2 : Int32))), .val (.int (1 : Int32))] [(.int (1 : Int32))]))) (fun t kt => ?_) ?_
        · show Steps p.tables e below (T47.setTop (mkF m 100 #[.val (.int pa), .val (.int pb), .val (.int pc), .val (.int (5 : Int32)), .val (.ref r_GREATER_THAN), .val (.int ((pb &&& (7 : Int32)) - (2 : Int32))), .val (.int (1 : Int32))] [(.int (1 : Int32))])) t
          refine XS.iload X47.here hx rfl (hb hby at_100) rfl ?_
          show Steps p.tables e below (T47.setTop (mkF m 102 #[.val (.int pa), .val (.int pb), .val (.int pc), .val (.int (5 : Int32)), .val (.ref r_GREATER_THAN), .val (.int ((pb &&& (7 : Int32)) - (2 : Int32))), .val (.int (1 : Int32))] [(.int (1 : Int32)), (.int (1 : Int32))])) t
          refine XS.icmpNo X47.here hx rfl (hb hby at_102) rfl (XT.ii_ne_f (by decide)) ?_
          show Steps p.tables e below (T47.setTop (mkF m 105 #[.val (.int pa), .val (.int pb), .val (.int pc), .val (.int (5 : Int32)), .val (.ref r_GREATER_THAN), .val (.int ((pb &&& (7 : Int32)) - (2 : Int32))), .val (.int (1 : Int32))] [])) t
          refine XS.iconst X47.here hx rfl (hb hby at_105) ?_
          show Steps p.tables e below (T47.setTop (mkF m 106 #[.val (.int pa), .val (.int pb), .val (.int pc), .val (.int (5 : Int32)), .val (.ref r_GREATER_THAN), .val (.int ((pb &&& (7 : Int32)) - (2 : Int32))), .val (.int (1 : Int32))] [(.int (1 : Int32))])) t
          refine XS.goto X47.here hx rfl (pc0 := 106) (pc' := 110) rfl (hb hby at_106) (by decide) (by decide) ?_
          exact kt
        refine Goes.retB X47 hx hlk hret (hb hby at_110) (by decide) (by decide) ?_
        try rw [K47]
        exact ⟨rfl, N47⟩
      · -- not ((pb &&& (7 : Int32)) - (2 : Int32)) = (2 : Int32)
        refine Goes.go (U' := (T41.setTop (mkF m 97 #[.val (.int pa), .val (.int pb), .val (.int pc), .val (.int (5 : Int32)), .val (.ref r_GREATER_THAN), .val (.int ((pb &&& (7 : Int32)) - (2 : Int32))), .val (.int (0 : Int32))] [(.int ((pb &&& (7 : Int32)) - (2 : Int32))), (.ref r_GREATER_THAN)]))) (fun t kt => ?_) ?_
        · show Steps p.tables e below (T41.setTop (mkF m 83 #[.val (.int pa), .val (.int pb), .val (.int pc), .val (.int (5 : Int32)), .val (.ref r_GREATER_THAN), .val (.int ((pb &&& (7 : Int32)) - (2 : Int32))), .unset] [(.int (2 : Int32)), (.int ((pb &&& (7 : Int32)) - (2 : Int32)))])) t
          refine XS.icmpYes X41.here hx rfl (pc0 := 83) (pc' := 90) rfl (hb hby at_83) rfl (XT.ii_ne_t c46) (by decide) (by decide) ?_
          show Steps p.tables e below (T41.setTop (mkF m 90 #[.val (.int pa), .val (.int pb), .val (.int pc), .val (.int (5 : Int32)), .val (.ref r_GREATER_THAN), .val (.int ((pb &&& (7 : Int32)) - (2 : Int32))), .unset] [])) t
          refine XS.iconst X41.here hx rfl (hb hby at_90) ?_
          show Steps p.tables e below (T41.setTop (mkF m 91 #[.val (.int pa), .val (.int pb), .val (.int pc), .val (.int (5 : Int32)), .val (.ref r_GREATER_THAN), .val (.int ((pb &&& (7 : Int32)) - (2 : Int32))), .unset] [(.int (0 : Int32))])) t
          refine XS.istore X41.here hx rfl (hb hby at_91) rfl (l' := #[.val (.int pa), .val (.int pb), .val (.int pc), .val (.int (5 : Int32)), .val (.ref r_GREATER_THAN), .val (.int ((pb &&& (7 : Int32)) - (2 : Int32))), .val (.int (0 : Int32))]) rfl ?_
          show Steps p.tables e below (T41.setTop (mkF m 93 #[.val (.int pa), .val (.int pb), .val (.int pc), .val (.int (5 : Int32)), .val (.ref r_GREATER_THAN), .val (.int ((pb &&& (7 : Int32)) - (2 : Int32))), .val (.int (0 : Int32))] [])) t
          refine XS.aload X41.here hx rfl (hb hby at_93) rfl rfl ?_
          show Steps p.tables e below (T41.setTop (mkF m 95 #[.val (.int pa), .val (.int pb), .val (.int pc), .val (.int (5 : Int32)), .val (.ref r_GREATER_THAN), .val (.int ((pb &&& (7 : Int32)) - (2 : Int32))), .val (.int (0 : Int32))] [(.ref r_GREATER_THAN)])) t
          refine XS.iload X41.here hx rfl (hb hby at_95) rfl ?_
          exact kt
        obtain ⟨v48, T48, L48, X48, q48, st48⟩ := callVirtual X41 hx hZ (y := (⟨"com/example/thistle/thistle/language/Operator", "admits", "(I)Z"⟩ : MethodName)) (z := (⟨"com/example/thistle/thistle/language/Operator", "admits", "(I)Z"⟩ : MethodName)) (W := 0) hown (wdOf hw 8 rfl) (wdOf hw 9 rfl) (notFace_of_selects (args := #[]) (mvT hZ (wdOf hw 11 rfl))) (wdOf hw 11 rfl) (wdOf hw 10 rfl) (wdOf hw 6 rfl) (wdOf hw 12 rfl) (by decide) (rm_adm l Z a0 hw [] r_GREATER_THAN ((pb &&& (7 : Int32)) - (2 : Int32)) (2 : Int32) (2 : Int32) (0 : Int32) h0 n0 Z0 F_fewestArguments_GREATER_THAN F_mostArguments_GREATER_THAN ((if_pos (own_ne c46)).symm)) (by decide) (by decide) (by decide) (by decide) K41 E_GREATER_THAN (g := (mkF m 97 #[.val (.int pa), .val (.int pb), .val (.int pc), .val (.int (5 : Int32)), .val (.ref r_GREATER_THAN), .val (.int ((pb &&& (7 : Int32)) - (2 : Int32))), .val (.int (0 : Int32))] [(.int ((pb &&& (7 : Int32)) - (2 : Int32))), (.ref r_GREATER_THAN)])) rfl (by rw [hml]; rfl) (argsL := [(.int ((pb &&& (7 : Int32)) - (2 : Int32)))]) (rest := []) (lenOf pd_1 rfl) rfl rfl (Nat.le_refl _) (hb hby at_97)
        obtain ⟨rfl, n48, K48⟩ := q48
        have N48 := Fr.app N41 n48
        refine Goes.go (U' := (T48.setTop (mkF m 100 #[.val (.int pa), .val (.int pb), .val (.int pc), .val (.int (5 : Int32)), .val (.ref r_GREATER_THAN), .val (.int ((pb &&& (7 : Int32)) - (2 : Int32))), .val (.int (0 : Int32))] [(.int (0 : Int32))]))) st48 ?_
        refine Goes.go (U' := (T48.setTop (mkF m 110 #[.val (.int pa), .val (.int pb), .val (.int pc), .val (.int (5 : Int32)), .val (.ref r_GREATER_THAN), .val (.int ((pb &&& (7 : Int32)) - (2 : Int32))), .val (.int (0 : Int32))] [(.int (1 : Int32))]))) (fun t kt => ?_) ?_
        · show Steps p.tables e below (T48.setTop (mkF m 100 #[.val (.int pa), .val (.int pb), .val (.int pc), .val (.int (5 : Int32)), .val (.ref r_GREATER_THAN), .val (.int ((pb &&& (7 : Int32)) - (2 : Int32))), .val (.int (0 : Int32))] [(.int (0 : Int32))])) t
          refine XS.iload X48.here hx rfl (hb hby at_100) rfl ?_
          show Steps p.tables e below (T48.setTop (mkF m 102 #[.val (.int pa), .val (.int pb), .val (.int pc), .val (.int (5 : Int32)), .val (.ref r_GREATER_THAN), .val (.int ((pb &&& (7 : Int32)) - (2 : Int32))), .val (.int (0 : Int32))] [(.int (0 : Int32)), (.int (0 : Int32))])) t
          refine XS.icmpNo X48.here hx rfl (hb hby at_102) rfl (XT.ii_ne_f (by decide)) ?_
          show Steps p.tables e below (T48.setTop (mkF m 105 #[.val (.int pa), .val (.int pb), .val (.int pc), .val (.int (5 : Int32)), .val (.ref r_GREATER_THAN), .val (.int ((pb &&& (7 : Int32)) - (2 : Int32))), .val (.int (0 : Int32))] [])) t
          refine XS.iconst X48.here hx rfl (hb hby at_105) ?_
          show Steps p.tables e below (T48.setTop (mkF m 106 #[.val (.int pa), .val (.int pb), .val (.int pc), .val (.int (5 : Int32)), .val (.ref r_GREATER_THAN), .val (.int ((pb &&& (7 : Int32)) - (2 : Int32))), .val (.int (0 : Int32))] [(.int (1 : Int32))])) t
          refine XS.goto X48.here hx rfl (pc0 := 106) (pc' := 110) rfl (hb hby at_106) (by decide) (by decide) ?_
          exact kt
        refine Goes.retB X48 hx hlk hret (hb hby at_110) (by decide) (by decide) ?_
        try rw [K48]
        exact ⟨rfl, N48⟩
  · -- case 6
    rw [hk]
    refine Goes.go (U' := (s₁.setTop (mkF m 9 #[.val (.int pa), .val (.int pb), .val (.int pc), .val (.int (6 : Int32)), .unset, .unset, .unset] [(.int (6 : Int32))]))) (fun t kt => ?_) ?_
    · show Steps p.tables e below (s₁.setTop (mkF m 7 #[.val (.int pa), .val (.int pb), .val (.int pc), .unset, .unset, .unset, .unset] [(.int (6 : Int32))])) t
      refine XS.istoreN X0.here hx rfl (hb hby at_7) rfl (l' := #[.val (.int pa), .val (.int pb), .val (.int pc), .val (.int (6 : Int32)), .unset, .unset, .unset]) rfl ?_
      show Steps p.tables e below (s₁.setTop (mkF m 8 #[.val (.int pa), .val (.int pb), .val (.int pc), .val (.int (6 : Int32)), .unset, .unset, .unset] [])) t
      refine XS.iloadN X0.here hx rfl (hb hby at_8) rfl ?_
      exact kt
    obtain ⟨v49, T49, L49, X49, q49, st49⟩ := callStatic X0 hx hZ (y := (⟨"com/example/thistle/thistle/language/OperatorAdmitsPinLaw", "pick", "(I)Lcom/example/thistle/thistle/language/Operator;"⟩ : MethodName)) (W := 0) hown (wdOf hw 1 rfl) (wdOf hw 2 rfl) (wdOf hw 3 rfl) (wdOf hw 4 rfl) (by decide) (rm_pick l Z a0 hw [] (6 : Int32) r_LESS_THAN r_AND r_OR r_NOT r_EQUAL r_IN r_GREATER_THAN r_LESS_THAN r_GREATER_THAN_OR_EQUAL r_LESS_THAN_OR_EQUAL r_ADD r_SUBTRACT r_MULTIPLY r_DIVIDE h0 n0 Z0 S_AND S_OR S_NOT S_EQUAL S_IN S_GREATER_THAN S_LESS_THAN S_GREATER_THAN_OR_EQUAL S_LESS_THAN_OR_EQUAL S_ADD S_SUBTRACT S_MULTIPLY S_DIVIDE (by simp)) (by decide) (by decide) (by decide) (by decide) e0 (g := (mkF m 9 #[.val (.int pa), .val (.int pb), .val (.int pc), .val (.int (6 : Int32)), .unset, .unset, .unset] [(.int (6 : Int32))])) rfl (by rw [hml]; rfl) (argsL := [(.int (6 : Int32))]) (rest := []) (lenOf pd_0 rfl) rfl rfl (Nat.le_refl _) (hb hby at_9)
    obtain ⟨rfl, n49, K49⟩ := q49
    have N49 := Fr.app N0 n49
    refine Goes.go (U' := (T49.setTop (mkF m 12 #[.val (.int pa), .val (.int pb), .val (.int pc), .val (.int (6 : Int32)), .unset, .unset, .unset] [(.ref r_LESS_THAN)]))) st49 ?_
    refine Goes.go (U' := (T49.setTop (mkF m 17 #[.val (.int pa), .val (.int pb), .val (.int pc), .val (.int (6 : Int32)), .val (.ref r_LESS_THAN), .unset, .unset] [(.int (pc &&& (1 : Int32)))]))) (fun t kt => ?_) ?_
    · show Steps p.tables e below (T49.setTop (mkF m 12 #[.val (.int pa), .val (.int pb), .val (.int pc), .val (.int (6 : Int32)), .unset, .unset, .unset] [(.ref r_LESS_THAN)])) t
      refine XS.astore X49.here hx rfl (hb hby at_12) rfl rfl (l' := #[.val (.int pa), .val (.int pb), .val (.int pc), .val (.int (6 : Int32)), .val (.ref r_LESS_THAN), .unset, .unset]) rfl ?_
      show Steps p.tables e below (T49.setTop (mkF m 14 #[.val (.int pa), .val (.int pb), .val (.int pc), .val (.int (6 : Int32)), .val (.ref r_LESS_THAN), .unset, .unset] [])) t
      refine XS.iloadN X49.here hx rfl (hb hby at_14) rfl ?_
      show Steps p.tables e below (T49.setTop (mkF m 15 #[.val (.int pa), .val (.int pb), .val (.int pc), .val (.int (6 : Int32)), .val (.ref r_LESS_THAN), .unset, .unset] [(.int pc)])) t
      refine XS.iconst X49.here hx rfl (hb hby at_15) ?_
      show Steps p.tables e below (T49.setTop (mkF m 16 #[.val (.int pa), .val (.int pb), .val (.int pc), .val (.int (6 : Int32)), .val (.ref r_LESS_THAN), .unset, .unset] [(.int (1 : Int32)), (.int pc)])) t
      refine XS.iand X49.here hx rfl (hb hby at_16) rfl ?_
      exact kt
    by_cases c50 : (pc &&& (1 : Int32)) = 0
    · -- (pc &&& (1 : Int32)) = 0
      refine Goes.go (U' := (T49.setTop (mkF m 83 #[.val (.int pa), .val (.int pb), .val (.int pc), .val (.int (6 : Int32)), .val (.ref r_LESS_THAN), .val (.int pb), .unset] [(.int (2 : Int32)), (.int pb)]))) (fun t kt => ?_) ?_
      · show Steps p.tables e below (T49.setTop (mkF m 17 #[.val (.int pa), .val (.int pb), .val (.int pc), .val (.int (6 : Int32)), .val (.ref r_LESS_THAN), .unset, .unset] [(.int (pc &&& (1 : Int32)))])) t
        refine XS.ifYes X49.here hx rfl (pc0 := 17) (pc' := 31) rfl (hb hby at_17) rfl (XT.i0_eq_t c50) (by decide) (by decide) ?_
        show Steps p.tables e below (T49.setTop (mkF m 31 #[.val (.int pa), .val (.int pb), .val (.int pc), .val (.int (6 : Int32)), .val (.ref r_LESS_THAN), .unset, .unset] [])) t
        refine XS.iloadN X49.here hx rfl (hb hby at_31) rfl ?_
        show Steps p.tables e below (T49.setTop (mkF m 32 #[.val (.int pa), .val (.int pb), .val (.int pc), .val (.int (6 : Int32)), .val (.ref r_LESS_THAN), .unset, .unset] [(.int pb)])) t
        refine XS.istore X49.here hx rfl (hb hby at_32) rfl (l' := #[.val (.int pa), .val (.int pb), .val (.int pc), .val (.int (6 : Int32)), .val (.ref r_LESS_THAN), .val (.int pb), .unset]) rfl ?_
        show Steps p.tables e below (T49.setTop (mkF m 34 #[.val (.int pa), .val (.int pb), .val (.int pc), .val (.int (6 : Int32)), .val (.ref r_LESS_THAN), .val (.int pb), .unset] [])) t
        refine XS.iloadN X49.here hx rfl (hb hby at_34) rfl ?_
        show Steps p.tables e below (T49.setTop (mkF m 35 #[.val (.int pa), .val (.int pb), .val (.int pc), .val (.int (6 : Int32)), .val (.ref r_LESS_THAN), .val (.int pb), .unset] [(.int (6 : Int32))])) t
        refine XS.ifNo X49.here hx rfl (hb hby at_35) rfl (XT.i0_eq_f (by decide)) ?_
        show Steps p.tables e below (T49.setTop (mkF m 38 #[.val (.int pa), .val (.int pb), .val (.int pc), .val (.int (6 : Int32)), .val (.ref r_LESS_THAN), .val (.int pb), .unset] [])) t
        refine XS.iloadN X49.here hx rfl (hb hby at_38) rfl ?_
        show Steps p.tables e below (T49.setTop (mkF m 39 #[.val (.int pa), .val (.int pb), .val (.int pc), .val (.int (6 : Int32)), .val (.ref r_LESS_THAN), .val (.int pb), .unset] [(.int (6 : Int32))])) t
        refine XS.iconst X49.here hx rfl (hb hby at_39) ?_
        show Steps p.tables e below (T49.setTop (mkF m 40 #[.val (.int pa), .val (.int pb), .val (.int pc), .val (.int (6 : Int32)), .val (.ref r_LESS_THAN), .val (.int pb), .unset] [(.int (1 : Int32)), (.int (6 : Int32))])) t
        refine XS.icmpYes X49.here hx rfl (pc0 := 40) (pc' := 59) rfl (hb hby at_40) rfl (XT.ii_ne_t (by decide)) (by decide) (by decide) ?_
        show Steps p.tables e below (T49.setTop (mkF m 59 #[.val (.int pa), .val (.int pb), .val (.int pc), .val (.int (6 : Int32)), .val (.ref r_LESS_THAN), .val (.int pb), .unset] [])) t
        refine XS.iloadN X49.here hx rfl (hb hby at_59) rfl ?_
        show Steps p.tables e below (T49.setTop (mkF m 60 #[.val (.int pa), .val (.int pb), .val (.int pc), .val (.int (6 : Int32)), .val (.ref r_LESS_THAN), .val (.int pb), .unset] [(.int (6 : Int32))])) t
        refine XS.iconst X49.here hx rfl (hb hby at_60) ?_
        show Steps p.tables e below (T49.setTop (mkF m 61 #[.val (.int pa), .val (.int pb), .val (.int pc), .val (.int (6 : Int32)), .val (.ref r_LESS_THAN), .val (.int pb), .unset] [(.int (2 : Int32)), (.int (6 : Int32))])) t
        refine XS.icmpYes X49.here hx rfl (pc0 := 61) (pc' := 80) rfl (hb hby at_61) rfl (XT.ii_ne_t (by decide)) (by decide) (by decide) ?_
        show Steps p.tables e below (T49.setTop (mkF m 80 #[.val (.int pa), .val (.int pb), .val (.int pc), .val (.int (6 : Int32)), .val (.ref r_LESS_THAN), .val (.int pb), .unset] [])) t
        refine XS.iload X49.here hx rfl (hb hby at_80) rfl ?_
        show Steps p.tables e below (T49.setTop (mkF m 82 #[.val (.int pa), .val (.int pb), .val (.int pc), .val (.int (6 : Int32)), .val (.ref r_LESS_THAN), .val (.int pb), .unset] [(.int pb)])) t
        refine XS.iconst X49.here hx rfl (hb hby at_82) ?_
        exact kt
      by_cases c51 : pb = (2 : Int32)
      · -- pb = (2 : Int32)
        refine Goes.go (U' := (T49.setTop (mkF m 97 #[.val (.int pa), .val (.int pb), .val (.int pc), .val (.int (6 : Int32)), .val (.ref r_LESS_THAN), .val (.int pb), .val (.int (1 : Int32))] [(.int pb), (.ref r_LESS_THAN)]))) (fun t kt => ?_) ?_
        · show Steps p.tables e below (T49.setTop (mkF m 83 #[.val (.int pa), .val (.int pb), .val (.int pc), .val (.int (6 : Int32)), .val (.ref r_LESS_THAN), .val (.int pb), .unset] [(.int (2 : Int32)), (.int pb)])) t
          refine XS.icmpNo X49.here hx rfl (hb hby at_83) rfl (XT.ii_ne_f c51) ?_
          show Steps p.tables e below (T49.setTop (mkF m 86 #[.val (.int pa), .val (.int pb), .val (.int pc), .val (.int (6 : Int32)), .val (.ref r_LESS_THAN), .val (.int pb), .unset] [])) t
          refine XS.iconst X49.here hx rfl (hb hby at_86) ?_
          show Steps p.tables e below (T49.setTop (mkF m 87 #[.val (.int pa), .val (.int pb), .val (.int pc), .val (.int (6 : Int32)), .val (.ref r_LESS_THAN), .val (.int pb), .unset] [(.int (1 : Int32))])) t
          refine XS.goto X49.here hx rfl (pc0 := 87) (pc' := 91) rfl (hb hby at_87) (by decide) (by decide) ?_
          show Steps p.tables e below (T49.setTop (mkF m 91 #[.val (.int pa), .val (.int pb), .val (.int pc), .val (.int (6 : Int32)), .val (.ref r_LESS_THAN), .val (.int pb), .unset] [(.int (1 : Int32))])) t
          refine XS.istore X49.here hx rfl (hb hby at_91) rfl (l' := #[.val (.int pa), .val (.int pb), .val (.int pc), .val (.int (6 : Int32)), .val (.ref r_LESS_THAN), .val (.int pb), .val (.int (1 : Int32))]) rfl ?_
          show Steps p.tables e below (T49.setTop (mkF m 93 #[.val (.int pa), .val (.int pb), .val (.int pc), .val (.int (6 : Int32)), .val (.ref r_LESS_THAN), .val (.int pb), .val (.int (1 : Int32))] [])) t
          refine XS.aload X49.here hx rfl (hb hby at_93) rfl rfl ?_
          show Steps p.tables e below (T49.setTop (mkF m 95 #[.val (.int pa), .val (.int pb), .val (.int pc), .val (.int (6 : Int32)), .val (.ref r_LESS_THAN), .val (.int pb), .val (.int (1 : Int32))] [(.ref r_LESS_THAN)])) t
          refine XS.iload X49.here hx rfl (hb hby at_95) rfl ?_
          exact kt
        obtain ⟨v52, T52, L52, X52, q52, st52⟩ := callVirtual X49 hx hZ (y := (⟨"com/example/thistle/thistle/language/Operator", "admits", "(I)Z"⟩ : MethodName)) (z := (⟨"com/example/thistle/thistle/language/Operator", "admits", "(I)Z"⟩ : MethodName)) (W := 0) hown (wdOf hw 8 rfl) (wdOf hw 9 rfl) (notFace_of_selects (args := #[]) (mvT hZ (wdOf hw 11 rfl))) (wdOf hw 11 rfl) (wdOf hw 10 rfl) (wdOf hw 6 rfl) (wdOf hw 12 rfl) (by decide) (rm_adm l Z a0 hw [] r_LESS_THAN pb (2 : Int32) (2 : Int32) (1 : Int32) h0 n0 Z0 F_fewestArguments_LESS_THAN F_mostArguments_LESS_THAN ((if_neg (own_eq c51)).symm)) (by decide) (by decide) (by decide) (by decide) K49 E_LESS_THAN (g := (mkF m 97 #[.val (.int pa), .val (.int pb), .val (.int pc), .val (.int (6 : Int32)), .val (.ref r_LESS_THAN), .val (.int pb), .val (.int (1 : Int32))] [(.int pb), (.ref r_LESS_THAN)])) rfl (by rw [hml]; rfl) (argsL := [(.int pb)]) (rest := []) (lenOf pd_1 rfl) rfl rfl (Nat.le_refl _) (hb hby at_97)
        obtain ⟨rfl, n52, K52⟩ := q52
        have N52 := Fr.app N49 n52
        refine Goes.go (U' := (T52.setTop (mkF m 100 #[.val (.int pa), .val (.int pb), .val (.int pc), .val (.int (6 : Int32)), .val (.ref r_LESS_THAN), .val (.int pb), .val (.int (1 : Int32))] [(.int (1 : Int32))]))) st52 ?_
        refine Goes.go (U' := (T52.setTop (mkF m 110 #[.val (.int pa), .val (.int pb), .val (.int pc), .val (.int (6 : Int32)), .val (.ref r_LESS_THAN), .val (.int pb), .val (.int (1 : Int32))] [(.int (1 : Int32))]))) (fun t kt => ?_) ?_
        · show Steps p.tables e below (T52.setTop (mkF m 100 #[.val (.int pa), .val (.int pb), .val (.int pc), .val (.int (6 : Int32)), .val (.ref r_LESS_THAN), .val (.int pb), .val (.int (1 : Int32))] [(.int (1 : Int32))])) t
          refine XS.iload X52.here hx rfl (hb hby at_100) rfl ?_
          show Steps p.tables e below (T52.setTop (mkF m 102 #[.val (.int pa), .val (.int pb), .val (.int pc), .val (.int (6 : Int32)), .val (.ref r_LESS_THAN), .val (.int pb), .val (.int (1 : Int32))] [(.int (1 : Int32)), (.int (1 : Int32))])) t
          refine XS.icmpNo X52.here hx rfl (hb hby at_102) rfl (XT.ii_ne_f (by decide)) ?_
          show Steps p.tables e below (T52.setTop (mkF m 105 #[.val (.int pa), .val (.int pb), .val (.int pc), .val (.int (6 : Int32)), .val (.ref r_LESS_THAN), .val (.int pb), .val (.int (1 : Int32))] [])) t
          refine XS.iconst X52.here hx rfl (hb hby at_105) ?_
          show Steps p.tables e below (T52.setTop (mkF m 106 #[.val (.int pa), .val (.int pb), .val (.int pc), .val (.int (6 : Int32)), .val (.ref r_LESS_THAN), .val (.int pb), .val (.int (1 : Int32))] [(.int (1 : Int32))])) t
          refine XS.goto X52.here hx rfl (pc0 := 106) (pc' := 110) rfl (hb hby at_106) (by decide) (by decide) ?_
          exact kt
        refine Goes.retB X52 hx hlk hret (hb hby at_110) (by decide) (by decide) ?_
        try rw [K52]
        exact ⟨rfl, N52⟩
      · -- not pb = (2 : Int32)
        refine Goes.go (U' := (T49.setTop (mkF m 97 #[.val (.int pa), .val (.int pb), .val (.int pc), .val (.int (6 : Int32)), .val (.ref r_LESS_THAN), .val (.int pb), .val (.int (0 : Int32))] [(.int pb), (.ref r_LESS_THAN)]))) (fun t kt => ?_) ?_
        · show Steps p.tables e below (T49.setTop (mkF m 83 #[.val (.int pa), .val (.int pb), .val (.int pc), .val (.int (6 : Int32)), .val (.ref r_LESS_THAN), .val (.int pb), .unset] [(.int (2 : Int32)), (.int pb)])) t
          refine XS.icmpYes X49.here hx rfl (pc0 := 83) (pc' := 90) rfl (hb hby at_83) rfl (XT.ii_ne_t c51) (by decide) (by decide) ?_
          show Steps p.tables e below (T49.setTop (mkF m 90 #[.val (.int pa), .val (.int pb), .val (.int pc), .val (.int (6 : Int32)), .val (.ref r_LESS_THAN), .val (.int pb), .unset] [])) t
          refine XS.iconst X49.here hx rfl (hb hby at_90) ?_
          show Steps p.tables e below (T49.setTop (mkF m 91 #[.val (.int pa), .val (.int pb), .val (.int pc), .val (.int (6 : Int32)), .val (.ref r_LESS_THAN), .val (.int pb), .unset] [(.int (0 : Int32))])) t
          refine XS.istore X49.here hx rfl (hb hby at_91) rfl (l' := #[.val (.int pa), .val (.int pb), .val (.int pc), .val (.int (6 : Int32)), .val (.ref r_LESS_THAN), .val (.int pb), .val (.int (0 : Int32))]) rfl ?_
          show Steps p.tables e below (T49.setTop (mkF m 93 #[.val (.int pa), .val (.int pb), .val (.int pc), .val (.int (6 : Int32)), .val (.ref r_LESS_THAN), .val (.int pb), .val (.int (0 : Int32))] [])) t
          refine XS.aload X49.here hx rfl (hb hby at_93) rfl rfl ?_
          show Steps p.tables e below (T49.setTop (mkF m 95 #[.val (.int pa), .val (.int pb), .val (.int pc), .val (.int (6 : Int32)), .val (.ref r_LESS_THAN), .val (.int pb), .val (.int (0 : Int32))] [(.ref r_LESS_THAN)])) t
          refine XS.iload X49.here hx rfl (hb hby at_95) rfl ?_
          exact kt
        obtain ⟨v53, T53, L53, X53, q53, st53⟩ := callVirtual X49 hx hZ (y := (⟨"com/example/thistle/thistle/language/Operator", "admits", "(I)Z"⟩ : MethodName)) (z := (⟨"com/example/thistle/thistle/language/Operator", "admits", "(I)Z"⟩ : MethodName)) (W := 0) hown (wdOf hw 8 rfl) (wdOf hw 9 rfl) (notFace_of_selects (args := #[]) (mvT hZ (wdOf hw 11 rfl))) (wdOf hw 11 rfl) (wdOf hw 10 rfl) (wdOf hw 6 rfl) (wdOf hw 12 rfl) (by decide) (rm_adm l Z a0 hw [] r_LESS_THAN pb (2 : Int32) (2 : Int32) (0 : Int32) h0 n0 Z0 F_fewestArguments_LESS_THAN F_mostArguments_LESS_THAN ((if_pos (own_ne c51)).symm)) (by decide) (by decide) (by decide) (by decide) K49 E_LESS_THAN (g := (mkF m 97 #[.val (.int pa), .val (.int pb), .val (.int pc), .val (.int (6 : Int32)), .val (.ref r_LESS_THAN), .val (.int pb), .val (.int (0 : Int32))] [(.int pb), (.ref r_LESS_THAN)])) rfl (by rw [hml]; rfl) (argsL := [(.int pb)]) (rest := []) (lenOf pd_1 rfl) rfl rfl (Nat.le_refl _) (hb hby at_97)
        obtain ⟨rfl, n53, K53⟩ := q53
        have N53 := Fr.app N49 n53
        refine Goes.go (U' := (T53.setTop (mkF m 100 #[.val (.int pa), .val (.int pb), .val (.int pc), .val (.int (6 : Int32)), .val (.ref r_LESS_THAN), .val (.int pb), .val (.int (0 : Int32))] [(.int (0 : Int32))]))) st53 ?_
        refine Goes.go (U' := (T53.setTop (mkF m 110 #[.val (.int pa), .val (.int pb), .val (.int pc), .val (.int (6 : Int32)), .val (.ref r_LESS_THAN), .val (.int pb), .val (.int (0 : Int32))] [(.int (1 : Int32))]))) (fun t kt => ?_) ?_
        · show Steps p.tables e below (T53.setTop (mkF m 100 #[.val (.int pa), .val (.int pb), .val (.int pc), .val (.int (6 : Int32)), .val (.ref r_LESS_THAN), .val (.int pb), .val (.int (0 : Int32))] [(.int (0 : Int32))])) t
          refine XS.iload X53.here hx rfl (hb hby at_100) rfl ?_
          show Steps p.tables e below (T53.setTop (mkF m 102 #[.val (.int pa), .val (.int pb), .val (.int pc), .val (.int (6 : Int32)), .val (.ref r_LESS_THAN), .val (.int pb), .val (.int (0 : Int32))] [(.int (0 : Int32)), (.int (0 : Int32))])) t
          refine XS.icmpNo X53.here hx rfl (hb hby at_102) rfl (XT.ii_ne_f (by decide)) ?_
          show Steps p.tables e below (T53.setTop (mkF m 105 #[.val (.int pa), .val (.int pb), .val (.int pc), .val (.int (6 : Int32)), .val (.ref r_LESS_THAN), .val (.int pb), .val (.int (0 : Int32))] [])) t
          refine XS.iconst X53.here hx rfl (hb hby at_105) ?_
          show Steps p.tables e below (T53.setTop (mkF m 106 #[.val (.int pa), .val (.int pb), .val (.int pc), .val (.int (6 : Int32)), .val (.ref r_LESS_THAN), .val (.int pb), .val (.int (0 : Int32))] [(.int (1 : Int32))])) t
          refine XS.goto X53.here hx rfl (pc0 := 106) (pc' := 110) rfl (hb hby at_106) (by decide) (by decide) ?_
          exact kt
        refine Goes.retB X53 hx hlk hret (hb hby at_110) (by decide) (by decide) ?_
        try rw [K53]
        exact ⟨rfl, N53⟩
    · -- not (pc &&& (1 : Int32)) = 0
      refine Goes.go (U' := (T49.setTop (mkF m 83 #[.val (.int pa), .val (.int pb), .val (.int pc), .val (.int (6 : Int32)), .val (.ref r_LESS_THAN), .val (.int ((pb &&& (7 : Int32)) - (2 : Int32))), .unset] [(.int (2 : Int32)), (.int ((pb &&& (7 : Int32)) - (2 : Int32)))]))) (fun t kt => ?_) ?_
      · show Steps p.tables e below (T49.setTop (mkF m 17 #[.val (.int pa), .val (.int pb), .val (.int pc), .val (.int (6 : Int32)), .val (.ref r_LESS_THAN), .unset, .unset] [(.int (pc &&& (1 : Int32)))])) t
        refine XS.ifNo X49.here hx rfl (hb hby at_17) rfl (XT.i0_eq_f c50) ?_
        show Steps p.tables e below (T49.setTop (mkF m 20 #[.val (.int pa), .val (.int pb), .val (.int pc), .val (.int (6 : Int32)), .val (.ref r_LESS_THAN), .unset, .unset] [])) t
        refine XS.iloadN X49.here hx rfl (hb hby at_20) rfl ?_
        show Steps p.tables e below (T49.setTop (mkF m 21 #[.val (.int pa), .val (.int pb), .val (.int pc), .val (.int (6 : Int32)), .val (.ref r_LESS_THAN), .unset, .unset] [(.int pb)])) t
        refine XS.bipush X49.here hx rfl (hb hby at_21) ?_
        show Steps p.tables e below (T49.setTop (mkF m 23 #[.val (.int pa), .val (.int pb), .val (.int pc), .val (.int (6 : Int32)), .val (.ref r_LESS_THAN), .unset, .unset] [(.int (7 : Int32)), (.int pb)])) t
        refine XS.iand X49.here hx rfl (hb hby at_23) rfl ?_
        show Steps p.tables e below (T49.setTop (mkF m 24 #[.val (.int pa), .val (.int pb), .val (.int pc), .val (.int (6 : Int32)), .val (.ref r_LESS_THAN), .unset, .unset] [(.int (pb &&& (7 : Int32)))])) t
        refine XS.iconst X49.here hx rfl (hb hby at_24) ?_
        show Steps p.tables e below (T49.setTop (mkF m 25 #[.val (.int pa), .val (.int pb), .val (.int pc), .val (.int (6 : Int32)), .val (.ref r_LESS_THAN), .unset, .unset] [(.int (2 : Int32)), (.int (pb &&& (7 : Int32)))])) t
        refine XS.isub X49.here hx rfl (hb hby at_25) rfl ?_
        show Steps p.tables e below (T49.setTop (mkF m 26 #[.val (.int pa), .val (.int pb), .val (.int pc), .val (.int (6 : Int32)), .val (.ref r_LESS_THAN), .unset, .unset] [(.int ((pb &&& (7 : Int32)) - (2 : Int32)))])) t
        refine XS.istore X49.here hx rfl (hb hby at_26) rfl (l' := #[.val (.int pa), .val (.int pb), .val (.int pc), .val (.int (6 : Int32)), .val (.ref r_LESS_THAN), .val (.int ((pb &&& (7 : Int32)) - (2 : Int32))), .unset]) rfl ?_
        show Steps p.tables e below (T49.setTop (mkF m 28 #[.val (.int pa), .val (.int pb), .val (.int pc), .val (.int (6 : Int32)), .val (.ref r_LESS_THAN), .val (.int ((pb &&& (7 : Int32)) - (2 : Int32))), .unset] [])) t
        refine XS.goto X49.here hx rfl (pc0 := 28) (pc' := 34) rfl (hb hby at_28) (by decide) (by decide) ?_
        show Steps p.tables e below (T49.setTop (mkF m 34 #[.val (.int pa), .val (.int pb), .val (.int pc), .val (.int (6 : Int32)), .val (.ref r_LESS_THAN), .val (.int ((pb &&& (7 : Int32)) - (2 : Int32))), .unset] [])) t
        refine XS.iloadN X49.here hx rfl (hb hby at_34) rfl ?_
        show Steps p.tables e below (T49.setTop (mkF m 35 #[.val (.int pa), .val (.int pb), .val (.int pc), .val (.int (6 : Int32)), .val (.ref r_LESS_THAN), .val (.int ((pb &&& (7 : Int32)) - (2 : Int32))), .unset] [(.int (6 : Int32))])) t
        refine XS.ifNo X49.here hx rfl (hb hby at_35) rfl (XT.i0_eq_f (by decide)) ?_
        show Steps p.tables e below (T49.setTop (mkF m 38 #[.val (.int pa), .val (.int pb), .val (.int pc), .val (.int (6 : Int32)), .val (.ref r_LESS_THAN), .val (.int ((pb &&& (7 : Int32)) - (2 : Int32))), .unset] [])) t
        refine XS.iloadN X49.here hx rfl (hb hby at_38) rfl ?_
        show Steps p.tables e below (T49.setTop (mkF m 39 #[.val (.int pa), .val (.int pb), .val (.int pc), .val (.int (6 : Int32)), .val (.ref r_LESS_THAN), .val (.int ((pb &&& (7 : Int32)) - (2 : Int32))), .unset] [(.int (6 : Int32))])) t
        refine XS.iconst X49.here hx rfl (hb hby at_39) ?_
        show Steps p.tables e below (T49.setTop (mkF m 40 #[.val (.int pa), .val (.int pb), .val (.int pc), .val (.int (6 : Int32)), .val (.ref r_LESS_THAN), .val (.int ((pb &&& (7 : Int32)) - (2 : Int32))), .unset] [(.int (1 : Int32)), (.int (6 : Int32))])) t
        refine XS.icmpYes X49.here hx rfl (pc0 := 40) (pc' := 59) rfl (hb hby at_40) rfl (XT.ii_ne_t (by decide)) (by decide) (by decide) ?_
        show Steps p.tables e below (T49.setTop (mkF m 59 #[.val (.int pa), .val (.int pb), .val (.int pc), .val (.int (6 : Int32)), .val (.ref r_LESS_THAN), .val (.int ((pb &&& (7 : Int32)) - (2 : Int32))), .unset] [])) t
        refine XS.iloadN X49.here hx rfl (hb hby at_59) rfl ?_
        show Steps p.tables e below (T49.setTop (mkF m 60 #[.val (.int pa), .val (.int pb), .val (.int pc), .val (.int (6 : Int32)), .val (.ref r_LESS_THAN), .val (.int ((pb &&& (7 : Int32)) - (2 : Int32))), .unset] [(.int (6 : Int32))])) t
        refine XS.iconst X49.here hx rfl (hb hby at_60) ?_
        show Steps p.tables e below (T49.setTop (mkF m 61 #[.val (.int pa), .val (.int pb), .val (.int pc), .val (.int (6 : Int32)), .val (.ref r_LESS_THAN), .val (.int ((pb &&& (7 : Int32)) - (2 : Int32))), .unset] [(.int (2 : Int32)), (.int (6 : Int32))])) t
        refine XS.icmpYes X49.here hx rfl (pc0 := 61) (pc' := 80) rfl (hb hby at_61) rfl (XT.ii_ne_t (by decide)) (by decide) (by decide) ?_
        show Steps p.tables e below (T49.setTop (mkF m 80 #[.val (.int pa), .val (.int pb), .val (.int pc), .val (.int (6 : Int32)), .val (.ref r_LESS_THAN), .val (.int ((pb &&& (7 : Int32)) - (2 : Int32))), .unset] [])) t
        refine XS.iload X49.here hx rfl (hb hby at_80) rfl ?_
        show Steps p.tables e below (T49.setTop (mkF m 82 #[.val (.int pa), .val (.int pb), .val (.int pc), .val (.int (6 : Int32)), .val (.ref r_LESS_THAN), .val (.int ((pb &&& (7 : Int32)) - (2 : Int32))), .unset] [(.int ((pb &&& (7 : Int32)) - (2 : Int32)))])) t
        refine XS.iconst X49.here hx rfl (hb hby at_82) ?_
        exact kt
      by_cases c54 : ((pb &&& (7 : Int32)) - (2 : Int32)) = (2 : Int32)
      · -- ((pb &&& (7 : Int32)) - (2 : Int32)) = (2 : Int32)
        refine Goes.go (U' := (T49.setTop (mkF m 97 #[.val (.int pa), .val (.int pb), .val (.int pc), .val (.int (6 : Int32)), .val (.ref r_LESS_THAN), .val (.int ((pb &&& (7 : Int32)) - (2 : Int32))), .val (.int (1 : Int32))] [(.int ((pb &&& (7 : Int32)) - (2 : Int32))), (.ref r_LESS_THAN)]))) (fun t kt => ?_) ?_
        · show Steps p.tables e below (T49.setTop (mkF m 83 #[.val (.int pa), .val (.int pb), .val (.int pc), .val (.int (6 : Int32)), .val (.ref r_LESS_THAN), .val (.int ((pb &&& (7 : Int32)) - (2 : Int32))), .unset] [(.int (2 : Int32)), (.int ((pb &&& (7 : Int32)) - (2 : Int32)))])) t
          refine XS.icmpNo X49.here hx rfl (hb hby at_83) rfl (XT.ii_ne_f c54) ?_
          show Steps p.tables e below (T49.setTop (mkF m 86 #[.val (.int pa), .val (.int pb), .val (.int pc), .val (.int (6 : Int32)), .val (.ref r_LESS_THAN), .val (.int ((pb &&& (7 : Int32)) - (2 : Int32))), .unset] [])) t
          refine XS.iconst X49.here hx rfl (hb hby at_86) ?_
          show Steps p.tables e below (T49.setTop (mkF m 87 #[.val (.int pa), .val (.int pb), .val (.int pc), .val (.int (6 : Int32)), .val (.ref r_LESS_THAN), .val (.int ((pb &&& (7 : Int32)) - (2 : Int32))), .unset] [(.int (1 : Int32))])) t
          refine XS.goto X49.here hx rfl (pc0 := 87) (pc' := 91) rfl (hb hby at_87) (by decide) (by decide) ?_
          show Steps p.tables e below (T49.setTop (mkF m 91 #[.val (.int pa), .val (.int pb), .val (.int pc), .val (.int (6 : Int32)), .val (.ref r_LESS_THAN), .val (.int ((pb &&& (7 : Int32)) - (2 : Int32))), .unset] [(.int (1 : Int32))])) t
          refine XS.istore X49.here hx rfl (hb hby at_91) rfl (l' := #[.val (.int pa), .val (.int pb), .val (.int pc), .val (.int (6 : Int32)), .val (.ref r_LESS_THAN), .val (.int ((pb &&& (7 : Int32)) - (2 : Int32))), .val (.int (1 : Int32))]) rfl ?_
          show Steps p.tables e below (T49.setTop (mkF m 93 #[.val (.int pa), .val (.int pb), .val (.int pc), .val (.int (6 : Int32)), .val (.ref r_LESS_THAN), .val (.int ((pb &&& (7 : Int32)) - (2 : Int32))), .val (.int (1 : Int32))] [])) t
          refine XS.aload X49.here hx rfl (hb hby at_93) rfl rfl ?_
          show Steps p.tables e below (T49.setTop (mkF m 95 #[.val (.int pa), .val (.int pb), .val (.int pc), .val (.int (6 : Int32)), .val (.ref r_LESS_THAN), .val (.int ((pb &&& (7 : Int32)) - (2 : Int32))), .val (.int (1 : Int32))] [(.ref r_LESS_THAN)])) t
          refine XS.iload X49.here hx rfl (hb hby at_95) rfl ?_
          exact kt
        obtain ⟨v55, T55, L55, X55, q55, st55⟩ := callVirtual X49 hx hZ (y := (⟨"com/example/thistle/thistle/language/Operator", "admits", "(I)Z"⟩ : MethodName)) (z := (⟨"com/example/thistle/thistle/language/Operator", "admits", "(I)Z"⟩ : MethodName)) (W := 0) hown (wdOf hw 8 rfl) (wdOf hw 9 rfl) (notFace_of_selects (args := #[]) (mvT hZ (wdOf hw 11 rfl))) (wdOf hw 11 rfl) (wdOf hw 10 rfl) (wdOf hw 6 rfl) (wdOf hw 12 rfl) (by decide) (rm_adm l Z a0 hw [] r_LESS_THAN ((pb &&& (7 : Int32)) - (2 : Int32)) (2 : Int32) (2 : Int32) (1 : Int32) h0 n0 Z0 F_fewestArguments_LESS_THAN F_mostArguments_LESS_THAN ((if_neg (own_eq c54)).symm)) (by decide) (by decide) (by decide) (by decide) K49 E_LESS_THAN (g := (mkF m 97 #[.val (.int pa), .val (.int pb), .val (.int pc), .val (.int (6 : Int32)), .val (.ref r_LESS_THAN), .val (.int ((pb &&& (7 : Int32)) - (2 : Int32))), .val (.int (1 : Int32))] [(.int ((pb &&& (7 : Int32)) - (2 : Int32))), (.ref r_LESS_THAN)])) rfl (by rw [hml]; rfl) (argsL := [(.int ((pb &&& (7 : Int32)) - (2 : Int32)))]) (rest := []) (lenOf pd_1 rfl) rfl rfl (Nat.le_refl _) (hb hby at_97)
        obtain ⟨rfl, n55, K55⟩ := q55
        have N55 := Fr.app N49 n55
        refine Goes.go (U' := (T55.setTop (mkF m 100 #[.val (.int pa), .val (.int pb), .val (.int pc), .val (.int (6 : Int32)), .val (.ref r_LESS_THAN), .val (.int ((pb &&& (7 : Int32)) - (2 : Int32))), .val (.int (1 : Int32))] [(.int (1 : Int32))]))) st55 ?_
        refine Goes.go (U' := (T55.setTop (mkF m 110 #[.val (.int pa), .val (.int pb), .val (.int pc), .val (.int (6 : Int32)), .val (.ref r_LESS_THAN), .val (.int ((pb &&& (7 : Int32)) - (2 : Int32))), .val (.int (1 : Int32))] [(.int (1 : Int32))]))) (fun t kt => ?_) ?_
        · show Steps p.tables e below (T55.setTop (mkF m 100 #[.val (.int pa), .val (.int pb), .val (.int pc), .val (.int (6 : Int32)), .val (.ref r_LESS_THAN), .val (.int ((pb &&& (7 : Int32)) - (2 : Int32))), .val (.int (1 : Int32))] [(.int (1 : Int32))])) t
          refine XS.iload X55.here hx rfl (hb hby at_100) rfl ?_
          show Steps p.tables e below (T55.setTop (mkF m 102 #[.val (.int pa), .val (.int pb), .val (.int pc), .val (.int (6 : Int32)), .val (.ref r_LESS_THAN), .val (.int ((pb &&& (7 : Int32)) - (2 : Int32))), .val (.int (1 : Int32))] [(.int (1 : Int32)), (.int (1 : Int32))])) t
          refine XS.icmpNo X55.here hx rfl (hb hby at_102) rfl (XT.ii_ne_f (by decide)) ?_
          show Steps p.tables e below (T55.setTop (mkF m 105 #[.val (.int pa), .val (.int pb), .val (.int pc), .val (.int (6 : Int32)), .val (.ref r_LESS_THAN), .val (.int ((pb &&& (7 : Int32)) - (2 : Int32))), .val (.int (1 : Int32))] [])) t
          refine XS.iconst X55.here hx rfl (hb hby at_105) ?_
          show Steps p.tables e below (T55.setTop (mkF m 106 #[.val (.int pa), .val (.int pb), .val (.int pc), .val (.int (6 : Int32)), .val (.ref r_LESS_THAN), .val (.int ((pb &&& (7 : Int32)) - (2 : Int32))), .val (.int (1 : Int32))] [(.int (1 : Int32))])) t
          refine XS.goto X55.here hx rfl (pc0 := 106) (pc' := 110) rfl (hb hby at_106) (by decide) (by decide) ?_
          exact kt
        refine Goes.retB X55 hx hlk hret (hb hby at_110) (by decide) (by decide) ?_
        try rw [K55]
        exact ⟨rfl, N55⟩
      · -- not ((pb &&& (7 : Int32)) - (2 : Int32)) = (2 : Int32)
        refine Goes.go (U' := (T49.setTop (mkF m 97 #[.val (.int pa), .val (.int pb), .val (.int pc), .val (.int (6 : Int32)), .val (.ref r_LESS_THAN), .val (.int ((pb &&& (7 : Int32)) - (2 : Int32))), .val (.int (0 : Int32))] [(.int ((pb &&& (7 : Int32)) - (2 : Int32))), (.ref r_LESS_THAN)]))) (fun t kt => ?_) ?_
        · show Steps p.tables e below (T49.setTop (mkF m 83 #[.val (.int pa), .val (.int pb), .val (.int pc), .val (.int (6 : Int32)), .val (.ref r_LESS_THAN), .val (.int ((pb &&& (7 : Int32)) - (2 : Int32))), .unset] [(.int (2 : Int32)), (.int ((pb &&& (7 : Int32)) - (2 : Int32)))])) t
          refine XS.icmpYes X49.here hx rfl (pc0 := 83) (pc' := 90) rfl (hb hby at_83) rfl (XT.ii_ne_t c54) (by decide) (by decide) ?_
          show Steps p.tables e below (T49.setTop (mkF m 90 #[.val (.int pa), .val (.int pb), .val (.int pc), .val (.int (6 : Int32)), .val (.ref r_LESS_THAN), .val (.int ((pb &&& (7 : Int32)) - (2 : Int32))), .unset] [])) t
          refine XS.iconst X49.here hx rfl (hb hby at_90) ?_
          show Steps p.tables e below (T49.setTop (mkF m 91 #[.val (.int pa), .val (.int pb), .val (.int pc), .val (.int (6 : Int32)), .val (.ref r_LESS_THAN), .val (.int ((pb &&& (7 : Int32)) - (2 : Int32))), .unset] [(.int (0 : Int32))])) t
          refine XS.istore X49.here hx rfl (hb hby at_91) rfl (l' := #[.val (.int pa), .val (.int pb), .val (.int pc), .val (.int (6 : Int32)), .val (.ref r_LESS_THAN), .val (.int ((pb &&& (7 : Int32)) - (2 : Int32))), .val (.int (0 : Int32))]) rfl ?_
          show Steps p.tables e below (T49.setTop (mkF m 93 #[.val (.int pa), .val (.int pb), .val (.int pc), .val (.int (6 : Int32)), .val (.ref r_LESS_THAN), .val (.int ((pb &&& (7 : Int32)) - (2 : Int32))), .val (.int (0 : Int32))] [])) t
          refine XS.aload X49.here hx rfl (hb hby at_93) rfl rfl ?_
          show Steps p.tables e below (T49.setTop (mkF m 95 #[.val (.int pa), .val (.int pb), .val (.int pc), .val (.int (6 : Int32)), .val (.ref r_LESS_THAN), .val (.int ((pb &&& (7 : Int32)) - (2 : Int32))), .val (.int (0 : Int32))] [(.ref r_LESS_THAN)])) t
          refine XS.iload X49.here hx rfl (hb hby at_95) rfl ?_
          exact kt
        obtain ⟨v56, T56, L56, X56, q56, st56⟩ := callVirtual X49 hx hZ (y := (⟨"com/example/thistle/thistle/language/Operator", "admits", "(I)Z"⟩ : MethodName)) (z := (⟨"com/example/thistle/thistle/language/Operator", "admits", "(I)Z"⟩ : MethodName)) (W := 0) hown (wdOf hw 8 rfl) (wdOf hw 9 rfl) (notFace_of_selects (args := #[]) (mvT hZ (wdOf hw 11 rfl))) (wdOf hw 11 rfl) (wdOf hw 10 rfl) (wdOf hw 6 rfl) (wdOf hw 12 rfl) (by decide) (rm_adm l Z a0 hw [] r_LESS_THAN ((pb &&& (7 : Int32)) - (2 : Int32)) (2 : Int32) (2 : Int32) (0 : Int32) h0 n0 Z0 F_fewestArguments_LESS_THAN F_mostArguments_LESS_THAN ((if_pos (own_ne c54)).symm)) (by decide) (by decide) (by decide) (by decide) K49 E_LESS_THAN (g := (mkF m 97 #[.val (.int pa), .val (.int pb), .val (.int pc), .val (.int (6 : Int32)), .val (.ref r_LESS_THAN), .val (.int ((pb &&& (7 : Int32)) - (2 : Int32))), .val (.int (0 : Int32))] [(.int ((pb &&& (7 : Int32)) - (2 : Int32))), (.ref r_LESS_THAN)])) rfl (by rw [hml]; rfl) (argsL := [(.int ((pb &&& (7 : Int32)) - (2 : Int32)))]) (rest := []) (lenOf pd_1 rfl) rfl rfl (Nat.le_refl _) (hb hby at_97)
        obtain ⟨rfl, n56, K56⟩ := q56
        have N56 := Fr.app N49 n56
        refine Goes.go (U' := (T56.setTop (mkF m 100 #[.val (.int pa), .val (.int pb), .val (.int pc), .val (.int (6 : Int32)), .val (.ref r_LESS_THAN), .val (.int ((pb &&& (7 : Int32)) - (2 : Int32))), .val (.int (0 : Int32))] [(.int (0 : Int32))]))) st56 ?_
        refine Goes.go (U' := (T56.setTop (mkF m 110 #[.val (.int pa), .val (.int pb), .val (.int pc), .val (.int (6 : Int32)), .val (.ref r_LESS_THAN), .val (.int ((pb &&& (7 : Int32)) - (2 : Int32))), .val (.int (0 : Int32))] [(.int (1 : Int32))]))) (fun t kt => ?_) ?_
        · show Steps p.tables e below (T56.setTop (mkF m 100 #[.val (.int pa), .val (.int pb), .val (.int pc), .val (.int (6 : Int32)), .val (.ref r_LESS_THAN), .val (.int ((pb &&& (7 : Int32)) - (2 : Int32))), .val (.int (0 : Int32))] [(.int (0 : Int32))])) t
          refine XS.iload X56.here hx rfl (hb hby at_100) rfl ?_
          show Steps p.tables e below (T56.setTop (mkF m 102 #[.val (.int pa), .val (.int pb), .val (.int pc), .val (.int (6 : Int32)), .val (.ref r_LESS_THAN), .val (.int ((pb &&& (7 : Int32)) - (2 : Int32))), .val (.int (0 : Int32))] [(.int (0 : Int32)), (.int (0 : Int32))])) t
          refine XS.icmpNo X56.here hx rfl (hb hby at_102) rfl (XT.ii_ne_f (by decide)) ?_
          show Steps p.tables e below (T56.setTop (mkF m 105 #[.val (.int pa), .val (.int pb), .val (.int pc), .val (.int (6 : Int32)), .val (.ref r_LESS_THAN), .val (.int ((pb &&& (7 : Int32)) - (2 : Int32))), .val (.int (0 : Int32))] [])) t
          refine XS.iconst X56.here hx rfl (hb hby at_105) ?_
          show Steps p.tables e below (T56.setTop (mkF m 106 #[.val (.int pa), .val (.int pb), .val (.int pc), .val (.int (6 : Int32)), .val (.ref r_LESS_THAN), .val (.int ((pb &&& (7 : Int32)) - (2 : Int32))), .val (.int (0 : Int32))] [(.int (1 : Int32))])) t
          refine XS.goto X56.here hx rfl (pc0 := 106) (pc' := 110) rfl (hb hby at_106) (by decide) (by decide) ?_
          exact kt
        refine Goes.retB X56 hx hlk hret (hb hby at_110) (by decide) (by decide) ?_
        try rw [K56]
        exact ⟨rfl, N56⟩
  · -- case 7
    rw [hk]
    refine Goes.go (U' := (s₁.setTop (mkF m 9 #[.val (.int pa), .val (.int pb), .val (.int pc), .val (.int (7 : Int32)), .unset, .unset, .unset] [(.int (7 : Int32))]))) (fun t kt => ?_) ?_
    · show Steps p.tables e below (s₁.setTop (mkF m 7 #[.val (.int pa), .val (.int pb), .val (.int pc), .unset, .unset, .unset, .unset] [(.int (7 : Int32))])) t
      refine XS.istoreN X0.here hx rfl (hb hby at_7) rfl (l' := #[.val (.int pa), .val (.int pb), .val (.int pc), .val (.int (7 : Int32)), .unset, .unset, .unset]) rfl ?_
      show Steps p.tables e below (s₁.setTop (mkF m 8 #[.val (.int pa), .val (.int pb), .val (.int pc), .val (.int (7 : Int32)), .unset, .unset, .unset] [])) t
      refine XS.iloadN X0.here hx rfl (hb hby at_8) rfl ?_
      exact kt
    obtain ⟨v57, T57, L57, X57, q57, st57⟩ := callStatic X0 hx hZ (y := (⟨"com/example/thistle/thistle/language/OperatorAdmitsPinLaw", "pick", "(I)Lcom/example/thistle/thistle/language/Operator;"⟩ : MethodName)) (W := 0) hown (wdOf hw 1 rfl) (wdOf hw 2 rfl) (wdOf hw 3 rfl) (wdOf hw 4 rfl) (by decide) (rm_pick l Z a0 hw [] (7 : Int32) r_GREATER_THAN_OR_EQUAL r_AND r_OR r_NOT r_EQUAL r_IN r_GREATER_THAN r_LESS_THAN r_GREATER_THAN_OR_EQUAL r_LESS_THAN_OR_EQUAL r_ADD r_SUBTRACT r_MULTIPLY r_DIVIDE h0 n0 Z0 S_AND S_OR S_NOT S_EQUAL S_IN S_GREATER_THAN S_LESS_THAN S_GREATER_THAN_OR_EQUAL S_LESS_THAN_OR_EQUAL S_ADD S_SUBTRACT S_MULTIPLY S_DIVIDE (by simp)) (by decide) (by decide) (by decide) (by decide) e0 (g := (mkF m 9 #[.val (.int pa), .val (.int pb), .val (.int pc), .val (.int (7 : Int32)), .unset, .unset, .unset] [(.int (7 : Int32))])) rfl (by rw [hml]; rfl) (argsL := [(.int (7 : Int32))]) (rest := []) (lenOf pd_0 rfl) rfl rfl (Nat.le_refl _) (hb hby at_9)
    obtain ⟨rfl, n57, K57⟩ := q57
    have N57 := Fr.app N0 n57
    refine Goes.go (U' := (T57.setTop (mkF m 12 #[.val (.int pa), .val (.int pb), .val (.int pc), .val (.int (7 : Int32)), .unset, .unset, .unset] [(.ref r_GREATER_THAN_OR_EQUAL)]))) st57 ?_
    refine Goes.go (U' := (T57.setTop (mkF m 17 #[.val (.int pa), .val (.int pb), .val (.int pc), .val (.int (7 : Int32)), .val (.ref r_GREATER_THAN_OR_EQUAL), .unset, .unset] [(.int (pc &&& (1 : Int32)))]))) (fun t kt => ?_) ?_
    · show Steps p.tables e below (T57.setTop (mkF m 12 #[.val (.int pa), .val (.int pb), .val (.int pc), .val (.int (7 : Int32)), .unset, .unset, .unset] [(.ref r_GREATER_THAN_OR_EQUAL)])) t
      refine XS.astore X57.here hx rfl (hb hby at_12) rfl rfl (l' := #[.val (.int pa), .val (.int pb), .val (.int pc), .val (.int (7 : Int32)), .val (.ref r_GREATER_THAN_OR_EQUAL), .unset, .unset]) rfl ?_
      show Steps p.tables e below (T57.setTop (mkF m 14 #[.val (.int pa), .val (.int pb), .val (.int pc), .val (.int (7 : Int32)), .val (.ref r_GREATER_THAN_OR_EQUAL), .unset, .unset] [])) t
      refine XS.iloadN X57.here hx rfl (hb hby at_14) rfl ?_
      show Steps p.tables e below (T57.setTop (mkF m 15 #[.val (.int pa), .val (.int pb), .val (.int pc), .val (.int (7 : Int32)), .val (.ref r_GREATER_THAN_OR_EQUAL), .unset, .unset] [(.int pc)])) t
      refine XS.iconst X57.here hx rfl (hb hby at_15) ?_
      show Steps p.tables e below (T57.setTop (mkF m 16 #[.val (.int pa), .val (.int pb), .val (.int pc), .val (.int (7 : Int32)), .val (.ref r_GREATER_THAN_OR_EQUAL), .unset, .unset] [(.int (1 : Int32)), (.int pc)])) t
      refine XS.iand X57.here hx rfl (hb hby at_16) rfl ?_
      exact kt
    by_cases c58 : (pc &&& (1 : Int32)) = 0
    · -- (pc &&& (1 : Int32)) = 0
      refine Goes.go (U' := (T57.setTop (mkF m 83 #[.val (.int pa), .val (.int pb), .val (.int pc), .val (.int (7 : Int32)), .val (.ref r_GREATER_THAN_OR_EQUAL), .val (.int pb), .unset] [(.int (2 : Int32)), (.int pb)]))) (fun t kt => ?_) ?_
      · show Steps p.tables e below (T57.setTop (mkF m 17 #[.val (.int pa), .val (.int pb), .val (.int pc), .val (.int (7 : Int32)), .val (.ref r_GREATER_THAN_OR_EQUAL), .unset, .unset] [(.int (pc &&& (1 : Int32)))])) t
        refine XS.ifYes X57.here hx rfl (pc0 := 17) (pc' := 31) rfl (hb hby at_17) rfl (XT.i0_eq_t c58) (by decide) (by decide) ?_
        show Steps p.tables e below (T57.setTop (mkF m 31 #[.val (.int pa), .val (.int pb), .val (.int pc), .val (.int (7 : Int32)), .val (.ref r_GREATER_THAN_OR_EQUAL), .unset, .unset] [])) t
        refine XS.iloadN X57.here hx rfl (hb hby at_31) rfl ?_
        show Steps p.tables e below (T57.setTop (mkF m 32 #[.val (.int pa), .val (.int pb), .val (.int pc), .val (.int (7 : Int32)), .val (.ref r_GREATER_THAN_OR_EQUAL), .unset, .unset] [(.int pb)])) t
        refine XS.istore X57.here hx rfl (hb hby at_32) rfl (l' := #[.val (.int pa), .val (.int pb), .val (.int pc), .val (.int (7 : Int32)), .val (.ref r_GREATER_THAN_OR_EQUAL), .val (.int pb), .unset]) rfl ?_
        show Steps p.tables e below (T57.setTop (mkF m 34 #[.val (.int pa), .val (.int pb), .val (.int pc), .val (.int (7 : Int32)), .val (.ref r_GREATER_THAN_OR_EQUAL), .val (.int pb), .unset] [])) t
        refine XS.iloadN X57.here hx rfl (hb hby at_34) rfl ?_
        show Steps p.tables e below (T57.setTop (mkF m 35 #[.val (.int pa), .val (.int pb), .val (.int pc), .val (.int (7 : Int32)), .val (.ref r_GREATER_THAN_OR_EQUAL), .val (.int pb), .unset] [(.int (7 : Int32))])) t
        refine XS.ifNo X57.here hx rfl (hb hby at_35) rfl (XT.i0_eq_f (by decide)) ?_
        show Steps p.tables e below (T57.setTop (mkF m 38 #[.val (.int pa), .val (.int pb), .val (.int pc), .val (.int (7 : Int32)), .val (.ref r_GREATER_THAN_OR_EQUAL), .val (.int pb), .unset] [])) t
        refine XS.iloadN X57.here hx rfl (hb hby at_38) rfl ?_
        show Steps p.tables e below (T57.setTop (mkF m 39 #[.val (.int pa), .val (.int pb), .val (.int pc), .val (.int (7 : Int32)), .val (.ref r_GREATER_THAN_OR_EQUAL), .val (.int pb), .unset] [(.int (7 : Int32))])) t
        refine XS.iconst X57.here hx rfl (hb hby at_39) ?_
        show Steps p.tables e below (T57.setTop (mkF m 40 #[.val (.int pa), .val (.int pb), .val (.int pc), .val (.int (7 : Int32)), .val (.ref r_GREATER_THAN_OR_EQUAL), .val (.int pb), .unset] [(.int (1 : Int32)), (.int (7 : Int32))])) t
        refine XS.icmpYes X57.here hx rfl (pc0 := 40) (pc' := 59) rfl (hb hby at_40) rfl (XT.ii_ne_t (by decide)) (by decide) (by decide) ?_
        show Steps p.tables e below (T57.setTop (mkF m 59 #[.val (.int pa), .val (.int pb), .val (.int pc), .val (.int (7 : Int32)), .val (.ref r_GREATER_THAN_OR_EQUAL), .val (.int pb), .unset] [])) t
        refine XS.iloadN X57.here hx rfl (hb hby at_59) rfl ?_
        show Steps p.tables e below (T57.setTop (mkF m 60 #[.val (.int pa), .val (.int pb), .val (.int pc), .val (.int (7 : Int32)), .val (.ref r_GREATER_THAN_OR_EQUAL), .val (.int pb), .unset] [(.int (7 : Int32))])) t
        refine XS.iconst X57.here hx rfl (hb hby at_60) ?_
        show Steps p.tables e below (T57.setTop (mkF m 61 #[.val (.int pa), .val (.int pb), .val (.int pc), .val (.int (7 : Int32)), .val (.ref r_GREATER_THAN_OR_EQUAL), .val (.int pb), .unset] [(.int (2 : Int32)), (.int (7 : Int32))])) t
        refine XS.icmpYes X57.here hx rfl (pc0 := 61) (pc' := 80) rfl (hb hby at_61) rfl (XT.ii_ne_t (by decide)) (by decide) (by decide) ?_
        show Steps p.tables e below (T57.setTop (mkF m 80 #[.val (.int pa), .val (.int pb), .val (.int pc), .val (.int (7 : Int32)), .val (.ref r_GREATER_THAN_OR_EQUAL), .val (.int pb), .unset] [])) t
        refine XS.iload X57.here hx rfl (hb hby at_80) rfl ?_
        show Steps p.tables e below (T57.setTop (mkF m 82 #[.val (.int pa), .val (.int pb), .val (.int pc), .val (.int (7 : Int32)), .val (.ref r_GREATER_THAN_OR_EQUAL), .val (.int pb), .unset] [(.int pb)])) t
        refine XS.iconst X57.here hx rfl (hb hby at_82) ?_
        exact kt
      by_cases c59 : pb = (2 : Int32)
      · -- pb = (2 : Int32)
        refine Goes.go (U' := (T57.setTop (mkF m 97 #[.val (.int pa), .val (.int pb), .val (.int pc), .val (.int (7 : Int32)), .val (.ref r_GREATER_THAN_OR_EQUAL), .val (.int pb), .val (.int (1 : Int32))] [(.int pb), (.ref r_GREATER_THAN_OR_EQUAL)]))) (fun t kt => ?_) ?_
        · show Steps p.tables e below (T57.setTop (mkF m 83 #[.val (.int pa), .val (.int pb), .val (.int pc), .val (.int (7 : Int32)), .val (.ref r_GREATER_THAN_OR_EQUAL), .val (.int pb), .unset] [(.int (2 : Int32)), (.int pb)])) t
          refine XS.icmpNo X57.here hx rfl (hb hby at_83) rfl (XT.ii_ne_f c59) ?_
          show Steps p.tables e below (T57.setTop (mkF m 86 #[.val (.int pa), .val (.int pb), .val (.int pc), .val (.int (7 : Int32)), .val (.ref r_GREATER_THAN_OR_EQUAL), .val (.int pb), .unset] [])) t
          refine XS.iconst X57.here hx rfl (hb hby at_86) ?_
          show Steps p.tables e below (T57.setTop (mkF m 87 #[.val (.int pa), .val (.int pb), .val (.int pc), .val (.int (7 : Int32)), .val (.ref r_GREATER_THAN_OR_EQUAL), .val (.int pb), .unset] [(.int (1 : Int32))])) t
          refine XS.goto X57.here hx rfl (pc0 := 87) (pc' := 91) rfl (hb hby at_87) (by decide) (by decide) ?_
          show Steps p.tables e below (T57.setTop (mkF m 91 #[.val (.int pa), .val (.int pb), .val (.int pc), .val (.int (7 : Int32)), .val (.ref r_GREATER_THAN_OR_EQUAL), .val (.int pb), .unset] [(.int (1 : Int32))])) t
          refine XS.istore X57.here hx rfl (hb hby at_91) rfl (l' := #[.val (.int pa), .val (.int pb), .val (.int pc), .val (.int (7 : Int32)), .val (.ref r_GREATER_THAN_OR_EQUAL), .val (.int pb), .val (.int (1 : Int32))]) rfl ?_
          show Steps p.tables e below (T57.setTop (mkF m 93 #[.val (.int pa), .val (.int pb), .val (.int pc), .val (.int (7 : Int32)), .val (.ref r_GREATER_THAN_OR_EQUAL), .val (.int pb), .val (.int (1 : Int32))] [])) t
          refine XS.aload X57.here hx rfl (hb hby at_93) rfl rfl ?_
          show Steps p.tables e below (T57.setTop (mkF m 95 #[.val (.int pa), .val (.int pb), .val (.int pc), .val (.int (7 : Int32)), .val (.ref r_GREATER_THAN_OR_EQUAL), .val (.int pb), .val (.int (1 : Int32))] [(.ref r_GREATER_THAN_OR_EQUAL)])) t
          refine XS.iload X57.here hx rfl (hb hby at_95) rfl ?_
          exact kt
        obtain ⟨v60, T60, L60, X60, q60, st60⟩ := callVirtual X57 hx hZ (y := (⟨"com/example/thistle/thistle/language/Operator", "admits", "(I)Z"⟩ : MethodName)) (z := (⟨"com/example/thistle/thistle/language/Operator", "admits", "(I)Z"⟩ : MethodName)) (W := 0) hown (wdOf hw 8 rfl) (wdOf hw 9 rfl) (notFace_of_selects (args := #[]) (mvT hZ (wdOf hw 11 rfl))) (wdOf hw 11 rfl) (wdOf hw 10 rfl) (wdOf hw 6 rfl) (wdOf hw 12 rfl) (by decide) (rm_adm l Z a0 hw [] r_GREATER_THAN_OR_EQUAL pb (2 : Int32) (2 : Int32) (1 : Int32) h0 n0 Z0 F_fewestArguments_GREATER_THAN_OR_EQUAL F_mostArguments_GREATER_THAN_OR_EQUAL ((if_neg (own_eq c59)).symm)) (by decide) (by decide) (by decide) (by decide) K57 E_GREATER_THAN_OR_EQUAL (g := (mkF m 97 #[.val (.int pa), .val (.int pb), .val (.int pc), .val (.int (7 : Int32)), .val (.ref r_GREATER_THAN_OR_EQUAL), .val (.int pb), .val (.int (1 : Int32))] [(.int pb), (.ref r_GREATER_THAN_OR_EQUAL)])) rfl (by rw [hml]; rfl) (argsL := [(.int pb)]) (rest := []) (lenOf pd_1 rfl) rfl rfl (Nat.le_refl _) (hb hby at_97)
        obtain ⟨rfl, n60, K60⟩ := q60
        have N60 := Fr.app N57 n60
        refine Goes.go (U' := (T60.setTop (mkF m 100 #[.val (.int pa), .val (.int pb), .val (.int pc), .val (.int (7 : Int32)), .val (.ref r_GREATER_THAN_OR_EQUAL), .val (.int pb), .val (.int (1 : Int32))] [(.int (1 : Int32))]))) st60 ?_
        refine Goes.go (U' := (T60.setTop (mkF m 110 #[.val (.int pa), .val (.int pb), .val (.int pc), .val (.int (7 : Int32)), .val (.ref r_GREATER_THAN_OR_EQUAL), .val (.int pb), .val (.int (1 : Int32))] [(.int (1 : Int32))]))) (fun t kt => ?_) ?_
        · show Steps p.tables e below (T60.setTop (mkF m 100 #[.val (.int pa), .val (.int pb), .val (.int pc), .val (.int (7 : Int32)), .val (.ref r_GREATER_THAN_OR_EQUAL), .val (.int pb), .val (.int (1 : Int32))] [(.int (1 : Int32))])) t
          refine XS.iload X60.here hx rfl (hb hby at_100) rfl ?_
          show Steps p.tables e below (T60.setTop (mkF m 102 #[.val (.int pa), .val (.int pb), .val (.int pc), .val (.int (7 : Int32)), .val (.ref r_GREATER_THAN_OR_EQUAL), .val (.int pb), .val (.int (1 : Int32))] [(.int (1 : Int32)), (.int (1 : Int32))])) t
          refine XS.icmpNo X60.here hx rfl (hb hby at_102) rfl (XT.ii_ne_f (by decide)) ?_
          show Steps p.tables e below (T60.setTop (mkF m 105 #[.val (.int pa), .val (.int pb), .val (.int pc), .val (.int (7 : Int32)), .val (.ref r_GREATER_THAN_OR_EQUAL), .val (.int pb), .val (.int (1 : Int32))] [])) t
          refine XS.iconst X60.here hx rfl (hb hby at_105) ?_
          show Steps p.tables e below (T60.setTop (mkF m 106 #[.val (.int pa), .val (.int pb), .val (.int pc), .val (.int (7 : Int32)), .val (.ref r_GREATER_THAN_OR_EQUAL), .val (.int pb), .val (.int (1 : Int32))] [(.int (1 : Int32))])) t
          refine XS.goto X60.here hx rfl (pc0 := 106) (pc' := 110) rfl (hb hby at_106) (by decide) (by decide) ?_
          exact kt
        refine Goes.retB X60 hx hlk hret (hb hby at_110) (by decide) (by decide) ?_
        try rw [K60]
        exact ⟨rfl, N60⟩
      · -- not pb = (2 : Int32)
        refine Goes.go (U' := (T57.setTop (mkF m 97 #[.val (.int pa), .val (.int pb), .val (.int pc), .val (.int (7 : Int32)), .val (.ref r_GREATER_THAN_OR_EQUAL), .val (.int pb), .val (.int (0 : Int32))] [(.int pb), (.ref r_GREATER_THAN_OR_EQUAL)]))) (fun t kt => ?_) ?_
        · show Steps p.tables e below (T57.setTop (mkF m 83 #[.val (.int pa), .val (.int pb), .val (.int pc), .val (.int (7 : Int32)), .val (.ref r_GREATER_THAN_OR_EQUAL), .val (.int pb), .unset] [(.int (2 : Int32)), (.int pb)])) t
          refine XS.icmpYes X57.here hx rfl (pc0 := 83) (pc' := 90) rfl (hb hby at_83) rfl (XT.ii_ne_t c59) (by decide) (by decide) ?_
          show Steps p.tables e below (T57.setTop (mkF m 90 #[.val (.int pa), .val (.int pb), .val (.int pc), .val (.int (7 : Int32)), .val (.ref r_GREATER_THAN_OR_EQUAL), .val (.int pb), .unset] [])) t
          refine XS.iconst X57.here hx rfl (hb hby at_90) ?_
          show Steps p.tables e below (T57.setTop (mkF m 91 #[.val (.int pa), .val (.int pb), .val (.int pc), .val (.int (7 : Int32)), .val (.ref r_GREATER_THAN_OR_EQUAL), .val (.int pb), .unset] [(.int (0 : Int32))])) t
          refine XS.istore X57.here hx rfl (hb hby at_91) rfl (l' := #[.val (.int pa), .val (.int pb), .val (.int pc), .val (.int (7 : Int32)), .val (.ref r_GREATER_THAN_OR_EQUAL), .val (.int pb), .val (.int (0 : Int32))]) rfl ?_
          show Steps p.tables e below (T57.setTop (mkF m 93 #[.val (.int pa), .val (.int pb), .val (.int pc), .val (.int (7 : Int32)), .val (.ref r_GREATER_THAN_OR_EQUAL), .val (.int pb), .val (.int (0 : Int32))] [])) t
          refine XS.aload X57.here hx rfl (hb hby at_93) rfl rfl ?_
          show Steps p.tables e below (T57.setTop (mkF m 95 #[.val (.int pa), .val (.int pb), .val (.int pc), .val (.int (7 : Int32)), .val (.ref r_GREATER_THAN_OR_EQUAL), .val (.int pb), .val (.int (0 : Int32))] [(.ref r_GREATER_THAN_OR_EQUAL)])) t
          refine XS.iload X57.here hx rfl (hb hby at_95) rfl ?_
          exact kt
        obtain ⟨v61, T61, L61, X61, q61, st61⟩ := callVirtual X57 hx hZ (y := (⟨"com/example/thistle/thistle/language/Operator", "admits", "(I)Z"⟩ : MethodName)) (z := (⟨"com/example/thistle/thistle/language/Operator", "admits", "(I)Z"⟩ : MethodName)) (W := 0) hown (wdOf hw 8 rfl) (wdOf hw 9 rfl) (notFace_of_selects (args := #[]) (mvT hZ (wdOf hw 11 rfl))) (wdOf hw 11 rfl) (wdOf hw 10 rfl) (wdOf hw 6 rfl) (wdOf hw 12 rfl) (by decide) (rm_adm l Z a0 hw [] r_GREATER_THAN_OR_EQUAL pb (2 : Int32) (2 : Int32) (0 : Int32) h0 n0 Z0 F_fewestArguments_GREATER_THAN_OR_EQUAL F_mostArguments_GREATER_THAN_OR_EQUAL ((if_pos (own_ne c59)).symm)) (by decide) (by decide) (by decide) (by decide) K57 E_GREATER_THAN_OR_EQUAL (g := (mkF m 97 #[.val (.int pa), .val (.int pb), .val (.int pc), .val (.int (7 : Int32)), .val (.ref r_GREATER_THAN_OR_EQUAL), .val (.int pb), .val (.int (0 : Int32))] [(.int pb), (.ref r_GREATER_THAN_OR_EQUAL)])) rfl (by rw [hml]; rfl) (argsL := [(.int pb)]) (rest := []) (lenOf pd_1 rfl) rfl rfl (Nat.le_refl _) (hb hby at_97)
        obtain ⟨rfl, n61, K61⟩ := q61
        have N61 := Fr.app N57 n61
        refine Goes.go (U' := (T61.setTop (mkF m 100 #[.val (.int pa), .val (.int pb), .val (.int pc), .val (.int (7 : Int32)), .val (.ref r_GREATER_THAN_OR_EQUAL), .val (.int pb), .val (.int (0 : Int32))] [(.int (0 : Int32))]))) st61 ?_
        refine Goes.go (U' := (T61.setTop (mkF m 110 #[.val (.int pa), .val (.int pb), .val (.int pc), .val (.int (7 : Int32)), .val (.ref r_GREATER_THAN_OR_EQUAL), .val (.int pb), .val (.int (0 : Int32))] [(.int (1 : Int32))]))) (fun t kt => ?_) ?_
        · show Steps p.tables e below (T61.setTop (mkF m 100 #[.val (.int pa), .val (.int pb), .val (.int pc), .val (.int (7 : Int32)), .val (.ref r_GREATER_THAN_OR_EQUAL), .val (.int pb), .val (.int (0 : Int32))] [(.int (0 : Int32))])) t
          refine XS.iload X61.here hx rfl (hb hby at_100) rfl ?_
          show Steps p.tables e below (T61.setTop (mkF m 102 #[.val (.int pa), .val (.int pb), .val (.int pc), .val (.int (7 : Int32)), .val (.ref r_GREATER_THAN_OR_EQUAL), .val (.int pb), .val (.int (0 : Int32))] [(.int (0 : Int32)), (.int (0 : Int32))])) t
          refine XS.icmpNo X61.here hx rfl (hb hby at_102) rfl (XT.ii_ne_f (by decide)) ?_
          show Steps p.tables e below (T61.setTop (mkF m 105 #[.val (.int pa), .val (.int pb), .val (.int pc), .val (.int (7 : Int32)), .val (.ref r_GREATER_THAN_OR_EQUAL), .val (.int pb), .val (.int (0 : Int32))] [])) t
          refine XS.iconst X61.here hx rfl (hb hby at_105) ?_
          show Steps p.tables e below (T61.setTop (mkF m 106 #[.val (.int pa), .val (.int pb), .val (.int pc), .val (.int (7 : Int32)), .val (.ref r_GREATER_THAN_OR_EQUAL), .val (.int pb), .val (.int (0 : Int32))] [(.int (1 : Int32))])) t
          refine XS.goto X61.here hx rfl (pc0 := 106) (pc' := 110) rfl (hb hby at_106) (by decide) (by decide) ?_
          exact kt
        refine Goes.retB X61 hx hlk hret (hb hby at_110) (by decide) (by decide) ?_
        try rw [K61]
        exact ⟨rfl, N61⟩
    · -- not (pc &&& (1 : Int32)) = 0
      refine Goes.go (U' := (T57.setTop (mkF m 83 #[.val (.int pa), .val (.int pb), .val (.int pc), .val (.int (7 : Int32)), .val (.ref r_GREATER_THAN_OR_EQUAL), .val (.int ((pb &&& (7 : Int32)) - (2 : Int32))), .unset] [(.int (2 : Int32)), (.int ((pb &&& (7 : Int32)) - (2 : Int32)))]))) (fun t kt => ?_) ?_
      · show Steps p.tables e below (T57.setTop (mkF m 17 #[.val (.int pa), .val (.int pb), .val (.int pc), .val (.int (7 : Int32)), .val (.ref r_GREATER_THAN_OR_EQUAL), .unset, .unset] [(.int (pc &&& (1 : Int32)))])) t
        refine XS.ifNo X57.here hx rfl (hb hby at_17) rfl (XT.i0_eq_f c58) ?_
        show Steps p.tables e below (T57.setTop (mkF m 20 #[.val (.int pa), .val (.int pb), .val (.int pc), .val (.int (7 : Int32)), .val (.ref r_GREATER_THAN_OR_EQUAL), .unset, .unset] [])) t
        refine XS.iloadN X57.here hx rfl (hb hby at_20) rfl ?_
        show Steps p.tables e below (T57.setTop (mkF m 21 #[.val (.int pa), .val (.int pb), .val (.int pc), .val (.int (7 : Int32)), .val (.ref r_GREATER_THAN_OR_EQUAL), .unset, .unset] [(.int pb)])) t
        refine XS.bipush X57.here hx rfl (hb hby at_21) ?_
        show Steps p.tables e below (T57.setTop (mkF m 23 #[.val (.int pa), .val (.int pb), .val (.int pc), .val (.int (7 : Int32)), .val (.ref r_GREATER_THAN_OR_EQUAL), .unset, .unset] [(.int (7 : Int32)), (.int pb)])) t
        refine XS.iand X57.here hx rfl (hb hby at_23) rfl ?_
        show Steps p.tables e below (T57.setTop (mkF m 24 #[.val (.int pa), .val (.int pb), .val (.int pc), .val (.int (7 : Int32)), .val (.ref r_GREATER_THAN_OR_EQUAL), .unset, .unset] [(.int (pb &&& (7 : Int32)))])) t
        refine XS.iconst X57.here hx rfl (hb hby at_24) ?_
        show Steps p.tables e below (T57.setTop (mkF m 25 #[.val (.int pa), .val (.int pb), .val (.int pc), .val (.int (7 : Int32)), .val (.ref r_GREATER_THAN_OR_EQUAL), .unset, .unset] [(.int (2 : Int32)), (.int (pb &&& (7 : Int32)))])) t
        refine XS.isub X57.here hx rfl (hb hby at_25) rfl ?_
        show Steps p.tables e below (T57.setTop (mkF m 26 #[.val (.int pa), .val (.int pb), .val (.int pc), .val (.int (7 : Int32)), .val (.ref r_GREATER_THAN_OR_EQUAL), .unset, .unset] [(.int ((pb &&& (7 : Int32)) - (2 : Int32)))])) t
        refine XS.istore X57.here hx rfl (hb hby at_26) rfl (l' := #[.val (.int pa), .val (.int pb), .val (.int pc), .val (.int (7 : Int32)), .val (.ref r_GREATER_THAN_OR_EQUAL), .val (.int ((pb &&& (7 : Int32)) - (2 : Int32))), .unset]) rfl ?_
        show Steps p.tables e below (T57.setTop (mkF m 28 #[.val (.int pa), .val (.int pb), .val (.int pc), .val (.int (7 : Int32)), .val (.ref r_GREATER_THAN_OR_EQUAL), .val (.int ((pb &&& (7 : Int32)) - (2 : Int32))), .unset] [])) t
        refine XS.goto X57.here hx rfl (pc0 := 28) (pc' := 34) rfl (hb hby at_28) (by decide) (by decide) ?_
        show Steps p.tables e below (T57.setTop (mkF m 34 #[.val (.int pa), .val (.int pb), .val (.int pc), .val (.int (7 : Int32)), .val (.ref r_GREATER_THAN_OR_EQUAL), .val (.int ((pb &&& (7 : Int32)) - (2 : Int32))), .unset] [])) t
        refine XS.iloadN X57.here hx rfl (hb hby at_34) rfl ?_
        show Steps p.tables e below (T57.setTop (mkF m 35 #[.val (.int pa), .val (.int pb), .val (.int pc), .val (.int (7 : Int32)), .val (.ref r_GREATER_THAN_OR_EQUAL), .val (.int ((pb &&& (7 : Int32)) - (2 : Int32))), .unset] [(.int (7 : Int32))])) t
        refine XS.ifNo X57.here hx rfl (hb hby at_35) rfl (XT.i0_eq_f (by decide)) ?_
        show Steps p.tables e below (T57.setTop (mkF m 38 #[.val (.int pa), .val (.int pb), .val (.int pc), .val (.int (7 : Int32)), .val (.ref r_GREATER_THAN_OR_EQUAL), .val (.int ((pb &&& (7 : Int32)) - (2 : Int32))), .unset] [])) t
        refine XS.iloadN X57.here hx rfl (hb hby at_38) rfl ?_
        show Steps p.tables e below (T57.setTop (mkF m 39 #[.val (.int pa), .val (.int pb), .val (.int pc), .val (.int (7 : Int32)), .val (.ref r_GREATER_THAN_OR_EQUAL), .val (.int ((pb &&& (7 : Int32)) - (2 : Int32))), .unset] [(.int (7 : Int32))])) t
        refine XS.iconst X57.here hx rfl (hb hby at_39) ?_
        show Steps p.tables e below (T57.setTop (mkF m 40 #[.val (.int pa), .val (.int pb), .val (.int pc), .val (.int (7 : Int32)), .val (.ref r_GREATER_THAN_OR_EQUAL), .val (.int ((pb &&& (7 : Int32)) - (2 : Int32))), .unset] [(.int (1 : Int32)), (.int (7 : Int32))])) t
        refine XS.icmpYes X57.here hx rfl (pc0 := 40) (pc' := 59) rfl (hb hby at_40) rfl (XT.ii_ne_t (by decide)) (by decide) (by decide) ?_
        show Steps p.tables e below (T57.setTop (mkF m 59 #[.val (.int pa), .val (.int pb), .val (.int pc), .val (.int (7 : Int32)), .val (.ref r_GREATER_THAN_OR_EQUAL), .val (.int ((pb &&& (7 : Int32)) - (2 : Int32))), .unset] [])) t
        refine XS.iloadN X57.here hx rfl (hb hby at_59) rfl ?_
        show Steps p.tables e below (T57.setTop (mkF m 60 #[.val (.int pa), .val (.int pb), .val (.int pc), .val (.int (7 : Int32)), .val (.ref r_GREATER_THAN_OR_EQUAL), .val (.int ((pb &&& (7 : Int32)) - (2 : Int32))), .unset] [(.int (7 : Int32))])) t
        refine XS.iconst X57.here hx rfl (hb hby at_60) ?_
        show Steps p.tables e below (T57.setTop (mkF m 61 #[.val (.int pa), .val (.int pb), .val (.int pc), .val (.int (7 : Int32)), .val (.ref r_GREATER_THAN_OR_EQUAL), .val (.int ((pb &&& (7 : Int32)) - (2 : Int32))), .unset] [(.int (2 : Int32)), (.int (7 : Int32))])) t
        refine XS.icmpYes X57.here hx rfl (pc0 := 61) (pc' := 80) rfl (hb hby at_61) rfl (XT.ii_ne_t (by decide)) (by decide) (by decide) ?_
        show Steps p.tables e below (T57.setTop (mkF m 80 #[.val (.int pa), .val (.int pb), .val (.int pc), .val (.int (7 : Int32)), .val (.ref r_GREATER_THAN_OR_EQUAL), .val (.int ((pb &&& (7 : Int32)) - (2 : Int32))), .unset] [])) t
        refine XS.iload X57.here hx rfl (hb hby at_80) rfl ?_
        show Steps p.tables e below (T57.setTop (mkF m 82 #[.val (.int pa), .val (.int pb), .val (.int pc), .val (.int (7 : Int32)), .val (.ref r_GREATER_THAN_OR_EQUAL), .val (.int ((pb &&& (7 : Int32)) - (2 : Int32))), .unset] [(.int ((pb &&& (7 : Int32)) - (2 : Int32)))])) t
        refine XS.iconst X57.here hx rfl (hb hby at_82) ?_
        exact kt
      by_cases c62 : ((pb &&& (7 : Int32)) - (2 : Int32)) = (2 : Int32)
      · -- ((pb &&& (7 : Int32)) - (2 : Int32)) = (2 : Int32)
        refine Goes.go (U' := (T57.setTop (mkF m 97 #[.val (.int pa), .val (.int pb), .val (.int pc), .val (.int (7 : Int32)), .val (.ref r_GREATER_THAN_OR_EQUAL), .val (.int ((pb &&& (7 : Int32)) - (2 : Int32))), .val (.int (1 : Int32))] [(.int ((pb &&& (7 : Int32)) - (2 : Int32))), (.ref r_GREATER_THAN_OR_EQUAL)]))) (fun t kt => ?_) ?_
        · show Steps p.tables e below (T57.setTop (mkF m 83 #[.val (.int pa), .val (.int pb), .val (.int pc), .val (.int (7 : Int32)), .val (.ref r_GREATER_THAN_OR_EQUAL), .val (.int ((pb &&& (7 : Int32)) - (2 : Int32))), .unset] [(.int (2 : Int32)), (.int ((pb &&& (7 : Int32)) - (2 : Int32)))])) t
          refine XS.icmpNo X57.here hx rfl (hb hby at_83) rfl (XT.ii_ne_f c62) ?_
          show Steps p.tables e below (T57.setTop (mkF m 86 #[.val (.int pa), .val (.int pb), .val (.int pc), .val (.int (7 : Int32)), .val (.ref r_GREATER_THAN_OR_EQUAL), .val (.int ((pb &&& (7 : Int32)) - (2 : Int32))), .unset] [])) t
          refine XS.iconst X57.here hx rfl (hb hby at_86) ?_
          show Steps p.tables e below (T57.setTop (mkF m 87 #[.val (.int pa), .val (.int pb), .val (.int pc), .val (.int (7 : Int32)), .val (.ref r_GREATER_THAN_OR_EQUAL), .val (.int ((pb &&& (7 : Int32)) - (2 : Int32))), .unset] [(.int (1 : Int32))])) t
          refine XS.goto X57.here hx rfl (pc0 := 87) (pc' := 91) rfl (hb hby at_87) (by decide) (by decide) ?_
          show Steps p.tables e below (T57.setTop (mkF m 91 #[.val (.int pa), .val (.int pb), .val (.int pc), .val (.int (7 : Int32)), .val (.ref r_GREATER_THAN_OR_EQUAL), .val (.int ((pb &&& (7 : Int32)) - (2 : Int32))), .unset] [(.int (1 : Int32))])) t
          refine XS.istore X57.here hx rfl (hb hby at_91) rfl (l' := #[.val (.int pa), .val (.int pb), .val (.int pc), .val (.int (7 : Int32)), .val (.ref r_GREATER_THAN_OR_EQUAL), .val (.int ((pb &&& (7 : Int32)) - (2 : Int32))), .val (.int (1 : Int32))]) rfl ?_
          show Steps p.tables e below (T57.setTop (mkF m 93 #[.val (.int pa), .val (.int pb), .val (.int pc), .val (.int (7 : Int32)), .val (.ref r_GREATER_THAN_OR_EQUAL), .val (.int ((pb &&& (7 : Int32)) - (2 : Int32))), .val (.int (1 : Int32))] [])) t
          refine XS.aload X57.here hx rfl (hb hby at_93) rfl rfl ?_
          show Steps p.tables e below (T57.setTop (mkF m 95 #[.val (.int pa), .val (.int pb), .val (.int pc), .val (.int (7 : Int32)), .val (.ref r_GREATER_THAN_OR_EQUAL), .val (.int ((pb &&& (7 : Int32)) - (2 : Int32))), .val (.int (1 : Int32))] [(.ref r_GREATER_THAN_OR_EQUAL)])) t
          refine XS.iload X57.here hx rfl (hb hby at_95) rfl ?_
          exact kt
        obtain ⟨v63, T63, L63, X63, q63, st63⟩ := callVirtual X57 hx hZ (y := (⟨"com/example/thistle/thistle/language/Operator", "admits", "(I)Z"⟩ : MethodName)) (z := (⟨"com/example/thistle/thistle/language/Operator", "admits", "(I)Z"⟩ : MethodName)) (W := 0) hown (wdOf hw 8 rfl) (wdOf hw 9 rfl) (notFace_of_selects (args := #[]) (mvT hZ (wdOf hw 11 rfl))) (wdOf hw 11 rfl) (wdOf hw 10 rfl) (wdOf hw 6 rfl) (wdOf hw 12 rfl) (by decide) (rm_adm l Z a0 hw [] r_GREATER_THAN_OR_EQUAL ((pb &&& (7 : Int32)) - (2 : Int32)) (2 : Int32) (2 : Int32) (1 : Int32) h0 n0 Z0 F_fewestArguments_GREATER_THAN_OR_EQUAL F_mostArguments_GREATER_THAN_OR_EQUAL ((if_neg (own_eq c62)).symm)) (by decide) (by decide) (by decide) (by decide) K57 E_GREATER_THAN_OR_EQUAL (g := (mkF m 97 #[.val (.int pa), .val (.int pb), .val (.int pc), .val (.int (7 : Int32)), .val (.ref r_GREATER_THAN_OR_EQUAL), .val (.int ((pb &&& (7 : Int32)) - (2 : Int32))), .val (.int (1 : Int32))] [(.int ((pb &&& (7 : Int32)) - (2 : Int32))), (.ref r_GREATER_THAN_OR_EQUAL)])) rfl (by rw [hml]; rfl) (argsL := [(.int ((pb &&& (7 : Int32)) - (2 : Int32)))]) (rest := []) (lenOf pd_1 rfl) rfl rfl (Nat.le_refl _) (hb hby at_97)
        obtain ⟨rfl, n63, K63⟩ := q63
        have N63 := Fr.app N57 n63
        refine Goes.go (U' := (T63.setTop (mkF m 100 #[.val (.int pa), .val (.int pb), .val (.int pc), .val (.int (7 : Int32)), .val (.ref r_GREATER_THAN_OR_EQUAL), .val (.int ((pb &&& (7 : Int32)) - (2 : Int32))), .val (.int (1 : Int32))] [(.int (1 : Int32))]))) st63 ?_
        refine Goes.go (U' := (T63.setTop (mkF m 110 #[.val (.int pa), .val (.int pb), .val (.int pc), .val (.int (7 : Int32)), .val (.ref r_GREATER_THAN_OR_EQUAL), .val (.int ((pb &&& (7 : Int32)) - (2 : Int32))), .val (.int (1 : Int32))] [(.int (1 : Int32))]))) (fun t kt => ?_) ?_
        · show Steps p.tables e below (T63.setTop (mkF m 100 #[.val (.int pa), .val (.int pb), .val (.int pc), .val (.int (7 : Int32)), .val (.ref r_GREATER_THAN_OR_EQUAL), .val (.int ((pb &&& (7 : Int32)) - (2 : Int32))), .val (.int (1 : Int32))] [(.int (1 : Int32))])) t
          refine XS.iload X63.here hx rfl (hb hby at_100) rfl ?_
          show Steps p.tables e below (T63.setTop (mkF m 102 #[.val (.int pa), .val (.int pb), .val (.int pc), .val (.int (7 : Int32)), .val (.ref r_GREATER_THAN_OR_EQUAL), .val (.int ((pb &&& (7 : Int32)) - (2 : Int32))), .val (.int (1 : Int32))] [(.int (1 : Int32)), (.int (1 : Int32))])) t
          refine XS.icmpNo X63.here hx rfl (hb hby at_102) rfl (XT.ii_ne_f (by decide)) ?_
          show Steps p.tables e below (T63.setTop (mkF m 105 #[.val (.int pa), .val (.int pb), .val (.int pc), .val (.int (7 : Int32)), .val (.ref r_GREATER_THAN_OR_EQUAL), .val (.int ((pb &&& (7 : Int32)) - (2 : Int32))), .val (.int (1 : Int32))] [])) t
          refine XS.iconst X63.here hx rfl (hb hby at_105) ?_
          show Steps p.tables e below (T63.setTop (mkF m 106 #[.val (.int pa), .val (.int pb), .val (.int pc), .val (.int (7 : Int32)), .val (.ref r_GREATER_THAN_OR_EQUAL), .val (.int ((pb &&& (7 : Int32)) - (2 : Int32))), .val (.int (1 : Int32))] [(.int (1 : Int32))])) t
          refine XS.goto X63.here hx rfl (pc0 := 106) (pc' := 110) rfl (hb hby at_106) (by decide) (by decide) ?_
          exact kt
        refine Goes.retB X63 hx hlk hret (hb hby at_110) (by decide) (by decide) ?_
        try rw [K63]
        exact ⟨rfl, N63⟩
      · -- not ((pb &&& (7 : Int32)) - (2 : Int32)) = (2 : Int32)
        refine Goes.go (U' := (T57.setTop (mkF m 97 #[.val (.int pa), .val (.int pb), .val (.int pc), .val (.int (7 : Int32)), .val (.ref r_GREATER_THAN_OR_EQUAL), .val (.int ((pb &&& (7 : Int32)) - (2 : Int32))), .val (.int (0 : Int32))] [(.int ((pb &&& (7 : Int32)) - (2 : Int32))), (.ref r_GREATER_THAN_OR_EQUAL)]))) (fun t kt => ?_) ?_
        · show Steps p.tables e below (T57.setTop (mkF m 83 #[.val (.int pa), .val (.int pb), .val (.int pc), .val (.int (7 : Int32)), .val (.ref r_GREATER_THAN_OR_EQUAL), .val (.int ((pb &&& (7 : Int32)) - (2 : Int32))), .unset] [(.int (2 : Int32)), (.int ((pb &&& (7 : Int32)) - (2 : Int32)))])) t
          refine XS.icmpYes X57.here hx rfl (pc0 := 83) (pc' := 90) rfl (hb hby at_83) rfl (XT.ii_ne_t c62) (by decide) (by decide) ?_
          show Steps p.tables e below (T57.setTop (mkF m 90 #[.val (.int pa), .val (.int pb), .val (.int pc), .val (.int (7 : Int32)), .val (.ref r_GREATER_THAN_OR_EQUAL), .val (.int ((pb &&& (7 : Int32)) - (2 : Int32))), .unset] [])) t
          refine XS.iconst X57.here hx rfl (hb hby at_90) ?_
          show Steps p.tables e below (T57.setTop (mkF m 91 #[.val (.int pa), .val (.int pb), .val (.int pc), .val (.int (7 : Int32)), .val (.ref r_GREATER_THAN_OR_EQUAL), .val (.int ((pb &&& (7 : Int32)) - (2 : Int32))), .unset] [(.int (0 : Int32))])) t
          refine XS.istore X57.here hx rfl (hb hby at_91) rfl (l' := #[.val (.int pa), .val (.int pb), .val (.int pc), .val (.int (7 : Int32)), .val (.ref r_GREATER_THAN_OR_EQUAL), .val (.int ((pb &&& (7 : Int32)) - (2 : Int32))), .val (.int (0 : Int32))]) rfl ?_
          show Steps p.tables e below (T57.setTop (mkF m 93 #[.val (.int pa), .val (.int pb), .val (.int pc), .val (.int (7 : Int32)), .val (.ref r_GREATER_THAN_OR_EQUAL), .val (.int ((pb &&& (7 : Int32)) - (2 : Int32))), .val (.int (0 : Int32))] [])) t
          refine XS.aload X57.here hx rfl (hb hby at_93) rfl rfl ?_
          show Steps p.tables e below (T57.setTop (mkF m 95 #[.val (.int pa), .val (.int pb), .val (.int pc), .val (.int (7 : Int32)), .val (.ref r_GREATER_THAN_OR_EQUAL), .val (.int ((pb &&& (7 : Int32)) - (2 : Int32))), .val (.int (0 : Int32))] [(.ref r_GREATER_THAN_OR_EQUAL)])) t
          refine XS.iload X57.here hx rfl (hb hby at_95) rfl ?_
          exact kt
        obtain ⟨v64, T64, L64, X64, q64, st64⟩ := callVirtual X57 hx hZ (y := (⟨"com/example/thistle/thistle/language/Operator", "admits", "(I)Z"⟩ : MethodName)) (z := (⟨"com/example/thistle/thistle/language/Operator", "admits", "(I)Z"⟩ : MethodName)) (W := 0) hown (wdOf hw 8 rfl) (wdOf hw 9 rfl) (notFace_of_selects (args := #[]) (mvT hZ (wdOf hw 11 rfl))) (wdOf hw 11 rfl) (wdOf hw 10 rfl) (wdOf hw 6 rfl) (wdOf hw 12 rfl) (by decide) (rm_adm l Z a0 hw [] r_GREATER_THAN_OR_EQUAL ((pb &&& (7 : Int32)) - (2 : Int32)) (2 : Int32) (2 : Int32) (0 : Int32) h0 n0 Z0 F_fewestArguments_GREATER_THAN_OR_EQUAL F_mostArguments_GREATER_THAN_OR_EQUAL ((if_pos (own_ne c62)).symm)) (by decide) (by decide) (by decide) (by decide) K57 E_GREATER_THAN_OR_EQUAL (g := (mkF m 97 #[.val (.int pa), .val (.int pb), .val (.int pc), .val (.int (7 : Int32)), .val (.ref r_GREATER_THAN_OR_EQUAL), .val (.int ((pb &&& (7 : Int32)) - (2 : Int32))), .val (.int (0 : Int32))] [(.int ((pb &&& (7 : Int32)) - (2 : Int32))), (.ref r_GREATER_THAN_OR_EQUAL)])) rfl (by rw [hml]; rfl) (argsL := [(.int ((pb &&& (7 : Int32)) - (2 : Int32)))]) (rest := []) (lenOf pd_1 rfl) rfl rfl (Nat.le_refl _) (hb hby at_97)
        obtain ⟨rfl, n64, K64⟩ := q64
        have N64 := Fr.app N57 n64
        refine Goes.go (U' := (T64.setTop (mkF m 100 #[.val (.int pa), .val (.int pb), .val (.int pc), .val (.int (7 : Int32)), .val (.ref r_GREATER_THAN_OR_EQUAL), .val (.int ((pb &&& (7 : Int32)) - (2 : Int32))), .val (.int (0 : Int32))] [(.int (0 : Int32))]))) st64 ?_
        refine Goes.go (U' := (T64.setTop (mkF m 110 #[.val (.int pa), .val (.int pb), .val (.int pc), .val (.int (7 : Int32)), .val (.ref r_GREATER_THAN_OR_EQUAL), .val (.int ((pb &&& (7 : Int32)) - (2 : Int32))), .val (.int (0 : Int32))] [(.int (1 : Int32))]))) (fun t kt => ?_) ?_
        · show Steps p.tables e below (T64.setTop (mkF m 100 #[.val (.int pa), .val (.int pb), .val (.int pc), .val (.int (7 : Int32)), .val (.ref r_GREATER_THAN_OR_EQUAL), .val (.int ((pb &&& (7 : Int32)) - (2 : Int32))), .val (.int (0 : Int32))] [(.int (0 : Int32))])) t
          refine XS.iload X64.here hx rfl (hb hby at_100) rfl ?_
          show Steps p.tables e below (T64.setTop (mkF m 102 #[.val (.int pa), .val (.int pb), .val (.int pc), .val (.int (7 : Int32)), .val (.ref r_GREATER_THAN_OR_EQUAL), .val (.int ((pb &&& (7 : Int32)) - (2 : Int32))), .val (.int (0 : Int32))] [(.int (0 : Int32)), (.int (0 : Int32))])) t
          refine XS.icmpNo X64.here hx rfl (hb hby at_102) rfl (XT.ii_ne_f (by decide)) ?_
          show Steps p.tables e below (T64.setTop (mkF m 105 #[.val (.int pa), .val (.int pb), .val (.int pc), .val (.int (7 : Int32)), .val (.ref r_GREATER_THAN_OR_EQUAL), .val (.int ((pb &&& (7 : Int32)) - (2 : Int32))), .val (.int (0 : Int32))] [])) t
          refine XS.iconst X64.here hx rfl (hb hby at_105) ?_
          show Steps p.tables e below (T64.setTop (mkF m 106 #[.val (.int pa), .val (.int pb), .val (.int pc), .val (.int (7 : Int32)), .val (.ref r_GREATER_THAN_OR_EQUAL), .val (.int ((pb &&& (7 : Int32)) - (2 : Int32))), .val (.int (0 : Int32))] [(.int (1 : Int32))])) t
          refine XS.goto X64.here hx rfl (pc0 := 106) (pc' := 110) rfl (hb hby at_106) (by decide) (by decide) ?_
          exact kt
        refine Goes.retB X64 hx hlk hret (hb hby at_110) (by decide) (by decide) ?_
        try rw [K64]
        exact ⟨rfl, N64⟩
  · -- case 8
    rw [hk]
    refine Goes.go (U' := (s₁.setTop (mkF m 9 #[.val (.int pa), .val (.int pb), .val (.int pc), .val (.int (8 : Int32)), .unset, .unset, .unset] [(.int (8 : Int32))]))) (fun t kt => ?_) ?_
    · show Steps p.tables e below (s₁.setTop (mkF m 7 #[.val (.int pa), .val (.int pb), .val (.int pc), .unset, .unset, .unset, .unset] [(.int (8 : Int32))])) t
      refine XS.istoreN X0.here hx rfl (hb hby at_7) rfl (l' := #[.val (.int pa), .val (.int pb), .val (.int pc), .val (.int (8 : Int32)), .unset, .unset, .unset]) rfl ?_
      show Steps p.tables e below (s₁.setTop (mkF m 8 #[.val (.int pa), .val (.int pb), .val (.int pc), .val (.int (8 : Int32)), .unset, .unset, .unset] [])) t
      refine XS.iloadN X0.here hx rfl (hb hby at_8) rfl ?_
      exact kt
    obtain ⟨v65, T65, L65, X65, q65, st65⟩ := callStatic X0 hx hZ (y := (⟨"com/example/thistle/thistle/language/OperatorAdmitsPinLaw", "pick", "(I)Lcom/example/thistle/thistle/language/Operator;"⟩ : MethodName)) (W := 0) hown (wdOf hw 1 rfl) (wdOf hw 2 rfl) (wdOf hw 3 rfl) (wdOf hw 4 rfl) (by decide) (rm_pick l Z a0 hw [] (8 : Int32) r_LESS_THAN_OR_EQUAL r_AND r_OR r_NOT r_EQUAL r_IN r_GREATER_THAN r_LESS_THAN r_GREATER_THAN_OR_EQUAL r_LESS_THAN_OR_EQUAL r_ADD r_SUBTRACT r_MULTIPLY r_DIVIDE h0 n0 Z0 S_AND S_OR S_NOT S_EQUAL S_IN S_GREATER_THAN S_LESS_THAN S_GREATER_THAN_OR_EQUAL S_LESS_THAN_OR_EQUAL S_ADD S_SUBTRACT S_MULTIPLY S_DIVIDE (by simp)) (by decide) (by decide) (by decide) (by decide) e0 (g := (mkF m 9 #[.val (.int pa), .val (.int pb), .val (.int pc), .val (.int (8 : Int32)), .unset, .unset, .unset] [(.int (8 : Int32))])) rfl (by rw [hml]; rfl) (argsL := [(.int (8 : Int32))]) (rest := []) (lenOf pd_0 rfl) rfl rfl (Nat.le_refl _) (hb hby at_9)
    obtain ⟨rfl, n65, K65⟩ := q65
    have N65 := Fr.app N0 n65
    refine Goes.go (U' := (T65.setTop (mkF m 12 #[.val (.int pa), .val (.int pb), .val (.int pc), .val (.int (8 : Int32)), .unset, .unset, .unset] [(.ref r_LESS_THAN_OR_EQUAL)]))) st65 ?_
    refine Goes.go (U' := (T65.setTop (mkF m 17 #[.val (.int pa), .val (.int pb), .val (.int pc), .val (.int (8 : Int32)), .val (.ref r_LESS_THAN_OR_EQUAL), .unset, .unset] [(.int (pc &&& (1 : Int32)))]))) (fun t kt => ?_) ?_
    · show Steps p.tables e below (T65.setTop (mkF m 12 #[.val (.int pa), .val (.int pb), .val (.int pc), .val (.int (8 : Int32)), .unset, .unset, .unset] [(.ref r_LESS_THAN_OR_EQUAL)])) t
      refine XS.astore X65.here hx rfl (hb hby at_12) rfl rfl (l' := #[.val (.int pa), .val (.int pb), .val (.int pc), .val (.int (8 : Int32)), .val (.ref r_LESS_THAN_OR_EQUAL), .unset, .unset]) rfl ?_
      show Steps p.tables e below (T65.setTop (mkF m 14 #[.val (.int pa), .val (.int pb), .val (.int pc), .val (.int (8 : Int32)), .val (.ref r_LESS_THAN_OR_EQUAL), .unset, .unset] [])) t
      refine XS.iloadN X65.here hx rfl (hb hby at_14) rfl ?_
      show Steps p.tables e below (T65.setTop (mkF m 15 #[.val (.int pa), .val (.int pb), .val (.int pc), .val (.int (8 : Int32)), .val (.ref r_LESS_THAN_OR_EQUAL), .unset, .unset] [(.int pc)])) t
      refine XS.iconst X65.here hx rfl (hb hby at_15) ?_
      show Steps p.tables e below (T65.setTop (mkF m 16 #[.val (.int pa), .val (.int pb), .val (.int pc), .val (.int (8 : Int32)), .val (.ref r_LESS_THAN_OR_EQUAL), .unset, .unset] [(.int (1 : Int32)), (.int pc)])) t
      refine XS.iand X65.here hx rfl (hb hby at_16) rfl ?_
      exact kt
    by_cases c66 : (pc &&& (1 : Int32)) = 0
    · -- (pc &&& (1 : Int32)) = 0
      refine Goes.go (U' := (T65.setTop (mkF m 83 #[.val (.int pa), .val (.int pb), .val (.int pc), .val (.int (8 : Int32)), .val (.ref r_LESS_THAN_OR_EQUAL), .val (.int pb), .unset] [(.int (2 : Int32)), (.int pb)]))) (fun t kt => ?_) ?_
      · show Steps p.tables e below (T65.setTop (mkF m 17 #[.val (.int pa), .val (.int pb), .val (.int pc), .val (.int (8 : Int32)), .val (.ref r_LESS_THAN_OR_EQUAL), .unset, .unset] [(.int (pc &&& (1 : Int32)))])) t
        refine XS.ifYes X65.here hx rfl (pc0 := 17) (pc' := 31) rfl (hb hby at_17) rfl (XT.i0_eq_t c66) (by decide) (by decide) ?_
        show Steps p.tables e below (T65.setTop (mkF m 31 #[.val (.int pa), .val (.int pb), .val (.int pc), .val (.int (8 : Int32)), .val (.ref r_LESS_THAN_OR_EQUAL), .unset, .unset] [])) t
        refine XS.iloadN X65.here hx rfl (hb hby at_31) rfl ?_
        show Steps p.tables e below (T65.setTop (mkF m 32 #[.val (.int pa), .val (.int pb), .val (.int pc), .val (.int (8 : Int32)), .val (.ref r_LESS_THAN_OR_EQUAL), .unset, .unset] [(.int pb)])) t
        refine XS.istore X65.here hx rfl (hb hby at_32) rfl (l' := #[.val (.int pa), .val (.int pb), .val (.int pc), .val (.int (8 : Int32)), .val (.ref r_LESS_THAN_OR_EQUAL), .val (.int pb), .unset]) rfl ?_
        show Steps p.tables e below (T65.setTop (mkF m 34 #[.val (.int pa), .val (.int pb), .val (.int pc), .val (.int (8 : Int32)), .val (.ref r_LESS_THAN_OR_EQUAL), .val (.int pb), .unset] [])) t
        refine XS.iloadN X65.here hx rfl (hb hby at_34) rfl ?_
        show Steps p.tables e below (T65.setTop (mkF m 35 #[.val (.int pa), .val (.int pb), .val (.int pc), .val (.int (8 : Int32)), .val (.ref r_LESS_THAN_OR_EQUAL), .val (.int pb), .unset] [(.int (8 : Int32))])) t
        refine XS.ifNo X65.here hx rfl (hb hby at_35) rfl (XT.i0_eq_f (by decide)) ?_
        show Steps p.tables e below (T65.setTop (mkF m 38 #[.val (.int pa), .val (.int pb), .val (.int pc), .val (.int (8 : Int32)), .val (.ref r_LESS_THAN_OR_EQUAL), .val (.int pb), .unset] [])) t
        refine XS.iloadN X65.here hx rfl (hb hby at_38) rfl ?_
        show Steps p.tables e below (T65.setTop (mkF m 39 #[.val (.int pa), .val (.int pb), .val (.int pc), .val (.int (8 : Int32)), .val (.ref r_LESS_THAN_OR_EQUAL), .val (.int pb), .unset] [(.int (8 : Int32))])) t
        refine XS.iconst X65.here hx rfl (hb hby at_39) ?_
        show Steps p.tables e below (T65.setTop (mkF m 40 #[.val (.int pa), .val (.int pb), .val (.int pc), .val (.int (8 : Int32)), .val (.ref r_LESS_THAN_OR_EQUAL), .val (.int pb), .unset] [(.int (1 : Int32)), (.int (8 : Int32))])) t
        refine XS.icmpYes X65.here hx rfl (pc0 := 40) (pc' := 59) rfl (hb hby at_40) rfl (XT.ii_ne_t (by decide)) (by decide) (by decide) ?_
        show Steps p.tables e below (T65.setTop (mkF m 59 #[.val (.int pa), .val (.int pb), .val (.int pc), .val (.int (8 : Int32)), .val (.ref r_LESS_THAN_OR_EQUAL), .val (.int pb), .unset] [])) t
        refine XS.iloadN X65.here hx rfl (hb hby at_59) rfl ?_
        show Steps p.tables e below (T65.setTop (mkF m 60 #[.val (.int pa), .val (.int pb), .val (.int pc), .val (.int (8 : Int32)), .val (.ref r_LESS_THAN_OR_EQUAL), .val (.int pb), .unset] [(.int (8 : Int32))])) t
        refine XS.iconst X65.here hx rfl (hb hby at_60) ?_
        show Steps p.tables e below (T65.setTop (mkF m 61 #[.val (.int pa), .val (.int pb), .val (.int pc), .val (.int (8 : Int32)), .val (.ref r_LESS_THAN_OR_EQUAL), .val (.int pb), .unset] [(.int (2 : Int32)), (.int (8 : Int32))])) t
        refine XS.icmpYes X65.here hx rfl (pc0 := 61) (pc' := 80) rfl (hb hby at_61) rfl (XT.ii_ne_t (by decide)) (by decide) (by decide) ?_
        show Steps p.tables e below (T65.setTop (mkF m 80 #[.val (.int pa), .val (.int pb), .val (.int pc), .val (.int (8 : Int32)), .val (.ref r_LESS_THAN_OR_EQUAL), .val (.int pb), .unset] [])) t
        refine XS.iload X65.here hx rfl (hb hby at_80) rfl ?_
        show Steps p.tables e below (T65.setTop (mkF m 82 #[.val (.int pa), .val (.int pb), .val (.int pc), .val (.int (8 : Int32)), .val (.ref r_LESS_THAN_OR_EQUAL), .val (.int pb), .unset] [(.int pb)])) t
        refine XS.iconst X65.here hx rfl (hb hby at_82) ?_
        exact kt
      by_cases c67 : pb = (2 : Int32)
      · -- pb = (2 : Int32)
        refine Goes.go (U' := (T65.setTop (mkF m 97 #[.val (.int pa), .val (.int pb), .val (.int pc), .val (.int (8 : Int32)), .val (.ref r_LESS_THAN_OR_EQUAL), .val (.int pb), .val (.int (1 : Int32))] [(.int pb), (.ref r_LESS_THAN_OR_EQUAL)]))) (fun t kt => ?_) ?_
        · show Steps p.tables e below (T65.setTop (mkF m 83 #[.val (.int pa), .val (.int pb), .val (.int pc), .val (.int (8 : Int32)), .val (.ref r_LESS_THAN_OR_EQUAL), .val (.int pb), .unset] [(.int (2 : Int32)), (.int pb)])) t
          refine XS.icmpNo X65.here hx rfl (hb hby at_83) rfl (XT.ii_ne_f c67) ?_
          show Steps p.tables e below (T65.setTop (mkF m 86 #[.val (.int pa), .val (.int pb), .val (.int pc), .val (.int (8 : Int32)), .val (.ref r_LESS_THAN_OR_EQUAL), .val (.int pb), .unset] [])) t
          refine XS.iconst X65.here hx rfl (hb hby at_86) ?_
          show Steps p.tables e below (T65.setTop (mkF m 87 #[.val (.int pa), .val (.int pb), .val (.int pc), .val (.int (8 : Int32)), .val (.ref r_LESS_THAN_OR_EQUAL), .val (.int pb), .unset] [(.int (1 : Int32))])) t
          refine XS.goto X65.here hx rfl (pc0 := 87) (pc' := 91) rfl (hb hby at_87) (by decide) (by decide) ?_
          show Steps p.tables e below (T65.setTop (mkF m 91 #[.val (.int pa), .val (.int pb), .val (.int pc), .val (.int (8 : Int32)), .val (.ref r_LESS_THAN_OR_EQUAL), .val (.int pb), .unset] [(.int (1 : Int32))])) t
          refine XS.istore X65.here hx rfl (hb hby at_91) rfl (l' := #[.val (.int pa), .val (.int pb), .val (.int pc), .val (.int (8 : Int32)), .val (.ref r_LESS_THAN_OR_EQUAL), .val (.int pb), .val (.int (1 : Int32))]) rfl ?_
          show Steps p.tables e below (T65.setTop (mkF m 93 #[.val (.int pa), .val (.int pb), .val (.int pc), .val (.int (8 : Int32)), .val (.ref r_LESS_THAN_OR_EQUAL), .val (.int pb), .val (.int (1 : Int32))] [])) t
          refine XS.aload X65.here hx rfl (hb hby at_93) rfl rfl ?_
          show Steps p.tables e below (T65.setTop (mkF m 95 #[.val (.int pa), .val (.int pb), .val (.int pc), .val (.int (8 : Int32)), .val (.ref r_LESS_THAN_OR_EQUAL), .val (.int pb), .val (.int (1 : Int32))] [(.ref r_LESS_THAN_OR_EQUAL)])) t
          refine XS.iload X65.here hx rfl (hb hby at_95) rfl ?_
          exact kt
        obtain ⟨v68, T68, L68, X68, q68, st68⟩ := callVirtual X65 hx hZ (y := (⟨"com/example/thistle/thistle/language/Operator", "admits", "(I)Z"⟩ : MethodName)) (z := (⟨"com/example/thistle/thistle/language/Operator", "admits", "(I)Z"⟩ : MethodName)) (W := 0) hown (wdOf hw 8 rfl) (wdOf hw 9 rfl) (notFace_of_selects (args := #[]) (mvT hZ (wdOf hw 11 rfl))) (wdOf hw 11 rfl) (wdOf hw 10 rfl) (wdOf hw 6 rfl) (wdOf hw 12 rfl) (by decide) (rm_adm l Z a0 hw [] r_LESS_THAN_OR_EQUAL pb (2 : Int32) (2 : Int32) (1 : Int32) h0 n0 Z0 F_fewestArguments_LESS_THAN_OR_EQUAL F_mostArguments_LESS_THAN_OR_EQUAL ((if_neg (own_eq c67)).symm)) (by decide) (by decide) (by decide) (by decide) K65 E_LESS_THAN_OR_EQUAL (g := (mkF m 97 #[.val (.int pa), .val (.int pb), .val (.int pc), .val (.int (8 : Int32)), .val (.ref r_LESS_THAN_OR_EQUAL), .val (.int pb), .val (.int (1 : Int32))] [(.int pb), (.ref r_LESS_THAN_OR_EQUAL)])) rfl (by rw [hml]; rfl) (argsL := [(.int pb)]) (rest := []) (lenOf pd_1 rfl) rfl rfl (Nat.le_refl _) (hb hby at_97)
        obtain ⟨rfl, n68, K68⟩ := q68
        have N68 := Fr.app N65 n68
        refine Goes.go (U' := (T68.setTop (mkF m 100 #[.val (.int pa), .val (.int pb), .val (.int pc), .val (.int (8 : Int32)), .val (.ref r_LESS_THAN_OR_EQUAL), .val (.int pb), .val (.int (1 : Int32))] [(.int (1 : Int32))]))) st68 ?_
        refine Goes.go (U' := (T68.setTop (mkF m 110 #[.val (.int pa), .val (.int pb), .val (.int pc), .val (.int (8 : Int32)), .val (.ref r_LESS_THAN_OR_EQUAL), .val (.int pb), .val (.int (1 : Int32))] [(.int (1 : Int32))]))) (fun t kt => ?_) ?_
        · show Steps p.tables e below (T68.setTop (mkF m 100 #[.val (.int pa), .val (.int pb), .val (.int pc), .val (.int (8 : Int32)), .val (.ref r_LESS_THAN_OR_EQUAL), .val (.int pb), .val (.int (1 : Int32))] [(.int (1 : Int32))])) t
          refine XS.iload X68.here hx rfl (hb hby at_100) rfl ?_
          show Steps p.tables e below (T68.setTop (mkF m 102 #[.val (.int pa), .val (.int pb), .val (.int pc), .val (.int (8 : Int32)), .val (.ref r_LESS_THAN_OR_EQUAL), .val (.int pb), .val (.int (1 : Int32))] [(.int (1 : Int32)), (.int (1 : Int32))])) t
          refine XS.icmpNo X68.here hx rfl (hb hby at_102) rfl (XT.ii_ne_f (by decide)) ?_
          show Steps p.tables e below (T68.setTop (mkF m 105 #[.val (.int pa), .val (.int pb), .val (.int pc), .val (.int (8 : Int32)), .val (.ref r_LESS_THAN_OR_EQUAL), .val (.int pb), .val (.int (1 : Int32))] [])) t
          refine XS.iconst X68.here hx rfl (hb hby at_105) ?_
          show Steps p.tables e below (T68.setTop (mkF m 106 #[.val (.int pa), .val (.int pb), .val (.int pc), .val (.int (8 : Int32)), .val (.ref r_LESS_THAN_OR_EQUAL), .val (.int pb), .val (.int (1 : Int32))] [(.int (1 : Int32))])) t
          refine XS.goto X68.here hx rfl (pc0 := 106) (pc' := 110) rfl (hb hby at_106) (by decide) (by decide) ?_
          exact kt
        refine Goes.retB X68 hx hlk hret (hb hby at_110) (by decide) (by decide) ?_
        try rw [K68]
        exact ⟨rfl, N68⟩
      · -- not pb = (2 : Int32)
        refine Goes.go (U' := (T65.setTop (mkF m 97 #[.val (.int pa), .val (.int pb), .val (.int pc), .val (.int (8 : Int32)), .val (.ref r_LESS_THAN_OR_EQUAL), .val (.int pb), .val (.int (0 : Int32))] [(.int pb), (.ref r_LESS_THAN_OR_EQUAL)]))) (fun t kt => ?_) ?_
        · show Steps p.tables e below (T65.setTop (mkF m 83 #[.val (.int pa), .val (.int pb), .val (.int pc), .val (.int (8 : Int32)), .val (.ref r_LESS_THAN_OR_EQUAL), .val (.int pb), .unset] [(.int (2 : Int32)), (.int pb)])) t
          refine XS.icmpYes X65.here hx rfl (pc0 := 83) (pc' := 90) rfl (hb hby at_83) rfl (XT.ii_ne_t c67) (by decide) (by decide) ?_
          show Steps p.tables e below (T65.setTop (mkF m 90 #[.val (.int pa), .val (.int pb), .val (.int pc), .val (.int (8 : Int32)), .val (.ref r_LESS_THAN_OR_EQUAL), .val (.int pb), .unset] [])) t
          refine XS.iconst X65.here hx rfl (hb hby at_90) ?_
          show Steps p.tables e below (T65.setTop (mkF m 91 #[.val (.int pa), .val (.int pb), .val (.int pc), .val (.int (8 : Int32)), .val (.ref r_LESS_THAN_OR_EQUAL), .val (.int pb), .unset] [(.int (0 : Int32))])) t
          refine XS.istore X65.here hx rfl (hb hby at_91) rfl (l' := #[.val (.int pa), .val (.int pb), .val (.int pc), .val (.int (8 : Int32)), .val (.ref r_LESS_THAN_OR_EQUAL), .val (.int pb), .val (.int (0 : Int32))]) rfl ?_
          show Steps p.tables e below (T65.setTop (mkF m 93 #[.val (.int pa), .val (.int pb), .val (.int pc), .val (.int (8 : Int32)), .val (.ref r_LESS_THAN_OR_EQUAL), .val (.int pb), .val (.int (0 : Int32))] [])) t
          refine XS.aload X65.here hx rfl (hb hby at_93) rfl rfl ?_
          show Steps p.tables e below (T65.setTop (mkF m 95 #[.val (.int pa), .val (.int pb), .val (.int pc), .val (.int (8 : Int32)), .val (.ref r_LESS_THAN_OR_EQUAL), .val (.int pb), .val (.int (0 : Int32))] [(.ref r_LESS_THAN_OR_EQUAL)])) t
          refine XS.iload X65.here hx rfl (hb hby at_95) rfl ?_
          exact kt
        obtain ⟨v69, T69, L69, X69, q69, st69⟩ := callVirtual X65 hx hZ (y := (⟨"com/example/thistle/thistle/language/Operator", "admits", "(I)Z"⟩ : MethodName)) (z := (⟨"com/example/thistle/thistle/language/Operator", "admits", "(I)Z"⟩ : MethodName)) (W := 0) hown (wdOf hw 8 rfl) (wdOf hw 9 rfl) (notFace_of_selects (args := #[]) (mvT hZ (wdOf hw 11 rfl))) (wdOf hw 11 rfl) (wdOf hw 10 rfl) (wdOf hw 6 rfl) (wdOf hw 12 rfl) (by decide) (rm_adm l Z a0 hw [] r_LESS_THAN_OR_EQUAL pb (2 : Int32) (2 : Int32) (0 : Int32) h0 n0 Z0 F_fewestArguments_LESS_THAN_OR_EQUAL F_mostArguments_LESS_THAN_OR_EQUAL ((if_pos (own_ne c67)).symm)) (by decide) (by decide) (by decide) (by decide) K65 E_LESS_THAN_OR_EQUAL (g := (mkF m 97 #[.val (.int pa), .val (.int pb), .val (.int pc), .val (.int (8 : Int32)), .val (.ref r_LESS_THAN_OR_EQUAL), .val (.int pb), .val (.int (0 : Int32))] [(.int pb), (.ref r_LESS_THAN_OR_EQUAL)])) rfl (by rw [hml]; rfl) (argsL := [(.int pb)]) (rest := []) (lenOf pd_1 rfl) rfl rfl (Nat.le_refl _) (hb hby at_97)
        obtain ⟨rfl, n69, K69⟩ := q69
        have N69 := Fr.app N65 n69
        refine Goes.go (U' := (T69.setTop (mkF m 100 #[.val (.int pa), .val (.int pb), .val (.int pc), .val (.int (8 : Int32)), .val (.ref r_LESS_THAN_OR_EQUAL), .val (.int pb), .val (.int (0 : Int32))] [(.int (0 : Int32))]))) st69 ?_
        refine Goes.go (U' := (T69.setTop (mkF m 110 #[.val (.int pa), .val (.int pb), .val (.int pc), .val (.int (8 : Int32)), .val (.ref r_LESS_THAN_OR_EQUAL), .val (.int pb), .val (.int (0 : Int32))] [(.int (1 : Int32))]))) (fun t kt => ?_) ?_
        · show Steps p.tables e below (T69.setTop (mkF m 100 #[.val (.int pa), .val (.int pb), .val (.int pc), .val (.int (8 : Int32)), .val (.ref r_LESS_THAN_OR_EQUAL), .val (.int pb), .val (.int (0 : Int32))] [(.int (0 : Int32))])) t
          refine XS.iload X69.here hx rfl (hb hby at_100) rfl ?_
          show Steps p.tables e below (T69.setTop (mkF m 102 #[.val (.int pa), .val (.int pb), .val (.int pc), .val (.int (8 : Int32)), .val (.ref r_LESS_THAN_OR_EQUAL), .val (.int pb), .val (.int (0 : Int32))] [(.int (0 : Int32)), (.int (0 : Int32))])) t
          refine XS.icmpNo X69.here hx rfl (hb hby at_102) rfl (XT.ii_ne_f (by decide)) ?_
          show Steps p.tables e below (T69.setTop (mkF m 105 #[.val (.int pa), .val (.int pb), .val (.int pc), .val (.int (8 : Int32)), .val (.ref r_LESS_THAN_OR_EQUAL), .val (.int pb), .val (.int (0 : Int32))] [])) t
          refine XS.iconst X69.here hx rfl (hb hby at_105) ?_
          show Steps p.tables e below (T69.setTop (mkF m 106 #[.val (.int pa), .val (.int pb), .val (.int pc), .val (.int (8 : Int32)), .val (.ref r_LESS_THAN_OR_EQUAL), .val (.int pb), .val (.int (0 : Int32))] [(.int (1 : Int32))])) t
          refine XS.goto X69.here hx rfl (pc0 := 106) (pc' := 110) rfl (hb hby at_106) (by decide) (by decide) ?_
          exact kt
        refine Goes.retB X69 hx hlk hret (hb hby at_110) (by decide) (by decide) ?_
        try rw [K69]
        exact ⟨rfl, N69⟩
    · -- not (pc &&& (1 : Int32)) = 0
      refine Goes.go (U' := (T65.setTop (mkF m 83 #[.val (.int pa), .val (.int pb), .val (.int pc), .val (.int (8 : Int32)), .val (.ref r_LESS_THAN_OR_EQUAL), .val (.int ((pb &&& (7 : Int32)) - (2 : Int32))), .unset] [(.int (2 : Int32)), (.int ((pb &&& (7 : Int32)) - (2 : Int32)))]))) (fun t kt => ?_) ?_
      · show Steps p.tables e below (T65.setTop (mkF m 17 #[.val (.int pa), .val (.int pb), .val (.int pc), .val (.int (8 : Int32)), .val (.ref r_LESS_THAN_OR_EQUAL), .unset, .unset] [(.int (pc &&& (1 : Int32)))])) t
        refine XS.ifNo X65.here hx rfl (hb hby at_17) rfl (XT.i0_eq_f c66) ?_
        show Steps p.tables e below (T65.setTop (mkF m 20 #[.val (.int pa), .val (.int pb), .val (.int pc), .val (.int (8 : Int32)), .val (.ref r_LESS_THAN_OR_EQUAL), .unset, .unset] [])) t
        refine XS.iloadN X65.here hx rfl (hb hby at_20) rfl ?_
        show Steps p.tables e below (T65.setTop (mkF m 21 #[.val (.int pa), .val (.int pb), .val (.int pc), .val (.int (8 : Int32)), .val (.ref r_LESS_THAN_OR_EQUAL), .unset, .unset] [(.int pb)])) t
        refine XS.bipush X65.here hx rfl (hb hby at_21) ?_
        show Steps p.tables e below (T65.setTop (mkF m 23 #[.val (.int pa), .val (.int pb), .val (.int pc), .val (.int (8 : Int32)), .val (.ref r_LESS_THAN_OR_EQUAL), .unset, .unset] [(.int (7 : Int32)), (.int pb)])) t
        refine XS.iand X65.here hx rfl (hb hby at_23) rfl ?_
        show Steps p.tables e below (T65.setTop (mkF m 24 #[.val (.int pa), .val (.int pb), .val (.int pc), .val (.int (8 : Int32)), .val (.ref r_LESS_THAN_OR_EQUAL), .unset, .unset] [(.int (pb &&& (7 : Int32)))])) t
        refine XS.iconst X65.here hx rfl (hb hby at_24) ?_
        show Steps p.tables e below (T65.setTop (mkF m 25 #[.val (.int pa), .val (.int pb), .val (.int pc), .val (.int (8 : Int32)), .val (.ref r_LESS_THAN_OR_EQUAL), .unset, .unset] [(.int (2 : Int32)), (.int (pb &&& (7 : Int32)))])) t
        refine XS.isub X65.here hx rfl (hb hby at_25) rfl ?_
        show Steps p.tables e below (T65.setTop (mkF m 26 #[.val (.int pa), .val (.int pb), .val (.int pc), .val (.int (8 : Int32)), .val (.ref r_LESS_THAN_OR_EQUAL), .unset, .unset] [(.int ((pb &&& (7 : Int32)) - (2 : Int32)))])) t
        refine XS.istore X65.here hx rfl (hb hby at_26) rfl (l' := #[.val (.int pa), .val (.int pb), .val (.int pc), .val (.int (8 : Int32)), .val (.ref r_LESS_THAN_OR_EQUAL), .val (.int ((pb &&& (7 : Int32)) - (2 : Int32))), .unset]) rfl ?_
        show Steps p.tables e below (T65.setTop (mkF m 28 #[.val (.int pa), .val (.int pb), .val (.int pc), .val (.int (8 : Int32)), .val (.ref r_LESS_THAN_OR_EQUAL), .val (.int ((pb &&& (7 : Int32)) - (2 : Int32))), .unset] [])) t
        refine XS.goto X65.here hx rfl (pc0 := 28) (pc' := 34) rfl (hb hby at_28) (by decide) (by decide) ?_
        show Steps p.tables e below (T65.setTop (mkF m 34 #[.val (.int pa), .val (.int pb), .val (.int pc), .val (.int (8 : Int32)), .val (.ref r_LESS_THAN_OR_EQUAL), .val (.int ((pb &&& (7 : Int32)) - (2 : Int32))), .unset] [])) t
        refine XS.iloadN X65.here hx rfl (hb hby at_34) rfl ?_
        show Steps p.tables e below (T65.setTop (mkF m 35 #[.val (.int pa), .val (.int pb), .val (.int pc), .val (.int (8 : Int32)), .val (.ref r_LESS_THAN_OR_EQUAL), .val (.int ((pb &&& (7 : Int32)) - (2 : Int32))), .unset] [(.int (8 : Int32))])) t
        refine XS.ifNo X65.here hx rfl (hb hby at_35) rfl (XT.i0_eq_f (by decide)) ?_
        show Steps p.tables e below (T65.setTop (mkF m 38 #[.val (.int pa), .val (.int pb), .val (.int pc), .val (.int (8 : Int32)), .val (.ref r_LESS_THAN_OR_EQUAL), .val (.int ((pb &&& (7 : Int32)) - (2 : Int32))), .unset] [])) t
        refine XS.iloadN X65.here hx rfl (hb hby at_38) rfl ?_
        show Steps p.tables e below (T65.setTop (mkF m 39 #[.val (.int pa), .val (.int pb), .val (.int pc), .val (.int (8 : Int32)), .val (.ref r_LESS_THAN_OR_EQUAL), .val (.int ((pb &&& (7 : Int32)) - (2 : Int32))), .unset] [(.int (8 : Int32))])) t
        refine XS.iconst X65.here hx rfl (hb hby at_39) ?_
        show Steps p.tables e below (T65.setTop (mkF m 40 #[.val (.int pa), .val (.int pb), .val (.int pc), .val (.int (8 : Int32)), .val (.ref r_LESS_THAN_OR_EQUAL), .val (.int ((pb &&& (7 : Int32)) - (2 : Int32))), .unset] [(.int (1 : Int32)), (.int (8 : Int32))])) t
        refine XS.icmpYes X65.here hx rfl (pc0 := 40) (pc' := 59) rfl (hb hby at_40) rfl (XT.ii_ne_t (by decide)) (by decide) (by decide) ?_
        show Steps p.tables e below (T65.setTop (mkF m 59 #[.val (.int pa), .val (.int pb), .val (.int pc), .val (.int (8 : Int32)), .val (.ref r_LESS_THAN_OR_EQUAL), .val (.int ((pb &&& (7 : Int32)) - (2 : Int32))), .unset] [])) t
        refine XS.iloadN X65.here hx rfl (hb hby at_59) rfl ?_
        show Steps p.tables e below (T65.setTop (mkF m 60 #[.val (.int pa), .val (.int pb), .val (.int pc), .val (.int (8 : Int32)), .val (.ref r_LESS_THAN_OR_EQUAL), .val (.int ((pb &&& (7 : Int32)) - (2 : Int32))), .unset] [(.int (8 : Int32))])) t
        refine XS.iconst X65.here hx rfl (hb hby at_60) ?_
        show Steps p.tables e below (T65.setTop (mkF m 61 #[.val (.int pa), .val (.int pb), .val (.int pc), .val (.int (8 : Int32)), .val (.ref r_LESS_THAN_OR_EQUAL), .val (.int ((pb &&& (7 : Int32)) - (2 : Int32))), .unset] [(.int (2 : Int32)), (.int (8 : Int32))])) t
        refine XS.icmpYes X65.here hx rfl (pc0 := 61) (pc' := 80) rfl (hb hby at_61) rfl (XT.ii_ne_t (by decide)) (by decide) (by decide) ?_
        show Steps p.tables e below (T65.setTop (mkF m 80 #[.val (.int pa), .val (.int pb), .val (.int pc), .val (.int (8 : Int32)), .val (.ref r_LESS_THAN_OR_EQUAL), .val (.int ((pb &&& (7 : Int32)) - (2 : Int32))), .unset] [])) t
        refine XS.iload X65.here hx rfl (hb hby at_80) rfl ?_
        show Steps p.tables e below (T65.setTop (mkF m 82 #[.val (.int pa), .val (.int pb), .val (.int pc), .val (.int (8 : Int32)), .val (.ref r_LESS_THAN_OR_EQUAL), .val (.int ((pb &&& (7 : Int32)) - (2 : Int32))), .unset] [(.int ((pb &&& (7 : Int32)) - (2 : Int32)))])) t
        refine XS.iconst X65.here hx rfl (hb hby at_82) ?_
        exact kt
      by_cases c70 : ((pb &&& (7 : Int32)) - (2 : Int32)) = (2 : Int32)
      · -- ((pb &&& (7 : Int32)) - (2 : Int32)) = (2 : Int32)
        refine Goes.go (U' := (T65.setTop (mkF m 97 #[.val (.int pa), .val (.int pb), .val (.int pc), .val (.int (8 : Int32)), .val (.ref r_LESS_THAN_OR_EQUAL), .val (.int ((pb &&& (7 : Int32)) - (2 : Int32))), .val (.int (1 : Int32))] [(.int ((pb &&& (7 : Int32)) - (2 : Int32))), (.ref r_LESS_THAN_OR_EQUAL)]))) (fun t kt => ?_) ?_
        · show Steps p.tables e below (T65.setTop (mkF m 83 #[.val (.int pa), .val (.int pb), .val (.int pc), .val (.int (8 : Int32)), .val (.ref r_LESS_THAN_OR_EQUAL), .val (.int ((pb &&& (7 : Int32)) - (2 : Int32))), .unset] [(.int (2 : Int32)), (.int ((pb &&& (7 : Int32)) - (2 : Int32)))])) t
          refine XS.icmpNo X65.here hx rfl (hb hby at_83) rfl (XT.ii_ne_f c70) ?_
          show Steps p.tables e below (T65.setTop (mkF m 86 #[.val (.int pa), .val (.int pb), .val (.int pc), .val (.int (8 : Int32)), .val (.ref r_LESS_THAN_OR_EQUAL), .val (.int ((pb &&& (7 : Int32)) - (2 : Int32))), .unset] [])) t
          refine XS.iconst X65.here hx rfl (hb hby at_86) ?_
          show Steps p.tables e below (T65.setTop (mkF m 87 #[.val (.int pa), .val (.int pb), .val (.int pc), .val (.int (8 : Int32)), .val (.ref r_LESS_THAN_OR_EQUAL), .val (.int ((pb &&& (7 : Int32)) - (2 : Int32))), .unset] [(.int (1 : Int32))])) t
          refine XS.goto X65.here hx rfl (pc0 := 87) (pc' := 91) rfl (hb hby at_87) (by decide) (by decide) ?_
          show Steps p.tables e below (T65.setTop (mkF m 91 #[.val (.int pa), .val (.int pb), .val (.int pc), .val (.int (8 : Int32)), .val (.ref r_LESS_THAN_OR_EQUAL), .val (.int ((pb &&& (7 : Int32)) - (2 : Int32))), .unset] [(.int (1 : Int32))])) t
          refine XS.istore X65.here hx rfl (hb hby at_91) rfl (l' := #[.val (.int pa), .val (.int pb), .val (.int pc), .val (.int (8 : Int32)), .val (.ref r_LESS_THAN_OR_EQUAL), .val (.int ((pb &&& (7 : Int32)) - (2 : Int32))), .val (.int (1 : Int32))]) rfl ?_
          show Steps p.tables e below (T65.setTop (mkF m 93 #[.val (.int pa), .val (.int pb), .val (.int pc), .val (.int (8 : Int32)), .val (.ref r_LESS_THAN_OR_EQUAL), .val (.int ((pb &&& (7 : Int32)) - (2 : Int32))), .val (.int (1 : Int32))] [])) t
          refine XS.aload X65.here hx rfl (hb hby at_93) rfl rfl ?_
          show Steps p.tables e below (T65.setTop (mkF m 95 #[.val (.int pa), .val (.int pb), .val (.int pc), .val (.int (8 : Int32)), .val (.ref r_LESS_THAN_OR_EQUAL), .val (.int ((pb &&& (7 : Int32)) - (2 : Int32))), .val (.int (1 : Int32))] [(.ref r_LESS_THAN_OR_EQUAL)])) t
          refine XS.iload X65.here hx rfl (hb hby at_95) rfl ?_
          exact kt
        obtain ⟨v71, T71, L71, X71, q71, st71⟩ := callVirtual X65 hx hZ (y := (⟨"com/example/thistle/thistle/language/Operator", "admits", "(I)Z"⟩ : MethodName)) (z := (⟨"com/example/thistle/thistle/language/Operator", "admits", "(I)Z"⟩ : MethodName)) (W := 0) hown (wdOf hw 8 rfl) (wdOf hw 9 rfl) (notFace_of_selects (args := #[]) (mvT hZ (wdOf hw 11 rfl))) (wdOf hw 11 rfl) (wdOf hw 10 rfl) (wdOf hw 6 rfl) (wdOf hw 12 rfl) (by decide) (rm_adm l Z a0 hw [] r_LESS_THAN_OR_EQUAL ((pb &&& (7 : Int32)) - (2 : Int32)) (2 : Int32) (2 : Int32) (1 : Int32) h0 n0 Z0 F_fewestArguments_LESS_THAN_OR_EQUAL F_mostArguments_LESS_THAN_OR_EQUAL ((if_neg (own_eq c70)).symm)) (by decide) (by decide) (by decide) (by decide) K65 E_LESS_THAN_OR_EQUAL (g := (mkF m 97 #[.val (.int pa), .val (.int pb), .val (.int pc), .val (.int (8 : Int32)), .val (.ref r_LESS_THAN_OR_EQUAL), .val (.int ((pb &&& (7 : Int32)) - (2 : Int32))), .val (.int (1 : Int32))] [(.int ((pb &&& (7 : Int32)) - (2 : Int32))), (.ref r_LESS_THAN_OR_EQUAL)])) rfl (by rw [hml]; rfl) (argsL := [(.int ((pb &&& (7 : Int32)) - (2 : Int32)))]) (rest := []) (lenOf pd_1 rfl) rfl rfl (Nat.le_refl _) (hb hby at_97)
        obtain ⟨rfl, n71, K71⟩ := q71
        have N71 := Fr.app N65 n71
        refine Goes.go (U' := (T71.setTop (mkF m 100 #[.val (.int pa), .val (.int pb), .val (.int pc), .val (.int (8 : Int32)), .val (.ref r_LESS_THAN_OR_EQUAL), .val (.int ((pb &&& (7 : Int32)) - (2 : Int32))), .val (.int (1 : Int32))] [(.int (1 : Int32))]))) st71 ?_
        refine Goes.go (U' := (T71.setTop (mkF m 110 #[.val (.int pa), .val (.int pb), .val (.int pc), .val (.int (8 : Int32)), .val (.ref r_LESS_THAN_OR_EQUAL), .val (.int ((pb &&& (7 : Int32)) - (2 : Int32))), .val (.int (1 : Int32))] [(.int (1 : Int32))]))) (fun t kt => ?_) ?_
        · show Steps p.tables e below (T71.setTop (mkF m 100 #[.val (.int pa), .val (.int pb), .val (.int pc), .val (.int (8 : Int32)), .val (.ref r_LESS_THAN_OR_EQUAL), .val (.int ((pb &&& (7 : Int32)) - (2 : Int32))), .val (.int (1 : Int32))] [(.int (1 : Int32))])) t
          refine XS.iload X71.here hx rfl (hb hby at_100) rfl ?_
          show Steps p.tables e below (T71.setTop (mkF m 102 #[.val (.int pa), .val (.int pb), .val (.int pc), .val (.int (8 : Int32)), .val (.ref r_LESS_THAN_OR_EQUAL), .val (.int ((pb &&& (7 : Int32)) - (2 : Int32))), .val (.int (1 : Int32))] [(.int (1 : Int32)), (.int (1 : Int32))])) t
          refine XS.icmpNo X71.here hx rfl (hb hby at_102) rfl (XT.ii_ne_f (by decide)) ?_
          show Steps p.tables e below (T71.setTop (mkF m 105 #[.val (.int pa), .val (.int pb), .val (.int pc), .val (.int (8 : Int32)), .val (.ref r_LESS_THAN_OR_EQUAL), .val (.int ((pb &&& (7 : Int32)) - (2 : Int32))), .val (.int (1 : Int32))] [])) t
          refine XS.iconst X71.here hx rfl (hb hby at_105) ?_
          show Steps p.tables e below (T71.setTop (mkF m 106 #[.val (.int pa), .val (.int pb), .val (.int pc), .val (.int (8 : Int32)), .val (.ref r_LESS_THAN_OR_EQUAL), .val (.int ((pb &&& (7 : Int32)) - (2 : Int32))), .val (.int (1 : Int32))] [(.int (1 : Int32))])) t
          refine XS.goto X71.here hx rfl (pc0 := 106) (pc' := 110) rfl (hb hby at_106) (by decide) (by decide) ?_
          exact kt
        refine Goes.retB X71 hx hlk hret (hb hby at_110) (by decide) (by decide) ?_
        try rw [K71]
        exact ⟨rfl, N71⟩
      · -- not ((pb &&& (7 : Int32)) - (2 : Int32)) = (2 : Int32)
        refine Goes.go (U' := (T65.setTop (mkF m 97 #[.val (.int pa), .val (.int pb), .val (.int pc), .val (.int (8 : Int32)), .val (.ref r_LESS_THAN_OR_EQUAL), .val (.int ((pb &&& (7 : Int32)) - (2 : Int32))), .val (.int (0 : Int32))] [(.int ((pb &&& (7 : Int32)) - (2 : Int32))), (.ref r_LESS_THAN_OR_EQUAL)]))) (fun t kt => ?_) ?_
        · show Steps p.tables e below (T65.setTop (mkF m 83 #[.val (.int pa), .val (.int pb), .val (.int pc), .val (.int (8 : Int32)), .val (.ref r_LESS_THAN_OR_EQUAL), .val (.int ((pb &&& (7 : Int32)) - (2 : Int32))), .unset] [(.int (2 : Int32)), (.int ((pb &&& (7 : Int32)) - (2 : Int32)))])) t
          refine XS.icmpYes X65.here hx rfl (pc0 := 83) (pc' := 90) rfl (hb hby at_83) rfl (XT.ii_ne_t c70) (by decide) (by decide) ?_
          show Steps p.tables e below (T65.setTop (mkF m 90 #[.val (.int pa), .val (.int pb), .val (.int pc), .val (.int (8 : Int32)), .val (.ref r_LESS_THAN_OR_EQUAL), .val (.int ((pb &&& (7 : Int32)) - (2 : Int32))), .unset] [])) t
          refine XS.iconst X65.here hx rfl (hb hby at_90) ?_
          show Steps p.tables e below (T65.setTop (mkF m 91 #[.val (.int pa), .val (.int pb), .val (.int pc), .val (.int (8 : Int32)), .val (.ref r_LESS_THAN_OR_EQUAL), .val (.int ((pb &&& (7 : Int32)) - (2 : Int32))), .unset] [(.int (0 : Int32))])) t
          refine XS.istore X65.here hx rfl (hb hby at_91) rfl (l' := #[.val (.int pa), .val (.int pb), .val (.int pc), .val (.int (8 : Int32)), .val (.ref r_LESS_THAN_OR_EQUAL), .val (.int ((pb &&& (7 : Int32)) - (2 : Int32))), .val (.int (0 : Int32))]) rfl ?_
          show Steps p.tables e below (T65.setTop (mkF m 93 #[.val (.int pa), .val (.int pb), .val (.int pc), .val (.int (8 : Int32)), .val (.ref r_LESS_THAN_OR_EQUAL), .val (.int ((pb &&& (7 : Int32)) - (2 : Int32))), .val (.int (0 : Int32))] [])) t
          refine XS.aload X65.here hx rfl (hb hby at_93) rfl rfl ?_
          show Steps p.tables e below (T65.setTop (mkF m 95 #[.val (.int pa), .val (.int pb), .val (.int pc), .val (.int (8 : Int32)), .val (.ref r_LESS_THAN_OR_EQUAL), .val (.int ((pb &&& (7 : Int32)) - (2 : Int32))), .val (.int (0 : Int32))] [(.ref r_LESS_THAN_OR_EQUAL)])) t
          refine XS.iload X65.here hx rfl (hb hby at_95) rfl ?_
          exact kt
        obtain ⟨v72, T72, L72, X72, q72, st72⟩ := callVirtual X65 hx hZ (y := (⟨"com/example/thistle/thistle/language/Operator", "admits", "(I)Z"⟩ : MethodName)) (z := (⟨"com/example/thistle/thistle/language/Operator", "admits", "(I)Z"⟩ : MethodName)) (W := 0) hown (wdOf hw 8 rfl) (wdOf hw 9 rfl) (notFace_of_selects (args := #[]) (mvT hZ (wdOf hw 11 rfl))) (wdOf hw 11 rfl) (wdOf hw 10 rfl) (wdOf hw 6 rfl) (wdOf hw 12 rfl) (by decide) (rm_adm l Z a0 hw [] r_LESS_THAN_OR_EQUAL ((pb &&& (7 : Int32)) - (2 : Int32)) (2 : Int32) (2 : Int32) (0 : Int32) h0 n0 Z0 F_fewestArguments_LESS_THAN_OR_EQUAL F_mostArguments_LESS_THAN_OR_EQUAL ((if_pos (own_ne c70)).symm)) (by decide) (by decide) (by decide) (by decide) K65 E_LESS_THAN_OR_EQUAL (g := (mkF m 97 #[.val (.int pa), .val (.int pb), .val (.int pc), .val (.int (8 : Int32)), .val (.ref r_LESS_THAN_OR_EQUAL), .val (.int ((pb &&& (7 : Int32)) - (2 : Int32))), .val (.int (0 : Int32))] [(.int ((pb &&& (7 : Int32)) - (2 : Int32))), (.ref r_LESS_THAN_OR_EQUAL)])) rfl (by rw [hml]; rfl) (argsL := [(.int ((pb &&& (7 : Int32)) - (2 : Int32)))]) (rest := []) (lenOf pd_1 rfl) rfl rfl (Nat.le_refl _) (hb hby at_97)
        obtain ⟨rfl, n72, K72⟩ := q72
        have N72 := Fr.app N65 n72
        refine Goes.go (U' := (T72.setTop (mkF m 100 #[.val (.int pa), .val (.int pb), .val (.int pc), .val (.int (8 : Int32)), .val (.ref r_LESS_THAN_OR_EQUAL), .val (.int ((pb &&& (7 : Int32)) - (2 : Int32))), .val (.int (0 : Int32))] [(.int (0 : Int32))]))) st72 ?_
        refine Goes.go (U' := (T72.setTop (mkF m 110 #[.val (.int pa), .val (.int pb), .val (.int pc), .val (.int (8 : Int32)), .val (.ref r_LESS_THAN_OR_EQUAL), .val (.int ((pb &&& (7 : Int32)) - (2 : Int32))), .val (.int (0 : Int32))] [(.int (1 : Int32))]))) (fun t kt => ?_) ?_
        · show Steps p.tables e below (T72.setTop (mkF m 100 #[.val (.int pa), .val (.int pb), .val (.int pc), .val (.int (8 : Int32)), .val (.ref r_LESS_THAN_OR_EQUAL), .val (.int ((pb &&& (7 : Int32)) - (2 : Int32))), .val (.int (0 : Int32))] [(.int (0 : Int32))])) t
          refine XS.iload X72.here hx rfl (hb hby at_100) rfl ?_
          show Steps p.tables e below (T72.setTop (mkF m 102 #[.val (.int pa), .val (.int pb), .val (.int pc), .val (.int (8 : Int32)), .val (.ref r_LESS_THAN_OR_EQUAL), .val (.int ((pb &&& (7 : Int32)) - (2 : Int32))), .val (.int (0 : Int32))] [(.int (0 : Int32)), (.int (0 : Int32))])) t
          refine XS.icmpNo X72.here hx rfl (hb hby at_102) rfl (XT.ii_ne_f (by decide)) ?_
          show Steps p.tables e below (T72.setTop (mkF m 105 #[.val (.int pa), .val (.int pb), .val (.int pc), .val (.int (8 : Int32)), .val (.ref r_LESS_THAN_OR_EQUAL), .val (.int ((pb &&& (7 : Int32)) - (2 : Int32))), .val (.int (0 : Int32))] [])) t
          refine XS.iconst X72.here hx rfl (hb hby at_105) ?_
          show Steps p.tables e below (T72.setTop (mkF m 106 #[.val (.int pa), .val (.int pb), .val (.int pc), .val (.int (8 : Int32)), .val (.ref r_LESS_THAN_OR_EQUAL), .val (.int ((pb &&& (7 : Int32)) - (2 : Int32))), .val (.int (0 : Int32))] [(.int (1 : Int32))])) t
          refine XS.goto X72.here hx rfl (pc0 := 106) (pc' := 110) rfl (hb hby at_106) (by decide) (by decide) ?_
          exact kt
        refine Goes.retB X72 hx hlk hret (hb hby at_110) (by decide) (by decide) ?_
        try rw [K72]
        exact ⟨rfl, N72⟩
  · -- case 9
    rw [hk]
    refine Goes.go (U' := (s₁.setTop (mkF m 9 #[.val (.int pa), .val (.int pb), .val (.int pc), .val (.int (9 : Int32)), .unset, .unset, .unset] [(.int (9 : Int32))]))) (fun t kt => ?_) ?_
    · show Steps p.tables e below (s₁.setTop (mkF m 7 #[.val (.int pa), .val (.int pb), .val (.int pc), .unset, .unset, .unset, .unset] [(.int (9 : Int32))])) t
      refine XS.istoreN X0.here hx rfl (hb hby at_7) rfl (l' := #[.val (.int pa), .val (.int pb), .val (.int pc), .val (.int (9 : Int32)), .unset, .unset, .unset]) rfl ?_
      show Steps p.tables e below (s₁.setTop (mkF m 8 #[.val (.int pa), .val (.int pb), .val (.int pc), .val (.int (9 : Int32)), .unset, .unset, .unset] [])) t
      refine XS.iloadN X0.here hx rfl (hb hby at_8) rfl ?_
      exact kt
    obtain ⟨v73, T73, L73, X73, q73, st73⟩ := callStatic X0 hx hZ (y := (⟨"com/example/thistle/thistle/language/OperatorAdmitsPinLaw", "pick", "(I)Lcom/example/thistle/thistle/language/Operator;"⟩ : MethodName)) (W := 0) hown (wdOf hw 1 rfl) (wdOf hw 2 rfl) (wdOf hw 3 rfl) (wdOf hw 4 rfl) (by decide) (rm_pick l Z a0 hw [] (9 : Int32) r_ADD r_AND r_OR r_NOT r_EQUAL r_IN r_GREATER_THAN r_LESS_THAN r_GREATER_THAN_OR_EQUAL r_LESS_THAN_OR_EQUAL r_ADD r_SUBTRACT r_MULTIPLY r_DIVIDE h0 n0 Z0 S_AND S_OR S_NOT S_EQUAL S_IN S_GREATER_THAN S_LESS_THAN S_GREATER_THAN_OR_EQUAL S_LESS_THAN_OR_EQUAL S_ADD S_SUBTRACT S_MULTIPLY S_DIVIDE (by simp)) (by decide) (by decide) (by decide) (by decide) e0 (g := (mkF m 9 #[.val (.int pa), .val (.int pb), .val (.int pc), .val (.int (9 : Int32)), .unset, .unset, .unset] [(.int (9 : Int32))])) rfl (by rw [hml]; rfl) (argsL := [(.int (9 : Int32))]) (rest := []) (lenOf pd_0 rfl) rfl rfl (Nat.le_refl _) (hb hby at_9)
    obtain ⟨rfl, n73, K73⟩ := q73
    have N73 := Fr.app N0 n73
    refine Goes.go (U' := (T73.setTop (mkF m 12 #[.val (.int pa), .val (.int pb), .val (.int pc), .val (.int (9 : Int32)), .unset, .unset, .unset] [(.ref r_ADD)]))) st73 ?_
    refine Goes.go (U' := (T73.setTop (mkF m 17 #[.val (.int pa), .val (.int pb), .val (.int pc), .val (.int (9 : Int32)), .val (.ref r_ADD), .unset, .unset] [(.int (pc &&& (1 : Int32)))]))) (fun t kt => ?_) ?_
    · show Steps p.tables e below (T73.setTop (mkF m 12 #[.val (.int pa), .val (.int pb), .val (.int pc), .val (.int (9 : Int32)), .unset, .unset, .unset] [(.ref r_ADD)])) t
      refine XS.astore X73.here hx rfl (hb hby at_12) rfl rfl (l' := #[.val (.int pa), .val (.int pb), .val (.int pc), .val (.int (9 : Int32)), .val (.ref r_ADD), .unset, .unset]) rfl ?_
      show Steps p.tables e below (T73.setTop (mkF m 14 #[.val (.int pa), .val (.int pb), .val (.int pc), .val (.int (9 : Int32)), .val (.ref r_ADD), .unset, .unset] [])) t
      refine XS.iloadN X73.here hx rfl (hb hby at_14) rfl ?_
      show Steps p.tables e below (T73.setTop (mkF m 15 #[.val (.int pa), .val (.int pb), .val (.int pc), .val (.int (9 : Int32)), .val (.ref r_ADD), .unset, .unset] [(.int pc)])) t
      refine XS.iconst X73.here hx rfl (hb hby at_15) ?_
      show Steps p.tables e below (T73.setTop (mkF m 16 #[.val (.int pa), .val (.int pb), .val (.int pc), .val (.int (9 : Int32)), .val (.ref r_ADD), .unset, .unset] [(.int (1 : Int32)), (.int pc)])) t
      refine XS.iand X73.here hx rfl (hb hby at_16) rfl ?_
      exact kt
    by_cases c74 : (pc &&& (1 : Int32)) = 0
    · -- (pc &&& (1 : Int32)) = 0
      refine Goes.go (U' := (T73.setTop (mkF m 83 #[.val (.int pa), .val (.int pb), .val (.int pc), .val (.int (9 : Int32)), .val (.ref r_ADD), .val (.int pb), .unset] [(.int (2 : Int32)), (.int pb)]))) (fun t kt => ?_) ?_
      · show Steps p.tables e below (T73.setTop (mkF m 17 #[.val (.int pa), .val (.int pb), .val (.int pc), .val (.int (9 : Int32)), .val (.ref r_ADD), .unset, .unset] [(.int (pc &&& (1 : Int32)))])) t
        refine XS.ifYes X73.here hx rfl (pc0 := 17) (pc' := 31) rfl (hb hby at_17) rfl (XT.i0_eq_t c74) (by decide) (by decide) ?_
        show Steps p.tables e below (T73.setTop (mkF m 31 #[.val (.int pa), .val (.int pb), .val (.int pc), .val (.int (9 : Int32)), .val (.ref r_ADD), .unset, .unset] [])) t
        refine XS.iloadN X73.here hx rfl (hb hby at_31) rfl ?_
        show Steps p.tables e below (T73.setTop (mkF m 32 #[.val (.int pa), .val (.int pb), .val (.int pc), .val (.int (9 : Int32)), .val (.ref r_ADD), .unset, .unset] [(.int pb)])) t
        refine XS.istore X73.here hx rfl (hb hby at_32) rfl (l' := #[.val (.int pa), .val (.int pb), .val (.int pc), .val (.int (9 : Int32)), .val (.ref r_ADD), .val (.int pb), .unset]) rfl ?_
        show Steps p.tables e below (T73.setTop (mkF m 34 #[.val (.int pa), .val (.int pb), .val (.int pc), .val (.int (9 : Int32)), .val (.ref r_ADD), .val (.int pb), .unset] [])) t
        refine XS.iloadN X73.here hx rfl (hb hby at_34) rfl ?_
        show Steps p.tables e below (T73.setTop (mkF m 35 #[.val (.int pa), .val (.int pb), .val (.int pc), .val (.int (9 : Int32)), .val (.ref r_ADD), .val (.int pb), .unset] [(.int (9 : Int32))])) t
        refine XS.ifNo X73.here hx rfl (hb hby at_35) rfl (XT.i0_eq_f (by decide)) ?_
        show Steps p.tables e below (T73.setTop (mkF m 38 #[.val (.int pa), .val (.int pb), .val (.int pc), .val (.int (9 : Int32)), .val (.ref r_ADD), .val (.int pb), .unset] [])) t
        refine XS.iloadN X73.here hx rfl (hb hby at_38) rfl ?_
        show Steps p.tables e below (T73.setTop (mkF m 39 #[.val (.int pa), .val (.int pb), .val (.int pc), .val (.int (9 : Int32)), .val (.ref r_ADD), .val (.int pb), .unset] [(.int (9 : Int32))])) t
        refine XS.iconst X73.here hx rfl (hb hby at_39) ?_
        show Steps p.tables e below (T73.setTop (mkF m 40 #[.val (.int pa), .val (.int pb), .val (.int pc), .val (.int (9 : Int32)), .val (.ref r_ADD), .val (.int pb), .unset] [(.int (1 : Int32)), (.int (9 : Int32))])) t
        refine XS.icmpYes X73.here hx rfl (pc0 := 40) (pc' := 59) rfl (hb hby at_40) rfl (XT.ii_ne_t (by decide)) (by decide) (by decide) ?_
        show Steps p.tables e below (T73.setTop (mkF m 59 #[.val (.int pa), .val (.int pb), .val (.int pc), .val (.int (9 : Int32)), .val (.ref r_ADD), .val (.int pb), .unset] [])) t
        refine XS.iloadN X73.here hx rfl (hb hby at_59) rfl ?_
        show Steps p.tables e below (T73.setTop (mkF m 60 #[.val (.int pa), .val (.int pb), .val (.int pc), .val (.int (9 : Int32)), .val (.ref r_ADD), .val (.int pb), .unset] [(.int (9 : Int32))])) t
        refine XS.iconst X73.here hx rfl (hb hby at_60) ?_
        show Steps p.tables e below (T73.setTop (mkF m 61 #[.val (.int pa), .val (.int pb), .val (.int pc), .val (.int (9 : Int32)), .val (.ref r_ADD), .val (.int pb), .unset] [(.int (2 : Int32)), (.int (9 : Int32))])) t
        refine XS.icmpYes X73.here hx rfl (pc0 := 61) (pc' := 80) rfl (hb hby at_61) rfl (XT.ii_ne_t (by decide)) (by decide) (by decide) ?_
        show Steps p.tables e below (T73.setTop (mkF m 80 #[.val (.int pa), .val (.int pb), .val (.int pc), .val (.int (9 : Int32)), .val (.ref r_ADD), .val (.int pb), .unset] [])) t
        refine XS.iload X73.here hx rfl (hb hby at_80) rfl ?_
        show Steps p.tables e below (T73.setTop (mkF m 82 #[.val (.int pa), .val (.int pb), .val (.int pc), .val (.int (9 : Int32)), .val (.ref r_ADD), .val (.int pb), .unset] [(.int pb)])) t
        refine XS.iconst X73.here hx rfl (hb hby at_82) ?_
        exact kt
      by_cases c75 : pb = (2 : Int32)
      · -- pb = (2 : Int32)
        refine Goes.go (U' := (T73.setTop (mkF m 97 #[.val (.int pa), .val (.int pb), .val (.int pc), .val (.int (9 : Int32)), .val (.ref r_ADD), .val (.int pb), .val (.int (1 : Int32))] [(.int pb), (.ref r_ADD)]))) (fun t kt => ?_) ?_
        · show Steps p.tables e below (T73.setTop (mkF m 83 #[.val (.int pa), .val (.int pb), .val (.int pc), .val (.int (9 : Int32)), .val (.ref r_ADD), .val (.int pb), .unset] [(.int (2 : Int32)), (.int pb)])) t
          refine XS.icmpNo X73.here hx rfl (hb hby at_83) rfl (XT.ii_ne_f c75) ?_
          show Steps p.tables e below (T73.setTop (mkF m 86 #[.val (.int pa), .val (.int pb), .val (.int pc), .val (.int (9 : Int32)), .val (.ref r_ADD), .val (.int pb), .unset] [])) t
          refine XS.iconst X73.here hx rfl (hb hby at_86) ?_
          show Steps p.tables e below (T73.setTop (mkF m 87 #[.val (.int pa), .val (.int pb), .val (.int pc), .val (.int (9 : Int32)), .val (.ref r_ADD), .val (.int pb), .unset] [(.int (1 : Int32))])) t
          refine XS.goto X73.here hx rfl (pc0 := 87) (pc' := 91) rfl (hb hby at_87) (by decide) (by decide) ?_
          show Steps p.tables e below (T73.setTop (mkF m 91 #[.val (.int pa), .val (.int pb), .val (.int pc), .val (.int (9 : Int32)), .val (.ref r_ADD), .val (.int pb), .unset] [(.int (1 : Int32))])) t
          refine XS.istore X73.here hx rfl (hb hby at_91) rfl (l' := #[.val (.int pa), .val (.int pb), .val (.int pc), .val (.int (9 : Int32)), .val (.ref r_ADD), .val (.int pb), .val (.int (1 : Int32))]) rfl ?_
          show Steps p.tables e below (T73.setTop (mkF m 93 #[.val (.int pa), .val (.int pb), .val (.int pc), .val (.int (9 : Int32)), .val (.ref r_ADD), .val (.int pb), .val (.int (1 : Int32))] [])) t
          refine XS.aload X73.here hx rfl (hb hby at_93) rfl rfl ?_
          show Steps p.tables e below (T73.setTop (mkF m 95 #[.val (.int pa), .val (.int pb), .val (.int pc), .val (.int (9 : Int32)), .val (.ref r_ADD), .val (.int pb), .val (.int (1 : Int32))] [(.ref r_ADD)])) t
          refine XS.iload X73.here hx rfl (hb hby at_95) rfl ?_
          exact kt
        obtain ⟨v76, T76, L76, X76, q76, st76⟩ := callVirtual X73 hx hZ (y := (⟨"com/example/thistle/thistle/language/Operator", "admits", "(I)Z"⟩ : MethodName)) (z := (⟨"com/example/thistle/thistle/language/Operator", "admits", "(I)Z"⟩ : MethodName)) (W := 0) hown (wdOf hw 8 rfl) (wdOf hw 9 rfl) (notFace_of_selects (args := #[]) (mvT hZ (wdOf hw 11 rfl))) (wdOf hw 11 rfl) (wdOf hw 10 rfl) (wdOf hw 6 rfl) (wdOf hw 12 rfl) (by decide) (rm_adm l Z a0 hw [] r_ADD pb (2 : Int32) (2 : Int32) (1 : Int32) h0 n0 Z0 F_fewestArguments_ADD F_mostArguments_ADD ((if_neg (own_eq c75)).symm)) (by decide) (by decide) (by decide) (by decide) K73 E_ADD (g := (mkF m 97 #[.val (.int pa), .val (.int pb), .val (.int pc), .val (.int (9 : Int32)), .val (.ref r_ADD), .val (.int pb), .val (.int (1 : Int32))] [(.int pb), (.ref r_ADD)])) rfl (by rw [hml]; rfl) (argsL := [(.int pb)]) (rest := []) (lenOf pd_1 rfl) rfl rfl (Nat.le_refl _) (hb hby at_97)
        obtain ⟨rfl, n76, K76⟩ := q76
        have N76 := Fr.app N73 n76
        refine Goes.go (U' := (T76.setTop (mkF m 100 #[.val (.int pa), .val (.int pb), .val (.int pc), .val (.int (9 : Int32)), .val (.ref r_ADD), .val (.int pb), .val (.int (1 : Int32))] [(.int (1 : Int32))]))) st76 ?_
        refine Goes.go (U' := (T76.setTop (mkF m 110 #[.val (.int pa), .val (.int pb), .val (.int pc), .val (.int (9 : Int32)), .val (.ref r_ADD), .val (.int pb), .val (.int (1 : Int32))] [(.int (1 : Int32))]))) (fun t kt => ?_) ?_
        · show Steps p.tables e below (T76.setTop (mkF m 100 #[.val (.int pa), .val (.int pb), .val (.int pc), .val (.int (9 : Int32)), .val (.ref r_ADD), .val (.int pb), .val (.int (1 : Int32))] [(.int (1 : Int32))])) t
          refine XS.iload X76.here hx rfl (hb hby at_100) rfl ?_
          show Steps p.tables e below (T76.setTop (mkF m 102 #[.val (.int pa), .val (.int pb), .val (.int pc), .val (.int (9 : Int32)), .val (.ref r_ADD), .val (.int pb), .val (.int (1 : Int32))] [(.int (1 : Int32)), (.int (1 : Int32))])) t
          refine XS.icmpNo X76.here hx rfl (hb hby at_102) rfl (XT.ii_ne_f (by decide)) ?_
          show Steps p.tables e below (T76.setTop (mkF m 105 #[.val (.int pa), .val (.int pb), .val (.int pc), .val (.int (9 : Int32)), .val (.ref r_ADD), .val (.int pb), .val (.int (1 : Int32))] [])) t
          refine XS.iconst X76.here hx rfl (hb hby at_105) ?_
          show Steps p.tables e below (T76.setTop (mkF m 106 #[.val (.int pa), .val (.int pb), .val (.int pc), .val (.int (9 : Int32)), .val (.ref r_ADD), .val (.int pb), .val (.int (1 : Int32))] [(.int (1 : Int32))])) t
          refine XS.goto X76.here hx rfl (pc0 := 106) (pc' := 110) rfl (hb hby at_106) (by decide) (by decide) ?_
          exact kt
        refine Goes.retB X76 hx hlk hret (hb hby at_110) (by decide) (by decide) ?_
        try rw [K76]
        exact ⟨rfl, N76⟩
      · -- not pb = (2 : Int32)
        refine Goes.go (U' := (T73.setTop (mkF m 97 #[.val (.int pa), .val (.int pb), .val (.int pc), .val (.int (9 : Int32)), .val (.ref r_ADD), .val (.int pb), .val (.int (0 : Int32))] [(.int pb), (.ref r_ADD)]))) (fun t kt => ?_) ?_
        · show Steps p.tables e below (T73.setTop (mkF m 83 #[.val (.int pa), .val (.int pb), .val (.int pc), .val (.int (9 : Int32)), .val (.ref r_ADD), .val (.int pb), .unset] [(.int (2 : Int32)), (.int pb)])) t
          refine XS.icmpYes X73.here hx rfl (pc0 := 83) (pc' := 90) rfl (hb hby at_83) rfl (XT.ii_ne_t c75) (by decide) (by decide) ?_
          show Steps p.tables e below (T73.setTop (mkF m 90 #[.val (.int pa), .val (.int pb), .val (.int pc), .val (.int (9 : Int32)), .val (.ref r_ADD), .val (.int pb), .unset] [])) t
          refine XS.iconst X73.here hx rfl (hb hby at_90) ?_
          show Steps p.tables e below (T73.setTop (mkF m 91 #[.val (.int pa), .val (.int pb), .val (.int pc), .val (.int (9 : Int32)), .val (.ref r_ADD), .val (.int pb), .unset] [(.int (0 : Int32))])) t
          refine XS.istore X73.here hx rfl (hb hby at_91) rfl (l' := #[.val (.int pa), .val (.int pb), .val (.int pc), .val (.int (9 : Int32)), .val (.ref r_ADD), .val (.int pb), .val (.int (0 : Int32))]) rfl ?_
          show Steps p.tables e below (T73.setTop (mkF m 93 #[.val (.int pa), .val (.int pb), .val (.int pc), .val (.int (9 : Int32)), .val (.ref r_ADD), .val (.int pb), .val (.int (0 : Int32))] [])) t
          refine XS.aload X73.here hx rfl (hb hby at_93) rfl rfl ?_
          show Steps p.tables e below (T73.setTop (mkF m 95 #[.val (.int pa), .val (.int pb), .val (.int pc), .val (.int (9 : Int32)), .val (.ref r_ADD), .val (.int pb), .val (.int (0 : Int32))] [(.ref r_ADD)])) t
          refine XS.iload X73.here hx rfl (hb hby at_95) rfl ?_
          exact kt
        obtain ⟨v77, T77, L77, X77, q77, st77⟩ := callVirtual X73 hx hZ (y := (⟨"com/example/thistle/thistle/language/Operator", "admits", "(I)Z"⟩ : MethodName)) (z := (⟨"com/example/thistle/thistle/language/Operator", "admits", "(I)Z"⟩ : MethodName)) (W := 0) hown (wdOf hw 8 rfl) (wdOf hw 9 rfl) (notFace_of_selects (args := #[]) (mvT hZ (wdOf hw 11 rfl))) (wdOf hw 11 rfl) (wdOf hw 10 rfl) (wdOf hw 6 rfl) (wdOf hw 12 rfl) (by decide) (rm_adm l Z a0 hw [] r_ADD pb (2 : Int32) (2 : Int32) (0 : Int32) h0 n0 Z0 F_fewestArguments_ADD F_mostArguments_ADD ((if_pos (own_ne c75)).symm)) (by decide) (by decide) (by decide) (by decide) K73 E_ADD (g := (mkF m 97 #[.val (.int pa), .val (.int pb), .val (.int pc), .val (.int (9 : Int32)), .val (.ref r_ADD), .val (.int pb), .val (.int (0 : Int32))] [(.int pb), (.ref r_ADD)])) rfl (by rw [hml]; rfl) (argsL := [(.int pb)]) (rest := []) (lenOf pd_1 rfl) rfl rfl (Nat.le_refl _) (hb hby at_97)
        obtain ⟨rfl, n77, K77⟩ := q77
        have N77 := Fr.app N73 n77
        refine Goes.go (U' := (T77.setTop (mkF m 100 #[.val (.int pa), .val (.int pb), .val (.int pc), .val (.int (9 : Int32)), .val (.ref r_ADD), .val (.int pb), .val (.int (0 : Int32))] [(.int (0 : Int32))]))) st77 ?_
        refine Goes.go (U' := (T77.setTop (mkF m 110 #[.val (.int pa), .val (.int pb), .val (.int pc), .val (.int (9 : Int32)), .val (.ref r_ADD), .val (.int pb), .val (.int (0 : Int32))] [(.int (1 : Int32))]))) (fun t kt => ?_) ?_
        · show Steps p.tables e below (T77.setTop (mkF m 100 #[.val (.int pa), .val (.int pb), .val (.int pc), .val (.int (9 : Int32)), .val (.ref r_ADD), .val (.int pb), .val (.int (0 : Int32))] [(.int (0 : Int32))])) t
          refine XS.iload X77.here hx rfl (hb hby at_100) rfl ?_
          show Steps p.tables e below (T77.setTop (mkF m 102 #[.val (.int pa), .val (.int pb), .val (.int pc), .val (.int (9 : Int32)), .val (.ref r_ADD), .val (.int pb), .val (.int (0 : Int32))] [(.int (0 : Int32)), (.int (0 : Int32))])) t
          refine XS.icmpNo X77.here hx rfl (hb hby at_102) rfl (XT.ii_ne_f (by decide)) ?_
          show Steps p.tables e below (T77.setTop (mkF m 105 #[.val (.int pa), .val (.int pb), .val (.int pc), .val (.int (9 : Int32)), .val (.ref r_ADD), .val (.int pb), .val (.int (0 : Int32))] [])) t
          refine XS.iconst X77.here hx rfl (hb hby at_105) ?_
          show Steps p.tables e below (T77.setTop (mkF m 106 #[.val (.int pa), .val (.int pb), .val (.int pc), .val (.int (9 : Int32)), .val (.ref r_ADD), .val (.int pb), .val (.int (0 : Int32))] [(.int (1 : Int32))])) t
          refine XS.goto X77.here hx rfl (pc0 := 106) (pc' := 110) rfl (hb hby at_106) (by decide) (by decide) ?_
          exact kt
        refine Goes.retB X77 hx hlk hret (hb hby at_110) (by decide) (by decide) ?_
        try rw [K77]
        exact ⟨rfl, N77⟩
    · -- not (pc &&& (1 : Int32)) = 0
      refine Goes.go (U' := (T73.setTop (mkF m 83 #[.val (.int pa), .val (.int pb), .val (.int pc), .val (.int (9 : Int32)), .val (.ref r_ADD), .val (.int ((pb &&& (7 : Int32)) - (2 : Int32))), .unset] [(.int (2 : Int32)), (.int ((pb &&& (7 : Int32)) - (2 : Int32)))]))) (fun t kt => ?_) ?_
      · show Steps p.tables e below (T73.setTop (mkF m 17 #[.val (.int pa), .val (.int pb), .val (.int pc), .val (.int (9 : Int32)), .val (.ref r_ADD), .unset, .unset] [(.int (pc &&& (1 : Int32)))])) t
        refine XS.ifNo X73.here hx rfl (hb hby at_17) rfl (XT.i0_eq_f c74) ?_
        show Steps p.tables e below (T73.setTop (mkF m 20 #[.val (.int pa), .val (.int pb), .val (.int pc), .val (.int (9 : Int32)), .val (.ref r_ADD), .unset, .unset] [])) t
        refine XS.iloadN X73.here hx rfl (hb hby at_20) rfl ?_
        show Steps p.tables e below (T73.setTop (mkF m 21 #[.val (.int pa), .val (.int pb), .val (.int pc), .val (.int (9 : Int32)), .val (.ref r_ADD), .unset, .unset] [(.int pb)])) t
        refine XS.bipush X73.here hx rfl (hb hby at_21) ?_
        show Steps p.tables e below (T73.setTop (mkF m 23 #[.val (.int pa), .val (.int pb), .val (.int pc), .val (.int (9 : Int32)), .val (.ref r_ADD), .unset, .unset] [(.int (7 : Int32)), (.int pb)])) t
        refine XS.iand X73.here hx rfl (hb hby at_23) rfl ?_
        show Steps p.tables e below (T73.setTop (mkF m 24 #[.val (.int pa), .val (.int pb), .val (.int pc), .val (.int (9 : Int32)), .val (.ref r_ADD), .unset, .unset] [(.int (pb &&& (7 : Int32)))])) t
        refine XS.iconst X73.here hx rfl (hb hby at_24) ?_
        show Steps p.tables e below (T73.setTop (mkF m 25 #[.val (.int pa), .val (.int pb), .val (.int pc), .val (.int (9 : Int32)), .val (.ref r_ADD), .unset, .unset] [(.int (2 : Int32)), (.int (pb &&& (7 : Int32)))])) t
        refine XS.isub X73.here hx rfl (hb hby at_25) rfl ?_
        show Steps p.tables e below (T73.setTop (mkF m 26 #[.val (.int pa), .val (.int pb), .val (.int pc), .val (.int (9 : Int32)), .val (.ref r_ADD), .unset, .unset] [(.int ((pb &&& (7 : Int32)) - (2 : Int32)))])) t
        refine XS.istore X73.here hx rfl (hb hby at_26) rfl (l' := #[.val (.int pa), .val (.int pb), .val (.int pc), .val (.int (9 : Int32)), .val (.ref r_ADD), .val (.int ((pb &&& (7 : Int32)) - (2 : Int32))), .unset]) rfl ?_
        show Steps p.tables e below (T73.setTop (mkF m 28 #[.val (.int pa), .val (.int pb), .val (.int pc), .val (.int (9 : Int32)), .val (.ref r_ADD), .val (.int ((pb &&& (7 : Int32)) - (2 : Int32))), .unset] [])) t
        refine XS.goto X73.here hx rfl (pc0 := 28) (pc' := 34) rfl (hb hby at_28) (by decide) (by decide) ?_
        show Steps p.tables e below (T73.setTop (mkF m 34 #[.val (.int pa), .val (.int pb), .val (.int pc), .val (.int (9 : Int32)), .val (.ref r_ADD), .val (.int ((pb &&& (7 : Int32)) - (2 : Int32))), .unset] [])) t
        refine XS.iloadN X73.here hx rfl (hb hby at_34) rfl ?_
        show Steps p.tables e below (T73.setTop (mkF m 35 #[.val (.int pa), .val (.int pb), .val (.int pc), .val (.int (9 : Int32)), .val (.ref r_ADD), .val (.int ((pb &&& (7 : Int32)) - (2 : Int32))), .unset] [(.int (9 : Int32))])) t
        refine XS.ifNo X73.here hx rfl (hb hby at_35) rfl (XT.i0_eq_f (by decide)) ?_
        show Steps p.tables e below (T73.setTop (mkF m 38 #[.val (.int pa), .val (.int pb), .val (.int pc), .val (.int (9 : Int32)), .val (.ref r_ADD), .val (.int ((pb &&& (7 : Int32)) - (2 : Int32))), .unset] [])) t
        refine XS.iloadN X73.here hx rfl (hb hby at_38) rfl ?_
        show Steps p.tables e below (T73.setTop (mkF m 39 #[.val (.int pa), .val (.int pb), .val (.int pc), .val (.int (9 : Int32)), .val (.ref r_ADD), .val (.int ((pb &&& (7 : Int32)) - (2 : Int32))), .unset] [(.int (9 : Int32))])) t
        refine XS.iconst X73.here hx rfl (hb hby at_39) ?_
        show Steps p.tables e below (T73.setTop (mkF m 40 #[.val (.int pa), .val (.int pb), .val (.int pc), .val (.int (9 : Int32)), .val (.ref r_ADD), .val (.int ((pb &&& (7 : Int32)) - (2 : Int32))), .unset] [(.int (1 : Int32)), (.int (9 : Int32))])) t
        refine XS.icmpYes X73.here hx rfl (pc0 := 40) (pc' := 59) rfl (hb hby at_40) rfl (XT.ii_ne_t (by decide)) (by decide) (by decide) ?_
        show Steps p.tables e below (T73.setTop (mkF m 59 #[.val (.int pa), .val (.int pb), .val (.int pc), .val (.int (9 : Int32)), .val (.ref r_ADD), .val (.int ((pb &&& (7 : Int32)) - (2 : Int32))), .unset] [])) t
        refine XS.iloadN X73.here hx rfl (hb hby at_59) rfl ?_
        show Steps p.tables e below (T73.setTop (mkF m 60 #[.val (.int pa), .val (.int pb), .val (.int pc), .val (.int (9 : Int32)), .val (.ref r_ADD), .val (.int ((pb &&& (7 : Int32)) - (2 : Int32))), .unset] [(.int (9 : Int32))])) t
        refine XS.iconst X73.here hx rfl (hb hby at_60) ?_
        show Steps p.tables e below (T73.setTop (mkF m 61 #[.val (.int pa), .val (.int pb), .val (.int pc), .val (.int (9 : Int32)), .val (.ref r_ADD), .val (.int ((pb &&& (7 : Int32)) - (2 : Int32))), .unset] [(.int (2 : Int32)), (.int (9 : Int32))])) t
        refine XS.icmpYes X73.here hx rfl (pc0 := 61) (pc' := 80) rfl (hb hby at_61) rfl (XT.ii_ne_t (by decide)) (by decide) (by decide) ?_
        show Steps p.tables e below (T73.setTop (mkF m 80 #[.val (.int pa), .val (.int pb), .val (.int pc), .val (.int (9 : Int32)), .val (.ref r_ADD), .val (.int ((pb &&& (7 : Int32)) - (2 : Int32))), .unset] [])) t
        refine XS.iload X73.here hx rfl (hb hby at_80) rfl ?_
        show Steps p.tables e below (T73.setTop (mkF m 82 #[.val (.int pa), .val (.int pb), .val (.int pc), .val (.int (9 : Int32)), .val (.ref r_ADD), .val (.int ((pb &&& (7 : Int32)) - (2 : Int32))), .unset] [(.int ((pb &&& (7 : Int32)) - (2 : Int32)))])) t
        refine XS.iconst X73.here hx rfl (hb hby at_82) ?_
        exact kt
      by_cases c78 : ((pb &&& (7 : Int32)) - (2 : Int32)) = (2 : Int32)
      · -- ((pb &&& (7 : Int32)) - (2 : Int32)) = (2 : Int32)
        refine Goes.go (U' := (T73.setTop (mkF m 97 #[.val (.int pa), .val (.int pb), .val (.int pc), .val (.int (9 : Int32)), .val (.ref r_ADD), .val (.int ((pb &&& (7 : Int32)) - (2 : Int32))), .val (.int (1 : Int32))] [(.int ((pb &&& (7 : Int32)) - (2 : Int32))), (.ref r_ADD)]))) (fun t kt => ?_) ?_
        · show Steps p.tables e below (T73.setTop (mkF m 83 #[.val (.int pa), .val (.int pb), .val (.int pc), .val (.int (9 : Int32)), .val (.ref r_ADD), .val (.int ((pb &&& (7 : Int32)) - (2 : Int32))), .unset] [(.int (2 : Int32)), (.int ((pb &&& (7 : Int32)) - (2 : Int32)))])) t
          refine XS.icmpNo X73.here hx rfl (hb hby at_83) rfl (XT.ii_ne_f c78) ?_
          show Steps p.tables e below (T73.setTop (mkF m 86 #[.val (.int pa), .val (.int pb), .val (.int pc), .val (.int (9 : Int32)), .val (.ref r_ADD), .val (.int ((pb &&& (7 : Int32)) - (2 : Int32))), .unset] [])) t
          refine XS.iconst X73.here hx rfl (hb hby at_86) ?_
          show Steps p.tables e below (T73.setTop (mkF m 87 #[.val (.int pa), .val (.int pb), .val (.int pc), .val (.int (9 : Int32)), .val (.ref r_ADD), .val (.int ((pb &&& (7 : Int32)) - (2 : Int32))), .unset] [(.int (1 : Int32))])) t
          refine XS.goto X73.here hx rfl (pc0 := 87) (pc' := 91) rfl (hb hby at_87) (by decide) (by decide) ?_
          show Steps p.tables e below (T73.setTop (mkF m 91 #[.val (.int pa), .val (.int pb), .val (.int pc), .val (.int (9 : Int32)), .val (.ref r_ADD), .val (.int ((pb &&& (7 : Int32)) - (2 : Int32))), .unset] [(.int (1 : Int32))])) t
          refine XS.istore X73.here hx rfl (hb hby at_91) rfl (l' := #[.val (.int pa), .val (.int pb), .val (.int pc), .val (.int (9 : Int32)), .val (.ref r_ADD), .val (.int ((pb &&& (7 : Int32)) - (2 : Int32))), .val (.int (1 : Int32))]) rfl ?_
          show Steps p.tables e below (T73.setTop (mkF m 93 #[.val (.int pa), .val (.int pb), .val (.int pc), .val (.int (9 : Int32)), .val (.ref r_ADD), .val (.int ((pb &&& (7 : Int32)) - (2 : Int32))), .val (.int (1 : Int32))] [])) t
          refine XS.aload X73.here hx rfl (hb hby at_93) rfl rfl ?_
          show Steps p.tables e below (T73.setTop (mkF m 95 #[.val (.int pa), .val (.int pb), .val (.int pc), .val (.int (9 : Int32)), .val (.ref r_ADD), .val (.int ((pb &&& (7 : Int32)) - (2 : Int32))), .val (.int (1 : Int32))] [(.ref r_ADD)])) t
          refine XS.iload X73.here hx rfl (hb hby at_95) rfl ?_
          exact kt
        obtain ⟨v79, T79, L79, X79, q79, st79⟩ := callVirtual X73 hx hZ (y := (⟨"com/example/thistle/thistle/language/Operator", "admits", "(I)Z"⟩ : MethodName)) (z := (⟨"com/example/thistle/thistle/language/Operator", "admits", "(I)Z"⟩ : MethodName)) (W := 0) hown (wdOf hw 8 rfl) (wdOf hw 9 rfl) (notFace_of_selects (args := #[]) (mvT hZ (wdOf hw 11 rfl))) (wdOf hw 11 rfl) (wdOf hw 10 rfl) (wdOf hw 6 rfl) (wdOf hw 12 rfl) (by decide) (rm_adm l Z a0 hw [] r_ADD ((pb &&& (7 : Int32)) - (2 : Int32)) (2 : Int32) (2 : Int32) (1 : Int32) h0 n0 Z0 F_fewestArguments_ADD F_mostArguments_ADD ((if_neg (own_eq c78)).symm)) (by decide) (by decide) (by decide) (by decide) K73 E_ADD (g := (mkF m 97 #[.val (.int pa), .val (.int pb), .val (.int pc), .val (.int (9 : Int32)), .val (.ref r_ADD), .val (.int ((pb &&& (7 : Int32)) - (2 : Int32))), .val (.int (1 : Int32))] [(.int ((pb &&& (7 : Int32)) - (2 : Int32))), (.ref r_ADD)])) rfl (by rw [hml]; rfl) (argsL := [(.int ((pb &&& (7 : Int32)) - (2 : Int32)))]) (rest := []) (lenOf pd_1 rfl) rfl rfl (Nat.le_refl _) (hb hby at_97)
        obtain ⟨rfl, n79, K79⟩ := q79
        have N79 := Fr.app N73 n79
        refine Goes.go (U' := (T79.setTop (mkF m 100 #[.val (.int pa), .val (.int pb), .val (.int pc), .val (.int (9 : Int32)), .val (.ref r_ADD), .val (.int ((pb &&& (7 : Int32)) - (2 : Int32))), .val (.int (1 : Int32))] [(.int (1 : Int32))]))) st79 ?_
        refine Goes.go (U' := (T79.setTop (mkF m 110 #[.val (.int pa), .val (.int pb), .val (.int pc), .val (.int (9 : Int32)), .val (.ref r_ADD), .val (.int ((pb &&& (7 : Int32)) - (2 : Int32))), .val (.int (1 : Int32))] [(.int (1 : Int32))]))) (fun t kt => ?_) ?_
        · show Steps p.tables e below (T79.setTop (mkF m 100 #[.val (.int pa), .val (.int pb), .val (.int pc), .val (.int (9 : Int32)), .val (.ref r_ADD), .val (.int ((pb &&& (7 : Int32)) - (2 : Int32))), .val (.int (1 : Int32))] [(.int (1 : Int32))])) t
          refine XS.iload X79.here hx rfl (hb hby at_100) rfl ?_
          show Steps p.tables e below (T79.setTop (mkF m 102 #[.val (.int pa), .val (.int pb), .val (.int pc), .val (.int (9 : Int32)), .val (.ref r_ADD), .val (.int ((pb &&& (7 : Int32)) - (2 : Int32))), .val (.int (1 : Int32))] [(.int (1 : Int32)), (.int (1 : Int32))])) t
          refine XS.icmpNo X79.here hx rfl (hb hby at_102) rfl (XT.ii_ne_f (by decide)) ?_
          show Steps p.tables e below (T79.setTop (mkF m 105 #[.val (.int pa), .val (.int pb), .val (.int pc), .val (.int (9 : Int32)), .val (.ref r_ADD), .val (.int ((pb &&& (7 : Int32)) - (2 : Int32))), .val (.int (1 : Int32))] [])) t
          refine XS.iconst X79.here hx rfl (hb hby at_105) ?_
          show Steps p.tables e below (T79.setTop (mkF m 106 #[.val (.int pa), .val (.int pb), .val (.int pc), .val (.int (9 : Int32)), .val (.ref r_ADD), .val (.int ((pb &&& (7 : Int32)) - (2 : Int32))), .val (.int (1 : Int32))] [(.int (1 : Int32))])) t
          refine XS.goto X79.here hx rfl (pc0 := 106) (pc' := 110) rfl (hb hby at_106) (by decide) (by decide) ?_
          exact kt
        refine Goes.retB X79 hx hlk hret (hb hby at_110) (by decide) (by decide) ?_
        try rw [K79]
        exact ⟨rfl, N79⟩
      · -- not ((pb &&& (7 : Int32)) - (2 : Int32)) = (2 : Int32)
        refine Goes.go (U' := (T73.setTop (mkF m 97 #[.val (.int pa), .val (.int pb), .val (.int pc), .val (.int (9 : Int32)), .val (.ref r_ADD), .val (.int ((pb &&& (7 : Int32)) - (2 : Int32))), .val (.int (0 : Int32))] [(.int ((pb &&& (7 : Int32)) - (2 : Int32))), (.ref r_ADD)]))) (fun t kt => ?_) ?_
        · show Steps p.tables e below (T73.setTop (mkF m 83 #[.val (.int pa), .val (.int pb), .val (.int pc), .val (.int (9 : Int32)), .val (.ref r_ADD), .val (.int ((pb &&& (7 : Int32)) - (2 : Int32))), .unset] [(.int (2 : Int32)), (.int ((pb &&& (7 : Int32)) - (2 : Int32)))])) t
          refine XS.icmpYes X73.here hx rfl (pc0 := 83) (pc' := 90) rfl (hb hby at_83) rfl (XT.ii_ne_t c78) (by decide) (by decide) ?_
          show Steps p.tables e below (T73.setTop (mkF m 90 #[.val (.int pa), .val (.int pb), .val (.int pc), .val (.int (9 : Int32)), .val (.ref r_ADD), .val (.int ((pb &&& (7 : Int32)) - (2 : Int32))), .unset] [])) t
          refine XS.iconst X73.here hx rfl (hb hby at_90) ?_
          show Steps p.tables e below (T73.setTop (mkF m 91 #[.val (.int pa), .val (.int pb), .val (.int pc), .val (.int (9 : Int32)), .val (.ref r_ADD), .val (.int ((pb &&& (7 : Int32)) - (2 : Int32))), .unset] [(.int (0 : Int32))])) t
          refine XS.istore X73.here hx rfl (hb hby at_91) rfl (l' := #[.val (.int pa), .val (.int pb), .val (.int pc), .val (.int (9 : Int32)), .val (.ref r_ADD), .val (.int ((pb &&& (7 : Int32)) - (2 : Int32))), .val (.int (0 : Int32))]) rfl ?_
          show Steps p.tables e below (T73.setTop (mkF m 93 #[.val (.int pa), .val (.int pb), .val (.int pc), .val (.int (9 : Int32)), .val (.ref r_ADD), .val (.int ((pb &&& (7 : Int32)) - (2 : Int32))), .val (.int (0 : Int32))] [])) t
          refine XS.aload X73.here hx rfl (hb hby at_93) rfl rfl ?_
          show Steps p.tables e below (T73.setTop (mkF m 95 #[.val (.int pa), .val (.int pb), .val (.int pc), .val (.int (9 : Int32)), .val (.ref r_ADD), .val (.int ((pb &&& (7 : Int32)) - (2 : Int32))), .val (.int (0 : Int32))] [(.ref r_ADD)])) t
          refine XS.iload X73.here hx rfl (hb hby at_95) rfl ?_
          exact kt
        obtain ⟨v80, T80, L80, X80, q80, st80⟩ := callVirtual X73 hx hZ (y := (⟨"com/example/thistle/thistle/language/Operator", "admits", "(I)Z"⟩ : MethodName)) (z := (⟨"com/example/thistle/thistle/language/Operator", "admits", "(I)Z"⟩ : MethodName)) (W := 0) hown (wdOf hw 8 rfl) (wdOf hw 9 rfl) (notFace_of_selects (args := #[]) (mvT hZ (wdOf hw 11 rfl))) (wdOf hw 11 rfl) (wdOf hw 10 rfl) (wdOf hw 6 rfl) (wdOf hw 12 rfl) (by decide) (rm_adm l Z a0 hw [] r_ADD ((pb &&& (7 : Int32)) - (2 : Int32)) (2 : Int32) (2 : Int32) (0 : Int32) h0 n0 Z0 F_fewestArguments_ADD F_mostArguments_ADD ((if_pos (own_ne c78)).symm)) (by decide) (by decide) (by decide) (by decide) K73 E_ADD (g := (mkF m 97 #[.val (.int pa), .val (.int pb), .val (.int pc), .val (.int (9 : Int32)), .val (.ref r_ADD), .val (.int ((pb &&& (7 : Int32)) - (2 : Int32))), .val (.int (0 : Int32))] [(.int ((pb &&& (7 : Int32)) - (2 : Int32))), (.ref r_ADD)])) rfl (by rw [hml]; rfl) (argsL := [(.int ((pb &&& (7 : Int32)) - (2 : Int32)))]) (rest := []) (lenOf pd_1 rfl) rfl rfl (Nat.le_refl _) (hb hby at_97)
        obtain ⟨rfl, n80, K80⟩ := q80
        have N80 := Fr.app N73 n80
        refine Goes.go (U' := (T80.setTop (mkF m 100 #[.val (.int pa), .val (.int pb), .val (.int pc), .val (.int (9 : Int32)), .val (.ref r_ADD), .val (.int ((pb &&& (7 : Int32)) - (2 : Int32))), .val (.int (0 : Int32))] [(.int (0 : Int32))]))) st80 ?_
        refine Goes.go (U' := (T80.setTop (mkF m 110 #[.val (.int pa), .val (.int pb), .val (.int pc), .val (.int (9 : Int32)), .val (.ref r_ADD), .val (.int ((pb &&& (7 : Int32)) - (2 : Int32))), .val (.int (0 : Int32))] [(.int (1 : Int32))]))) (fun t kt => ?_) ?_
        · show Steps p.tables e below (T80.setTop (mkF m 100 #[.val (.int pa), .val (.int pb), .val (.int pc), .val (.int (9 : Int32)), .val (.ref r_ADD), .val (.int ((pb &&& (7 : Int32)) - (2 : Int32))), .val (.int (0 : Int32))] [(.int (0 : Int32))])) t
          refine XS.iload X80.here hx rfl (hb hby at_100) rfl ?_
          show Steps p.tables e below (T80.setTop (mkF m 102 #[.val (.int pa), .val (.int pb), .val (.int pc), .val (.int (9 : Int32)), .val (.ref r_ADD), .val (.int ((pb &&& (7 : Int32)) - (2 : Int32))), .val (.int (0 : Int32))] [(.int (0 : Int32)), (.int (0 : Int32))])) t
          refine XS.icmpNo X80.here hx rfl (hb hby at_102) rfl (XT.ii_ne_f (by decide)) ?_
          show Steps p.tables e below (T80.setTop (mkF m 105 #[.val (.int pa), .val (.int pb), .val (.int pc), .val (.int (9 : Int32)), .val (.ref r_ADD), .val (.int ((pb &&& (7 : Int32)) - (2 : Int32))), .val (.int (0 : Int32))] [])) t
          refine XS.iconst X80.here hx rfl (hb hby at_105) ?_
          show Steps p.tables e below (T80.setTop (mkF m 106 #[.val (.int pa), .val (.int pb), .val (.int pc), .val (.int (9 : Int32)), .val (.ref r_ADD), .val (.int ((pb &&& (7 : Int32)) - (2 : Int32))), .val (.int (0 : Int32))] [(.int (1 : Int32))])) t
          refine XS.goto X80.here hx rfl (pc0 := 106) (pc' := 110) rfl (hb hby at_106) (by decide) (by decide) ?_
          exact kt
        refine Goes.retB X80 hx hlk hret (hb hby at_110) (by decide) (by decide) ?_
        try rw [K80]
        exact ⟨rfl, N80⟩
  · -- case 10
    rw [hk]
    refine Goes.go (U' := (s₁.setTop (mkF m 9 #[.val (.int pa), .val (.int pb), .val (.int pc), .val (.int (10 : Int32)), .unset, .unset, .unset] [(.int (10 : Int32))]))) (fun t kt => ?_) ?_
    · show Steps p.tables e below (s₁.setTop (mkF m 7 #[.val (.int pa), .val (.int pb), .val (.int pc), .unset, .unset, .unset, .unset] [(.int (10 : Int32))])) t
      refine XS.istoreN X0.here hx rfl (hb hby at_7) rfl (l' := #[.val (.int pa), .val (.int pb), .val (.int pc), .val (.int (10 : Int32)), .unset, .unset, .unset]) rfl ?_
      show Steps p.tables e below (s₁.setTop (mkF m 8 #[.val (.int pa), .val (.int pb), .val (.int pc), .val (.int (10 : Int32)), .unset, .unset, .unset] [])) t
      refine XS.iloadN X0.here hx rfl (hb hby at_8) rfl ?_
      exact kt
    obtain ⟨v81, T81, L81, X81, q81, st81⟩ := callStatic X0 hx hZ (y := (⟨"com/example/thistle/thistle/language/OperatorAdmitsPinLaw", "pick", "(I)Lcom/example/thistle/thistle/language/Operator;"⟩ : MethodName)) (W := 0) hown (wdOf hw 1 rfl) (wdOf hw 2 rfl) (wdOf hw 3 rfl) (wdOf hw 4 rfl) (by decide) (rm_pick l Z a0 hw [] (10 : Int32) r_SUBTRACT r_AND r_OR r_NOT r_EQUAL r_IN r_GREATER_THAN r_LESS_THAN r_GREATER_THAN_OR_EQUAL r_LESS_THAN_OR_EQUAL r_ADD r_SUBTRACT r_MULTIPLY r_DIVIDE h0 n0 Z0 S_AND S_OR S_NOT S_EQUAL S_IN S_GREATER_THAN S_LESS_THAN S_GREATER_THAN_OR_EQUAL S_LESS_THAN_OR_EQUAL S_ADD S_SUBTRACT S_MULTIPLY S_DIVIDE (by simp)) (by decide) (by decide) (by decide) (by decide) e0 (g := (mkF m 9 #[.val (.int pa), .val (.int pb), .val (.int pc), .val (.int (10 : Int32)), .unset, .unset, .unset] [(.int (10 : Int32))])) rfl (by rw [hml]; rfl) (argsL := [(.int (10 : Int32))]) (rest := []) (lenOf pd_0 rfl) rfl rfl (Nat.le_refl _) (hb hby at_9)
    obtain ⟨rfl, n81, K81⟩ := q81
    have N81 := Fr.app N0 n81
    refine Goes.go (U' := (T81.setTop (mkF m 12 #[.val (.int pa), .val (.int pb), .val (.int pc), .val (.int (10 : Int32)), .unset, .unset, .unset] [(.ref r_SUBTRACT)]))) st81 ?_
    refine Goes.go (U' := (T81.setTop (mkF m 17 #[.val (.int pa), .val (.int pb), .val (.int pc), .val (.int (10 : Int32)), .val (.ref r_SUBTRACT), .unset, .unset] [(.int (pc &&& (1 : Int32)))]))) (fun t kt => ?_) ?_
    · show Steps p.tables e below (T81.setTop (mkF m 12 #[.val (.int pa), .val (.int pb), .val (.int pc), .val (.int (10 : Int32)), .unset, .unset, .unset] [(.ref r_SUBTRACT)])) t
      refine XS.astore X81.here hx rfl (hb hby at_12) rfl rfl (l' := #[.val (.int pa), .val (.int pb), .val (.int pc), .val (.int (10 : Int32)), .val (.ref r_SUBTRACT), .unset, .unset]) rfl ?_
      show Steps p.tables e below (T81.setTop (mkF m 14 #[.val (.int pa), .val (.int pb), .val (.int pc), .val (.int (10 : Int32)), .val (.ref r_SUBTRACT), .unset, .unset] [])) t
      refine XS.iloadN X81.here hx rfl (hb hby at_14) rfl ?_
      show Steps p.tables e below (T81.setTop (mkF m 15 #[.val (.int pa), .val (.int pb), .val (.int pc), .val (.int (10 : Int32)), .val (.ref r_SUBTRACT), .unset, .unset] [(.int pc)])) t
      refine XS.iconst X81.here hx rfl (hb hby at_15) ?_
      show Steps p.tables e below (T81.setTop (mkF m 16 #[.val (.int pa), .val (.int pb), .val (.int pc), .val (.int (10 : Int32)), .val (.ref r_SUBTRACT), .unset, .unset] [(.int (1 : Int32)), (.int pc)])) t
      refine XS.iand X81.here hx rfl (hb hby at_16) rfl ?_
      exact kt
    by_cases c82 : (pc &&& (1 : Int32)) = 0
    · -- (pc &&& (1 : Int32)) = 0
      refine Goes.go (U' := (T81.setTop (mkF m 83 #[.val (.int pa), .val (.int pb), .val (.int pc), .val (.int (10 : Int32)), .val (.ref r_SUBTRACT), .val (.int pb), .unset] [(.int (2 : Int32)), (.int pb)]))) (fun t kt => ?_) ?_
      · show Steps p.tables e below (T81.setTop (mkF m 17 #[.val (.int pa), .val (.int pb), .val (.int pc), .val (.int (10 : Int32)), .val (.ref r_SUBTRACT), .unset, .unset] [(.int (pc &&& (1 : Int32)))])) t
        refine XS.ifYes X81.here hx rfl (pc0 := 17) (pc' := 31) rfl (hb hby at_17) rfl (XT.i0_eq_t c82) (by decide) (by decide) ?_
        show Steps p.tables e below (T81.setTop (mkF m 31 #[.val (.int pa), .val (.int pb), .val (.int pc), .val (.int (10 : Int32)), .val (.ref r_SUBTRACT), .unset, .unset] [])) t
        refine XS.iloadN X81.here hx rfl (hb hby at_31) rfl ?_
        show Steps p.tables e below (T81.setTop (mkF m 32 #[.val (.int pa), .val (.int pb), .val (.int pc), .val (.int (10 : Int32)), .val (.ref r_SUBTRACT), .unset, .unset] [(.int pb)])) t
        refine XS.istore X81.here hx rfl (hb hby at_32) rfl (l' := #[.val (.int pa), .val (.int pb), .val (.int pc), .val (.int (10 : Int32)), .val (.ref r_SUBTRACT), .val (.int pb), .unset]) rfl ?_
        show Steps p.tables e below (T81.setTop (mkF m 34 #[.val (.int pa), .val (.int pb), .val (.int pc), .val (.int (10 : Int32)), .val (.ref r_SUBTRACT), .val (.int pb), .unset] [])) t
        refine XS.iloadN X81.here hx rfl (hb hby at_34) rfl ?_
        show Steps p.tables e below (T81.setTop (mkF m 35 #[.val (.int pa), .val (.int pb), .val (.int pc), .val (.int (10 : Int32)), .val (.ref r_SUBTRACT), .val (.int pb), .unset] [(.int (10 : Int32))])) t
        refine XS.ifNo X81.here hx rfl (hb hby at_35) rfl (XT.i0_eq_f (by decide)) ?_
        show Steps p.tables e below (T81.setTop (mkF m 38 #[.val (.int pa), .val (.int pb), .val (.int pc), .val (.int (10 : Int32)), .val (.ref r_SUBTRACT), .val (.int pb), .unset] [])) t
        refine XS.iloadN X81.here hx rfl (hb hby at_38) rfl ?_
        show Steps p.tables e below (T81.setTop (mkF m 39 #[.val (.int pa), .val (.int pb), .val (.int pc), .val (.int (10 : Int32)), .val (.ref r_SUBTRACT), .val (.int pb), .unset] [(.int (10 : Int32))])) t
        refine XS.iconst X81.here hx rfl (hb hby at_39) ?_
        show Steps p.tables e below (T81.setTop (mkF m 40 #[.val (.int pa), .val (.int pb), .val (.int pc), .val (.int (10 : Int32)), .val (.ref r_SUBTRACT), .val (.int pb), .unset] [(.int (1 : Int32)), (.int (10 : Int32))])) t
        refine XS.icmpYes X81.here hx rfl (pc0 := 40) (pc' := 59) rfl (hb hby at_40) rfl (XT.ii_ne_t (by decide)) (by decide) (by decide) ?_
        show Steps p.tables e below (T81.setTop (mkF m 59 #[.val (.int pa), .val (.int pb), .val (.int pc), .val (.int (10 : Int32)), .val (.ref r_SUBTRACT), .val (.int pb), .unset] [])) t
        refine XS.iloadN X81.here hx rfl (hb hby at_59) rfl ?_
        show Steps p.tables e below (T81.setTop (mkF m 60 #[.val (.int pa), .val (.int pb), .val (.int pc), .val (.int (10 : Int32)), .val (.ref r_SUBTRACT), .val (.int pb), .unset] [(.int (10 : Int32))])) t
        refine XS.iconst X81.here hx rfl (hb hby at_60) ?_
        show Steps p.tables e below (T81.setTop (mkF m 61 #[.val (.int pa), .val (.int pb), .val (.int pc), .val (.int (10 : Int32)), .val (.ref r_SUBTRACT), .val (.int pb), .unset] [(.int (2 : Int32)), (.int (10 : Int32))])) t
        refine XS.icmpYes X81.here hx rfl (pc0 := 61) (pc' := 80) rfl (hb hby at_61) rfl (XT.ii_ne_t (by decide)) (by decide) (by decide) ?_
        show Steps p.tables e below (T81.setTop (mkF m 80 #[.val (.int pa), .val (.int pb), .val (.int pc), .val (.int (10 : Int32)), .val (.ref r_SUBTRACT), .val (.int pb), .unset] [])) t
        refine XS.iload X81.here hx rfl (hb hby at_80) rfl ?_
        show Steps p.tables e below (T81.setTop (mkF m 82 #[.val (.int pa), .val (.int pb), .val (.int pc), .val (.int (10 : Int32)), .val (.ref r_SUBTRACT), .val (.int pb), .unset] [(.int pb)])) t
        refine XS.iconst X81.here hx rfl (hb hby at_82) ?_
        exact kt
      by_cases c83 : pb = (2 : Int32)
      · -- pb = (2 : Int32)
        refine Goes.go (U' := (T81.setTop (mkF m 97 #[.val (.int pa), .val (.int pb), .val (.int pc), .val (.int (10 : Int32)), .val (.ref r_SUBTRACT), .val (.int pb), .val (.int (1 : Int32))] [(.int pb), (.ref r_SUBTRACT)]))) (fun t kt => ?_) ?_
        · show Steps p.tables e below (T81.setTop (mkF m 83 #[.val (.int pa), .val (.int pb), .val (.int pc), .val (.int (10 : Int32)), .val (.ref r_SUBTRACT), .val (.int pb), .unset] [(.int (2 : Int32)), (.int pb)])) t
          refine XS.icmpNo X81.here hx rfl (hb hby at_83) rfl (XT.ii_ne_f c83) ?_
          show Steps p.tables e below (T81.setTop (mkF m 86 #[.val (.int pa), .val (.int pb), .val (.int pc), .val (.int (10 : Int32)), .val (.ref r_SUBTRACT), .val (.int pb), .unset] [])) t
          refine XS.iconst X81.here hx rfl (hb hby at_86) ?_
          show Steps p.tables e below (T81.setTop (mkF m 87 #[.val (.int pa), .val (.int pb), .val (.int pc), .val (.int (10 : Int32)), .val (.ref r_SUBTRACT), .val (.int pb), .unset] [(.int (1 : Int32))])) t
          refine XS.goto X81.here hx rfl (pc0 := 87) (pc' := 91) rfl (hb hby at_87) (by decide) (by decide) ?_
          show Steps p.tables e below (T81.setTop (mkF m 91 #[.val (.int pa), .val (.int pb), .val (.int pc), .val (.int (10 : Int32)), .val (.ref r_SUBTRACT), .val (.int pb), .unset] [(.int (1 : Int32))])) t
          refine XS.istore X81.here hx rfl (hb hby at_91) rfl (l' := #[.val (.int pa), .val (.int pb), .val (.int pc), .val (.int (10 : Int32)), .val (.ref r_SUBTRACT), .val (.int pb), .val (.int (1 : Int32))]) rfl ?_
          show Steps p.tables e below (T81.setTop (mkF m 93 #[.val (.int pa), .val (.int pb), .val (.int pc), .val (.int (10 : Int32)), .val (.ref r_SUBTRACT), .val (.int pb), .val (.int (1 : Int32))] [])) t
          refine XS.aload X81.here hx rfl (hb hby at_93) rfl rfl ?_
          show Steps p.tables e below (T81.setTop (mkF m 95 #[.val (.int pa), .val (.int pb), .val (.int pc), .val (.int (10 : Int32)), .val (.ref r_SUBTRACT), .val (.int pb), .val (.int (1 : Int32))] [(.ref r_SUBTRACT)])) t
          refine XS.iload X81.here hx rfl (hb hby at_95) rfl ?_
          exact kt
        obtain ⟨v84, T84, L84, X84, q84, st84⟩ := callVirtual X81 hx hZ (y := (⟨"com/example/thistle/thistle/language/Operator", "admits", "(I)Z"⟩ : MethodName)) (z := (⟨"com/example/thistle/thistle/language/Operator", "admits", "(I)Z"⟩ : MethodName)) (W := 0) hown (wdOf hw 8 rfl) (wdOf hw 9 rfl) (notFace_of_selects (args := #[]) (mvT hZ (wdOf hw 11 rfl))) (wdOf hw 11 rfl) (wdOf hw 10 rfl) (wdOf hw 6 rfl) (wdOf hw 12 rfl) (by decide) (rm_adm l Z a0 hw [] r_SUBTRACT pb (2 : Int32) (2 : Int32) (1 : Int32) h0 n0 Z0 F_fewestArguments_SUBTRACT F_mostArguments_SUBTRACT ((if_neg (own_eq c83)).symm)) (by decide) (by decide) (by decide) (by decide) K81 E_SUBTRACT (g := (mkF m 97 #[.val (.int pa), .val (.int pb), .val (.int pc), .val (.int (10 : Int32)), .val (.ref r_SUBTRACT), .val (.int pb), .val (.int (1 : Int32))] [(.int pb), (.ref r_SUBTRACT)])) rfl (by rw [hml]; rfl) (argsL := [(.int pb)]) (rest := []) (lenOf pd_1 rfl) rfl rfl (Nat.le_refl _) (hb hby at_97)
        obtain ⟨rfl, n84, K84⟩ := q84
        have N84 := Fr.app N81 n84
        refine Goes.go (U' := (T84.setTop (mkF m 100 #[.val (.int pa), .val (.int pb), .val (.int pc), .val (.int (10 : Int32)), .val (.ref r_SUBTRACT), .val (.int pb), .val (.int (1 : Int32))] [(.int (1 : Int32))]))) st84 ?_
        refine Goes.go (U' := (T84.setTop (mkF m 110 #[.val (.int pa), .val (.int pb), .val (.int pc), .val (.int (10 : Int32)), .val (.ref r_SUBTRACT), .val (.int pb), .val (.int (1 : Int32))] [(.int (1 : Int32))]))) (fun t kt => ?_) ?_
        · show Steps p.tables e below (T84.setTop (mkF m 100 #[.val (.int pa), .val (.int pb), .val (.int pc), .val (.int (10 : Int32)), .val (.ref r_SUBTRACT), .val (.int pb), .val (.int (1 : Int32))] [(.int (1 : Int32))])) t
          refine XS.iload X84.here hx rfl (hb hby at_100) rfl ?_
          show Steps p.tables e below (T84.setTop (mkF m 102 #[.val (.int pa), .val (.int pb), .val (.int pc), .val (.int (10 : Int32)), .val (.ref r_SUBTRACT), .val (.int pb), .val (.int (1 : Int32))] [(.int (1 : Int32)), (.int (1 : Int32))])) t
          refine XS.icmpNo X84.here hx rfl (hb hby at_102) rfl (XT.ii_ne_f (by decide)) ?_
          show Steps p.tables e below (T84.setTop (mkF m 105 #[.val (.int pa), .val (.int pb), .val (.int pc), .val (.int (10 : Int32)), .val (.ref r_SUBTRACT), .val (.int pb), .val (.int (1 : Int32))] [])) t
          refine XS.iconst X84.here hx rfl (hb hby at_105) ?_
          show Steps p.tables e below (T84.setTop (mkF m 106 #[.val (.int pa), .val (.int pb), .val (.int pc), .val (.int (10 : Int32)), .val (.ref r_SUBTRACT), .val (.int pb), .val (.int (1 : Int32))] [(.int (1 : Int32))])) t
          refine XS.goto X84.here hx rfl (pc0 := 106) (pc' := 110) rfl (hb hby at_106) (by decide) (by decide) ?_
          exact kt
        refine Goes.retB X84 hx hlk hret (hb hby at_110) (by decide) (by decide) ?_
        try rw [K84]
        exact ⟨rfl, N84⟩
      · -- not pb = (2 : Int32)
        refine Goes.go (U' := (T81.setTop (mkF m 97 #[.val (.int pa), .val (.int pb), .val (.int pc), .val (.int (10 : Int32)), .val (.ref r_SUBTRACT), .val (.int pb), .val (.int (0 : Int32))] [(.int pb), (.ref r_SUBTRACT)]))) (fun t kt => ?_) ?_
        · show Steps p.tables e below (T81.setTop (mkF m 83 #[.val (.int pa), .val (.int pb), .val (.int pc), .val (.int (10 : Int32)), .val (.ref r_SUBTRACT), .val (.int pb), .unset] [(.int (2 : Int32)), (.int pb)])) t
          refine XS.icmpYes X81.here hx rfl (pc0 := 83) (pc' := 90) rfl (hb hby at_83) rfl (XT.ii_ne_t c83) (by decide) (by decide) ?_
          show Steps p.tables e below (T81.setTop (mkF m 90 #[.val (.int pa), .val (.int pb), .val (.int pc), .val (.int (10 : Int32)), .val (.ref r_SUBTRACT), .val (.int pb), .unset] [])) t
          refine XS.iconst X81.here hx rfl (hb hby at_90) ?_
          show Steps p.tables e below (T81.setTop (mkF m 91 #[.val (.int pa), .val (.int pb), .val (.int pc), .val (.int (10 : Int32)), .val (.ref r_SUBTRACT), .val (.int pb), .unset] [(.int (0 : Int32))])) t
          refine XS.istore X81.here hx rfl (hb hby at_91) rfl (l' := #[.val (.int pa), .val (.int pb), .val (.int pc), .val (.int (10 : Int32)), .val (.ref r_SUBTRACT), .val (.int pb), .val (.int (0 : Int32))]) rfl ?_
          show Steps p.tables e below (T81.setTop (mkF m 93 #[.val (.int pa), .val (.int pb), .val (.int pc), .val (.int (10 : Int32)), .val (.ref r_SUBTRACT), .val (.int pb), .val (.int (0 : Int32))] [])) t
          refine XS.aload X81.here hx rfl (hb hby at_93) rfl rfl ?_
          show Steps p.tables e below (T81.setTop (mkF m 95 #[.val (.int pa), .val (.int pb), .val (.int pc), .val (.int (10 : Int32)), .val (.ref r_SUBTRACT), .val (.int pb), .val (.int (0 : Int32))] [(.ref r_SUBTRACT)])) t
          refine XS.iload X81.here hx rfl (hb hby at_95) rfl ?_
          exact kt
        obtain ⟨v85, T85, L85, X85, q85, st85⟩ := callVirtual X81 hx hZ (y := (⟨"com/example/thistle/thistle/language/Operator", "admits", "(I)Z"⟩ : MethodName)) (z := (⟨"com/example/thistle/thistle/language/Operator", "admits", "(I)Z"⟩ : MethodName)) (W := 0) hown (wdOf hw 8 rfl) (wdOf hw 9 rfl) (notFace_of_selects (args := #[]) (mvT hZ (wdOf hw 11 rfl))) (wdOf hw 11 rfl) (wdOf hw 10 rfl) (wdOf hw 6 rfl) (wdOf hw 12 rfl) (by decide) (rm_adm l Z a0 hw [] r_SUBTRACT pb (2 : Int32) (2 : Int32) (0 : Int32) h0 n0 Z0 F_fewestArguments_SUBTRACT F_mostArguments_SUBTRACT ((if_pos (own_ne c83)).symm)) (by decide) (by decide) (by decide) (by decide) K81 E_SUBTRACT (g := (mkF m 97 #[.val (.int pa), .val (.int pb), .val (.int pc), .val (.int (10 : Int32)), .val (.ref r_SUBTRACT), .val (.int pb), .val (.int (0 : Int32))] [(.int pb), (.ref r_SUBTRACT)])) rfl (by rw [hml]; rfl) (argsL := [(.int pb)]) (rest := []) (lenOf pd_1 rfl) rfl rfl (Nat.le_refl _) (hb hby at_97)
        obtain ⟨rfl, n85, K85⟩ := q85
        have N85 := Fr.app N81 n85
        refine Goes.go (U' := (T85.setTop (mkF m 100 #[.val (.int pa), .val (.int pb), .val (.int pc), .val (.int (10 : Int32)), .val (.ref r_SUBTRACT), .val (.int pb), .val (.int (0 : Int32))] [(.int (0 : Int32))]))) st85 ?_
        refine Goes.go (U' := (T85.setTop (mkF m 110 #[.val (.int pa), .val (.int pb), .val (.int pc), .val (.int (10 : Int32)), .val (.ref r_SUBTRACT), .val (.int pb), .val (.int (0 : Int32))] [(.int (1 : Int32))]))) (fun t kt => ?_) ?_
        · show Steps p.tables e below (T85.setTop (mkF m 100 #[.val (.int pa), .val (.int pb), .val (.int pc), .val (.int (10 : Int32)), .val (.ref r_SUBTRACT), .val (.int pb), .val (.int (0 : Int32))] [(.int (0 : Int32))])) t
          refine XS.iload X85.here hx rfl (hb hby at_100) rfl ?_
          show Steps p.tables e below (T85.setTop (mkF m 102 #[.val (.int pa), .val (.int pb), .val (.int pc), .val (.int (10 : Int32)), .val (.ref r_SUBTRACT), .val (.int pb), .val (.int (0 : Int32))] [(.int (0 : Int32)), (.int (0 : Int32))])) t
          refine XS.icmpNo X85.here hx rfl (hb hby at_102) rfl (XT.ii_ne_f (by decide)) ?_
          show Steps p.tables e below (T85.setTop (mkF m 105 #[.val (.int pa), .val (.int pb), .val (.int pc), .val (.int (10 : Int32)), .val (.ref r_SUBTRACT), .val (.int pb), .val (.int (0 : Int32))] [])) t
          refine XS.iconst X85.here hx rfl (hb hby at_105) ?_
          show Steps p.tables e below (T85.setTop (mkF m 106 #[.val (.int pa), .val (.int pb), .val (.int pc), .val (.int (10 : Int32)), .val (.ref r_SUBTRACT), .val (.int pb), .val (.int (0 : Int32))] [(.int (1 : Int32))])) t
          refine XS.goto X85.here hx rfl (pc0 := 106) (pc' := 110) rfl (hb hby at_106) (by decide) (by decide) ?_
          exact kt
        refine Goes.retB X85 hx hlk hret (hb hby at_110) (by decide) (by decide) ?_
        try rw [K85]
        exact ⟨rfl, N85⟩
    · -- not (pc &&& (1 : Int32)) = 0
      refine Goes.go (U' := (T81.setTop (mkF m 83 #[.val (.int pa), .val (.int pb), .val (.int pc), .val (.int (10 : Int32)), .val (.ref r_SUBTRACT), .val (.int ((pb &&& (7 : Int32)) - (2 : Int32))), .unset] [(.int (2 : Int32)), (.int ((pb &&& (7 : Int32)) - (2 : Int32)))]))) (fun t kt => ?_) ?_
      · show Steps p.tables e below (T81.setTop (mkF m 17 #[.val (.int pa), .val (.int pb), .val (.int pc), .val (.int (10 : Int32)), .val (.ref r_SUBTRACT), .unset, .unset] [(.int (pc &&& (1 : Int32)))])) t
        refine XS.ifNo X81.here hx rfl (hb hby at_17) rfl (XT.i0_eq_f c82) ?_
        show Steps p.tables e below (T81.setTop (mkF m 20 #[.val (.int pa), .val (.int pb), .val (.int pc), .val (.int (10 : Int32)), .val (.ref r_SUBTRACT), .unset, .unset] [])) t
        refine XS.iloadN X81.here hx rfl (hb hby at_20) rfl ?_
        show Steps p.tables e below (T81.setTop (mkF m 21 #[.val (.int pa), .val (.int pb), .val (.int pc), .val (.int (10 : Int32)), .val (.ref r_SUBTRACT), .unset, .unset] [(.int pb)])) t
        refine XS.bipush X81.here hx rfl (hb hby at_21) ?_
        show Steps p.tables e below (T81.setTop (mkF m 23 #[.val (.int pa), .val (.int pb), .val (.int pc), .val (.int (10 : Int32)), .val (.ref r_SUBTRACT), .unset, .unset] [(.int (7 : Int32)), (.int pb)])) t
        refine XS.iand X81.here hx rfl (hb hby at_23) rfl ?_
        show Steps p.tables e below (T81.setTop (mkF m 24 #[.val (.int pa), .val (.int pb), .val (.int pc), .val (.int (10 : Int32)), .val (.ref r_SUBTRACT), .unset, .unset] [(.int (pb &&& (7 : Int32)))])) t
        refine XS.iconst X81.here hx rfl (hb hby at_24) ?_
        show Steps p.tables e below (T81.setTop (mkF m 25 #[.val (.int pa), .val (.int pb), .val (.int pc), .val (.int (10 : Int32)), .val (.ref r_SUBTRACT), .unset, .unset] [(.int (2 : Int32)), (.int (pb &&& (7 : Int32)))])) t
        refine XS.isub X81.here hx rfl (hb hby at_25) rfl ?_
        show Steps p.tables e below (T81.setTop (mkF m 26 #[.val (.int pa), .val (.int pb), .val (.int pc), .val (.int (10 : Int32)), .val (.ref r_SUBTRACT), .unset, .unset] [(.int ((pb &&& (7 : Int32)) - (2 : Int32)))])) t
        refine XS.istore X81.here hx rfl (hb hby at_26) rfl (l' := #[.val (.int pa), .val (.int pb), .val (.int pc), .val (.int (10 : Int32)), .val (.ref r_SUBTRACT), .val (.int ((pb &&& (7 : Int32)) - (2 : Int32))), .unset]) rfl ?_
        show Steps p.tables e below (T81.setTop (mkF m 28 #[.val (.int pa), .val (.int pb), .val (.int pc), .val (.int (10 : Int32)), .val (.ref r_SUBTRACT), .val (.int ((pb &&& (7 : Int32)) - (2 : Int32))), .unset] [])) t
        refine XS.goto X81.here hx rfl (pc0 := 28) (pc' := 34) rfl (hb hby at_28) (by decide) (by decide) ?_
        show Steps p.tables e below (T81.setTop (mkF m 34 #[.val (.int pa), .val (.int pb), .val (.int pc), .val (.int (10 : Int32)), .val (.ref r_SUBTRACT), .val (.int ((pb &&& (7 : Int32)) - (2 : Int32))), .unset] [])) t
        refine XS.iloadN X81.here hx rfl (hb hby at_34) rfl ?_
        show Steps p.tables e below (T81.setTop (mkF m 35 #[.val (.int pa), .val (.int pb), .val (.int pc), .val (.int (10 : Int32)), .val (.ref r_SUBTRACT), .val (.int ((pb &&& (7 : Int32)) - (2 : Int32))), .unset] [(.int (10 : Int32))])) t
        refine XS.ifNo X81.here hx rfl (hb hby at_35) rfl (XT.i0_eq_f (by decide)) ?_
        show Steps p.tables e below (T81.setTop (mkF m 38 #[.val (.int pa), .val (.int pb), .val (.int pc), .val (.int (10 : Int32)), .val (.ref r_SUBTRACT), .val (.int ((pb &&& (7 : Int32)) - (2 : Int32))), .unset] [])) t
        refine XS.iloadN X81.here hx rfl (hb hby at_38) rfl ?_
        show Steps p.tables e below (T81.setTop (mkF m 39 #[.val (.int pa), .val (.int pb), .val (.int pc), .val (.int (10 : Int32)), .val (.ref r_SUBTRACT), .val (.int ((pb &&& (7 : Int32)) - (2 : Int32))), .unset] [(.int (10 : Int32))])) t
        refine XS.iconst X81.here hx rfl (hb hby at_39) ?_
        show Steps p.tables e below (T81.setTop (mkF m 40 #[.val (.int pa), .val (.int pb), .val (.int pc), .val (.int (10 : Int32)), .val (.ref r_SUBTRACT), .val (.int ((pb &&& (7 : Int32)) - (2 : Int32))), .unset] [(.int (1 : Int32)), (.int (10 : Int32))])) t
        refine XS.icmpYes X81.here hx rfl (pc0 := 40) (pc' := 59) rfl (hb hby at_40) rfl (XT.ii_ne_t (by decide)) (by decide) (by decide) ?_
        show Steps p.tables e below (T81.setTop (mkF m 59 #[.val (.int pa), .val (.int pb), .val (.int pc), .val (.int (10 : Int32)), .val (.ref r_SUBTRACT), .val (.int ((pb &&& (7 : Int32)) - (2 : Int32))), .unset] [])) t
        refine XS.iloadN X81.here hx rfl (hb hby at_59) rfl ?_
        show Steps p.tables e below (T81.setTop (mkF m 60 #[.val (.int pa), .val (.int pb), .val (.int pc), .val (.int (10 : Int32)), .val (.ref r_SUBTRACT), .val (.int ((pb &&& (7 : Int32)) - (2 : Int32))), .unset] [(.int (10 : Int32))])) t
        refine XS.iconst X81.here hx rfl (hb hby at_60) ?_
        show Steps p.tables e below (T81.setTop (mkF m 61 #[.val (.int pa), .val (.int pb), .val (.int pc), .val (.int (10 : Int32)), .val (.ref r_SUBTRACT), .val (.int ((pb &&& (7 : Int32)) - (2 : Int32))), .unset] [(.int (2 : Int32)), (.int (10 : Int32))])) t
        refine XS.icmpYes X81.here hx rfl (pc0 := 61) (pc' := 80) rfl (hb hby at_61) rfl (XT.ii_ne_t (by decide)) (by decide) (by decide) ?_
        show Steps p.tables e below (T81.setTop (mkF m 80 #[.val (.int pa), .val (.int pb), .val (.int pc), .val (.int (10 : Int32)), .val (.ref r_SUBTRACT), .val (.int ((pb &&& (7 : Int32)) - (2 : Int32))), .unset] [])) t
        refine XS.iload X81.here hx rfl (hb hby at_80) rfl ?_
        show Steps p.tables e below (T81.setTop (mkF m 82 #[.val (.int pa), .val (.int pb), .val (.int pc), .val (.int (10 : Int32)), .val (.ref r_SUBTRACT), .val (.int ((pb &&& (7 : Int32)) - (2 : Int32))), .unset] [(.int ((pb &&& (7 : Int32)) - (2 : Int32)))])) t
        refine XS.iconst X81.here hx rfl (hb hby at_82) ?_
        exact kt
      by_cases c86 : ((pb &&& (7 : Int32)) - (2 : Int32)) = (2 : Int32)
      · -- ((pb &&& (7 : Int32)) - (2 : Int32)) = (2 : Int32)
        refine Goes.go (U' := (T81.setTop (mkF m 97 #[.val (.int pa), .val (.int pb), .val (.int pc), .val (.int (10 : Int32)), .val (.ref r_SUBTRACT), .val (.int ((pb &&& (7 : Int32)) - (2 : Int32))), .val (.int (1 : Int32))] [(.int ((pb &&& (7 : Int32)) - (2 : Int32))), (.ref r_SUBTRACT)]))) (fun t kt => ?_) ?_
        · show Steps p.tables e below (T81.setTop (mkF m 83 #[.val (.int pa), .val (.int pb), .val (.int pc), .val (.int (10 : Int32)), .val (.ref r_SUBTRACT), .val (.int ((pb &&& (7 : Int32)) - (2 : Int32))), .unset] [(.int (2 : Int32)), (.int ((pb &&& (7 : Int32)) - (2 : Int32)))])) t
          refine XS.icmpNo X81.here hx rfl (hb hby at_83) rfl (XT.ii_ne_f c86) ?_
          show Steps p.tables e below (T81.setTop (mkF m 86 #[.val (.int pa), .val (.int pb), .val (.int pc), .val (.int (10 : Int32)), .val (.ref r_SUBTRACT), .val (.int ((pb &&& (7 : Int32)) - (2 : Int32))), .unset] [])) t
          refine XS.iconst X81.here hx rfl (hb hby at_86) ?_
          show Steps p.tables e below (T81.setTop (mkF m 87 #[.val (.int pa), .val (.int pb), .val (.int pc), .val (.int (10 : Int32)), .val (.ref r_SUBTRACT), .val (.int ((pb &&& (7 : Int32)) - (2 : Int32))), .unset] [(.int (1 : Int32))])) t
          refine XS.goto X81.here hx rfl (pc0 := 87) (pc' := 91) rfl (hb hby at_87) (by decide) (by decide) ?_
          show Steps p.tables e below (T81.setTop (mkF m 91 #[.val (.int pa), .val (.int pb), .val (.int pc), .val (.int (10 : Int32)), .val (.ref r_SUBTRACT), .val (.int ((pb &&& (7 : Int32)) - (2 : Int32))), .unset] [(.int (1 : Int32))])) t
          refine XS.istore X81.here hx rfl (hb hby at_91) rfl (l' := #[.val (.int pa), .val (.int pb), .val (.int pc), .val (.int (10 : Int32)), .val (.ref r_SUBTRACT), .val (.int ((pb &&& (7 : Int32)) - (2 : Int32))), .val (.int (1 : Int32))]) rfl ?_
          show Steps p.tables e below (T81.setTop (mkF m 93 #[.val (.int pa), .val (.int pb), .val (.int pc), .val (.int (10 : Int32)), .val (.ref r_SUBTRACT), .val (.int ((pb &&& (7 : Int32)) - (2 : Int32))), .val (.int (1 : Int32))] [])) t
          refine XS.aload X81.here hx rfl (hb hby at_93) rfl rfl ?_
          show Steps p.tables e below (T81.setTop (mkF m 95 #[.val (.int pa), .val (.int pb), .val (.int pc), .val (.int (10 : Int32)), .val (.ref r_SUBTRACT), .val (.int ((pb &&& (7 : Int32)) - (2 : Int32))), .val (.int (1 : Int32))] [(.ref r_SUBTRACT)])) t
          refine XS.iload X81.here hx rfl (hb hby at_95) rfl ?_
          exact kt
        obtain ⟨v87, T87, L87, X87, q87, st87⟩ := callVirtual X81 hx hZ (y := (⟨"com/example/thistle/thistle/language/Operator", "admits", "(I)Z"⟩ : MethodName)) (z := (⟨"com/example/thistle/thistle/language/Operator", "admits", "(I)Z"⟩ : MethodName)) (W := 0) hown (wdOf hw 8 rfl) (wdOf hw 9 rfl) (notFace_of_selects (args := #[]) (mvT hZ (wdOf hw 11 rfl))) (wdOf hw 11 rfl) (wdOf hw 10 rfl) (wdOf hw 6 rfl) (wdOf hw 12 rfl) (by decide) (rm_adm l Z a0 hw [] r_SUBTRACT ((pb &&& (7 : Int32)) - (2 : Int32)) (2 : Int32) (2 : Int32) (1 : Int32) h0 n0 Z0 F_fewestArguments_SUBTRACT F_mostArguments_SUBTRACT ((if_neg (own_eq c86)).symm)) (by decide) (by decide) (by decide) (by decide) K81 E_SUBTRACT (g := (mkF m 97 #[.val (.int pa), .val (.int pb), .val (.int pc), .val (.int (10 : Int32)), .val (.ref r_SUBTRACT), .val (.int ((pb &&& (7 : Int32)) - (2 : Int32))), .val (.int (1 : Int32))] [(.int ((pb &&& (7 : Int32)) - (2 : Int32))), (.ref r_SUBTRACT)])) rfl (by rw [hml]; rfl) (argsL := [(.int ((pb &&& (7 : Int32)) - (2 : Int32)))]) (rest := []) (lenOf pd_1 rfl) rfl rfl (Nat.le_refl _) (hb hby at_97)
        obtain ⟨rfl, n87, K87⟩ := q87
        have N87 := Fr.app N81 n87
        refine Goes.go (U' := (T87.setTop (mkF m 100 #[.val (.int pa), .val (.int pb), .val (.int pc), .val (.int (10 : Int32)), .val (.ref r_SUBTRACT), .val (.int ((pb &&& (7 : Int32)) - (2 : Int32))), .val (.int (1 : Int32))] [(.int (1 : Int32))]))) st87 ?_
        refine Goes.go (U' := (T87.setTop (mkF m 110 #[.val (.int pa), .val (.int pb), .val (.int pc), .val (.int (10 : Int32)), .val (.ref r_SUBTRACT), .val (.int ((pb &&& (7 : Int32)) - (2 : Int32))), .val (.int (1 : Int32))] [(.int (1 : Int32))]))) (fun t kt => ?_) ?_
        · show Steps p.tables e below (T87.setTop (mkF m 100 #[.val (.int pa), .val (.int pb), .val (.int pc), .val (.int (10 : Int32)), .val (.ref r_SUBTRACT), .val (.int ((pb &&& (7 : Int32)) - (2 : Int32))), .val (.int (1 : Int32))] [(.int (1 : Int32))])) t
          refine XS.iload X87.here hx rfl (hb hby at_100) rfl ?_
          show Steps p.tables e below (T87.setTop (mkF m 102 #[.val (.int pa), .val (.int pb), .val (.int pc), .val (.int (10 : Int32)), .val (.ref r_SUBTRACT), .val (.int ((pb &&& (7 : Int32)) - (2 : Int32))), .val (.int (1 : Int32))] [(.int (1 : Int32)), (.int (1 : Int32))])) t
          refine XS.icmpNo X87.here hx rfl (hb hby at_102) rfl (XT.ii_ne_f (by decide)) ?_
          show Steps p.tables e below (T87.setTop (mkF m 105 #[.val (.int pa), .val (.int pb), .val (.int pc), .val (.int (10 : Int32)), .val (.ref r_SUBTRACT), .val (.int ((pb &&& (7 : Int32)) - (2 : Int32))), .val (.int (1 : Int32))] [])) t
          refine XS.iconst X87.here hx rfl (hb hby at_105) ?_
          show Steps p.tables e below (T87.setTop (mkF m 106 #[.val (.int pa), .val (.int pb), .val (.int pc), .val (.int (10 : Int32)), .val (.ref r_SUBTRACT), .val (.int ((pb &&& (7 : Int32)) - (2 : Int32))), .val (.int (1 : Int32))] [(.int (1 : Int32))])) t
          refine XS.goto X87.here hx rfl (pc0 := 106) (pc' := 110) rfl (hb hby at_106) (by decide) (by decide) ?_
          exact kt
        refine Goes.retB X87 hx hlk hret (hb hby at_110) (by decide) (by decide) ?_
        try rw [K87]
        exact ⟨rfl, N87⟩
      · -- not ((pb &&& (7 : Int32)) - (2 : Int32)) = (2 : Int32)
        refine Goes.go (U' := (T81.setTop (mkF m 97 #[.val (.int pa), .val (.int pb), .val (.int pc), .val (.int (10 : Int32)), .val (.ref r_SUBTRACT), .val (.int ((pb &&& (7 : Int32)) - (2 : Int32))), .val (.int (0 : Int32))] [(.int ((pb &&& (7 : Int32)) - (2 : Int32))), (.ref r_SUBTRACT)]))) (fun t kt => ?_) ?_
        · show Steps p.tables e below (T81.setTop (mkF m 83 #[.val (.int pa), .val (.int pb), .val (.int pc), .val (.int (10 : Int32)), .val (.ref r_SUBTRACT), .val (.int ((pb &&& (7 : Int32)) - (2 : Int32))), .unset] [(.int (2 : Int32)), (.int ((pb &&& (7 : Int32)) - (2 : Int32)))])) t
          refine XS.icmpYes X81.here hx rfl (pc0 := 83) (pc' := 90) rfl (hb hby at_83) rfl (XT.ii_ne_t c86) (by decide) (by decide) ?_
          show Steps p.tables e below (T81.setTop (mkF m 90 #[.val (.int pa), .val (.int pb), .val (.int pc), .val (.int (10 : Int32)), .val (.ref r_SUBTRACT), .val (.int ((pb &&& (7 : Int32)) - (2 : Int32))), .unset] [])) t
          refine XS.iconst X81.here hx rfl (hb hby at_90) ?_
          show Steps p.tables e below (T81.setTop (mkF m 91 #[.val (.int pa), .val (.int pb), .val (.int pc), .val (.int (10 : Int32)), .val (.ref r_SUBTRACT), .val (.int ((pb &&& (7 : Int32)) - (2 : Int32))), .unset] [(.int (0 : Int32))])) t
          refine XS.istore X81.here hx rfl (hb hby at_91) rfl (l' := #[.val (.int pa), .val (.int pb), .val (.int pc), .val (.int (10 : Int32)), .val (.ref r_SUBTRACT), .val (.int ((pb &&& (7 : Int32)) - (2 : Int32))), .val (.int (0 : Int32))]) rfl ?_
          show Steps p.tables e below (T81.setTop (mkF m 93 #[.val (.int pa), .val (.int pb), .val (.int pc), .val (.int (10 : Int32)), .val (.ref r_SUBTRACT), .val (.int ((pb &&& (7 : Int32)) - (2 : Int32))), .val (.int (0 : Int32))] [])) t
          refine XS.aload X81.here hx rfl (hb hby at_93) rfl rfl ?_
          show Steps p.tables e below (T81.setTop (mkF m 95 #[.val (.int pa), .val (.int pb), .val (.int pc), .val (.int (10 : Int32)), .val (.ref r_SUBTRACT), .val (.int ((pb &&& (7 : Int32)) - (2 : Int32))), .val (.int (0 : Int32))] [(.ref r_SUBTRACT)])) t
          refine XS.iload X81.here hx rfl (hb hby at_95) rfl ?_
          exact kt
        obtain ⟨v88, T88, L88, X88, q88, st88⟩ := callVirtual X81 hx hZ (y := (⟨"com/example/thistle/thistle/language/Operator", "admits", "(I)Z"⟩ : MethodName)) (z := (⟨"com/example/thistle/thistle/language/Operator", "admits", "(I)Z"⟩ : MethodName)) (W := 0) hown (wdOf hw 8 rfl) (wdOf hw 9 rfl) (notFace_of_selects (args := #[]) (mvT hZ (wdOf hw 11 rfl))) (wdOf hw 11 rfl) (wdOf hw 10 rfl) (wdOf hw 6 rfl) (wdOf hw 12 rfl) (by decide) (rm_adm l Z a0 hw [] r_SUBTRACT ((pb &&& (7 : Int32)) - (2 : Int32)) (2 : Int32) (2 : Int32) (0 : Int32) h0 n0 Z0 F_fewestArguments_SUBTRACT F_mostArguments_SUBTRACT ((if_pos (own_ne c86)).symm)) (by decide) (by decide) (by decide) (by decide) K81 E_SUBTRACT (g := (mkF m 97 #[.val (.int pa), .val (.int pb), .val (.int pc), .val (.int (10 : Int32)), .val (.ref r_SUBTRACT), .val (.int ((pb &&& (7 : Int32)) - (2 : Int32))), .val (.int (0 : Int32))] [(.int ((pb &&& (7 : Int32)) - (2 : Int32))), (.ref r_SUBTRACT)])) rfl (by rw [hml]; rfl) (argsL := [(.int ((pb &&& (7 : Int32)) - (2 : Int32)))]) (rest := []) (lenOf pd_1 rfl) rfl rfl (Nat.le_refl _) (hb hby at_97)
        obtain ⟨rfl, n88, K88⟩ := q88
        have N88 := Fr.app N81 n88
        refine Goes.go (U' := (T88.setTop (mkF m 100 #[.val (.int pa), .val (.int pb), .val (.int pc), .val (.int (10 : Int32)), .val (.ref r_SUBTRACT), .val (.int ((pb &&& (7 : Int32)) - (2 : Int32))), .val (.int (0 : Int32))] [(.int (0 : Int32))]))) st88 ?_
        refine Goes.go (U' := (T88.setTop (mkF m 110 #[.val (.int pa), .val (.int pb), .val (.int pc), .val (.int (10 : Int32)), .val (.ref r_SUBTRACT), .val (.int ((pb &&& (7 : Int32)) - (2 : Int32))), .val (.int (0 : Int32))] [(.int (1 : Int32))]))) (fun t kt => ?_) ?_
        · show Steps p.tables e below (T88.setTop (mkF m 100 #[.val (.int pa), .val (.int pb), .val (.int pc), .val (.int (10 : Int32)), .val (.ref r_SUBTRACT), .val (.int ((pb &&& (7 : Int32)) - (2 : Int32))), .val (.int (0 : Int32))] [(.int (0 : Int32))])) t
          refine XS.iload X88.here hx rfl (hb hby at_100) rfl ?_
          show Steps p.tables e below (T88.setTop (mkF m 102 #[.val (.int pa), .val (.int pb), .val (.int pc), .val (.int (10 : Int32)), .val (.ref r_SUBTRACT), .val (.int ((pb &&& (7 : Int32)) - (2 : Int32))), .val (.int (0 : Int32))] [(.int (0 : Int32)), (.int (0 : Int32))])) t
          refine XS.icmpNo X88.here hx rfl (hb hby at_102) rfl (XT.ii_ne_f (by decide)) ?_
          show Steps p.tables e below (T88.setTop (mkF m 105 #[.val (.int pa), .val (.int pb), .val (.int pc), .val (.int (10 : Int32)), .val (.ref r_SUBTRACT), .val (.int ((pb &&& (7 : Int32)) - (2 : Int32))), .val (.int (0 : Int32))] [])) t
          refine XS.iconst X88.here hx rfl (hb hby at_105) ?_
          show Steps p.tables e below (T88.setTop (mkF m 106 #[.val (.int pa), .val (.int pb), .val (.int pc), .val (.int (10 : Int32)), .val (.ref r_SUBTRACT), .val (.int ((pb &&& (7 : Int32)) - (2 : Int32))), .val (.int (0 : Int32))] [(.int (1 : Int32))])) t
          refine XS.goto X88.here hx rfl (pc0 := 106) (pc' := 110) rfl (hb hby at_106) (by decide) (by decide) ?_
          exact kt
        refine Goes.retB X88 hx hlk hret (hb hby at_110) (by decide) (by decide) ?_
        try rw [K88]
        exact ⟨rfl, N88⟩
  · -- case 11
    rw [hk]
    refine Goes.go (U' := (s₁.setTop (mkF m 9 #[.val (.int pa), .val (.int pb), .val (.int pc), .val (.int (11 : Int32)), .unset, .unset, .unset] [(.int (11 : Int32))]))) (fun t kt => ?_) ?_
    · show Steps p.tables e below (s₁.setTop (mkF m 7 #[.val (.int pa), .val (.int pb), .val (.int pc), .unset, .unset, .unset, .unset] [(.int (11 : Int32))])) t
      refine XS.istoreN X0.here hx rfl (hb hby at_7) rfl (l' := #[.val (.int pa), .val (.int pb), .val (.int pc), .val (.int (11 : Int32)), .unset, .unset, .unset]) rfl ?_
      show Steps p.tables e below (s₁.setTop (mkF m 8 #[.val (.int pa), .val (.int pb), .val (.int pc), .val (.int (11 : Int32)), .unset, .unset, .unset] [])) t
      refine XS.iloadN X0.here hx rfl (hb hby at_8) rfl ?_
      exact kt
    obtain ⟨v89, T89, L89, X89, q89, st89⟩ := callStatic X0 hx hZ (y := (⟨"com/example/thistle/thistle/language/OperatorAdmitsPinLaw", "pick", "(I)Lcom/example/thistle/thistle/language/Operator;"⟩ : MethodName)) (W := 0) hown (wdOf hw 1 rfl) (wdOf hw 2 rfl) (wdOf hw 3 rfl) (wdOf hw 4 rfl) (by decide) (rm_pick l Z a0 hw [] (11 : Int32) r_MULTIPLY r_AND r_OR r_NOT r_EQUAL r_IN r_GREATER_THAN r_LESS_THAN r_GREATER_THAN_OR_EQUAL r_LESS_THAN_OR_EQUAL r_ADD r_SUBTRACT r_MULTIPLY r_DIVIDE h0 n0 Z0 S_AND S_OR S_NOT S_EQUAL S_IN S_GREATER_THAN S_LESS_THAN S_GREATER_THAN_OR_EQUAL S_LESS_THAN_OR_EQUAL S_ADD S_SUBTRACT S_MULTIPLY S_DIVIDE (by simp)) (by decide) (by decide) (by decide) (by decide) e0 (g := (mkF m 9 #[.val (.int pa), .val (.int pb), .val (.int pc), .val (.int (11 : Int32)), .unset, .unset, .unset] [(.int (11 : Int32))])) rfl (by rw [hml]; rfl) (argsL := [(.int (11 : Int32))]) (rest := []) (lenOf pd_0 rfl) rfl rfl (Nat.le_refl _) (hb hby at_9)
    obtain ⟨rfl, n89, K89⟩ := q89
    have N89 := Fr.app N0 n89
    refine Goes.go (U' := (T89.setTop (mkF m 12 #[.val (.int pa), .val (.int pb), .val (.int pc), .val (.int (11 : Int32)), .unset, .unset, .unset] [(.ref r_MULTIPLY)]))) st89 ?_
    refine Goes.go (U' := (T89.setTop (mkF m 17 #[.val (.int pa), .val (.int pb), .val (.int pc), .val (.int (11 : Int32)), .val (.ref r_MULTIPLY), .unset, .unset] [(.int (pc &&& (1 : Int32)))]))) (fun t kt => ?_) ?_
    · show Steps p.tables e below (T89.setTop (mkF m 12 #[.val (.int pa), .val (.int pb), .val (.int pc), .val (.int (11 : Int32)), .unset, .unset, .unset] [(.ref r_MULTIPLY)])) t
      refine XS.astore X89.here hx rfl (hb hby at_12) rfl rfl (l' := #[.val (.int pa), .val (.int pb), .val (.int pc), .val (.int (11 : Int32)), .val (.ref r_MULTIPLY), .unset, .unset]) rfl ?_
      show Steps p.tables e below (T89.setTop (mkF m 14 #[.val (.int pa), .val (.int pb), .val (.int pc), .val (.int (11 : Int32)), .val (.ref r_MULTIPLY), .unset, .unset] [])) t
      refine XS.iloadN X89.here hx rfl (hb hby at_14) rfl ?_
      show Steps p.tables e below (T89.setTop (mkF m 15 #[.val (.int pa), .val (.int pb), .val (.int pc), .val (.int (11 : Int32)), .val (.ref r_MULTIPLY), .unset, .unset] [(.int pc)])) t
      refine XS.iconst X89.here hx rfl (hb hby at_15) ?_
      show Steps p.tables e below (T89.setTop (mkF m 16 #[.val (.int pa), .val (.int pb), .val (.int pc), .val (.int (11 : Int32)), .val (.ref r_MULTIPLY), .unset, .unset] [(.int (1 : Int32)), (.int pc)])) t
      refine XS.iand X89.here hx rfl (hb hby at_16) rfl ?_
      exact kt
    by_cases c90 : (pc &&& (1 : Int32)) = 0
    · -- (pc &&& (1 : Int32)) = 0
      refine Goes.go (U' := (T89.setTop (mkF m 83 #[.val (.int pa), .val (.int pb), .val (.int pc), .val (.int (11 : Int32)), .val (.ref r_MULTIPLY), .val (.int pb), .unset] [(.int (2 : Int32)), (.int pb)]))) (fun t kt => ?_) ?_
      · show Steps p.tables e below (T89.setTop (mkF m 17 #[.val (.int pa), .val (.int pb), .val (.int pc), .val (.int (11 : Int32)), .val (.ref r_MULTIPLY), .unset, .unset] [(.int (pc &&& (1 : Int32)))])) t
        refine XS.ifYes X89.here hx rfl (pc0 := 17) (pc' := 31) rfl (hb hby at_17) rfl (XT.i0_eq_t c90) (by decide) (by decide) ?_
        show Steps p.tables e below (T89.setTop (mkF m 31 #[.val (.int pa), .val (.int pb), .val (.int pc), .val (.int (11 : Int32)), .val (.ref r_MULTIPLY), .unset, .unset] [])) t
        refine XS.iloadN X89.here hx rfl (hb hby at_31) rfl ?_
        show Steps p.tables e below (T89.setTop (mkF m 32 #[.val (.int pa), .val (.int pb), .val (.int pc), .val (.int (11 : Int32)), .val (.ref r_MULTIPLY), .unset, .unset] [(.int pb)])) t
        refine XS.istore X89.here hx rfl (hb hby at_32) rfl (l' := #[.val (.int pa), .val (.int pb), .val (.int pc), .val (.int (11 : Int32)), .val (.ref r_MULTIPLY), .val (.int pb), .unset]) rfl ?_
        show Steps p.tables e below (T89.setTop (mkF m 34 #[.val (.int pa), .val (.int pb), .val (.int pc), .val (.int (11 : Int32)), .val (.ref r_MULTIPLY), .val (.int pb), .unset] [])) t
        refine XS.iloadN X89.here hx rfl (hb hby at_34) rfl ?_
        show Steps p.tables e below (T89.setTop (mkF m 35 #[.val (.int pa), .val (.int pb), .val (.int pc), .val (.int (11 : Int32)), .val (.ref r_MULTIPLY), .val (.int pb), .unset] [(.int (11 : Int32))])) t
        refine XS.ifNo X89.here hx rfl (hb hby at_35) rfl (XT.i0_eq_f (by decide)) ?_
        show Steps p.tables e below (T89.setTop (mkF m 38 #[.val (.int pa), .val (.int pb), .val (.int pc), .val (.int (11 : Int32)), .val (.ref r_MULTIPLY), .val (.int pb), .unset] [])) t
        refine XS.iloadN X89.here hx rfl (hb hby at_38) rfl ?_
        show Steps p.tables e below (T89.setTop (mkF m 39 #[.val (.int pa), .val (.int pb), .val (.int pc), .val (.int (11 : Int32)), .val (.ref r_MULTIPLY), .val (.int pb), .unset] [(.int (11 : Int32))])) t
        refine XS.iconst X89.here hx rfl (hb hby at_39) ?_
        show Steps p.tables e below (T89.setTop (mkF m 40 #[.val (.int pa), .val (.int pb), .val (.int pc), .val (.int (11 : Int32)), .val (.ref r_MULTIPLY), .val (.int pb), .unset] [(.int (1 : Int32)), (.int (11 : Int32))])) t
        refine XS.icmpYes X89.here hx rfl (pc0 := 40) (pc' := 59) rfl (hb hby at_40) rfl (XT.ii_ne_t (by decide)) (by decide) (by decide) ?_
        show Steps p.tables e below (T89.setTop (mkF m 59 #[.val (.int pa), .val (.int pb), .val (.int pc), .val (.int (11 : Int32)), .val (.ref r_MULTIPLY), .val (.int pb), .unset] [])) t
        refine XS.iloadN X89.here hx rfl (hb hby at_59) rfl ?_
        show Steps p.tables e below (T89.setTop (mkF m 60 #[.val (.int pa), .val (.int pb), .val (.int pc), .val (.int (11 : Int32)), .val (.ref r_MULTIPLY), .val (.int pb), .unset] [(.int (11 : Int32))])) t
        refine XS.iconst X89.here hx rfl (hb hby at_60) ?_
        show Steps p.tables e below (T89.setTop (mkF m 61 #[.val (.int pa), .val (.int pb), .val (.int pc), .val (.int (11 : Int32)), .val (.ref r_MULTIPLY), .val (.int pb), .unset] [(.int (2 : Int32)), (.int (11 : Int32))])) t
        refine XS.icmpYes X89.here hx rfl (pc0 := 61) (pc' := 80) rfl (hb hby at_61) rfl (XT.ii_ne_t (by decide)) (by decide) (by decide) ?_
        show Steps p.tables e below (T89.setTop (mkF m 80 #[.val (.int pa), .val (.int pb), .val (.int pc), .val (.int (11 : Int32)), .val (.ref r_MULTIPLY), .val (.int pb), .unset] [])) t
        refine XS.iload X89.here hx rfl (hb hby at_80) rfl ?_
        show Steps p.tables e below (T89.setTop (mkF m 82 #[.val (.int pa), .val (.int pb), .val (.int pc), .val (.int (11 : Int32)), .val (.ref r_MULTIPLY), .val (.int pb), .unset] [(.int pb)])) t
        refine XS.iconst X89.here hx rfl (hb hby at_82) ?_
        exact kt
      by_cases c91 : pb = (2 : Int32)
      · -- pb = (2 : Int32)
        refine Goes.go (U' := (T89.setTop (mkF m 97 #[.val (.int pa), .val (.int pb), .val (.int pc), .val (.int (11 : Int32)), .val (.ref r_MULTIPLY), .val (.int pb), .val (.int (1 : Int32))] [(.int pb), (.ref r_MULTIPLY)]))) (fun t kt => ?_) ?_
        · show Steps p.tables e below (T89.setTop (mkF m 83 #[.val (.int pa), .val (.int pb), .val (.int pc), .val (.int (11 : Int32)), .val (.ref r_MULTIPLY), .val (.int pb), .unset] [(.int (2 : Int32)), (.int pb)])) t
          refine XS.icmpNo X89.here hx rfl (hb hby at_83) rfl (XT.ii_ne_f c91) ?_
          show Steps p.tables e below (T89.setTop (mkF m 86 #[.val (.int pa), .val (.int pb), .val (.int pc), .val (.int (11 : Int32)), .val (.ref r_MULTIPLY), .val (.int pb), .unset] [])) t
          refine XS.iconst X89.here hx rfl (hb hby at_86) ?_
          show Steps p.tables e below (T89.setTop (mkF m 87 #[.val (.int pa), .val (.int pb), .val (.int pc), .val (.int (11 : Int32)), .val (.ref r_MULTIPLY), .val (.int pb), .unset] [(.int (1 : Int32))])) t
          refine XS.goto X89.here hx rfl (pc0 := 87) (pc' := 91) rfl (hb hby at_87) (by decide) (by decide) ?_
          show Steps p.tables e below (T89.setTop (mkF m 91 #[.val (.int pa), .val (.int pb), .val (.int pc), .val (.int (11 : Int32)), .val (.ref r_MULTIPLY), .val (.int pb), .unset] [(.int (1 : Int32))])) t
          refine XS.istore X89.here hx rfl (hb hby at_91) rfl (l' := #[.val (.int pa), .val (.int pb), .val (.int pc), .val (.int (11 : Int32)), .val (.ref r_MULTIPLY), .val (.int pb), .val (.int (1 : Int32))]) rfl ?_
          show Steps p.tables e below (T89.setTop (mkF m 93 #[.val (.int pa), .val (.int pb), .val (.int pc), .val (.int (11 : Int32)), .val (.ref r_MULTIPLY), .val (.int pb), .val (.int (1 : Int32))] [])) t
          refine XS.aload X89.here hx rfl (hb hby at_93) rfl rfl ?_
          show Steps p.tables e below (T89.setTop (mkF m 95 #[.val (.int pa), .val (.int pb), .val (.int pc), .val (.int (11 : Int32)), .val (.ref r_MULTIPLY), .val (.int pb), .val (.int (1 : Int32))] [(.ref r_MULTIPLY)])) t
          refine XS.iload X89.here hx rfl (hb hby at_95) rfl ?_
          exact kt
        obtain ⟨v92, T92, L92, X92, q92, st92⟩ := callVirtual X89 hx hZ (y := (⟨"com/example/thistle/thistle/language/Operator", "admits", "(I)Z"⟩ : MethodName)) (z := (⟨"com/example/thistle/thistle/language/Operator", "admits", "(I)Z"⟩ : MethodName)) (W := 0) hown (wdOf hw 8 rfl) (wdOf hw 9 rfl) (notFace_of_selects (args := #[]) (mvT hZ (wdOf hw 11 rfl))) (wdOf hw 11 rfl) (wdOf hw 10 rfl) (wdOf hw 6 rfl) (wdOf hw 12 rfl) (by decide) (rm_adm l Z a0 hw [] r_MULTIPLY pb (2 : Int32) (2 : Int32) (1 : Int32) h0 n0 Z0 F_fewestArguments_MULTIPLY F_mostArguments_MULTIPLY ((if_neg (own_eq c91)).symm)) (by decide) (by decide) (by decide) (by decide) K89 E_MULTIPLY (g := (mkF m 97 #[.val (.int pa), .val (.int pb), .val (.int pc), .val (.int (11 : Int32)), .val (.ref r_MULTIPLY), .val (.int pb), .val (.int (1 : Int32))] [(.int pb), (.ref r_MULTIPLY)])) rfl (by rw [hml]; rfl) (argsL := [(.int pb)]) (rest := []) (lenOf pd_1 rfl) rfl rfl (Nat.le_refl _) (hb hby at_97)
        obtain ⟨rfl, n92, K92⟩ := q92
        have N92 := Fr.app N89 n92
        refine Goes.go (U' := (T92.setTop (mkF m 100 #[.val (.int pa), .val (.int pb), .val (.int pc), .val (.int (11 : Int32)), .val (.ref r_MULTIPLY), .val (.int pb), .val (.int (1 : Int32))] [(.int (1 : Int32))]))) st92 ?_
        refine Goes.go (U' := (T92.setTop (mkF m 110 #[.val (.int pa), .val (.int pb), .val (.int pc), .val (.int (11 : Int32)), .val (.ref r_MULTIPLY), .val (.int pb), .val (.int (1 : Int32))] [(.int (1 : Int32))]))) (fun t kt => ?_) ?_
        · show Steps p.tables e below (T92.setTop (mkF m 100 #[.val (.int pa), .val (.int pb), .val (.int pc), .val (.int (11 : Int32)), .val (.ref r_MULTIPLY), .val (.int pb), .val (.int (1 : Int32))] [(.int (1 : Int32))])) t
          refine XS.iload X92.here hx rfl (hb hby at_100) rfl ?_
          show Steps p.tables e below (T92.setTop (mkF m 102 #[.val (.int pa), .val (.int pb), .val (.int pc), .val (.int (11 : Int32)), .val (.ref r_MULTIPLY), .val (.int pb), .val (.int (1 : Int32))] [(.int (1 : Int32)), (.int (1 : Int32))])) t
          refine XS.icmpNo X92.here hx rfl (hb hby at_102) rfl (XT.ii_ne_f (by decide)) ?_
          show Steps p.tables e below (T92.setTop (mkF m 105 #[.val (.int pa), .val (.int pb), .val (.int pc), .val (.int (11 : Int32)), .val (.ref r_MULTIPLY), .val (.int pb), .val (.int (1 : Int32))] [])) t
          refine XS.iconst X92.here hx rfl (hb hby at_105) ?_
          show Steps p.tables e below (T92.setTop (mkF m 106 #[.val (.int pa), .val (.int pb), .val (.int pc), .val (.int (11 : Int32)), .val (.ref r_MULTIPLY), .val (.int pb), .val (.int (1 : Int32))] [(.int (1 : Int32))])) t
          refine XS.goto X92.here hx rfl (pc0 := 106) (pc' := 110) rfl (hb hby at_106) (by decide) (by decide) ?_
          exact kt
        refine Goes.retB X92 hx hlk hret (hb hby at_110) (by decide) (by decide) ?_
        try rw [K92]
        exact ⟨rfl, N92⟩
      · -- not pb = (2 : Int32)
        refine Goes.go (U' := (T89.setTop (mkF m 97 #[.val (.int pa), .val (.int pb), .val (.int pc), .val (.int (11 : Int32)), .val (.ref r_MULTIPLY), .val (.int pb), .val (.int (0 : Int32))] [(.int pb), (.ref r_MULTIPLY)]))) (fun t kt => ?_) ?_
        · show Steps p.tables e below (T89.setTop (mkF m 83 #[.val (.int pa), .val (.int pb), .val (.int pc), .val (.int (11 : Int32)), .val (.ref r_MULTIPLY), .val (.int pb), .unset] [(.int (2 : Int32)), (.int pb)])) t
          refine XS.icmpYes X89.here hx rfl (pc0 := 83) (pc' := 90) rfl (hb hby at_83) rfl (XT.ii_ne_t c91) (by decide) (by decide) ?_
          show Steps p.tables e below (T89.setTop (mkF m 90 #[.val (.int pa), .val (.int pb), .val (.int pc), .val (.int (11 : Int32)), .val (.ref r_MULTIPLY), .val (.int pb), .unset] [])) t
          refine XS.iconst X89.here hx rfl (hb hby at_90) ?_
          show Steps p.tables e below (T89.setTop (mkF m 91 #[.val (.int pa), .val (.int pb), .val (.int pc), .val (.int (11 : Int32)), .val (.ref r_MULTIPLY), .val (.int pb), .unset] [(.int (0 : Int32))])) t
          refine XS.istore X89.here hx rfl (hb hby at_91) rfl (l' := #[.val (.int pa), .val (.int pb), .val (.int pc), .val (.int (11 : Int32)), .val (.ref r_MULTIPLY), .val (.int pb), .val (.int (0 : Int32))]) rfl ?_
          show Steps p.tables e below (T89.setTop (mkF m 93 #[.val (.int pa), .val (.int pb), .val (.int pc), .val (.int (11 : Int32)), .val (.ref r_MULTIPLY), .val (.int pb), .val (.int (0 : Int32))] [])) t
          refine XS.aload X89.here hx rfl (hb hby at_93) rfl rfl ?_
          show Steps p.tables e below (T89.setTop (mkF m 95 #[.val (.int pa), .val (.int pb), .val (.int pc), .val (.int (11 : Int32)), .val (.ref r_MULTIPLY), .val (.int pb), .val (.int (0 : Int32))] [(.ref r_MULTIPLY)])) t
          refine XS.iload X89.here hx rfl (hb hby at_95) rfl ?_
          exact kt
        obtain ⟨v93, T93, L93, X93, q93, st93⟩ := callVirtual X89 hx hZ (y := (⟨"com/example/thistle/thistle/language/Operator", "admits", "(I)Z"⟩ : MethodName)) (z := (⟨"com/example/thistle/thistle/language/Operator", "admits", "(I)Z"⟩ : MethodName)) (W := 0) hown (wdOf hw 8 rfl) (wdOf hw 9 rfl) (notFace_of_selects (args := #[]) (mvT hZ (wdOf hw 11 rfl))) (wdOf hw 11 rfl) (wdOf hw 10 rfl) (wdOf hw 6 rfl) (wdOf hw 12 rfl) (by decide) (rm_adm l Z a0 hw [] r_MULTIPLY pb (2 : Int32) (2 : Int32) (0 : Int32) h0 n0 Z0 F_fewestArguments_MULTIPLY F_mostArguments_MULTIPLY ((if_pos (own_ne c91)).symm)) (by decide) (by decide) (by decide) (by decide) K89 E_MULTIPLY (g := (mkF m 97 #[.val (.int pa), .val (.int pb), .val (.int pc), .val (.int (11 : Int32)), .val (.ref r_MULTIPLY), .val (.int pb), .val (.int (0 : Int32))] [(.int pb), (.ref r_MULTIPLY)])) rfl (by rw [hml]; rfl) (argsL := [(.int pb)]) (rest := []) (lenOf pd_1 rfl) rfl rfl (Nat.le_refl _) (hb hby at_97)
        obtain ⟨rfl, n93, K93⟩ := q93
        have N93 := Fr.app N89 n93
        refine Goes.go (U' := (T93.setTop (mkF m 100 #[.val (.int pa), .val (.int pb), .val (.int pc), .val (.int (11 : Int32)), .val (.ref r_MULTIPLY), .val (.int pb), .val (.int (0 : Int32))] [(.int (0 : Int32))]))) st93 ?_
        refine Goes.go (U' := (T93.setTop (mkF m 110 #[.val (.int pa), .val (.int pb), .val (.int pc), .val (.int (11 : Int32)), .val (.ref r_MULTIPLY), .val (.int pb), .val (.int (0 : Int32))] [(.int (1 : Int32))]))) (fun t kt => ?_) ?_
        · show Steps p.tables e below (T93.setTop (mkF m 100 #[.val (.int pa), .val (.int pb), .val (.int pc), .val (.int (11 : Int32)), .val (.ref r_MULTIPLY), .val (.int pb), .val (.int (0 : Int32))] [(.int (0 : Int32))])) t
          refine XS.iload X93.here hx rfl (hb hby at_100) rfl ?_
          show Steps p.tables e below (T93.setTop (mkF m 102 #[.val (.int pa), .val (.int pb), .val (.int pc), .val (.int (11 : Int32)), .val (.ref r_MULTIPLY), .val (.int pb), .val (.int (0 : Int32))] [(.int (0 : Int32)), (.int (0 : Int32))])) t
          refine XS.icmpNo X93.here hx rfl (hb hby at_102) rfl (XT.ii_ne_f (by decide)) ?_
          show Steps p.tables e below (T93.setTop (mkF m 105 #[.val (.int pa), .val (.int pb), .val (.int pc), .val (.int (11 : Int32)), .val (.ref r_MULTIPLY), .val (.int pb), .val (.int (0 : Int32))] [])) t
          refine XS.iconst X93.here hx rfl (hb hby at_105) ?_
          show Steps p.tables e below (T93.setTop (mkF m 106 #[.val (.int pa), .val (.int pb), .val (.int pc), .val (.int (11 : Int32)), .val (.ref r_MULTIPLY), .val (.int pb), .val (.int (0 : Int32))] [(.int (1 : Int32))])) t
          refine XS.goto X93.here hx rfl (pc0 := 106) (pc' := 110) rfl (hb hby at_106) (by decide) (by decide) ?_
          exact kt
        refine Goes.retB X93 hx hlk hret (hb hby at_110) (by decide) (by decide) ?_
        try rw [K93]
        exact ⟨rfl, N93⟩
    · -- not (pc &&& (1 : Int32)) = 0
      refine Goes.go (U' := (T89.setTop (mkF m 83 #[.val (.int pa), .val (.int pb), .val (.int pc), .val (.int (11 : Int32)), .val (.ref r_MULTIPLY), .val (.int ((pb &&& (7 : Int32)) - (2 : Int32))), .unset] [(.int (2 : Int32)), (.int ((pb &&& (7 : Int32)) - (2 : Int32)))]))) (fun t kt => ?_) ?_
      · show Steps p.tables e below (T89.setTop (mkF m 17 #[.val (.int pa), .val (.int pb), .val (.int pc), .val (.int (11 : Int32)), .val (.ref r_MULTIPLY), .unset, .unset] [(.int (pc &&& (1 : Int32)))])) t
        refine XS.ifNo X89.here hx rfl (hb hby at_17) rfl (XT.i0_eq_f c90) ?_
        show Steps p.tables e below (T89.setTop (mkF m 20 #[.val (.int pa), .val (.int pb), .val (.int pc), .val (.int (11 : Int32)), .val (.ref r_MULTIPLY), .unset, .unset] [])) t
        refine XS.iloadN X89.here hx rfl (hb hby at_20) rfl ?_
        show Steps p.tables e below (T89.setTop (mkF m 21 #[.val (.int pa), .val (.int pb), .val (.int pc), .val (.int (11 : Int32)), .val (.ref r_MULTIPLY), .unset, .unset] [(.int pb)])) t
        refine XS.bipush X89.here hx rfl (hb hby at_21) ?_
        show Steps p.tables e below (T89.setTop (mkF m 23 #[.val (.int pa), .val (.int pb), .val (.int pc), .val (.int (11 : Int32)), .val (.ref r_MULTIPLY), .unset, .unset] [(.int (7 : Int32)), (.int pb)])) t
        refine XS.iand X89.here hx rfl (hb hby at_23) rfl ?_
        show Steps p.tables e below (T89.setTop (mkF m 24 #[.val (.int pa), .val (.int pb), .val (.int pc), .val (.int (11 : Int32)), .val (.ref r_MULTIPLY), .unset, .unset] [(.int (pb &&& (7 : Int32)))])) t
        refine XS.iconst X89.here hx rfl (hb hby at_24) ?_
        show Steps p.tables e below (T89.setTop (mkF m 25 #[.val (.int pa), .val (.int pb), .val (.int pc), .val (.int (11 : Int32)), .val (.ref r_MULTIPLY), .unset, .unset] [(.int (2 : Int32)), (.int (pb &&& (7 : Int32)))])) t
        refine XS.isub X89.here hx rfl (hb hby at_25) rfl ?_
        show Steps p.tables e below (T89.setTop (mkF m 26 #[.val (.int pa), .val (.int pb), .val (.int pc), .val (.int (11 : Int32)), .val (.ref r_MULTIPLY), .unset, .unset] [(.int ((pb &&& (7 : Int32)) - (2 : Int32)))])) t
        refine XS.istore X89.here hx rfl (hb hby at_26) rfl (l' := #[.val (.int pa), .val (.int pb), .val (.int pc), .val (.int (11 : Int32)), .val (.ref r_MULTIPLY), .val (.int ((pb &&& (7 : Int32)) - (2 : Int32))), .unset]) rfl ?_
        show Steps p.tables e below (T89.setTop (mkF m 28 #[.val (.int pa), .val (.int pb), .val (.int pc), .val (.int (11 : Int32)), .val (.ref r_MULTIPLY), .val (.int ((pb &&& (7 : Int32)) - (2 : Int32))), .unset] [])) t
        refine XS.goto X89.here hx rfl (pc0 := 28) (pc' := 34) rfl (hb hby at_28) (by decide) (by decide) ?_
        show Steps p.tables e below (T89.setTop (mkF m 34 #[.val (.int pa), .val (.int pb), .val (.int pc), .val (.int (11 : Int32)), .val (.ref r_MULTIPLY), .val (.int ((pb &&& (7 : Int32)) - (2 : Int32))), .unset] [])) t
        refine XS.iloadN X89.here hx rfl (hb hby at_34) rfl ?_
        show Steps p.tables e below (T89.setTop (mkF m 35 #[.val (.int pa), .val (.int pb), .val (.int pc), .val (.int (11 : Int32)), .val (.ref r_MULTIPLY), .val (.int ((pb &&& (7 : Int32)) - (2 : Int32))), .unset] [(.int (11 : Int32))])) t
        refine XS.ifNo X89.here hx rfl (hb hby at_35) rfl (XT.i0_eq_f (by decide)) ?_
        show Steps p.tables e below (T89.setTop (mkF m 38 #[.val (.int pa), .val (.int pb), .val (.int pc), .val (.int (11 : Int32)), .val (.ref r_MULTIPLY), .val (.int ((pb &&& (7 : Int32)) - (2 : Int32))), .unset] [])) t
        refine XS.iloadN X89.here hx rfl (hb hby at_38) rfl ?_
        show Steps p.tables e below (T89.setTop (mkF m 39 #[.val (.int pa), .val (.int pb), .val (.int pc), .val (.int (11 : Int32)), .val (.ref r_MULTIPLY), .val (.int ((pb &&& (7 : Int32)) - (2 : Int32))), .unset] [(.int (11 : Int32))])) t
        refine XS.iconst X89.here hx rfl (hb hby at_39) ?_
        show Steps p.tables e below (T89.setTop (mkF m 40 #[.val (.int pa), .val (.int pb), .val (.int pc), .val (.int (11 : Int32)), .val (.ref r_MULTIPLY), .val (.int ((pb &&& (7 : Int32)) - (2 : Int32))), .unset] [(.int (1 : Int32)), (.int (11 : Int32))])) t
        refine XS.icmpYes X89.here hx rfl (pc0 := 40) (pc' := 59) rfl (hb hby at_40) rfl (XT.ii_ne_t (by decide)) (by decide) (by decide) ?_
        show Steps p.tables e below (T89.setTop (mkF m 59 #[.val (.int pa), .val (.int pb), .val (.int pc), .val (.int (11 : Int32)), .val (.ref r_MULTIPLY), .val (.int ((pb &&& (7 : Int32)) - (2 : Int32))), .unset] [])) t
        refine XS.iloadN X89.here hx rfl (hb hby at_59) rfl ?_
        show Steps p.tables e below (T89.setTop (mkF m 60 #[.val (.int pa), .val (.int pb), .val (.int pc), .val (.int (11 : Int32)), .val (.ref r_MULTIPLY), .val (.int ((pb &&& (7 : Int32)) - (2 : Int32))), .unset] [(.int (11 : Int32))])) t
        refine XS.iconst X89.here hx rfl (hb hby at_60) ?_
        show Steps p.tables e below (T89.setTop (mkF m 61 #[.val (.int pa), .val (.int pb), .val (.int pc), .val (.int (11 : Int32)), .val (.ref r_MULTIPLY), .val (.int ((pb &&& (7 : Int32)) - (2 : Int32))), .unset] [(.int (2 : Int32)), (.int (11 : Int32))])) t
        refine XS.icmpYes X89.here hx rfl (pc0 := 61) (pc' := 80) rfl (hb hby at_61) rfl (XT.ii_ne_t (by decide)) (by decide) (by decide) ?_
        show Steps p.tables e below (T89.setTop (mkF m 80 #[.val (.int pa), .val (.int pb), .val (.int pc), .val (.int (11 : Int32)), .val (.ref r_MULTIPLY), .val (.int ((pb &&& (7 : Int32)) - (2 : Int32))), .unset] [])) t
        refine XS.iload X89.here hx rfl (hb hby at_80) rfl ?_
        show Steps p.tables e below (T89.setTop (mkF m 82 #[.val (.int pa), .val (.int pb), .val (.int pc), .val (.int (11 : Int32)), .val (.ref r_MULTIPLY), .val (.int ((pb &&& (7 : Int32)) - (2 : Int32))), .unset] [(.int ((pb &&& (7 : Int32)) - (2 : Int32)))])) t
        refine XS.iconst X89.here hx rfl (hb hby at_82) ?_
        exact kt
      by_cases c94 : ((pb &&& (7 : Int32)) - (2 : Int32)) = (2 : Int32)
      · -- ((pb &&& (7 : Int32)) - (2 : Int32)) = (2 : Int32)
        refine Goes.go (U' := (T89.setTop (mkF m 97 #[.val (.int pa), .val (.int pb), .val (.int pc), .val (.int (11 : Int32)), .val (.ref r_MULTIPLY), .val (.int ((pb &&& (7 : Int32)) - (2 : Int32))), .val (.int (1 : Int32))] [(.int ((pb &&& (7 : Int32)) - (2 : Int32))), (.ref r_MULTIPLY)]))) (fun t kt => ?_) ?_
        · show Steps p.tables e below (T89.setTop (mkF m 83 #[.val (.int pa), .val (.int pb), .val (.int pc), .val (.int (11 : Int32)), .val (.ref r_MULTIPLY), .val (.int ((pb &&& (7 : Int32)) - (2 : Int32))), .unset] [(.int (2 : Int32)), (.int ((pb &&& (7 : Int32)) - (2 : Int32)))])) t
          refine XS.icmpNo X89.here hx rfl (hb hby at_83) rfl (XT.ii_ne_f c94) ?_
          show Steps p.tables e below (T89.setTop (mkF m 86 #[.val (.int pa), .val (.int pb), .val (.int pc), .val (.int (11 : Int32)), .val (.ref r_MULTIPLY), .val (.int ((pb &&& (7 : Int32)) - (2 : Int32))), .unset] [])) t
          refine XS.iconst X89.here hx rfl (hb hby at_86) ?_
          show Steps p.tables e below (T89.setTop (mkF m 87 #[.val (.int pa), .val (.int pb), .val (.int pc), .val (.int (11 : Int32)), .val (.ref r_MULTIPLY), .val (.int ((pb &&& (7 : Int32)) - (2 : Int32))), .unset] [(.int (1 : Int32))])) t
          refine XS.goto X89.here hx rfl (pc0 := 87) (pc' := 91) rfl (hb hby at_87) (by decide) (by decide) ?_
          show Steps p.tables e below (T89.setTop (mkF m 91 #[.val (.int pa), .val (.int pb), .val (.int pc), .val (.int (11 : Int32)), .val (.ref r_MULTIPLY), .val (.int ((pb &&& (7 : Int32)) - (2 : Int32))), .unset] [(.int (1 : Int32))])) t
          refine XS.istore X89.here hx rfl (hb hby at_91) rfl (l' := #[.val (.int pa), .val (.int pb), .val (.int pc), .val (.int (11 : Int32)), .val (.ref r_MULTIPLY), .val (.int ((pb &&& (7 : Int32)) - (2 : Int32))), .val (.int (1 : Int32))]) rfl ?_
          show Steps p.tables e below (T89.setTop (mkF m 93 #[.val (.int pa), .val (.int pb), .val (.int pc), .val (.int (11 : Int32)), .val (.ref r_MULTIPLY), .val (.int ((pb &&& (7 : Int32)) - (2 : Int32))), .val (.int (1 : Int32))] [])) t
          refine XS.aload X89.here hx rfl (hb hby at_93) rfl rfl ?_
          show Steps p.tables e below (T89.setTop (mkF m 95 #[.val (.int pa), .val (.int pb), .val (.int pc), .val (.int (11 : Int32)), .val (.ref r_MULTIPLY), .val (.int ((pb &&& (7 : Int32)) - (2 : Int32))), .val (.int (1 : Int32))] [(.ref r_MULTIPLY)])) t
          refine XS.iload X89.here hx rfl (hb hby at_95) rfl ?_
          exact kt
        obtain ⟨v95, T95, L95, X95, q95, st95⟩ := callVirtual X89 hx hZ (y := (⟨"com/example/thistle/thistle/language/Operator", "admits", "(I)Z"⟩ : MethodName)) (z := (⟨"com/example/thistle/thistle/language/Operator", "admits", "(I)Z"⟩ : MethodName)) (W := 0) hown (wdOf hw 8 rfl) (wdOf hw 9 rfl) (notFace_of_selects (args := #[]) (mvT hZ (wdOf hw 11 rfl))) (wdOf hw 11 rfl) (wdOf hw 10 rfl) (wdOf hw 6 rfl) (wdOf hw 12 rfl) (by decide) (rm_adm l Z a0 hw [] r_MULTIPLY ((pb &&& (7 : Int32)) - (2 : Int32)) (2 : Int32) (2 : Int32) (1 : Int32) h0 n0 Z0 F_fewestArguments_MULTIPLY F_mostArguments_MULTIPLY ((if_neg (own_eq c94)).symm)) (by decide) (by decide) (by decide) (by decide) K89 E_MULTIPLY (g := (mkF m 97 #[.val (.int pa), .val (.int pb), .val (.int pc), .val (.int (11 : Int32)), .val (.ref r_MULTIPLY), .val (.int ((pb &&& (7 : Int32)) - (2 : Int32))), .val (.int (1 : Int32))] [(.int ((pb &&& (7 : Int32)) - (2 : Int32))), (.ref r_MULTIPLY)])) rfl (by rw [hml]; rfl) (argsL := [(.int ((pb &&& (7 : Int32)) - (2 : Int32)))]) (rest := []) (lenOf pd_1 rfl) rfl rfl (Nat.le_refl _) (hb hby at_97)
        obtain ⟨rfl, n95, K95⟩ := q95
        have N95 := Fr.app N89 n95
        refine Goes.go (U' := (T95.setTop (mkF m 100 #[.val (.int pa), .val (.int pb), .val (.int pc), .val (.int (11 : Int32)), .val (.ref r_MULTIPLY), .val (.int ((pb &&& (7 : Int32)) - (2 : Int32))), .val (.int (1 : Int32))] [(.int (1 : Int32))]))) st95 ?_
        refine Goes.go (U' := (T95.setTop (mkF m 110 #[.val (.int pa), .val (.int pb), .val (.int pc), .val (.int (11 : Int32)), .val (.ref r_MULTIPLY), .val (.int ((pb &&& (7 : Int32)) - (2 : Int32))), .val (.int (1 : Int32))] [(.int (1 : Int32))]))) (fun t kt => ?_) ?_
        · show Steps p.tables e below (T95.setTop (mkF m 100 #[.val (.int pa), .val (.int pb), .val (.int pc), .val (.int (11 : Int32)), .val (.ref r_MULTIPLY), .val (.int ((pb &&& (7 : Int32)) - (2 : Int32))), .val (.int (1 : Int32))] [(.int (1 : Int32))])) t
          refine XS.iload X95.here hx rfl (hb hby at_100) rfl ?_
          show Steps p.tables e below (T95.setTop (mkF m 102 #[.val (.int pa), .val (.int pb), .val (.int pc), .val (.int (11 : Int32)), .val (.ref r_MULTIPLY), .val (.int ((pb &&& (7 : Int32)) - (2 : Int32))), .val (.int (1 : Int32))] [(.int (1 : Int32)), (.int (1 : Int32))])) t
          refine XS.icmpNo X95.here hx rfl (hb hby at_102) rfl (XT.ii_ne_f (by decide)) ?_
          show Steps p.tables e below (T95.setTop (mkF m 105 #[.val (.int pa), .val (.int pb), .val (.int pc), .val (.int (11 : Int32)), .val (.ref r_MULTIPLY), .val (.int ((pb &&& (7 : Int32)) - (2 : Int32))), .val (.int (1 : Int32))] [])) t
          refine XS.iconst X95.here hx rfl (hb hby at_105) ?_
          show Steps p.tables e below (T95.setTop (mkF m 106 #[.val (.int pa), .val (.int pb), .val (.int pc), .val (.int (11 : Int32)), .val (.ref r_MULTIPLY), .val (.int ((pb &&& (7 : Int32)) - (2 : Int32))), .val (.int (1 : Int32))] [(.int (1 : Int32))])) t
          refine XS.goto X95.here hx rfl (pc0 := 106) (pc' := 110) rfl (hb hby at_106) (by decide) (by decide) ?_
          exact kt
        refine Goes.retB X95 hx hlk hret (hb hby at_110) (by decide) (by decide) ?_
        try rw [K95]
        exact ⟨rfl, N95⟩
      · -- not ((pb &&& (7 : Int32)) - (2 : Int32)) = (2 : Int32)
        refine Goes.go (U' := (T89.setTop (mkF m 97 #[.val (.int pa), .val (.int pb), .val (.int pc), .val (.int (11 : Int32)), .val (.ref r_MULTIPLY), .val (.int ((pb &&& (7 : Int32)) - (2 : Int32))), .val (.int (0 : Int32))] [(.int ((pb &&& (7 : Int32)) - (2 : Int32))), (.ref r_MULTIPLY)]))) (fun t kt => ?_) ?_
        · show Steps p.tables e below (T89.setTop (mkF m 83 #[.val (.int pa), .val (.int pb), .val (.int pc), .val (.int (11 : Int32)), .val (.ref r_MULTIPLY), .val (.int ((pb &&& (7 : Int32)) - (2 : Int32))), .unset] [(.int (2 : Int32)), (.int ((pb &&& (7 : Int32)) - (2 : Int32)))])) t
          refine XS.icmpYes X89.here hx rfl (pc0 := 83) (pc' := 90) rfl (hb hby at_83) rfl (XT.ii_ne_t c94) (by decide) (by decide) ?_
          show Steps p.tables e below (T89.setTop (mkF m 90 #[.val (.int pa), .val (.int pb), .val (.int pc), .val (.int (11 : Int32)), .val (.ref r_MULTIPLY), .val (.int ((pb &&& (7 : Int32)) - (2 : Int32))), .unset] [])) t
          refine XS.iconst X89.here hx rfl (hb hby at_90) ?_
          show Steps p.tables e below (T89.setTop (mkF m 91 #[.val (.int pa), .val (.int pb), .val (.int pc), .val (.int (11 : Int32)), .val (.ref r_MULTIPLY), .val (.int ((pb &&& (7 : Int32)) - (2 : Int32))), .unset] [(.int (0 : Int32))])) t
          refine XS.istore X89.here hx rfl (hb hby at_91) rfl (l' := #[.val (.int pa), .val (.int pb), .val (.int pc), .val (.int (11 : Int32)), .val (.ref r_MULTIPLY), .val (.int ((pb &&& (7 : Int32)) - (2 : Int32))), .val (.int (0 : Int32))]) rfl ?_
          show Steps p.tables e below (T89.setTop (mkF m 93 #[.val (.int pa), .val (.int pb), .val (.int pc), .val (.int (11 : Int32)), .val (.ref r_MULTIPLY), .val (.int ((pb &&& (7 : Int32)) - (2 : Int32))), .val (.int (0 : Int32))] [])) t
          refine XS.aload X89.here hx rfl (hb hby at_93) rfl rfl ?_
          show Steps p.tables e below (T89.setTop (mkF m 95 #[.val (.int pa), .val (.int pb), .val (.int pc), .val (.int (11 : Int32)), .val (.ref r_MULTIPLY), .val (.int ((pb &&& (7 : Int32)) - (2 : Int32))), .val (.int (0 : Int32))] [(.ref r_MULTIPLY)])) t
          refine XS.iload X89.here hx rfl (hb hby at_95) rfl ?_
          exact kt
        obtain ⟨v96, T96, L96, X96, q96, st96⟩ := callVirtual X89 hx hZ (y := (⟨"com/example/thistle/thistle/language/Operator", "admits", "(I)Z"⟩ : MethodName)) (z := (⟨"com/example/thistle/thistle/language/Operator", "admits", "(I)Z"⟩ : MethodName)) (W := 0) hown (wdOf hw 8 rfl) (wdOf hw 9 rfl) (notFace_of_selects (args := #[]) (mvT hZ (wdOf hw 11 rfl))) (wdOf hw 11 rfl) (wdOf hw 10 rfl) (wdOf hw 6 rfl) (wdOf hw 12 rfl) (by decide) (rm_adm l Z a0 hw [] r_MULTIPLY ((pb &&& (7 : Int32)) - (2 : Int32)) (2 : Int32) (2 : Int32) (0 : Int32) h0 n0 Z0 F_fewestArguments_MULTIPLY F_mostArguments_MULTIPLY ((if_pos (own_ne c94)).symm)) (by decide) (by decide) (by decide) (by decide) K89 E_MULTIPLY (g := (mkF m 97 #[.val (.int pa), .val (.int pb), .val (.int pc), .val (.int (11 : Int32)), .val (.ref r_MULTIPLY), .val (.int ((pb &&& (7 : Int32)) - (2 : Int32))), .val (.int (0 : Int32))] [(.int ((pb &&& (7 : Int32)) - (2 : Int32))), (.ref r_MULTIPLY)])) rfl (by rw [hml]; rfl) (argsL := [(.int ((pb &&& (7 : Int32)) - (2 : Int32)))]) (rest := []) (lenOf pd_1 rfl) rfl rfl (Nat.le_refl _) (hb hby at_97)
        obtain ⟨rfl, n96, K96⟩ := q96
        have N96 := Fr.app N89 n96
        refine Goes.go (U' := (T96.setTop (mkF m 100 #[.val (.int pa), .val (.int pb), .val (.int pc), .val (.int (11 : Int32)), .val (.ref r_MULTIPLY), .val (.int ((pb &&& (7 : Int32)) - (2 : Int32))), .val (.int (0 : Int32))] [(.int (0 : Int32))]))) st96 ?_
        refine Goes.go (U' := (T96.setTop (mkF m 110 #[.val (.int pa), .val (.int pb), .val (.int pc), .val (.int (11 : Int32)), .val (.ref r_MULTIPLY), .val (.int ((pb &&& (7 : Int32)) - (2 : Int32))), .val (.int (0 : Int32))] [(.int (1 : Int32))]))) (fun t kt => ?_) ?_
        · show Steps p.tables e below (T96.setTop (mkF m 100 #[.val (.int pa), .val (.int pb), .val (.int pc), .val (.int (11 : Int32)), .val (.ref r_MULTIPLY), .val (.int ((pb &&& (7 : Int32)) - (2 : Int32))), .val (.int (0 : Int32))] [(.int (0 : Int32))])) t
          refine XS.iload X96.here hx rfl (hb hby at_100) rfl ?_
          show Steps p.tables e below (T96.setTop (mkF m 102 #[.val (.int pa), .val (.int pb), .val (.int pc), .val (.int (11 : Int32)), .val (.ref r_MULTIPLY), .val (.int ((pb &&& (7 : Int32)) - (2 : Int32))), .val (.int (0 : Int32))] [(.int (0 : Int32)), (.int (0 : Int32))])) t
          refine XS.icmpNo X96.here hx rfl (hb hby at_102) rfl (XT.ii_ne_f (by decide)) ?_
          show Steps p.tables e below (T96.setTop (mkF m 105 #[.val (.int pa), .val (.int pb), .val (.int pc), .val (.int (11 : Int32)), .val (.ref r_MULTIPLY), .val (.int ((pb &&& (7 : Int32)) - (2 : Int32))), .val (.int (0 : Int32))] [])) t
          refine XS.iconst X96.here hx rfl (hb hby at_105) ?_
          show Steps p.tables e below (T96.setTop (mkF m 106 #[.val (.int pa), .val (.int pb), .val (.int pc), .val (.int (11 : Int32)), .val (.ref r_MULTIPLY), .val (.int ((pb &&& (7 : Int32)) - (2 : Int32))), .val (.int (0 : Int32))] [(.int (1 : Int32))])) t
          refine XS.goto X96.here hx rfl (pc0 := 106) (pc' := 110) rfl (hb hby at_106) (by decide) (by decide) ?_
          exact kt
        refine Goes.retB X96 hx hlk hret (hb hby at_110) (by decide) (by decide) ?_
        try rw [K96]
        exact ⟨rfl, N96⟩
  · -- case 12
    rw [hk]
    refine Goes.go (U' := (s₁.setTop (mkF m 9 #[.val (.int pa), .val (.int pb), .val (.int pc), .val (.int (12 : Int32)), .unset, .unset, .unset] [(.int (12 : Int32))]))) (fun t kt => ?_) ?_
    · show Steps p.tables e below (s₁.setTop (mkF m 7 #[.val (.int pa), .val (.int pb), .val (.int pc), .unset, .unset, .unset, .unset] [(.int (12 : Int32))])) t
      refine XS.istoreN X0.here hx rfl (hb hby at_7) rfl (l' := #[.val (.int pa), .val (.int pb), .val (.int pc), .val (.int (12 : Int32)), .unset, .unset, .unset]) rfl ?_
      show Steps p.tables e below (s₁.setTop (mkF m 8 #[.val (.int pa), .val (.int pb), .val (.int pc), .val (.int (12 : Int32)), .unset, .unset, .unset] [])) t
      refine XS.iloadN X0.here hx rfl (hb hby at_8) rfl ?_
      exact kt
    obtain ⟨v97, T97, L97, X97, q97, st97⟩ := callStatic X0 hx hZ (y := (⟨"com/example/thistle/thistle/language/OperatorAdmitsPinLaw", "pick", "(I)Lcom/example/thistle/thistle/language/Operator;"⟩ : MethodName)) (W := 0) hown (wdOf hw 1 rfl) (wdOf hw 2 rfl) (wdOf hw 3 rfl) (wdOf hw 4 rfl) (by decide) (rm_pick l Z a0 hw [] (12 : Int32) r_DIVIDE r_AND r_OR r_NOT r_EQUAL r_IN r_GREATER_THAN r_LESS_THAN r_GREATER_THAN_OR_EQUAL r_LESS_THAN_OR_EQUAL r_ADD r_SUBTRACT r_MULTIPLY r_DIVIDE h0 n0 Z0 S_AND S_OR S_NOT S_EQUAL S_IN S_GREATER_THAN S_LESS_THAN S_GREATER_THAN_OR_EQUAL S_LESS_THAN_OR_EQUAL S_ADD S_SUBTRACT S_MULTIPLY S_DIVIDE (by simp)) (by decide) (by decide) (by decide) (by decide) e0 (g := (mkF m 9 #[.val (.int pa), .val (.int pb), .val (.int pc), .val (.int (12 : Int32)), .unset, .unset, .unset] [(.int (12 : Int32))])) rfl (by rw [hml]; rfl) (argsL := [(.int (12 : Int32))]) (rest := []) (lenOf pd_0 rfl) rfl rfl (Nat.le_refl _) (hb hby at_9)
    obtain ⟨rfl, n97, K97⟩ := q97
    have N97 := Fr.app N0 n97
    refine Goes.go (U' := (T97.setTop (mkF m 12 #[.val (.int pa), .val (.int pb), .val (.int pc), .val (.int (12 : Int32)), .unset, .unset, .unset] [(.ref r_DIVIDE)]))) st97 ?_
    refine Goes.go (U' := (T97.setTop (mkF m 17 #[.val (.int pa), .val (.int pb), .val (.int pc), .val (.int (12 : Int32)), .val (.ref r_DIVIDE), .unset, .unset] [(.int (pc &&& (1 : Int32)))]))) (fun t kt => ?_) ?_
    · show Steps p.tables e below (T97.setTop (mkF m 12 #[.val (.int pa), .val (.int pb), .val (.int pc), .val (.int (12 : Int32)), .unset, .unset, .unset] [(.ref r_DIVIDE)])) t
      refine XS.astore X97.here hx rfl (hb hby at_12) rfl rfl (l' := #[.val (.int pa), .val (.int pb), .val (.int pc), .val (.int (12 : Int32)), .val (.ref r_DIVIDE), .unset, .unset]) rfl ?_
      show Steps p.tables e below (T97.setTop (mkF m 14 #[.val (.int pa), .val (.int pb), .val (.int pc), .val (.int (12 : Int32)), .val (.ref r_DIVIDE), .unset, .unset] [])) t
      refine XS.iloadN X97.here hx rfl (hb hby at_14) rfl ?_
      show Steps p.tables e below (T97.setTop (mkF m 15 #[.val (.int pa), .val (.int pb), .val (.int pc), .val (.int (12 : Int32)), .val (.ref r_DIVIDE), .unset, .unset] [(.int pc)])) t
      refine XS.iconst X97.here hx rfl (hb hby at_15) ?_
      show Steps p.tables e below (T97.setTop (mkF m 16 #[.val (.int pa), .val (.int pb), .val (.int pc), .val (.int (12 : Int32)), .val (.ref r_DIVIDE), .unset, .unset] [(.int (1 : Int32)), (.int pc)])) t
      refine XS.iand X97.here hx rfl (hb hby at_16) rfl ?_
      exact kt
    by_cases c98 : (pc &&& (1 : Int32)) = 0
    · -- (pc &&& (1 : Int32)) = 0
      refine Goes.go (U' := (T97.setTop (mkF m 83 #[.val (.int pa), .val (.int pb), .val (.int pc), .val (.int (12 : Int32)), .val (.ref r_DIVIDE), .val (.int pb), .unset] [(.int (2 : Int32)), (.int pb)]))) (fun t kt => ?_) ?_
      · show Steps p.tables e below (T97.setTop (mkF m 17 #[.val (.int pa), .val (.int pb), .val (.int pc), .val (.int (12 : Int32)), .val (.ref r_DIVIDE), .unset, .unset] [(.int (pc &&& (1 : Int32)))])) t
        refine XS.ifYes X97.here hx rfl (pc0 := 17) (pc' := 31) rfl (hb hby at_17) rfl (XT.i0_eq_t c98) (by decide) (by decide) ?_
        show Steps p.tables e below (T97.setTop (mkF m 31 #[.val (.int pa), .val (.int pb), .val (.int pc), .val (.int (12 : Int32)), .val (.ref r_DIVIDE), .unset, .unset] [])) t
        refine XS.iloadN X97.here hx rfl (hb hby at_31) rfl ?_
        show Steps p.tables e below (T97.setTop (mkF m 32 #[.val (.int pa), .val (.int pb), .val (.int pc), .val (.int (12 : Int32)), .val (.ref r_DIVIDE), .unset, .unset] [(.int pb)])) t
        refine XS.istore X97.here hx rfl (hb hby at_32) rfl (l' := #[.val (.int pa), .val (.int pb), .val (.int pc), .val (.int (12 : Int32)), .val (.ref r_DIVIDE), .val (.int pb), .unset]) rfl ?_
        show Steps p.tables e below (T97.setTop (mkF m 34 #[.val (.int pa), .val (.int pb), .val (.int pc), .val (.int (12 : Int32)), .val (.ref r_DIVIDE), .val (.int pb), .unset] [])) t
        refine XS.iloadN X97.here hx rfl (hb hby at_34) rfl ?_
        show Steps p.tables e below (T97.setTop (mkF m 35 #[.val (.int pa), .val (.int pb), .val (.int pc), .val (.int (12 : Int32)), .val (.ref r_DIVIDE), .val (.int pb), .unset] [(.int (12 : Int32))])) t
        refine XS.ifNo X97.here hx rfl (hb hby at_35) rfl (XT.i0_eq_f (by decide)) ?_
        show Steps p.tables e below (T97.setTop (mkF m 38 #[.val (.int pa), .val (.int pb), .val (.int pc), .val (.int (12 : Int32)), .val (.ref r_DIVIDE), .val (.int pb), .unset] [])) t
        refine XS.iloadN X97.here hx rfl (hb hby at_38) rfl ?_
        show Steps p.tables e below (T97.setTop (mkF m 39 #[.val (.int pa), .val (.int pb), .val (.int pc), .val (.int (12 : Int32)), .val (.ref r_DIVIDE), .val (.int pb), .unset] [(.int (12 : Int32))])) t
        refine XS.iconst X97.here hx rfl (hb hby at_39) ?_
        show Steps p.tables e below (T97.setTop (mkF m 40 #[.val (.int pa), .val (.int pb), .val (.int pc), .val (.int (12 : Int32)), .val (.ref r_DIVIDE), .val (.int pb), .unset] [(.int (1 : Int32)), (.int (12 : Int32))])) t
        refine XS.icmpYes X97.here hx rfl (pc0 := 40) (pc' := 59) rfl (hb hby at_40) rfl (XT.ii_ne_t (by decide)) (by decide) (by decide) ?_
        show Steps p.tables e below (T97.setTop (mkF m 59 #[.val (.int pa), .val (.int pb), .val (.int pc), .val (.int (12 : Int32)), .val (.ref r_DIVIDE), .val (.int pb), .unset] [])) t
        refine XS.iloadN X97.here hx rfl (hb hby at_59) rfl ?_
        show Steps p.tables e below (T97.setTop (mkF m 60 #[.val (.int pa), .val (.int pb), .val (.int pc), .val (.int (12 : Int32)), .val (.ref r_DIVIDE), .val (.int pb), .unset] [(.int (12 : Int32))])) t
        refine XS.iconst X97.here hx rfl (hb hby at_60) ?_
        show Steps p.tables e below (T97.setTop (mkF m 61 #[.val (.int pa), .val (.int pb), .val (.int pc), .val (.int (12 : Int32)), .val (.ref r_DIVIDE), .val (.int pb), .unset] [(.int (2 : Int32)), (.int (12 : Int32))])) t
        refine XS.icmpYes X97.here hx rfl (pc0 := 61) (pc' := 80) rfl (hb hby at_61) rfl (XT.ii_ne_t (by decide)) (by decide) (by decide) ?_
        show Steps p.tables e below (T97.setTop (mkF m 80 #[.val (.int pa), .val (.int pb), .val (.int pc), .val (.int (12 : Int32)), .val (.ref r_DIVIDE), .val (.int pb), .unset] [])) t
        refine XS.iload X97.here hx rfl (hb hby at_80) rfl ?_
        show Steps p.tables e below (T97.setTop (mkF m 82 #[.val (.int pa), .val (.int pb), .val (.int pc), .val (.int (12 : Int32)), .val (.ref r_DIVIDE), .val (.int pb), .unset] [(.int pb)])) t
        refine XS.iconst X97.here hx rfl (hb hby at_82) ?_
        exact kt
      by_cases c99 : pb = (2 : Int32)
      · -- pb = (2 : Int32)
        refine Goes.go (U' := (T97.setTop (mkF m 97 #[.val (.int pa), .val (.int pb), .val (.int pc), .val (.int (12 : Int32)), .val (.ref r_DIVIDE), .val (.int pb), .val (.int (1 : Int32))] [(.int pb), (.ref r_DIVIDE)]))) (fun t kt => ?_) ?_
        · show Steps p.tables e below (T97.setTop (mkF m 83 #[.val (.int pa), .val (.int pb), .val (.int pc), .val (.int (12 : Int32)), .val (.ref r_DIVIDE), .val (.int pb), .unset] [(.int (2 : Int32)), (.int pb)])) t
          refine XS.icmpNo X97.here hx rfl (hb hby at_83) rfl (XT.ii_ne_f c99) ?_
          show Steps p.tables e below (T97.setTop (mkF m 86 #[.val (.int pa), .val (.int pb), .val (.int pc), .val (.int (12 : Int32)), .val (.ref r_DIVIDE), .val (.int pb), .unset] [])) t
          refine XS.iconst X97.here hx rfl (hb hby at_86) ?_
          show Steps p.tables e below (T97.setTop (mkF m 87 #[.val (.int pa), .val (.int pb), .val (.int pc), .val (.int (12 : Int32)), .val (.ref r_DIVIDE), .val (.int pb), .unset] [(.int (1 : Int32))])) t
          refine XS.goto X97.here hx rfl (pc0 := 87) (pc' := 91) rfl (hb hby at_87) (by decide) (by decide) ?_
          show Steps p.tables e below (T97.setTop (mkF m 91 #[.val (.int pa), .val (.int pb), .val (.int pc), .val (.int (12 : Int32)), .val (.ref r_DIVIDE), .val (.int pb), .unset] [(.int (1 : Int32))])) t
          refine XS.istore X97.here hx rfl (hb hby at_91) rfl (l' := #[.val (.int pa), .val (.int pb), .val (.int pc), .val (.int (12 : Int32)), .val (.ref r_DIVIDE), .val (.int pb), .val (.int (1 : Int32))]) rfl ?_
          show Steps p.tables e below (T97.setTop (mkF m 93 #[.val (.int pa), .val (.int pb), .val (.int pc), .val (.int (12 : Int32)), .val (.ref r_DIVIDE), .val (.int pb), .val (.int (1 : Int32))] [])) t
          refine XS.aload X97.here hx rfl (hb hby at_93) rfl rfl ?_
          show Steps p.tables e below (T97.setTop (mkF m 95 #[.val (.int pa), .val (.int pb), .val (.int pc), .val (.int (12 : Int32)), .val (.ref r_DIVIDE), .val (.int pb), .val (.int (1 : Int32))] [(.ref r_DIVIDE)])) t
          refine XS.iload X97.here hx rfl (hb hby at_95) rfl ?_
          exact kt
        obtain ⟨v100, T100, L100, X100, q100, st100⟩ := callVirtual X97 hx hZ (y := (⟨"com/example/thistle/thistle/language/Operator", "admits", "(I)Z"⟩ : MethodName)) (z := (⟨"com/example/thistle/thistle/language/Operator", "admits", "(I)Z"⟩ : MethodName)) (W := 0) hown (wdOf hw 8 rfl) (wdOf hw 9 rfl) (notFace_of_selects (args := #[]) (mvT hZ (wdOf hw 11 rfl))) (wdOf hw 11 rfl) (wdOf hw 10 rfl) (wdOf hw 6 rfl) (wdOf hw 12 rfl) (by decide) (rm_adm l Z a0 hw [] r_DIVIDE pb (2 : Int32) (2 : Int32) (1 : Int32) h0 n0 Z0 F_fewestArguments_DIVIDE F_mostArguments_DIVIDE ((if_neg (own_eq c99)).symm)) (by decide) (by decide) (by decide) (by decide) K97 E_DIVIDE (g := (mkF m 97 #[.val (.int pa), .val (.int pb), .val (.int pc), .val (.int (12 : Int32)), .val (.ref r_DIVIDE), .val (.int pb), .val (.int (1 : Int32))] [(.int pb), (.ref r_DIVIDE)])) rfl (by rw [hml]; rfl) (argsL := [(.int pb)]) (rest := []) (lenOf pd_1 rfl) rfl rfl (Nat.le_refl _) (hb hby at_97)
        obtain ⟨rfl, n100, K100⟩ := q100
        have N100 := Fr.app N97 n100
        refine Goes.go (U' := (T100.setTop (mkF m 100 #[.val (.int pa), .val (.int pb), .val (.int pc), .val (.int (12 : Int32)), .val (.ref r_DIVIDE), .val (.int pb), .val (.int (1 : Int32))] [(.int (1 : Int32))]))) st100 ?_
        refine Goes.go (U' := (T100.setTop (mkF m 110 #[.val (.int pa), .val (.int pb), .val (.int pc), .val (.int (12 : Int32)), .val (.ref r_DIVIDE), .val (.int pb), .val (.int (1 : Int32))] [(.int (1 : Int32))]))) (fun t kt => ?_) ?_
        · show Steps p.tables e below (T100.setTop (mkF m 100 #[.val (.int pa), .val (.int pb), .val (.int pc), .val (.int (12 : Int32)), .val (.ref r_DIVIDE), .val (.int pb), .val (.int (1 : Int32))] [(.int (1 : Int32))])) t
          refine XS.iload X100.here hx rfl (hb hby at_100) rfl ?_
          show Steps p.tables e below (T100.setTop (mkF m 102 #[.val (.int pa), .val (.int pb), .val (.int pc), .val (.int (12 : Int32)), .val (.ref r_DIVIDE), .val (.int pb), .val (.int (1 : Int32))] [(.int (1 : Int32)), (.int (1 : Int32))])) t
          refine XS.icmpNo X100.here hx rfl (hb hby at_102) rfl (XT.ii_ne_f (by decide)) ?_
          show Steps p.tables e below (T100.setTop (mkF m 105 #[.val (.int pa), .val (.int pb), .val (.int pc), .val (.int (12 : Int32)), .val (.ref r_DIVIDE), .val (.int pb), .val (.int (1 : Int32))] [])) t
          refine XS.iconst X100.here hx rfl (hb hby at_105) ?_
          show Steps p.tables e below (T100.setTop (mkF m 106 #[.val (.int pa), .val (.int pb), .val (.int pc), .val (.int (12 : Int32)), .val (.ref r_DIVIDE), .val (.int pb), .val (.int (1 : Int32))] [(.int (1 : Int32))])) t
          refine XS.goto X100.here hx rfl (pc0 := 106) (pc' := 110) rfl (hb hby at_106) (by decide) (by decide) ?_
          exact kt
        refine Goes.retB X100 hx hlk hret (hb hby at_110) (by decide) (by decide) ?_
        try rw [K100]
        exact ⟨rfl, N100⟩
      · -- not pb = (2 : Int32)
        refine Goes.go (U' := (T97.setTop (mkF m 97 #[.val (.int pa), .val (.int pb), .val (.int pc), .val (.int (12 : Int32)), .val (.ref r_DIVIDE), .val (.int pb), .val (.int (0 : Int32))] [(.int pb), (.ref r_DIVIDE)]))) (fun t kt => ?_) ?_
        · show Steps p.tables e below (T97.setTop (mkF m 83 #[.val (.int pa), .val (.int pb), .val (.int pc), .val (.int (12 : Int32)), .val (.ref r_DIVIDE), .val (.int pb), .unset] [(.int (2 : Int32)), (.int pb)])) t
          refine XS.icmpYes X97.here hx rfl (pc0 := 83) (pc' := 90) rfl (hb hby at_83) rfl (XT.ii_ne_t c99) (by decide) (by decide) ?_
          show Steps p.tables e below (T97.setTop (mkF m 90 #[.val (.int pa), .val (.int pb), .val (.int pc), .val (.int (12 : Int32)), .val (.ref r_DIVIDE), .val (.int pb), .unset] [])) t
          refine XS.iconst X97.here hx rfl (hb hby at_90) ?_
          show Steps p.tables e below (T97.setTop (mkF m 91 #[.val (.int pa), .val (.int pb), .val (.int pc), .val (.int (12 : Int32)), .val (.ref r_DIVIDE), .val (.int pb), .unset] [(.int (0 : Int32))])) t
          refine XS.istore X97.here hx rfl (hb hby at_91) rfl (l' := #[.val (.int pa), .val (.int pb), .val (.int pc), .val (.int (12 : Int32)), .val (.ref r_DIVIDE), .val (.int pb), .val (.int (0 : Int32))]) rfl ?_
          show Steps p.tables e below (T97.setTop (mkF m 93 #[.val (.int pa), .val (.int pb), .val (.int pc), .val (.int (12 : Int32)), .val (.ref r_DIVIDE), .val (.int pb), .val (.int (0 : Int32))] [])) t
          refine XS.aload X97.here hx rfl (hb hby at_93) rfl rfl ?_
          show Steps p.tables e below (T97.setTop (mkF m 95 #[.val (.int pa), .val (.int pb), .val (.int pc), .val (.int (12 : Int32)), .val (.ref r_DIVIDE), .val (.int pb), .val (.int (0 : Int32))] [(.ref r_DIVIDE)])) t
          refine XS.iload X97.here hx rfl (hb hby at_95) rfl ?_
          exact kt
        obtain ⟨v101, T101, L101, X101, q101, st101⟩ := callVirtual X97 hx hZ (y := (⟨"com/example/thistle/thistle/language/Operator", "admits", "(I)Z"⟩ : MethodName)) (z := (⟨"com/example/thistle/thistle/language/Operator", "admits", "(I)Z"⟩ : MethodName)) (W := 0) hown (wdOf hw 8 rfl) (wdOf hw 9 rfl) (notFace_of_selects (args := #[]) (mvT hZ (wdOf hw 11 rfl))) (wdOf hw 11 rfl) (wdOf hw 10 rfl) (wdOf hw 6 rfl) (wdOf hw 12 rfl) (by decide) (rm_adm l Z a0 hw [] r_DIVIDE pb (2 : Int32) (2 : Int32) (0 : Int32) h0 n0 Z0 F_fewestArguments_DIVIDE F_mostArguments_DIVIDE ((if_pos (own_ne c99)).symm)) (by decide) (by decide) (by decide) (by decide) K97 E_DIVIDE (g := (mkF m 97 #[.val (.int pa), .val (.int pb), .val (.int pc), .val (.int (12 : Int32)), .val (.ref r_DIVIDE), .val (.int pb), .val (.int (0 : Int32))] [(.int pb), (.ref r_DIVIDE)])) rfl (by rw [hml]; rfl) (argsL := [(.int pb)]) (rest := []) (lenOf pd_1 rfl) rfl rfl (Nat.le_refl _) (hb hby at_97)
        obtain ⟨rfl, n101, K101⟩ := q101
        have N101 := Fr.app N97 n101
        refine Goes.go (U' := (T101.setTop (mkF m 100 #[.val (.int pa), .val (.int pb), .val (.int pc), .val (.int (12 : Int32)), .val (.ref r_DIVIDE), .val (.int pb), .val (.int (0 : Int32))] [(.int (0 : Int32))]))) st101 ?_
        refine Goes.go (U' := (T101.setTop (mkF m 110 #[.val (.int pa), .val (.int pb), .val (.int pc), .val (.int (12 : Int32)), .val (.ref r_DIVIDE), .val (.int pb), .val (.int (0 : Int32))] [(.int (1 : Int32))]))) (fun t kt => ?_) ?_
        · show Steps p.tables e below (T101.setTop (mkF m 100 #[.val (.int pa), .val (.int pb), .val (.int pc), .val (.int (12 : Int32)), .val (.ref r_DIVIDE), .val (.int pb), .val (.int (0 : Int32))] [(.int (0 : Int32))])) t
          refine XS.iload X101.here hx rfl (hb hby at_100) rfl ?_
          show Steps p.tables e below (T101.setTop (mkF m 102 #[.val (.int pa), .val (.int pb), .val (.int pc), .val (.int (12 : Int32)), .val (.ref r_DIVIDE), .val (.int pb), .val (.int (0 : Int32))] [(.int (0 : Int32)), (.int (0 : Int32))])) t
          refine XS.icmpNo X101.here hx rfl (hb hby at_102) rfl (XT.ii_ne_f (by decide)) ?_
          show Steps p.tables e below (T101.setTop (mkF m 105 #[.val (.int pa), .val (.int pb), .val (.int pc), .val (.int (12 : Int32)), .val (.ref r_DIVIDE), .val (.int pb), .val (.int (0 : Int32))] [])) t
          refine XS.iconst X101.here hx rfl (hb hby at_105) ?_
          show Steps p.tables e below (T101.setTop (mkF m 106 #[.val (.int pa), .val (.int pb), .val (.int pc), .val (.int (12 : Int32)), .val (.ref r_DIVIDE), .val (.int pb), .val (.int (0 : Int32))] [(.int (1 : Int32))])) t
          refine XS.goto X101.here hx rfl (pc0 := 106) (pc' := 110) rfl (hb hby at_106) (by decide) (by decide) ?_
          exact kt
        refine Goes.retB X101 hx hlk hret (hb hby at_110) (by decide) (by decide) ?_
        try rw [K101]
        exact ⟨rfl, N101⟩
    · -- not (pc &&& (1 : Int32)) = 0
      refine Goes.go (U' := (T97.setTop (mkF m 83 #[.val (.int pa), .val (.int pb), .val (.int pc), .val (.int (12 : Int32)), .val (.ref r_DIVIDE), .val (.int ((pb &&& (7 : Int32)) - (2 : Int32))), .unset] [(.int (2 : Int32)), (.int ((pb &&& (7 : Int32)) - (2 : Int32)))]))) (fun t kt => ?_) ?_
      · show Steps p.tables e below (T97.setTop (mkF m 17 #[.val (.int pa), .val (.int pb), .val (.int pc), .val (.int (12 : Int32)), .val (.ref r_DIVIDE), .unset, .unset] [(.int (pc &&& (1 : Int32)))])) t
        refine XS.ifNo X97.here hx rfl (hb hby at_17) rfl (XT.i0_eq_f c98) ?_
        show Steps p.tables e below (T97.setTop (mkF m 20 #[.val (.int pa), .val (.int pb), .val (.int pc), .val (.int (12 : Int32)), .val (.ref r_DIVIDE), .unset, .unset] [])) t
        refine XS.iloadN X97.here hx rfl (hb hby at_20) rfl ?_
        show Steps p.tables e below (T97.setTop (mkF m 21 #[.val (.int pa), .val (.int pb), .val (.int pc), .val (.int (12 : Int32)), .val (.ref r_DIVIDE), .unset, .unset] [(.int pb)])) t
        refine XS.bipush X97.here hx rfl (hb hby at_21) ?_
        show Steps p.tables e below (T97.setTop (mkF m 23 #[.val (.int pa), .val (.int pb), .val (.int pc), .val (.int (12 : Int32)), .val (.ref r_DIVIDE), .unset, .unset] [(.int (7 : Int32)), (.int pb)])) t
        refine XS.iand X97.here hx rfl (hb hby at_23) rfl ?_
        show Steps p.tables e below (T97.setTop (mkF m 24 #[.val (.int pa), .val (.int pb), .val (.int pc), .val (.int (12 : Int32)), .val (.ref r_DIVIDE), .unset, .unset] [(.int (pb &&& (7 : Int32)))])) t
        refine XS.iconst X97.here hx rfl (hb hby at_24) ?_
        show Steps p.tables e below (T97.setTop (mkF m 25 #[.val (.int pa), .val (.int pb), .val (.int pc), .val (.int (12 : Int32)), .val (.ref r_DIVIDE), .unset, .unset] [(.int (2 : Int32)), (.int (pb &&& (7 : Int32)))])) t
        refine XS.isub X97.here hx rfl (hb hby at_25) rfl ?_
        show Steps p.tables e below (T97.setTop (mkF m 26 #[.val (.int pa), .val (.int pb), .val (.int pc), .val (.int (12 : Int32)), .val (.ref r_DIVIDE), .unset, .unset] [(.int ((pb &&& (7 : Int32)) - (2 : Int32)))])) t
        refine XS.istore X97.here hx rfl (hb hby at_26) rfl (l' := #[.val (.int pa), .val (.int pb), .val (.int pc), .val (.int (12 : Int32)), .val (.ref r_DIVIDE), .val (.int ((pb &&& (7 : Int32)) - (2 : Int32))), .unset]) rfl ?_
        show Steps p.tables e below (T97.setTop (mkF m 28 #[.val (.int pa), .val (.int pb), .val (.int pc), .val (.int (12 : Int32)), .val (.ref r_DIVIDE), .val (.int ((pb &&& (7 : Int32)) - (2 : Int32))), .unset] [])) t
        refine XS.goto X97.here hx rfl (pc0 := 28) (pc' := 34) rfl (hb hby at_28) (by decide) (by decide) ?_
        show Steps p.tables e below (T97.setTop (mkF m 34 #[.val (.int pa), .val (.int pb), .val (.int pc), .val (.int (12 : Int32)), .val (.ref r_DIVIDE), .val (.int ((pb &&& (7 : Int32)) - (2 : Int32))), .unset] [])) t
        refine XS.iloadN X97.here hx rfl (hb hby at_34) rfl ?_
        show Steps p.tables e below (T97.setTop (mkF m 35 #[.val (.int pa), .val (.int pb), .val (.int pc), .val (.int (12 : Int32)), .val (.ref r_DIVIDE), .val (.int ((pb &&& (7 : Int32)) - (2 : Int32))), .unset] [(.int (12 : Int32))])) t
        refine XS.ifNo X97.here hx rfl (hb hby at_35) rfl (XT.i0_eq_f (by decide)) ?_
        show Steps p.tables e below (T97.setTop (mkF m 38 #[.val (.int pa), .val (.int pb), .val (.int pc), .val (.int (12 : Int32)), .val (.ref r_DIVIDE), .val (.int ((pb &&& (7 : Int32)) - (2 : Int32))), .unset] [])) t
        refine XS.iloadN X97.here hx rfl (hb hby at_38) rfl ?_
        show Steps p.tables e below (T97.setTop (mkF m 39 #[.val (.int pa), .val (.int pb), .val (.int pc), .val (.int (12 : Int32)), .val (.ref r_DIVIDE), .val (.int ((pb &&& (7 : Int32)) - (2 : Int32))), .unset] [(.int (12 : Int32))])) t
        refine XS.iconst X97.here hx rfl (hb hby at_39) ?_
        show Steps p.tables e below (T97.setTop (mkF m 40 #[.val (.int pa), .val (.int pb), .val (.int pc), .val (.int (12 : Int32)), .val (.ref r_DIVIDE), .val (.int ((pb &&& (7 : Int32)) - (2 : Int32))), .unset] [(.int (1 : Int32)), (.int (12 : Int32))])) t
        refine XS.icmpYes X97.here hx rfl (pc0 := 40) (pc' := 59) rfl (hb hby at_40) rfl (XT.ii_ne_t (by decide)) (by decide) (by decide) ?_
        show Steps p.tables e below (T97.setTop (mkF m 59 #[.val (.int pa), .val (.int pb), .val (.int pc), .val (.int (12 : Int32)), .val (.ref r_DIVIDE), .val (.int ((pb &&& (7 : Int32)) - (2 : Int32))), .unset] [])) t
        refine XS.iloadN X97.here hx rfl (hb hby at_59) rfl ?_
        show Steps p.tables e below (T97.setTop (mkF m 60 #[.val (.int pa), .val (.int pb), .val (.int pc), .val (.int (12 : Int32)), .val (.ref r_DIVIDE), .val (.int ((pb &&& (7 : Int32)) - (2 : Int32))), .unset] [(.int (12 : Int32))])) t
        refine XS.iconst X97.here hx rfl (hb hby at_60) ?_
        show Steps p.tables e below (T97.setTop (mkF m 61 #[.val (.int pa), .val (.int pb), .val (.int pc), .val (.int (12 : Int32)), .val (.ref r_DIVIDE), .val (.int ((pb &&& (7 : Int32)) - (2 : Int32))), .unset] [(.int (2 : Int32)), (.int (12 : Int32))])) t
        refine XS.icmpYes X97.here hx rfl (pc0 := 61) (pc' := 80) rfl (hb hby at_61) rfl (XT.ii_ne_t (by decide)) (by decide) (by decide) ?_
        show Steps p.tables e below (T97.setTop (mkF m 80 #[.val (.int pa), .val (.int pb), .val (.int pc), .val (.int (12 : Int32)), .val (.ref r_DIVIDE), .val (.int ((pb &&& (7 : Int32)) - (2 : Int32))), .unset] [])) t
        refine XS.iload X97.here hx rfl (hb hby at_80) rfl ?_
        show Steps p.tables e below (T97.setTop (mkF m 82 #[.val (.int pa), .val (.int pb), .val (.int pc), .val (.int (12 : Int32)), .val (.ref r_DIVIDE), .val (.int ((pb &&& (7 : Int32)) - (2 : Int32))), .unset] [(.int ((pb &&& (7 : Int32)) - (2 : Int32)))])) t
        refine XS.iconst X97.here hx rfl (hb hby at_82) ?_
        exact kt
      by_cases c102 : ((pb &&& (7 : Int32)) - (2 : Int32)) = (2 : Int32)
      · -- ((pb &&& (7 : Int32)) - (2 : Int32)) = (2 : Int32)
        refine Goes.go (U' := (T97.setTop (mkF m 97 #[.val (.int pa), .val (.int pb), .val (.int pc), .val (.int (12 : Int32)), .val (.ref r_DIVIDE), .val (.int ((pb &&& (7 : Int32)) - (2 : Int32))), .val (.int (1 : Int32))] [(.int ((pb &&& (7 : Int32)) - (2 : Int32))), (.ref r_DIVIDE)]))) (fun t kt => ?_) ?_
        · show Steps p.tables e below (T97.setTop (mkF m 83 #[.val (.int pa), .val (.int pb), .val (.int pc), .val (.int (12 : Int32)), .val (.ref r_DIVIDE), .val (.int ((pb &&& (7 : Int32)) - (2 : Int32))), .unset] [(.int (2 : Int32)), (.int ((pb &&& (7 : Int32)) - (2 : Int32)))])) t
          refine XS.icmpNo X97.here hx rfl (hb hby at_83) rfl (XT.ii_ne_f c102) ?_
          show Steps p.tables e below (T97.setTop (mkF m 86 #[.val (.int pa), .val (.int pb), .val (.int pc), .val (.int (12 : Int32)), .val (.ref r_DIVIDE), .val (.int ((pb &&& (7 : Int32)) - (2 : Int32))), .unset] [])) t
          refine XS.iconst X97.here hx rfl (hb hby at_86) ?_
          show Steps p.tables e below (T97.setTop (mkF m 87 #[.val (.int pa), .val (.int pb), .val (.int pc), .val (.int (12 : Int32)), .val (.ref r_DIVIDE), .val (.int ((pb &&& (7 : Int32)) - (2 : Int32))), .unset] [(.int (1 : Int32))])) t
          refine XS.goto X97.here hx rfl (pc0 := 87) (pc' := 91) rfl (hb hby at_87) (by decide) (by decide) ?_
          show Steps p.tables e below (T97.setTop (mkF m 91 #[.val (.int pa), .val (.int pb), .val (.int pc), .val (.int (12 : Int32)), .val (.ref r_DIVIDE), .val (.int ((pb &&& (7 : Int32)) - (2 : Int32))), .unset] [(.int (1 : Int32))])) t
          refine XS.istore X97.here hx rfl (hb hby at_91) rfl (l' := #[.val (.int pa), .val (.int pb), .val (.int pc), .val (.int (12 : Int32)), .val (.ref r_DIVIDE), .val (.int ((pb &&& (7 : Int32)) - (2 : Int32))), .val (.int (1 : Int32))]) rfl ?_
          show Steps p.tables e below (T97.setTop (mkF m 93 #[.val (.int pa), .val (.int pb), .val (.int pc), .val (.int (12 : Int32)), .val (.ref r_DIVIDE), .val (.int ((pb &&& (7 : Int32)) - (2 : Int32))), .val (.int (1 : Int32))] [])) t
          refine XS.aload X97.here hx rfl (hb hby at_93) rfl rfl ?_
          show Steps p.tables e below (T97.setTop (mkF m 95 #[.val (.int pa), .val (.int pb), .val (.int pc), .val (.int (12 : Int32)), .val (.ref r_DIVIDE), .val (.int ((pb &&& (7 : Int32)) - (2 : Int32))), .val (.int (1 : Int32))] [(.ref r_DIVIDE)])) t
          refine XS.iload X97.here hx rfl (hb hby at_95) rfl ?_
          exact kt
        obtain ⟨v103, T103, L103, X103, q103, st103⟩ := callVirtual X97 hx hZ (y := (⟨"com/example/thistle/thistle/language/Operator", "admits", "(I)Z"⟩ : MethodName)) (z := (⟨"com/example/thistle/thistle/language/Operator", "admits", "(I)Z"⟩ : MethodName)) (W := 0) hown (wdOf hw 8 rfl) (wdOf hw 9 rfl) (notFace_of_selects (args := #[]) (mvT hZ (wdOf hw 11 rfl))) (wdOf hw 11 rfl) (wdOf hw 10 rfl) (wdOf hw 6 rfl) (wdOf hw 12 rfl) (by decide) (rm_adm l Z a0 hw [] r_DIVIDE ((pb &&& (7 : Int32)) - (2 : Int32)) (2 : Int32) (2 : Int32) (1 : Int32) h0 n0 Z0 F_fewestArguments_DIVIDE F_mostArguments_DIVIDE ((if_neg (own_eq c102)).symm)) (by decide) (by decide) (by decide) (by decide) K97 E_DIVIDE (g := (mkF m 97 #[.val (.int pa), .val (.int pb), .val (.int pc), .val (.int (12 : Int32)), .val (.ref r_DIVIDE), .val (.int ((pb &&& (7 : Int32)) - (2 : Int32))), .val (.int (1 : Int32))] [(.int ((pb &&& (7 : Int32)) - (2 : Int32))), (.ref r_DIVIDE)])) rfl (by rw [hml]; rfl) (argsL := [(.int ((pb &&& (7 : Int32)) - (2 : Int32)))]) (rest := []) (lenOf pd_1 rfl) rfl rfl (Nat.le_refl _) (hb hby at_97)
        obtain ⟨rfl, n103, K103⟩ := q103
        have N103 := Fr.app N97 n103
        refine Goes.go (U' := (T103.setTop (mkF m 100 #[.val (.int pa), .val (.int pb), .val (.int pc), .val (.int (12 : Int32)), .val (.ref r_DIVIDE), .val (.int ((pb &&& (7 : Int32)) - (2 : Int32))), .val (.int (1 : Int32))] [(.int (1 : Int32))]))) st103 ?_
        refine Goes.go (U' := (T103.setTop (mkF m 110 #[.val (.int pa), .val (.int pb), .val (.int pc), .val (.int (12 : Int32)), .val (.ref r_DIVIDE), .val (.int ((pb &&& (7 : Int32)) - (2 : Int32))), .val (.int (1 : Int32))] [(.int (1 : Int32))]))) (fun t kt => ?_) ?_
        · show Steps p.tables e below (T103.setTop (mkF m 100 #[.val (.int pa), .val (.int pb), .val (.int pc), .val (.int (12 : Int32)), .val (.ref r_DIVIDE), .val (.int ((pb &&& (7 : Int32)) - (2 : Int32))), .val (.int (1 : Int32))] [(.int (1 : Int32))])) t
          refine XS.iload X103.here hx rfl (hb hby at_100) rfl ?_
          show Steps p.tables e below (T103.setTop (mkF m 102 #[.val (.int pa), .val (.int pb), .val (.int pc), .val (.int (12 : Int32)), .val (.ref r_DIVIDE), .val (.int ((pb &&& (7 : Int32)) - (2 : Int32))), .val (.int (1 : Int32))] [(.int (1 : Int32)), (.int (1 : Int32))])) t
          refine XS.icmpNo X103.here hx rfl (hb hby at_102) rfl (XT.ii_ne_f (by decide)) ?_
          show Steps p.tables e below (T103.setTop (mkF m 105 #[.val (.int pa), .val (.int pb), .val (.int pc), .val (.int (12 : Int32)), .val (.ref r_DIVIDE), .val (.int ((pb &&& (7 : Int32)) - (2 : Int32))), .val (.int (1 : Int32))] [])) t
          refine XS.iconst X103.here hx rfl (hb hby at_105) ?_
          show Steps p.tables e below (T103.setTop (mkF m 106 #[.val (.int pa), .val (.int pb), .val (.int pc), .val (.int (12 : Int32)), .val (.ref r_DIVIDE), .val (.int ((pb &&& (7 : Int32)) - (2 : Int32))), .val (.int (1 : Int32))] [(.int (1 : Int32))])) t
          refine XS.goto X103.here hx rfl (pc0 := 106) (pc' := 110) rfl (hb hby at_106) (by decide) (by decide) ?_
          exact kt
        refine Goes.retB X103 hx hlk hret (hb hby at_110) (by decide) (by decide) ?_
        try rw [K103]
        exact ⟨rfl, N103⟩
      · -- not ((pb &&& (7 : Int32)) - (2 : Int32)) = (2 : Int32)
        refine Goes.go (U' := (T97.setTop (mkF m 97 #[.val (.int pa), .val (.int pb), .val (.int pc), .val (.int (12 : Int32)), .val (.ref r_DIVIDE), .val (.int ((pb &&& (7 : Int32)) - (2 : Int32))), .val (.int (0 : Int32))] [(.int ((pb &&& (7 : Int32)) - (2 : Int32))), (.ref r_DIVIDE)]))) (fun t kt => ?_) ?_
        · show Steps p.tables e below (T97.setTop (mkF m 83 #[.val (.int pa), .val (.int pb), .val (.int pc), .val (.int (12 : Int32)), .val (.ref r_DIVIDE), .val (.int ((pb &&& (7 : Int32)) - (2 : Int32))), .unset] [(.int (2 : Int32)), (.int ((pb &&& (7 : Int32)) - (2 : Int32)))])) t
          refine XS.icmpYes X97.here hx rfl (pc0 := 83) (pc' := 90) rfl (hb hby at_83) rfl (XT.ii_ne_t c102) (by decide) (by decide) ?_
          show Steps p.tables e below (T97.setTop (mkF m 90 #[.val (.int pa), .val (.int pb), .val (.int pc), .val (.int (12 : Int32)), .val (.ref r_DIVIDE), .val (.int ((pb &&& (7 : Int32)) - (2 : Int32))), .unset] [])) t
          refine XS.iconst X97.here hx rfl (hb hby at_90) ?_
          show Steps p.tables e below (T97.setTop (mkF m 91 #[.val (.int pa), .val (.int pb), .val (.int pc), .val (.int (12 : Int32)), .val (.ref r_DIVIDE), .val (.int ((pb &&& (7 : Int32)) - (2 : Int32))), .unset] [(.int (0 : Int32))])) t
          refine XS.istore X97.here hx rfl (hb hby at_91) rfl (l' := #[.val (.int pa), .val (.int pb), .val (.int pc), .val (.int (12 : Int32)), .val (.ref r_DIVIDE), .val (.int ((pb &&& (7 : Int32)) - (2 : Int32))), .val (.int (0 : Int32))]) rfl ?_
          show Steps p.tables e below (T97.setTop (mkF m 93 #[.val (.int pa), .val (.int pb), .val (.int pc), .val (.int (12 : Int32)), .val (.ref r_DIVIDE), .val (.int ((pb &&& (7 : Int32)) - (2 : Int32))), .val (.int (0 : Int32))] [])) t
          refine XS.aload X97.here hx rfl (hb hby at_93) rfl rfl ?_
          show Steps p.tables e below (T97.setTop (mkF m 95 #[.val (.int pa), .val (.int pb), .val (.int pc), .val (.int (12 : Int32)), .val (.ref r_DIVIDE), .val (.int ((pb &&& (7 : Int32)) - (2 : Int32))), .val (.int (0 : Int32))] [(.ref r_DIVIDE)])) t
          refine XS.iload X97.here hx rfl (hb hby at_95) rfl ?_
          exact kt
        obtain ⟨v104, T104, L104, X104, q104, st104⟩ := callVirtual X97 hx hZ (y := (⟨"com/example/thistle/thistle/language/Operator", "admits", "(I)Z"⟩ : MethodName)) (z := (⟨"com/example/thistle/thistle/language/Operator", "admits", "(I)Z"⟩ : MethodName)) (W := 0) hown (wdOf hw 8 rfl) (wdOf hw 9 rfl) (notFace_of_selects (args := #[]) (mvT hZ (wdOf hw 11 rfl))) (wdOf hw 11 rfl) (wdOf hw 10 rfl) (wdOf hw 6 rfl) (wdOf hw 12 rfl) (by decide) (rm_adm l Z a0 hw [] r_DIVIDE ((pb &&& (7 : Int32)) - (2 : Int32)) (2 : Int32) (2 : Int32) (0 : Int32) h0 n0 Z0 F_fewestArguments_DIVIDE F_mostArguments_DIVIDE ((if_pos (own_ne c102)).symm)) (by decide) (by decide) (by decide) (by decide) K97 E_DIVIDE (g := (mkF m 97 #[.val (.int pa), .val (.int pb), .val (.int pc), .val (.int (12 : Int32)), .val (.ref r_DIVIDE), .val (.int ((pb &&& (7 : Int32)) - (2 : Int32))), .val (.int (0 : Int32))] [(.int ((pb &&& (7 : Int32)) - (2 : Int32))), (.ref r_DIVIDE)])) rfl (by rw [hml]; rfl) (argsL := [(.int ((pb &&& (7 : Int32)) - (2 : Int32)))]) (rest := []) (lenOf pd_1 rfl) rfl rfl (Nat.le_refl _) (hb hby at_97)
        obtain ⟨rfl, n104, K104⟩ := q104
        have N104 := Fr.app N97 n104
        refine Goes.go (U' := (T104.setTop (mkF m 100 #[.val (.int pa), .val (.int pb), .val (.int pc), .val (.int (12 : Int32)), .val (.ref r_DIVIDE), .val (.int ((pb &&& (7 : Int32)) - (2 : Int32))), .val (.int (0 : Int32))] [(.int (0 : Int32))]))) st104 ?_
        refine Goes.go (U' := (T104.setTop (mkF m 110 #[.val (.int pa), .val (.int pb), .val (.int pc), .val (.int (12 : Int32)), .val (.ref r_DIVIDE), .val (.int ((pb &&& (7 : Int32)) - (2 : Int32))), .val (.int (0 : Int32))] [(.int (1 : Int32))]))) (fun t kt => ?_) ?_
        · show Steps p.tables e below (T104.setTop (mkF m 100 #[.val (.int pa), .val (.int pb), .val (.int pc), .val (.int (12 : Int32)), .val (.ref r_DIVIDE), .val (.int ((pb &&& (7 : Int32)) - (2 : Int32))), .val (.int (0 : Int32))] [(.int (0 : Int32))])) t
          refine XS.iload X104.here hx rfl (hb hby at_100) rfl ?_
          show Steps p.tables e below (T104.setTop (mkF m 102 #[.val (.int pa), .val (.int pb), .val (.int pc), .val (.int (12 : Int32)), .val (.ref r_DIVIDE), .val (.int ((pb &&& (7 : Int32)) - (2 : Int32))), .val (.int (0 : Int32))] [(.int (0 : Int32)), (.int (0 : Int32))])) t
          refine XS.icmpNo X104.here hx rfl (hb hby at_102) rfl (XT.ii_ne_f (by decide)) ?_
          show Steps p.tables e below (T104.setTop (mkF m 105 #[.val (.int pa), .val (.int pb), .val (.int pc), .val (.int (12 : Int32)), .val (.ref r_DIVIDE), .val (.int ((pb &&& (7 : Int32)) - (2 : Int32))), .val (.int (0 : Int32))] [])) t
          refine XS.iconst X104.here hx rfl (hb hby at_105) ?_
          show Steps p.tables e below (T104.setTop (mkF m 106 #[.val (.int pa), .val (.int pb), .val (.int pc), .val (.int (12 : Int32)), .val (.ref r_DIVIDE), .val (.int ((pb &&& (7 : Int32)) - (2 : Int32))), .val (.int (0 : Int32))] [(.int (1 : Int32))])) t
          refine XS.goto X104.here hx rfl (pc0 := 106) (pc' := 110) rfl (hb hby at_106) (by decide) (by decide) ?_
          exact kt
        refine Goes.retB X104 hx hlk hret (hb hby at_110) (by decide) (by decide) ?_
        try rw [K104]
        exact ⟨rfl, N104⟩
set_option maxRecDepth 65536 in
set_option maxHeartbeats 40000000 in
theorem comes_1 {Post : Tables → Env → Array Value → State → Outcome → State → Prop} (hpost : ∀ tb e args s v u, (limb_1_1.after args s (.returned v) u = true ∧ limb_1_2.after args s (.returned v) u = true) → FrameEnd s (.returned v) u (Jvm.fieldLocs frame_1_writes args s ++ Jvm.arrayLocs frame_1_arrays args s ++ Jvm.staticLocs frame_1_statics s) 0 0 → Post tb e args s (.returned v) u) :
    ArmFor flags0 classFile x code maxLocals ret World_1 tables_1 room_1 Calls_1 rest_1 Pre_1 Post := by
  intro l hfl _ _ p e ha hc hk s m args below hf hA hF happ hP
  obtain ⟨hcalls, hrest, hpre⟩ := hP
  obtain ⟨-, -, -, hnamed, -, -, -, hat⟩ := (Spec.applies_iff hf).mp happ
  obtain ⟨hg, hn⟩ := and_e (Cond.before_iff.mp (show (Jvm.Cond.and given_1 narrow_1).before args s = true from hpre))
  obtain ⟨gc, gs⟩ := and_e hg
  obtain ⟨ga0, gs⟩ := and_e gs
  obtain ⟨ga1, gs⟩ := and_e gs
  have ga2 := gs
  obtain ⟨w0, w1, w2, rfl⟩ : ∃ w0 w1 w2 : Value, args = #[w0, w1, w2] := by
    have hs : args.size = 3 := by simpa [Cond.value, given_1] using gc
    obtain ⟨L⟩ := args
    match L, hs with
    | [w0, w1, w2], _ => exact ⟨w0, w1, w2, rfl⟩
  have hw := fun d (hd : d ∈ tables_1) => atoms_spec (ws := Jvm.Cond.code x code maxLocals ret :: tables_1) hat d (List.mem_cons_of_mem _ hd)
  have hfit : Fit s := fun {y c} hc i hi => by
    obtain ⟨ha, rfl⟩ := Array.getElem?_eq_some_iff.mp hc
    have q := List.all_eq_true.mp ((Array.all_eq_true_iff_forall_mem.mp hF) _ (Array.getElem_mem ha)) i (List.mem_range.mpr hi)
    simpa [Array.getElem?_eq_getElem hi] using q
  obtain ⟨i0, ei0⟩ := is_v ga0
  obtain rfl : w0 = (.int i0) := Option.some.inj ei0
  obtain ⟨i1, ei1⟩ := is_v ga1
  obtain rfl : w1 = (.int i1) := Option.some.inj ei1
  obtain ⟨i2, ei2⟩ := is_v ga2
  obtain rfl : w2 = (.int i2) := Option.some.inj ei2
  obtain ⟨hn0, hn⟩ := and_e hn
  obtain ⟨hn1, hn⟩ := and_e hn
  obtain ⟨hn2, hn⟩ := and_e hn
  obtain ⟨hn3, hn⟩ := and_e hn
  obtain ⟨hn4, hn⟩ := and_e hn
  obtain ⟨hn5, hn⟩ := and_e hn
  obtain ⟨hn6, hn⟩ := and_e hn
  obtain ⟨hn7, hn⟩ := and_e hn
  obtain ⟨hn8, hn⟩ := and_e hn
  obtain ⟨hn9, hn⟩ := and_e hn
  obtain ⟨hn10, hn⟩ := and_e hn
  obtain ⟨hn11, hn⟩ := and_e hn
  obtain ⟨hn12, hn⟩ := and_e hn
  obtain ⟨hn13, hn⟩ := and_e hn
  obtain ⟨hn14, hn⟩ := and_e hn
  obtain ⟨hn15, hn⟩ := and_e hn
  obtain ⟨hn16, hn⟩ := and_e hn
  obtain ⟨hn17, hn⟩ := and_e hn
  obtain ⟨hn18, hn⟩ := and_e hn
  obtain ⟨hn19, hn⟩ := and_e hn
  obtain ⟨hn20, hn⟩ := and_e hn
  obtain ⟨hn21, hn⟩ := and_e hn
  obtain ⟨hn22, hn⟩ := and_e hn
  obtain ⟨hn23, hn⟩ := and_e hn
  obtain ⟨hn24, hn⟩ := and_e hn
  obtain ⟨hn25, hn⟩ := and_e hn
  obtain ⟨hn26, hn⟩ := and_e hn
  obtain ⟨hn27, hn⟩ := and_e hn
  obtain ⟨hn28, hn⟩ := and_e hn
  obtain ⟨hn29, hn⟩ := and_e hn
  obtain ⟨hn30, hn⟩ := and_e hn
  obtain ⟨hn31, hn⟩ := and_e hn
  obtain ⟨hn32, hn⟩ := and_e hn
  obtain ⟨hn33, hn⟩ := and_e hn
  obtain ⟨hn34, hn⟩ := and_e hn
  obtain ⟨hn35, hn⟩ := and_e hn
  obtain ⟨hn36, hn⟩ := and_e hn
  obtain ⟨hn37, hn⟩ := and_e hn
  have hn38 := hn
  obtain ⟨r_AND, ev_AND⟩ := exa_v hn0
  have E_AND : Exa s s.heap r_AND "com/example/thistle/thistle/language/Operator" := Exa.start ev_AND hn0
  have S_AND : Sta s s.heap "com/example/thistle/thistle/language/Operator" "AND" "Lcom/example/thistle/thistle/language/Operator;" (.ref r_AND) := Sta.start ev_AND (Or.inr ⟨(wdOf hw 6 rfl), (wdOf hw 7 rfl)⟩)
  obtain ⟨r_OR, ev_OR⟩ := exa_v hn3
  have E_OR : Exa s s.heap r_OR "com/example/thistle/thistle/language/Operator" := Exa.start ev_OR hn3
  have S_OR : Sta s s.heap "com/example/thistle/thistle/language/Operator" "OR" "Lcom/example/thistle/thistle/language/Operator;" (.ref r_OR) := Sta.start ev_OR (Or.inr ⟨(wdOf hw 6 rfl), (wdOf hw 18 rfl)⟩)
  obtain ⟨r_LESS_THAN_OR_EQUAL, ev_LESS_THAN_OR_EQUAL⟩ := exa_v hn6
  have E_LESS_THAN_OR_EQUAL : Exa s s.heap r_LESS_THAN_OR_EQUAL "com/example/thistle/thistle/language/Operator" := Exa.start ev_LESS_THAN_OR_EQUAL hn6
  have S_LESS_THAN_OR_EQUAL : Sta s s.heap "com/example/thistle/thistle/language/Operator" "LESS_THAN_OR_EQUAL" "Lcom/example/thistle/thistle/language/Operator;" (.ref r_LESS_THAN_OR_EQUAL) := Sta.start ev_LESS_THAN_OR_EQUAL (Or.inr ⟨(wdOf hw 6 rfl), (wdOf hw 20 rfl)⟩)
  obtain ⟨r_GREATER_THAN_OR_EQUAL, ev_GREATER_THAN_OR_EQUAL⟩ := exa_v hn8
  have E_GREATER_THAN_OR_EQUAL : Exa s s.heap r_GREATER_THAN_OR_EQUAL "com/example/thistle/thistle/language/Operator" := Exa.start ev_GREATER_THAN_OR_EQUAL hn8
  have S_GREATER_THAN_OR_EQUAL : Sta s s.heap "com/example/thistle/thistle/language/Operator" "GREATER_THAN_OR_EQUAL" "Lcom/example/thistle/thistle/language/Operator;" (.ref r_GREATER_THAN_OR_EQUAL) := Sta.start ev_GREATER_THAN_OR_EQUAL (Or.inr ⟨(wdOf hw 6 rfl), (wdOf hw 22 rfl)⟩)
  obtain ⟨r_SUBTRACT, ev_SUBTRACT⟩ := exa_v hn10
  have E_SUBTRACT : Exa s s.heap r_SUBTRACT "com/example/thistle/thistle/language/Operator" := Exa.start ev_SUBTRACT hn10
  have S_SUBTRACT : Sta s s.heap "com/example/thistle/thistle/language/Operator" "SUBTRACT" "Lcom/example/thistle/thistle/language/Operator;" (.ref r_SUBTRACT) := Sta.start ev_SUBTRACT (Or.inr ⟨(wdOf hw 6 rfl), (wdOf hw 24 rfl)⟩)
  obtain ⟨r_MULTIPLY, ev_MULTIPLY⟩ := exa_v hn13
  have E_MULTIPLY : Exa s s.heap r_MULTIPLY "com/example/thistle/thistle/language/Operator" := Exa.start ev_MULTIPLY hn13
  have S_MULTIPLY : Sta s s.heap "com/example/thistle/thistle/language/Operator" "MULTIPLY" "Lcom/example/thistle/thistle/language/Operator;" (.ref r_MULTIPLY) := Sta.start ev_MULTIPLY (Or.inr ⟨(wdOf hw 6 rfl), (wdOf hw 26 rfl)⟩)
  obtain ⟨r_EQUAL, ev_EQUAL⟩ := exa_v hn15
  have E_EQUAL : Exa s s.heap r_EQUAL "com/example/thistle/thistle/language/Operator" := Exa.start ev_EQUAL hn15
  have S_EQUAL : Sta s s.heap "com/example/thistle/thistle/language/Operator" "EQUAL" "Lcom/example/thistle/thistle/language/Operator;" (.ref r_EQUAL) := Sta.start ev_EQUAL (Or.inr ⟨(wdOf hw 6 rfl), (wdOf hw 28 rfl)⟩)
  obtain ⟨r_DIVIDE, ev_DIVIDE⟩ := exa_v hn18
  have E_DIVIDE : Exa s s.heap r_DIVIDE "com/example/thistle/thistle/language/Operator" := Exa.start ev_DIVIDE hn18
  have S_DIVIDE : Sta s s.heap "com/example/thistle/thistle/language/Operator" "DIVIDE" "Lcom/example/thistle/thistle/language/Operator;" (.ref r_DIVIDE) := Sta.start ev_DIVIDE (Or.inr ⟨(wdOf hw 6 rfl), (wdOf hw 30 rfl)⟩)
  obtain ⟨r_IN, ev_IN⟩ := exa_v hn21
  have E_IN : Exa s s.heap r_IN "com/example/thistle/thistle/language/Operator" := Exa.start ev_IN hn21
  have S_IN : Sta s s.heap "com/example/thistle/thistle/language/Operator" "IN" "Lcom/example/thistle/thistle/language/Operator;" (.ref r_IN) := Sta.start ev_IN (Or.inr ⟨(wdOf hw 6 rfl), (wdOf hw 32 rfl)⟩)
  obtain ⟨r_GREATER_THAN, ev_GREATER_THAN⟩ := exa_v hn24
  have E_GREATER_THAN : Exa s s.heap r_GREATER_THAN "com/example/thistle/thistle/language/Operator" := Exa.start ev_GREATER_THAN hn24
  have S_GREATER_THAN : Sta s s.heap "com/example/thistle/thistle/language/Operator" "GREATER_THAN" "Lcom/example/thistle/thistle/language/Operator;" (.ref r_GREATER_THAN) := Sta.start ev_GREATER_THAN (Or.inr ⟨(wdOf hw 6 rfl), (wdOf hw 34 rfl)⟩)
  obtain ⟨r_NOT, ev_NOT⟩ := exa_v hn27
  have E_NOT : Exa s s.heap r_NOT "com/example/thistle/thistle/language/Operator" := Exa.start ev_NOT hn27
  have S_NOT : Sta s s.heap "com/example/thistle/thistle/language/Operator" "NOT" "Lcom/example/thistle/thistle/language/Operator;" (.ref r_NOT) := Sta.start ev_NOT (Or.inr ⟨(wdOf hw 6 rfl), (wdOf hw 36 rfl)⟩)
  obtain ⟨r_LESS_THAN, ev_LESS_THAN⟩ := exa_v hn30
  have E_LESS_THAN : Exa s s.heap r_LESS_THAN "com/example/thistle/thistle/language/Operator" := Exa.start ev_LESS_THAN hn30
  have S_LESS_THAN : Sta s s.heap "com/example/thistle/thistle/language/Operator" "LESS_THAN" "Lcom/example/thistle/thistle/language/Operator;" (.ref r_LESS_THAN) := Sta.start ev_LESS_THAN (Or.inr ⟨(wdOf hw 6 rfl), (wdOf hw 38 rfl)⟩)
  obtain ⟨r_ADD, ev_ADD⟩ := exa_v hn34
  have E_ADD : Exa s s.heap r_ADD "com/example/thistle/thistle/language/Operator" := Exa.start ev_ADD hn34
  have S_ADD : Sta s s.heap "com/example/thistle/thistle/language/Operator" "ADD" "Lcom/example/thistle/thistle/language/Operator;" (.ref r_ADD) := Sta.start ev_ADD (Or.inr ⟨(wdOf hw 6 rfl), (wdOf hw 40 rfl)⟩)
  have F_fewestArguments_AND : Fld s s.heap r_AND "com/example/thistle/thistle/language/Operator" "fewestArguments" "I" (.int (2 : Int32)) := Fld.start ((fld_at ev_AND).symm.trans (eqInt_v hn1))
  have F_mostArguments_AND : Fld s s.heap r_AND "com/example/thistle/thistle/language/Operator" "mostArguments" "I" (.int (2147483647 : Int32)) := Fld.start ((fld_at ev_AND).symm.trans (eqInt_v hn2))
  have F_fewestArguments_OR : Fld s s.heap r_OR "com/example/thistle/thistle/language/Operator" "fewestArguments" "I" (.int (2 : Int32)) := Fld.start ((fld_at ev_OR).symm.trans (eqInt_v hn4))
  have F_mostArguments_OR : Fld s s.heap r_OR "com/example/thistle/thistle/language/Operator" "mostArguments" "I" (.int (2147483647 : Int32)) := Fld.start ((fld_at ev_OR).symm.trans (eqInt_v hn5))
  have F_fewestArguments_LESS_THAN_OR_EQUAL : Fld s s.heap r_LESS_THAN_OR_EQUAL "com/example/thistle/thistle/language/Operator" "fewestArguments" "I" (.int (2 : Int32)) := Fld.start ((fld_at ev_LESS_THAN_OR_EQUAL).symm.trans (eqInt_v hn7))
  have F_fewestArguments_GREATER_THAN_OR_EQUAL : Fld s s.heap r_GREATER_THAN_OR_EQUAL "com/example/thistle/thistle/language/Operator" "fewestArguments" "I" (.int (2 : Int32)) := Fld.start ((fld_at ev_GREATER_THAN_OR_EQUAL).symm.trans (eqInt_v hn9))
  have F_fewestArguments_SUBTRACT : Fld s s.heap r_SUBTRACT "com/example/thistle/thistle/language/Operator" "fewestArguments" "I" (.int (2 : Int32)) := Fld.start ((fld_at ev_SUBTRACT).symm.trans (eqInt_v hn11))
  have F_mostArguments_SUBTRACT : Fld s s.heap r_SUBTRACT "com/example/thistle/thistle/language/Operator" "mostArguments" "I" (.int (2 : Int32)) := Fld.start ((fld_at ev_SUBTRACT).symm.trans (eqInt_v hn12))
  have F_fewestArguments_MULTIPLY : Fld s s.heap r_MULTIPLY "com/example/thistle/thistle/language/Operator" "fewestArguments" "I" (.int (2 : Int32)) := Fld.start ((fld_at ev_MULTIPLY).symm.trans (eqInt_v hn14))
  have F_fewestArguments_EQUAL : Fld s s.heap r_EQUAL "com/example/thistle/thistle/language/Operator" "fewestArguments" "I" (.int (2 : Int32)) := Fld.start ((fld_at ev_EQUAL).symm.trans (eqInt_v hn16))
  have F_mostArguments_EQUAL : Fld s s.heap r_EQUAL "com/example/thistle/thistle/language/Operator" "mostArguments" "I" (.int (2 : Int32)) := Fld.start ((fld_at ev_EQUAL).symm.trans (eqInt_v hn17))
  have F_fewestArguments_DIVIDE : Fld s s.heap r_DIVIDE "com/example/thistle/thistle/language/Operator" "fewestArguments" "I" (.int (2 : Int32)) := Fld.start ((fld_at ev_DIVIDE).symm.trans (eqInt_v hn19))
  have F_mostArguments_DIVIDE : Fld s s.heap r_DIVIDE "com/example/thistle/thistle/language/Operator" "mostArguments" "I" (.int (2 : Int32)) := Fld.start ((fld_at ev_DIVIDE).symm.trans (eqInt_v hn20))
  have F_fewestArguments_IN : Fld s s.heap r_IN "com/example/thistle/thistle/language/Operator" "fewestArguments" "I" (.int (2 : Int32)) := Fld.start ((fld_at ev_IN).symm.trans (eqInt_v hn22))
  have F_mostArguments_IN : Fld s s.heap r_IN "com/example/thistle/thistle/language/Operator" "mostArguments" "I" (.int (2 : Int32)) := Fld.start ((fld_at ev_IN).symm.trans (eqInt_v hn23))
  have F_fewestArguments_GREATER_THAN : Fld s s.heap r_GREATER_THAN "com/example/thistle/thistle/language/Operator" "fewestArguments" "I" (.int (2 : Int32)) := Fld.start ((fld_at ev_GREATER_THAN).symm.trans (eqInt_v hn25))
  have F_mostArguments_GREATER_THAN : Fld s s.heap r_GREATER_THAN "com/example/thistle/thistle/language/Operator" "mostArguments" "I" (.int (2 : Int32)) := Fld.start ((fld_at ev_GREATER_THAN).symm.trans (eqInt_v hn26))
  have F_fewestArguments_NOT : Fld s s.heap r_NOT "com/example/thistle/thistle/language/Operator" "fewestArguments" "I" (.int (1 : Int32)) := Fld.start ((fld_at ev_NOT).symm.trans (eqInt_v hn28))
  have F_mostArguments_NOT : Fld s s.heap r_NOT "com/example/thistle/thistle/language/Operator" "mostArguments" "I" (.int (1 : Int32)) := Fld.start ((fld_at ev_NOT).symm.trans (eqInt_v hn29))
  have F_fewestArguments_LESS_THAN : Fld s s.heap r_LESS_THAN "com/example/thistle/thistle/language/Operator" "fewestArguments" "I" (.int (2 : Int32)) := Fld.start ((fld_at ev_LESS_THAN).symm.trans (eqInt_v hn31))
  have F_mostArguments_LESS_THAN : Fld s s.heap r_LESS_THAN "com/example/thistle/thistle/language/Operator" "mostArguments" "I" (.int (2 : Int32)) := Fld.start ((fld_at ev_LESS_THAN).symm.trans (eqInt_v hn32))
  have F_mostArguments_MULTIPLY : Fld s s.heap r_MULTIPLY "com/example/thistle/thistle/language/Operator" "mostArguments" "I" (.int (2 : Int32)) := Fld.start ((fld_at ev_MULTIPLY).symm.trans (eqInt_v hn33))
  have F_fewestArguments_ADD : Fld s s.heap r_ADD "com/example/thistle/thistle/language/Operator" "fewestArguments" "I" (.int (2 : Int32)) := Fld.start ((fld_at ev_ADD).symm.trans (eqInt_v hn35))
  have F_mostArguments_ADD : Fld s s.heap r_ADD "com/example/thistle/thistle/language/Operator" "mostArguments" "I" (.int (2 : Int32)) := Fld.start ((fld_at ev_ADD).symm.trans (eqInt_v hn36))
  have F_mostArguments_LESS_THAN_OR_EQUAL : Fld s s.heap r_LESS_THAN_OR_EQUAL "com/example/thistle/thistle/language/Operator" "mostArguments" "I" (.int (2 : Int32)) := Fld.start ((fld_at ev_LESS_THAN_OR_EQUAL).symm.trans (eqInt_v hn37))
  have F_mostArguments_GREATER_THAN_OR_EQUAL : Fld s s.heap r_GREATER_THAN_OR_EQUAL "com/example/thistle/thistle/language/Operator" "mostArguments" "I" (.int (2 : Int32)) := Fld.start ((fld_at ev_GREATER_THAN_OR_EQUAL).symm.trans (eqInt_v hn38))
  obtain ⟨n, o, h1, h2, h3, _, L, rfl, ⟨rfl, N⟩, hq⟩ := rm_law l s _ hw tables_1 i0 i1 i2 r_AND r_OR r_NOT r_EQUAL r_IN r_GREATER_THAN r_LESS_THAN r_GREATER_THAN_OR_EQUAL r_LESS_THAN_OR_EQUAL r_ADD r_SUBTRACT r_MULTIPLY r_DIVIDE s.heap s.heap.size (Nat.le_refl _) S_AND S_OR S_NOT S_EQUAL S_IN S_GREATER_THAN S_LESS_THAN S_GREATER_THAN_OR_EQUAL S_LESS_THAN_OR_EQUAL S_ADD S_SUBTRACT S_MULTIPLY S_DIVIDE E_AND E_OR E_NOT E_EQUAL E_IN E_GREATER_THAN E_LESS_THAN E_GREATER_THAN_OR_EQUAL E_LESS_THAN_OR_EQUAL E_ADD E_SUBTRACT E_MULTIPLY E_DIVIDE  F_fewestArguments_AND F_mostArguments_AND F_fewestArguments_OR F_mostArguments_OR F_fewestArguments_NOT F_mostArguments_NOT F_fewestArguments_EQUAL F_mostArguments_EQUAL F_fewestArguments_IN F_mostArguments_IN F_fewestArguments_GREATER_THAN F_mostArguments_GREATER_THAN F_fewestArguments_LESS_THAN F_mostArguments_LESS_THAN F_fewestArguments_GREATER_THAN_OR_EQUAL F_mostArguments_GREATER_THAN_OR_EQUAL F_fewestArguments_LESS_THAN_OR_EQUAL F_mostArguments_LESS_THAN_OR_EQUAL F_fewestArguments_ADD F_mostArguments_ADD F_fewestArguments_SUBTRACT F_mostArguments_SUBTRACT F_fewestArguments_MULTIPLY F_mostArguments_MULTIPLY F_fewestArguments_DIVIDE F_mostArguments_DIVIDE p e ha hc hk s m _ below hf ((Spec.applies_iff_loose hf).mp happ).1 ⟨rfl, State.Warmed39.refl s, rfl⟩ trivial
  refine ⟨n, _, h1, h2, h3, hpost _ _ _ _ _ _ ⟨Cond.after_iff.mpr rfl, Cond.after_iff.mpr (eq_i res_at (Term.int_eval (1)) rfl)⟩ ⟨hq.1, hq.2.1, (hq.2.2.sift fun y hy => Or.inr (N y hy)).mono (by decide) (by decide)⟩⟩
theorem main_1_1 : Claimed_1_1 := comes_1 fun _ _ _ _ _ _ h hF => ⟨h.1, hF⟩
theorem main_1_2 : Claimed_1_2 := comes_1 fun _ _ _ _ _ _ h hF => ⟨h.2, hF⟩
end Jvm.Pilot.@@N@@
namespace Jvm.Pilot.@@N@@
open Jvm Jvm.ClassFile Sem Op Lib Jvm.Free Jvm.Stand Jvm.Pilot.@@N@@.Jvm.D
/-! MADE BY PROGRAM (witnessworld.py) out of the Statement's table words and the real class files: 12 classes; the members and pool entries that the words name. The judged class is class 1, her method 2. -/
namespace start1
open Jvm.ClassFile
def u (s : String) : CpInfo := .utf8 (stringToUtf16 s)
/-- a pool by its gaps: so many unusable entries, then the entry; so many at the end -/
def gap : Nat → List CpInfo → List CpInfo
  | 0, r => r
  | n + 1, r => .unusable :: gap n r
def poolList (es : List (Nat × CpInfo)) (last : Nat) : List CpInfo := es.foldr (fun e r => gap e.1 (e.2 :: r)) (gap last [])
def pool (es : List (Nat × CpInfo)) (last : Nat) : Array CpInfo := ⟨poolList es last⟩
def fileOf (pool : Array CpInfo) (this : Nat) (attrs : Array Attribute := #[]) (ms : Array MethodInfo := #[]) (fl : Nat := 33) (sup : Nat := 0) (ifs : Array Nat := #[]) (fds : Array FieldInfo := #[]) : ClassFile where
  minorVersion := 0
  majorVersion := 65
  constantPool := pool
  accessFlags := fl
  thisClass := this
  superClass := sup
  interfaces := ifs
  fields := fds
  methods := ms
  attributes := attrs
def plain (name : String) (sup : Option ClassId) : Class where
  name := name
  kind := .ordinary
  loader := none
  accessFlags := 33
  super := sup
  interfaces := #[]
  cf := none
  fields := #[]
  methods := #[]
  instanceTypes := #[]
  staticTypes := #[]
  resolved := #[]
  callSites := []
  init := .initialized
  statics := none
  mirror := none

def pool0 : Array CpInfo := pool [(5, u "<init>"), (0, u "()V"), (1, .class_ 10), (1, u "java/lang/Object")] 113

def k0m0 : Method := { name := "<init>", desc := "()V", sig := { parameters := [], returnType := none }, accessFlags := 1, code := none }
/-- java/lang/Object -/
def k0 : Class := { plain "java/lang/Object" none with
  accessFlags := 33
  interfaces := #[]
  cf := some (fileOf pool0 8 #[] #[{ accessFlags := 1, nameIndex := 5, descriptorIndex := 6, attributes := #[] }] 33 0 #[] #[])
  fields := #[]
  methods := #[k0m0]
  instanceTypes := #[]
  staticTypes := #[]
  resolved := Array.replicate 124 none
  statics := none }

def pool1 : Array CpInfo := pool [(2, .class_ 4), (1, u "java/lang/Object"), (0, u "<init>"), (0, u "()V"), (0, .fieldref 8 9), (0, .class_ 10), (0, .nameAndType 11 12), (0, u "com/example/thistle/thistle/language/Operator"), (0, u "AND"), (0, u "Lcom/example/thistle/thistle/language/Operator;"), (0, .fieldref 8 14), (0, .nameAndType 15 12), (0, u "OR"), (0, .fieldref 8 17), (0, .nameAndType 18 12), (0, u "NOT"), (0, .fieldref 8 20), (0, .nameAndType 21 12), (0, u "EQUAL"), (0, .fieldref 8 23), (0, .nameAndType 24 12), (0, u "IN"), (0, .fieldref 8 26), (0, .nameAndType 27 12), (0, u "GREATER_THAN"), (0, .fieldref 8 29), (0, .nameAndType 30 12), (0, u "LESS_THAN"), (0, .fieldref 8 32), (0, .nameAndType 33 12), (0, u "GREATER_THAN_OR_EQUAL"), (0, .fieldref 8 35), (0, .nameAndType 36 12), (0, u "LESS_THAN_OR_EQUAL"), (0, .fieldref 8 38), (0, .nameAndType 39 12), (0, u "ADD"), (0, .fieldref 8 41), (0, .nameAndType 42 12), (0, u "SUBTRACT"), (0, .fieldref 8 44), (0, .nameAndType 45 12), (0, u "MULTIPLY"), (0, .fieldref 8 47), (0, .nameAndType 48 12), (0, u "DIVIDE"), (0, .integer 2147483647), (0, .methodref 51 52), (0, .class_ 53), (0, .nameAndType 54 55), (0, u "com/example/thistle/thistle/language/OperatorAdmitsPinLaw"), (0, u "pick"), (0, u "(I)Lcom/example/thistle/thistle/language/Operator;"), (0, .methodref 8 57), (0, .nameAndType 58 59), (0, u "admits"), (0, u "(I)Z"), (3, u "law"), (0, u "(III)Z")] 2

def k1m0 : Method := { name := "<init>", desc := "()V", sig := { parameters := [], returnType := none }, accessFlags := 2, code := none }
def k1c1 : Code := { maxStack := 2, maxLocals := 1, code := method_2_code, exceptionTable := #[], attributes := #[] }
def k1m1 : Method := { name := "pick", desc := "(I)Lcom/example/thistle/thistle/language/Operator;", sig := { parameters := [.int], returnType := some (.object "com/example/thistle/thistle/language/Operator") }, accessFlags := 10, code := some k1c1 }
def k1c2 : Code := { maxStack := 2, maxLocals := 7, code := code, exceptionTable := #[], attributes := #[] }
def k1m2 : Method := { name := "law", desc := "(III)Z", sig := { parameters := [.int, .int, .int], returnType := some .boolean }, accessFlags := 9, code := some k1c2 }
/-- com/example/thistle/thistle/language/OperatorAdmitsPinLaw -/
def k1 : Class := { plain "com/example/thistle/thistle/language/OperatorAdmitsPinLaw" (some 0) with
  accessFlags := 49
  interfaces := #[]
  cf := some (fileOf pool1 51 #[] #[{ accessFlags := 2, nameIndex := 5, descriptorIndex := 6, attributes := #[] }, { accessFlags := 10, nameIndex := 54, descriptorIndex := 55, attributes := #[] }, { accessFlags := 9, nameIndex := 63, descriptorIndex := 64, attributes := #[] }] 49 2 #[] #[])
  fields := #[]
  methods := #[k1m0, k1m1, k1m2]
  instanceTypes := #[]
  staticTypes := #[]
  resolved := Array.replicate 67 none
  statics := none }

def pool2 : Array CpInfo := pool [(1, .class_ 2), (0, u "java/lang/constant/Constable"), (0, .class_ 4), (0, u "java/lang/Object")] 6

/-- java/lang/constant/Constable -/
def k2 : Class := { plain "java/lang/constant/Constable" (some 0) with
  accessFlags := 1537
  interfaces := #[]
  cf := some (fileOf pool2 1 #[] #[] 1537 3 #[] #[])
  fields := #[]
  methods := #[]
  instanceTypes := #[]
  staticTypes := #[]
  resolved := Array.replicate 11 none
  statics := none }

def pool3 : Array CpInfo := pool [(1, .class_ 2), (0, u "java/lang/Comparable"), (0, .class_ 4), (0, u "java/lang/Object")] 7

/-- java/lang/Comparable -/
def k3 : Class := { plain "java/lang/Comparable" (some 0) with
  accessFlags := 1537
  interfaces := #[]
  cf := some (fileOf pool3 1 #[] #[] 1537 3 #[] #[])
  fields := #[]
  methods := #[]
  instanceTypes := #[]
  staticTypes := #[]
  resolved := Array.replicate 12 none
  statics := none }

def pool4 : Array CpInfo := pool [(1, .class_ 2), (0, u "java/io/Serializable"), (0, .class_ 4), (0, u "java/lang/Object")] 2

/-- java/io/Serializable -/
def k4 : Class := { plain "java/io/Serializable" (some 0) with
  accessFlags := 1537
  interfaces := #[]
  cf := some (fileOf pool4 1 #[] #[] 1537 3 #[] #[])
  fields := #[]
  methods := #[]
  instanceTypes := #[]
  staticTypes := #[]
  resolved := Array.replicate 7 none
  statics := none }

def pool5 : Array CpInfo := pool [(2, .class_ 4), (1, u "java/lang/Enum"), (0, u "name"), (0, u "Ljava/lang/String;"), (2, u "ordinal"), (0, u "I"), (1, .class_ 14), (1, u "java/lang/Object"), (4, u "hash"), (86, .class_ 108), (1, u "java/lang/Enum$EnumDesc"), (2, .class_ 112), (0, u "java/lang/constant/Constable"), (0, .class_ 114), (0, u "java/lang/Comparable"), (0, .class_ 116), (0, u "java/io/Serializable")] 87

/-- java/lang/Enum -/
def k5 : Class := { plain "java/lang/Enum" (some 0) with
  accessFlags := 1057
  interfaces := #[2, 3, 4]
  cf := some (fileOf pool5 2 #[.nestMembers #[106]] #[] 1057 12 #[111, 113, 115] #[{ accessFlags := 18, nameIndex := 5, descriptorIndex := 6, attributes := #[] }, { accessFlags := 18, nameIndex := 9, descriptorIndex := 10, attributes := #[] }, { accessFlags := 2, nameIndex := 19, descriptorIndex := 10, attributes := #[] }])
  fields := #[{ name := "name", type := (.object "java/lang/String"), accessFlags := 18, slot := 0, constantValue := 0 }, { name := "ordinal", type := .int, accessFlags := 18, slot := 1, constantValue := 0 }, { name := "hash", type := .int, accessFlags := 2, slot := 2, constantValue := 0 }]
  methods := #[]
  instanceTypes := #[(.object "java/lang/String"), .int, .int]
  staticTypes := #[]
  resolved := Array.replicate 204 none
  statics := none }

def pool6 : Array CpInfo := pool [(1, .class_ 2), (0, u "com/example/thistle/thistle/language/Operator"), (2, u "AND"), (0, u "Lcom/example/thistle/thistle/language/Operator;"), (2, u "OR"), (2, u "NOT"), (2, u "EQUAL"), (2, u "IN"), (2, u "GREATER_THAN"), (2, u "LESS_THAN"), (2, u "GREATER_THAN_OR_EQUAL"), (2, u "LESS_THAN_OR_EQUAL"), (2, u "ADD"), (2, u "SUBTRACT"), (2, u "MULTIPLY"), (2, u "DIVIDE"), (2, u "$VALUES"), (0, u "[Lcom/example/thistle/thistle/language/Operator;"), (6, .class_ 55), (1, u "java/lang/Enum"), (8, u "word"), (0, u "Ljava/lang/String;"), (0, .fieldref 1 67), (0, .nameAndType 68 69), (0, u "fewestArguments"), (0, u "I"), (0, .fieldref 1 71), (0, .nameAndType 72 69), (0, u "mostArguments"), (2, u "gives"), (0, u "Lcom/example/thistle/thistle/language/Type;"), (20, u "takes"), (0, u "Ljava/util/Set;"), (112, u "(I)Z"), (3, u "admits")] 38

def k6c0 : Code := { maxStack := 2, maxLocals := 2, code := prog_61_method_9_code, exceptionTable := #[], attributes := #[] }
def k6m0 : Method := { name := "admits", desc := "(I)Z", sig := { parameters := [.int], returnType := some .boolean }, accessFlags := 0, code := some k6c0 }
/-- com/example/thistle/thistle/language/Operator -/
def k6 : Class := { plain "com/example/thistle/thistle/language/Operator" (some 5) with
  accessFlags := 16433
  interfaces := #[]
  cf := some (fileOf pool6 1 #[] #[{ accessFlags := 0, nameIndex := 215, descriptorIndex := 211, attributes := #[] }] 16433 53 #[] #[{ accessFlags := 16409, nameIndex := 5, descriptorIndex := 6, attributes := #[] }, { accessFlags := 16409, nameIndex := 9, descriptorIndex := 6, attributes := #[] }, { accessFlags := 16409, nameIndex := 12, descriptorIndex := 6, attributes := #[] }, { accessFlags := 16409, nameIndex := 15, descriptorIndex := 6, attributes := #[] }, { accessFlags := 16409, nameIndex := 18, descriptorIndex := 6, attributes := #[] }, { accessFlags := 16409, nameIndex := 21, descriptorIndex := 6, attributes := #[] }, { accessFlags := 16409, nameIndex := 24, descriptorIndex := 6, attributes := #[] }, { accessFlags := 16409, nameIndex := 27, descriptorIndex := 6, attributes := #[] }, { accessFlags := 16409, nameIndex := 30, descriptorIndex := 6, attributes := #[] }, { accessFlags := 16409, nameIndex := 33, descriptorIndex := 6, attributes := #[] }, { accessFlags := 16409, nameIndex := 36, descriptorIndex := 6, attributes := #[] }, { accessFlags := 16409, nameIndex := 39, descriptorIndex := 6, attributes := #[] }, { accessFlags := 16409, nameIndex := 42, descriptorIndex := 6, attributes := #[] }, { accessFlags := 18, nameIndex := 64, descriptorIndex := 65, attributes := #[] }, { accessFlags := 18, nameIndex := 68, descriptorIndex := 69, attributes := #[] }, { accessFlags := 18, nameIndex := 72, descriptorIndex := 69, attributes := #[] }, { accessFlags := 18, nameIndex := 75, descriptorIndex := 76, attributes := #[] }, { accessFlags := 18, nameIndex := 97, descriptorIndex := 98, attributes := #[] }, { accessFlags := 4122, nameIndex := 45, descriptorIndex := 46, attributes := #[] }])
  fields := #[{ name := "AND", type := (.object "com/example/thistle/thistle/language/Operator"), accessFlags := 16409, slot := 0, constantValue := 0 }, { name := "OR", type := (.object "com/example/thistle/thistle/language/Operator"), accessFlags := 16409, slot := 1, constantValue := 0 }, { name := "NOT", type := (.object "com/example/thistle/thistle/language/Operator"), accessFlags := 16409, slot := 2, constantValue := 0 }, { name := "EQUAL", type := (.object "com/example/thistle/thistle/language/Operator"), accessFlags := 16409, slot := 3, constantValue := 0 }, { name := "IN", type := (.object "com/example/thistle/thistle/language/Operator"), accessFlags := 16409, slot := 4, constantValue := 0 }, { name := "GREATER_THAN", type := (.object "com/example/thistle/thistle/language/Operator"), accessFlags := 16409, slot := 5, constantValue := 0 }, { name := "LESS_THAN", type := (.object "com/example/thistle/thistle/language/Operator"), accessFlags := 16409, slot := 6, constantValue := 0 }, { name := "GREATER_THAN_OR_EQUAL", type := (.object "com/example/thistle/thistle/language/Operator"), accessFlags := 16409, slot := 7, constantValue := 0 }, { name := "LESS_THAN_OR_EQUAL", type := (.object "com/example/thistle/thistle/language/Operator"), accessFlags := 16409, slot := 8, constantValue := 0 }, { name := "ADD", type := (.object "com/example/thistle/thistle/language/Operator"), accessFlags := 16409, slot := 9, constantValue := 0 }, { name := "SUBTRACT", type := (.object "com/example/thistle/thistle/language/Operator"), accessFlags := 16409, slot := 10, constantValue := 0 }, { name := "MULTIPLY", type := (.object "com/example/thistle/thistle/language/Operator"), accessFlags := 16409, slot := 11, constantValue := 0 }, { name := "DIVIDE", type := (.object "com/example/thistle/thistle/language/Operator"), accessFlags := 16409, slot := 12, constantValue := 0 }, { name := "word", type := (.object "java/lang/String"), accessFlags := 18, slot := 3, constantValue := 0 }, { name := "fewestArguments", type := .int, accessFlags := 18, slot := 4, constantValue := 0 }, { name := "mostArguments", type := .int, accessFlags := 18, slot := 5, constantValue := 0 }, { name := "gives", type := (.object "com/example/thistle/thistle/language/Type"), accessFlags := 18, slot := 6, constantValue := 0 }, { name := "takes", type := (.object "java/util/Set"), accessFlags := 18, slot := 7, constantValue := 0 }, { name := "$VALUES", type := (.array (.object "com/example/thistle/thistle/language/Operator")), accessFlags := 4122, slot := 13, constantValue := 0 }]
  methods := #[k6m0]
  instanceTypes := #[(.object "java/lang/String"), .int, .int, (.object "java/lang/String"), .int, .int, (.object "com/example/thistle/thistle/language/Type"), (.object "java/util/Set")]
  staticTypes := #[(.object "com/example/thistle/thistle/language/Operator"), (.object "com/example/thistle/thistle/language/Operator"), (.object "com/example/thistle/thistle/language/Operator"), (.object "com/example/thistle/thistle/language/Operator"), (.object "com/example/thistle/thistle/language/Operator"), (.object "com/example/thistle/thistle/language/Operator"), (.object "com/example/thistle/thistle/language/Operator"), (.object "com/example/thistle/thistle/language/Operator"), (.object "com/example/thistle/thistle/language/Operator"), (.object "com/example/thistle/thistle/language/Operator"), (.object "com/example/thistle/thistle/language/Operator"), (.object "com/example/thistle/thistle/language/Operator"), (.object "com/example/thistle/thistle/language/Operator"), (.array (.object "com/example/thistle/thistle/language/Operator"))]
  resolved := Array.replicate 254 none
  statics := some 0 }

def pool7 : Array CpInfo := pool [(1, u "java/lang/Cloneable"), (0, .class_ 1), (0, u "java/lang/Object"), (0, .class_ 3)] 3

/-- java/lang/Cloneable -/
def k7 : Class := { plain "java/lang/Cloneable" (some 0) with
  accessFlags := 1537
  interfaces := #[]
  cf := some (fileOf pool7 2 #[] #[] 1537 4 #[] #[])
  fields := #[]
  methods := #[]
  instanceTypes := #[]
  staticTypes := #[]
  resolved := Array.replicate 8 none
  statics := none }

/-- the primitive byte -/
def k8 : Class := { plain "byte" none with kind := .primitive 'B', accessFlags := 0x411 }
/-- [B -/
def k9 : Class := { plain "[B" (some 0) with kind := .array 8 .byte, interfaces := #[7, 4], accessFlags := 1041 }

/-- the primitive int -/
def k10 : Class := { plain "int" none with kind := .primitive 'I', accessFlags := 0x411 }
/-- [I -/
def k11 : Class := { plain "[I" (some 0) with kind := .array 10 .int, interfaces := #[7, 4], accessFlags := 1041 }

def heap : Heap := #[{ cls := 6, slots := #[.ref 1, .ref 2, .ref 3, .ref 4, .ref 5, .ref 6, .ref 7, .ref 8, .ref 9, .ref 10, .ref 11, .ref 12, .ref 13, .null], vm := .statics 6 },
  { cls := 6, slots := #[.null, .int 0, .int 0, .null, .int 2, .int 2147483647, .null, .null], vm := .none },
  { cls := 6, slots := #[.null, .int 1, .int 0, .null, .int 2, .int 2147483647, .null, .null], vm := .none },
  { cls := 6, slots := #[.null, .int 2, .int 0, .null, .int 1, .int 1, .null, .null], vm := .none },
  { cls := 6, slots := #[.null, .int 3, .int 0, .null, .int 2, .int 2, .null, .null], vm := .none },
  { cls := 6, slots := #[.null, .int 4, .int 0, .null, .int 2, .int 2, .null, .null], vm := .none },
  { cls := 6, slots := #[.null, .int 5, .int 0, .null, .int 2, .int 2, .null, .null], vm := .none },
  { cls := 6, slots := #[.null, .int 6, .int 0, .null, .int 2, .int 2, .null, .null], vm := .none },
  { cls := 6, slots := #[.null, .int 7, .int 0, .null, .int 2, .int 2, .null, .null], vm := .none },
  { cls := 6, slots := #[.null, .int 8, .int 0, .null, .int 2, .int 2, .null, .null], vm := .none },
  { cls := 6, slots := #[.null, .int 9, .int 0, .null, .int 2, .int 2, .null, .null], vm := .none },
  { cls := 6, slots := #[.null, .int 10, .int 0, .null, .int 2, .int 2, .null, .null], vm := .none },
  { cls := 6, slots := #[.null, .int 11, .int 0, .null, .int 2, .int 2, .null, .null], vm := .none },
  { cls := 6, slots := #[.null, .int 12, .int 0, .null, .int 2, .int 2, .null, .null], vm := .none }]
def classes : Array Class := #[k0, k1, k2, k3, k4, k5, k6, k7, k8, k9, k10, k11]
def interned : List (Array UInt16 × Addr) := []
def slotsUsed : Nat := 118
def theMethod : MethodId := ⟨1, 2⟩
def args0 : Array Value := #[.int 5, .int 5, .int 5]
def aboutOver (below : List Frame) : State where
  vm := { classes := classes, interned := interned.toArray }
  heap := heap
  slotsUsed := slotsUsed
  threads := #[{ frames := .invoking theMethod args0 :: below }]
def below0 : List Frame := [.native { method := ⟨0, 0⟩, args := #[] }]
def about1 : State := aboutOver below0
def p0 : Program := .bare "" "" ""
def e0 : Env := launch0.env 0 0 0
theorem w_frames : about1.frames = Frame.invoking theMethod args0 :: below0 := rfl
set_option maxRecDepth 65536 in
theorem w_args : argsFit about1.vm theMethod args0 = true := by decide +kernel
set_option maxRecDepth 65536 in
theorem w_heap : heapFits about1 = true := by decide +kernel
set_option maxRecDepth 65536 in
theorem w_runnable : about1.curStatus? = some .runnable := by decide +kernel
set_option maxRecDepth 65536 in
theorem w_alone : about1.alone = true := by decide +kernel
set_option maxRecDepth 65536 in
theorem w_named : about1.methodNamed? x = some theMethod := by decide +kernel
set_option maxRecDepth 65536 in
theorem w_hears : about1.hears theMethod below0 = true := by decide +kernel
set_option maxRecDepth 65536 in
theorem w_ripe : about1.ripe theMethod args0 below0 = true := by decide +kernel
theorem w_running : about1.status = .running := rfl
set_option maxRecDepth 65536 in
theorem w_room : about1.hasRoom e0.platform room_1 = true :=
  launch0.hasRoom_least _ room_1 (by decide +kernel) (by decide +kernel) (by decide +kernel) (by decide +kernel) (by decide +kernel) (by decide +kernel)
theorem allAtoms_all (ts : List Jvm.Cond) (a : Array Jvm.Value) (st : Jvm.State) : (allAtoms ts).before a st = ts.all (fun c => c.before a st) := by
  induction ts with
  | nil => rfl
  | cons c t ih =>
    show (Jvm.Cond.and c (allAtoms t)).before a st = _
    rw [Jvm.Cond.before_and, ih, List.all_cons]
def words1 : List Jvm.Cond := Jvm.Cond.code x code maxLocals ret :: tables_1
/-- a 'code' word, met by the world's own term for the bytes: nothing is compared byte by byte -/
theorem code_word {y : MethodName} {bytes : ByteArray} {mx : Nat} {rt : Option FieldType} {a : Array Value} {s : State} {m : MethodId} {meth : Method} {c : Code} (h1 : s.methodNamed? y = some m) (h2 : s.vm.method? m = some meth) (h3 : meth.code = some c) (h4 : c.code = bytes)
    (h5 : (c.maxLocals == mx && c.exceptionTable.isEmpty && decide (c.maxStack ≤ mostOperands) && decide (meth.sig.returnType = rt) && !meth.locks && decide (parseMethodDescriptor y.desc = some meth.sig)) = true) : (Jvm.Cond.code y bytes mx rt).before a s = true := by
  simp only [Bool.and_eq_true, beq_iff_eq, Bool.not_eq_true', decide_eq_true_eq] at h5
  obtain ⟨⟨⟨⟨⟨g1, g2⟩, g3⟩, g4⟩, g5⟩, g6⟩ := h5
  simp [Cond.before, Cond.holds, Cond.value, h1, h2, h3, h4, g1, g2, g3, g4, g5, g6]
def isCode : Jvm.Cond → Bool
  | .code _ _ _ _ => true
  | _ => false
theorem all_split {L : List Jvm.Cond} {P : Jvm.Cond → Bool} (h1 : L.all (fun c => isCode c || P c) = true) (h2 : ∀ c ∈ L.filter isCode, P c = true) : L.all P = true := by
  refine List.all_eq_true.mpr fun c hc => ?_
  have h := List.all_eq_true.mp h1 c hc
  rcases Bool.eq_false_or_eq_true (isCode c) with hi | hi
  · exact h2 c (List.mem_filter.mpr ⟨hc, hi⟩)
  · simpa [hi] using h
set_option maxRecDepth 65536 in
theorem w_c0 : (Jvm.Cond.code x code maxLocals ret).before args0 about1 = true := code_word (m := ⟨1, 2⟩) (meth := k1m2) (c := k1c2) (by decide +kernel) rfl rfl rfl (by decide +kernel)
set_option maxRecDepth 65536 in
theorem w_c1 : (Jvm.Cond.code ({ cls := "com/example/thistle/thistle/language/OperatorAdmitsPinLaw", name := "pick", desc := "(I)Lcom/example/thistle/thistle/language/Operator;" } : Jvm.MethodName) method_2_code (1 : Nat) (Option.some (Jvm.ClassFile.FieldType.object "com/example/thistle/thistle/language/Operator"))).before args0 about1 = true := code_word (m := ⟨1, 1⟩) (meth := k1m1) (c := k1c1) (by decide +kernel) rfl rfl rfl (by decide +kernel)
set_option maxRecDepth 65536 in
theorem w_c2 : (Jvm.Cond.code ({ cls := "com/example/thistle/thistle/language/Operator", name := "admits", desc := "(I)Z" } : Jvm.MethodName) prog_61_method_9_code (2 : Nat) (Option.some Jvm.ClassFile.FieldType.boolean)).before args0 about1 = true := code_word (m := ⟨6, 0⟩) (meth := k6m0) (c := k6c0) (by decide +kernel) rfl rfl rfl (by decide +kernel)
def codes1 : List Jvm.Cond := [Jvm.Cond.code x code maxLocals ret, Jvm.Cond.code ({ cls := "com/example/thistle/thistle/language/OperatorAdmitsPinLaw", name := "pick", desc := "(I)Lcom/example/thistle/thistle/language/Operator;" } : Jvm.MethodName) method_2_code (1 : Nat) (Option.some (Jvm.ClassFile.FieldType.object "com/example/thistle/thistle/language/Operator")), Jvm.Cond.code ({ cls := "com/example/thistle/thistle/language/Operator", name := "admits", desc := "(I)Z" } : Jvm.MethodName) prog_61_method_9_code (2 : Nat) (Option.some Jvm.ClassFile.FieldType.boolean)]
set_option maxRecDepth 65536 in
theorem codes_eq : words1.filter isCode = codes1 := rfl
theorem w_codes : ∀ c ∈ words1.filter isCode, c.before args0 about1 = true := by
  rw [codes_eq]
  intro c hc
  simp only [codes1, List.mem_cons, List.not_mem_nil, or_false] at hc
  rcases hc with rfl | rfl | rfl
  · exact w_c0
  · exact w_c1
  · exact w_c2
set_option maxRecDepth 65536 in
theorem w_t1 : (words1.take 24).all (fun c => isCode c || c.before args0 about1) = true := by decide +kernel
set_option maxRecDepth 65536 in
theorem w_t2 : (words1.drop 24).all (fun c => isCode c || c.before args0 about1) = true := by decide +kernel
theorem w_tables : (allAtoms (Jvm.Cond.code x code maxLocals ret :: tables_1)).before args0 about1 = true := by
  rw [allAtoms_all]
  show words1.all (fun c => c.before args0 about1) = true
  refine all_split ?_ w_codes
  rw [← List.take_append_drop 24 words1, List.all_append, w_t1, w_t2]
  rfl
set_option maxRecDepth 65536 in
theorem w_case : (Jvm.Cond.and given_1 narrow_1).before args0 about1 = true := by decide +kernel
theorem w_applies : (headSpec (Jvm.Cond.code x code maxLocals ret :: tables_1) room_1).applies x e0.platform about1 = true :=
  (Spec.applies_iff w_frames).mpr ⟨w_running, w_runnable, w_alone, w_named, w_hears, w_ripe, w_room, w_tables⟩
theorem atStart : AtStart classFile x code maxLocals ret World_1 tables_1 room_1 Calls_1 rest_1 Pre_1 launch0 p0 e0 about1 theMethod args0 below0 :=
  ⟨lists_1, trivial, launch0.admits_env _ _ _, launch0.least_env, fairChoices_fair.cas, fairChoices_fair.clock, w_frames, w_args, w_heap, w_applies, trivial, trivial, w_case⟩
end start1
theorem witness_1 : WitnessClaimed_1 := ⟨start1.p0, start1.e0, start1.about1, start1.theMethod, start1.args0, start1.below0, start1.atStart⟩
end Jvm.Pilot.@@N@@
