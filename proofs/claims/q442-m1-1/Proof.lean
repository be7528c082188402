import JvmDerived
import JvmDerived.Pilot.@@N@@Statement
import JvmDerived.Pilot.@@N@@Code
set_option linter.unusedVariables false
set_option linter.unusedSimpArgs false
namespace Jvm.RoadKit
open Sem ClassFile Op Lib Jvm.Stand Jvm.Free Jvm.LawKit
abbrev jv (x : Int64) : Slot := .val (.long x)
abbrev ux : Slot := .unset
abbrev sx_ : Slot := .second
section Own
variable {p : Program} {l : Launch} {e : Env} {R : Room} {s : State} {m : MethodId} {args : Array Value} {below : List Frame} {meth : Method} {c : Code} {T U U' : State} {locs : List Loc} {cells slots : Nat} {Z : State} {a0 : Array Value} {h : Heap} {Q : Option Value → Heap → List Loc → Prop} {C S : Nat}
/-- what is left to show at a point of a walk: from U the body comes to its end, and Q holds there -/
def Goes (p : Program) (e : Env) (s : State) (below : List Frame) (Q : Option Value → Heap → List Loc → Prop) (C S : Nat) (U : State) : Prop :=
  ∃ s₂ o, Steps p.tables e below U s₂ ∧ s₂.status = .running ∧ Ended s₂ below o ∧ ∃ v L, o = .returned v ∧ Q v s₂.heap L ∧ FrameEnd s o s₂ L C S
theorem Goes.go (st : ∀ t, Steps p.tables e below U' t → Steps p.tables e below U t) (k : Goes p e s below Q C S U') : Goes p e s below Q C S U := by
  obtain ⟨s₂, o, h1, h2⟩ := k
  exact ⟨s₂, o, st _ h1, h2⟩
theorem Goes.leave {v : Option Value} (X : Stand p l e R s m args below meth c T locs cells slots) (hlk : meth.locks = false) (hv : meth.sig.returnType = none → v = none) (hQ : Q v T.heap locs) (hc : cells ≤ C) (hs : slots ≤ S)
    (st : ∀ fs, (∀ (f : JFrame) (acts : List Action), f.method = m → f.locked = none → f.entered = [] → (doReturn e (T.setTop f) acts v).1 = T.setFrames fs) → Steps p.tables e below U (T.setFrames fs)) : Goes p e s below Q C S U := by
  obtain ⟨fs, hr, hrun, hended, hW, hsame⟩ := X.leave (v := v) hv hlk
  exact ⟨_, _, st fs hr, hrun, hended, _, _, rfl, hQ, ⟨_, rfl⟩, hW, hsame.mono hc hs⟩
theorem Goes.retB {pc : Nat} {Ls : Array Slot} {z : Int32} {rest : List Value} (X : Stand p l e R s m args below meth c T locs cells slots) (hx : p.tables.exec = Jvm.exec) (hlk : meth.locks = false) (hret : meth.sig.returnType = some .boolean) (hd : decode c.code pc = .ok (.ireturn, 1)) (hc : cells ≤ C) (hs : slots ≤ S) (hQ : Q (some (.int (nar .boolean z))) T.heap locs) : Goes p e s below Q C S (T.setTop (mkF m pc Ls (.int z :: rest))) :=
  Goes.leave X hlk (fun h => by rw [hret] at h; cases h) hQ hc hs fun fs hr => retN X hx (t := .boolean) hret (by simp) hd hr
theorem Goes.retC {pc : Nat} {Ls : Array Slot} {z : Int32} {rest : List Value} (X : Stand p l e R s m args below meth c T locs cells slots) (hx : p.tables.exec = Jvm.exec) (hlk : meth.locks = false) (hret : meth.sig.returnType = some .char) (hd : decode c.code pc = .ok (.ireturn, 1)) (hc : cells ≤ C) (hs : slots ≤ S) (hQ : Q (some (.int (nar .char z))) T.heap locs) : Goes p e s below Q C S (T.setTop (mkF m pc Ls (.int z :: rest))) :=
  Goes.leave X hlk (fun h => by rw [hret] at h; cases h) hQ hc hs fun fs hr => retN X hx (t := .char) hret (by simp) hd hr
theorem Goes.retI {pc : Nat} {Ls : Array Slot} {z : Int32} {rest : List Value} (X : Stand p l e R s m args below meth c T locs cells slots) (hx : p.tables.exec = Jvm.exec) (hlk : meth.locks = false) (hret : meth.sig.returnType = some .int) (hd : decode c.code pc = .ok (.ireturn, 1)) (hc : cells ≤ C) (hs : slots ≤ S) (hQ : Q (some (.int z)) T.heap locs) : Goes p e s below Q C S (T.setTop (mkF m pc Ls (.int z :: rest))) :=
  Goes.leave X hlk (fun h => by rw [hret] at h; cases h) hQ hc hs fun fs hr => retOut X hx hret rfl (Or.inl ⟨rfl, Or.inl rfl, _, rfl⟩) hd hr
theorem Goes.retJ {pc : Nat} {Ls : Array Slot} {z : Int64} {rest : List Value} (X : Stand p l e R s m args below meth c T locs cells slots) (hx : p.tables.exec = Jvm.exec) (hlk : meth.locks = false) (hret : meth.sig.returnType = some .long) (hd : decode c.code pc = .ok (.lreturn, 1)) (hc : cells ≤ C) (hs : slots ≤ S) (hQ : Q (some (.long z)) T.heap locs) : Goes p e s below Q C S (T.setTop (mkF m pc Ls (.long z :: rest))) :=
  Goes.leave X hlk (fun h => by rw [hret] at h; cases h) hQ hc hs fun fs hr => retOut X hx hret rfl (Or.inr (Or.inl ⟨rfl, rfl, _, rfl⟩)) hd hr
theorem narrow_ref {t : FieldType} {v : Value} (hv : v.isRef = true) (ht : t.isReference = true) : narrow t v = v := by
  rcases ref_cases hv with rfl | ⟨a, rfl⟩ <;> cases t <;> first | rfl | cases ht
theorem Goes.retA {pc : Nat} {Ls : Array Slot} {v : Value} {t : FieldType} {rest : List Value} (X : Stand p l e R s m args below meth c T locs cells slots) (hx : p.tables.exec = Jvm.exec) (hlk : meth.locks = false) (hret : meth.sig.returnType = some t) (ht : t.isReference = true) (hv : v.isRef = true) (hd : decode c.code pc = .ok (.areturn, 1)) (hc : cells ≤ C) (hs : slots ≤ S) (hQ : Q (some v) T.heap locs) : Goes p e s below Q C S (T.setTop (mkF m pc Ls (v :: rest))) :=
  Goes.leave X hlk (fun h => by rw [hret] at h; cases h) hQ hc hs fun fs hr => retOut X hx hret (narrow_ref hv ht) (Or.inr (Or.inr (Or.inr (Or.inr ⟨rfl, ht, hv⟩)))) hd hr
theorem Goes.retV {pc : Nat} {Ls : Array Slot} (X : Stand p l e R s m args below meth c T locs cells slots) (hx : p.tables.exec = Jvm.exec) (hlk : meth.locks = false) (hret : meth.sig.returnType = none) (hd : decode c.code pc = .ok (.return_, 1)) (hc : cells ≤ C) (hs : slots ≤ S) (hQ : Q none T.heap locs) : Goes p e s below Q C S (T.setTop (mkF m pc Ls [])) :=
  Goes.leave X hlk (fun _ => rfl) hQ hc hs fun fs hr => X.returnOut hx hret hd hr
/-- a body's contract: with these arguments over this heap it returns, and Q holds -/
def Pays (l : Launch) (Z : State) (y : MethodName) (bytes : ByteArray) (maxL : Nat) (ret : Option FieldType) (ws : List Jvm.Cond) (rm : Room) (as' : Array Value) (h : Heap) (Q : Option Value → Heap → List Loc → Prop) : Prop :=
  MetFree l y (head1 (Jvm.Cond.code y bytes maxL ret :: ws) rm) (fun a U => a = as' ∧ Z.Warmed39 U.vm ∧ U.heap = h) (fun _ _ _ _ _ => True) (fun _ U o U' => ∃ v L, o = .returned v ∧ Q v U'.heap L ∧ FrameEnd U o U' L rm.cells rm.slots)
theorem Pays.of {y : MethodName} {bytes : ByteArray} {maxL : Nat} {ret : Option FieldType} {ws : List Jvm.Cond} {rm : Room} {as' : Array Value} (hpl : plainFor y = true)
    (body : ∀ (p : Program) (e : Env) (s : State) (m : MethodId) (below : List Frame) (meth : Method) (c : Code) (s₁ : State), p.tables.exec = Jvm.exec → c.code = bytes → c.maxLocals = maxL → s.vm.findClass y.cls = some m.cls → meth.name = y.name → meth.sig.returnType = ret → meth.locks = false → Z.Warmed39 s.vm → s₁.heap = h → Stand p l e rm s m as' below meth c s₁ [] 0 0 → Goes p e s below Q rm.cells rm.slots (s₁.setTop (entryFrame m as' maxL))) :
    Pays l Z y bytes maxL ret ws rm as' h Q := by
  refine MetFree.of_bodySF hpl hisR ?_
  intro p e s m args below meth c s₁ Bd hml hP hK
  obtain ⟨rfl, hZ, hh⟩ := hP
  obtain ⟨s₂, o, h1, h2, h3, h4⟩ := body p e s m below meth c s₁ Bd.exec Bd.bytes hml (findClass_of_methodNamed Bd.named) (name_of_methodNamed Bd.named Bd.method).1 Bd.returns Bd.notSynchronized hZ (by rw [← hh, Bd.state]; rfl) (Stand.of_body Bd)
  exact ⟨s₂, o, h1, h2, h3, h4⟩
theorem callStatic (X : Stand p l e R s m args below meth c T locs cells slots) (hx : p.tables.exec = Jvm.exec) (hZ : Z.Warmed39 s.vm) {own : String} {index : Nat} {y : MethodName} {bytes : ByteArray} {maxL W : Nat} {ret : Option FieldType} {rm : Room} {as' : Array Value}
    (hown : s.vm.findClass own = some m.cls) (w1 : (Jvm.Cond.methodLink own index y).before a0 Z = true) (w2 : (Jvm.Cond.static y).before a0 Z = true) (w3 : (Jvm.Cond.initialized y.cls).before a0 Z = true) (w4 : (Jvm.Cond.code y bytes maxL ret).before a0 Z = true) (hy : y.cls ≠ "java/lang/invoke/MethodHandle" ∧ y.cls ≠ "java/lang/invoke/VarHandle")
    (M : Pays l Z y bytes maxL ret [] rm as' h Q) (hf : rm.frames + 1 ≤ R.frames) (hl : W + (maxL + 11) + rm.locals ≤ R.locals) (hc : cells + rm.cells ≤ R.cells) (hs : slots + rm.slots ≤ R.slots) (eT : T.heap = h)
    {g : JFrame} (hg : g.method = m) (hsize : g.locals.size = c.maxLocals) {argsL rest : List Value} (hlen : ∀ sig, parseMethodDescriptor y.desc = some sig → argsL.length = sig.parameters.length) (hstack : g.stack = argsL.reverse ++ rest) (has : argsL.toArray = as') (hW : 2 * g.monitorRoom + (rest.map fun v => v.category).sum ≤ W) (hdg : decode c.code g.pc = .ok (.invokestatic index, 3)) :
    ∃ (v : Option Value) (T' : State) (L : List Loc), Stand p l e R s m args below meth c T' (locs ++ L) (cells + rm.cells) (slots + rm.slots) ∧ Q v T'.heap L ∧ ∀ t, Steps p.tables e below (T'.setTop { g with pc := g.pc + 3, stack := v.toList ++ rest }) t → Steps p.tables e below (T.setTop g) t := by
  obtain ⟨v, vm1, ⟨T', L', k', n'⟩, -, X', ⟨Lc, hQ, l1, y1, z1⟩, st⟩ := Jvm.LawKit.callS X hx (y := y) hown (mvT hZ w1) (mvT hZ w2) (mvT hZ w3) (mvT hZ w4) hy (backOf (W := W) M hZ w4 w3 hf hl) hg hsize (argsL := argsL) (rest := rest) hlen hstack hW hdg (fun _ _ => ⟨has, eT, hc, hs⟩)
  dsimp only [Pt.U, Pt.locs, Pt.cells, Pt.slots] at X' l1 y1 z1 st hQ
  subst l1 y1 z1
  exact ⟨v, T', Lc, X', hQ, st⟩
theorem callVirtual (X : Stand p l e R s m args below meth c T locs cells slots) (hx : p.tables.exec = Jvm.exec) (hZ : Z.Warmed39 s.vm) {own K : String} {index : Nat} {y z : MethodName} {bytes : ByteArray} {maxL W : Nat} {ret : Option FieldType} {rm : Room} {as' : Array Value}
    (hown : s.vm.findClass own = some m.cls) (w1 : (Jvm.Cond.methodLink own index y).before a0 Z = true) (w2 : (Jvm.Cond.declares y).before a0 Z = true) (nf : NotFace s y) (w3 : (Jvm.Cond.selects K y z).before a0 Z = true) (w5 : (Jvm.Cond.instanceMethod z).before a0 Z = true) (w6 : (Jvm.Cond.initialized z.cls).before a0 Z = true) (w4 : (Jvm.Cond.code z bytes maxL ret).before a0 Z = true) (hy : y.cls ≠ "java/lang/invoke/MethodHandle" ∧ y.cls ≠ "java/lang/invoke/VarHandle")
    (M : Pays l Z z bytes maxL ret [] rm as' h Q) (hf : rm.frames + 1 ≤ R.frames) (hl : W + (maxL + 11) + rm.locals ≤ R.locals) (hc : cells + rm.cells ≤ R.cells) (hs : slots + rm.slots ≤ R.slots) (eT : T.heap = h) {b : Addr} (E : Exa Z h b K)
    {g : JFrame} (hg : g.method = m) (hsize : g.locals.size = c.maxLocals) {argsL rest : List Value} (hlen : ∀ sig, parseMethodDescriptor y.desc = some sig → argsL.length = sig.parameters.length) (hstack : g.stack = argsL.reverse ++ .ref b :: rest) (has : (.ref b :: argsL).toArray = as') (hW : 2 * g.monitorRoom + (rest.map fun v => v.category).sum ≤ W) (hdg : decode c.code g.pc = .ok (.invokevirtual index, 3)) :
    ∃ (v : Option Value) (T' : State) (L : List Loc), Stand p l e R s m args below meth c T' (locs ++ L) (cells + rm.cells) (slots + rm.slots) ∧ Q v T'.heap L ∧ ∀ t, Steps p.tables e below (T'.setTop { g with pc := g.pc + 3, stack := v.toList ++ rest }) t → Steps p.tables e below (T.setTop g) t := by
  obtain ⟨cq, kq, qa, -, qc⟩ := isOf (T := T) hZ eT E
  obtain ⟨v, vm1, ⟨T', L', k', n'⟩, -, X', ⟨Lc, hQ, l1, y1, z1⟩, st⟩ := X.virtualBack hx (y := y) (z := z) hown (mvT hZ w1) (mvT hZ w2) nf (mvT hZ w3) (mvT hZ w5) hy (backOf (W := W) M hZ w4 w6 hf hl) qa qc hg hsize (Steps.refl _) (argsL := argsL) (rest := rest) hlen hstack hW hdg (fun _ _ => ⟨has, eT, hc, hs⟩)
  dsimp only [Pt.U, Pt.locs, Pt.cells, Pt.slots] at X' l1 y1 z1 st hQ
  subst l1 y1 z1
  exact ⟨v, T', Lc, X', hQ, fun t k => st.trans k⟩
theorem callInit (X : Stand p l e R s m args below meth c T locs cells slots) (hx : p.tables.exec = Jvm.exec) (hZ : Z.Warmed39 s.vm) {own : String} {index : Nat} {y : MethodName} {bytes : ByteArray} {maxL W : Nat} {rm : Room} {as' : Array Value}
    (hy1 : y.name = "<init>") (hown : s.vm.findClass own = some m.cls) (w1 : (Jvm.Cond.methodLink own index y).before a0 Z = true) (w5 : (Jvm.Cond.instanceMethod y).before a0 Z = true) (w6 : (Jvm.Cond.initialized y.cls).before a0 Z = true) (w4 : (Jvm.Cond.code y bytes maxL none).before a0 Z = true) (hy : y.cls ≠ "java/lang/invoke/MethodHandle" ∧ y.cls ≠ "java/lang/invoke/VarHandle")
    (M : Pays l Z y bytes maxL none [] rm as' h Q) (hf : rm.frames + 1 ≤ R.frames) (hl : W + (maxL + 11) + rm.locals ≤ R.locals) (hc : cells + rm.cells ≤ R.cells) (hs : slots + rm.slots ≤ R.slots) (eT : T.heap = h) {b : Addr}
    {g : JFrame} (hg : g.method = m) (hsize : g.locals.size = c.maxLocals) {argsL rest : List Value} (hlen : ∀ sig, parseMethodDescriptor y.desc = some sig → argsL.length = sig.parameters.length) (hstack : g.stack = argsL.reverse ++ .ref b :: rest) (has : (.ref b :: argsL).toArray = as') (hW : 2 * g.monitorRoom + (rest.map fun v => v.category).sum ≤ W) (hdg : decode c.code g.pc = .ok (.invokespecial index, 3)) :
    ∃ (v : Option Value) (T' : State) (L : List Loc), Stand p l e R s m args below meth c T' (locs ++ L) (cells + rm.cells) (slots + rm.slots) ∧ Q v T'.heap L ∧ ∀ t, Steps p.tables e below (T'.setTop { g with pc := g.pc + 3, stack := v.toList ++ rest }) t → Steps p.tables e below (T.setTop g) t := by
  obtain ⟨v, vm1, ⟨T', L', k', n'⟩, -, X', ⟨Lc, hQ, l1, y1, z1⟩, st⟩ := X.specialBack hx (y := y) hy1 hown (mvT hZ w1) (mvT hZ w5) (mvT hZ w4) hy (backOf (W := W) M hZ w4 w6 hf hl) hg hsize (Steps.refl _) (a := b) (argsL := argsL) (rest := rest) hlen hstack hW hdg (fun _ _ => ⟨has, eT, hc, hs⟩)
  dsimp only [Pt.U, Pt.locs, Pt.cells, Pt.slots] at X' l1 y1 z1 st hQ
  subst l1 y1 z1
  exact ⟨v, T', Lc, X', hQ, fun t k => st.trans k⟩
theorem callPrivate (X : Stand p l e R s m args below meth c T locs cells slots) (hx : p.tables.exec = Jvm.exec) (hZ : Z.Warmed39 s.vm) {own K : String} {index kk : Nat} {y : MethodName} {bytes : ByteArray} {maxL W : Nat} {ret : Option FieldType} {rm : Room} {as' : Array Value}
    (hown : s.vm.findClass own = some m.cls) (w1 : (Jvm.Cond.methodLink own index y).before a0 Z = true) (w5 : (Jvm.Cond.instanceMethod y).before a0 Z = true) (wp : (Jvm.Cond.privateMethod y).before a0 Z = true) (wi : (Jvm.Cond.instantiable y.cls kk).before a0 Z = true) (w6 : (Jvm.Cond.initialized y.cls).before a0 Z = true) (w4 : (Jvm.Cond.code y bytes maxL ret).before a0 Z = true) (hy : y.cls ≠ "java/lang/invoke/MethodHandle" ∧ y.cls ≠ "java/lang/invoke/VarHandle")
    (M : Pays l Z y bytes maxL ret [] rm as' h Q) (hf : rm.frames + 1 ≤ R.frames) (hl : W + (maxL + 11) + rm.locals ≤ R.locals) (hc : cells + rm.cells ≤ R.cells) (hs : slots + rm.slots ≤ R.slots) (eT : T.heap = h) {b : Addr} (E : Exa Z h b K)
    {g : JFrame} (hg : g.method = m) (hsize : g.locals.size = c.maxLocals) {argsL rest : List Value} (hlen : ∀ sig, parseMethodDescriptor y.desc = some sig → argsL.length = sig.parameters.length) (hstack : g.stack = argsL.reverse ++ .ref b :: rest) (has : (.ref b :: argsL).toArray = as') (hW : 2 * g.monitorRoom + (rest.map fun v => v.category).sum ≤ W) (hdg : decode c.code g.pc = .ok (.invokevirtual index, 3)) :
    ∃ (v : Option Value) (T' : State) (L : List Loc), Stand p l e R s m args below meth c T' (locs ++ L) (cells + rm.cells) (slots + rm.slots) ∧ Q v T'.heap L ∧ ∀ t, Steps p.tables e below (T'.setTop { g with pc := g.pc + 3, stack := v.toList ++ rest }) t → Steps p.tables e below (T.setTop g) t := by
  obtain ⟨cc, kc, i1, i2, -, i4, -⟩ := Cond.instantiable_spec (mvT (args := args) hZ wi)
  have i5 : kc.isInterface = false := by cases hq : kc.isInterface <;> simp_all
  have hpr := Cond.privateMethod_at (mvP (args := #[]) hZ wp)
  obtain ⟨cell, c1, c2⟩ := E.cell
  obtain ⟨v, vm1, ⟨T', L', k', n'⟩, -, X', ⟨Lc, hQ, l1, y1, z1⟩, st⟩ := X.privateBack hx (y := y) hown (mvT hZ w1) (mvT hZ w5) (selects_self_of_private i1 i2 i5 hpr (mvT hZ w5) hy) hpr (mvT hZ w4) hy (backOf (W := W) M hZ w4 w6 hf hl) hg hsize (Steps.refl _) (a := b) (cell := cell) (by rw [eT]; exact c1) c2 (argsL := argsL) (rest := rest) hlen hstack hW hdg (fun _ _ => ⟨has, eT, hc, hs⟩)
  dsimp only [Pt.U, Pt.locs, Pt.cells, Pt.slots] at X' l1 y1 z1 st hQ
  subst l1 y1 z1
  exact ⟨v, T', Lc, X', hQ, fun t k => st.trans k⟩
theorem callFace (X : Stand p l e R s m args below meth c T locs cells slots) (hx : p.tables.exec = Jvm.exec) (hZ : Z.Warmed39 s.vm) {own K : String} {index count : Nat} {y z : MethodName} {bytes : ByteArray} {maxL W : Nat} {ret : Option FieldType} {rm : Room} {as' : Array Value}
    (hown : s.vm.findClass own = some m.cls) (w1 : (Jvm.Cond.methodLink own index y).before a0 Z = true) (w2 : (Jvm.Cond.declares y).before a0 Z = true) (wf : (Jvm.Cond.interfaceMethod y.cls y.cls y.name y.desc).before args s = true) (w3 : (Jvm.Cond.selects K y z).before a0 Z = true) (w5 : (Jvm.Cond.instanceMethod z).before a0 Z = true) (wp : (Jvm.Cond.publicMethod z).before a0 Z = true) (wu : (Jvm.Cond.unhidden K y.name y.desc).before a0 Z = true) (wc : (Jvm.Cond.castable K y.cls).before a0 Z = true) (w6 : (Jvm.Cond.initialized z.cls).before a0 Z = true) (w4 : (Jvm.Cond.code z bytes maxL ret).before a0 Z = true) (hy : y.cls ≠ "java/lang/invoke/MethodHandle" ∧ y.cls ≠ "java/lang/invoke/VarHandle")
    (M : Pays l Z z bytes maxL ret [] rm as' h Q) (hf : rm.frames + 1 ≤ R.frames) (hl : W + (maxL + 11) + rm.locals ≤ R.locals) (hc : cells + rm.cells ≤ R.cells) (hs : slots + rm.slots ≤ R.slots) (eT : T.heap = h) {b : Addr} (E : Exa Z h b K)
    {g : JFrame} (hg : g.method = m) (hsize : g.locals.size = c.maxLocals) {argsL rest : List Value} (hlen : ∀ sig, parseMethodDescriptor y.desc = some sig → argsL.length = sig.parameters.length) (hstack : g.stack = argsL.reverse ++ .ref b :: rest) (has : (.ref b :: argsL).toArray = as') (hW : 2 * g.monitorRoom + (rest.map fun v => v.category).sum ≤ W) (hdg : decode c.code g.pc = .ok (.invokeinterface index count, 5)) :
    ∃ (v : Option Value) (T' : State) (L : List Loc), Stand p l e R s m args below meth c T' (locs ++ L) (cells + rm.cells) (slots + rm.slots) ∧ Q v T'.heap L ∧ ∀ t, Steps p.tables e below (T'.setTop { g with pc := g.pc + 5, stack := v.toList ++ rest }) t → Steps p.tables e below (T.setTop g) t := by
  obtain ⟨cq, kq, qa, qb, qc⟩ := isOf (T := T) hZ eT E
  obtain ⟨v, vm1, ⟨T', L', k', n'⟩, -, X', ⟨Lc, hQ, l1, y1, z1⟩, st⟩ := X.interfaceBack hx (xi := y) (y := z) hown (mvT hZ w1) (mvT hZ w2) wf (mvT hZ w3) (mvT hZ w5) (mvT hZ wp) (mvT hZ wu) (mvT hZ wc) hy (backOf (W := W) M hZ w4 w6 hf hl) qa qb qc hg hsize (Steps.refl _) (argsL := argsL) (rest := rest) hlen hstack hW hdg (fun _ _ => ⟨has, eT, hc, hs⟩)
  dsimp only [Pt.U, Pt.locs, Pt.cells, Pt.slots] at X' l1 y1 z1 st hQ
  subst l1 y1 z1
  exact ⟨v, T', Lc, X', hQ, fun t k => st.trans k⟩
theorem castV (X : Stand p l e R s m args below meth c T locs cells slots) (hx : p.tables.exec = Jvm.exec) (hZ : Z.Warmed39 s.vm) {own K : String} {index : Nat} (hown : s.vm.findClass own = some m.cls) (w : (Jvm.Cond.classLink own index K).before a0 Z = true) (eT : T.heap = h) {v : Value} (F : v = .null ∨ ∃ a, v = .ref a ∧ Ins Z h a K true)
    {g : JFrame} (hg : g.method = m) {rest : List Value} (hs : g.stack = v :: rest) (hd : decode c.code g.pc = .ok (.checkcast index, 3)) : ∃ T', Stand p l e R s m args below meth c T' locs cells slots ∧ T'.heap = h ∧ ∀ target, Steps p.tables e below (T'.setTop { g with pc := g.pc + 3 }) target → Steps p.tables e below (T.setTop g) target := by
  rcases F with rfl | ⟨a, rfl, I⟩
  · exact ⟨T, X, eT, fun t k => X.checkcastNull hx (g := g) hg hs hd t k⟩
  · exact castY X hx hZ hown w eT I hg hs hd
theorem moreRoom {cells' slots' : Nat} (X : Stand p l e R s m args below meth c T locs cells slots) (h1 : cells ≤ cells') (h2 : slots ≤ slots') : Stand p l e R s m args below meth c T locs cells' slots' :=
  { X with same := X.same.mono h1 h2 }
theorem wdOf {ts : List Jvm.Cond} (hw : ∀ d ∈ ts, d.before a0 Z = true) {d : Jvm.Cond} (k : Nat) (hk : ts[k]? = some d) : d.before a0 Z = true := hw _ (List.mem_of_getElem? hk)
end Own
end Jvm.RoadKit
namespace Jvm.RoadKit
open Sem ClassFile Op Lib Jvm.Stand Jvm.Free Jvm.LawKit
section OwnWords
variable {args : Array Value} {first s : State} {o : Option Outcome} {idx : List Nat} {t : Term}
theorem eqInt_v {k : Int32} (h : (Jvm.Cond.eq t (.int k)).value args first o s idx = some true) : t.eval args first o idx s = some (.int k) := by
  simp only [Jvm.Cond.value, Term.eval] at h
  cases ht : t.eval args first o idx s with
  | none => simp [ht] at h
  | some x => cases x <;> simp [ht] at h ⊢; exact h
theorem fits_of_ref {ty : FieldType} {v : Value} (hv : v.isRef = true) (ht : ty.isReference = true) : fits ty v = true := by
  rcases ref_cases hv with rfl | ⟨a, rfl⟩ <;> cases ty <;> first | rfl | cases ht
theorem Sta.keepN {Z : State} {h h' : Heap} {C n d : String} {v : Value} {ws : List Addr} (F : Sta Z h C n d v) (K : Keep h h' ws) (hn : ∀ a ∈ ws, ∃ c : Cell, h[a]? = some c ∧ ∀ q, c.vm ≠ .statics q) : Sta Z h' C n d v := by
  obtain ⟨cf, i, k, f, st, cell, h1, h2, h3, h4, h5, h6, h7⟩ := F
  refine ⟨cf, i, k, f, st, cell, h1, h2, h3, h4, K.2.1 _ _ h5 fun hm => ?_, h6, h7⟩
  obtain ⟨c, g1, g2⟩ := hn st hm
  cases h5.symm.trans g1
  cases hq : cell.vm <;> first | (rw [hq] at h6; exact Bool.noConfusion h6) | exact g2 _ hq
theorem NSr {Z : State} {a0 : Array Value} {O K : String} {n : Nat} (w : (Jvm.Cond.noSuperclass O).before a0 Z = true) (wi : (Jvm.Cond.instantiable K n).before a0 Z = true) (hn : O ≠ K) : NS Z O K := by
  obtain ⟨c, k, h1, h2, h3, -, -⟩ := Cond.noSuperclass_spec w
  obtain ⟨t, kt, g1, -⟩ := Cond.instantiable_spec wi
  refine ⟨c, t, h1, g1, fun fuel => ?_⟩
  cases fuel with
  | zero => rfl
  | succ f => simp [Vm.isSubclassAux, ids_ne h1 g1 hn, h2, h3]
theorem NSno {Z : State} {a0 : Array Value} {C S K : String} {n : Nat} (w : (Jvm.Cond.superclass C S).before a0 Z = true) (wi : (Jvm.Cond.instantiable K n).before a0 Z = true) (q : NS Z C K) (hn : C ≠ K) : ∃ c t, Z.vm.findClass C = some c ∧ Z.vm.findClass K = some t ∧ Z.vm.assignable c t = false := by
  obtain ⟨c, t, h0, g0, n3⟩ := q
  obtain ⟨_, k, _, -, h2, -, -, h5, -, -⟩ := Cond.superclass_spec h0 w
  obtain ⟨t', k', g1, g2, g5, g7, -⟩ := Cond.instantiable_spec wi
  cases g0.symm.trans g1
  have g8 : k'.isInterface = false := by cases hq : k'.isInterface <;> simp_all
  refine ⟨c, t, h0, g0, ?_⟩
  show Z.vm.assignableAux (255 + 1) c t = false
  simp [Vm.assignableAux, ids_ne h0 g0 hn, h2, g2, h5, g5, g8, Vm.isSubclass, n3]
theorem Ext.of_keep {h h' : Heap} (K : Keep h h' []) : Ext h h' := ⟨K.1, fun a c q => K.2.1 a c q nin0⟩
theorem Keep.of_ext {h h' : Heap} (E : Ext h h') (ws : List Addr) : Keep h h' ws := (Keep.refl h ws).ext E
theorem ofInt {x : Int32} (n : Int32) (h : x.toInt = n.toInt) : x = n := Int32.toInt_inj.mp h
end OwnWords
end Jvm.RoadKit
namespace Jvm.Pilot.@@N@@
open Jvm Jvm.ClassFile Sem Op Lib Jvm.Free Jvm.Stand Jvm.LawKit Jvm.RoadKit Bundle Jvm.Pilot.@@N@@.Jvm.D
theorem pd_0 : parseMethodDescriptor "(I)Lcom/example/palimpsest/palimpsest/sql/ValueType;" = some ⟨[.int], some (.object "com/example/palimpsest/palimpsest/sql/ValueType")⟩ := by decide +kernel
theorem pd_1 : parseMethodDescriptor "(Lcom/example/palimpsest/palimpsest/sql/ValueType;)Z" = some ⟨[(.object "com/example/palimpsest/palimpsest/sql/ValueType")], some .boolean⟩ := by decide +kernel
theorem own_mod (p : Int32) : (p &&& 2147483647) % 3 = 0 ∨ (p &&& 2147483647) % 3 = 1 ∨ (p &&& 2147483647) % 3 = 2 := by
  have h1 := c_mask p 2147483647 31 (by decide) (by decide)
  obtain ⟨h2, -⟩ := c_irem (p &&& 2147483647) 3 3 (by decide)
  have h3 := h2 (by omega)
  have : ((p &&& 2147483647) % 3).toInt = 0 ∨ ((p &&& 2147483647) % 3).toInt = 1 ∨ ((p &&& 2147483647) % 3).toInt = 2 := by omega
  rcases this with h | h | h
  · exact Or.inl (ofInt 0 h)
  · exact Or.inr (Or.inl (ofInt 1 h))
  · exact Or.inr (Or.inr ((ofInt 2 h)))
theorem d_rm_pick_0 : decode method_2_code 0 = .ok (.iload_n 0, 1) := by decide +kernel
theorem d_rm_pick_1 : decode method_2_code 1 = .ok (.ifCond .ne 7, 3) := by decide +kernel
theorem d_rm_pick_4 : decode method_2_code 4 = .ok (.getstatic 7, 3) := by decide +kernel
theorem d_rm_pick_7 : decode method_2_code 7 = .ok (.areturn, 1) := by decide +kernel
theorem d_rm_pick_8 : decode method_2_code 8 = .ok (.iload_n 0, 1) := by decide +kernel
theorem d_rm_pick_9 : decode method_2_code 9 = .ok (.iconst 1, 1) := by decide +kernel
theorem d_rm_pick_10 : decode method_2_code 10 = .ok (.if_icmp .ne 7, 3) := by decide +kernel
theorem d_rm_pick_13 : decode method_2_code 13 = .ok (.getstatic 13, 3) := by decide +kernel
theorem d_rm_pick_16 : decode method_2_code 16 = .ok (.areturn, 1) := by decide +kernel
theorem d_rm_pick_17 : decode method_2_code 17 = .ok (.getstatic 16, 3) := by decide +kernel
theorem d_rm_pick_20 : decode method_2_code 20 = .ok (.areturn, 1) := by decide +kernel
theorem ef_rm_pick (m : MethodId) (x0 : Int32)  : entryFrame m #[(.int x0)] 1 = mkF m 0 #[.val (.int x0)] [] := by first | rfl | (simp [entryFrame, mkF, argsToLocals, Value.category]; done)
set_option maxRecDepth 65536 in
set_option maxHeartbeats 40000000 in
theorem rm_pick (l : Launch) (Z : State) (a0 : Array Value) (hw : ∀ d ∈ tables_1, d.before a0 Z = true) (ws : List Jvm.Cond) (ka : Int32) (r r_INTEGER r_STRING r_NULL : Addr) (h0 : Heap) (n0 : Nat) (Z0 : n0 ≤ h0.size) (S_INTEGER : Sta Z h0 "com/example/palimpsest/palimpsest/sql/ValueType" "INTEGER" "Lcom/example/palimpsest/palimpsest/sql/ValueType;" (.ref r_INTEGER)) (S_STRING : Sta Z h0 "com/example/palimpsest/palimpsest/sql/ValueType" "STRING" "Lcom/example/palimpsest/palimpsest/sql/ValueType;" (.ref r_STRING)) (S_NULL : Sta Z h0 "com/example/palimpsest/palimpsest/sql/ValueType" "NULL" "Lcom/example/palimpsest/palimpsest/sql/ValueType;" (.ref r_NULL)) (hr : r = if ka = 0 then r_INTEGER else if ka = 1 then r_STRING else r_NULL) :
    Pays l Z (⟨"com/example/palimpsest/palimpsest/sql/ValueTypeFitsPinLaw", "pick", "(I)Lcom/example/palimpsest/palimpsest/sql/ValueType;"⟩ : MethodName) method_2_code 1 (some (.object "com/example/palimpsest/palimpsest/sql/ValueType")) ws ({ frames := 0, cells := 0, slots := 0, locals := 0 } : Room) #[(.int ka)] h0 (fun v h L => v = some (.ref r) ∧ Fr n0 L ∧ h = h0) := by
  refine Pays.of (plainFor_of_name (by first | (simp [plainName, overriddenIn]; done) | decide +kernel)) ?_
  intro p e s m below meth c s₁ hx hby hml hown hnm hret hlk hZ e0 X0
  have N0 := Fr.nil n0
  have K0 : Keep h0 h0 [] := Keep.refl _ _
  refine Goes.go (U' := (s₁.setTop (mkF m 0 #[.val (.int ka)] []))) (fun t kt => castTop (ef_rm_pick m ka) kt) ?_
  refine Goes.go (U' := (s₁.setTop (mkF m 1 #[.val (.int ka)] [(.int ka)]))) (fun t kt => ?_) ?_
  · show Steps p.tables e below (s₁.setTop (mkF m 0 #[.val (.int ka)] [])) t
    refine XS.iloadN X0.here hx rfl (hb hby d_rm_pick_0) rfl ?_
    exact kt
  by_cases c1 : ka = 0
  · -- ka = 0
    refine Goes.go (U' := (s₁.setTop (mkF m 4 #[.val (.int ka)] []))) (fun t kt => ?_) ?_
    · show Steps p.tables e below (s₁.setTop (mkF m 1 #[.val (.int ka)] [(.int ka)])) t
      refine XS.ifNo X0.here hx rfl (hb hby d_rm_pick_1) rfl (XT.i0_ne_f c1) ?_
      exact kt
    obtain ⟨T2, X2, e2, st2⟩ := getS X0 hx hZ hown (host := "") (wdOf hw 5 rfl) Via.refl e0 S_INTEGER (g := (mkF m 4 #[.val (.int ka)] [])) rfl (hb hby d_rm_pick_4)
    refine Goes.go (U' := (T2.setTop (mkF m 7 #[.val (.int ka)] [(.ref r_INTEGER)]))) st2 ?_
    refine Goes.retA X2 hx hlk hret rfl rfl (hb hby d_rm_pick_7) (by decide) (by decide) ?_
    try rw [e2]
    exact ⟨by rw [hr]; simp [c1], N0, rfl⟩
  · -- not ka = 0
    refine Goes.go (U' := (s₁.setTop (mkF m 10 #[.val (.int ka)] [(.int (1 : Int32)), (.int ka)]))) (fun t kt => ?_) ?_
    · show Steps p.tables e below (s₁.setTop (mkF m 1 #[.val (.int ka)] [(.int ka)])) t
      refine XS.ifYes X0.here hx rfl (pc0 := 1) (pc' := 8) rfl (hb hby d_rm_pick_1) rfl (XT.i0_ne_t c1) (by decide) (by decide) ?_
      show Steps p.tables e below (s₁.setTop (mkF m 8 #[.val (.int ka)] [])) t
      refine XS.iloadN X0.here hx rfl (hb hby d_rm_pick_8) rfl ?_
      show Steps p.tables e below (s₁.setTop (mkF m 9 #[.val (.int ka)] [(.int ka)])) t
      refine XS.iconst X0.here hx rfl (hb hby d_rm_pick_9) ?_
      exact kt
    by_cases c3 : ka = (1 : Int32)
    · -- ka = (1 : Int32)
      refine Goes.go (U' := (s₁.setTop (mkF m 13 #[.val (.int ka)] []))) (fun t kt => ?_) ?_
      · show Steps p.tables e below (s₁.setTop (mkF m 10 #[.val (.int ka)] [(.int (1 : Int32)), (.int ka)])) t
        refine XS.icmpNo X0.here hx rfl (hb hby d_rm_pick_10) rfl (XT.ii_ne_f c3) ?_
        exact kt
      obtain ⟨T4, X4, e4, st4⟩ := getS X0 hx hZ hown (host := "") (wdOf hw 15 rfl) Via.refl e0 S_STRING (g := (mkF m 13 #[.val (.int ka)] [])) rfl (hb hby d_rm_pick_13)
      refine Goes.go (U' := (T4.setTop (mkF m 16 #[.val (.int ka)] [(.ref r_STRING)]))) st4 ?_
      refine Goes.retA X4 hx hlk hret rfl rfl (hb hby d_rm_pick_16) (by decide) (by decide) ?_
      try rw [e4]
      exact ⟨by rw [hr]; simp [c1, c3], N0, rfl⟩
    · -- not ka = (1 : Int32)
      refine Goes.go (U' := (s₁.setTop (mkF m 17 #[.val (.int ka)] []))) (fun t kt => ?_) ?_
      · show Steps p.tables e below (s₁.setTop (mkF m 10 #[.val (.int ka)] [(.int (1 : Int32)), (.int ka)])) t
        refine XS.icmpYes X0.here hx rfl (pc0 := 10) (pc' := 17) rfl (hb hby d_rm_pick_10) rfl (XT.ii_ne_t c3) (by decide) (by decide) ?_
        exact kt
      obtain ⟨T5, X5, e5, st5⟩ := getS X0 hx hZ hown (host := "") (wdOf hw 13 rfl) Via.refl e0 S_NULL (g := (mkF m 17 #[.val (.int ka)] [])) rfl (hb hby d_rm_pick_17)
      refine Goes.go (U' := (T5.setTop (mkF m 20 #[.val (.int ka)] [(.ref r_NULL)]))) st5 ?_
      refine Goes.retA X5 hx hlk hret rfl rfl (hb hby d_rm_pick_20) (by decide) (by decide) ?_
      try rw [e5]
      exact ⟨by rw [hr]; simp [c1, c3], N0, rfl⟩
theorem d_rm_fits_0 : decode prog_127_method_5_code 0 = .ok (.aload_n 0, 1) := by decide +kernel
theorem d_rm_fits_1 : decode prog_127_method_5_code 1 = .ok (.aload_n 1, 1) := by decide +kernel
theorem d_rm_fits_2 : decode prog_127_method_5_code 2 = .ok (.if_acmp .eq 17, 3) := by decide +kernel
theorem d_rm_fits_5 : decode prog_127_method_5_code 5 = .ok (.aload_n 0, 1) := by decide +kernel
theorem d_rm_fits_6 : decode prog_127_method_5_code 6 = .ok (.getstatic 10, 3) := by decide +kernel
theorem d_rm_fits_9 : decode prog_127_method_5_code 9 = .ok (.if_acmp .eq 10, 3) := by decide +kernel
theorem d_rm_fits_12 : decode prog_127_method_5_code 12 = .ok (.aload_n 1, 1) := by decide +kernel
theorem d_rm_fits_13 : decode prog_127_method_5_code 13 = .ok (.getstatic 10, 3) := by decide +kernel
theorem d_rm_fits_16 : decode prog_127_method_5_code 16 = .ok (.if_acmp .ne 7, 3) := by decide +kernel
theorem d_rm_fits_19 : decode prog_127_method_5_code 19 = .ok (.iconst 1, 1) := by decide +kernel
theorem d_rm_fits_20 : decode prog_127_method_5_code 20 = .ok (.goto 4, 3) := by decide +kernel
theorem d_rm_fits_23 : decode prog_127_method_5_code 23 = .ok (.iconst 0, 1) := by decide +kernel
theorem d_rm_fits_24 : decode prog_127_method_5_code 24 = .ok (.ireturn, 1) := by decide +kernel
theorem ef_rm_fits (m : MethodId) (x0 : Addr) (x1 : Addr)  : entryFrame m #[(.ref x0), (.ref x1)] 2 = mkF m 0 #[.val (.ref x0), .val (.ref x1)] [] := by first | rfl | (simp [entryFrame, mkF, argsToLocals, Value.category]; done)
set_option maxRecDepth 65536 in
set_option maxHeartbeats 40000000 in
theorem rm_fits (l : Launch) (Z : State) (a0 : Array Value) (hw : ∀ d ∈ tables_1, d.before a0 Z = true) (ws : List Jvm.Cond) (a b r_NULL : Addr) (z : Int32) (h0 : Heap) (n0 : Nat) (Z0 : n0 ≤ h0.size) (S_NULL : Sta Z h0 "com/example/palimpsest/palimpsest/sql/ValueType" "NULL" "Lcom/example/palimpsest/palimpsest/sql/ValueType;" (.ref r_NULL)) (hz : z = if a = b ∨ a = r_NULL ∨ b = r_NULL then 1 else 0) :
    Pays l Z (⟨"com/example/palimpsest/palimpsest/sql/ValueType", "fits", "(Lcom/example/palimpsest/palimpsest/sql/ValueType;)Z"⟩ : MethodName) prog_127_method_5_code 2 (some .boolean) ws ({ frames := 0, cells := 0, slots := 0, locals := 0 } : Room) #[(.ref a), (.ref b)] h0 (fun v h L => v = some (.int z) ∧ Fr n0 L ∧ h = h0) := by
  refine Pays.of (plainFor_of_name (by first | (simp [plainName, overriddenIn]; done) | decide +kernel)) ?_
  intro p e s m below meth c s₁ hx hby hml hown hnm hret hlk hZ e0 X0
  have N0 := Fr.nil n0
  have K0 : Keep h0 h0 [] := Keep.refl _ _
  refine Goes.go (U' := (s₁.setTop (mkF m 0 #[.val (.ref a), .val (.ref b)] []))) (fun t kt => castTop (ef_rm_fits m a b) kt) ?_
  refine Goes.go (U' := (s₁.setTop (mkF m 2 #[.val (.ref a), .val (.ref b)] [(.ref b), (.ref a)]))) (fun t kt => ?_) ?_
  · show Steps p.tables e below (s₁.setTop (mkF m 0 #[.val (.ref a), .val (.ref b)] [])) t
    refine XS.aloadN X0.here hx rfl (hb hby d_rm_fits_0) rfl rfl ?_
    show Steps p.tables e below (s₁.setTop (mkF m 1 #[.val (.ref a), .val (.ref b)] [(.ref a)])) t
    refine XS.aloadN X0.here hx rfl (hb hby d_rm_fits_1) rfl rfl ?_
    exact kt
  by_cases c1 : a = b
  · -- a = b
    refine Goes.go (U' := (s₁.setTop (mkF m 24 #[.val (.ref a), .val (.ref b)] [(.int (1 : Int32))]))) (fun t kt => ?_) ?_
    · show Steps p.tables e below (s₁.setTop (mkF m 2 #[.val (.ref a), .val (.ref b)] [(.ref b), (.ref a)])) t
      refine XT.acmpYes X0.here hx rfl (pc0 := 2) (pc' := 19) rfl (hb hby d_rm_fits_2) rfl rfl rfl (XT.aa_eq_t (congrArg Value.ref c1)) (by decide) (by decide) ?_
      show Steps p.tables e below (s₁.setTop (mkF m 19 #[.val (.ref a), .val (.ref b)] [])) t
      refine XS.iconst X0.here hx rfl (hb hby d_rm_fits_19) ?_
      show Steps p.tables e below (s₁.setTop (mkF m 20 #[.val (.ref a), .val (.ref b)] [(.int (1 : Int32))])) t
      refine XS.goto X0.here hx rfl (pc0 := 20) (pc' := 24) rfl (hb hby d_rm_fits_20) (by decide) (by decide) ?_
      exact kt
    refine Goes.retB X0 hx hlk hret (hb hby d_rm_fits_24) (by decide) (by decide) ?_
    try rw [e0]
    exact ⟨by subst hz; first | (rw [if_pos (by simp [c1])]; rfl) | (rw [if_neg (by simp [c1])]; rfl), N0, rfl⟩
  · -- not a = b
    refine Goes.go (U' := (s₁.setTop (mkF m 6 #[.val (.ref a), .val (.ref b)] [(.ref a)]))) (fun t kt => ?_) ?_
    · show Steps p.tables e below (s₁.setTop (mkF m 2 #[.val (.ref a), .val (.ref b)] [(.ref b), (.ref a)])) t
      refine XT.acmpNo X0.here hx rfl (hb hby d_rm_fits_2) rfl rfl rfl (XT.aa_eq_f (fun q => c1 (Value.ref.inj q))) ?_
      show Steps p.tables e below (s₁.setTop (mkF m 5 #[.val (.ref a), .val (.ref b)] [])) t
      refine XS.aloadN X0.here hx rfl (hb hby d_rm_fits_5) rfl rfl ?_
      exact kt
    obtain ⟨T2, X2, e2, st2⟩ := getS X0 hx hZ hown (host := "") (wdOf hw 17 rfl) Via.refl e0 S_NULL (g := (mkF m 6 #[.val (.ref a), .val (.ref b)] [(.ref a)])) rfl (hb hby d_rm_fits_6)
    refine Goes.go (U' := (T2.setTop (mkF m 9 #[.val (.ref a), .val (.ref b)] [(.ref r_NULL), (.ref a)]))) st2 ?_
    by_cases c3 : a = r_NULL
    · -- a = r_NULL
      refine Goes.go (U' := (T2.setTop (mkF m 24 #[.val (.ref a), .val (.ref b)] [(.int (1 : Int32))]))) (fun t kt => ?_) ?_
      · show Steps p.tables e below (T2.setTop (mkF m 9 #[.val (.ref a), .val (.ref b)] [(.ref r_NULL), (.ref a)])) t
        refine XT.acmpYes X2.here hx rfl (pc0 := 9) (pc' := 19) rfl (hb hby d_rm_fits_9) rfl rfl rfl (XT.aa_eq_t (congrArg Value.ref c3)) (by decide) (by decide) ?_
        show Steps p.tables e below (T2.setTop (mkF m 19 #[.val (.ref a), .val (.ref b)] [])) t
        refine XS.iconst X2.here hx rfl (hb hby d_rm_fits_19) ?_
        show Steps p.tables e below (T2.setTop (mkF m 20 #[.val (.ref a), .val (.ref b)] [(.int (1 : Int32))])) t
        refine XS.goto X2.here hx rfl (pc0 := 20) (pc' := 24) rfl (hb hby d_rm_fits_20) (by decide) (by decide) ?_
        exact kt
      refine Goes.retB X2 hx hlk hret (hb hby d_rm_fits_24) (by decide) (by decide) ?_
      try rw [e2]
      exact ⟨by subst hz; first | (rw [if_pos (by simp [c1, c3])]; rfl) | (rw [if_neg (by simp [c1, c3])]; rfl), N0, rfl⟩
    · -- not a = r_NULL
      refine Goes.go (U' := (T2.setTop (mkF m 13 #[.val (.ref a), .val (.ref b)] [(.ref b)]))) (fun t kt => ?_) ?_
      · show Steps p.tables e below (T2.setTop (mkF m 9 #[.val (.ref a), .val (.ref b)] [(.ref r_NULL), (.ref a)])) t
        refine XT.acmpNo X2.here hx rfl (hb hby d_rm_fits_9) rfl rfl rfl (XT.aa_eq_f (fun q => c3 (Value.ref.inj q))) ?_
        show Steps p.tables e below (T2.setTop (mkF m 12 #[.val (.ref a), .val (.ref b)] [])) t
        refine XS.aloadN X2.here hx rfl (hb hby d_rm_fits_12) rfl rfl ?_
        exact kt
      obtain ⟨T4, X4, e4, st4⟩ := getS X2 hx hZ hown (host := "") (wdOf hw 17 rfl) Via.refl e2 S_NULL (g := (mkF m 13 #[.val (.ref a), .val (.ref b)] [(.ref b)])) rfl (hb hby d_rm_fits_13)
      refine Goes.go (U' := (T4.setTop (mkF m 16 #[.val (.ref a), .val (.ref b)] [(.ref r_NULL), (.ref b)]))) st4 ?_
      by_cases c5 : b = r_NULL
      · -- b = r_NULL
        refine Goes.go (U' := (T4.setTop (mkF m 24 #[.val (.ref a), .val (.ref b)] [(.int (1 : Int32))]))) (fun t kt => ?_) ?_
        · show Steps p.tables e below (T4.setTop (mkF m 16 #[.val (.ref a), .val (.ref b)] [(.ref r_NULL), (.ref b)])) t
          refine XT.acmpNo X4.here hx rfl (hb hby d_rm_fits_16) rfl rfl rfl (XT.aa_ne_f (congrArg Value.ref c5)) ?_
          show Steps p.tables e below (T4.setTop (mkF m 19 #[.val (.ref a), .val (.ref b)] [])) t
          refine XS.iconst X4.here hx rfl (hb hby d_rm_fits_19) ?_
          show Steps p.tables e below (T4.setTop (mkF m 20 #[.val (.ref a), .val (.ref b)] [(.int (1 : Int32))])) t
          refine XS.goto X4.here hx rfl (pc0 := 20) (pc' := 24) rfl (hb hby d_rm_fits_20) (by decide) (by decide) ?_
          exact kt
        refine Goes.retB X4 hx hlk hret (hb hby d_rm_fits_24) (by decide) (by decide) ?_
        try rw [e4]
        exact ⟨by subst hz; first | (rw [if_pos (by simp [c1, c3, c5])]; rfl) | (rw [if_neg (by simp [c1, c3, c5])]; rfl), N0, rfl⟩
      · -- not b = r_NULL
        refine Goes.go (U' := (T4.setTop (mkF m 24 #[.val (.ref a), .val (.ref b)] [(.int (0 : Int32))]))) (fun t kt => ?_) ?_
        · show Steps p.tables e below (T4.setTop (mkF m 16 #[.val (.ref a), .val (.ref b)] [(.ref r_NULL), (.ref b)])) t
          refine XT.acmpYes X4.here hx rfl (pc0 := 16) (pc' := 23) rfl (hb hby d_rm_fits_16) rfl rfl rfl (XT.aa_ne_t (fun q => c5 (Value.ref.inj q))) (by decide) (by decide) ?_
          show Steps p.tables e below (T4.setTop (mkF m 23 #[.val (.ref a), .val (.ref b)] [])) t
          refine XS.iconst X4.here hx rfl (hb hby d_rm_fits_23) ?_
          exact kt
        refine Goes.retB X4 hx hlk hret (hb hby d_rm_fits_24) (by decide) (by decide) ?_
        try rw [e4]
        exact ⟨by subst hz; first | (rw [if_pos (by simp [c1, c3, c5])]; rfl) | (rw [if_neg (by simp [c1, c3, c5])]; rfl), N0, rfl⟩
theorem ef_rm_law (m : MethodId) (x0 : Int32) (x1 : Int32)  : entryFrame m #[(.int x0), (.int x1)] maxLocals = mkF m 0 #[.val (.int x0), .val (.int x1), .unset, .unset, .unset, .unset, .unset, .unset, .unset] [] := by first | rfl | (simp [entryFrame, mkF, argsToLocals, Value.category, maxLocals]; done)
set_option maxRecDepth 65536 in
set_option maxHeartbeats 40000000 in
theorem rm_law (l : Launch) (Z : State) (a0 : Array Value) (hw : ∀ d ∈ tables_1, d.before a0 Z = true) (ws : List Jvm.Cond) (pa pb : Int32) (r_INTEGER r_STRING r_NULL : Addr) (h0 : Heap) (n0 : Nat) (Z0 : n0 ≤ h0.size) (S_INTEGER : Sta Z h0 "com/example/palimpsest/palimpsest/sql/ValueType" "INTEGER" "Lcom/example/palimpsest/palimpsest/sql/ValueType;" (.ref r_INTEGER)) (S_STRING : Sta Z h0 "com/example/palimpsest/palimpsest/sql/ValueType" "STRING" "Lcom/example/palimpsest/palimpsest/sql/ValueType;" (.ref r_STRING)) (S_NULL : Sta Z h0 "com/example/palimpsest/palimpsest/sql/ValueType" "NULL" "Lcom/example/palimpsest/palimpsest/sql/ValueType;" (.ref r_NULL)) (E_INTEGER : Exa Z h0 r_INTEGER "com/example/palimpsest/palimpsest/sql/ValueType") (E_STRING : Exa Z h0 r_STRING "com/example/palimpsest/palimpsest/sql/ValueType") (E_NULL : Exa Z h0 r_NULL "com/example/palimpsest/palimpsest/sql/ValueType") (ne_0_1 : r_INTEGER ≠ r_STRING) (ne_1_0 : r_STRING ≠ r_INTEGER) (ne_0_2 : r_INTEGER ≠ r_NULL) (ne_1_2 : r_STRING ≠ r_NULL)  :
    Pays l Z x code maxLocals ret ws room_1 #[(.int pa), (.int pb)] h0 (fun v h L => v = some (.int 1) ∧ Fr n0 L) := by
  refine Pays.of (plainFor_of_name (by first | (simp [plainName, overriddenIn]; done) | decide +kernel)) ?_
  intro p e s m below meth c s₁ hx hby hml hown hnm hret hlk hZ e0 X0
  have N0 := Fr.nil n0
  have K0 : Keep h0 h0 [] := Keep.refl _ _
  refine Goes.go (U' := (s₁.setTop (mkF m 0 #[.val (.int pa), .val (.int pb), .unset, .unset, .unset, .unset, .unset, .unset, .unset] []))) (fun t kt => castTop (ef_rm_law m pa pb) kt) ?_
  refine Goes.go (U' := (s₁.setTop (mkF m 6 #[.val (.int pa), .val (.int pb), .unset, .unset, .unset, .unset, .unset, .unset, .unset] [(.int ((pa &&& (2147483647 : Int32)) % (3 : Int32)))]))) (fun t kt => ?_) ?_
  · show Steps p.tables e below (s₁.setTop (mkF m 0 #[.val (.int pa), .val (.int pb), .unset, .unset, .unset, .unset, .unset, .unset, .unset] [])) t
    refine XS.iloadN X0.here hx rfl (hb hby at_0) rfl ?_
    show Steps p.tables e below (s₁.setTop (mkF m 1 #[.val (.int pa), .val (.int pb), .unset, .unset, .unset, .unset, .unset, .unset, .unset] [(.int pa)])) t
    refine Jvm.Stand.ldcI X0 hx hown (mvT hZ (wdOf hw 0 rfl)) rfl (hb hby at_1) ?_
    show Steps p.tables e below (s₁.setTop (mkF m 3 #[.val (.int pa), .val (.int pb), .unset, .unset, .unset, .unset, .unset, .unset, .unset] [(.int (2147483647 : Int32)), (.int pa)])) t
    refine XS.iand X0.here hx rfl (hb hby at_3) rfl ?_
    show Steps p.tables e below (s₁.setTop (mkF m 4 #[.val (.int pa), .val (.int pb), .unset, .unset, .unset, .unset, .unset, .unset, .unset] [(.int (pa &&& (2147483647 : Int32)))])) t
    refine XS.iconst X0.here hx rfl (hb hby at_4) ?_
    show Steps p.tables e below (s₁.setTop (mkF m 5 #[.val (.int pa), .val (.int pb), .unset, .unset, .unset, .unset, .unset, .unset, .unset] [(.int (3 : Int32)), (.int (pa &&& (2147483647 : Int32)))])) t
    refine iremM X0 hx rfl (hb hby at_5) rfl (by decide) ?_
    exact kt
  rcases own_mod pa with hi | hi | hi
  · -- case 0
    rw [hi]
    refine Goes.go (U' := (s₁.setTop (mkF m 13 #[.val (.int pa), .val (.int pb), .val (.int (0 : Int32)), .unset, .unset, .unset, .unset, .unset, .unset] [(.int ((pb &&& (2147483647 : Int32)) % (3 : Int32)))]))) (fun t kt => ?_) ?_
    · show Steps p.tables e below (s₁.setTop (mkF m 6 #[.val (.int pa), .val (.int pb), .unset, .unset, .unset, .unset, .unset, .unset, .unset] [(.int (0 : Int32))])) t
      refine XS.istoreN X0.here hx rfl (hb hby at_6) rfl (l' := #[.val (.int pa), .val (.int pb), .val (.int (0 : Int32)), .unset, .unset, .unset, .unset, .unset, .unset]) rfl ?_
      show Steps p.tables e below (s₁.setTop (mkF m 7 #[.val (.int pa), .val (.int pb), .val (.int (0 : Int32)), .unset, .unset, .unset, .unset, .unset, .unset] [])) t
      refine XS.iloadN X0.here hx rfl (hb hby at_7) rfl ?_
      show Steps p.tables e below (s₁.setTop (mkF m 8 #[.val (.int pa), .val (.int pb), .val (.int (0 : Int32)), .unset, .unset, .unset, .unset, .unset, .unset] [(.int pb)])) t
      refine Jvm.Stand.ldcI X0 hx hown (mvT hZ (wdOf hw 0 rfl)) rfl (hb hby at_8) ?_
      show Steps p.tables e below (s₁.setTop (mkF m 10 #[.val (.int pa), .val (.int pb), .val (.int (0 : Int32)), .unset, .unset, .unset, .unset, .unset, .unset] [(.int (2147483647 : Int32)), (.int pb)])) t
      refine XS.iand X0.here hx rfl (hb hby at_10) rfl ?_
      show Steps p.tables e below (s₁.setTop (mkF m 11 #[.val (.int pa), .val (.int pb), .val (.int (0 : Int32)), .unset, .unset, .unset, .unset, .unset, .unset] [(.int (pb &&& (2147483647 : Int32)))])) t
      refine XS.iconst X0.here hx rfl (hb hby at_11) ?_
      show Steps p.tables e below (s₁.setTop (mkF m 12 #[.val (.int pa), .val (.int pb), .val (.int (0 : Int32)), .unset, .unset, .unset, .unset, .unset, .unset] [(.int (3 : Int32)), (.int (pb &&& (2147483647 : Int32)))])) t
      refine iremM X0 hx rfl (hb hby at_12) rfl (by decide) ?_
      exact kt
    rcases own_mod pb with hj | hj | hj
    · -- case 0
      rw [hj]
      refine Goes.go (U' := (s₁.setTop (mkF m 15 #[.val (.int pa), .val (.int pb), .val (.int (0 : Int32)), .val (.int (0 : Int32)), .unset, .unset, .unset, .unset, .unset] [(.int (0 : Int32))]))) (fun t kt => ?_) ?_
      · show Steps p.tables e below (s₁.setTop (mkF m 13 #[.val (.int pa), .val (.int pb), .val (.int (0 : Int32)), .unset, .unset, .unset, .unset, .unset, .unset] [(.int (0 : Int32))])) t
        refine XS.istoreN X0.here hx rfl (hb hby at_13) rfl (l' := #[.val (.int pa), .val (.int pb), .val (.int (0 : Int32)), .val (.int (0 : Int32)), .unset, .unset, .unset, .unset, .unset]) rfl ?_
        show Steps p.tables e below (s₁.setTop (mkF m 14 #[.val (.int pa), .val (.int pb), .val (.int (0 : Int32)), .val (.int (0 : Int32)), .unset, .unset, .unset, .unset, .unset] [])) t
        refine XS.iloadN X0.here hx rfl (hb hby at_14) rfl ?_
        exact kt
      obtain ⟨v1, T1, L1, X1, q1, st1⟩ := callStatic X0 hx hZ (y := (⟨"com/example/palimpsest/palimpsest/sql/ValueTypeFitsPinLaw", "pick", "(I)Lcom/example/palimpsest/palimpsest/sql/ValueType;"⟩ : MethodName)) (W := 0) hown (wdOf hw 1 rfl) (wdOf hw 2 rfl) (wdOf hw 3 rfl) (wdOf hw 4 rfl) (by decide) (rm_pick l Z a0 hw [] (0 : Int32) r_INTEGER r_INTEGER r_STRING r_NULL h0 n0 Z0 S_INTEGER S_STRING S_NULL (by simp)) (by decide) (by decide) (by decide) (by decide) e0 (g := (mkF m 15 #[.val (.int pa), .val (.int pb), .val (.int (0 : Int32)), .val (.int (0 : Int32)), .unset, .unset, .unset, .unset, .unset] [(.int (0 : Int32))])) rfl (by rw [hml]; rfl) (argsL := [(.int (0 : Int32))]) (rest := []) (lenOf pd_0 rfl) rfl rfl (Nat.le_refl _) (hb hby at_15)
      obtain ⟨rfl, n1, K1⟩ := q1
      have N1 := Fr.app N0 n1
      refine Goes.go (U' := (T1.setTop (mkF m 18 #[.val (.int pa), .val (.int pb), .val (.int (0 : Int32)), .val (.int (0 : Int32)), .unset, .unset, .unset, .unset, .unset] [(.ref r_INTEGER)]))) st1 ?_
      refine Goes.go (U' := (T1.setTop (mkF m 21 #[.val (.int pa), .val (.int pb), .val (.int (0 : Int32)), .val (.int (0 : Int32)), .val (.ref r_INTEGER), .unset, .unset, .unset, .unset] [(.int (0 : Int32))]))) (fun t kt => ?_) ?_
      · show Steps p.tables e below (T1.setTop (mkF m 18 #[.val (.int pa), .val (.int pb), .val (.int (0 : Int32)), .val (.int (0 : Int32)), .unset, .unset, .unset, .unset, .unset] [(.ref r_INTEGER)])) t
        refine XS.astore X1.here hx rfl (hb hby at_18) rfl rfl (l' := #[.val (.int pa), .val (.int pb), .val (.int (0 : Int32)), .val (.int (0 : Int32)), .val (.ref r_INTEGER), .unset, .unset, .unset, .unset]) rfl ?_
        show Steps p.tables e below (T1.setTop (mkF m 20 #[.val (.int pa), .val (.int pb), .val (.int (0 : Int32)), .val (.int (0 : Int32)), .val (.ref r_INTEGER), .unset, .unset, .unset, .unset] [])) t
        refine XS.iloadN X1.here hx rfl (hb hby at_20) rfl ?_
        exact kt
      obtain ⟨v2, T2, L2, X2, q2, st2⟩ := callStatic X1 hx hZ (y := (⟨"com/example/palimpsest/palimpsest/sql/ValueTypeFitsPinLaw", "pick", "(I)Lcom/example/palimpsest/palimpsest/sql/ValueType;"⟩ : MethodName)) (W := 0) hown (wdOf hw 1 rfl) (wdOf hw 2 rfl) (wdOf hw 3 rfl) (wdOf hw 4 rfl) (by decide) (rm_pick l Z a0 hw [] (0 : Int32) r_INTEGER r_INTEGER r_STRING r_NULL h0 n0 Z0 S_INTEGER S_STRING S_NULL (by simp)) (by decide) (by decide) (by decide) (by decide) K1 (g := (mkF m 21 #[.val (.int pa), .val (.int pb), .val (.int (0 : Int32)), .val (.int (0 : Int32)), .val (.ref r_INTEGER), .unset, .unset, .unset, .unset] [(.int (0 : Int32))])) rfl (by rw [hml]; rfl) (argsL := [(.int (0 : Int32))]) (rest := []) (lenOf pd_0 rfl) rfl rfl (Nat.le_refl _) (hb hby at_21)
      obtain ⟨rfl, n2, K2⟩ := q2
      have N2 := Fr.app N1 n2
      refine Goes.go (U' := (T2.setTop (mkF m 24 #[.val (.int pa), .val (.int pb), .val (.int (0 : Int32)), .val (.int (0 : Int32)), .val (.ref r_INTEGER), .unset, .unset, .unset, .unset] [(.ref r_INTEGER)]))) st2 ?_
      refine Goes.go (U' := (T2.setTop (mkF m 44 #[.val (.int pa), .val (.int pb), .val (.int (0 : Int32)), .val (.int (0 : Int32)), .val (.ref r_INTEGER), .val (.ref r_INTEGER), .val (.int (1 : Int32)), .unset, .unset] [(.ref r_INTEGER), (.ref r_INTEGER)]))) (fun t kt => ?_) ?_
      · show Steps p.tables e below (T2.setTop (mkF m 24 #[.val (.int pa), .val (.int pb), .val (.int (0 : Int32)), .val (.int (0 : Int32)), .val (.ref r_INTEGER), .unset, .unset, .unset, .unset] [(.ref r_INTEGER)])) t
        refine XS.astore X2.here hx rfl (hb hby at_24) rfl rfl (l' := #[.val (.int pa), .val (.int pb), .val (.int (0 : Int32)), .val (.int (0 : Int32)), .val (.ref r_INTEGER), .val (.ref r_INTEGER), .unset, .unset, .unset]) rfl ?_
        show Steps p.tables e below (T2.setTop (mkF m 26 #[.val (.int pa), .val (.int pb), .val (.int (0 : Int32)), .val (.int (0 : Int32)), .val (.ref r_INTEGER), .val (.ref r_INTEGER), .unset, .unset, .unset] [])) t
        refine XS.iloadN X2.here hx rfl (hb hby at_26) rfl ?_
        show Steps p.tables e below (T2.setTop (mkF m 27 #[.val (.int pa), .val (.int pb), .val (.int (0 : Int32)), .val (.int (0 : Int32)), .val (.ref r_INTEGER), .val (.ref r_INTEGER), .unset, .unset, .unset] [(.int (0 : Int32))])) t
        refine XS.iloadN X2.here hx rfl (hb hby at_27) rfl ?_
        show Steps p.tables e below (T2.setTop (mkF m 28 #[.val (.int pa), .val (.int pb), .val (.int (0 : Int32)), .val (.int (0 : Int32)), .val (.ref r_INTEGER), .val (.ref r_INTEGER), .unset, .unset, .unset] [(.int (0 : Int32)), (.int (0 : Int32))])) t
        refine XS.iadd X2.here hx rfl (hb hby at_28) rfl ?_
        show Steps p.tables e below (T2.setTop (mkF m 29 #[.val (.int pa), .val (.int pb), .val (.int (0 : Int32)), .val (.int (0 : Int32)), .val (.ref r_INTEGER), .val (.ref r_INTEGER), .unset, .unset, .unset] [(.int ((0 : Int32) + (0 : Int32)))])) t
        refine XS.iconst X2.here hx rfl (hb hby at_29) ?_
        show Steps p.tables e below (T2.setTop (mkF m 30 #[.val (.int pa), .val (.int pb), .val (.int (0 : Int32)), .val (.int (0 : Int32)), .val (.ref r_INTEGER), .val (.ref r_INTEGER), .unset, .unset, .unset] [(.int (1 : Int32)), (.int ((0 : Int32) + (0 : Int32)))])) t
        refine XS.icmpNo X2.here hx rfl (hb hby at_30) rfl (XT.ii_eq_f (by decide)) ?_
        show Steps p.tables e below (T2.setTop (mkF m 33 #[.val (.int pa), .val (.int pb), .val (.int (0 : Int32)), .val (.int (0 : Int32)), .val (.ref r_INTEGER), .val (.ref r_INTEGER), .unset, .unset, .unset] [])) t
        refine XS.iconst X2.here hx rfl (hb hby at_33) ?_
        show Steps p.tables e below (T2.setTop (mkF m 34 #[.val (.int pa), .val (.int pb), .val (.int (0 : Int32)), .val (.int (0 : Int32)), .val (.ref r_INTEGER), .val (.ref r_INTEGER), .unset, .unset, .unset] [(.int (1 : Int32))])) t
        refine XS.goto X2.here hx rfl (pc0 := 34) (pc' := 38) rfl (hb hby at_34) (by decide) (by decide) ?_
        show Steps p.tables e below (T2.setTop (mkF m 38 #[.val (.int pa), .val (.int pb), .val (.int (0 : Int32)), .val (.int (0 : Int32)), .val (.ref r_INTEGER), .val (.ref r_INTEGER), .unset, .unset, .unset] [(.int (1 : Int32))])) t
        refine XS.istore X2.here hx rfl (hb hby at_38) rfl (l' := #[.val (.int pa), .val (.int pb), .val (.int (0 : Int32)), .val (.int (0 : Int32)), .val (.ref r_INTEGER), .val (.ref r_INTEGER), .val (.int (1 : Int32)), .unset, .unset]) rfl ?_
        show Steps p.tables e below (T2.setTop (mkF m 40 #[.val (.int pa), .val (.int pb), .val (.int (0 : Int32)), .val (.int (0 : Int32)), .val (.ref r_INTEGER), .val (.ref r_INTEGER), .val (.int (1 : Int32)), .unset, .unset] [])) t
        refine XS.aload X2.here hx rfl (hb hby at_40) rfl rfl ?_
        show Steps p.tables e below (T2.setTop (mkF m 42 #[.val (.int pa), .val (.int pb), .val (.int (0 : Int32)), .val (.int (0 : Int32)), .val (.ref r_INTEGER), .val (.ref r_INTEGER), .val (.int (1 : Int32)), .unset, .unset] [(.ref r_INTEGER)])) t
        refine XS.aload X2.here hx rfl (hb hby at_42) rfl rfl ?_
        exact kt
      obtain ⟨v3, T3, L3, X3, q3, st3⟩ := callVirtual X2 hx hZ (y := (⟨"com/example/palimpsest/palimpsest/sql/ValueType", "fits", "(Lcom/example/palimpsest/palimpsest/sql/ValueType;)Z"⟩ : MethodName)) (z := (⟨"com/example/palimpsest/palimpsest/sql/ValueType", "fits", "(Lcom/example/palimpsest/palimpsest/sql/ValueType;)Z"⟩ : MethodName)) (W := 0) hown (wdOf hw 8 rfl) (wdOf hw 9 rfl) (notFace_of_selects (args := #[]) (mvT hZ (wdOf hw 11 rfl))) (wdOf hw 11 rfl) (wdOf hw 10 rfl) (wdOf hw 6 rfl) (wdOf hw 12 rfl) (by decide) (rm_fits l Z a0 hw [] r_INTEGER r_INTEGER r_NULL (1 : Int32) h0 n0 Z0 S_NULL (by simp [])) (by decide) (by decide) (by decide) (by decide) K2 E_INTEGER (g := (mkF m 44 #[.val (.int pa), .val (.int pb), .val (.int (0 : Int32)), .val (.int (0 : Int32)), .val (.ref r_INTEGER), .val (.ref r_INTEGER), .val (.int (1 : Int32)), .unset, .unset] [(.ref r_INTEGER), (.ref r_INTEGER)])) rfl (by rw [hml]; rfl) (argsL := [(.ref r_INTEGER)]) (rest := []) (lenOf pd_1 rfl) rfl rfl (Nat.le_refl _) (hb hby at_44)
      obtain ⟨rfl, n3, K3⟩ := q3
      have N3 := Fr.app N2 n3
      refine Goes.go (U' := (T3.setTop (mkF m 47 #[.val (.int pa), .val (.int pb), .val (.int (0 : Int32)), .val (.int (0 : Int32)), .val (.ref r_INTEGER), .val (.ref r_INTEGER), .val (.int (1 : Int32)), .unset, .unset] [(.int (1 : Int32))]))) st3 ?_
      refine Goes.go (U' := (T3.setTop (mkF m 53 #[.val (.int pa), .val (.int pb), .val (.int (0 : Int32)), .val (.int (0 : Int32)), .val (.ref r_INTEGER), .val (.ref r_INTEGER), .val (.int (1 : Int32)), .val (.int (1 : Int32)), .unset] [(.ref r_INTEGER), (.ref r_INTEGER)]))) (fun t kt => ?_) ?_
      · show Steps p.tables e below (T3.setTop (mkF m 47 #[.val (.int pa), .val (.int pb), .val (.int (0 : Int32)), .val (.int (0 : Int32)), .val (.ref r_INTEGER), .val (.ref r_INTEGER), .val (.int (1 : Int32)), .unset, .unset] [(.int (1 : Int32))])) t
        refine XS.istore X3.here hx rfl (hb hby at_47) rfl (l' := #[.val (.int pa), .val (.int pb), .val (.int (0 : Int32)), .val (.int (0 : Int32)), .val (.ref r_INTEGER), .val (.ref r_INTEGER), .val (.int (1 : Int32)), .val (.int (1 : Int32)), .unset]) rfl ?_
        show Steps p.tables e below (T3.setTop (mkF m 49 #[.val (.int pa), .val (.int pb), .val (.int (0 : Int32)), .val (.int (0 : Int32)), .val (.ref r_INTEGER), .val (.ref r_INTEGER), .val (.int (1 : Int32)), .val (.int (1 : Int32)), .unset] [])) t
        refine XS.aload X3.here hx rfl (hb hby at_49) rfl rfl ?_
        show Steps p.tables e below (T3.setTop (mkF m 51 #[.val (.int pa), .val (.int pb), .val (.int (0 : Int32)), .val (.int (0 : Int32)), .val (.ref r_INTEGER), .val (.ref r_INTEGER), .val (.int (1 : Int32)), .val (.int (1 : Int32)), .unset] [(.ref r_INTEGER)])) t
        refine XS.aload X3.here hx rfl (hb hby at_51) rfl rfl ?_
        exact kt
      obtain ⟨v4, T4, L4, X4, q4, st4⟩ := callVirtual X3 hx hZ (y := (⟨"com/example/palimpsest/palimpsest/sql/ValueType", "fits", "(Lcom/example/palimpsest/palimpsest/sql/ValueType;)Z"⟩ : MethodName)) (z := (⟨"com/example/palimpsest/palimpsest/sql/ValueType", "fits", "(Lcom/example/palimpsest/palimpsest/sql/ValueType;)Z"⟩ : MethodName)) (W := 0) hown (wdOf hw 8 rfl) (wdOf hw 9 rfl) (notFace_of_selects (args := #[]) (mvT hZ (wdOf hw 11 rfl))) (wdOf hw 11 rfl) (wdOf hw 10 rfl) (wdOf hw 6 rfl) (wdOf hw 12 rfl) (by decide) (rm_fits l Z a0 hw [] r_INTEGER r_INTEGER r_NULL (1 : Int32) h0 n0 Z0 S_NULL (by simp [])) (by decide) (by decide) (by decide) (by decide) K3 E_INTEGER (g := (mkF m 53 #[.val (.int pa), .val (.int pb), .val (.int (0 : Int32)), .val (.int (0 : Int32)), .val (.ref r_INTEGER), .val (.ref r_INTEGER), .val (.int (1 : Int32)), .val (.int (1 : Int32)), .unset] [(.ref r_INTEGER), (.ref r_INTEGER)])) rfl (by rw [hml]; rfl) (argsL := [(.ref r_INTEGER)]) (rest := []) (lenOf pd_1 rfl) rfl rfl (Nat.le_refl _) (hb hby at_53)
      obtain ⟨rfl, n4, K4⟩ := q4
      have N4 := Fr.app N3 n4
      refine Goes.go (U' := (T4.setTop (mkF m 56 #[.val (.int pa), .val (.int pb), .val (.int (0 : Int32)), .val (.int (0 : Int32)), .val (.ref r_INTEGER), .val (.ref r_INTEGER), .val (.int (1 : Int32)), .val (.int (1 : Int32)), .unset] [(.int (1 : Int32))]))) st4 ?_
      refine Goes.go (U' := (T4.setTop (mkF m 77 #[.val (.int pa), .val (.int pb), .val (.int (0 : Int32)), .val (.int (0 : Int32)), .val (.ref r_INTEGER), .val (.ref r_INTEGER), .val (.int (1 : Int32)), .val (.int (1 : Int32)), .val (.int (1 : Int32))] [(.int (1 : Int32))]))) (fun t kt => ?_) ?_
      · show Steps p.tables e below (T4.setTop (mkF m 56 #[.val (.int pa), .val (.int pb), .val (.int (0 : Int32)), .val (.int (0 : Int32)), .val (.ref r_INTEGER), .val (.ref r_INTEGER), .val (.int (1 : Int32)), .val (.int (1 : Int32)), .unset] [(.int (1 : Int32))])) t
        refine XS.istore X4.here hx rfl (hb hby at_56) rfl (l' := #[.val (.int pa), .val (.int pb), .val (.int (0 : Int32)), .val (.int (0 : Int32)), .val (.ref r_INTEGER), .val (.ref r_INTEGER), .val (.int (1 : Int32)), .val (.int (1 : Int32)), .val (.int (1 : Int32))]) rfl ?_
        show Steps p.tables e below (T4.setTop (mkF m 58 #[.val (.int pa), .val (.int pb), .val (.int (0 : Int32)), .val (.int (0 : Int32)), .val (.ref r_INTEGER), .val (.ref r_INTEGER), .val (.int (1 : Int32)), .val (.int (1 : Int32)), .val (.int (1 : Int32))] [])) t
        refine XS.iload X4.here hx rfl (hb hby at_58) rfl ?_
        show Steps p.tables e below (T4.setTop (mkF m 60 #[.val (.int pa), .val (.int pb), .val (.int (0 : Int32)), .val (.int (0 : Int32)), .val (.ref r_INTEGER), .val (.ref r_INTEGER), .val (.int (1 : Int32)), .val (.int (1 : Int32)), .val (.int (1 : Int32))] [(.int (1 : Int32))])) t
        refine XS.iload X4.here hx rfl (hb hby at_60) rfl ?_
        show Steps p.tables e below (T4.setTop (mkF m 62 #[.val (.int pa), .val (.int pb), .val (.int (0 : Int32)), .val (.int (0 : Int32)), .val (.ref r_INTEGER), .val (.ref r_INTEGER), .val (.int (1 : Int32)), .val (.int (1 : Int32)), .val (.int (1 : Int32))] [(.int (1 : Int32)), (.int (1 : Int32))])) t
        refine XS.icmpNo X4.here hx rfl (hb hby at_62) rfl (XT.ii_ne_f (by decide)) ?_
        show Steps p.tables e below (T4.setTop (mkF m 65 #[.val (.int pa), .val (.int pb), .val (.int (0 : Int32)), .val (.int (0 : Int32)), .val (.ref r_INTEGER), .val (.ref r_INTEGER), .val (.int (1 : Int32)), .val (.int (1 : Int32)), .val (.int (1 : Int32))] [])) t
        refine XS.iload X4.here hx rfl (hb hby at_65) rfl ?_
        show Steps p.tables e below (T4.setTop (mkF m 67 #[.val (.int pa), .val (.int pb), .val (.int (0 : Int32)), .val (.int (0 : Int32)), .val (.ref r_INTEGER), .val (.ref r_INTEGER), .val (.int (1 : Int32)), .val (.int (1 : Int32)), .val (.int (1 : Int32))] [(.int (1 : Int32))])) t
        refine XS.iload X4.here hx rfl (hb hby at_67) rfl ?_
        show Steps p.tables e below (T4.setTop (mkF m 69 #[.val (.int pa), .val (.int pb), .val (.int (0 : Int32)), .val (.int (0 : Int32)), .val (.ref r_INTEGER), .val (.ref r_INTEGER), .val (.int (1 : Int32)), .val (.int (1 : Int32)), .val (.int (1 : Int32))] [(.int (1 : Int32)), (.int (1 : Int32))])) t
        refine XS.icmpNo X4.here hx rfl (hb hby at_69) rfl (XT.ii_ne_f (by decide)) ?_
        show Steps p.tables e below (T4.setTop (mkF m 72 #[.val (.int pa), .val (.int pb), .val (.int (0 : Int32)), .val (.int (0 : Int32)), .val (.ref r_INTEGER), .val (.ref r_INTEGER), .val (.int (1 : Int32)), .val (.int (1 : Int32)), .val (.int (1 : Int32))] [])) t
        refine XS.iconst X4.here hx rfl (hb hby at_72) ?_
        show Steps p.tables e below (T4.setTop (mkF m 73 #[.val (.int pa), .val (.int pb), .val (.int (0 : Int32)), .val (.int (0 : Int32)), .val (.ref r_INTEGER), .val (.ref r_INTEGER), .val (.int (1 : Int32)), .val (.int (1 : Int32)), .val (.int (1 : Int32))] [(.int (1 : Int32))])) t
        refine XS.goto X4.here hx rfl (pc0 := 73) (pc' := 77) rfl (hb hby at_73) (by decide) (by decide) ?_
        exact kt
      refine Goes.retB X4 hx hlk hret (hb hby at_77) (by decide) (by decide) ?_
      try rw [K4]
      exact ⟨rfl, N4⟩
    · -- case 1
      rw [hj]
      refine Goes.go (U' := (s₁.setTop (mkF m 15 #[.val (.int pa), .val (.int pb), .val (.int (0 : Int32)), .val (.int (1 : Int32)), .unset, .unset, .unset, .unset, .unset] [(.int (0 : Int32))]))) (fun t kt => ?_) ?_
      · show Steps p.tables e below (s₁.setTop (mkF m 13 #[.val (.int pa), .val (.int pb), .val (.int (0 : Int32)), .unset, .unset, .unset, .unset, .unset, .unset] [(.int (1 : Int32))])) t
        refine XS.istoreN X0.here hx rfl (hb hby at_13) rfl (l' := #[.val (.int pa), .val (.int pb), .val (.int (0 : Int32)), .val (.int (1 : Int32)), .unset, .unset, .unset, .unset, .unset]) rfl ?_
        show Steps p.tables e below (s₁.setTop (mkF m 14 #[.val (.int pa), .val (.int pb), .val (.int (0 : Int32)), .val (.int (1 : Int32)), .unset, .unset, .unset, .unset, .unset] [])) t
        refine XS.iloadN X0.here hx rfl (hb hby at_14) rfl ?_
        exact kt
      obtain ⟨v5, T5, L5, X5, q5, st5⟩ := callStatic X0 hx hZ (y := (⟨"com/example/palimpsest/palimpsest/sql/ValueTypeFitsPinLaw", "pick", "(I)Lcom/example/palimpsest/palimpsest/sql/ValueType;"⟩ : MethodName)) (W := 0) hown (wdOf hw 1 rfl) (wdOf hw 2 rfl) (wdOf hw 3 rfl) (wdOf hw 4 rfl) (by decide) (rm_pick l Z a0 hw [] (0 : Int32) r_INTEGER r_INTEGER r_STRING r_NULL h0 n0 Z0 S_INTEGER S_STRING S_NULL (by simp)) (by decide) (by decide) (by decide) (by decide) e0 (g := (mkF m 15 #[.val (.int pa), .val (.int pb), .val (.int (0 : Int32)), .val (.int (1 : Int32)), .unset, .unset, .unset, .unset, .unset] [(.int (0 : Int32))])) rfl (by rw [hml]; rfl) (argsL := [(.int (0 : Int32))]) (rest := []) (lenOf pd_0 rfl) rfl rfl (Nat.le_refl _) (hb hby at_15)
      obtain ⟨rfl, n5, K5⟩ := q5
      have N5 := Fr.app N0 n5
      refine Goes.go (U' := (T5.setTop (mkF m 18 #[.val (.int pa), .val (.int pb), .val (.int (0 : Int32)), .val (.int (1 : Int32)), .unset, .unset, .unset, .unset, .unset] [(.ref r_INTEGER)]))) st5 ?_
      refine Goes.go (U' := (T5.setTop (mkF m 21 #[.val (.int pa), .val (.int pb), .val (.int (0 : Int32)), .val (.int (1 : Int32)), .val (.ref r_INTEGER), .unset, .unset, .unset, .unset] [(.int (1 : Int32))]))) (fun t kt => ?_) ?_
      · show Steps p.tables e below (T5.setTop (mkF m 18 #[.val (.int pa), .val (.int pb), .val (.int (0 : Int32)), .val (.int (1 : Int32)), .unset, .unset, .unset, .unset, .unset] [(.ref r_INTEGER)])) t
        refine XS.astore X5.here hx rfl (hb hby at_18) rfl rfl (l' := #[.val (.int pa), .val (.int pb), .val (.int (0 : Int32)), .val (.int (1 : Int32)), .val (.ref r_INTEGER), .unset, .unset, .unset, .unset]) rfl ?_
        show Steps p.tables e below (T5.setTop (mkF m 20 #[.val (.int pa), .val (.int pb), .val (.int (0 : Int32)), .val (.int (1 : Int32)), .val (.ref r_INTEGER), .unset, .unset, .unset, .unset] [])) t
        refine XS.iloadN X5.here hx rfl (hb hby at_20) rfl ?_
        exact kt
      obtain ⟨v6, T6, L6, X6, q6, st6⟩ := callStatic X5 hx hZ (y := (⟨"com/example/palimpsest/palimpsest/sql/ValueTypeFitsPinLaw", "pick", "(I)Lcom/example/palimpsest/palimpsest/sql/ValueType;"⟩ : MethodName)) (W := 0) hown (wdOf hw 1 rfl) (wdOf hw 2 rfl) (wdOf hw 3 rfl) (wdOf hw 4 rfl) (by decide) (rm_pick l Z a0 hw [] (1 : Int32) r_STRING r_INTEGER r_STRING r_NULL h0 n0 Z0 S_INTEGER S_STRING S_NULL (by simp)) (by decide) (by decide) (by decide) (by decide) K5 (g := (mkF m 21 #[.val (.int pa), .val (.int pb), .val (.int (0 : Int32)), .val (.int (1 : Int32)), .val (.ref r_INTEGER), .unset, .unset, .unset, .unset] [(.int (1 : Int32))])) rfl (by rw [hml]; rfl) (argsL := [(.int (1 : Int32))]) (rest := []) (lenOf pd_0 rfl) rfl rfl (Nat.le_refl _) (hb hby at_21)
      obtain ⟨rfl, n6, K6⟩ := q6
      have N6 := Fr.app N5 n6
      refine Goes.go (U' := (T6.setTop (mkF m 24 #[.val (.int pa), .val (.int pb), .val (.int (0 : Int32)), .val (.int (1 : Int32)), .val (.ref r_INTEGER), .unset, .unset, .unset, .unset] [(.ref r_STRING)]))) st6 ?_
      refine Goes.go (U' := (T6.setTop (mkF m 44 #[.val (.int pa), .val (.int pb), .val (.int (0 : Int32)), .val (.int (1 : Int32)), .val (.ref r_INTEGER), .val (.ref r_STRING), .val (.int (0 : Int32)), .unset, .unset] [(.ref r_STRING), (.ref r_INTEGER)]))) (fun t kt => ?_) ?_
      · show Steps p.tables e below (T6.setTop (mkF m 24 #[.val (.int pa), .val (.int pb), .val (.int (0 : Int32)), .val (.int (1 : Int32)), .val (.ref r_INTEGER), .unset, .unset, .unset, .unset] [(.ref r_STRING)])) t
        refine XS.astore X6.here hx rfl (hb hby at_24) rfl rfl (l' := #[.val (.int pa), .val (.int pb), .val (.int (0 : Int32)), .val (.int (1 : Int32)), .val (.ref r_INTEGER), .val (.ref r_STRING), .unset, .unset, .unset]) rfl ?_
        show Steps p.tables e below (T6.setTop (mkF m 26 #[.val (.int pa), .val (.int pb), .val (.int (0 : Int32)), .val (.int (1 : Int32)), .val (.ref r_INTEGER), .val (.ref r_STRING), .unset, .unset, .unset] [])) t
        refine XS.iloadN X6.here hx rfl (hb hby at_26) rfl ?_
        show Steps p.tables e below (T6.setTop (mkF m 27 #[.val (.int pa), .val (.int pb), .val (.int (0 : Int32)), .val (.int (1 : Int32)), .val (.ref r_INTEGER), .val (.ref r_STRING), .unset, .unset, .unset] [(.int (0 : Int32))])) t
        refine XS.iloadN X6.here hx rfl (hb hby at_27) rfl ?_
        show Steps p.tables e below (T6.setTop (mkF m 28 #[.val (.int pa), .val (.int pb), .val (.int (0 : Int32)), .val (.int (1 : Int32)), .val (.ref r_INTEGER), .val (.ref r_STRING), .unset, .unset, .unset] [(.int (1 : Int32)), (.int (0 : Int32))])) t
        refine XS.iadd X6.here hx rfl (hb hby at_28) rfl ?_
        show Steps p.tables e below (T6.setTop (mkF m 29 #[.val (.int pa), .val (.int pb), .val (.int (0 : Int32)), .val (.int (1 : Int32)), .val (.ref r_INTEGER), .val (.ref r_STRING), .unset, .unset, .unset] [(.int ((0 : Int32) + (1 : Int32)))])) t
        refine XS.iconst X6.here hx rfl (hb hby at_29) ?_
        show Steps p.tables e below (T6.setTop (mkF m 30 #[.val (.int pa), .val (.int pb), .val (.int (0 : Int32)), .val (.int (1 : Int32)), .val (.ref r_INTEGER), .val (.ref r_STRING), .unset, .unset, .unset] [(.int (1 : Int32)), (.int ((0 : Int32) + (1 : Int32)))])) t
        refine XS.icmpYes X6.here hx rfl (pc0 := 30) (pc' := 37) rfl (hb hby at_30) rfl (XT.ii_eq_t (by decide)) (by decide) (by decide) ?_
        show Steps p.tables e below (T6.setTop (mkF m 37 #[.val (.int pa), .val (.int pb), .val (.int (0 : Int32)), .val (.int (1 : Int32)), .val (.ref r_INTEGER), .val (.ref r_STRING), .unset, .unset, .unset] [])) t
        refine XS.iconst X6.here hx rfl (hb hby at_37) ?_
        show Steps p.tables e below (T6.setTop (mkF m 38 #[.val (.int pa), .val (.int pb), .val (.int (0 : Int32)), .val (.int (1 : Int32)), .val (.ref r_INTEGER), .val (.ref r_STRING), .unset, .unset, .unset] [(.int (0 : Int32))])) t
        refine XS.istore X6.here hx rfl (hb hby at_38) rfl (l' := #[.val (.int pa), .val (.int pb), .val (.int (0 : Int32)), .val (.int (1 : Int32)), .val (.ref r_INTEGER), .val (.ref r_STRING), .val (.int (0 : Int32)), .unset, .unset]) rfl ?_
        show Steps p.tables e below (T6.setTop (mkF m 40 #[.val (.int pa), .val (.int pb), .val (.int (0 : Int32)), .val (.int (1 : Int32)), .val (.ref r_INTEGER), .val (.ref r_STRING), .val (.int (0 : Int32)), .unset, .unset] [])) t
        refine XS.aload X6.here hx rfl (hb hby at_40) rfl rfl ?_
        show Steps p.tables e below (T6.setTop (mkF m 42 #[.val (.int pa), .val (.int pb), .val (.int (0 : Int32)), .val (.int (1 : Int32)), .val (.ref r_INTEGER), .val (.ref r_STRING), .val (.int (0 : Int32)), .unset, .unset] [(.ref r_INTEGER)])) t
        refine XS.aload X6.here hx rfl (hb hby at_42) rfl rfl ?_
        exact kt
      obtain ⟨v7, T7, L7, X7, q7, st7⟩ := callVirtual X6 hx hZ (y := (⟨"com/example/palimpsest/palimpsest/sql/ValueType", "fits", "(Lcom/example/palimpsest/palimpsest/sql/ValueType;)Z"⟩ : MethodName)) (z := (⟨"com/example/palimpsest/palimpsest/sql/ValueType", "fits", "(Lcom/example/palimpsest/palimpsest/sql/ValueType;)Z"⟩ : MethodName)) (W := 0) hown (wdOf hw 8 rfl) (wdOf hw 9 rfl) (notFace_of_selects (args := #[]) (mvT hZ (wdOf hw 11 rfl))) (wdOf hw 11 rfl) (wdOf hw 10 rfl) (wdOf hw 6 rfl) (wdOf hw 12 rfl) (by decide) (rm_fits l Z a0 hw [] r_INTEGER r_STRING r_NULL (0 : Int32) h0 n0 Z0 S_NULL (by simp [ne_0_1, ne_0_2, ne_1_2])) (by decide) (by decide) (by decide) (by decide) K6 E_INTEGER (g := (mkF m 44 #[.val (.int pa), .val (.int pb), .val (.int (0 : Int32)), .val (.int (1 : Int32)), .val (.ref r_INTEGER), .val (.ref r_STRING), .val (.int (0 : Int32)), .unset, .unset] [(.ref r_STRING), (.ref r_INTEGER)])) rfl (by rw [hml]; rfl) (argsL := [(.ref r_STRING)]) (rest := []) (lenOf pd_1 rfl) rfl rfl (Nat.le_refl _) (hb hby at_44)
      obtain ⟨rfl, n7, K7⟩ := q7
      have N7 := Fr.app N6 n7
      refine Goes.go (U' := (T7.setTop (mkF m 47 #[.val (.int pa), .val (.int pb), .val (.int (0 : Int32)), .val (.int (1 : Int32)), .val (.ref r_INTEGER), .val (.ref r_STRING), .val (.int (0 : Int32)), .unset, .unset] [(.int (0 : Int32))]))) st7 ?_
      refine Goes.go (U' := (T7.setTop (mkF m 53 #[.val (.int pa), .val (.int pb), .val (.int (0 : Int32)), .val (.int (1 : Int32)), .val (.ref r_INTEGER), .val (.ref r_STRING), .val (.int (0 : Int32)), .val (.int (0 : Int32)), .unset] [(.ref r_INTEGER), (.ref r_STRING)]))) (fun t kt => ?_) ?_
      · show Steps p.tables e below (T7.setTop (mkF m 47 #[.val (.int pa), .val (.int pb), .val (.int (0 : Int32)), .val (.int (1 : Int32)), .val (.ref r_INTEGER), .val (.ref r_STRING), .val (.int (0 : Int32)), .unset, .unset] [(.int (0 : Int32))])) t
        refine XS.istore X7.here hx rfl (hb hby at_47) rfl (l' := #[.val (.int pa), .val (.int pb), .val (.int (0 : Int32)), .val (.int (1 : Int32)), .val (.ref r_INTEGER), .val (.ref r_STRING), .val (.int (0 : Int32)), .val (.int (0 : Int32)), .unset]) rfl ?_
        show Steps p.tables e below (T7.setTop (mkF m 49 #[.val (.int pa), .val (.int pb), .val (.int (0 : Int32)), .val (.int (1 : Int32)), .val (.ref r_INTEGER), .val (.ref r_STRING), .val (.int (0 : Int32)), .val (.int (0 : Int32)), .unset] [])) t
        refine XS.aload X7.here hx rfl (hb hby at_49) rfl rfl ?_
        show Steps p.tables e below (T7.setTop (mkF m 51 #[.val (.int pa), .val (.int pb), .val (.int (0 : Int32)), .val (.int (1 : Int32)), .val (.ref r_INTEGER), .val (.ref r_STRING), .val (.int (0 : Int32)), .val (.int (0 : Int32)), .unset] [(.ref r_STRING)])) t
        refine XS.aload X7.here hx rfl (hb hby at_51) rfl rfl ?_
        exact kt
      obtain ⟨v8, T8, L8, X8, q8, st8⟩ := callVirtual X7 hx hZ (y := (⟨"com/example/palimpsest/palimpsest/sql/ValueType", "fits", "(Lcom/example/palimpsest/palimpsest/sql/ValueType;)Z"⟩ : MethodName)) (z := (⟨"com/example/palimpsest/palimpsest/sql/ValueType", "fits", "(Lcom/example/palimpsest/palimpsest/sql/ValueType;)Z"⟩ : MethodName)) (W := 0) hown (wdOf hw 8 rfl) (wdOf hw 9 rfl) (notFace_of_selects (args := #[]) (mvT hZ (wdOf hw 11 rfl))) (wdOf hw 11 rfl) (wdOf hw 10 rfl) (wdOf hw 6 rfl) (wdOf hw 12 rfl) (by decide) (rm_fits l Z a0 hw [] r_STRING r_INTEGER r_NULL (0 : Int32) h0 n0 Z0 S_NULL (by simp [ne_1_0, ne_0_2, ne_1_2])) (by decide) (by decide) (by decide) (by decide) K7 E_STRING (g := (mkF m 53 #[.val (.int pa), .val (.int pb), .val (.int (0 : Int32)), .val (.int (1 : Int32)), .val (.ref r_INTEGER), .val (.ref r_STRING), .val (.int (0 : Int32)), .val (.int (0 : Int32)), .unset] [(.ref r_INTEGER), (.ref r_STRING)])) rfl (by rw [hml]; rfl) (argsL := [(.ref r_INTEGER)]) (rest := []) (lenOf pd_1 rfl) rfl rfl (Nat.le_refl _) (hb hby at_53)
      obtain ⟨rfl, n8, K8⟩ := q8
      have N8 := Fr.app N7 n8
      refine Goes.go (U' := (T8.setTop (mkF m 56 #[.val (.int pa), .val (.int pb), .val (.int (0 : Int32)), .val (.int (1 : Int32)), .val (.ref r_INTEGER), .val (.ref r_STRING), .val (.int (0 : Int32)), .val (.int (0 : Int32)), .unset] [(.int (0 : Int32))]))) st8 ?_
      refine Goes.go (U' := (T8.setTop (mkF m 77 #[.val (.int pa), .val (.int pb), .val (.int (0 : Int32)), .val (.int (1 : Int32)), .val (.ref r_INTEGER), .val (.ref r_STRING), .val (.int (0 : Int32)), .val (.int (0 : Int32)), .val (.int (0 : Int32))] [(.int (1 : Int32))]))) (fun t kt => ?_) ?_
      · show Steps p.tables e below (T8.setTop (mkF m 56 #[.val (.int pa), .val (.int pb), .val (.int (0 : Int32)), .val (.int (1 : Int32)), .val (.ref r_INTEGER), .val (.ref r_STRING), .val (.int (0 : Int32)), .val (.int (0 : Int32)), .unset] [(.int (0 : Int32))])) t
        refine XS.istore X8.here hx rfl (hb hby at_56) rfl (l' := #[.val (.int pa), .val (.int pb), .val (.int (0 : Int32)), .val (.int (1 : Int32)), .val (.ref r_INTEGER), .val (.ref r_STRING), .val (.int (0 : Int32)), .val (.int (0 : Int32)), .val (.int (0 : Int32))]) rfl ?_
        show Steps p.tables e below (T8.setTop (mkF m 58 #[.val (.int pa), .val (.int pb), .val (.int (0 : Int32)), .val (.int (1 : Int32)), .val (.ref r_INTEGER), .val (.ref r_STRING), .val (.int (0 : Int32)), .val (.int (0 : Int32)), .val (.int (0 : Int32))] [])) t
        refine XS.iload X8.here hx rfl (hb hby at_58) rfl ?_
        show Steps p.tables e below (T8.setTop (mkF m 60 #[.val (.int pa), .val (.int pb), .val (.int (0 : Int32)), .val (.int (1 : Int32)), .val (.ref r_INTEGER), .val (.ref r_STRING), .val (.int (0 : Int32)), .val (.int (0 : Int32)), .val (.int (0 : Int32))] [(.int (0 : Int32))])) t
        refine XS.iload X8.here hx rfl (hb hby at_60) rfl ?_
        show Steps p.tables e below (T8.setTop (mkF m 62 #[.val (.int pa), .val (.int pb), .val (.int (0 : Int32)), .val (.int (1 : Int32)), .val (.ref r_INTEGER), .val (.ref r_STRING), .val (.int (0 : Int32)), .val (.int (0 : Int32)), .val (.int (0 : Int32))] [(.int (0 : Int32)), (.int (0 : Int32))])) t
        refine XS.icmpNo X8.here hx rfl (hb hby at_62) rfl (XT.ii_ne_f (by decide)) ?_
        show Steps p.tables e below (T8.setTop (mkF m 65 #[.val (.int pa), .val (.int pb), .val (.int (0 : Int32)), .val (.int (1 : Int32)), .val (.ref r_INTEGER), .val (.ref r_STRING), .val (.int (0 : Int32)), .val (.int (0 : Int32)), .val (.int (0 : Int32))] [])) t
        refine XS.iload X8.here hx rfl (hb hby at_65) rfl ?_
        show Steps p.tables e below (T8.setTop (mkF m 67 #[.val (.int pa), .val (.int pb), .val (.int (0 : Int32)), .val (.int (1 : Int32)), .val (.ref r_INTEGER), .val (.ref r_STRING), .val (.int (0 : Int32)), .val (.int (0 : Int32)), .val (.int (0 : Int32))] [(.int (0 : Int32))])) t
        refine XS.iload X8.here hx rfl (hb hby at_67) rfl ?_
        show Steps p.tables e below (T8.setTop (mkF m 69 #[.val (.int pa), .val (.int pb), .val (.int (0 : Int32)), .val (.int (1 : Int32)), .val (.ref r_INTEGER), .val (.ref r_STRING), .val (.int (0 : Int32)), .val (.int (0 : Int32)), .val (.int (0 : Int32))] [(.int (0 : Int32)), (.int (0 : Int32))])) t
        refine XS.icmpNo X8.here hx rfl (hb hby at_69) rfl (XT.ii_ne_f (by decide)) ?_
        show Steps p.tables e below (T8.setTop (mkF m 72 #[.val (.int pa), .val (.int pb), .val (.int (0 : Int32)), .val (.int (1 : Int32)), .val (.ref r_INTEGER), .val (.ref r_STRING), .val (.int (0 : Int32)), .val (.int (0 : Int32)), .val (.int (0 : Int32))] [])) t
        refine XS.iconst X8.here hx rfl (hb hby at_72) ?_
        show Steps p.tables e below (T8.setTop (mkF m 73 #[.val (.int pa), .val (.int pb), .val (.int (0 : Int32)), .val (.int (1 : Int32)), .val (.ref r_INTEGER), .val (.ref r_STRING), .val (.int (0 : Int32)), .val (.int (0 : Int32)), .val (.int (0 : Int32))] [(.int (1 : Int32))])) t
        refine XS.goto X8.here hx rfl (pc0 := 73) (pc' := 77) rfl (hb hby at_73) (by decide) (by decide) ?_
        exact kt
      refine Goes.retB X8 hx hlk hret (hb hby at_77) (by decide) (by decide) ?_
      try rw [K8]
      exact ⟨rfl, N8⟩
    · -- case 2
      rw [hj]
      refine Goes.go (U' := (s₁.setTop (mkF m 15 #[.val (.int pa), .val (.int pb), .val (.int (0 : Int32)), .val (.int (2 : Int32)), .unset, .unset, .unset, .unset, .unset] [(.int (0 : Int32))]))) (fun t kt => ?_) ?_
      · show Steps p.tables e below (s₁.setTop (mkF m 13 #[.val (.int pa), .val (.int pb), .val (.int (0 : Int32)), .unset, .unset, .unset, .unset, .unset, .unset] [(.int (2 : Int32))])) t
        refine XS.istoreN X0.here hx rfl (hb hby at_13) rfl (l' := #[.val (.int pa), .val (.int pb), .val (.int (0 : Int32)), .val (.int (2 : Int32)), .unset, .unset, .unset, .unset, .unset]) rfl ?_
        show Steps p.tables e below (s₁.setTop (mkF m 14 #[.val (.int pa), .val (.int pb), .val (.int (0 : Int32)), .val (.int (2 : Int32)), .unset, .unset, .unset, .unset, .unset] [])) t
        refine XS.iloadN X0.here hx rfl (hb hby at_14) rfl ?_
        exact kt
      obtain ⟨v9, T9, L9, X9, q9, st9⟩ := callStatic X0 hx hZ (y := (⟨"com/example/palimpsest/palimpsest/sql/ValueTypeFitsPinLaw", "pick", "(I)Lcom/example/palimpsest/palimpsest/sql/ValueType;"⟩ : MethodName)) (W := 0) hown (wdOf hw 1 rfl) (wdOf hw 2 rfl) (wdOf hw 3 rfl) (wdOf hw 4 rfl) (by decide) (rm_pick l Z a0 hw [] (0 : Int32) r_INTEGER r_INTEGER r_STRING r_NULL h0 n0 Z0 S_INTEGER S_STRING S_NULL (by simp)) (by decide) (by decide) (by decide) (by decide) e0 (g := (mkF m 15 #[.val (.int pa), .val (.int pb), .val (.int (0 : Int32)), .val (.int (2 : Int32)), .unset, .unset, .unset, .unset, .unset] [(.int (0 : Int32))])) rfl (by rw [hml]; rfl) (argsL := [(.int (0 : Int32))]) (rest := []) (lenOf pd_0 rfl) rfl rfl (Nat.le_refl _) (hb hby at_15)
      obtain ⟨rfl, n9, K9⟩ := q9
      have N9 := Fr.app N0 n9
      refine Goes.go (U' := (T9.setTop (mkF m 18 #[.val (.int pa), .val (.int pb), .val (.int (0 : Int32)), .val (.int (2 : Int32)), .unset, .unset, .unset, .unset, .unset] [(.ref r_INTEGER)]))) st9 ?_
      refine Goes.go (U' := (T9.setTop (mkF m 21 #[.val (.int pa), .val (.int pb), .val (.int (0 : Int32)), .val (.int (2 : Int32)), .val (.ref r_INTEGER), .unset, .unset, .unset, .unset] [(.int (2 : Int32))]))) (fun t kt => ?_) ?_
      · show Steps p.tables e below (T9.setTop (mkF m 18 #[.val (.int pa), .val (.int pb), .val (.int (0 : Int32)), .val (.int (2 : Int32)), .unset, .unset, .unset, .unset, .unset] [(.ref r_INTEGER)])) t
        refine XS.astore X9.here hx rfl (hb hby at_18) rfl rfl (l' := #[.val (.int pa), .val (.int pb), .val (.int (0 : Int32)), .val (.int (2 : Int32)), .val (.ref r_INTEGER), .unset, .unset, .unset, .unset]) rfl ?_
        show Steps p.tables e below (T9.setTop (mkF m 20 #[.val (.int pa), .val (.int pb), .val (.int (0 : Int32)), .val (.int (2 : Int32)), .val (.ref r_INTEGER), .unset, .unset, .unset, .unset] [])) t
        refine XS.iloadN X9.here hx rfl (hb hby at_20) rfl ?_
        exact kt
      obtain ⟨v10, T10, L10, X10, q10, st10⟩ := callStatic X9 hx hZ (y := (⟨"com/example/palimpsest/palimpsest/sql/ValueTypeFitsPinLaw", "pick", "(I)Lcom/example/palimpsest/palimpsest/sql/ValueType;"⟩ : MethodName)) (W := 0) hown (wdOf hw 1 rfl) (wdOf hw 2 rfl) (wdOf hw 3 rfl) (wdOf hw 4 rfl) (by decide) (rm_pick l Z a0 hw [] (2 : Int32) r_NULL r_INTEGER r_STRING r_NULL h0 n0 Z0 S_INTEGER S_STRING S_NULL (by simp)) (by decide) (by decide) (by decide) (by decide) K9 (g := (mkF m 21 #[.val (.int pa), .val (.int pb), .val (.int (0 : Int32)), .val (.int (2 : Int32)), .val (.ref r_INTEGER), .unset, .unset, .unset, .unset] [(.int (2 : Int32))])) rfl (by rw [hml]; rfl) (argsL := [(.int (2 : Int32))]) (rest := []) (lenOf pd_0 rfl) rfl rfl (Nat.le_refl _) (hb hby at_21)
      obtain ⟨rfl, n10, K10⟩ := q10
      have N10 := Fr.app N9 n10
      refine Goes.go (U' := (T10.setTop (mkF m 24 #[.val (.int pa), .val (.int pb), .val (.int (0 : Int32)), .val (.int (2 : Int32)), .val (.ref r_INTEGER), .unset, .unset, .unset, .unset] [(.ref r_NULL)]))) st10 ?_
      refine Goes.go (U' := (T10.setTop (mkF m 44 #[.val (.int pa), .val (.int pb), .val (.int (0 : Int32)), .val (.int (2 : Int32)), .val (.ref r_INTEGER), .val (.ref r_NULL), .val (.int (1 : Int32)), .unset, .unset] [(.ref r_NULL), (.ref r_INTEGER)]))) (fun t kt => ?_) ?_
      · show Steps p.tables e below (T10.setTop (mkF m 24 #[.val (.int pa), .val (.int pb), .val (.int (0 : Int32)), .val (.int (2 : Int32)), .val (.ref r_INTEGER), .unset, .unset, .unset, .unset] [(.ref r_NULL)])) t
        refine XS.astore X10.here hx rfl (hb hby at_24) rfl rfl (l' := #[.val (.int pa), .val (.int pb), .val (.int (0 : Int32)), .val (.int (2 : Int32)), .val (.ref r_INTEGER), .val (.ref r_NULL), .unset, .unset, .unset]) rfl ?_
        show Steps p.tables e below (T10.setTop (mkF m 26 #[.val (.int pa), .val (.int pb), .val (.int (0 : Int32)), .val (.int (2 : Int32)), .val (.ref r_INTEGER), .val (.ref r_NULL), .unset, .unset, .unset] [])) t
        refine XS.iloadN X10.here hx rfl (hb hby at_26) rfl ?_
        show Steps p.tables e below (T10.setTop (mkF m 27 #[.val (.int pa), .val (.int pb), .val (.int (0 : Int32)), .val (.int (2 : Int32)), .val (.ref r_INTEGER), .val (.ref r_NULL), .unset, .unset, .unset] [(.int (0 : Int32))])) t
        refine XS.iloadN X10.here hx rfl (hb hby at_27) rfl ?_
        show Steps p.tables e below (T10.setTop (mkF m 28 #[.val (.int pa), .val (.int pb), .val (.int (0 : Int32)), .val (.int (2 : Int32)), .val (.ref r_INTEGER), .val (.ref r_NULL), .unset, .unset, .unset] [(.int (2 : Int32)), (.int (0 : Int32))])) t
        refine XS.iadd X10.here hx rfl (hb hby at_28) rfl ?_
        show Steps p.tables e below (T10.setTop (mkF m 29 #[.val (.int pa), .val (.int pb), .val (.int (0 : Int32)), .val (.int (2 : Int32)), .val (.ref r_INTEGER), .val (.ref r_NULL), .unset, .unset, .unset] [(.int ((0 : Int32) + (2 : Int32)))])) t
        refine XS.iconst X10.here hx rfl (hb hby at_29) ?_
        show Steps p.tables e below (T10.setTop (mkF m 30 #[.val (.int pa), .val (.int pb), .val (.int (0 : Int32)), .val (.int (2 : Int32)), .val (.ref r_INTEGER), .val (.ref r_NULL), .unset, .unset, .unset] [(.int (1 : Int32)), (.int ((0 : Int32) + (2 : Int32)))])) t
        refine XS.icmpNo X10.here hx rfl (hb hby at_30) rfl (XT.ii_eq_f (by decide)) ?_
        show Steps p.tables e below (T10.setTop (mkF m 33 #[.val (.int pa), .val (.int pb), .val (.int (0 : Int32)), .val (.int (2 : Int32)), .val (.ref r_INTEGER), .val (.ref r_NULL), .unset, .unset, .unset] [])) t
        refine XS.iconst X10.here hx rfl (hb hby at_33) ?_
        show Steps p.tables e below (T10.setTop (mkF m 34 #[.val (.int pa), .val (.int pb), .val (.int (0 : Int32)), .val (.int (2 : Int32)), .val (.ref r_INTEGER), .val (.ref r_NULL), .unset, .unset, .unset] [(.int (1 : Int32))])) t
        refine XS.goto X10.here hx rfl (pc0 := 34) (pc' := 38) rfl (hb hby at_34) (by decide) (by decide) ?_
        show Steps p.tables e below (T10.setTop (mkF m 38 #[.val (.int pa), .val (.int pb), .val (.int (0 : Int32)), .val (.int (2 : Int32)), .val (.ref r_INTEGER), .val (.ref r_NULL), .unset, .unset, .unset] [(.int (1 : Int32))])) t
        refine XS.istore X10.here hx rfl (hb hby at_38) rfl (l' := #[.val (.int pa), .val (.int pb), .val (.int (0 : Int32)), .val (.int (2 : Int32)), .val (.ref r_INTEGER), .val (.ref r_NULL), .val (.int (1 : Int32)), .unset, .unset]) rfl ?_
        show Steps p.tables e below (T10.setTop (mkF m 40 #[.val (.int pa), .val (.int pb), .val (.int (0 : Int32)), .val (.int (2 : Int32)), .val (.ref r_INTEGER), .val (.ref r_NULL), .val (.int (1 : Int32)), .unset, .unset] [])) t
        refine XS.aload X10.here hx rfl (hb hby at_40) rfl rfl ?_
        show Steps p.tables e below (T10.setTop (mkF m 42 #[.val (.int pa), .val (.int pb), .val (.int (0 : Int32)), .val (.int (2 : Int32)), .val (.ref r_INTEGER), .val (.ref r_NULL), .val (.int (1 : Int32)), .unset, .unset] [(.ref r_INTEGER)])) t
        refine XS.aload X10.here hx rfl (hb hby at_42) rfl rfl ?_
        exact kt
      obtain ⟨v11, T11, L11, X11, q11, st11⟩ := callVirtual X10 hx hZ (y := (⟨"com/example/palimpsest/palimpsest/sql/ValueType", "fits", "(Lcom/example/palimpsest/palimpsest/sql/ValueType;)Z"⟩ : MethodName)) (z := (⟨"com/example/palimpsest/palimpsest/sql/ValueType", "fits", "(Lcom/example/palimpsest/palimpsest/sql/ValueType;)Z"⟩ : MethodName)) (W := 0) hown (wdOf hw 8 rfl) (wdOf hw 9 rfl) (notFace_of_selects (args := #[]) (mvT hZ (wdOf hw 11 rfl))) (wdOf hw 11 rfl) (wdOf hw 10 rfl) (wdOf hw 6 rfl) (wdOf hw 12 rfl) (by decide) (rm_fits l Z a0 hw [] r_INTEGER r_NULL r_NULL (1 : Int32) h0 n0 Z0 S_NULL (by simp [])) (by decide) (by decide) (by decide) (by decide) K10 E_INTEGER (g := (mkF m 44 #[.val (.int pa), .val (.int pb), .val (.int (0 : Int32)), .val (.int (2 : Int32)), .val (.ref r_INTEGER), .val (.ref r_NULL), .val (.int (1 : Int32)), .unset, .unset] [(.ref r_NULL), (.ref r_INTEGER)])) rfl (by rw [hml]; rfl) (argsL := [(.ref r_NULL)]) (rest := []) (lenOf pd_1 rfl) rfl rfl (Nat.le_refl _) (hb hby at_44)
      obtain ⟨rfl, n11, K11⟩ := q11
      have N11 := Fr.app N10 n11
      refine Goes.go (U' := (T11.setTop (mkF m 47 #[.val (.int pa), .val (.int pb), .val (.int (0 : Int32)), .val (.int (2 : Int32)), .val (.ref r_INTEGER), .val (.ref r_NULL), .val (.int (1 : Int32)), .unset, .unset] [(.int (1 : Int32))]))) st11 ?_
      refine Goes.go (U' := (T11.setTop (mkF m 53 #[.val (.int pa), .val (.int pb), .val (.int (0 : Int32)), .val (.int (2 : Int32)), .val (.ref r_INTEGER), .val (.ref r_NULL), .val (.int (1 : Int32)), .val (.int (1 : Int32)), .unset] [(.ref r_INTEGER), (.ref r_NULL)]))) (fun t kt => ?_) ?_
      · show Steps p.tables e below (T11.setTop (mkF m 47 #[.val (.int pa), .val (.int pb), .val (.int (0 : Int32)), .val (.int (2 : Int32)), .val (.ref r_INTEGER), .val (.ref r_NULL), .val (.int (1 : Int32)), .unset, .unset] [(.int (1 : Int32))])) t
        refine XS.istore X11.here hx rfl (hb hby at_47) rfl (l' := #[.val (.int pa), .val (.int pb), .val (.int (0 : Int32)), .val (.int (2 : Int32)), .val (.ref r_INTEGER), .val (.ref r_NULL), .val (.int (1 : Int32)), .val (.int (1 : Int32)), .unset]) rfl ?_
        show Steps p.tables e below (T11.setTop (mkF m 49 #[.val (.int pa), .val (.int pb), .val (.int (0 : Int32)), .val (.int (2 : Int32)), .val (.ref r_INTEGER), .val (.ref r_NULL), .val (.int (1 : Int32)), .val (.int (1 : Int32)), .unset] [])) t
        refine XS.aload X11.here hx rfl (hb hby at_49) rfl rfl ?_
        show Steps p.tables e below (T11.setTop (mkF m 51 #[.val (.int pa), .val (.int pb), .val (.int (0 : Int32)), .val (.int (2 : Int32)), .val (.ref r_INTEGER), .val (.ref r_NULL), .val (.int (1 : Int32)), .val (.int (1 : Int32)), .unset] [(.ref r_NULL)])) t
        refine XS.aload X11.here hx rfl (hb hby at_51) rfl rfl ?_
        exact kt
      obtain ⟨v12, T12, L12, X12, q12, st12⟩ := callVirtual X11 hx hZ (y := (⟨"com/example/palimpsest/palimpsest/sql/ValueType", "fits", "(Lcom/example/palimpsest/palimpsest/sql/ValueType;)Z"⟩ : MethodName)) (z := (⟨"com/example/palimpsest/palimpsest/sql/ValueType", "fits", "(Lcom/example/palimpsest/palimpsest/sql/ValueType;)Z"⟩ : MethodName)) (W := 0) hown (wdOf hw 8 rfl) (wdOf hw 9 rfl) (notFace_of_selects (args := #[]) (mvT hZ (wdOf hw 11 rfl))) (wdOf hw 11 rfl) (wdOf hw 10 rfl) (wdOf hw 6 rfl) (wdOf hw 12 rfl) (by decide) (rm_fits l Z a0 hw [] r_NULL r_INTEGER r_NULL (1 : Int32) h0 n0 Z0 S_NULL (by simp [])) (by decide) (by decide) (by decide) (by decide) K11 E_NULL (g := (mkF m 53 #[.val (.int pa), .val (.int pb), .val (.int (0 : Int32)), .val (.int (2 : Int32)), .val (.ref r_INTEGER), .val (.ref r_NULL), .val (.int (1 : Int32)), .val (.int (1 : Int32)), .unset] [(.ref r_INTEGER), (.ref r_NULL)])) rfl (by rw [hml]; rfl) (argsL := [(.ref r_INTEGER)]) (rest := []) (lenOf pd_1 rfl) rfl rfl (Nat.le_refl _) (hb hby at_53)
      obtain ⟨rfl, n12, K12⟩ := q12
      have N12 := Fr.app N11 n12
      refine Goes.go (U' := (T12.setTop (mkF m 56 #[.val (.int pa), .val (.int pb), .val (.int (0 : Int32)), .val (.int (2 : Int32)), .val (.ref r_INTEGER), .val (.ref r_NULL), .val (.int (1 : Int32)), .val (.int (1 : Int32)), .unset] [(.int (1 : Int32))]))) st12 ?_
      refine Goes.go (U' := (T12.setTop (mkF m 77 #[.val (.int pa), .val (.int pb), .val (.int (0 : Int32)), .val (.int (2 : Int32)), .val (.ref r_INTEGER), .val (.ref r_NULL), .val (.int (1 : Int32)), .val (.int (1 : Int32)), .val (.int (1 : Int32))] [(.int (1 : Int32))]))) (fun t kt => ?_) ?_
      · show Steps p.tables e below (T12.setTop (mkF m 56 #[.val (.int pa), .val (.int pb), .val (.int (0 : Int32)), .val (.int (2 : Int32)), .val (.ref r_INTEGER), .val (.ref r_NULL), .val (.int (1 : Int32)), .val (.int (1 : Int32)), .unset] [(.int (1 : Int32))])) t
        refine XS.istore X12.here hx rfl (hb hby at_56) rfl (l' := #[.val (.int pa), .val (.int pb), .val (.int (0 : Int32)), .val (.int (2 : Int32)), .val (.ref r_INTEGER), .val (.ref r_NULL), .val (.int (1 : Int32)), .val (.int (1 : Int32)), .val (.int (1 : Int32))]) rfl ?_
        show Steps p.tables e below (T12.setTop (mkF m 58 #[.val (.int pa), .val (.int pb), .val (.int (0 : Int32)), .val (.int (2 : Int32)), .val (.ref r_INTEGER), .val (.ref r_NULL), .val (.int (1 : Int32)), .val (.int (1 : Int32)), .val (.int (1 : Int32))] [])) t
        refine XS.iload X12.here hx rfl (hb hby at_58) rfl ?_
        show Steps p.tables e below (T12.setTop (mkF m 60 #[.val (.int pa), .val (.int pb), .val (.int (0 : Int32)), .val (.int (2 : Int32)), .val (.ref r_INTEGER), .val (.ref r_NULL), .val (.int (1 : Int32)), .val (.int (1 : Int32)), .val (.int (1 : Int32))] [(.int (1 : Int32))])) t
        refine XS.iload X12.here hx rfl (hb hby at_60) rfl ?_
        show Steps p.tables e below (T12.setTop (mkF m 62 #[.val (.int pa), .val (.int pb), .val (.int (0 : Int32)), .val (.int (2 : Int32)), .val (.ref r_INTEGER), .val (.ref r_NULL), .val (.int (1 : Int32)), .val (.int (1 : Int32)), .val (.int (1 : Int32))] [(.int (1 : Int32)), (.int (1 : Int32))])) t
        refine XS.icmpNo X12.here hx rfl (hb hby at_62) rfl (XT.ii_ne_f (by decide)) ?_
        show Steps p.tables e below (T12.setTop (mkF m 65 #[.val (.int pa), .val (.int pb), .val (.int (0 : Int32)), .val (.int (2 : Int32)), .val (.ref r_INTEGER), .val (.ref r_NULL), .val (.int (1 : Int32)), .val (.int (1 : Int32)), .val (.int (1 : Int32))] [])) t
        refine XS.iload X12.here hx rfl (hb hby at_65) rfl ?_
        show Steps p.tables e below (T12.setTop (mkF m 67 #[.val (.int pa), .val (.int pb), .val (.int (0 : Int32)), .val (.int (2 : Int32)), .val (.ref r_INTEGER), .val (.ref r_NULL), .val (.int (1 : Int32)), .val (.int (1 : Int32)), .val (.int (1 : Int32))] [(.int (1 : Int32))])) t
        refine XS.iload X12.here hx rfl (hb hby at_67) rfl ?_
        show Steps p.tables e below (T12.setTop (mkF m 69 #[.val (.int pa), .val (.int pb), .val (.int (0 : Int32)), .val (.int (2 : Int32)), .val (.ref r_INTEGER), .val (.ref r_NULL), .val (.int (1 : Int32)), .val (.int (1 : Int32)), .val (.int (1 : Int32))] [(.int (1 : Int32)), (.int (1 : Int32))])) t
        refine XS.icmpNo X12.here hx rfl (hb hby at_69) rfl (XT.ii_ne_f (by decide)) ?_
        show Steps p.tables e below (T12.setTop (mkF m 72 #[.val (.int pa), .val (.int pb), .val (.int (0 : Int32)), .val (.int (2 : Int32)), .val (.ref r_INTEGER), .val (.ref r_NULL), .val (.int (1 : Int32)), .val (.int (1 : Int32)), .val (.int (1 : Int32))] [])) t
        refine XS.iconst X12.here hx rfl (hb hby at_72) ?_
        show Steps p.tables e below (T12.setTop (mkF m 73 #[.val (.int pa), .val (.int pb), .val (.int (0 : Int32)), .val (.int (2 : Int32)), .val (.ref r_INTEGER), .val (.ref r_NULL), .val (.int (1 : Int32)), .val (.int (1 : Int32)), .val (.int (1 : Int32))] [(.int (1 : Int32))])) t
        refine XS.goto X12.here hx rfl (pc0 := 73) (pc' := 77) rfl (hb hby at_73) (by decide) (by decide) ?_
        exact kt
      refine Goes.retB X12 hx hlk hret (hb hby at_77) (by decide) (by decide) ?_
      try rw [K12]
      exact ⟨rfl, N12⟩
  · -- case 1
    rw [hi]
    refine Goes.go (U' := (s₁.setTop (mkF m 13 #[.val (.int pa), .val (.int pb), .val (.int (1 : Int32)), .unset, .unset, .unset, .unset, .unset, .unset] [(.int ((pb &&& (2147483647 : Int32)) % (3 : Int32)))]))) (fun t kt => ?_) ?_
    · show Steps p.tables e below (s₁.setTop (mkF m 6 #[.val (.int pa), .val (.int pb), .unset, .unset, .unset, .unset, .unset, .unset, .unset] [(.int (1 : Int32))])) t
      refine XS.istoreN X0.here hx rfl (hb hby at_6) rfl (l' := #[.val (.int pa), .val (.int pb), .val (.int (1 : Int32)), .unset, .unset, .unset, .unset, .unset, .unset]) rfl ?_
      show Steps p.tables e below (s₁.setTop (mkF m 7 #[.val (.int pa), .val (.int pb), .val (.int (1 : Int32)), .unset, .unset, .unset, .unset, .unset, .unset] [])) t
      refine XS.iloadN X0.here hx rfl (hb hby at_7) rfl ?_
      show Steps p.tables e below (s₁.setTop (mkF m 8 #[.val (.int pa), .val (.int pb), .val (.int (1 : Int32)), .unset, .unset, .unset, .unset, .unset, .unset] [(.int pb)])) t
      refine Jvm.Stand.ldcI X0 hx hown (mvT hZ (wdOf hw 0 rfl)) rfl (hb hby at_8) ?_
      show Steps p.tables e below (s₁.setTop (mkF m 10 #[.val (.int pa), .val (.int pb), .val (.int (1 : Int32)), .unset, .unset, .unset, .unset, .unset, .unset] [(.int (2147483647 : Int32)), (.int pb)])) t
      refine XS.iand X0.here hx rfl (hb hby at_10) rfl ?_
      show Steps p.tables e below (s₁.setTop (mkF m 11 #[.val (.int pa), .val (.int pb), .val (.int (1 : Int32)), .unset, .unset, .unset, .unset, .unset, .unset] [(.int (pb &&& (2147483647 : Int32)))])) t
      refine XS.iconst X0.here hx rfl (hb hby at_11) ?_
      show Steps p.tables e below (s₁.setTop (mkF m 12 #[.val (.int pa), .val (.int pb), .val (.int (1 : Int32)), .unset, .unset, .unset, .unset, .unset, .unset] [(.int (3 : Int32)), (.int (pb &&& (2147483647 : Int32)))])) t
      refine iremM X0 hx rfl (hb hby at_12) rfl (by decide) ?_
      exact kt
    rcases own_mod pb with hj | hj | hj
    · -- case 0
      rw [hj]
      refine Goes.go (U' := (s₁.setTop (mkF m 15 #[.val (.int pa), .val (.int pb), .val (.int (1 : Int32)), .val (.int (0 : Int32)), .unset, .unset, .unset, .unset, .unset] [(.int (1 : Int32))]))) (fun t kt => ?_) ?_
      · show Steps p.tables e below (s₁.setTop (mkF m 13 #[.val (.int pa), .val (.int pb), .val (.int (1 : Int32)), .unset, .unset, .unset, .unset, .unset, .unset] [(.int (0 : Int32))])) t
        refine XS.istoreN X0.here hx rfl (hb hby at_13) rfl (l' := #[.val (.int pa), .val (.int pb), .val (.int (1 : Int32)), .val (.int (0 : Int32)), .unset, .unset, .unset, .unset, .unset]) rfl ?_
        show Steps p.tables e below (s₁.setTop (mkF m 14 #[.val (.int pa), .val (.int pb), .val (.int (1 : Int32)), .val (.int (0 : Int32)), .unset, .unset, .unset, .unset, .unset] [])) t
        refine XS.iloadN X0.here hx rfl (hb hby at_14) rfl ?_
        exact kt
      obtain ⟨v13, T13, L13, X13, q13, st13⟩ := callStatic X0 hx hZ (y := (⟨"com/example/palimpsest/palimpsest/sql/ValueTypeFitsPinLaw", "pick", "(I)Lcom/example/palimpsest/palimpsest/sql/ValueType;"⟩ : MethodName)) (W := 0) hown (wdOf hw 1 rfl) (wdOf hw 2 rfl) (wdOf hw 3 rfl) (wdOf hw 4 rfl) (by decide) (rm_pick l Z a0 hw [] (1 : Int32) r_STRING r_INTEGER r_STRING r_NULL h0 n0 Z0 S_INTEGER S_STRING S_NULL (by simp)) (by decide) (by decide) (by decide) (by decide) e0 (g := (mkF m 15 #[.val (.int pa), .val (.int pb), .val (.int (1 : Int32)), .val (.int (0 : Int32)), .unset, .unset, .unset, .unset, .unset] [(.int (1 : Int32))])) rfl (by rw [hml]; rfl) (argsL := [(.int (1 : Int32))]) (rest := []) (lenOf pd_0 rfl) rfl rfl (Nat.le_refl _) (hb hby at_15)
      obtain ⟨rfl, n13, K13⟩ := q13
      have N13 := Fr.app N0 n13
      refine Goes.go (U' := (T13.setTop (mkF m 18 #[.val (.int pa), .val (.int pb), .val (.int (1 : Int32)), .val (.int (0 : Int32)), .unset, .unset, .unset, .unset, .unset] [(.ref r_STRING)]))) st13 ?_
      refine Goes.go (U' := (T13.setTop (mkF m 21 #[.val (.int pa), .val (.int pb), .val (.int (1 : Int32)), .val (.int (0 : Int32)), .val (.ref r_STRING), .unset, .unset, .unset, .unset] [(.int (0 : Int32))]))) (fun t kt => ?_) ?_
      · show Steps p.tables e below (T13.setTop (mkF m 18 #[.val (.int pa), .val (.int pb), .val (.int (1 : Int32)), .val (.int (0 : Int32)), .unset, .unset, .unset, .unset, .unset] [(.ref r_STRING)])) t
        refine XS.astore X13.here hx rfl (hb hby at_18) rfl rfl (l' := #[.val (.int pa), .val (.int pb), .val (.int (1 : Int32)), .val (.int (0 : Int32)), .val (.ref r_STRING), .unset, .unset, .unset, .unset]) rfl ?_
        show Steps p.tables e below (T13.setTop (mkF m 20 #[.val (.int pa), .val (.int pb), .val (.int (1 : Int32)), .val (.int (0 : Int32)), .val (.ref r_STRING), .unset, .unset, .unset, .unset] [])) t
        refine XS.iloadN X13.here hx rfl (hb hby at_20) rfl ?_
        exact kt
      obtain ⟨v14, T14, L14, X14, q14, st14⟩ := callStatic X13 hx hZ (y := (⟨"com/example/palimpsest/palimpsest/sql/ValueTypeFitsPinLaw", "pick", "(I)Lcom/example/palimpsest/palimpsest/sql/ValueType;"⟩ : MethodName)) (W := 0) hown (wdOf hw 1 rfl) (wdOf hw 2 rfl) (wdOf hw 3 rfl) (wdOf hw 4 rfl) (by decide) (rm_pick l Z a0 hw [] (0 : Int32) r_INTEGER r_INTEGER r_STRING r_NULL h0 n0 Z0 S_INTEGER S_STRING S_NULL (by simp)) (by decide) (by decide) (by decide) (by decide) K13 (g := (mkF m 21 #[.val (.int pa), .val (.int pb), .val (.int (1 : Int32)), .val (.int (0 : Int32)), .val (.ref r_STRING), .unset, .unset, .unset, .unset] [(.int (0 : Int32))])) rfl (by rw [hml]; rfl) (argsL := [(.int (0 : Int32))]) (rest := []) (lenOf pd_0 rfl) rfl rfl (Nat.le_refl _) (hb hby at_21)
      obtain ⟨rfl, n14, K14⟩ := q14
      have N14 := Fr.app N13 n14
      refine Goes.go (U' := (T14.setTop (mkF m 24 #[.val (.int pa), .val (.int pb), .val (.int (1 : Int32)), .val (.int (0 : Int32)), .val (.ref r_STRING), .unset, .unset, .unset, .unset] [(.ref r_INTEGER)]))) st14 ?_
      refine Goes.go (U' := (T14.setTop (mkF m 44 #[.val (.int pa), .val (.int pb), .val (.int (1 : Int32)), .val (.int (0 : Int32)), .val (.ref r_STRING), .val (.ref r_INTEGER), .val (.int (0 : Int32)), .unset, .unset] [(.ref r_INTEGER), (.ref r_STRING)]))) (fun t kt => ?_) ?_
      · show Steps p.tables e below (T14.setTop (mkF m 24 #[.val (.int pa), .val (.int pb), .val (.int (1 : Int32)), .val (.int (0 : Int32)), .val (.ref r_STRING), .unset, .unset, .unset, .unset] [(.ref r_INTEGER)])) t
        refine XS.astore X14.here hx rfl (hb hby at_24) rfl rfl (l' := #[.val (.int pa), .val (.int pb), .val (.int (1 : Int32)), .val (.int (0 : Int32)), .val (.ref r_STRING), .val (.ref r_INTEGER), .unset, .unset, .unset]) rfl ?_
        show Steps p.tables e below (T14.setTop (mkF m 26 #[.val (.int pa), .val (.int pb), .val (.int (1 : Int32)), .val (.int (0 : Int32)), .val (.ref r_STRING), .val (.ref r_INTEGER), .unset, .unset, .unset] [])) t
        refine XS.iloadN X14.here hx rfl (hb hby at_26) rfl ?_
        show Steps p.tables e below (T14.setTop (mkF m 27 #[.val (.int pa), .val (.int pb), .val (.int (1 : Int32)), .val (.int (0 : Int32)), .val (.ref r_STRING), .val (.ref r_INTEGER), .unset, .unset, .unset] [(.int (1 : Int32))])) t
        refine XS.iloadN X14.here hx rfl (hb hby at_27) rfl ?_
        show Steps p.tables e below (T14.setTop (mkF m 28 #[.val (.int pa), .val (.int pb), .val (.int (1 : Int32)), .val (.int (0 : Int32)), .val (.ref r_STRING), .val (.ref r_INTEGER), .unset, .unset, .unset] [(.int (0 : Int32)), (.int (1 : Int32))])) t
        refine XS.iadd X14.here hx rfl (hb hby at_28) rfl ?_
        show Steps p.tables e below (T14.setTop (mkF m 29 #[.val (.int pa), .val (.int pb), .val (.int (1 : Int32)), .val (.int (0 : Int32)), .val (.ref r_STRING), .val (.ref r_INTEGER), .unset, .unset, .unset] [(.int ((1 : Int32) + (0 : Int32)))])) t
        refine XS.iconst X14.here hx rfl (hb hby at_29) ?_
        show Steps p.tables e below (T14.setTop (mkF m 30 #[.val (.int pa), .val (.int pb), .val (.int (1 : Int32)), .val (.int (0 : Int32)), .val (.ref r_STRING), .val (.ref r_INTEGER), .unset, .unset, .unset] [(.int (1 : Int32)), (.int ((1 : Int32) + (0 : Int32)))])) t
        refine XS.icmpYes X14.here hx rfl (pc0 := 30) (pc' := 37) rfl (hb hby at_30) rfl (XT.ii_eq_t (by decide)) (by decide) (by decide) ?_
        show Steps p.tables e below (T14.setTop (mkF m 37 #[.val (.int pa), .val (.int pb), .val (.int (1 : Int32)), .val (.int (0 : Int32)), .val (.ref r_STRING), .val (.ref r_INTEGER), .unset, .unset, .unset] [])) t
        refine XS.iconst X14.here hx rfl (hb hby at_37) ?_
        show Steps p.tables e below (T14.setTop (mkF m 38 #[.val (.int pa), .val (.int pb), .val (.int (1 : Int32)), .val (.int (0 : Int32)), .val (.ref r_STRING), .val (.ref r_INTEGER), .unset, .unset, .unset] [(.int (0 : Int32))])) t
        refine XS.istore X14.here hx rfl (hb hby at_38) rfl (l' := #[.val (.int pa), .val (.int pb), .val (.int (1 : Int32)), .val (.int (0 : Int32)), .val (.ref r_STRING), .val (.ref r_INTEGER), .val (.int (0 : Int32)), .unset, .unset]) rfl ?_
        show Steps p.tables e below (T14.setTop (mkF m 40 #[.val (.int pa), .val (.int pb), .val (.int (1 : Int32)), .val (.int (0 : Int32)), .val (.ref r_STRING), .val (.ref r_INTEGER), .val (.int (0 : Int32)), .unset, .unset] [])) t
        refine XS.aload X14.here hx rfl (hb hby at_40) rfl rfl ?_
        show Steps p.tables e below (T14.setTop (mkF m 42 #[.val (.int pa), .val (.int pb), .val (.int (1 : Int32)), .val (.int (0 : Int32)), .val (.ref r_STRING), .val (.ref r_INTEGER), .val (.int (0 : Int32)), .unset, .unset] [(.ref r_STRING)])) t
        refine XS.aload X14.here hx rfl (hb hby at_42) rfl rfl ?_
        exact kt
      obtain ⟨v15, T15, L15, X15, q15, st15⟩ := callVirtual X14 hx hZ (y := (⟨"com/example/palimpsest/palimpsest/sql/ValueType", "fits", "(Lcom/example/palimpsest/palimpsest/sql/ValueType;)Z"⟩ : MethodName)) (z := (⟨"com/example/palimpsest/palimpsest/sql/ValueType", "fits", "(Lcom/example/palimpsest/palimpsest/sql/ValueType;)Z"⟩ : MethodName)) (W := 0) hown (wdOf hw 8 rfl) (wdOf hw 9 rfl) (notFace_of_selects (args := #[]) (mvT hZ (wdOf hw 11 rfl))) (wdOf hw 11 rfl) (wdOf hw 10 rfl) (wdOf hw 6 rfl) (wdOf hw 12 rfl) (by decide) (rm_fits l Z a0 hw [] r_STRING r_INTEGER r_NULL (0 : Int32) h0 n0 Z0 S_NULL (by simp [ne_1_0, ne_0_2, ne_1_2])) (by decide) (by decide) (by decide) (by decide) K14 E_STRING (g := (mkF m 44 #[.val (.int pa), .val (.int pb), .val (.int (1 : Int32)), .val (.int (0 : Int32)), .val (.ref r_STRING), .val (.ref r_INTEGER), .val (.int (0 : Int32)), .unset, .unset] [(.ref r_INTEGER), (.ref r_STRING)])) rfl (by rw [hml]; rfl) (argsL := [(.ref r_INTEGER)]) (rest := []) (lenOf pd_1 rfl) rfl rfl (Nat.le_refl _) (hb hby at_44)
      obtain ⟨rfl, n15, K15⟩ := q15
      have N15 := Fr.app N14 n15
      refine Goes.go (U' := (T15.setTop (mkF m 47 #[.val (.int pa), .val (.int pb), .val (.int (1 : Int32)), .val (.int (0 : Int32)), .val (.ref r_STRING), .val (.ref r_INTEGER), .val (.int (0 : Int32)), .unset, .unset] [(.int (0 : Int32))]))) st15 ?_
      refine Goes.go (U' := (T15.setTop (mkF m 53 #[.val (.int pa), .val (.int pb), .val (.int (1 : Int32)), .val (.int (0 : Int32)), .val (.ref r_STRING), .val (.ref r_INTEGER), .val (.int (0 : Int32)), .val (.int (0 : Int32)), .unset] [(.ref r_STRING), (.ref r_INTEGER)]))) (fun t kt => ?_) ?_
      · show Steps p.tables e below (T15.setTop (mkF m 47 #[.val (.int pa), .val (.int pb), .val (.int (1 : Int32)), .val (.int (0 : Int32)), .val (.ref r_STRING), .val (.ref r_INTEGER), .val (.int (0 : Int32)), .unset, .unset] [(.int (0 : Int32))])) t
        refine XS.istore X15.here hx rfl (hb hby at_47) rfl (l' := #[.val (.int pa), .val (.int pb), .val (.int (1 : Int32)), .val (.int (0 : Int32)), .val (.ref r_STRING), .val (.ref r_INTEGER), .val (.int (0 : Int32)), .val (.int (0 : Int32)), .unset]) rfl ?_
        show Steps p.tables e below (T15.setTop (mkF m 49 #[.val (.int pa), .val (.int pb), .val (.int (1 : Int32)), .val (.int (0 : Int32)), .val (.ref r_STRING), .val (.ref r_INTEGER), .val (.int (0 : Int32)), .val (.int (0 : Int32)), .unset] [])) t
        refine XS.aload X15.here hx rfl (hb hby at_49) rfl rfl ?_
        show Steps p.tables e below (T15.setTop (mkF m 51 #[.val (.int pa), .val (.int pb), .val (.int (1 : Int32)), .val (.int (0 : Int32)), .val (.ref r_STRING), .val (.ref r_INTEGER), .val (.int (0 : Int32)), .val (.int (0 : Int32)), .unset] [(.ref r_INTEGER)])) t
        refine XS.aload X15.here hx rfl (hb hby at_51) rfl rfl ?_
        exact kt
      obtain ⟨v16, T16, L16, X16, q16, st16⟩ := callVirtual X15 hx hZ (y := (⟨"com/example/palimpsest/palimpsest/sql/ValueType", "fits", "(Lcom/example/palimpsest/palimpsest/sql/ValueType;)Z"⟩ : MethodName)) (z := (⟨"com/example/palimpsest/palimpsest/sql/ValueType", "fits", "(Lcom/example/palimpsest/palimpsest/sql/ValueType;)Z"⟩ : MethodName)) (W := 0) hown (wdOf hw 8 rfl) (wdOf hw 9 rfl) (notFace_of_selects (args := #[]) (mvT hZ (wdOf hw 11 rfl))) (wdOf hw 11 rfl) (wdOf hw 10 rfl) (wdOf hw 6 rfl) (wdOf hw 12 rfl) (by decide) (rm_fits l Z a0 hw [] r_INTEGER r_STRING r_NULL (0 : Int32) h0 n0 Z0 S_NULL (by simp [ne_0_1, ne_0_2, ne_1_2])) (by decide) (by decide) (by decide) (by decide) K15 E_INTEGER (g := (mkF m 53 #[.val (.int pa), .val (.int pb), .val (.int (1 : Int32)), .val (.int (0 : Int32)), .val (.ref r_STRING), .val (.ref r_INTEGER), .val (.int (0 : Int32)), .val (.int (0 : Int32)), .unset] [(.ref r_STRING), (.ref r_INTEGER)])) rfl (by rw [hml]; rfl) (argsL := [(.ref r_STRING)]) (rest := []) (lenOf pd_1 rfl) rfl rfl (Nat.le_refl _) (hb hby at_53)
      obtain ⟨rfl, n16, K16⟩ := q16
      have N16 := Fr.app N15 n16
      refine Goes.go (U' := (T16.setTop (mkF m 56 #[.val (.int pa), .val (.int pb), .val (.int (1 : Int32)), .val (.int (0 : Int32)), .val (.ref r_STRING), .val (.ref r_INTEGER), .val (.int (0 : Int32)), .val (.int (0 : Int32)), .unset] [(.int (0 : Int32))]))) st16 ?_
      refine Goes.go (U' := (T16.setTop (mkF m 77 #[.val (.int pa), .val (.int pb), .val (.int (1 : Int32)), .val (.int (0 : Int32)), .val (.ref r_STRING), .val (.ref r_INTEGER), .val (.int (0 : Int32)), .val (.int (0 : Int32)), .val (.int (0 : Int32))] [(.int (1 : Int32))]))) (fun t kt => ?_) ?_
      · show Steps p.tables e below (T16.setTop (mkF m 56 #[.val (.int pa), .val (.int pb), .val (.int (1 : Int32)), .val (.int (0 : Int32)), .val (.ref r_STRING), .val (.ref r_INTEGER), .val (.int (0 : Int32)), .val (.int (0 : Int32)), .unset] [(.int (0 : Int32))])) t
        refine XS.istore X16.here hx rfl (hb hby at_56) rfl (l' := #[.val (.int pa), .val (.int pb), .val (.int (1 : Int32)), .val (.int (0 : Int32)), .val (.ref r_STRING), .val (.ref r_INTEGER), .val (.int (0 : Int32)), .val (.int (0 : Int32)), .val (.int (0 : Int32))]) rfl ?_
        show Steps p.tables e below (T16.setTop (mkF m 58 #[.val (.int pa), .val (.int pb), .val (.int (1 : Int32)), .val (.int (0 : Int32)), .val (.ref r_STRING), .val (.ref r_INTEGER), .val (.int (0 : Int32)), .val (.int (0 : Int32)), .val (.int (0 : Int32))] [])) t
        refine XS.iload X16.here hx rfl (hb hby at_58) rfl ?_
        show Steps p.tables e below (T16.setTop (mkF m 60 #[.val (.int pa), .val (.int pb), .val (.int (1 : Int32)), .val (.int (0 : Int32)), .val (.ref r_STRING), .val (.ref r_INTEGER), .val (.int (0 : Int32)), .val (.int (0 : Int32)), .val (.int (0 : Int32))] [(.int (0 : Int32))])) t
        refine XS.iload X16.here hx rfl (hb hby at_60) rfl ?_
        show Steps p.tables e below (T16.setTop (mkF m 62 #[.val (.int pa), .val (.int pb), .val (.int (1 : Int32)), .val (.int (0 : Int32)), .val (.ref r_STRING), .val (.ref r_INTEGER), .val (.int (0 : Int32)), .val (.int (0 : Int32)), .val (.int (0 : Int32))] [(.int (0 : Int32)), (.int (0 : Int32))])) t
        refine XS.icmpNo X16.here hx rfl (hb hby at_62) rfl (XT.ii_ne_f (by decide)) ?_
        show Steps p.tables e below (T16.setTop (mkF m 65 #[.val (.int pa), .val (.int pb), .val (.int (1 : Int32)), .val (.int (0 : Int32)), .val (.ref r_STRING), .val (.ref r_INTEGER), .val (.int (0 : Int32)), .val (.int (0 : Int32)), .val (.int (0 : Int32))] [])) t
        refine XS.iload X16.here hx rfl (hb hby at_65) rfl ?_
        show Steps p.tables e below (T16.setTop (mkF m 67 #[.val (.int pa), .val (.int pb), .val (.int (1 : Int32)), .val (.int (0 : Int32)), .val (.ref r_STRING), .val (.ref r_INTEGER), .val (.int (0 : Int32)), .val (.int (0 : Int32)), .val (.int (0 : Int32))] [(.int (0 : Int32))])) t
        refine XS.iload X16.here hx rfl (hb hby at_67) rfl ?_
        show Steps p.tables e below (T16.setTop (mkF m 69 #[.val (.int pa), .val (.int pb), .val (.int (1 : Int32)), .val (.int (0 : Int32)), .val (.ref r_STRING), .val (.ref r_INTEGER), .val (.int (0 : Int32)), .val (.int (0 : Int32)), .val (.int (0 : Int32))] [(.int (0 : Int32)), (.int (0 : Int32))])) t
        refine XS.icmpNo X16.here hx rfl (hb hby at_69) rfl (XT.ii_ne_f (by decide)) ?_
        show Steps p.tables e below (T16.setTop (mkF m 72 #[.val (.int pa), .val (.int pb), .val (.int (1 : Int32)), .val (.int (0 : Int32)), .val (.ref r_STRING), .val (.ref r_INTEGER), .val (.int (0 : Int32)), .val (.int (0 : Int32)), .val (.int (0 : Int32))] [])) t
        refine XS.iconst X16.here hx rfl (hb hby at_72) ?_
        show Steps p.tables e below (T16.setTop (mkF m 73 #[.val (.int pa), .val (.int pb), .val (.int (1 : Int32)), .val (.int (0 : Int32)), .val (.ref r_STRING), .val (.ref r_INTEGER), .val (.int (0 : Int32)), .val (.int (0 : Int32)), .val (.int (0 : Int32))] [(.int (1 : Int32))])) t
        refine XS.goto X16.here hx rfl (pc0 := 73) (pc' := 77) rfl (hb hby at_73) (by decide) (by decide) ?_
        exact kt
      refine Goes.retB X16 hx hlk hret (hb hby at_77) (by decide) (by decide) ?_
      try rw [K16]
      exact ⟨rfl, N16⟩
    · -- case 1
      rw [hj]
      refine Goes.go (U' := (s₁.setTop (mkF m 15 #[.val (.int pa), .val (.int pb), .val (.int (1 : Int32)), .val (.int (1 : Int32)), .unset, .unset, .unset, .unset, .unset] [(.int (1 : Int32))]))) (fun t kt => ?_) ?_
      · show Steps p.tables e below (s₁.setTop (mkF m 13 #[.val (.int pa), .val (.int pb), .val (.int (1 : Int32)), .unset, .unset, .unset, .unset, .unset, .unset] [(.int (1 : Int32))])) t
        refine XS.istoreN X0.here hx rfl (hb hby at_13) rfl (l' := #[.val (.int pa), .val (.int pb), .val (.int (1 : Int32)), .val (.int (1 : Int32)), .unset, .unset, .unset, .unset, .unset]) rfl ?_
        show Steps p.tables e below (s₁.setTop (mkF m 14 #[.val (.int pa), .val (.int pb), .val (.int (1 : Int32)), .val (.int (1 : Int32)), .unset, .unset, .unset, .unset, .unset] [])) t
        refine XS.iloadN X0.here hx rfl (hb hby at_14) rfl ?_
        exact kt
      obtain ⟨v17, T17, L17, X17, q17, st17⟩ := callStatic X0 hx hZ (y := (⟨"com/example/palimpsest/palimpsest/sql/ValueTypeFitsPinLaw", "pick", "(I)Lcom/example/palimpsest/palimpsest/sql/ValueType;"⟩ : MethodName)) (W := 0) hown (wdOf hw 1 rfl) (wdOf hw 2 rfl) (wdOf hw 3 rfl) (wdOf hw 4 rfl) (by decide) (rm_pick l Z a0 hw [] (1 : Int32) r_STRING r_INTEGER r_STRING r_NULL h0 n0 Z0 S_INTEGER S_STRING S_NULL (by simp)) (by decide) (by decide) (by decide) (by decide) e0 (g := (mkF m 15 #[.val (.int pa), .val (.int pb), .val (.int (1 : Int32)), .val (.int (1 : Int32)), .unset, .unset, .unset, .unset, .unset] [(.int (1 : Int32))])) rfl (by rw [hml]; rfl) (argsL := [(.int (1 : Int32))]) (rest := []) (lenOf pd_0 rfl) rfl rfl (Nat.le_refl _) (hb hby at_15)
      obtain ⟨rfl, n17, K17⟩ := q17
      have N17 := Fr.app N0 n17
      refine Goes.go (U' := (T17.setTop (mkF m 18 #[.val (.int pa), .val (.int pb), .val (.int (1 : Int32)), .val (.int (1 : Int32)), .unset, .unset, .unset, .unset, .unset] [(.ref r_STRING)]))) st17 ?_
      refine Goes.go (U' := (T17.setTop (mkF m 21 #[.val (.int pa), .val (.int pb), .val (.int (1 : Int32)), .val (.int (1 : Int32)), .val (.ref r_STRING), .unset, .unset, .unset, .unset] [(.int (1 : Int32))]))) (fun t kt => ?_) ?_
      · show Steps p.tables e below (T17.setTop (mkF m 18 #[.val (.int pa), .val (.int pb), .val (.int (1 : Int32)), .val (.int (1 : Int32)), .unset, .unset, .unset, .unset, .unset] [(.ref r_STRING)])) t
        refine XS.astore X17.here hx rfl (hb hby at_18) rfl rfl (l' := #[.val (.int pa), .val (.int pb), .val (.int (1 : Int32)), .val (.int (1 : Int32)), .val (.ref r_STRING), .unset, .unset, .unset, .unset]) rfl ?_
        show Steps p.tables e below (T17.setTop (mkF m 20 #[.val (.int pa), .val (.int pb), .val (.int (1 : Int32)), .val (.int (1 : Int32)), .val (.ref r_STRING), .unset, .unset, .unset, .unset] [])) t
        refine XS.iloadN X17.here hx rfl (hb hby at_20) rfl ?_
        exact kt
      obtain ⟨v18, T18, L18, X18, q18, st18⟩ := callStatic X17 hx hZ (y := (⟨"com/example/palimpsest/palimpsest/sql/ValueTypeFitsPinLaw", "pick", "(I)Lcom/example/palimpsest/palimpsest/sql/ValueType;"⟩ : MethodName)) (W := 0) hown (wdOf hw 1 rfl) (wdOf hw 2 rfl) (wdOf hw 3 rfl) (wdOf hw 4 rfl) (by decide) (rm_pick l Z a0 hw [] (1 : Int32) r_STRING r_INTEGER r_STRING r_NULL h0 n0 Z0 S_INTEGER S_STRING S_NULL (by simp)) (by decide) (by decide) (by decide) (by decide) K17 (g := (mkF m 21 #[.val (.int pa), .val (.int pb), .val (.int (1 : Int32)), .val (.int (1 : Int32)), .val (.ref r_STRING), .unset, .unset, .unset, .unset] [(.int (1 : Int32))])) rfl (by rw [hml]; rfl) (argsL := [(.int (1 : Int32))]) (rest := []) (lenOf pd_0 rfl) rfl rfl (Nat.le_refl _) (hb hby at_21)
      obtain ⟨rfl, n18, K18⟩ := q18
      have N18 := Fr.app N17 n18
      refine Goes.go (U' := (T18.setTop (mkF m 24 #[.val (.int pa), .val (.int pb), .val (.int (1 : Int32)), .val (.int (1 : Int32)), .val (.ref r_STRING), .unset, .unset, .unset, .unset] [(.ref r_STRING)]))) st18 ?_
      refine Goes.go (U' := (T18.setTop (mkF m 44 #[.val (.int pa), .val (.int pb), .val (.int (1 : Int32)), .val (.int (1 : Int32)), .val (.ref r_STRING), .val (.ref r_STRING), .val (.int (1 : Int32)), .unset, .unset] [(.ref r_STRING), (.ref r_STRING)]))) (fun t kt => ?_) ?_
      · show Steps p.tables e below (T18.setTop (mkF m 24 #[.val (.int pa), .val (.int pb), .val (.int (1 : Int32)), .val (.int (1 : Int32)), .val (.ref r_STRING), .unset, .unset, .unset, .unset] [(.ref r_STRING)])) t
        refine XS.astore X18.here hx rfl (hb hby at_24) rfl rfl (l' := #[.val (.int pa), .val (.int pb), .val (.int (1 : Int32)), .val (.int (1 : Int32)), .val (.ref r_STRING), .val (.ref r_STRING), .unset, .unset, .unset]) rfl ?_
        show Steps p.tables e below (T18.setTop (mkF m 26 #[.val (.int pa), .val (.int pb), .val (.int (1 : Int32)), .val (.int (1 : Int32)), .val (.ref r_STRING), .val (.ref r_STRING), .unset, .unset, .unset] [])) t
        refine XS.iloadN X18.here hx rfl (hb hby at_26) rfl ?_
        show Steps p.tables e below (T18.setTop (mkF m 27 #[.val (.int pa), .val (.int pb), .val (.int (1 : Int32)), .val (.int (1 : Int32)), .val (.ref r_STRING), .val (.ref r_STRING), .unset, .unset, .unset] [(.int (1 : Int32))])) t
        refine XS.iloadN X18.here hx rfl (hb hby at_27) rfl ?_
        show Steps p.tables e below (T18.setTop (mkF m 28 #[.val (.int pa), .val (.int pb), .val (.int (1 : Int32)), .val (.int (1 : Int32)), .val (.ref r_STRING), .val (.ref r_STRING), .unset, .unset, .unset] [(.int (1 : Int32)), (.int (1 : Int32))])) t
        refine XS.iadd X18.here hx rfl (hb hby at_28) rfl ?_
        show Steps p.tables e below (T18.setTop (mkF m 29 #[.val (.int pa), .val (.int pb), .val (.int (1 : Int32)), .val (.int (1 : Int32)), .val (.ref r_STRING), .val (.ref r_STRING), .unset, .unset, .unset] [(.int ((1 : Int32) + (1 : Int32)))])) t
        refine XS.iconst X18.here hx rfl (hb hby at_29) ?_
        show Steps p.tables e below (T18.setTop (mkF m 30 #[.val (.int pa), .val (.int pb), .val (.int (1 : Int32)), .val (.int (1 : Int32)), .val (.ref r_STRING), .val (.ref r_STRING), .unset, .unset, .unset] [(.int (1 : Int32)), (.int ((1 : Int32) + (1 : Int32)))])) t
        refine XS.icmpNo X18.here hx rfl (hb hby at_30) rfl (XT.ii_eq_f (by decide)) ?_
        show Steps p.tables e below (T18.setTop (mkF m 33 #[.val (.int pa), .val (.int pb), .val (.int (1 : Int32)), .val (.int (1 : Int32)), .val (.ref r_STRING), .val (.ref r_STRING), .unset, .unset, .unset] [])) t
        refine XS.iconst X18.here hx rfl (hb hby at_33) ?_
        show Steps p.tables e below (T18.setTop (mkF m 34 #[.val (.int pa), .val (.int pb), .val (.int (1 : Int32)), .val (.int (1 : Int32)), .val (.ref r_STRING), .val (.ref r_STRING), .unset, .unset, .unset] [(.int (1 : Int32))])) t
        refine XS.goto X18.here hx rfl (pc0 := 34) (pc' := 38) rfl (hb hby at_34) (by decide) (by decide) ?_
        show Steps p.tables e below (T18.setTop (mkF m 38 #[.val (.int pa), .val (.int pb), .val (.int (1 : Int32)), .val (.int (1 : Int32)), .val (.ref r_STRING), .val (.ref r_STRING), .unset, .unset, .unset] [(.int (1 : Int32))])) t
        refine XS.istore X18.here hx rfl (hb hby at_38) rfl (l' := #[.val (.int pa), .val (.int pb), .val (.int (1 : Int32)), .val (.int (1 : Int32)), .val (.ref r_STRING), .val (.ref r_STRING), .val (.int (1 : Int32)), .unset, .unset]) rfl ?_
        show Steps p.tables e below (T18.setTop (mkF m 40 #[.val (.int pa), .val (.int pb), .val (.int (1 : Int32)), .val (.int (1 : Int32)), .val (.ref r_STRING), .val (.ref r_STRING), .val (.int (1 : Int32)), .unset, .unset] [])) t
        refine XS.aload X18.here hx rfl (hb hby at_40) rfl rfl ?_
        show Steps p.tables e below (T18.setTop (mkF m 42 #[.val (.int pa), .val (.int pb), .val (.int (1 : Int32)), .val (.int (1 : Int32)), .val (.ref r_STRING), .val (.ref r_STRING), .val (.int (1 : Int32)), .unset, .unset] [(.ref r_STRING)])) t
        refine XS.aload X18.here hx rfl (hb hby at_42) rfl rfl ?_
        exact kt
      obtain ⟨v19, T19, L19, X19, q19, st19⟩ := callVirtual X18 hx hZ (y := (⟨"com/example/palimpsest/palimpsest/sql/ValueType", "fits", "(Lcom/example/palimpsest/palimpsest/sql/ValueType;)Z"⟩ : MethodName)) (z := (⟨"com/example/palimpsest/palimpsest/sql/ValueType", "fits", "(Lcom/example/palimpsest/palimpsest/sql/ValueType;)Z"⟩ : MethodName)) (W := 0) hown (wdOf hw 8 rfl) (wdOf hw 9 rfl) (notFace_of_selects (args := #[]) (mvT hZ (wdOf hw 11 rfl))) (wdOf hw 11 rfl) (wdOf hw 10 rfl) (wdOf hw 6 rfl) (wdOf hw 12 rfl) (by decide) (rm_fits l Z a0 hw [] r_STRING r_STRING r_NULL (1 : Int32) h0 n0 Z0 S_NULL (by simp [])) (by decide) (by decide) (by decide) (by decide) K18 E_STRING (g := (mkF m 44 #[.val (.int pa), .val (.int pb), .val (.int (1 : Int32)), .val (.int (1 : Int32)), .val (.ref r_STRING), .val (.ref r_STRING), .val (.int (1 : Int32)), .unset, .unset] [(.ref r_STRING), (.ref r_STRING)])) rfl (by rw [hml]; rfl) (argsL := [(.ref r_STRING)]) (rest := []) (lenOf pd_1 rfl) rfl rfl (Nat.le_refl _) (hb hby at_44)
      obtain ⟨rfl, n19, K19⟩ := q19
      have N19 := Fr.app N18 n19
      refine Goes.go (U' := (T19.setTop (mkF m 47 #[.val (.int pa), .val (.int pb), .val (.int (1 : Int32)), .val (.int (1 : Int32)), .val (.ref r_STRING), .val (.ref r_STRING), .val (.int (1 : Int32)), .unset, .unset] [(.int (1 : Int32))]))) st19 ?_
      refine Goes.go (U' := (T19.setTop (mkF m 53 #[.val (.int pa), .val (.int pb), .val (.int (1 : Int32)), .val (.int (1 : Int32)), .val (.ref r_STRING), .val (.ref r_STRING), .val (.int (1 : Int32)), .val (.int (1 : Int32)), .unset] [(.ref r_STRING), (.ref r_STRING)]))) (fun t kt => ?_) ?_
      · show Steps p.tables e below (T19.setTop (mkF m 47 #[.val (.int pa), .val (.int pb), .val (.int (1 : Int32)), .val (.int (1 : Int32)), .val (.ref r_STRING), .val (.ref r_STRING), .val (.int (1 : Int32)), .unset, .unset] [(.int (1 : Int32))])) t
        refine XS.istore X19.here hx rfl (hb hby at_47) rfl (l' := #[.val (.int pa), .val (.int pb), .val (.int (1 : Int32)), .val (.int (1 : Int32)), .val (.ref r_STRING), .val (.ref r_STRING), .val (.int (1 : Int32)), .val (.int (1 : Int32)), .unset]) rfl ?_
        show Steps p.tables e below (T19.setTop (mkF m 49 #[.val (.int pa), .val (.int pb), .val (.int (1 : Int32)), .val (.int (1 : Int32)), .val (.ref r_STRING), .val (.ref r_STRING), .val (.int (1 : Int32)), .val (.int (1 : Int32)), .unset] [])) t
        refine XS.aload X19.here hx rfl (hb hby at_49) rfl rfl ?_
        show Steps p.tables e below (T19.setTop (mkF m 51 #[.val (.int pa), .val (.int pb), .val (.int (1 : Int32)), .val (.int (1 : Int32)), .val (.ref r_STRING), .val (.ref r_STRING), .val (.int (1 : Int32)), .val (.int (1 : Int32)), .unset] [(.ref r_STRING)])) t
        refine XS.aload X19.here hx rfl (hb hby at_51) rfl rfl ?_
        exact kt
      obtain ⟨v20, T20, L20, X20, q20, st20⟩ := callVirtual X19 hx hZ (y := (⟨"com/example/palimpsest/palimpsest/sql/ValueType", "fits", "(Lcom/example/palimpsest/palimpsest/sql/ValueType;)Z"⟩ : MethodName)) (z := (⟨"com/example/palimpsest/palimpsest/sql/ValueType", "fits", "(Lcom/example/palimpsest/palimpsest/sql/ValueType;)Z"⟩ : MethodName)) (W := 0) hown (wdOf hw 8 rfl) (wdOf hw 9 rfl) (notFace_of_selects (args := #[]) (mvT hZ (wdOf hw 11 rfl))) (wdOf hw 11 rfl) (wdOf hw 10 rfl) (wdOf hw 6 rfl) (wdOf hw 12 rfl) (by decide) (rm_fits l Z a0 hw [] r_STRING r_STRING r_NULL (1 : Int32) h0 n0 Z0 S_NULL (by simp [])) (by decide) (by decide) (by decide) (by decide) K19 E_STRING (g := (mkF m 53 #[.val (.int pa), .val (.int pb), .val (.int (1 : Int32)), .val (.int (1 : Int32)), .val (.ref r_STRING), .val (.ref r_STRING), .val (.int (1 : Int32)), .val (.int (1 : Int32)), .unset] [(.ref r_STRING), (.ref r_STRING)])) rfl (by rw [hml]; rfl) (argsL := [(.ref r_STRING)]) (rest := []) (lenOf pd_1 rfl) rfl rfl (Nat.le_refl _) (hb hby at_53)
      obtain ⟨rfl, n20, K20⟩ := q20
      have N20 := Fr.app N19 n20
      refine Goes.go (U' := (T20.setTop (mkF m 56 #[.val (.int pa), .val (.int pb), .val (.int (1 : Int32)), .val (.int (1 : Int32)), .val (.ref r_STRING), .val (.ref r_STRING), .val (.int (1 : Int32)), .val (.int (1 : Int32)), .unset] [(.int (1 : Int32))]))) st20 ?_
      refine Goes.go (U' := (T20.setTop (mkF m 77 #[.val (.int pa), .val (.int pb), .val (.int (1 : Int32)), .val (.int (1 : Int32)), .val (.ref r_STRING), .val (.ref r_STRING), .val (.int (1 : Int32)), .val (.int (1 : Int32)), .val (.int (1 : Int32))] [(.int (1 : Int32))]))) (fun t kt => ?_) ?_
      · show Steps p.tables e below (T20.setTop (mkF m 56 #[.val (.int pa), .val (.int pb), .val (.int (1 : Int32)), .val (.int (1 : Int32)), .val (.ref r_STRING), .val (.ref r_STRING), .val (.int (1 : Int32)), .val (.int (1 : Int32)), .unset] [(.int (1 : Int32))])) t
        refine XS.istore X20.here hx rfl (hb hby at_56) rfl (l' := #[.val (.int pa), .val (.int pb), .val (.int (1 : Int32)), .val (.int (1 : Int32)), .val (.ref r_STRING), .val (.ref r_STRING), .val (.int (1 : Int32)), .val (.int (1 : Int32)), .val (.int (1 : Int32))]) rfl ?_
        show Steps p.tables e below (T20.setTop (mkF m 58 #[.val (.int pa), .val (.int pb), .val (.int (1 : Int32)), .val (.int (1 : Int32)), .val (.ref r_STRING), .val (.ref r_STRING), .val (.int (1 : Int32)), .val (.int (1 : Int32)), .val (.int (1 : Int32))] [])) t
        refine XS.iload X20.here hx rfl (hb hby at_58) rfl ?_
        show Steps p.tables e below (T20.setTop (mkF m 60 #[.val (.int pa), .val (.int pb), .val (.int (1 : Int32)), .val (.int (1 : Int32)), .val (.ref r_STRING), .val (.ref r_STRING), .val (.int (1 : Int32)), .val (.int (1 : Int32)), .val (.int (1 : Int32))] [(.int (1 : Int32))])) t
        refine XS.iload X20.here hx rfl (hb hby at_60) rfl ?_
        show Steps p.tables e below (T20.setTop (mkF m 62 #[.val (.int pa), .val (.int pb), .val (.int (1 : Int32)), .val (.int (1 : Int32)), .val (.ref r_STRING), .val (.ref r_STRING), .val (.int (1 : Int32)), .val (.int (1 : Int32)), .val (.int (1 : Int32))] [(.int (1 : Int32)), (.int (1 : Int32))])) t
        refine XS.icmpNo X20.here hx rfl (hb hby at_62) rfl (XT.ii_ne_f (by decide)) ?_
        show Steps p.tables e below (T20.setTop (mkF m 65 #[.val (.int pa), .val (.int pb), .val (.int (1 : Int32)), .val (.int (1 : Int32)), .val (.ref r_STRING), .val (.ref r_STRING), .val (.int (1 : Int32)), .val (.int (1 : Int32)), .val (.int (1 : Int32))] [])) t
        refine XS.iload X20.here hx rfl (hb hby at_65) rfl ?_
        show Steps p.tables e below (T20.setTop (mkF m 67 #[.val (.int pa), .val (.int pb), .val (.int (1 : Int32)), .val (.int (1 : Int32)), .val (.ref r_STRING), .val (.ref r_STRING), .val (.int (1 : Int32)), .val (.int (1 : Int32)), .val (.int (1 : Int32))] [(.int (1 : Int32))])) t
        refine XS.iload X20.here hx rfl (hb hby at_67) rfl ?_
        show Steps p.tables e below (T20.setTop (mkF m 69 #[.val (.int pa), .val (.int pb), .val (.int (1 : Int32)), .val (.int (1 : Int32)), .val (.ref r_STRING), .val (.ref r_STRING), .val (.int (1 : Int32)), .val (.int (1 : Int32)), .val (.int (1 : Int32))] [(.int (1 : Int32)), (.int (1 : Int32))])) t
        refine XS.icmpNo X20.here hx rfl (hb hby at_69) rfl (XT.ii_ne_f (by decide)) ?_
        show Steps p.tables e below (T20.setTop (mkF m 72 #[.val (.int pa), .val (.int pb), .val (.int (1 : Int32)), .val (.int (1 : Int32)), .val (.ref r_STRING), .val (.ref r_STRING), .val (.int (1 : Int32)), .val (.int (1 : Int32)), .val (.int (1 : Int32))] [])) t
        refine XS.iconst X20.here hx rfl (hb hby at_72) ?_
        show Steps p.tables e below (T20.setTop (mkF m 73 #[.val (.int pa), .val (.int pb), .val (.int (1 : Int32)), .val (.int (1 : Int32)), .val (.ref r_STRING), .val (.ref r_STRING), .val (.int (1 : Int32)), .val (.int (1 : Int32)), .val (.int (1 : Int32))] [(.int (1 : Int32))])) t
        refine XS.goto X20.here hx rfl (pc0 := 73) (pc' := 77) rfl (hb hby at_73) (by decide) (by decide) ?_
        exact kt
      refine Goes.retB X20 hx hlk hret (hb hby at_77) (by decide) (by decide) ?_
      try rw [K20]
      exact ⟨rfl, N20⟩
    · -- case 2
      rw [hj]
      refine Goes.go (U' := (s₁.setTop (mkF m 15 #[.val (.int pa), .val (.int pb), .val (.int (1 : Int32)), .val (.int (2 : Int32)), .unset, .unset, .unset, .unset, .unset] [(.int (1 : Int32))]))) (fun t kt => ?_) ?_
      · show Steps p.tables e below (s₁.setTop (mkF m 13 #[.val (.int pa), .val (.int pb), .val (.int (1 : Int32)), .unset, .unset, .unset, .unset, .unset, .unset] [(.int (2 : Int32))])) t
        refine XS.istoreN X0.here hx rfl (hb hby at_13) rfl (l' := #[.val (.int pa), .val (.int pb), .val (.int (1 : Int32)), .val (.int (2 : Int32)), .unset, .unset, .unset, .unset, .unset]) rfl ?_
        show Steps p.tables e below (s₁.setTop (mkF m 14 #[.val (.int pa), .val (.int pb), .val (.int (1 : Int32)), .val (.int (2 : Int32)), .unset, .unset, .unset, .unset, .unset] [])) t
        refine XS.iloadN X0.here hx rfl (hb hby at_14) rfl ?_
        exact kt
      obtain ⟨v21, T21, L21, X21, q21, st21⟩ := callStatic X0 hx hZ (y := (⟨"com/example/palimpsest/palimpsest/sql/ValueTypeFitsPinLaw", "pick", "(I)Lcom/example/palimpsest/palimpsest/sql/ValueType;"⟩ : MethodName)) (W := 0) hown (wdOf hw 1 rfl) (wdOf hw 2 rfl) (wdOf hw 3 rfl) (wdOf hw 4 rfl) (by decide) (rm_pick l Z a0 hw [] (1 : Int32) r_STRING r_INTEGER r_STRING r_NULL h0 n0 Z0 S_INTEGER S_STRING S_NULL (by simp)) (by decide) (by decide) (by decide) (by decide) e0 (g := (mkF m 15 #[.val (.int pa), .val (.int pb), .val (.int (1 : Int32)), .val (.int (2 : Int32)), .unset, .unset, .unset, .unset, .unset] [(.int (1 : Int32))])) rfl (by rw [hml]; rfl) (argsL := [(.int (1 : Int32))]) (rest := []) (lenOf pd_0 rfl) rfl rfl (Nat.le_refl _) (hb hby at_15)
      obtain ⟨rfl, n21, K21⟩ := q21
      have N21 := Fr.app N0 n21
      refine Goes.go (U' := (T21.setTop (mkF m 18 #[.val (.int pa), .val (.int pb), .val (.int (1 : Int32)), .val (.int (2 : Int32)), .unset, .unset, .unset, .unset, .unset] [(.ref r_STRING)]))) st21 ?_
      refine Goes.go (U' := (T21.setTop (mkF m 21 #[.val (.int pa), .val (.int pb), .val (.int (1 : Int32)), .val (.int (2 : Int32)), .val (.ref r_STRING), .unset, .unset, .unset, .unset] [(.int (2 : Int32))]))) (fun t kt => ?_) ?_
      · show Steps p.tables e below (T21.setTop (mkF m 18 #[.val (.int pa), .val (.int pb), .val (.int (1 : Int32)), .val (.int (2 : Int32)), .unset, .unset, .unset, .unset, .unset] [(.ref r_STRING)])) t
        refine XS.astore X21.here hx rfl (hb hby at_18) rfl rfl (l' := #[.val (.int pa), .val (.int pb), .val (.int (1 : Int32)), .val (.int (2 : Int32)), .val (.ref r_STRING), .unset, .unset, .unset, .unset]) rfl ?_
        show Steps p.tables e below (T21.setTop (mkF m 20 #[.val (.int pa), .val (.int pb), .val (.int (1 : Int32)), .val (.int (2 : Int32)), .val (.ref r_STRING), .unset, .unset, .unset, .unset] [])) t
        refine XS.iloadN X21.here hx rfl (hb hby at_20) rfl ?_
        exact kt
      obtain ⟨v22, T22, L22, X22, q22, st22⟩ := callStatic X21 hx hZ (y := (⟨"com/example/palimpsest/palimpsest/sql/ValueTypeFitsPinLaw", "pick", "(I)Lcom/example/palimpsest/palimpsest/sql/ValueType;"⟩ : MethodName)) (W := 0) hown (wdOf hw 1 rfl) (wdOf hw 2 rfl) (wdOf hw 3 rfl) (wdOf hw 4 rfl) (by decide) (rm_pick l Z a0 hw [] (2 : Int32) r_NULL r_INTEGER r_STRING r_NULL h0 n0 Z0 S_INTEGER S_STRING S_NULL (by simp)) (by decide) (by decide) (by decide) (by decide) K21 (g := (mkF m 21 #[.val (.int pa), .val (.int pb), .val (.int (1 : Int32)), .val (.int (2 : Int32)), .val (.ref r_STRING), .unset, .unset, .unset, .unset] [(.int (2 : Int32))])) rfl (by rw [hml]; rfl) (argsL := [(.int (2 : Int32))]) (rest := []) (lenOf pd_0 rfl) rfl rfl (Nat.le_refl _) (hb hby at_21)
      obtain ⟨rfl, n22, K22⟩ := q22
      have N22 := Fr.app N21 n22
      refine Goes.go (U' := (T22.setTop (mkF m 24 #[.val (.int pa), .val (.int pb), .val (.int (1 : Int32)), .val (.int (2 : Int32)), .val (.ref r_STRING), .unset, .unset, .unset, .unset] [(.ref r_NULL)]))) st22 ?_
      refine Goes.go (U' := (T22.setTop (mkF m 44 #[.val (.int pa), .val (.int pb), .val (.int (1 : Int32)), .val (.int (2 : Int32)), .val (.ref r_STRING), .val (.ref r_NULL), .val (.int (1 : Int32)), .unset, .unset] [(.ref r_NULL), (.ref r_STRING)]))) (fun t kt => ?_) ?_
      · show Steps p.tables e below (T22.setTop (mkF m 24 #[.val (.int pa), .val (.int pb), .val (.int (1 : Int32)), .val (.int (2 : Int32)), .val (.ref r_STRING), .unset, .unset, .unset, .unset] [(.ref r_NULL)])) t
        refine XS.astore X22.here hx rfl (hb hby at_24) rfl rfl (l' := #[.val (.int pa), .val (.int pb), .val (.int (1 : Int32)), .val (.int (2 : Int32)), .val (.ref r_STRING), .val (.ref r_NULL), .unset, .unset, .unset]) rfl ?_
        show Steps p.tables e below (T22.setTop (mkF m 26 #[.val (.int pa), .val (.int pb), .val (.int (1 : Int32)), .val (.int (2 : Int32)), .val (.ref r_STRING), .val (.ref r_NULL), .unset, .unset, .unset] [])) t
        refine XS.iloadN X22.here hx rfl (hb hby at_26) rfl ?_
        show Steps p.tables e below (T22.setTop (mkF m 27 #[.val (.int pa), .val (.int pb), .val (.int (1 : Int32)), .val (.int (2 : Int32)), .val (.ref r_STRING), .val (.ref r_NULL), .unset, .unset, .unset] [(.int (1 : Int32))])) t
        refine XS.iloadN X22.here hx rfl (hb hby at_27) rfl ?_
        show Steps p.tables e below (T22.setTop (mkF m 28 #[.val (.int pa), .val (.int pb), .val (.int (1 : Int32)), .val (.int (2 : Int32)), .val (.ref r_STRING), .val (.ref r_NULL), .unset, .unset, .unset] [(.int (2 : Int32)), (.int (1 : Int32))])) t
        refine XS.iadd X22.here hx rfl (hb hby at_28) rfl ?_
        show Steps p.tables e below (T22.setTop (mkF m 29 #[.val (.int pa), .val (.int pb), .val (.int (1 : Int32)), .val (.int (2 : Int32)), .val (.ref r_STRING), .val (.ref r_NULL), .unset, .unset, .unset] [(.int ((1 : Int32) + (2 : Int32)))])) t
        refine XS.iconst X22.here hx rfl (hb hby at_29) ?_
        show Steps p.tables e below (T22.setTop (mkF m 30 #[.val (.int pa), .val (.int pb), .val (.int (1 : Int32)), .val (.int (2 : Int32)), .val (.ref r_STRING), .val (.ref r_NULL), .unset, .unset, .unset] [(.int (1 : Int32)), (.int ((1 : Int32) + (2 : Int32)))])) t
        refine XS.icmpNo X22.here hx rfl (hb hby at_30) rfl (XT.ii_eq_f (by decide)) ?_
        show Steps p.tables e below (T22.setTop (mkF m 33 #[.val (.int pa), .val (.int pb), .val (.int (1 : Int32)), .val (.int (2 : Int32)), .val (.ref r_STRING), .val (.ref r_NULL), .unset, .unset, .unset] [])) t
        refine XS.iconst X22.here hx rfl (hb hby at_33) ?_
        show Steps p.tables e below (T22.setTop (mkF m 34 #[.val (.int pa), .val (.int pb), .val (.int (1 : Int32)), .val (.int (2 : Int32)), .val (.ref r_STRING), .val (.ref r_NULL), .unset, .unset, .unset] [(.int (1 : Int32))])) t
        refine XS.goto X22.here hx rfl (pc0 := 34) (pc' := 38) rfl (hb hby at_34) (by decide) (by decide) ?_
        show Steps p.tables e below (T22.setTop (mkF m 38 #[.val (.int pa), .val (.int pb), .val (.int (1 : Int32)), .val (.int (2 : Int32)), .val (.ref r_STRING), .val (.ref r_NULL), .unset, .unset, .unset] [(.int (1 : Int32))])) t
        refine XS.istore X22.here hx rfl (hb hby at_38) rfl (l' := #[.val (.int pa), .val (.int pb), .val (.int (1 : Int32)), .val (.int (2 : Int32)), .val (.ref r_STRING), .val (.ref r_NULL), .val (.int (1 : Int32)), .unset, .unset]) rfl ?_
        show Steps p.tables e below (T22.setTop (mkF m 40 #[.val (.int pa), .val (.int pb), .val (.int (1 : Int32)), .val (.int (2 : Int32)), .val (.ref r_STRING), .val (.ref r_NULL), .val (.int (1 : Int32)), .unset, .unset] [])) t
        refine XS.aload X22.here hx rfl (hb hby at_40) rfl rfl ?_
        show Steps p.tables e below (T22.setTop (mkF m 42 #[.val (.int pa), .val (.int pb), .val (.int (1 : Int32)), .val (.int (2 : Int32)), .val (.ref r_STRING), .val (.ref r_NULL), .val (.int (1 : Int32)), .unset, .unset] [(.ref r_STRING)])) t
        refine XS.aload X22.here hx rfl (hb hby at_42) rfl rfl ?_
        exact kt
      obtain ⟨v23, T23, L23, X23, q23, st23⟩ := callVirtual X22 hx hZ (y := (⟨"com/example/palimpsest/palimpsest/sql/ValueType", "fits", "(Lcom/example/palimpsest/palimpsest/sql/ValueType;)Z"⟩ : MethodName)) (z := (⟨"com/example/palimpsest/palimpsest/sql/ValueType", "fits", "(Lcom/example/palimpsest/palimpsest/sql/ValueType;)Z"⟩ : MethodName)) (W := 0) hown (wdOf hw 8 rfl) (wdOf hw 9 rfl) (notFace_of_selects (args := #[]) (mvT hZ (wdOf hw 11 rfl))) (wdOf hw 11 rfl) (wdOf hw 10 rfl) (wdOf hw 6 rfl) (wdOf hw 12 rfl) (by decide) (rm_fits l Z a0 hw [] r_STRING r_NULL r_NULL (1 : Int32) h0 n0 Z0 S_NULL (by simp [])) (by decide) (by decide) (by decide) (by decide) K22 E_STRING (g := (mkF m 44 #[.val (.int pa), .val (.int pb), .val (.int (1 : Int32)), .val (.int (2 : Int32)), .val (.ref r_STRING), .val (.ref r_NULL), .val (.int (1 : Int32)), .unset, .unset] [(.ref r_NULL), (.ref r_STRING)])) rfl (by rw [hml]; rfl) (argsL := [(.ref r_NULL)]) (rest := []) (lenOf pd_1 rfl) rfl rfl (Nat.le_refl _) (hb hby at_44)
      obtain ⟨rfl, n23, K23⟩ := q23
      have N23 := Fr.app N22 n23
      refine Goes.go (U' := (T23.setTop (mkF m 47 #[.val (.int pa), .val (.int pb), .val (.int (1 : Int32)), .val (.int (2 : Int32)), .val (.ref r_STRING), .val (.ref r_NULL), .val (.int (1 : Int32)), .unset, .unset] [(.int (1 : Int32))]))) st23 ?_
      refine Goes.go (U' := (T23.setTop (mkF m 53 #[.val (.int pa), .val (.int pb), .val (.int (1 : Int32)), .val (.int (2 : Int32)), .val (.ref r_STRING), .val (.ref r_NULL), .val (.int (1 : Int32)), .val (.int (1 : Int32)), .unset] [(.ref r_STRING), (.ref r_NULL)]))) (fun t kt => ?_) ?_
      · show Steps p.tables e below (T23.setTop (mkF m 47 #[.val (.int pa), .val (.int pb), .val (.int (1 : Int32)), .val (.int (2 : Int32)), .val (.ref r_STRING), .val (.ref r_NULL), .val (.int (1 : Int32)), .unset, .unset] [(.int (1 : Int32))])) t
        refine XS.istore X23.here hx rfl (hb hby at_47) rfl (l' := #[.val (.int pa), .val (.int pb), .val (.int (1 : Int32)), .val (.int (2 : Int32)), .val (.ref r_STRING), .val (.ref r_NULL), .val (.int (1 : Int32)), .val (.int (1 : Int32)), .unset]) rfl ?_
        show Steps p.tables e below (T23.setTop (mkF m 49 #[.val (.int pa), .val (.int pb), .val (.int (1 : Int32)), .val (.int (2 : Int32)), .val (.ref r_STRING), .val (.ref r_NULL), .val (.int (1 : Int32)), .val (.int (1 : Int32)), .unset] [])) t
        refine XS.aload X23.here hx rfl (hb hby at_49) rfl rfl ?_
        show Steps p.tables e below (T23.setTop (mkF m 51 #[.val (.int pa), .val (.int pb), .val (.int (1 : Int32)), .val (.int (2 : Int32)), .val (.ref r_STRING), .val (.ref r_NULL), .val (.int (1 : Int32)), .val (.int (1 : Int32)), .unset] [(.ref r_NULL)])) t
        refine XS.aload X23.here hx rfl (hb hby at_51) rfl rfl ?_
        exact kt
      obtain ⟨v24, T24, L24, X24, q24, st24⟩ := callVirtual X23 hx hZ (y := (⟨"com/example/palimpsest/palimpsest/sql/ValueType", "fits", "(Lcom/example/palimpsest/palimpsest/sql/ValueType;)Z"⟩ : MethodName)) (z := (⟨"com/example/palimpsest/palimpsest/sql/ValueType", "fits", "(Lcom/example/palimpsest/palimpsest/sql/ValueType;)Z"⟩ : MethodName)) (W := 0) hown (wdOf hw 8 rfl) (wdOf hw 9 rfl) (notFace_of_selects (args := #[]) (mvT hZ (wdOf hw 11 rfl))) (wdOf hw 11 rfl) (wdOf hw 10 rfl) (wdOf hw 6 rfl) (wdOf hw 12 rfl) (by decide) (rm_fits l Z a0 hw [] r_NULL r_STRING r_NULL (1 : Int32) h0 n0 Z0 S_NULL (by simp [])) (by decide) (by decide) (by decide) (by decide) K23 E_NULL (g := (mkF m 53 #[.val (.int pa), .val (.int pb), .val (.int (1 : Int32)), .val (.int (2 : Int32)), .val (.ref r_STRING), .val (.ref r_NULL), .val (.int (1 : Int32)), .val (.int (1 : Int32)), .unset] [(.ref r_STRING), (.ref r_NULL)])) rfl (by rw [hml]; rfl) (argsL := [(.ref r_STRING)]) (rest := []) (lenOf pd_1 rfl) rfl rfl (Nat.le_refl _) (hb hby at_53)
      obtain ⟨rfl, n24, K24⟩ := q24
      have N24 := Fr.app N23 n24
      refine Goes.go (U' := (T24.setTop (mkF m 56 #[.val (.int pa), .val (.int pb), .val (.int (1 : Int32)), .val (.int (2 : Int32)), .val (.ref r_STRING), .val (.ref r_NULL), .val (.int (1 : Int32)), .val (.int (1 : Int32)), .unset] [(.int (1 : Int32))]))) st24 ?_
      refine Goes.go (U' := (T24.setTop (mkF m 77 #[.val (.int pa), .val (.int pb), .val (.int (1 : Int32)), .val (.int (2 : Int32)), .val (.ref r_STRING), .val (.ref r_NULL), .val (.int (1 : Int32)), .val (.int (1 : Int32)), .val (.int (1 : Int32))] [(.int (1 : Int32))]))) (fun t kt => ?_) ?_
      · show Steps p.tables e below (T24.setTop (mkF m 56 #[.val (.int pa), .val (.int pb), .val (.int (1 : Int32)), .val (.int (2 : Int32)), .val (.ref r_STRING), .val (.ref r_NULL), .val (.int (1 : Int32)), .val (.int (1 : Int32)), .unset] [(.int (1 : Int32))])) t
        refine XS.istore X24.here hx rfl (hb hby at_56) rfl (l' := #[.val (.int pa), .val (.int pb), .val (.int (1 : Int32)), .val (.int (2 : Int32)), .val (.ref r_STRING), .val (.ref r_NULL), .val (.int (1 : Int32)), .val (.int (1 : Int32)), .val (.int (1 : Int32))]) rfl ?_
        show Steps p.tables e below (T24.setTop (mkF m 58 #[.val (.int pa), .val (.int pb), .val (.int (1 : Int32)), .val (.int (2 : Int32)), .val (.ref r_STRING), .val (.ref r_NULL), .val (.int (1 : Int32)), .val (.int (1 : Int32)), .val (.int (1 : Int32))] [])) t
        refine XS.iload X24.here hx rfl (hb hby at_58) rfl ?_
        show Steps p.tables e below (T24.setTop (mkF m 60 #[.val (.int pa), .val (.int pb), .val (.int (1 : Int32)), .val (.int (2 : Int32)), .val (.ref r_STRING), .val (.ref r_NULL), .val (.int (1 : Int32)), .val (.int (1 : Int32)), .val (.int (1 : Int32))] [(.int (1 : Int32))])) t
        refine XS.iload X24.here hx rfl (hb hby at_60) rfl ?_
        show Steps p.tables e below (T24.setTop (mkF m 62 #[.val (.int pa), .val (.int pb), .val (.int (1 : Int32)), .val (.int (2 : Int32)), .val (.ref r_STRING), .val (.ref r_NULL), .val (.int (1 : Int32)), .val (.int (1 : Int32)), .val (.int (1 : Int32))] [(.int (1 : Int32)), (.int (1 : Int32))])) t
        refine XS.icmpNo X24.here hx rfl (hb hby at_62) rfl (XT.ii_ne_f (by decide)) ?_
        show Steps p.tables e below (T24.setTop (mkF m 65 #[.val (.int pa), .val (.int pb), .val (.int (1 : Int32)), .val (.int (2 : Int32)), .val (.ref r_STRING), .val (.ref r_NULL), .val (.int (1 : Int32)), .val (.int (1 : Int32)), .val (.int (1 : Int32))] [])) t
        refine XS.iload X24.here hx rfl (hb hby at_65) rfl ?_
        show Steps p.tables e below (T24.setTop (mkF m 67 #[.val (.int pa), .val (.int pb), .val (.int (1 : Int32)), .val (.int (2 : Int32)), .val (.ref r_STRING), .val (.ref r_NULL), .val (.int (1 : Int32)), .val (.int (1 : Int32)), .val (.int (1 : Int32))] [(.int (1 : Int32))])) t
        refine XS.iload X24.here hx rfl (hb hby at_67) rfl ?_
        show Steps p.tables e below (T24.setTop (mkF m 69 #[.val (.int pa), .val (.int pb), .val (.int (1 : Int32)), .val (.int (2 : Int32)), .val (.ref r_STRING), .val (.ref r_NULL), .val (.int (1 : Int32)), .val (.int (1 : Int32)), .val (.int (1 : Int32))] [(.int (1 : Int32)), (.int (1 : Int32))])) t
        refine XS.icmpNo X24.here hx rfl (hb hby at_69) rfl (XT.ii_ne_f (by decide)) ?_
        show Steps p.tables e below (T24.setTop (mkF m 72 #[.val (.int pa), .val (.int pb), .val (.int (1 : Int32)), .val (.int (2 : Int32)), .val (.ref r_STRING), .val (.ref r_NULL), .val (.int (1 : Int32)), .val (.int (1 : Int32)), .val (.int (1 : Int32))] [])) t
        refine XS.iconst X24.here hx rfl (hb hby at_72) ?_
        show Steps p.tables e below (T24.setTop (mkF m 73 #[.val (.int pa), .val (.int pb), .val (.int (1 : Int32)), .val (.int (2 : Int32)), .val (.ref r_STRING), .val (.ref r_NULL), .val (.int (1 : Int32)), .val (.int (1 : Int32)), .val (.int (1 : Int32))] [(.int (1 : Int32))])) t
        refine XS.goto X24.here hx rfl (pc0 := 73) (pc' := 77) rfl (hb hby at_73) (by decide) (by decide) ?_
        exact kt
      refine Goes.retB X24 hx hlk hret (hb hby at_77) (by decide) (by decide) ?_
      try rw [K24]
      exact ⟨rfl, N24⟩
  · -- case 2
    rw [hi]
    refine Goes.go (U' := (s₁.setTop (mkF m 13 #[.val (.int pa), .val (.int pb), .val (.int (2 : Int32)), .unset, .unset, .unset, .unset, .unset, .unset] [(.int ((pb &&& (2147483647 : Int32)) % (3 : Int32)))]))) (fun t kt => ?_) ?_
    · show Steps p.tables e below (s₁.setTop (mkF m 6 #[.val (.int pa), .val (.int pb), .unset, .unset, .unset, .unset, .unset, .unset, .unset] [(.int (2 : Int32))])) t
      refine XS.istoreN X0.here hx rfl (hb hby at_6) rfl (l' := #[.val (.int pa), .val (.int pb), .val (.int (2 : Int32)), .unset, .unset, .unset, .unset, .unset, .unset]) rfl ?_
      show Steps p.tables e below (s₁.setTop (mkF m 7 #[.val (.int pa), .val (.int pb), .val (.int (2 : Int32)), .unset, .unset, .unset, .unset, .unset, .unset] [])) t
      refine XS.iloadN X0.here hx rfl (hb hby at_7) rfl ?_
      show Steps p.tables e below (s₁.setTop (mkF m 8 #[.val (.int pa), .val (.int pb), .val (.int (2 : Int32)), .unset, .unset, .unset, .unset, .unset, .unset] [(.int pb)])) t
      refine Jvm.Stand.ldcI X0 hx hown (mvT hZ (wdOf hw 0 rfl)) rfl (hb hby at_8) ?_
      show Steps p.tables e below (s₁.setTop (mkF m 10 #[.val (.int pa), .val (.int pb), .val (.int (2 : Int32)), .unset, .unset, .unset, .unset, .unset, .unset] [(.int (2147483647 : Int32)), (.int pb)])) t
      refine XS.iand X0.here hx rfl (hb hby at_10) rfl ?_
      show Steps p.tables e below (s₁.setTop (mkF m 11 #[.val (.int pa), .val (.int pb), .val (.int (2 : Int32)), .unset, .unset, .unset, .unset, .unset, .unset] [(.int (pb &&& (2147483647 : Int32)))])) t
      refine XS.iconst X0.here hx rfl (hb hby at_11) ?_
      show Steps p.tables e below (s₁.setTop (mkF m 12 #[.val (.int pa), .val (.int pb), .val (.int (2 : Int32)), .unset, .unset, .unset, .unset, .unset, .unset] [(.int (3 : Int32)), (.int (pb &&& (2147483647 : Int32)))])) t
      refine iremM X0 hx rfl (hb hby at_12) rfl (by decide) ?_
      exact kt
    rcases own_mod pb with hj | hj | hj
    · -- case 0
      rw [hj]
      refine Goes.go (U' := (s₁.setTop (mkF m 15 #[.val (.int pa), .val (.int pb), .val (.int (2 : Int32)), .val (.int (0 : Int32)), .unset, .unset, .unset, .unset, .unset] [(.int (2 : Int32))]))) (fun t kt => ?_) ?_
      · show Steps p.tables e below (s₁.setTop (mkF m 13 #[.val (.int pa), .val (.int pb), .val (.int (2 : Int32)), .unset, .unset, .unset, .unset, .unset, .unset] [(.int (0 : Int32))])) t
        refine XS.istoreN X0.here hx rfl (hb hby at_13) rfl (l' := #[.val (.int pa), .val (.int pb), .val (.int (2 : Int32)), .val (.int (0 : Int32)), .unset, .unset, .unset, .unset, .unset]) rfl ?_
        show Steps p.tables e below (s₁.setTop (mkF m 14 #[.val (.int pa), .val (.int pb), .val (.int (2 : Int32)), .val (.int (0 : Int32)), .unset, .unset, .unset, .unset, .unset] [])) t
        refine XS.iloadN X0.here hx rfl (hb hby at_14) rfl ?_
        exact kt
      obtain ⟨v25, T25, L25, X25, q25, st25⟩ := callStatic X0 hx hZ (y := (⟨"com/example/palimpsest/palimpsest/sql/ValueTypeFitsPinLaw", "pick", "(I)Lcom/example/palimpsest/palimpsest/sql/ValueType;"⟩ : MethodName)) (W := 0) hown (wdOf hw 1 rfl) (wdOf hw 2 rfl) (wdOf hw 3 rfl) (wdOf hw 4 rfl) (by decide) (rm_pick l Z a0 hw [] (2 : Int32) r_NULL r_INTEGER r_STRING r_NULL h0 n0 Z0 S_INTEGER S_STRING S_NULL (by simp)) (by decide) (by decide) (by decide) (by decide) e0 (g := (mkF m 15 #[.val (.int pa), .val (.int pb), .val (.int (2 : Int32)), .val (.int (0 : Int32)), .unset, .unset, .unset, .unset, .unset] [(.int (2 : Int32))])) rfl (by rw [hml]; rfl) (argsL := [(.int (2 : Int32))]) (rest := []) (lenOf pd_0 rfl) rfl rfl (Nat.le_refl _) (hb hby at_15)
      obtain ⟨rfl, n25, K25⟩ := q25
      have N25 := Fr.app N0 n25
      refine Goes.go (U' := (T25.setTop (mkF m 18 #[.val (.int pa), .val (.int pb), .val (.int (2 : Int32)), .val (.int (0 : Int32)), .unset, .unset, .unset, .unset, .unset] [(.ref r_NULL)]))) st25 ?_
      refine Goes.go (U' := (T25.setTop (mkF m 21 #[.val (.int pa), .val (.int pb), .val (.int (2 : Int32)), .val (.int (0 : Int32)), .val (.ref r_NULL), .unset, .unset, .unset, .unset] [(.int (0 : Int32))]))) (fun t kt => ?_) ?_
      · show Steps p.tables e below (T25.setTop (mkF m 18 #[.val (.int pa), .val (.int pb), .val (.int (2 : Int32)), .val (.int (0 : Int32)), .unset, .unset, .unset, .unset, .unset] [(.ref r_NULL)])) t
        refine XS.astore X25.here hx rfl (hb hby at_18) rfl rfl (l' := #[.val (.int pa), .val (.int pb), .val (.int (2 : Int32)), .val (.int (0 : Int32)), .val (.ref r_NULL), .unset, .unset, .unset, .unset]) rfl ?_
        show Steps p.tables e below (T25.setTop (mkF m 20 #[.val (.int pa), .val (.int pb), .val (.int (2 : Int32)), .val (.int (0 : Int32)), .val (.ref r_NULL), .unset, .unset, .unset, .unset] [])) t
        refine XS.iloadN X25.here hx rfl (hb hby at_20) rfl ?_
        exact kt
      obtain ⟨v26, T26, L26, X26, q26, st26⟩ := callStatic X25 hx hZ (y := (⟨"com/example/palimpsest/palimpsest/sql/ValueTypeFitsPinLaw", "pick", "(I)Lcom/example/palimpsest/palimpsest/sql/ValueType;"⟩ : MethodName)) (W := 0) hown (wdOf hw 1 rfl) (wdOf hw 2 rfl) (wdOf hw 3 rfl) (wdOf hw 4 rfl) (by decide) (rm_pick l Z a0 hw [] (0 : Int32) r_INTEGER r_INTEGER r_STRING r_NULL h0 n0 Z0 S_INTEGER S_STRING S_NULL (by simp)) (by decide) (by decide) (by decide) (by decide) K25 (g := (mkF m 21 #[.val (.int pa), .val (.int pb), .val (.int (2 : Int32)), .val (.int (0 : Int32)), .val (.ref r_NULL), .unset, .unset, .unset, .unset] [(.int (0 : Int32))])) rfl (by rw [hml]; rfl) (argsL := [(.int (0 : Int32))]) (rest := []) (lenOf pd_0 rfl) rfl rfl (Nat.le_refl _) (hb hby at_21)
      obtain ⟨rfl, n26, K26⟩ := q26
      have N26 := Fr.app N25 n26
      refine Goes.go (U' := (T26.setTop (mkF m 24 #[.val (.int pa), .val (.int pb), .val (.int (2 : Int32)), .val (.int (0 : Int32)), .val (.ref r_NULL), .unset, .unset, .unset, .unset] [(.ref r_INTEGER)]))) st26 ?_
      refine Goes.go (U' := (T26.setTop (mkF m 44 #[.val (.int pa), .val (.int pb), .val (.int (2 : Int32)), .val (.int (0 : Int32)), .val (.ref r_NULL), .val (.ref r_INTEGER), .val (.int (1 : Int32)), .unset, .unset] [(.ref r_INTEGER), (.ref r_NULL)]))) (fun t kt => ?_) ?_
      · show Steps p.tables e below (T26.setTop (mkF m 24 #[.val (.int pa), .val (.int pb), .val (.int (2 : Int32)), .val (.int (0 : Int32)), .val (.ref r_NULL), .unset, .unset, .unset, .unset] [(.ref r_INTEGER)])) t
        refine XS.astore X26.here hx rfl (hb hby at_24) rfl rfl (l' := #[.val (.int pa), .val (.int pb), .val (.int (2 : Int32)), .val (.int (0 : Int32)), .val (.ref r_NULL), .val (.ref r_INTEGER), .unset, .unset, .unset]) rfl ?_
        show Steps p.tables e below (T26.setTop (mkF m 26 #[.val (.int pa), .val (.int pb), .val (.int (2 : Int32)), .val (.int (0 : Int32)), .val (.ref r_NULL), .val (.ref r_INTEGER), .unset, .unset, .unset] [])) t
        refine XS.iloadN X26.here hx rfl (hb hby at_26) rfl ?_
        show Steps p.tables e below (T26.setTop (mkF m 27 #[.val (.int pa), .val (.int pb), .val (.int (2 : Int32)), .val (.int (0 : Int32)), .val (.ref r_NULL), .val (.ref r_INTEGER), .unset, .unset, .unset] [(.int (2 : Int32))])) t
        refine XS.iloadN X26.here hx rfl (hb hby at_27) rfl ?_
        show Steps p.tables e below (T26.setTop (mkF m 28 #[.val (.int pa), .val (.int pb), .val (.int (2 : Int32)), .val (.int (0 : Int32)), .val (.ref r_NULL), .val (.ref r_INTEGER), .unset, .unset, .unset] [(.int (0 : Int32)), (.int (2 : Int32))])) t
        refine XS.iadd X26.here hx rfl (hb hby at_28) rfl ?_
        show Steps p.tables e below (T26.setTop (mkF m 29 #[.val (.int pa), .val (.int pb), .val (.int (2 : Int32)), .val (.int (0 : Int32)), .val (.ref r_NULL), .val (.ref r_INTEGER), .unset, .unset, .unset] [(.int ((2 : Int32) + (0 : Int32)))])) t
        refine XS.iconst X26.here hx rfl (hb hby at_29) ?_
        show Steps p.tables e below (T26.setTop (mkF m 30 #[.val (.int pa), .val (.int pb), .val (.int (2 : Int32)), .val (.int (0 : Int32)), .val (.ref r_NULL), .val (.ref r_INTEGER), .unset, .unset, .unset] [(.int (1 : Int32)), (.int ((2 : Int32) + (0 : Int32)))])) t
        refine XS.icmpNo X26.here hx rfl (hb hby at_30) rfl (XT.ii_eq_f (by decide)) ?_
        show Steps p.tables e below (T26.setTop (mkF m 33 #[.val (.int pa), .val (.int pb), .val (.int (2 : Int32)), .val (.int (0 : Int32)), .val (.ref r_NULL), .val (.ref r_INTEGER), .unset, .unset, .unset] [])) t
        refine XS.iconst X26.here hx rfl (hb hby at_33) ?_
        show Steps p.tables e below (T26.setTop (mkF m 34 #[.val (.int pa), .val (.int pb), .val (.int (2 : Int32)), .val (.int (0 : Int32)), .val (.ref r_NULL), .val (.ref r_INTEGER), .unset, .unset, .unset] [(.int (1 : Int32))])) t
        refine XS.goto X26.here hx rfl (pc0 := 34) (pc' := 38) rfl (hb hby at_34) (by decide) (by decide) ?_
        show Steps p.tables e below (T26.setTop (mkF m 38 #[.val (.int pa), .val (.int pb), .val (.int (2 : Int32)), .val (.int (0 : Int32)), .val (.ref r_NULL), .val (.ref r_INTEGER), .unset, .unset, .unset] [(.int (1 : Int32))])) t
        refine XS.istore X26.here hx rfl (hb hby at_38) rfl (l' := #[.val (.int pa), .val (.int pb), .val (.int (2 : Int32)), .val (.int (0 : Int32)), .val (.ref r_NULL), .val (.ref r_INTEGER), .val (.int (1 : Int32)), .unset, .unset]) rfl ?_
        show Steps p.tables e below (T26.setTop (mkF m 40 #[.val (.int pa), .val (.int pb), .val (.int (2 : Int32)), .val (.int (0 : Int32)), .val (.ref r_NULL), .val (.ref r_INTEGER), .val (.int (1 : Int32)), .unset, .unset] [])) t
        refine XS.aload X26.here hx rfl (hb hby at_40) rfl rfl ?_
        show Steps p.tables e below (T26.setTop (mkF m 42 #[.val (.int pa), .val (.int pb), .val (.int (2 : Int32)), .val (.int (0 : Int32)), .val (.ref r_NULL), .val (.ref r_INTEGER), .val (.int (1 : Int32)), .unset, .unset] [(.ref r_NULL)])) t
        refine XS.aload X26.here hx rfl (hb hby at_42) rfl rfl ?_
        exact kt
      obtain ⟨v27, T27, L27, X27, q27, st27⟩ := callVirtual X26 hx hZ (y := (⟨"com/example/palimpsest/palimpsest/sql/ValueType", "fits", "(Lcom/example/palimpsest/palimpsest/sql/ValueType;)Z"⟩ : MethodName)) (z := (⟨"com/example/palimpsest/palimpsest/sql/ValueType", "fits", "(Lcom/example/palimpsest/palimpsest/sql/ValueType;)Z"⟩ : MethodName)) (W := 0) hown (wdOf hw 8 rfl) (wdOf hw 9 rfl) (notFace_of_selects (args := #[]) (mvT hZ (wdOf hw 11 rfl))) (wdOf hw 11 rfl) (wdOf hw 10 rfl) (wdOf hw 6 rfl) (wdOf hw 12 rfl) (by decide) (rm_fits l Z a0 hw [] r_NULL r_INTEGER r_NULL (1 : Int32) h0 n0 Z0 S_NULL (by simp [])) (by decide) (by decide) (by decide) (by decide) K26 E_NULL (g := (mkF m 44 #[.val (.int pa), .val (.int pb), .val (.int (2 : Int32)), .val (.int (0 : Int32)), .val (.ref r_NULL), .val (.ref r_INTEGER), .val (.int (1 : Int32)), .unset, .unset] [(.ref r_INTEGER), (.ref r_NULL)])) rfl (by rw [hml]; rfl) (argsL := [(.ref r_INTEGER)]) (rest := []) (lenOf pd_1 rfl) rfl rfl (Nat.le_refl _) (hb hby at_44)
      obtain ⟨rfl, n27, K27⟩ := q27
      have N27 := Fr.app N26 n27
      refine Goes.go (U' := (T27.setTop (mkF m 47 #[.val (.int pa), .val (.int pb), .val (.int (2 : Int32)), .val (.int (0 : Int32)), .val (.ref r_NULL), .val (.ref r_INTEGER), .val (.int (1 : Int32)), .unset, .unset] [(.int (1 : Int32))]))) st27 ?_
      refine Goes.go (U' := (T27.setTop (mkF m 53 #[.val (.int pa), .val (.int pb), .val (.int (2 : Int32)), .val (.int (0 : Int32)), .val (.ref r_NULL), .val (.ref r_INTEGER), .val (.int (1 : Int32)), .val (.int (1 : Int32)), .unset] [(.ref r_NULL), (.ref r_INTEGER)]))) (fun t kt => ?_) ?_
      · show Steps p.tables e below (T27.setTop (mkF m 47 #[.val (.int pa), .val (.int pb), .val (.int (2 : Int32)), .val (.int (0 : Int32)), .val (.ref r_NULL), .val (.ref r_INTEGER), .val (.int (1 : Int32)), .unset, .unset] [(.int (1 : Int32))])) t
        refine XS.istore X27.here hx rfl (hb hby at_47) rfl (l' := #[.val (.int pa), .val (.int pb), .val (.int (2 : Int32)), .val (.int (0 : Int32)), .val (.ref r_NULL), .val (.ref r_INTEGER), .val (.int (1 : Int32)), .val (.int (1 : Int32)), .unset]) rfl ?_
        show Steps p.tables e below (T27.setTop (mkF m 49 #[.val (.int pa), .val (.int pb), .val (.int (2 : Int32)), .val (.int (0 : Int32)), .val (.ref r_NULL), .val (.ref r_INTEGER), .val (.int (1 : Int32)), .val (.int (1 : Int32)), .unset] [])) t
        refine XS.aload X27.here hx rfl (hb hby at_49) rfl rfl ?_
        show Steps p.tables e below (T27.setTop (mkF m 51 #[.val (.int pa), .val (.int pb), .val (.int (2 : Int32)), .val (.int (0 : Int32)), .val (.ref r_NULL), .val (.ref r_INTEGER), .val (.int (1 : Int32)), .val (.int (1 : Int32)), .unset] [(.ref r_INTEGER)])) t
        refine XS.aload X27.here hx rfl (hb hby at_51) rfl rfl ?_
        exact kt
      obtain ⟨v28, T28, L28, X28, q28, st28⟩ := callVirtual X27 hx hZ (y := (⟨"com/example/palimpsest/palimpsest/sql/ValueType", "fits", "(Lcom/example/palimpsest/palimpsest/sql/ValueType;)Z"⟩ : MethodName)) (z := (⟨"com/example/palimpsest/palimpsest/sql/ValueType", "fits", "(Lcom/example/palimpsest/palimpsest/sql/ValueType;)Z"⟩ : MethodName)) (W := 0) hown (wdOf hw 8 rfl) (wdOf hw 9 rfl) (notFace_of_selects (args := #[]) (mvT hZ (wdOf hw 11 rfl))) (wdOf hw 11 rfl) (wdOf hw 10 rfl) (wdOf hw 6 rfl) (wdOf hw 12 rfl) (by decide) (rm_fits l Z a0 hw [] r_INTEGER r_NULL r_NULL (1 : Int32) h0 n0 Z0 S_NULL (by simp [])) (by decide) (by decide) (by decide) (by decide) K27 E_INTEGER (g := (mkF m 53 #[.val (.int pa), .val (.int pb), .val (.int (2 : Int32)), .val (.int (0 : Int32)), .val (.ref r_NULL), .val (.ref r_INTEGER), .val (.int (1 : Int32)), .val (.int (1 : Int32)), .unset] [(.ref r_NULL), (.ref r_INTEGER)])) rfl (by rw [hml]; rfl) (argsL := [(.ref r_NULL)]) (rest := []) (lenOf pd_1 rfl) rfl rfl (Nat.le_refl _) (hb hby at_53)
      obtain ⟨rfl, n28, K28⟩ := q28
      have N28 := Fr.app N27 n28
      refine Goes.go (U' := (T28.setTop (mkF m 56 #[.val (.int pa), .val (.int pb), .val (.int (2 : Int32)), .val (.int (0 : Int32)), .val (.ref r_NULL), .val (.ref r_INTEGER), .val (.int (1 : Int32)), .val (.int (1 : Int32)), .unset] [(.int (1 : Int32))]))) st28 ?_
      refine Goes.go (U' := (T28.setTop (mkF m 77 #[.val (.int pa), .val (.int pb), .val (.int (2 : Int32)), .val (.int (0 : Int32)), .val (.ref r_NULL), .val (.ref r_INTEGER), .val (.int (1 : Int32)), .val (.int (1 : Int32)), .val (.int (1 : Int32))] [(.int (1 : Int32))]))) (fun t kt => ?_) ?_
      · show Steps p.tables e below (T28.setTop (mkF m 56 #[.val (.int pa), .val (.int pb), .val (.int (2 : Int32)), .val (.int (0 : Int32)), .val (.ref r_NULL), .val (.ref r_INTEGER), .val (.int (1 : Int32)), .val (.int (1 : Int32)), .unset] [(.int (1 : Int32))])) t
        refine XS.istore X28.here hx rfl (hb hby at_56) rfl (l' := #[.val (.int pa), .val (.int pb), .val (.int (2 : Int32)), .val (.int (0 : Int32)), .val (.ref r_NULL), .val (.ref r_INTEGER), .val (.int (1 : Int32)), .val (.int (1 : Int32)), .val (.int (1 : Int32))]) rfl ?_
        show Steps p.tables e below (T28.setTop (mkF m 58 #[.val (.int pa), .val (.int pb), .val (.int (2 : Int32)), .val (.int (0 : Int32)), .val (.ref r_NULL), .val (.ref r_INTEGER), .val (.int (1 : Int32)), .val (.int (1 : Int32)), .val (.int (1 : Int32))] [])) t
        refine XS.iload X28.here hx rfl (hb hby at_58) rfl ?_
        show Steps p.tables e below (T28.setTop (mkF m 60 #[.val (.int pa), .val (.int pb), .val (.int (2 : Int32)), .val (.int (0 : Int32)), .val (.ref r_NULL), .val (.ref r_INTEGER), .val (.int (1 : Int32)), .val (.int (1 : Int32)), .val (.int (1 : Int32))] [(.int (1 : Int32))])) t
        refine XS.iload X28.here hx rfl (hb hby at_60) rfl ?_
        show Steps p.tables e below (T28.setTop (mkF m 62 #[.val (.int pa), .val (.int pb), .val (.int (2 : Int32)), .val (.int (0 : Int32)), .val (.ref r_NULL), .val (.ref r_INTEGER), .val (.int (1 : Int32)), .val (.int (1 : Int32)), .val (.int (1 : Int32))] [(.int (1 : Int32)), (.int (1 : Int32))])) t
        refine XS.icmpNo X28.here hx rfl (hb hby at_62) rfl (XT.ii_ne_f (by decide)) ?_
        show Steps p.tables e below (T28.setTop (mkF m 65 #[.val (.int pa), .val (.int pb), .val (.int (2 : Int32)), .val (.int (0 : Int32)), .val (.ref r_NULL), .val (.ref r_INTEGER), .val (.int (1 : Int32)), .val (.int (1 : Int32)), .val (.int (1 : Int32))] [])) t
        refine XS.iload X28.here hx rfl (hb hby at_65) rfl ?_
        show Steps p.tables e below (T28.setTop (mkF m 67 #[.val (.int pa), .val (.int pb), .val (.int (2 : Int32)), .val (.int (0 : Int32)), .val (.ref r_NULL), .val (.ref r_INTEGER), .val (.int (1 : Int32)), .val (.int (1 : Int32)), .val (.int (1 : Int32))] [(.int (1 : Int32))])) t
        refine XS.iload X28.here hx rfl (hb hby at_67) rfl ?_
        show Steps p.tables e below (T28.setTop (mkF m 69 #[.val (.int pa), .val (.int pb), .val (.int (2 : Int32)), .val (.int (0 : Int32)), .val (.ref r_NULL), .val (.ref r_INTEGER), .val (.int (1 : Int32)), .val (.int (1 : Int32)), .val (.int (1 : Int32))] [(.int (1 : Int32)), (.int (1 : Int32))])) t
        refine XS.icmpNo X28.here hx rfl (hb hby at_69) rfl (XT.ii_ne_f (by decide)) ?_
        show Steps p.tables e below (T28.setTop (mkF m 72 #[.val (.int pa), .val (.int pb), .val (.int (2 : Int32)), .val (.int (0 : Int32)), .val (.ref r_NULL), .val (.ref r_INTEGER), .val (.int (1 : Int32)), .val (.int (1 : Int32)), .val (.int (1 : Int32))] [])) t
        refine XS.iconst X28.here hx rfl (hb hby at_72) ?_
        show Steps p.tables e below (T28.setTop (mkF m 73 #[.val (.int pa), .val (.int pb), .val (.int (2 : Int32)), .val (.int (0 : Int32)), .val (.ref r_NULL), .val (.ref r_INTEGER), .val (.int (1 : Int32)), .val (.int (1 : Int32)), .val (.int (1 : Int32))] [(.int (1 : Int32))])) t
        refine XS.goto X28.here hx rfl (pc0 := 73) (pc' := 77) rfl (hb hby at_73) (by decide) (by decide) ?_
        exact kt
      refine Goes.retB X28 hx hlk hret (hb hby at_77) (by decide) (by decide) ?_
      try rw [K28]
      exact ⟨rfl, N28⟩
    · -- case 1
      rw [hj]
      refine Goes.go (U' := (s₁.setTop (mkF m 15 #[.val (.int pa), .val (.int pb), .val (.int (2 : Int32)), .val (.int (1 : Int32)), .unset, .unset, .unset, .unset, .unset] [(.int (2 : Int32))]))) (fun t kt => ?_) ?_
      · show Steps p.tables e below (s₁.setTop (mkF m 13 #[.val (.int pa), .val (.int pb), .val (.int (2 : Int32)), .unset, .unset, .unset, .unset, .unset, .unset] [(.int (1 : Int32))])) t
        refine XS.istoreN X0.here hx rfl (hb hby at_13) rfl (l' := #[.val (.int pa), .val (.int pb), .val (.int (2 : Int32)), .val (.int (1 : Int32)), .unset, .unset, .unset, .unset, .unset]) rfl ?_
        show Steps p.tables e below (s₁.setTop (mkF m 14 #[.val (.int pa), .val (.int pb), .val (.int (2 : Int32)), .val (.int (1 : Int32)), .unset, .unset, .unset, .unset, .unset] [])) t
        refine XS.iloadN X0.here hx rfl (hb hby at_14) rfl ?_
        exact kt
      obtain ⟨v29, T29, L29, X29, q29, st29⟩ := callStatic X0 hx hZ (y := (⟨"com/example/palimpsest/palimpsest/sql/ValueTypeFitsPinLaw", "pick", "(I)Lcom/example/palimpsest/palimpsest/sql/ValueType;"⟩ : MethodName)) (W := 0) hown (wdOf hw 1 rfl) (wdOf hw 2 rfl) (wdOf hw 3 rfl) (wdOf hw 4 rfl) (by decide) (rm_pick l Z a0 hw [] (2 : Int32) r_NULL r_INTEGER r_STRING r_NULL h0 n0 Z0 S_INTEGER S_STRING S_NULL (by simp)) (by decide) (by decide) (by decide) (by decide) e0 (g := (mkF m 15 #[.val (.int pa), .val (.int pb), .val (.int (2 : Int32)), .val (.int (1 : Int32)), .unset, .unset, .unset, .unset, .unset] [(.int (2 : Int32))])) rfl (by rw [hml]; rfl) (argsL := [(.int (2 : Int32))]) (rest := []) (lenOf pd_0 rfl) rfl rfl (Nat.le_refl _) (hb hby at_15)
      obtain ⟨rfl, n29, K29⟩ := q29
      have N29 := Fr.app N0 n29
      refine Goes.go (U' := (T29.setTop (mkF m 18 #[.val (.int pa), .val (.int pb), .val (.int (2 : Int32)), .val (.int (1 : Int32)), .unset, .unset, .unset, .unset, .unset] [(.ref r_NULL)]))) st29 ?_
      refine Goes.go (U' := (T29.setTop (mkF m 21 #[.val (.int pa), .val (.int pb), .val (.int (2 : Int32)), .val (.int (1 : Int32)), .val (.ref r_NULL), .unset, .unset, .unset, .unset] [(.int (1 : Int32))]))) (fun t kt => ?_) ?_
      · show Steps p.tables e below (T29.setTop (mkF m 18 #[.val (.int pa), .val (.int pb), .val (.int (2 : Int32)), .val (.int (1 : Int32)), .unset, .unset, .unset, .unset, .unset] [(.ref r_NULL)])) t
        refine XS.astore X29.here hx rfl (hb hby at_18) rfl rfl (l' := #[.val (.int pa), .val (.int pb), .val (.int (2 : Int32)), .val (.int (1 : Int32)), .val (.ref r_NULL), .unset, .unset, .unset, .unset]) rfl ?_
        show Steps p.tables e below (T29.setTop (mkF m 20 #[.val (.int pa), .val (.int pb), .val (.int (2 : Int32)), .val (.int (1 : Int32)), .val (.ref r_NULL), .unset, .unset, .unset, .unset] [])) t
        refine XS.iloadN X29.here hx rfl (hb hby at_20) rfl ?_
        exact kt
      obtain ⟨v30, T30, L30, X30, q30, st30⟩ := callStatic X29 hx hZ (y := (⟨"com/example/palimpsest/palimpsest/sql/ValueTypeFitsPinLaw", "pick", "(I)Lcom/example/palimpsest/palimpsest/sql/ValueType;"⟩ : MethodName)) (W := 0) hown (wdOf hw 1 rfl) (wdOf hw 2 rfl) (wdOf hw 3 rfl) (wdOf hw 4 rfl) (by decide) (rm_pick l Z a0 hw [] (1 : Int32) r_STRING r_INTEGER r_STRING r_NULL h0 n0 Z0 S_INTEGER S_STRING S_NULL (by simp)) (by decide) (by decide) (by decide) (by decide) K29 (g := (mkF m 21 #[.val (.int pa), .val (.int pb), .val (.int (2 : Int32)), .val (.int (1 : Int32)), .val (.ref r_NULL), .unset, .unset, .unset, .unset] [(.int (1 : Int32))])) rfl (by rw [hml]; rfl) (argsL := [(.int (1 : Int32))]) (rest := []) (lenOf pd_0 rfl) rfl rfl (Nat.le_refl _) (hb hby at_21)
      obtain ⟨rfl, n30, K30⟩ := q30
      have N30 := Fr.app N29 n30
      refine Goes.go (U' := (T30.setTop (mkF m 24 #[.val (.int pa), .val (.int pb), .val (.int (2 : Int32)), .val (.int (1 : Int32)), .val (.ref r_NULL), .unset, .unset, .unset, .unset] [(.ref r_STRING)]))) st30 ?_
      refine Goes.go (U' := (T30.setTop (mkF m 44 #[.val (.int pa), .val (.int pb), .val (.int (2 : Int32)), .val (.int (1 : Int32)), .val (.ref r_NULL), .val (.ref r_STRING), .val (.int (1 : Int32)), .unset, .unset] [(.ref r_STRING), (.ref r_NULL)]))) (fun t kt => ?_) ?_
      · show Steps p.tables e below (T30.setTop (mkF m 24 #[.val (.int pa), .val (.int pb), .val (.int (2 : Int32)), .val (.int (1 : Int32)), .val (.ref r_NULL), .unset, .unset, .unset, .unset] [(.ref r_STRING)])) t
        refine XS.astore X30.here hx rfl (hb hby at_24) rfl rfl (l' := #[.val (.int pa), .val (.int pb), .val (.int (2 : Int32)), .val (.int (1 : Int32)), .val (.ref r_NULL), .val (.ref r_STRING), .unset, .unset, .unset]) rfl ?_
        show Steps p.tables e below (T30.setTop (mkF m 26 #[.val (.int pa), .val (.int pb), .val (.int (2 : Int32)), .val (.int (1 : Int32)), .val (.ref r_NULL), .val (.ref r_STRING), .unset, .unset, .unset] [])) t
        refine XS.iloadN X30.here hx rfl (hb hby at_26) rfl ?_
        show Steps p.tables e below (T30.setTop (mkF m 27 #[.val (.int pa), .val (.int pb), .val (.int (2 : Int32)), .val (.int (1 : Int32)), .val (.ref r_NULL), .val (.ref r_STRING), .unset, .unset, .unset] [(.int (2 : Int32))])) t
        refine XS.iloadN X30.here hx rfl (hb hby at_27) rfl ?_
        show Steps p.tables e below (T30.setTop (mkF m 28 #[.val (.int pa), .val (.int pb), .val (.int (2 : Int32)), .val (.int (1 : Int32)), .val (.ref r_NULL), .val (.ref r_STRING), .unset, .unset, .unset] [(.int (1 : Int32)), (.int (2 : Int32))])) t
        refine XS.iadd X30.here hx rfl (hb hby at_28) rfl ?_
        show Steps p.tables e below (T30.setTop (mkF m 29 #[.val (.int pa), .val (.int pb), .val (.int (2 : Int32)), .val (.int (1 : Int32)), .val (.ref r_NULL), .val (.ref r_STRING), .unset, .unset, .unset] [(.int ((2 : Int32) + (1 : Int32)))])) t
        refine XS.iconst X30.here hx rfl (hb hby at_29) ?_
        show Steps p.tables e below (T30.setTop (mkF m 30 #[.val (.int pa), .val (.int pb), .val (.int (2 : Int32)), .val (.int (1 : Int32)), .val (.ref r_NULL), .val (.ref r_STRING), .unset, .unset, .unset] [(.int (1 : Int32)), (.int ((2 : Int32) + (1 : Int32)))])) t
        refine XS.icmpNo X30.here hx rfl (hb hby at_30) rfl (XT.ii_eq_f (by decide)) ?_
        show Steps p.tables e below (T30.setTop (mkF m 33 #[.val (.int pa), .val (.int pb), .val (.int (2 : Int32)), .val (.int (1 : Int32)), .val (.ref r_NULL), .val (.ref r_STRING), .unset, .unset, .unset] [])) t
        refine XS.iconst X30.here hx rfl (hb hby at_33) ?_
        show Steps p.tables e below (T30.setTop (mkF m 34 #[.val (.int pa), .val (.int pb), .val (.int (2 : Int32)), .val (.int (1 : Int32)), .val (.ref r_NULL), .val (.ref r_STRING), .unset, .unset, .unset] [(.int (1 : Int32))])) t
        refine XS.goto X30.here hx rfl (pc0 := 34) (pc' := 38) rfl (hb hby at_34) (by decide) (by decide) ?_
        show Steps p.tables e below (T30.setTop (mkF m 38 #[.val (.int pa), .val (.int pb), .val (.int (2 : Int32)), .val (.int (1 : Int32)), .val (.ref r_NULL), .val (.ref r_STRING), .unset, .unset, .unset] [(.int (1 : Int32))])) t
        refine XS.istore X30.here hx rfl (hb hby at_38) rfl (l' := #[.val (.int pa), .val (.int pb), .val (.int (2 : Int32)), .val (.int (1 : Int32)), .val (.ref r_NULL), .val (.ref r_STRING), .val (.int (1 : Int32)), .unset, .unset]) rfl ?_
        show Steps p.tables e below (T30.setTop (mkF m 40 #[.val (.int pa), .val (.int pb), .val (.int (2 : Int32)), .val (.int (1 : Int32)), .val (.ref r_NULL), .val (.ref r_STRING), .val (.int (1 : Int32)), .unset, .unset] [])) t
        refine XS.aload X30.here hx rfl (hb hby at_40) rfl rfl ?_
        show Steps p.tables e below (T30.setTop (mkF m 42 #[.val (.int pa), .val (.int pb), .val (.int (2 : Int32)), .val (.int (1 : Int32)), .val (.ref r_NULL), .val (.ref r_STRING), .val (.int (1 : Int32)), .unset, .unset] [(.ref r_NULL)])) t
        refine XS.aload X30.here hx rfl (hb hby at_42) rfl rfl ?_
        exact kt
      obtain ⟨v31, T31, L31, X31, q31, st31⟩ := callVirtual X30 hx hZ (y := (⟨"com/example/palimpsest/palimpsest/sql/ValueType", "fits", "(Lcom/example/palimpsest/palimpsest/sql/ValueType;)Z"⟩ : MethodName)) (z := (⟨"com/example/palimpsest/palimpsest/sql/ValueType", "fits", "(Lcom/example/palimpsest/palimpsest/sql/ValueType;)Z"⟩ : MethodName)) (W := 0) hown (wdOf hw 8 rfl) (wdOf hw 9 rfl) (notFace_of_selects (args := #[]) (mvT hZ (wdOf hw 11 rfl))) (wdOf hw 11 rfl) (wdOf hw 10 rfl) (wdOf hw 6 rfl) (wdOf hw 12 rfl) (by decide) (rm_fits l Z a0 hw [] r_NULL r_STRING r_NULL (1 : Int32) h0 n0 Z0 S_NULL (by simp [])) (by decide) (by decide) (by decide) (by decide) K30 E_NULL (g := (mkF m 44 #[.val (.int pa), .val (.int pb), .val (.int (2 : Int32)), .val (.int (1 : Int32)), .val (.ref r_NULL), .val (.ref r_STRING), .val (.int (1 : Int32)), .unset, .unset] [(.ref r_STRING), (.ref r_NULL)])) rfl (by rw [hml]; rfl) (argsL := [(.ref r_STRING)]) (rest := []) (lenOf pd_1 rfl) rfl rfl (Nat.le_refl _) (hb hby at_44)
      obtain ⟨rfl, n31, K31⟩ := q31
      have N31 := Fr.app N30 n31
      refine Goes.go (U' := (T31.setTop (mkF m 47 #[.val (.int pa), .val (.int pb), .val (.int (2 : Int32)), .val (.int (1 : Int32)), .val (.ref r_NULL), .val (.ref r_STRING), .val (.int (1 : Int32)), .unset, .unset] [(.int (1 : Int32))]))) st31 ?_
      refine Goes.go (U' := (T31.setTop (mkF m 53 #[.val (.int pa), .val (.int pb), .val (.int (2 : Int32)), .val (.int (1 : Int32)), .val (.ref r_NULL), .val (.ref r_STRING), .val (.int (1 : Int32)), .val (.int (1 : Int32)), .unset] [(.ref r_NULL), (.ref r_STRING)]))) (fun t kt => ?_) ?_
      · show Steps p.tables e below (T31.setTop (mkF m 47 #[.val (.int pa), .val (.int pb), .val (.int (2 : Int32)), .val (.int (1 : Int32)), .val (.ref r_NULL), .val (.ref r_STRING), .val (.int (1 : Int32)), .unset, .unset] [(.int (1 : Int32))])) t
        refine XS.istore X31.here hx rfl (hb hby at_47) rfl (l' := #[.val (.int pa), .val (.int pb), .val (.int (2 : Int32)), .val (.int (1 : Int32)), .val (.ref r_NULL), .val (.ref r_STRING), .val (.int (1 : Int32)), .val (.int (1 : Int32)), .unset]) rfl ?_
        show Steps p.tables e below (T31.setTop (mkF m 49 #[.val (.int pa), .val (.int pb), .val (.int (2 : Int32)), .val (.int (1 : Int32)), .val (.ref r_NULL), .val (.ref r_STRING), .val (.int (1 : Int32)), .val (.int (1 : Int32)), .unset] [])) t
        refine XS.aload X31.here hx rfl (hb hby at_49) rfl rfl ?_
        show Steps p.tables e below (T31.setTop (mkF m 51 #[.val (.int pa), .val (.int pb), .val (.int (2 : Int32)), .val (.int (1 : Int32)), .val (.ref r_NULL), .val (.ref r_STRING), .val (.int (1 : Int32)), .val (.int (1 : Int32)), .unset] [(.ref r_STRING)])) t
        refine XS.aload X31.here hx rfl (hb hby at_51) rfl rfl ?_
        exact kt
      obtain ⟨v32, T32, L32, X32, q32, st32⟩ := callVirtual X31 hx hZ (y := (⟨"com/example/palimpsest/palimpsest/sql/ValueType", "fits", "(Lcom/example/palimpsest/palimpsest/sql/ValueType;)Z"⟩ : MethodName)) (z := (⟨"com/example/palimpsest/palimpsest/sql/ValueType", "fits", "(Lcom/example/palimpsest/palimpsest/sql/ValueType;)Z"⟩ : MethodName)) (W := 0) hown (wdOf hw 8 rfl) (wdOf hw 9 rfl) (notFace_of_selects (args := #[]) (mvT hZ (wdOf hw 11 rfl))) (wdOf hw 11 rfl) (wdOf hw 10 rfl) (wdOf hw 6 rfl) (wdOf hw 12 rfl) (by decide) (rm_fits l Z a0 hw [] r_STRING r_NULL r_NULL (1 : Int32) h0 n0 Z0 S_NULL (by simp [])) (by decide) (by decide) (by decide) (by decide) K31 E_STRING (g := (mkF m 53 #[.val (.int pa), .val (.int pb), .val (.int (2 : Int32)), .val (.int (1 : Int32)), .val (.ref r_NULL), .val (.ref r_STRING), .val (.int (1 : Int32)), .val (.int (1 : Int32)), .unset] [(.ref r_NULL), (.ref r_STRING)])) rfl (by rw [hml]; rfl) (argsL := [(.ref r_NULL)]) (rest := []) (lenOf pd_1 rfl) rfl rfl (Nat.le_refl _) (hb hby at_53)
      obtain ⟨rfl, n32, K32⟩ := q32
      have N32 := Fr.app N31 n32
      refine Goes.go (U' := (T32.setTop (mkF m 56 #[.val (.int pa), .val (.int pb), .val (.int (2 : Int32)), .val (.int (1 : Int32)), .val (.ref r_NULL), .val (.ref r_STRING), .val (.int (1 : Int32)), .val (.int (1 : Int32)), .unset] [(.int (1 : Int32))]))) st32 ?_
      refine Goes.go (U' := (T32.setTop (mkF m 77 #[.val (.int pa), .val (.int pb), .val (.int (2 : Int32)), .val (.int (1 : Int32)), .val (.ref r_NULL), .val (.ref r_STRING), .val (.int (1 : Int32)), .val (.int (1 : Int32)), .val (.int (1 : Int32))] [(.int (1 : Int32))]))) (fun t kt => ?_) ?_
      · show Steps p.tables e below (T32.setTop (mkF m 56 #[.val (.int pa), .val (.int pb), .val (.int (2 : Int32)), .val (.int (1 : Int32)), .val (.ref r_NULL), .val (.ref r_STRING), .val (.int (1 : Int32)), .val (.int (1 : Int32)), .unset] [(.int (1 : Int32))])) t
        refine XS.istore X32.here hx rfl (hb hby at_56) rfl (l' := #[.val (.int pa), .val (.int pb), .val (.int (2 : Int32)), .val (.int (1 : Int32)), .val (.ref r_NULL), .val (.ref r_STRING), .val (.int (1 : Int32)), .val (.int (1 : Int32)), .val (.int (1 : Int32))]) rfl ?_
        show Steps p.tables e below (T32.setTop (mkF m 58 #[.val (.int pa), .val (.int pb), .val (.int (2 : Int32)), .val (.int (1 : Int32)), .val (.ref r_NULL), .val (.ref r_STRING), .val (.int (1 : Int32)), .val (.int (1 : Int32)), .val (.int (1 : Int32))] [])) t
        refine XS.iload X32.here hx rfl (hb hby at_58) rfl ?_
        show Steps p.tables e below (T32.setTop (mkF m 60 #[.val (.int pa), .val (.int pb), .val (.int (2 : Int32)), .val (.int (1 : Int32)), .val (.ref r_NULL), .val (.ref r_STRING), .val (.int (1 : Int32)), .val (.int (1 : Int32)), .val (.int (1 : Int32))] [(.int (1 : Int32))])) t
        refine XS.iload X32.here hx rfl (hb hby at_60) rfl ?_
        show Steps p.tables e below (T32.setTop (mkF m 62 #[.val (.int pa), .val (.int pb), .val (.int (2 : Int32)), .val (.int (1 : Int32)), .val (.ref r_NULL), .val (.ref r_STRING), .val (.int (1 : Int32)), .val (.int (1 : Int32)), .val (.int (1 : Int32))] [(.int (1 : Int32)), (.int (1 : Int32))])) t
        refine XS.icmpNo X32.here hx rfl (hb hby at_62) rfl (XT.ii_ne_f (by decide)) ?_
        show Steps p.tables e below (T32.setTop (mkF m 65 #[.val (.int pa), .val (.int pb), .val (.int (2 : Int32)), .val (.int (1 : Int32)), .val (.ref r_NULL), .val (.ref r_STRING), .val (.int (1 : Int32)), .val (.int (1 : Int32)), .val (.int (1 : Int32))] [])) t
        refine XS.iload X32.here hx rfl (hb hby at_65) rfl ?_
        show Steps p.tables e below (T32.setTop (mkF m 67 #[.val (.int pa), .val (.int pb), .val (.int (2 : Int32)), .val (.int (1 : Int32)), .val (.ref r_NULL), .val (.ref r_STRING), .val (.int (1 : Int32)), .val (.int (1 : Int32)), .val (.int (1 : Int32))] [(.int (1 : Int32))])) t
        refine XS.iload X32.here hx rfl (hb hby at_67) rfl ?_
        show Steps p.tables e below (T32.setTop (mkF m 69 #[.val (.int pa), .val (.int pb), .val (.int (2 : Int32)), .val (.int (1 : Int32)), .val (.ref r_NULL), .val (.ref r_STRING), .val (.int (1 : Int32)), .val (.int (1 : Int32)), .val (.int (1 : Int32))] [(.int (1 : Int32)), (.int (1 : Int32))])) t
        refine XS.icmpNo X32.here hx rfl (hb hby at_69) rfl (XT.ii_ne_f (by decide)) ?_
        show Steps p.tables e below (T32.setTop (mkF m 72 #[.val (.int pa), .val (.int pb), .val (.int (2 : Int32)), .val (.int (1 : Int32)), .val (.ref r_NULL), .val (.ref r_STRING), .val (.int (1 : Int32)), .val (.int (1 : Int32)), .val (.int (1 : Int32))] [])) t
        refine XS.iconst X32.here hx rfl (hb hby at_72) ?_
        show Steps p.tables e below (T32.setTop (mkF m 73 #[.val (.int pa), .val (.int pb), .val (.int (2 : Int32)), .val (.int (1 : Int32)), .val (.ref r_NULL), .val (.ref r_STRING), .val (.int (1 : Int32)), .val (.int (1 : Int32)), .val (.int (1 : Int32))] [(.int (1 : Int32))])) t
        refine XS.goto X32.here hx rfl (pc0 := 73) (pc' := 77) rfl (hb hby at_73) (by decide) (by decide) ?_
        exact kt
      refine Goes.retB X32 hx hlk hret (hb hby at_77) (by decide) (by decide) ?_
      try rw [K32]
      exact ⟨rfl, N32⟩
    · -- case 2
      rw [hj]
      refine Goes.go (U' := (s₁.setTop (mkF m 15 #[.val (.int pa), .val (.int pb), .val (.int (2 : Int32)), .val (.int (2 : Int32)), .unset, .unset, .unset, .unset, .unset] [(.int (2 : Int32))]))) (fun t kt => ?_) ?_
      · show Steps p.tables e below (s₁.setTop (mkF m 13 #[.val (.int pa), .val (.int pb), .val (.int (2 : Int32)), .unset, .unset, .unset, .unset, .unset, .unset] [(.int (2 : Int32))])) t
        refine XS.istoreN X0.here hx rfl (hb hby at_13) rfl (l' := #[.val (.int pa), .val (.int pb), .val (.int (2 : Int32)), .val (.int (2 : Int32)), .unset, .unset, .unset, .unset, .unset]) rfl ?_
        show Steps p.tables e below (s₁.setTop (mkF m 14 #[.val (.int pa), .val (.int pb), .val (.int (2 : Int32)), .val (.int (2 : Int32)), .unset, .unset, .unset, .unset, .unset] [])) t
        refine XS.iloadN X0.here hx rfl (hb hby at_14) rfl ?_
        exact kt
      obtain ⟨v33, T33, L33, X33, q33, st33⟩ := callStatic X0 hx hZ (y := (⟨"com/example/palimpsest/palimpsest/sql/ValueTypeFitsPinLaw", "pick", "(I)Lcom/example/palimpsest/palimpsest/sql/ValueType;"⟩ : MethodName)) (W := 0) hown (wdOf hw 1 rfl) (wdOf hw 2 rfl) (wdOf hw 3 rfl) (wdOf hw 4 rfl) (by decide) (rm_pick l Z a0 hw [] (2 : Int32) r_NULL r_INTEGER r_STRING r_NULL h0 n0 Z0 S_INTEGER S_STRING S_NULL (by simp)) (by decide) (by decide) (by decide) (by decide) e0 (g := (mkF m 15 #[.val (.int pa), .val (.int pb), .val (.int (2 : Int32)), .val (.int (2 : Int32)), .unset, .unset, .unset, .unset, .unset] [(.int (2 : Int32))])) rfl (by rw [hml]; rfl) (argsL := [(.int (2 : Int32))]) (rest := []) (lenOf pd_0 rfl) rfl rfl (Nat.le_refl _) (hb hby at_15)
      obtain ⟨rfl, n33, K33⟩ := q33
      have N33 := Fr.app N0 n33
      refine Goes.go (U' := (T33.setTop (mkF m 18 #[.val (.int pa), .val (.int pb), .val (.int (2 : Int32)), .val (.int (2 : Int32)), .unset, .unset, .unset, .unset, .unset] [(.ref r_NULL)]))) st33 ?_
      refine Goes.go (U' := (T33.setTop (mkF m 21 #[.val (.int pa), .val (.int pb), .val (.int (2 : Int32)), .val (.int (2 : Int32)), .val (.ref r_NULL), .unset, .unset, .unset, .unset] [(.int (2 : Int32))]))) (fun t kt => ?_) ?_
      · show Steps p.tables e below (T33.setTop (mkF m 18 #[.val (.int pa), .val (.int pb), .val (.int (2 : Int32)), .val (.int (2 : Int32)), .unset, .unset, .unset, .unset, .unset] [(.ref r_NULL)])) t
        refine XS.astore X33.here hx rfl (hb hby at_18) rfl rfl (l' := #[.val (.int pa), .val (.int pb), .val (.int (2 : Int32)), .val (.int (2 : Int32)), .val (.ref r_NULL), .unset, .unset, .unset, .unset]) rfl ?_
        show Steps p.tables e below (T33.setTop (mkF m 20 #[.val (.int pa), .val (.int pb), .val (.int (2 : Int32)), .val (.int (2 : Int32)), .val (.ref r_NULL), .unset, .unset, .unset, .unset] [])) t
        refine XS.iloadN X33.here hx rfl (hb hby at_20) rfl ?_
        exact kt
      obtain ⟨v34, T34, L34, X34, q34, st34⟩ := callStatic X33 hx hZ (y := (⟨"com/example/palimpsest/palimpsest/sql/ValueTypeFitsPinLaw", "pick", "(I)Lcom/example/palimpsest/palimpsest/sql/ValueType;"⟩ : MethodName)) (W := 0) hown (wdOf hw 1 rfl) (wdOf hw 2 rfl) (wdOf hw 3 rfl) (wdOf hw 4 rfl) (by decide) (rm_pick l Z a0 hw [] (2 : Int32) r_NULL r_INTEGER r_STRING r_NULL h0 n0 Z0 S_INTEGER S_STRING S_NULL (by simp)) (by decide) (by decide) (by decide) (by decide) K33 (g := (mkF m 21 #[.val (.int pa), .val (.int pb), .val (.int (2 : Int32)), .val (.int (2 : Int32)), .val (.ref r_NULL), .unset, .unset, .unset, .unset] [(.int (2 : Int32))])) rfl (by rw [hml]; rfl) (argsL := [(.int (2 : Int32))]) (rest := []) (lenOf pd_0 rfl) rfl rfl (Nat.le_refl _) (hb hby at_21)
      obtain ⟨rfl, n34, K34⟩ := q34
      have N34 := Fr.app N33 n34
      refine Goes.go (U' := (T34.setTop (mkF m 24 #[.val (.int pa), .val (.int pb), .val (.int (2 : Int32)), .val (.int (2 : Int32)), .val (.ref r_NULL), .unset, .unset, .unset, .unset] [(.ref r_NULL)]))) st34 ?_
      refine Goes.go (U' := (T34.setTop (mkF m 44 #[.val (.int pa), .val (.int pb), .val (.int (2 : Int32)), .val (.int (2 : Int32)), .val (.ref r_NULL), .val (.ref r_NULL), .val (.int (1 : Int32)), .unset, .unset] [(.ref r_NULL), (.ref r_NULL)]))) (fun t kt => ?_) ?_
      · show Steps p.tables e below (T34.setTop (mkF m 24 #[.val (.int pa), .val (.int pb), .val (.int (2 : Int32)), .val (.int (2 : Int32)), .val (.ref r_NULL), .unset, .unset, .unset, .unset] [(.ref r_NULL)])) t
        refine XS.astore X34.here hx rfl (hb hby at_24) rfl rfl (l' := #[.val (.int pa), .val (.int pb), .val (.int (2 : Int32)), .val (.int (2 : Int32)), .val (.ref r_NULL), .val (.ref r_NULL), .unset, .unset, .unset]) rfl ?_
        show Steps p.tables e below (T34.setTop (mkF m 26 #[.val (.int pa), .val (.int pb), .val (.int (2 : Int32)), .val (.int (2 : Int32)), .val (.ref r_NULL), .val (.ref r_NULL), .unset, .unset, .unset] [])) t
        refine XS.iloadN X34.here hx rfl (hb hby at_26) rfl ?_
        show Steps p.tables e below (T34.setTop (mkF m 27 #[.val (.int pa), .val (.int pb), .val (.int (2 : Int32)), .val (.int (2 : Int32)), .val (.ref r_NULL), .val (.ref r_NULL), .unset, .unset, .unset] [(.int (2 : Int32))])) t
        refine XS.iloadN X34.here hx rfl (hb hby at_27) rfl ?_
        show Steps p.tables e below (T34.setTop (mkF m 28 #[.val (.int pa), .val (.int pb), .val (.int (2 : Int32)), .val (.int (2 : Int32)), .val (.ref r_NULL), .val (.ref r_NULL), .unset, .unset, .unset] [(.int (2 : Int32)), (.int (2 : Int32))])) t
        refine XS.iadd X34.here hx rfl (hb hby at_28) rfl ?_
        show Steps p.tables e below (T34.setTop (mkF m 29 #[.val (.int pa), .val (.int pb), .val (.int (2 : Int32)), .val (.int (2 : Int32)), .val (.ref r_NULL), .val (.ref r_NULL), .unset, .unset, .unset] [(.int ((2 : Int32) + (2 : Int32)))])) t
        refine XS.iconst X34.here hx rfl (hb hby at_29) ?_
        show Steps p.tables e below (T34.setTop (mkF m 30 #[.val (.int pa), .val (.int pb), .val (.int (2 : Int32)), .val (.int (2 : Int32)), .val (.ref r_NULL), .val (.ref r_NULL), .unset, .unset, .unset] [(.int (1 : Int32)), (.int ((2 : Int32) + (2 : Int32)))])) t
        refine XS.icmpNo X34.here hx rfl (hb hby at_30) rfl (XT.ii_eq_f (by decide)) ?_
        show Steps p.tables e below (T34.setTop (mkF m 33 #[.val (.int pa), .val (.int pb), .val (.int (2 : Int32)), .val (.int (2 : Int32)), .val (.ref r_NULL), .val (.ref r_NULL), .unset, .unset, .unset] [])) t
        refine XS.iconst X34.here hx rfl (hb hby at_33) ?_
        show Steps p.tables e below (T34.setTop (mkF m 34 #[.val (.int pa), .val (.int pb), .val (.int (2 : Int32)), .val (.int (2 : Int32)), .val (.ref r_NULL), .val (.ref r_NULL), .unset, .unset, .unset] [(.int (1 : Int32))])) t
        refine XS.goto X34.here hx rfl (pc0 := 34) (pc' := 38) rfl (hb hby at_34) (by decide) (by decide) ?_
        show Steps p.tables e below (T34.setTop (mkF m 38 #[.val (.int pa), .val (.int pb), .val (.int (2 : Int32)), .val (.int (2 : Int32)), .val (.ref r_NULL), .val (.ref r_NULL), .unset, .unset, .unset] [(.int (1 : Int32))])) t
        refine XS.istore X34.here hx rfl (hb hby at_38) rfl (l' := #[.val (.int pa), .val (.int pb), .val (.int (2 : Int32)), .val (.int (2 : Int32)), .val (.ref r_NULL), .val (.ref r_NULL), .val (.int (1 : Int32)), .unset, .unset]) rfl ?_
        show Steps p.tables e below (T34.setTop (mkF m 40 #[.val (.int pa), .val (.int pb), .val (.int (2 : Int32)), .val (.int (2 : Int32)), .val (.ref r_NULL), .val (.ref r_NULL), .val (.int (1 : Int32)), .unset, .unset] [])) t
        refine XS.aload X34.here hx rfl (hb hby at_40) rfl rfl ?_
        show Steps p.tables e below (T34.setTop (mkF m 42 #[.val (.int pa), .val (.int pb), .val (.int (2 : Int32)), .val (.int (2 : Int32)), .val (.ref r_NULL), .val (.ref r_NULL), .val (.int (1 : Int32)), .unset, .unset] [(.ref r_NULL)])) t
        refine XS.aload X34.here hx rfl (hb hby at_42) rfl rfl ?_
        exact kt
      obtain ⟨v35, T35, L35, X35, q35, st35⟩ := callVirtual X34 hx hZ (y := (⟨"com/example/palimpsest/palimpsest/sql/ValueType", "fits", "(Lcom/example/palimpsest/palimpsest/sql/ValueType;)Z"⟩ : MethodName)) (z := (⟨"com/example/palimpsest/palimpsest/sql/ValueType", "fits", "(Lcom/example/palimpsest/palimpsest/sql/ValueType;)Z"⟩ : MethodName)) (W := 0) hown (wdOf hw 8 rfl) (wdOf hw 9 rfl) (notFace_of_selects (args := #[]) (mvT hZ (wdOf hw 11 rfl))) (wdOf hw 11 rfl) (wdOf hw 10 rfl) (wdOf hw 6 rfl) (wdOf hw 12 rfl) (by decide) (rm_fits l Z a0 hw [] r_NULL r_NULL r_NULL (1 : Int32) h0 n0 Z0 S_NULL (by simp [])) (by decide) (by decide) (by decide) (by decide) K34 E_NULL (g := (mkF m 44 #[.val (.int pa), .val (.int pb), .val (.int (2 : Int32)), .val (.int (2 : Int32)), .val (.ref r_NULL), .val (.ref r_NULL), .val (.int (1 : Int32)), .unset, .unset] [(.ref r_NULL), (.ref r_NULL)])) rfl (by rw [hml]; rfl) (argsL := [(.ref r_NULL)]) (rest := []) (lenOf pd_1 rfl) rfl rfl (Nat.le_refl _) (hb hby at_44)
      obtain ⟨rfl, n35, K35⟩ := q35
      have N35 := Fr.app N34 n35
      refine Goes.go (U' := (T35.setTop (mkF m 47 #[.val (.int pa), .val (.int pb), .val (.int (2 : Int32)), .val (.int (2 : Int32)), .val (.ref r_NULL), .val (.ref r_NULL), .val (.int (1 : Int32)), .unset, .unset] [(.int (1 : Int32))]))) st35 ?_
      refine Goes.go (U' := (T35.setTop (mkF m 53 #[.val (.int pa), .val (.int pb), .val (.int (2 : Int32)), .val (.int (2 : Int32)), .val (.ref r_NULL), .val (.ref r_NULL), .val (.int (1 : Int32)), .val (.int (1 : Int32)), .unset] [(.ref r_NULL), (.ref r_NULL)]))) (fun t kt => ?_) ?_
      · show Steps p.tables e below (T35.setTop (mkF m 47 #[.val (.int pa), .val (.int pb), .val (.int (2 : Int32)), .val (.int (2 : Int32)), .val (.ref r_NULL), .val (.ref r_NULL), .val (.int (1 : Int32)), .unset, .unset] [(.int (1 : Int32))])) t
        refine XS.istore X35.here hx rfl (hb hby at_47) rfl (l' := #[.val (.int pa), .val (.int pb), .val (.int (2 : Int32)), .val (.int (2 : Int32)), .val (.ref r_NULL), .val (.ref r_NULL), .val (.int (1 : Int32)), .val (.int (1 : Int32)), .unset]) rfl ?_
        show Steps p.tables e below (T35.setTop (mkF m 49 #[.val (.int pa), .val (.int pb), .val (.int (2 : Int32)), .val (.int (2 : Int32)), .val (.ref r_NULL), .val (.ref r_NULL), .val (.int (1 : Int32)), .val (.int (1 : Int32)), .unset] [])) t
        refine XS.aload X35.here hx rfl (hb hby at_49) rfl rfl ?_
        show Steps p.tables e below (T35.setTop (mkF m 51 #[.val (.int pa), .val (.int pb), .val (.int (2 : Int32)), .val (.int (2 : Int32)), .val (.ref r_NULL), .val (.ref r_NULL), .val (.int (1 : Int32)), .val (.int (1 : Int32)), .unset] [(.ref r_NULL)])) t
        refine XS.aload X35.here hx rfl (hb hby at_51) rfl rfl ?_
        exact kt
      obtain ⟨v36, T36, L36, X36, q36, st36⟩ := callVirtual X35 hx hZ (y := (⟨"com/example/palimpsest/palimpsest/sql/ValueType", "fits", "(Lcom/example/palimpsest/palimpsest/sql/ValueType;)Z"⟩ : MethodName)) (z := (⟨"com/example/palimpsest/palimpsest/sql/ValueType", "fits", "(Lcom/example/palimpsest/palimpsest/sql/ValueType;)Z"⟩ : MethodName)) (W := 0) hown (wdOf hw 8 rfl) (wdOf hw 9 rfl) (notFace_of_selects (args := #[]) (mvT hZ (wdOf hw 11 rfl))) (wdOf hw 11 rfl) (wdOf hw 10 rfl) (wdOf hw 6 rfl) (wdOf hw 12 rfl) (by decide) (rm_fits l Z a0 hw [] r_NULL r_NULL r_NULL (1 : Int32) h0 n0 Z0 S_NULL (by simp [])) (by decide) (by decide) (by decide) (by decide) K35 E_NULL (g := (mkF m 53 #[.val (.int pa), .val (.int pb), .val (.int (2 : Int32)), .val (.int (2 : Int32)), .val (.ref r_NULL), .val (.ref r_NULL), .val (.int (1 : Int32)), .val (.int (1 : Int32)), .unset] [(.ref r_NULL), (.ref r_NULL)])) rfl (by rw [hml]; rfl) (argsL := [(.ref r_NULL)]) (rest := []) (lenOf pd_1 rfl) rfl rfl (Nat.le_refl _) (hb hby at_53)
      obtain ⟨rfl, n36, K36⟩ := q36
      have N36 := Fr.app N35 n36
      refine Goes.go (U' := (T36.setTop (mkF m 56 #[.val (.int pa), .val (.int pb), .val (.int (2 : Int32)), .val (.int (2 : Int32)), .val (.ref r_NULL), .val (.ref r_NULL), .val (.int (1 : Int32)), .val (.int (1 : Int32)), .unset] [(.int (1 : Int32))]))) st36 ?_
      refine Goes.go (U' := (T36.setTop (mkF m 77 #[.val (.int pa), .val (.int pb), .val (.int (2 : Int32)), .val (.int (2 : Int32)), .val (.ref r_NULL), .val (.ref r_NULL), .val (.int (1 : Int32)), .val (.int (1 : Int32)), .val (.int (1 : Int32))] [(.int (1 : Int32))]))) (fun t kt => ?_) ?_
      · show Steps p.tables e below (T36.setTop (mkF m 56 #[.val (.int pa), .val (.int pb), .val (.int (2 : Int32)), .val (.int (2 : Int32)), .val (.ref r_NULL), .val (.ref r_NULL), .val (.int (1 : Int32)), .val (.int (1 : Int32)), .unset] [(.int (1 : Int32))])) t
        refine XS.istore X36.here hx rfl (hb hby at_56) rfl (l' := #[.val (.int pa), .val (.int pb), .val (.int (2 : Int32)), .val (.int (2 : Int32)), .val (.ref r_NULL), .val (.ref r_NULL), .val (.int (1 : Int32)), .val (.int (1 : Int32)), .val (.int (1 : Int32))]) rfl ?_
        show Steps p.tables e below (T36.setTop (mkF m 58 #[.val (.int pa), .val (.int pb), .val (.int (2 : Int32)), .val (.int (2 : Int32)), .val (.ref r_NULL), .val (.ref r_NULL), .val (.int (1 : Int32)), .val (.int (1 : Int32)), .val (.int (1 : Int32))] [])) t
        refine XS.iload X36.here hx rfl (hb hby at_58) rfl ?_
        show Steps p.tables e below (T36.setTop (mkF m 60 #[.val (.int pa), .val (.int pb), .val (.int (2 : Int32)), .val (.int (2 : Int32)), .val (.ref r_NULL), .val (.ref r_NULL), .val (.int (1 : Int32)), .val (.int (1 : Int32)), .val (.int (1 : Int32))] [(.int (1 : Int32))])) t
        refine XS.iload X36.here hx rfl (hb hby at_60) rfl ?_
        show Steps p.tables e below (T36.setTop (mkF m 62 #[.val (.int pa), .val (.int pb), .val (.int (2 : Int32)), .val (.int (2 : Int32)), .val (.ref r_NULL), .val (.ref r_NULL), .val (.int (1 : Int32)), .val (.int (1 : Int32)), .val (.int (1 : Int32))] [(.int (1 : Int32)), (.int (1 : Int32))])) t
        refine XS.icmpNo X36.here hx rfl (hb hby at_62) rfl (XT.ii_ne_f (by decide)) ?_
        show Steps p.tables e below (T36.setTop (mkF m 65 #[.val (.int pa), .val (.int pb), .val (.int (2 : Int32)), .val (.int (2 : Int32)), .val (.ref r_NULL), .val (.ref r_NULL), .val (.int (1 : Int32)), .val (.int (1 : Int32)), .val (.int (1 : Int32))] [])) t
        refine XS.iload X36.here hx rfl (hb hby at_65) rfl ?_
        show Steps p.tables e below (T36.setTop (mkF m 67 #[.val (.int pa), .val (.int pb), .val (.int (2 : Int32)), .val (.int (2 : Int32)), .val (.ref r_NULL), .val (.ref r_NULL), .val (.int (1 : Int32)), .val (.int (1 : Int32)), .val (.int (1 : Int32))] [(.int (1 : Int32))])) t
        refine XS.iload X36.here hx rfl (hb hby at_67) rfl ?_
        show Steps p.tables e below (T36.setTop (mkF m 69 #[.val (.int pa), .val (.int pb), .val (.int (2 : Int32)), .val (.int (2 : Int32)), .val (.ref r_NULL), .val (.ref r_NULL), .val (.int (1 : Int32)), .val (.int (1 : Int32)), .val (.int (1 : Int32))] [(.int (1 : Int32)), (.int (1 : Int32))])) t
        refine XS.icmpNo X36.here hx rfl (hb hby at_69) rfl (XT.ii_ne_f (by decide)) ?_
        show Steps p.tables e below (T36.setTop (mkF m 72 #[.val (.int pa), .val (.int pb), .val (.int (2 : Int32)), .val (.int (2 : Int32)), .val (.ref r_NULL), .val (.ref r_NULL), .val (.int (1 : Int32)), .val (.int (1 : Int32)), .val (.int (1 : Int32))] [])) t
        refine XS.iconst X36.here hx rfl (hb hby at_72) ?_
        show Steps p.tables e below (T36.setTop (mkF m 73 #[.val (.int pa), .val (.int pb), .val (.int (2 : Int32)), .val (.int (2 : Int32)), .val (.ref r_NULL), .val (.ref r_NULL), .val (.int (1 : Int32)), .val (.int (1 : Int32)), .val (.int (1 : Int32))] [(.int (1 : Int32))])) t
        refine XS.goto X36.here hx rfl (pc0 := 73) (pc' := 77) rfl (hb hby at_73) (by decide) (by decide) ?_
        exact kt
      refine Goes.retB X36 hx hlk hret (hb hby at_77) (by decide) (by decide) ?_
      try rw [K36]
      exact ⟨rfl, N36⟩
set_option maxRecDepth 65536 in
set_option maxHeartbeats 40000000 in
theorem comes_1 {Post : Tables → Env → Array Value → State → Outcome → State → Prop} (hpost : ∀ tb e args s v u, (limb_1_1.after args s (.returned v) u = true ∧ limb_1_2.after args s (.returned v) u = true) → FrameEnd s (.returned v) u (Jvm.fieldLocs frame_1_writes args s ++ Jvm.arrayLocs frame_1_arrays args s ++ Jvm.staticLocs frame_1_statics s) 0 0 → Post tb e args s (.returned v) u) :
    ArmFor flags0 classFile x code maxLocals ret World_1 tables_1 room_1 Calls_1 rest_1 Pre_1 Post := by
  intro l hfl _ _ p e ha hc hk s m args below hf hA hF happ hP
  obtain ⟨hcalls, hrest, hpre⟩ := hP
  obtain ⟨-, -, -, hnamed, -, -, -, hat⟩ := (Spec.applies_iff hf).mp happ
  obtain ⟨hg, hn⟩ := and_e (Cond.before_iff.mp (show (Jvm.Cond.and given_1 narrow_1).before args s = true from hpre))
  obtain ⟨gc, gs⟩ := and_e hg
  obtain ⟨ga0, gs⟩ := and_e gs
  have ga1 := gs
  obtain ⟨w0, w1, rfl⟩ : ∃ w0 w1 : Value, args = #[w0, w1] := by
    have hs : args.size = 2 := by simpa [Cond.value, given_1] using gc
    obtain ⟨L⟩ := args
    match L, hs with
    | [w0, w1], _ => exact ⟨w0, w1, rfl⟩
  have hw := fun d (hd : d ∈ tables_1) => atoms_spec (ws := Jvm.Cond.code x code maxLocals ret :: tables_1) hat d (List.mem_cons_of_mem _ hd)
  have hfit : Fit s := fun {y c} hc i hi => by
    obtain ⟨ha, rfl⟩ := Array.getElem?_eq_some_iff.mp hc
    have q := List.all_eq_true.mp ((Array.all_eq_true_iff_forall_mem.mp hF) _ (Array.getElem_mem ha)) i (List.mem_range.mpr hi)
    simpa [Array.getElem?_eq_getElem hi] using q
  obtain ⟨i0, ei0⟩ := is_v ga0
  obtain rfl : w0 = (.int i0) := Option.some.inj ei0
  obtain ⟨i1, ei1⟩ := is_v ga1
  obtain rfl : w1 = (.int i1) := Option.some.inj ei1
  obtain ⟨hn0, hn⟩ := and_e hn
  obtain ⟨hn1, hn⟩ := and_e hn
  obtain ⟨hn2, hn⟩ := and_e hn
  obtain ⟨hn3, hn⟩ := and_e hn
  obtain ⟨hn4, hn⟩ := and_e hn
  have hn5 := hn
  obtain ⟨r_INTEGER, ev_INTEGER⟩ := exa_v hn0
  have E_INTEGER : Exa s s.heap r_INTEGER "com/example/palimpsest/palimpsest/sql/ValueType" := Exa.start ev_INTEGER hn0
  have S_INTEGER : Sta s s.heap "com/example/palimpsest/palimpsest/sql/ValueType" "INTEGER" "Lcom/example/palimpsest/palimpsest/sql/ValueType;" (.ref r_INTEGER) := Sta.start ev_INTEGER (Or.inr ⟨(wdOf hw 6 rfl), (wdOf hw 7 rfl)⟩)
  obtain ⟨r_NULL, ev_NULL⟩ := exa_v hn1
  have E_NULL : Exa s s.heap r_NULL "com/example/palimpsest/palimpsest/sql/ValueType" := Exa.start ev_NULL hn1
  have S_NULL : Sta s s.heap "com/example/palimpsest/palimpsest/sql/ValueType" "NULL" "Lcom/example/palimpsest/palimpsest/sql/ValueType;" (.ref r_NULL) := Sta.start ev_NULL (Or.inr ⟨(wdOf hw 6 rfl), (wdOf hw 14 rfl)⟩)
  obtain ⟨r_STRING, ev_STRING⟩ := exa_v hn2
  have E_STRING : Exa s s.heap r_STRING "com/example/palimpsest/palimpsest/sql/ValueType" := Exa.start ev_STRING hn2
  have S_STRING : Sta s s.heap "com/example/palimpsest/palimpsest/sql/ValueType" "STRING" "Lcom/example/palimpsest/palimpsest/sql/ValueType;" (.ref r_STRING) := Sta.start ev_STRING (Or.inr ⟨(wdOf hw 6 rfl), (wdOf hw 16 rfl)⟩)
  have F_ordinal_NULL : Fld s s.heap r_NULL "java/lang/Enum" "ordinal" "I" (.int (2 : Int32)) := Fld.start ((fld_at ev_NULL).symm.trans (eqInt_v hn3))
  have F_ordinal_STRING : Fld s s.heap r_STRING "java/lang/Enum" "ordinal" "I" (.int (1 : Int32)) := Fld.start ((fld_at ev_STRING).symm.trans (eqInt_v hn4))
  have F_ordinal_INTEGER : Fld s s.heap r_INTEGER "java/lang/Enum" "ordinal" "I" (.int (0 : Int32)) := Fld.start ((fld_at ev_INTEGER).symm.trans (eqInt_v hn5))
  obtain ⟨n, o, h1, h2, h3, _, L, rfl, ⟨rfl, N⟩, hq⟩ := rm_law l s _ hw tables_1 i0 i1 r_INTEGER r_STRING r_NULL s.heap s.heap.size (Nat.le_refl _) S_INTEGER S_STRING S_NULL E_INTEGER E_STRING E_NULL (Fld.ne F_ordinal_INTEGER F_ordinal_STRING (by decide)) (Fld.ne F_ordinal_STRING F_ordinal_INTEGER (by decide)) (Fld.ne F_ordinal_INTEGER F_ordinal_NULL (by decide)) (Fld.ne F_ordinal_STRING F_ordinal_NULL (by decide))  p e ha hc hk s m _ below hf ((Spec.applies_iff_loose hf).mp happ).1 ⟨rfl, State.Warmed39.refl s, rfl⟩ trivial
  refine ⟨n, _, h1, h2, h3, hpost _ _ _ _ _ _ ⟨Cond.after_iff.mpr rfl, Cond.after_iff.mpr (eq_i res_at (Term.int_eval (1)) rfl)⟩ ⟨hq.1, hq.2.1, (hq.2.2.sift fun y hy => Or.inr (N y hy)).mono (by decide) (by decide)⟩⟩
theorem main_1_1 : Claimed_1_1 := comes_1 fun _ _ _ _ _ _ h hF => ⟨h.1, hF⟩
theorem main_1_2 : Claimed_1_2 := comes_1 fun _ _ _ _ _ _ h hF => ⟨h.2, hF⟩
end Jvm.Pilot.@@N@@
namespace Jvm.Pilot.@@N@@
open Jvm Jvm.ClassFile Sem Op Lib Jvm.Free Jvm.Stand Jvm.Pilot.@@N@@.Jvm.D
/-! MADE BY PROGRAM (witnessworld.py) out of the Statement's table words and the real class files: 12 classes; the members and pool entries that the words name. The judged class is class 1, her method 2. -/
namespace start1
open Jvm.ClassFile
def u (s : String) : CpInfo := .utf8 (stringToUtf16 s)
/-- a pool by its gaps: so many unusable entries, then the entry; so many at the end -/
def gap : Nat → List CpInfo → List CpInfo
  | 0, r => r
  | n + 1, r => .unusable :: gap n r
def poolList (es : List (Nat × CpInfo)) (last : Nat) : List CpInfo := es.foldr (fun e r => gap e.1 (e.2 :: r)) (gap last [])
def pool (es : List (Nat × CpInfo)) (last : Nat) : Array CpInfo := ⟨poolList es last⟩
def fileOf (pool : Array CpInfo) (this : Nat) (attrs : Array Attribute := #[]) (ms : Array MethodInfo := #[]) (fl : Nat := 33) (sup : Nat := 0) (ifs : Array Nat := #[]) (fds : Array FieldInfo := #[]) : ClassFile where
  minorVersion := 0
  majorVersion := 65
  constantPool := pool
  accessFlags := fl
  thisClass := this
  superClass := sup
  interfaces := ifs
  fields := fds
  methods := ms
  attributes := attrs
def plain (name : String) (sup : Option ClassId) : Class where
  name := name
  kind := .ordinary
  loader := none
  accessFlags := 33
  super := sup
  interfaces := #[]
  cf := none
  fields := #[]
  methods := #[]
  instanceTypes := #[]
  staticTypes := #[]
  resolved := #[]
  callSites := []
  init := .initialized
  statics := none
  mirror := none

def pool0 : Array CpInfo := pool [(5, u "<init>"), (0, u "()V"), (1, .class_ 10), (1, u "java/lang/Object")] 113

def k0m0 : Method := { name := "<init>", desc := "()V", sig := { parameters := [], returnType := none }, accessFlags := 1, code := none }
/-- java/lang/Object -/
def k0 : Class := { plain "java/lang/Object" none with
  accessFlags := 33
  interfaces := #[]
  cf := some (fileOf pool0 8 #[] #[{ accessFlags := 1, nameIndex := 5, descriptorIndex := 6, attributes := #[] }] 33 0 #[] #[])
  fields := #[]
  methods := #[k0m0]
  instanceTypes := #[]
  staticTypes := #[]
  resolved := Array.replicate 124 none
  statics := none }

def pool1 : Array CpInfo := pool [(2, .class_ 4), (1, u "java/lang/Object"), (0, u "<init>"), (0, u "()V"), (0, .fieldref 8 9), (0, .class_ 10), (0, .nameAndType 11 12), (0, u "com/example/palimpsest/palimpsest/sql/ValueType"), (0, u "INTEGER"), (0, u "Lcom/example/palimpsest/palimpsest/sql/ValueType;"), (0, .fieldref 8 14), (0, .nameAndType 15 12), (0, u "STRING"), (0, .fieldref 8 17), (0, .nameAndType 18 12), (0, u "NULL"), (0, .integer 2147483647), (0, .methodref 21 22), (0, .class_ 23), (0, .nameAndType 24 25), (0, u "com/example/palimpsest/palimpsest/sql/ValueTypeFitsPinLaw"), (0, u "pick"), (0, u "(I)Lcom/example/palimpsest/palimpsest/sql/ValueType;"), (0, .methodref 8 27), (0, .nameAndType 28 29), (0, u "fits"), (0, u "(Lcom/example/palimpsest/palimpsest/sql/ValueType;)Z"), (3, u "law"), (0, u "(II)Z")] 2

def k1m0 : Method := { name := "<init>", desc := "()V", sig := { parameters := [], returnType := none }, accessFlags := 1, code := none }
def k1c1 : Code := { maxStack := 2, maxLocals := 1, code := method_2_code, exceptionTable := #[], attributes := #[] }
def k1m1 : Method := { name := "pick", desc := "(I)Lcom/example/palimpsest/palimpsest/sql/ValueType;", sig := { parameters := [.int], returnType := some (.object "com/example/palimpsest/palimpsest/sql/ValueType") }, accessFlags := 10, code := some k1c1 }
def k1c2 : Code := { maxStack := 2, maxLocals := 9, code := code, exceptionTable := #[], attributes := #[] }
def k1m2 : Method := { name := "law", desc := "(II)Z", sig := { parameters := [.int, .int], returnType := some .boolean }, accessFlags := 9, code := some k1c2 }
/-- com/example/palimpsest/palimpsest/sql/ValueTypeFitsPinLaw -/
def k1 : Class := { plain "com/example/palimpsest/palimpsest/sql/ValueTypeFitsPinLaw" (some 0) with
  accessFlags := 49
  interfaces := #[]
  cf := some (fileOf pool1 21 #[] #[{ accessFlags := 1, nameIndex := 5, descriptorIndex := 6, attributes := #[] }, { accessFlags := 10, nameIndex := 24, descriptorIndex := 25, attributes := #[] }, { accessFlags := 9, nameIndex := 33, descriptorIndex := 34, attributes := #[] }] 49 2 #[] #[])
  fields := #[]
  methods := #[k1m0, k1m1, k1m2]
  instanceTypes := #[]
  staticTypes := #[]
  resolved := Array.replicate 37 none
  statics := none }

def pool2 : Array CpInfo := pool [(1, .class_ 2), (0, u "java/lang/constant/Constable"), (0, .class_ 4), (0, u "java/lang/Object")] 6

/-- java/lang/constant/Constable -/
def k2 : Class := { plain "java/lang/constant/Constable" (some 0) with
  accessFlags := 1537
  interfaces := #[]
  cf := some (fileOf pool2 1 #[] #[] 1537 3 #[] #[])
  fields := #[]
  methods := #[]
  instanceTypes := #[]
  staticTypes := #[]
  resolved := Array.replicate 11 none
  statics := none }

def pool3 : Array CpInfo := pool [(1, .class_ 2), (0, u "java/lang/Comparable"), (0, .class_ 4), (0, u "java/lang/Object")] 7

/-- java/lang/Comparable -/
def k3 : Class := { plain "java/lang/Comparable" (some 0) with
  accessFlags := 1537
  interfaces := #[]
  cf := some (fileOf pool3 1 #[] #[] 1537 3 #[] #[])
  fields := #[]
  methods := #[]
  instanceTypes := #[]
  staticTypes := #[]
  resolved := Array.replicate 12 none
  statics := none }

def pool4 : Array CpInfo := pool [(1, .class_ 2), (0, u "java/io/Serializable"), (0, .class_ 4), (0, u "java/lang/Object")] 2

/-- java/io/Serializable -/
def k4 : Class := { plain "java/io/Serializable" (some 0) with
  accessFlags := 1537
  interfaces := #[]
  cf := some (fileOf pool4 1 #[] #[] 1537 3 #[] #[])
  fields := #[]
  methods := #[]
  instanceTypes := #[]
  staticTypes := #[]
  resolved := Array.replicate 7 none
  statics := none }

def pool5 : Array CpInfo := pool [(2, .class_ 4), (1, u "java/lang/Enum"), (0, u "name"), (0, u "Ljava/lang/String;"), (2, u "ordinal"), (0, u "I"), (1, .class_ 14), (1, u "java/lang/Object"), (4, u "hash"), (86, .class_ 108), (1, u "java/lang/Enum$EnumDesc"), (2, .class_ 112), (0, u "java/lang/constant/Constable"), (0, .class_ 114), (0, u "java/lang/Comparable"), (0, .class_ 116), (0, u "java/io/Serializable")] 87

/-- java/lang/Enum -/
def k5 : Class := { plain "java/lang/Enum" (some 0) with
  accessFlags := 1057
  interfaces := #[2, 3, 4]
  cf := some (fileOf pool5 2 #[.nestMembers #[106]] #[] 1057 12 #[111, 113, 115] #[{ accessFlags := 18, nameIndex := 5, descriptorIndex := 6, attributes := #[] }, { accessFlags := 18, nameIndex := 9, descriptorIndex := 10, attributes := #[] }, { accessFlags := 2, nameIndex := 19, descriptorIndex := 10, attributes := #[] }])
  fields := #[{ name := "name", type := (.object "java/lang/String"), accessFlags := 18, slot := 0, constantValue := 0 }, { name := "ordinal", type := .int, accessFlags := 18, slot := 1, constantValue := 0 }, { name := "hash", type := .int, accessFlags := 2, slot := 2, constantValue := 0 }]
  methods := #[]
  instanceTypes := #[(.object "java/lang/String"), .int, .int]
  staticTypes := #[]
  resolved := Array.replicate 204 none
  statics := none }

def pool6 : Array CpInfo := pool [(1, .class_ 2), (0, u "com/example/palimpsest/palimpsest/sql/ValueType"), (2, u "INTEGER"), (0, u "Lcom/example/palimpsest/palimpsest/sql/ValueType;"), (2, u "STRING"), (0, .fieldref 1 11), (0, .nameAndType 12 6), (0, u "NULL"), (2, u "$VALUES"), (0, u "[Lcom/example/palimpsest/palimpsest/sql/ValueType;"), (6, .class_ 25), (1, u "java/lang/Enum"), (8, u "description"), (0, u "Ljava/lang/String;"), (26, u "fits"), (0, u "(Lcom/example/palimpsest/palimpsest/sql/ValueType;)Z")] 11

def k6c0 : Code := { maxStack := 2, maxLocals := 2, code := prog_127_method_5_code, exceptionTable := #[], attributes := #[] }
def k6m0 : Method := { name := "fits", desc := "(Lcom/example/palimpsest/palimpsest/sql/ValueType;)Z", sig := { parameters := [(.object "com/example/palimpsest/palimpsest/sql/ValueType")], returnType := some .boolean }, accessFlags := 0, code := some k6c0 }
/-- com/example/palimpsest/palimpsest/sql/ValueType -/
def k6 : Class := { plain "com/example/palimpsest/palimpsest/sql/ValueType" (some 5) with
  accessFlags := 16432
  interfaces := #[]
  cf := some (fileOf pool6 1 #[] #[{ accessFlags := 0, nameIndex := 62, descriptorIndex := 63, attributes := #[] }] 16432 23 #[] #[{ accessFlags := 16409, nameIndex := 5, descriptorIndex := 6, attributes := #[] }, { accessFlags := 16409, nameIndex := 9, descriptorIndex := 6, attributes := #[] }, { accessFlags := 16409, nameIndex := 12, descriptorIndex := 6, attributes := #[] }, { accessFlags := 18, nameIndex := 34, descriptorIndex := 35, attributes := #[] }, { accessFlags := 4122, nameIndex := 15, descriptorIndex := 16, attributes := #[] }])
  fields := #[{ name := "INTEGER", type := (.object "com/example/palimpsest/palimpsest/sql/ValueType"), accessFlags := 16409, slot := 0, constantValue := 0 }, { name := "STRING", type := (.object "com/example/palimpsest/palimpsest/sql/ValueType"), accessFlags := 16409, slot := 1, constantValue := 0 }, { name := "NULL", type := (.object "com/example/palimpsest/palimpsest/sql/ValueType"), accessFlags := 16409, slot := 2, constantValue := 0 }, { name := "description", type := (.object "java/lang/String"), accessFlags := 18, slot := 3, constantValue := 0 }, { name := "$VALUES", type := (.array (.object "com/example/palimpsest/palimpsest/sql/ValueType")), accessFlags := 4122, slot := 3, constantValue := 0 }]
  methods := #[k6m0]
  instanceTypes := #[(.object "java/lang/String"), .int, .int, (.object "java/lang/String")]
  staticTypes := #[(.object "com/example/palimpsest/palimpsest/sql/ValueType"), (.object "com/example/palimpsest/palimpsest/sql/ValueType"), (.object "com/example/palimpsest/palimpsest/sql/ValueType"), (.array (.object "com/example/palimpsest/palimpsest/sql/ValueType"))]
  resolved := Array.replicate 75 none
  statics := some 0 }

def pool7 : Array CpInfo := pool [(1, u "java/lang/Cloneable"), (0, .class_ 1), (0, u "java/lang/Object"), (0, .class_ 3)] 3

/-- java/lang/Cloneable -/
def k7 : Class := { plain "java/lang/Cloneable" (some 0) with
  accessFlags := 1537
  interfaces := #[]
  cf := some (fileOf pool7 2 #[] #[] 1537 4 #[] #[])
  fields := #[]
  methods := #[]
  instanceTypes := #[]
  staticTypes := #[]
  resolved := Array.replicate 8 none
  statics := none }

/-- the primitive byte -/
def k8 : Class := { plain "byte" none with kind := .primitive 'B', accessFlags := 0x411 }
/-- [B -/
def k9 : Class := { plain "[B" (some 0) with kind := .array 8 .byte, interfaces := #[7, 4], accessFlags := 1041 }

/-- the primitive int -/
def k10 : Class := { plain "int" none with kind := .primitive 'I', accessFlags := 0x411 }
/-- [I -/
def k11 : Class := { plain "[I" (some 0) with kind := .array 10 .int, interfaces := #[7, 4], accessFlags := 1041 }

def heap : Heap := #[{ cls := 6, slots := #[.ref 1, .ref 2, .ref 3, .null], vm := .statics 6 },
  { cls := 6, slots := #[.null, .int 0, .int 0, .null], vm := .none },
  { cls := 6, slots := #[.null, .int 1, .int 0, .null], vm := .none },
  { cls := 6, slots := #[.null, .int 2, .int 0, .null], vm := .none }]
def classes : Array Class := #[k0, k1, k2, k3, k4, k5, k6, k7, k8, k9, k10, k11]
def interned : List (Array UInt16 × Addr) := []
def slotsUsed : Nat := 16
def theMethod : MethodId := ⟨1, 2⟩
def args0 : Array Value := #[.int 5, .int 5]
def aboutOver (below : List Frame) : State where
  vm := { classes := classes, interned := interned.toArray }
  heap := heap
  slotsUsed := slotsUsed
  threads := #[{ frames := .invoking theMethod args0 :: below }]
def below0 : List Frame := [.native { method := ⟨0, 0⟩, args := #[] }]
def about1 : State := aboutOver below0
def p0 : Program := .bare "" "" ""
def e0 : Env := launch0.env 0 0 0
theorem w_frames : about1.frames = Frame.invoking theMethod args0 :: below0 := rfl
set_option maxRecDepth 65536 in
theorem w_args : argsFit about1.vm theMethod args0 = true := by decide +kernel
set_option maxRecDepth 65536 in
theorem w_heap : heapFits about1 = true := by decide +kernel
set_option maxRecDepth 65536 in
theorem w_runnable : about1.curStatus? = some .runnable := by decide +kernel
set_option maxRecDepth 65536 in
theorem w_alone : about1.alone = true := by decide +kernel
set_option maxRecDepth 65536 in
theorem w_named : about1.methodNamed? x = some theMethod := by decide +kernel
set_option maxRecDepth 65536 in
theorem w_hears : about1.hears theMethod below0 = true := by decide +kernel
set_option maxRecDepth 65536 in
theorem w_ripe : about1.ripe theMethod args0 below0 = true := by decide +kernel
theorem w_running : about1.status = .running := rfl
set_option maxRecDepth 65536 in
theorem w_room : about1.hasRoom e0.platform room_1 = true :=
  launch0.hasRoom_least _ room_1 (by decide +kernel) (by decide +kernel) (by decide +kernel) (by decide +kernel) (by decide +kernel) (by decide +kernel)
theorem allAtoms_all (ts : List Jvm.Cond) (a : Array Jvm.Value) (st : Jvm.State) : (allAtoms ts).before a st = ts.all (fun c => c.before a st) := by
  induction ts with
  | nil => rfl
  | cons c t ih =>
    show (Jvm.Cond.and c (allAtoms t)).before a st = _
    rw [Jvm.Cond.before_and, ih, List.all_cons]
def words1 : List Jvm.Cond := Jvm.Cond.code x code maxLocals ret :: tables_1
/-- a 'code' word, met by the world's own term for the bytes: nothing is compared byte by byte -/
theorem code_word {y : MethodName} {bytes : ByteArray} {mx : Nat} {rt : Option FieldType} {a : Array Value} {s : State} {m : MethodId} {meth : Method} {c : Code} (h1 : s.methodNamed? y = some m) (h2 : s.vm.method? m = some meth) (h3 : meth.code = some c) (h4 : c.code = bytes)
    (h5 : (c.maxLocals == mx && c.exceptionTable.isEmpty && decide (c.maxStack ≤ mostOperands) && decide (meth.sig.returnType = rt) && !meth.locks && decide (parseMethodDescriptor y.desc = some meth.sig)) = true) : (Jvm.Cond.code y bytes mx rt).before a s = true := by
  simp only [Bool.and_eq_true, beq_iff_eq, Bool.not_eq_true', decide_eq_true_eq] at h5
  obtain ⟨⟨⟨⟨⟨g1, g2⟩, g3⟩, g4⟩, g5⟩, g6⟩ := h5
  simp [Cond.before, Cond.holds, Cond.value, h1, h2, h3, h4, g1, g2, g3, g4, g5, g6]
def isCode : Jvm.Cond → Bool
  | .code _ _ _ _ => true
  | _ => false
theorem all_split {L : List Jvm.Cond} {P : Jvm.Cond → Bool} (h1 : L.all (fun c => isCode c || P c) = true) (h2 : ∀ c ∈ L.filter isCode, P c = true) : L.all P = true := by
  refine List.all_eq_true.mpr fun c hc => ?_
  have h := List.all_eq_true.mp h1 c hc
  rcases Bool.eq_false_or_eq_true (isCode c) with hi | hi
  · exact h2 c (List.mem_filter.mpr ⟨hc, hi⟩)
  · simpa [hi] using h
set_option maxRecDepth 65536 in
theorem w_c0 : (Jvm.Cond.code x code maxLocals ret).before args0 about1 = true := code_word (m := ⟨1, 2⟩) (meth := k1m2) (c := k1c2) (by decide +kernel) rfl rfl rfl (by decide +kernel)
set_option maxRecDepth 65536 in
theorem w_c1 : (Jvm.Cond.code ({ cls := "com/example/palimpsest/palimpsest/sql/ValueTypeFitsPinLaw", name := "pick", desc := "(I)Lcom/example/palimpsest/palimpsest/sql/ValueType;" } : Jvm.MethodName) method_2_code (1 : Nat) (Option.some (Jvm.ClassFile.FieldType.object "com/example/palimpsest/palimpsest/sql/ValueType"))).before args0 about1 = true := code_word (m := ⟨1, 1⟩) (meth := k1m1) (c := k1c1) (by decide +kernel) rfl rfl rfl (by decide +kernel)
set_option maxRecDepth 65536 in
theorem w_c2 : (Jvm.Cond.code ({ cls := "com/example/palimpsest/palimpsest/sql/ValueType", name := "fits", desc := "(Lcom/example/palimpsest/palimpsest/sql/ValueType;)Z" } : Jvm.MethodName) prog_127_method_5_code (2 : Nat) (Option.some Jvm.ClassFile.FieldType.boolean)).before args0 about1 = true := code_word (m := ⟨6, 0⟩) (meth := k6m0) (c := k6c0) (by decide +kernel) rfl rfl rfl (by decide +kernel)
def codes1 : List Jvm.Cond := [Jvm.Cond.code x code maxLocals ret, Jvm.Cond.code ({ cls := "com/example/palimpsest/palimpsest/sql/ValueTypeFitsPinLaw", name := "pick", desc := "(I)Lcom/example/palimpsest/palimpsest/sql/ValueType;" } : Jvm.MethodName) method_2_code (1 : Nat) (Option.some (Jvm.ClassFile.FieldType.object "com/example/palimpsest/palimpsest/sql/ValueType")), Jvm.Cond.code ({ cls := "com/example/palimpsest/palimpsest/sql/ValueType", name := "fits", desc := "(Lcom/example/palimpsest/palimpsest/sql/ValueType;)Z" } : Jvm.MethodName) prog_127_method_5_code (2 : Nat) (Option.some Jvm.ClassFile.FieldType.boolean)]
set_option maxRecDepth 65536 in
theorem codes_eq : words1.filter isCode = codes1 := rfl
theorem w_codes : ∀ c ∈ words1.filter isCode, c.before args0 about1 = true := by
  rw [codes_eq]
  intro c hc
  simp only [codes1, List.mem_cons, List.not_mem_nil, or_false] at hc
  rcases hc with rfl | rfl | rfl
  · exact w_c0
  · exact w_c1
  · exact w_c2
set_option maxRecDepth 65536 in
theorem w_t1 : words1.all (fun c => isCode c || c.before args0 about1) = true := by decide +kernel
theorem w_tables : (allAtoms (Jvm.Cond.code x code maxLocals ret :: tables_1)).before args0 about1 = true := by
  rw [allAtoms_all]
  show words1.all (fun c => c.before args0 about1) = true
  refine all_split ?_ w_codes
  rw [w_t1]
set_option maxRecDepth 65536 in
theorem w_case : (Jvm.Cond.and given_1 narrow_1).before args0 about1 = true := by decide +kernel
theorem w_applies : (headSpec (Jvm.Cond.code x code maxLocals ret :: tables_1) room_1).applies x e0.platform about1 = true :=
  (Spec.applies_iff w_frames).mpr ⟨w_running, w_runnable, w_alone, w_named, w_hears, w_ripe, w_room, w_tables⟩
theorem atStart : AtStart classFile x code maxLocals ret World_1 tables_1 room_1 Calls_1 rest_1 Pre_1 launch0 p0 e0 about1 theMethod args0 below0 :=
  ⟨lists_1, trivial, launch0.admits_env _ _ _, launch0.least_env, fairChoices_fair.cas, fairChoices_fair.clock, w_frames, w_args, w_heap, w_applies, trivial, trivial, w_case⟩
end start1
theorem witness_1 : WitnessClaimed_1 := ⟨start1.p0, start1.e0, start1.about1, start1.theMethod, start1.args0, start1.below0, start1.atStart⟩
end Jvm.Pilot.@@N@@
