import JvmDerived
import JvmDerived.Pilot.@@N@@Statement
import JvmDerived.Pilot.@@N@@Code
set_option linter.unusedVariables false
set_option linter.unusedSimpArgs false
namespace Jvm.RoadKit
open Sem ClassFile Op Lib Jvm.Stand Jvm.Free Jvm.LawKit
abbrev sI_ (x : Int32) : Slot := .val (.int x)
abbrev sJ_ (x : Int64) : Slot := .val (.long x)
abbrev sR_ (x : Addr) : Slot := .val (.ref x)
abbrev sU_ : Slot := .unset
abbrev sS_ : Slot := .second
theorem catR (a : Addr) : (Value.ref a).category = 1 := rfl
theorem catN : Value.null.category = 1 := rfl
theorem catI (x : Int32) : (Value.int x).category = 1 := rfl
theorem catJ (x : Int64) : (Value.long x).category = 2 := rfl
section Own
variable {p : Program} {l : Launch} {e : Env} {R : Room} {s : State} {m : MethodId} {args : Array Value} {below : List Frame} {meth : Method} {c : Code} {T U U' : State} {locs : List Loc} {cells slots : Nat} {Z : State} {a0 : Array Value} {h : Heap} {Q : Option Value → Heap → List Loc → Prop} {C S : Nat}
/-- what is left to show at a point of a walk: from U the body comes to its end, and Q holds there -/
def Goes (p : Program) (e : Env) (s : State) (below : List Frame) (Q : Option Value → Heap → List Loc → Prop) (C S : Nat) (U : State) : Prop :=
  ∃ s₂ o, Steps p.tables e below U s₂ ∧ s₂.status = .running ∧ Ended s₂ below o ∧ ∃ v L, o = .returned v ∧ Q v s₂.heap L ∧ FrameEnd s o s₂ L C S
theorem Goes.go (st : ∀ t, Steps p.tables e below U' t → Steps p.tables e below U t) (k : Goes p e s below Q C S U') : Goes p e s below Q C S U := by
  obtain ⟨s₂, o, h1, h2⟩ := k
  exact ⟨s₂, o, st _ h1, h2⟩
theorem Goes.leave {v : Option Value} (X : Stand p l e R s m args below meth c T locs cells slots) (hlk : meth.locks = false) (hv : meth.sig.returnType = none → v = none) (hQ : Q v T.heap locs) (hc : cells ≤ C) (hs : slots ≤ S)
    (st : ∀ fs, (∀ (f : JFrame) (acts : List Action), f.method = m → f.locked = none → f.entered = [] → (doReturn e (T.setTop f) acts v).1 = T.setFrames fs) → Steps p.tables e below U (T.setFrames fs)) : Goes p e s below Q C S U := by
  obtain ⟨fs, hr, hrun, hended, hW, hsame⟩ := X.leave (v := v) hv hlk
  exact ⟨_, _, st fs hr, hrun, hended, _, _, rfl, hQ, ⟨_, rfl⟩, hW, hsame.mono hc hs⟩
theorem Goes.retB {pc : Nat} {Ls : Array Slot} {z : Int32} {rest : List Value} (X : Stand p l e R s m args below meth c T locs cells slots) (hx : p.tables.exec = Jvm.exec) (hlk : meth.locks = false) (hret : meth.sig.returnType = some .boolean) (hd : decode c.code pc = .ok (.ireturn, 1)) (hc : cells ≤ C) (hs : slots ≤ S) (hQ : Q (some (.int (nar .boolean z))) T.heap locs) : Goes p e s below Q C S (T.setTop (mkF m pc Ls (.int z :: rest))) :=
  Goes.leave X hlk (fun h => by rw [hret] at h; cases h) hQ hc hs fun fs hr => retN X hx (t := .boolean) hret (by simp) hd hr
theorem Goes.retC {pc : Nat} {Ls : Array Slot} {z : Int32} {rest : List Value} (X : Stand p l e R s m args below meth c T locs cells slots) (hx : p.tables.exec = Jvm.exec) (hlk : meth.locks = false) (hret : meth.sig.returnType = some .char) (hd : decode c.code pc = .ok (.ireturn, 1)) (hc : cells ≤ C) (hs : slots ≤ S) (hQ : Q (some (.int (nar .char z))) T.heap locs) : Goes p e s below Q C S (T.setTop (mkF m pc Ls (.int z :: rest))) :=
  Goes.leave X hlk (fun h => by rw [hret] at h; cases h) hQ hc hs fun fs hr => retN X hx (t := .char) hret (by simp) hd hr
theorem Goes.retY {pc : Nat} {Ls : Array Slot} {z : Int32} {rest : List Value} (X : Stand p l e R s m args below meth c T locs cells slots) (hx : p.tables.exec = Jvm.exec) (hlk : meth.locks = false) (hret : meth.sig.returnType = some .byte) (hd : decode c.code pc = .ok (.ireturn, 1)) (hc : cells ≤ C) (hs : slots ≤ S) (hQ : Q (some (.int (nar .byte z))) T.heap locs) : Goes p e s below Q C S (T.setTop (mkF m pc Ls (.int z :: rest))) :=
  Goes.leave X hlk (fun h => by rw [hret] at h; cases h) hQ hc hs fun fs hr => retN X hx (t := .byte) hret (by simp) hd hr
theorem Goes.retI {pc : Nat} {Ls : Array Slot} {z : Int32} {rest : List Value} (X : Stand p l e R s m args below meth c T locs cells slots) (hx : p.tables.exec = Jvm.exec) (hlk : meth.locks = false) (hret : meth.sig.returnType = some .int) (hd : decode c.code pc = .ok (.ireturn, 1)) (hc : cells ≤ C) (hs : slots ≤ S) (hQ : Q (some (.int z)) T.heap locs) : Goes p e s below Q C S (T.setTop (mkF m pc Ls (.int z :: rest))) :=
  Goes.leave X hlk (fun h => by rw [hret] at h; cases h) hQ hc hs fun fs hr => retOut X hx hret rfl (Or.inl ⟨rfl, Or.inl rfl, _, rfl⟩) hd hr
theorem Goes.retJ {pc : Nat} {Ls : Array Slot} {z : Int64} {rest : List Value} (X : Stand p l e R s m args below meth c T locs cells slots) (hx : p.tables.exec = Jvm.exec) (hlk : meth.locks = false) (hret : meth.sig.returnType = some .long) (hd : decode c.code pc = .ok (.lreturn, 1)) (hc : cells ≤ C) (hs : slots ≤ S) (hQ : Q (some (.long z)) T.heap locs) : Goes p e s below Q C S (T.setTop (mkF m pc Ls (.long z :: rest))) :=
  Goes.leave X hlk (fun h => by rw [hret] at h; cases h) hQ hc hs fun fs hr => retOut X hx hret rfl (Or.inr (Or.inl ⟨rfl, rfl, _, rfl⟩)) hd hr
theorem ownNarrow {t : FieldType} {v : Value} (hv : v.isRef = true) (ht : t.isReference = true) : narrow t v = v := by
  rcases ref_cases hv with rfl | ⟨a, rfl⟩ <;> cases t <;> first | rfl | cases ht
theorem Goes.retA {pc : Nat} {Ls : Array Slot} {v : Value} {t : FieldType} {rest : List Value} (X : Stand p l e R s m args below meth c T locs cells slots) (hx : p.tables.exec = Jvm.exec) (hlk : meth.locks = false) (hret : meth.sig.returnType = some t) (ht : t.isReference = true) (hv : v.isRef = true) (hd : decode c.code pc = .ok (.areturn, 1)) (hc : cells ≤ C) (hs : slots ≤ S) (hQ : Q (some v) T.heap locs) : Goes p e s below Q C S (T.setTop (mkF m pc Ls (v :: rest))) :=
  Goes.leave X hlk (fun h => by rw [hret] at h; cases h) hQ hc hs fun fs hr => retOut X hx hret (ownNarrow hv ht) (Or.inr (Or.inr (Or.inr (Or.inr ⟨rfl, ht, hv⟩)))) hd hr
theorem Goes.retV {pc : Nat} {Ls : Array Slot} (X : Stand p l e R s m args below meth c T locs cells slots) (hx : p.tables.exec = Jvm.exec) (hlk : meth.locks = false) (hret : meth.sig.returnType = none) (hd : decode c.code pc = .ok (.return_, 1)) (hc : cells ≤ C) (hs : slots ≤ S) (hQ : Q none T.heap locs) : Goes p e s below Q C S (T.setTop (mkF m pc Ls [])) :=
  Goes.leave X hlk (fun _ => rfl) hQ hc hs fun fs hr => X.returnOut hx hret hd hr
/-- a body's contract: with these arguments over this heap it returns, and Q holds -/
def Pays (l : Launch) (Z : State) (y : MethodName) (bytes : ByteArray) (maxL : Nat) (ret : Option FieldType) (ws : List Jvm.Cond) (rm : Room) (as' : Array Value) (h : Heap) (Q : Option Value → Heap → List Loc → Prop) : Prop :=
  MetFree l y (head1 (Jvm.Cond.code y bytes maxL ret :: ws) rm) (fun a U => a = as' ∧ Z.Warmed39 U.vm ∧ U.heap = h) (fun _ _ _ _ _ => True) (fun _ U o U' => ∃ v L, o = .returned v ∧ Q v U'.heap L ∧ FrameEnd U o U' L rm.cells rm.slots)
theorem Pays.of {y : MethodName} {bytes : ByteArray} {maxL : Nat} {ret : Option FieldType} {ws : List Jvm.Cond} {rm : Room} {as' : Array Value} (hpl : plainFor y = true)
    (body : ∀ (p : Program) (e : Env) (s : State) (m : MethodId) (below : List Frame) (meth : Method) (c : Code) (s₁ : State), p.tables.exec = Jvm.exec → c.code = bytes → c.maxLocals = maxL → s.vm.findClass y.cls = some m.cls → meth.name = y.name → meth.sig.returnType = ret → meth.locks = false → Z.Warmed39 s.vm → s₁.heap = h → Stand p l e rm s m as' below meth c s₁ [] 0 0 → Goes p e s below Q rm.cells rm.slots (s₁.setTop (entryFrame m as' maxL))) :
    Pays l Z y bytes maxL ret ws rm as' h Q := by
  refine MetFree.of_bodySF hpl hisR ?_
  intro p e s m args below meth c s₁ Bd hml hP hK
  obtain ⟨rfl, hZ, hh⟩ := hP
  obtain ⟨s₂, o, h1, h2, h3, h4⟩ := body p e s m below meth c s₁ Bd.exec Bd.bytes hml (findClass_of_methodNamed Bd.named) (name_of_methodNamed Bd.named Bd.method).1 Bd.returns Bd.notSynchronized hZ (by rw [← hh, Bd.state]; rfl) (Stand.of_body Bd)
  exact ⟨s₂, o, h1, h2, h3, h4⟩
theorem callStatic (X : Stand p l e R s m args below meth c T locs cells slots) (hx : p.tables.exec = Jvm.exec) (hZ : Z.Warmed39 s.vm) {own : String} {index : Nat} {y : MethodName} {bytes : ByteArray} {maxL W : Nat} {ret : Option FieldType} {rm : Room} {as' : Array Value}
    (hown : s.vm.findClass own = some m.cls) (w1 : (Jvm.Cond.methodLink own index y).before a0 Z = true) (w2 : (Jvm.Cond.static y).before a0 Z = true) (w3 : (Jvm.Cond.initialized y.cls).before a0 Z = true) (w4 : (Jvm.Cond.code y bytes maxL ret).before a0 Z = true) (hy : y.cls ≠ "java/lang/invoke/MethodHandle" ∧ y.cls ≠ "java/lang/invoke/VarHandle")
    (M : Pays l Z y bytes maxL ret [] rm as' h Q) (hf : rm.frames + 1 ≤ R.frames) (hl : W + (maxL + 11) + rm.locals ≤ R.locals) (hc : cells + rm.cells ≤ R.cells) (hs : slots + rm.slots ≤ R.slots) (eT : T.heap = h)
    {g : JFrame} (hg : g.method = m) (hsize : g.locals.size = c.maxLocals) {argsL rest : List Value} (hlen : ∀ sig, parseMethodDescriptor y.desc = some sig → argsL.length = sig.parameters.length) (hstack : g.stack = argsL.reverse ++ rest) (has : argsL.toArray = as') (hW : 2 * g.monitorRoom + (rest.map fun v => v.category).sum ≤ W) (hdg : decode c.code g.pc = .ok (.invokestatic index, 3)) :
    ∃ (v : Option Value) (T' : State) (L : List Loc), Stand p l e R s m args below meth c T' (locs ++ L) (cells + rm.cells) (slots + rm.slots) ∧ Q v T'.heap L ∧ ∀ t, Steps p.tables e below (T'.setTop { g with pc := g.pc + 3, stack := v.toList ++ rest }) t → Steps p.tables e below (T.setTop g) t := by
  obtain ⟨v, vm1, ⟨T', L', k', n'⟩, -, X', ⟨Lc, hQ, l1, y1, z1⟩, st⟩ := Jvm.LawKit.callS X hx (y := y) hown (mvT hZ w1) (mvT hZ w2) (mvT hZ w3) (mvT hZ w4) hy (backOf (W := W) M hZ w4 w3 hf hl) hg hsize (argsL := argsL) (rest := rest) hlen hstack hW hdg (fun _ _ => ⟨has, eT, hc, hs⟩)
  dsimp only [Pt.U, Pt.locs, Pt.cells, Pt.slots] at X' l1 y1 z1 st hQ
  subst l1 y1 z1
  exact ⟨v, T', Lc, X', hQ, st⟩
theorem callVirtual (X : Stand p l e R s m args below meth c T locs cells slots) (hx : p.tables.exec = Jvm.exec) (hZ : Z.Warmed39 s.vm) {own K : String} {index : Nat} {y z : MethodName} {bytes : ByteArray} {maxL W : Nat} {ret : Option FieldType} {rm : Room} {as' : Array Value}
    (hown : s.vm.findClass own = some m.cls) (w1 : (Jvm.Cond.methodLink own index y).before a0 Z = true) (w2 : (Jvm.Cond.declares y).before a0 Z = true) (nf : NotFace s y) (w3 : (Jvm.Cond.selects K y z).before a0 Z = true) (w5 : (Jvm.Cond.instanceMethod z).before a0 Z = true) (w6 : (Jvm.Cond.initialized z.cls).before a0 Z = true) (w4 : (Jvm.Cond.code z bytes maxL ret).before a0 Z = true) (hy : y.cls ≠ "java/lang/invoke/MethodHandle" ∧ y.cls ≠ "java/lang/invoke/VarHandle")
    (M : Pays l Z z bytes maxL ret [] rm as' h Q) (hf : rm.frames + 1 ≤ R.frames) (hl : W + (maxL + 11) + rm.locals ≤ R.locals) (hc : cells + rm.cells ≤ R.cells) (hs : slots + rm.slots ≤ R.slots) (eT : T.heap = h) {b : Addr} (E : Exa Z h b K)
    {g : JFrame} (hg : g.method = m) (hsize : g.locals.size = c.maxLocals) {argsL rest : List Value} (hlen : ∀ sig, parseMethodDescriptor y.desc = some sig → argsL.length = sig.parameters.length) (hstack : g.stack = argsL.reverse ++ .ref b :: rest) (has : (.ref b :: argsL).toArray = as') (hW : 2 * g.monitorRoom + (rest.map fun v => v.category).sum ≤ W) (hdg : decode c.code g.pc = .ok (.invokevirtual index, 3)) :
    ∃ (v : Option Value) (T' : State) (L : List Loc), Stand p l e R s m args below meth c T' (locs ++ L) (cells + rm.cells) (slots + rm.slots) ∧ Q v T'.heap L ∧ ∀ t, Steps p.tables e below (T'.setTop { g with pc := g.pc + 3, stack := v.toList ++ rest }) t → Steps p.tables e below (T.setTop g) t := by
  obtain ⟨cq, kq, qa, -, qc⟩ := isOf (T := T) hZ eT E
  obtain ⟨v, vm1, ⟨T', L', k', n'⟩, -, X', ⟨Lc, hQ, l1, y1, z1⟩, st⟩ := X.virtualBack hx (y := y) (z := z) hown (mvT hZ w1) (mvT hZ w2) nf (mvT hZ w3) (mvT hZ w5) hy (backOf (W := W) M hZ w4 w6 hf hl) qa qc hg hsize (Steps.refl _) (argsL := argsL) (rest := rest) hlen hstack hW hdg (fun _ _ => ⟨has, eT, hc, hs⟩)
  dsimp only [Pt.U, Pt.locs, Pt.cells, Pt.slots] at X' l1 y1 z1 st hQ
  subst l1 y1 z1
  exact ⟨v, T', Lc, X', hQ, fun t k => st.trans k⟩
theorem callInit (X : Stand p l e R s m args below meth c T locs cells slots) (hx : p.tables.exec = Jvm.exec) (hZ : Z.Warmed39 s.vm) {own : String} {index : Nat} {y : MethodName} {bytes : ByteArray} {maxL W : Nat} {rm : Room} {as' : Array Value}
    (hy1 : y.name = "<init>") (hown : s.vm.findClass own = some m.cls) (w1 : (Jvm.Cond.methodLink own index y).before a0 Z = true) (w5 : (Jvm.Cond.instanceMethod y).before a0 Z = true) (w6 : (Jvm.Cond.initialized y.cls).before a0 Z = true) (w4 : (Jvm.Cond.code y bytes maxL none).before a0 Z = true) (hy : y.cls ≠ "java/lang/invoke/MethodHandle" ∧ y.cls ≠ "java/lang/invoke/VarHandle")
    (M : Pays l Z y bytes maxL none [] rm as' h Q) (hf : rm.frames + 1 ≤ R.frames) (hl : W + (maxL + 11) + rm.locals ≤ R.locals) (hc : cells + rm.cells ≤ R.cells) (hs : slots + rm.slots ≤ R.slots) (eT : T.heap = h) {b : Addr}
    {g : JFrame} (hg : g.method = m) (hsize : g.locals.size = c.maxLocals) {argsL rest : List Value} (hlen : ∀ sig, parseMethodDescriptor y.desc = some sig → argsL.length = sig.parameters.length) (hstack : g.stack = argsL.reverse ++ .ref b :: rest) (has : (.ref b :: argsL).toArray = as') (hW : 2 * g.monitorRoom + (rest.map fun v => v.category).sum ≤ W) (hdg : decode c.code g.pc = .ok (.invokespecial index, 3)) :
    ∃ (v : Option Value) (T' : State) (L : List Loc), Stand p l e R s m args below meth c T' (locs ++ L) (cells + rm.cells) (slots + rm.slots) ∧ Q v T'.heap L ∧ ∀ t, Steps p.tables e below (T'.setTop { g with pc := g.pc + 3, stack := v.toList ++ rest }) t → Steps p.tables e below (T.setTop g) t := by
  obtain ⟨v, vm1, ⟨T', L', k', n'⟩, -, X', ⟨Lc, hQ, l1, y1, z1⟩, st⟩ := X.specialBack hx (y := y) hy1 hown (mvT hZ w1) (mvT hZ w5) (mvT hZ w4) hy (backOf (W := W) M hZ w4 w6 hf hl) hg hsize (Steps.refl _) (a := b) (argsL := argsL) (rest := rest) hlen hstack hW hdg (fun _ _ => ⟨has, eT, hc, hs⟩)
  dsimp only [Pt.U, Pt.locs, Pt.cells, Pt.slots] at X' l1 y1 z1 st hQ
  subst l1 y1 z1
  exact ⟨v, T', Lc, X', hQ, fun t k => st.trans k⟩
theorem callPrivate (X : Stand p l e R s m args below meth c T locs cells slots) (hx : p.tables.exec = Jvm.exec) (hZ : Z.Warmed39 s.vm) {own K : String} {index kk : Nat} {y : MethodName} {bytes : ByteArray} {maxL W : Nat} {ret : Option FieldType} {rm : Room} {as' : Array Value}
    (hown : s.vm.findClass own = some m.cls) (w1 : (Jvm.Cond.methodLink own index y).before a0 Z = true) (w5 : (Jvm.Cond.instanceMethod y).before a0 Z = true) (wp : (Jvm.Cond.privateMethod y).before a0 Z = true) (wi : (Jvm.Cond.instantiable y.cls kk).before a0 Z = true) (w6 : (Jvm.Cond.initialized y.cls).before a0 Z = true) (w4 : (Jvm.Cond.code y bytes maxL ret).before a0 Z = true) (hy : y.cls ≠ "java/lang/invoke/MethodHandle" ∧ y.cls ≠ "java/lang/invoke/VarHandle")
    (M : Pays l Z y bytes maxL ret [] rm as' h Q) (hf : rm.frames + 1 ≤ R.frames) (hl : W + (maxL + 11) + rm.locals ≤ R.locals) (hc : cells + rm.cells ≤ R.cells) (hs : slots + rm.slots ≤ R.slots) (eT : T.heap = h) {b : Addr} (E : Exa Z h b K)
    {g : JFrame} (hg : g.method = m) (hsize : g.locals.size = c.maxLocals) {argsL rest : List Value} (hlen : ∀ sig, parseMethodDescriptor y.desc = some sig → argsL.length = sig.parameters.length) (hstack : g.stack = argsL.reverse ++ .ref b :: rest) (has : (.ref b :: argsL).toArray = as') (hW : 2 * g.monitorRoom + (rest.map fun v => v.category).sum ≤ W) (hdg : decode c.code g.pc = .ok (.invokevirtual index, 3)) :
    ∃ (v : Option Value) (T' : State) (L : List Loc), Stand p l e R s m args below meth c T' (locs ++ L) (cells + rm.cells) (slots + rm.slots) ∧ Q v T'.heap L ∧ ∀ t, Steps p.tables e below (T'.setTop { g with pc := g.pc + 3, stack := v.toList ++ rest }) t → Steps p.tables e below (T.setTop g) t := by
  obtain ⟨cc, kc, i1, i2, -, i4, -⟩ := Cond.instantiable_spec (mvT (args := args) hZ wi)
  have i5 : kc.isInterface = false := by cases hq : kc.isInterface <;> simp_all
  have hpr := Cond.privateMethod_at (mvP (args := #[]) hZ wp)
  obtain ⟨cell, c1, c2⟩ := E.cell
  obtain ⟨v, vm1, ⟨T', L', k', n'⟩, -, X', ⟨Lc, hQ, l1, y1, z1⟩, st⟩ := X.privateBack hx (y := y) hown (mvT hZ w1) (mvT hZ w5) (selects_self_of_private i1 i2 i5 hpr (mvT hZ w5) hy) hpr (mvT hZ w4) hy (backOf (W := W) M hZ w4 w6 hf hl) hg hsize (Steps.refl _) (a := b) (cell := cell) (by rw [eT]; exact c1) c2 (argsL := argsL) (rest := rest) hlen hstack hW hdg (fun _ _ => ⟨has, eT, hc, hs⟩)
  dsimp only [Pt.U, Pt.locs, Pt.cells, Pt.slots] at X' l1 y1 z1 st hQ
  subst l1 y1 z1
  exact ⟨v, T', Lc, X', hQ, fun t k => st.trans k⟩
theorem callFace (X : Stand p l e R s m args below meth c T locs cells slots) (hx : p.tables.exec = Jvm.exec) (hZ : Z.Warmed39 s.vm) {own K : String} {index count : Nat} {y z : MethodName} {bytes : ByteArray} {maxL W : Nat} {ret : Option FieldType} {rm : Room} {as' : Array Value}
    (hown : s.vm.findClass own = some m.cls) (w1 : (Jvm.Cond.methodLink own index y).before a0 Z = true) (w2 : (Jvm.Cond.declares y).before a0 Z = true) (wf : (Jvm.Cond.interfaceMethod y.cls y.cls y.name y.desc).before args s = true) (w3 : (Jvm.Cond.selects K y z).before a0 Z = true) (w5 : (Jvm.Cond.instanceMethod z).before a0 Z = true) (wp : (Jvm.Cond.publicMethod z).before a0 Z = true) (wu : (Jvm.Cond.unhidden K y.name y.desc).before a0 Z = true) (wc : (Jvm.Cond.castable K y.cls).before a0 Z = true) (w6 : (Jvm.Cond.initialized z.cls).before a0 Z = true) (w4 : (Jvm.Cond.code z bytes maxL ret).before a0 Z = true) (hy : y.cls ≠ "java/lang/invoke/MethodHandle" ∧ y.cls ≠ "java/lang/invoke/VarHandle")
    (M : Pays l Z z bytes maxL ret [] rm as' h Q) (hf : rm.frames + 1 ≤ R.frames) (hl : W + (maxL + 11) + rm.locals ≤ R.locals) (hc : cells + rm.cells ≤ R.cells) (hs : slots + rm.slots ≤ R.slots) (eT : T.heap = h) {b : Addr} (E : Exa Z h b K)
    {g : JFrame} (hg : g.method = m) (hsize : g.locals.size = c.maxLocals) {argsL rest : List Value} (hlen : ∀ sig, parseMethodDescriptor y.desc = some sig → argsL.length = sig.parameters.length) (hstack : g.stack = argsL.reverse ++ .ref b :: rest) (has : (.ref b :: argsL).toArray = as') (hW : 2 * g.monitorRoom + (rest.map fun v => v.category).sum ≤ W) (hdg : decode c.code g.pc = .ok (.invokeinterface index count, 5)) :
    ∃ (v : Option Value) (T' : State) (L : List Loc), Stand p l e R s m args below meth c T' (locs ++ L) (cells + rm.cells) (slots + rm.slots) ∧ Q v T'.heap L ∧ ∀ t, Steps p.tables e below (T'.setTop { g with pc := g.pc + 5, stack := v.toList ++ rest }) t → Steps p.tables e below (T.setTop g) t := by
  obtain ⟨cq, kq, qa, qb, qc⟩ := isOf (T := T) hZ eT E
  obtain ⟨v, vm1, ⟨T', L', k', n'⟩, -, X', ⟨Lc, hQ, l1, y1, z1⟩, st⟩ := X.interfaceBack hx (xi := y) (y := z) hown (mvT hZ w1) (mvT hZ w2) wf (mvT hZ w3) (mvT hZ w5) (mvT hZ wp) (mvT hZ wu) (mvT hZ wc) hy (backOf (W := W) M hZ w4 w6 hf hl) qa qb qc hg hsize (Steps.refl _) (argsL := argsL) (rest := rest) hlen hstack hW hdg (fun _ _ => ⟨has, eT, hc, hs⟩)
  dsimp only [Pt.U, Pt.locs, Pt.cells, Pt.slots] at X' l1 y1 z1 st hQ
  subst l1 y1 z1
  exact ⟨v, T', Lc, X', hQ, fun t k => st.trans k⟩
theorem castV (X : Stand p l e R s m args below meth c T locs cells slots) (hx : p.tables.exec = Jvm.exec) (hZ : Z.Warmed39 s.vm) {own K : String} {index : Nat} (hown : s.vm.findClass own = some m.cls) (w : (Jvm.Cond.classLink own index K).before a0 Z = true) (eT : T.heap = h) {v : Value} (F : v = .null ∨ ∃ a, v = .ref a ∧ Ins Z h a K true)
    {g : JFrame} (hg : g.method = m) {rest : List Value} (hs : g.stack = v :: rest) (hd : decode c.code g.pc = .ok (.checkcast index, 3)) : ∃ T', Stand p l e R s m args below meth c T' locs cells slots ∧ T'.heap = h ∧ ∀ target, Steps p.tables e below (T'.setTop { g with pc := g.pc + 3 }) target → Steps p.tables e below (T.setTop g) target := by
  rcases F with rfl | ⟨a, rfl, I⟩
  · exact ⟨T, X, eT, fun t k => X.checkcastNull hx (g := g) hg hs hd t k⟩
  · exact castY X hx hZ hown w eT I hg hs hd
theorem moreRoom {cells' slots' : Nat} (X : Stand p l e R s m args below meth c T locs cells slots) (h1 : cells ≤ cells') (h2 : slots ≤ slots') : Stand p l e R s m args below meth c T locs cells' slots' :=
  { X with same := X.same.mono h1 h2 }
theorem wdOf {ts : List Jvm.Cond} (hw : ∀ d ∈ ts, d.before a0 Z = true) {d : Jvm.Cond} (k : Nat) (hk : ts[k]? = some d) : d.before a0 Z = true := hw _ (List.mem_of_getElem? hk)
end Own
end Jvm.RoadKit
namespace Jvm.RoadKit
open Sem ClassFile Op Lib Jvm.Stand Jvm.Free Jvm.LawKit
section OwnWords
variable {args : Array Value} {first s : State} {o : Option Outcome} {idx : List Nat} {t : Term}
theorem eqInt_v {k : Int32} (h : (Jvm.Cond.eq t (.int k)).value args first o s idx = some true) : t.eval args first o idx s = some (.int k) := by
  simp only [Jvm.Cond.value, Term.eval] at h
  cases ht : t.eval args first o idx s with
  | none => simp [ht] at h
  | some x => cases x <;> simp [ht] at h ⊢; exact h
theorem ownFits {ty : FieldType} {v : Value} (hv : v.isRef = true) (ht : ty.isReference = true) : fits ty v = true := by
  rcases ref_cases hv with rfl | ⟨a, rfl⟩ <;> cases ty <;> first | rfl | cases ht
theorem Sta.keepN {Z : State} {h h' : Heap} {C n d : String} {v : Value} {ws : List Addr} (F : Sta Z h C n d v) (K : Keep h h' ws) (hn : ∀ a ∈ ws, ∃ c : Cell, h[a]? = some c ∧ ∀ q, c.vm ≠ .statics q) : Sta Z h' C n d v := by
  obtain ⟨cf, i, k, f, st, cell, h1, h2, h3, h4, h5, h6, h7⟩ := F
  refine ⟨cf, i, k, f, st, cell, h1, h2, h3, h4, K.2.1 _ _ h5 fun hm => ?_, h6, h7⟩
  obtain ⟨c, g1, g2⟩ := hn st hm
  cases h5.symm.trans g1
  cases hq : cell.vm <;> first | (rw [hq] at h6; exact Bool.noConfusion h6) | exact g2 _ hq
theorem NSr {Z : State} {a0 : Array Value} {O K : String} {n : Nat} (w : (Jvm.Cond.noSuperclass O).before a0 Z = true) (wi : (Jvm.Cond.instantiable K n).before a0 Z = true) (hn : O ≠ K) : NS Z O K := by
  obtain ⟨c, k, h1, h2, h3, -, -⟩ := Cond.noSuperclass_spec w
  obtain ⟨t, kt, g1, -⟩ := Cond.instantiable_spec wi
  refine ⟨c, t, h1, g1, fun fuel => ?_⟩
  cases fuel with
  | zero => rfl
  | succ f => simp [Vm.isSubclassAux, ids_ne h1 g1 hn, h2, h3]
theorem NSno {Z : State} {a0 : Array Value} {C S K : String} {n : Nat} (w : (Jvm.Cond.superclass C S).before a0 Z = true) (wi : (Jvm.Cond.instantiable K n).before a0 Z = true) (q : NS Z C K) (hn : C ≠ K) : ∃ c t, Z.vm.findClass C = some c ∧ Z.vm.findClass K = some t ∧ Z.vm.assignable c t = false := by
  obtain ⟨c, t, h0, g0, n3⟩ := q
  obtain ⟨_, k, _, -, h2, -, -, h5, -, -⟩ := Cond.superclass_spec h0 w
  obtain ⟨t', k', g1, g2, g5, g7, -⟩ := Cond.instantiable_spec wi
  cases g0.symm.trans g1
  have g8 : k'.isInterface = false := by cases hq : k'.isInterface <;> simp_all
  refine ⟨c, t, h0, g0, ?_⟩
  show Z.vm.assignableAux (255 + 1) c t = false
  simp [Vm.assignableAux, ids_ne h0 g0 hn, h2, g2, h5, g5, g8, Vm.isSubclass, n3]
theorem Ext.of_keep {h h' : Heap} (K : Keep h h' []) : Ext h h' := ⟨K.1, fun a c q => K.2.1 a c q nin0⟩
theorem Keep.of_ext {h h' : Heap} (E : Ext h h') (ws : List Addr) : Keep h h' ws := (Keep.refl h ws).ext E
theorem ofInt {x : Int32} (n : Int32) (h : x.toInt = n.toInt) : x = n := Int32.toInt_inj.mp h
end OwnWords
end Jvm.RoadKit
@@BLOCK:LamKit.lean.txt@@
namespace Jvm.RoadKit
open Sem ClassFile Op Lib Jvm.Stand Jvm.Free Jvm.LawKit
section OwnBox
theorem eqVal_v {args : Array Value} {first s : State} {o : Option Outcome} {idx : List Nat} {t u : Term} {w : Value} (h : (Jvm.Cond.eq t u).value args first o s idx = some true) (hu : u.eval args first o idx s = some w) (hw : (∃ n, w = .int n) ∨ ∃ n, w = .long n) : t.eval args first o idx s = some w := by
  rcases hw with ⟨n, rfl⟩ | ⟨n, rfl⟩ <;>
  · simp only [Jvm.Cond.value, hu] at h
    cases ht : t.eval args first o idx s with
    | none => simp [ht] at h
    | some x => cases x <;> simp [ht] at h ⊢; exact h
/-- a cache of 256 boxes, as it stands in the heap of Z: the i-th holds val i -/
def BoxC (Z : State) (K D B vd : String) (val : Nat → Value) : Prop := ∃ (ca : Addr) (cl : Cell), Sta Z Z.heap K "cache" D (.ref ca) ∧ Arr Z Z.heap ca cl (.object B) ∧ cl.slots.size = 256 ∧ ∀ i, i < 256 → ∃ r, cl.slots[i]? = some (.ref r) ∧ Exa Z Z.heap r B ∧ Fld Z Z.heap r B "value" vd (val i)
theorem clamp256 {i : Nat} (h : i < 256) : i.toInt32.toNatClampNeg = i := by
  have : i.toInt32.toInt = i := Int32.toInt_ofNat_small (by omega)
  simp [Int32.toNatClampNeg, this]
theorem BoxC.start {s : State} {args : Array Value} {K D B vd : String} {u : Term} {val : Nat → Value} (hi : (Jvm.Cond.initialized K).before args s = true) (hl : (Jvm.Cond.laysStatic K "cache" D).before args s = true)
    (ha : (Jvm.Cond.arrayOf (.static K "cache" D) (.object B)).before args s = true) (hn : (Jvm.Cond.eq (.length (.static K "cache" D)) (.int 256)).before args s = true)
    (hall : (Jvm.Cond.all (.static K "cache" D) (.and (.exactly (.elem (.static K "cache" D) (.index 0)) B) (.eq (.field (.elem (.static K "cache" D) (.index 0)) B "value" vd) u))).before args s = true)
    (hu : ∀ i : Nat, u.eval args s none [i] s = some (val i)) (hv : ∀ i, (∃ n, val i = .int n) ∨ ∃ n, val i = .long n) : BoxC s K D B vd val := by
  have ha' := Cond.before_iff.mp ha
  obtain ⟨ca, ev⟩ := arr_v ha'
  obtain ⟨cl, A⟩ := Arr.start ev ha'
  have hat : s.arrayAt? ca = some cl := A.fin (Vm.Alike.refl _)
  have hsz : cl.slots.size = 256 := by
    have h1 := eqInt_v (Cond.before_iff.mp hn)
    simp only [Term.eval, hat] at h1
    have ev' := ev
    simp only [Term.eval] at ev'
    rw [ev'] at h1
    by_cases hq : cl.slots.size < 2 ^ 31
    · simp [hat, hq] at h1
      have h2 : cl.slots.size.toInt32.toInt = 256 := by rw [h1]; rfl
      rw [Int32.toInt_ofNat_small hq] at h2
      omega
    · simp [hat, hq] at h1
  refine ⟨ca, cl, Sta.start ev (Or.inr ⟨hi, hl⟩), A, hsz, fun i hi => ?_⟩
  obtain ⟨h1, h2⟩ := and_e (Cond.all_elim ev hat (Cond.before_iff.mp hall) i (by omega))
  obtain ⟨r, er⟩ := exa_v h1
  have ev1 : (Term.static K "cache" D).eval args s none [i] s = some (.ref ca) := ev
  obtain ⟨-, q⟩ := elem_in er ev1 (Term.index_eval (idx := []) i) A.1
  rw [clamp256 hi] at q
  refine ⟨r, q, exa_at er h1, Fld.start ?_⟩
  rw [← fld_at er]
  exact eqVal_v h2 (hu i) (hv i)
end OwnBox
end Jvm.RoadKit
namespace Jvm.RoadKit
open Sem ClassFile Op Lib Jvm.Stand Jvm.Free Jvm.LawKit
section OwnBar
variable {Z : State} {h h' : Heap} {a b : Addr} {ty : FieldType} {P : Value → Prop} {cl : Cell} {sl : Nat} {v : Value} {ws : List Addr}
/-- an array of five, each of whose contents meets P -/
def Bar (Z : State) (h : Heap) (a : Addr) (ty : FieldType) (P : Value → Prop) : Prop := ∃ cl : Cell, Arr Z h a cl ty ∧ cl.slots.size = (5 : Int32).toNatClampNeg ∧ ∀ (i : Nat) (v : Value), cl.slots[i]? = some v → P v
theorem Bar.lt (F : Bar Z h a ty P) : a < h.size := by obtain ⟨c, A, -⟩ := F; exact A.lt
theorem Bar.ext (F : Bar Z h a ty P) (E : Ext h h') : Bar Z h' a ty P := by obtain ⟨c, A, r⟩ := F; exact ⟨c, A.ext E, r⟩
theorem Bar.other (F : Bar Z h b ty P) (W : Wr h h' a sl v) (q : b ≠ a) : Bar Z h' b ty P := by obtain ⟨c, A, r⟩ := F; exact ⟨c, A.other W q, r⟩
theorem Bar.keep (F : Bar Z h a ty P) (K : Keep h h' ws) (q : a ∉ ws) : Bar Z h' a ty P := by obtain ⟨c, A, r⟩ := F; exact ⟨c, ⟨K.2.1 a c A.1 q, A.2⟩, r⟩
theorem Bar.set (A : Arr Z h a cl ty) (S : cl.slots.size = (5 : Int32).toNatClampNeg) (H : ∀ (i : Nat) (v : Value), cl.slots[i]? = some v → P v) (W : Wr h h' a sl v) (hv : P v) : Bar Z h' a ty P := by
  refine ⟨_, A.same W, by rw [sz_set]; exact S, fun i u hu => ?_⟩
  simp only [Cell.setSlot] at hu
  by_cases q : sl = i
  · subst q
    by_cases r : sl < cl.slots.size
    · simp [r] at hu; subst hu; exact hv
    · simp [r] at hu
  · rw [Array.getElem?_setIfInBounds_ne q] at hu; exact H i u hu
theorem Bar.at (H : ∀ (i : Nat) (v : Value), cl.slots[i]? = some v → P v) {j : Int32} (hj : ¬ (j < 0 ∨ cl.slots.size ≤ j.toNatClampNeg)) : ∃ v, cl.slots[j.toNatClampNeg]? = some v ∧ P v :=
  have q := Nat.lt_of_not_le fun q => hj (Or.inr q)
  ⟨_, Array.getElem?_eq_getElem q, H _ _ (Array.getElem?_eq_getElem q)⟩
theorem Bar.of_arv {k : ClassId} {vs : List Value} {d : Value} (F : Arv Z h a k ty (5 : Int32) vs d) (hv : ∀ x ∈ vs, P x) (hd : P d) : Bar Z h a ty P := by
  obtain ⟨c, A, -, S, -, H, -⟩ := F
  refine ⟨c, A, S, fun i u hu => ?_⟩
  have hi : i < c.slots.size := (Array.getElem?_eq_some_iff.mp hu).1
  rw [H i hi] at hu
  cases hu
  rw [List.getD_eq_getElem?_getD]
  cases hq : vs[i]? with
  | none => exact hd
  | some x => exact hv x (List.mem_of_getElem? hq)
def IntP (v : Value) : Prop := ∃ i : Int32, v = .int i
def IxP (v : Value) : Prop := ∃ i : Int32, v = .int i ∧ ¬ i < 0 ∧ i < 5
theorem IntP.mk (i : Int32) : IntP (.int i) := ⟨i, rfl⟩
theorem IntP.zeros (x : Value) (hx : x ∈ [Value.int (0 : Int32), .int (0 : Int32), .int (0 : Int32), .int (0 : Int32), .int (0 : Int32)]) : IntP x := by simp at hx; subst hx; exact ⟨0, rfl⟩
theorem IxP.zeros (x : Value) (hx : x ∈ [Value.int (0 : Int32), .int (0 : Int32), .int (0 : Int32), .int (0 : Int32), .int (0 : Int32)]) : IxP x := by simp at hx; subst hx; exact ⟨0, rfl, by decide, by decide⟩
theorem Arv.empty (A : Arr Z h a cl ty) (S : cl.slots.size = 0) : Arv Z h a cl.cls ty (0 : Int32) [] .null := ⟨cl, A, rfl, S, by decide, fun k hk => by omega, fun k hk => by omega⟩
theorem emptyStart {s : State} {args : Array Value} {K n D B : String} (hi : (Jvm.Cond.initialized K).before args s = true) (hl : (Jvm.Cond.laysStatic K n D).before args s = true)
    (ha : (Jvm.Cond.arrayOf (.static K n D) (.object B)).before args s = true) (hn : (Jvm.Cond.eq (.length (.static K n D)) (.int 0)).before args s = true) : ∃ dx kd, Sta s s.heap K n D (.ref dx) ∧ Arv s s.heap dx kd (.object B) (0 : Int32) [] .null := by
  have ha' := Cond.before_iff.mp ha
  obtain ⟨ca, ev⟩ := arr_v ha'
  obtain ⟨cl, A⟩ := Arr.start ev ha'
  have hat : s.arrayAt? ca = some cl := A.fin (Vm.Alike.refl _)
  have hsz : cl.slots.size = 0 := by
    have h1 := eqInt_v (Cond.before_iff.mp hn)
    simp only [Term.eval, hat] at h1
    have ev' := ev
    simp only [Term.eval] at ev'
    rw [ev'] at h1
    by_cases hq : cl.slots.size < 2 ^ 31
    · simp [hat, hq] at h1
      have h2 : cl.slots.size.toInt32.toInt = 0 := by rw [h1]; rfl
      rw [Int32.toInt_ofNat_small hq] at h2
      omega
    · simp [hat, hq] at h1
  exact ⟨ca, cl.cls, Sta.start ev (Or.inr ⟨hi, hl⟩), Arv.empty A hsz⟩
theorem xsDup2 {tb : Tables} [Ours tb] {e : Env} {below : List Frame} {T target : State} {m : MethodId} {c : Code} {g : JFrame} (h : At T m c below) (hx : tb.exec = Jvm.exec) (hg : g.method = m) {x y : Value} {rest : List Value} (hd : decode c.code g.pc = .ok (.dup2, 1)) (hs : g.stack = x :: y :: rest) (hc : x.category = 1) (hc' : y.category = 1)
    (hr : Steps tb e below (T.setTop { g with pc := g.pc + 1, stack := x :: y :: x :: y :: rest }) target) : Steps tb e below (T.setTop g) target := by
  subst hg
  jvm_step h [h.top, hx, hd, hs, hc, hc']
  exact hr
variable {l : Launch} {Q : Option Value → Heap → List Loc → Prop}
/-- as Pays.of; the body is told its own number too -/
theorem Pays.ofN {y : MethodName} {bytes : ByteArray} {maxL : Nat} {ret : Option FieldType} {ws : List Jvm.Cond} {rm : Room} {as' : Array Value} (hpl : plainFor y = true)
    (body : ∀ (p : Program) (e : Env) (s : State) (m : MethodId) (below : List Frame) (meth : Method) (c : Code) (s₁ : State), p.tables.exec = Jvm.exec → c.code = bytes → c.maxLocals = maxL → s.vm.findClass y.cls = some m.cls → s.methodNamed? y = some m → meth.name = y.name → meth.sig.returnType = ret → meth.locks = false → Z.Warmed39 s.vm → s₁.heap = h → Stand p l e rm s m as' below meth c s₁ [] 0 0 → Goes p e s below Q rm.cells rm.slots (s₁.setTop (entryFrame m as' maxL))) :
    Pays l Z y bytes maxL ret ws rm as' h Q := by
  refine MetFree.of_bodySF hpl hisR ?_
  intro p e s m args below meth c s₁ Bd hml hP hK
  obtain ⟨rfl, hZ, hh⟩ := hP
  obtain ⟨s₂, o, h1, h2, h3, h4⟩ := body p e s m below meth c s₁ Bd.exec Bd.bytes hml (findClass_of_methodNamed Bd.named) Bd.named (name_of_methodNamed Bd.named Bd.method).1 Bd.returns Bd.notSynchronized hZ (by rw [← hh, Bd.state]; rfl) (Stand.of_body Bd)
  exact ⟨s₂, o, h1, h2, h3, h4⟩
end OwnBar
end Jvm.RoadKit
namespace Jvm.RoadKit
open Sem ClassFile Op Lib Jvm.Stand Jvm.Free Jvm.LawKit
section OwnNe
variable {Z : State} {h h' : Heap} {a b : Addr} {ty ty' : FieldType} {P P' : Value → Prop}
theorem Arr.neT {c c' : Cell} (A : Arr Z h a c ty) (B : Arr Z h b c' ty') (ht : ty ≠ ty') : a ≠ b := by
  rintro rfl
  cases A.1.symm.trans B.1
  obtain ⟨-, k, hk, comp, hkind⟩ := A.2.1
  obtain ⟨-, k', hk', comp', hkind'⟩ := B.2.1
  cases hk.symm.trans hk'
  cases hkind.symm.trans hkind'
  exact ht rfl
theorem Bar.neT (A : Bar Z h a ty P) (B : Bar Z h b ty' P') (ht : ty ≠ ty') : a ≠ b := by obtain ⟨c, A, -⟩ := A; obtain ⟨c', B, -⟩ := B; exact A.neT B ht
theorem Arv.neBar {k : ClassId} {z : Int32} {vs : List Value} {d : Value} (A : Arv Z h a k ty z vs d) (B : Bar Z h b ty' P') (ht : ty ≠ ty') : a ≠ b := by obtain ⟨c, A, -⟩ := A; obtain ⟨c', B, -⟩ := B; exact A.neT B ht
theorem Exa.neBar {C : String} {n : Nat} {a0 : Array Value} (E : Exa Z h a C) (B : Bar Z h b ty P) (w : (Jvm.Cond.instantiable C n).before a0 Z = true) : a ≠ b := by
  rintro rfl
  obtain ⟨c, A, S, -⟩ := B
  obtain ⟨c1, k1, e1, f1, g1, -⟩ := E
  cases e1.symm.trans A.1
  obtain ⟨t, k, q1, q2, q3, -⟩ := Cond.instantiable_spec w
  cases q1.symm.trans f1
  cases q2.symm.trans g1
  obtain ⟨-, kk, hk, comp, hkind⟩ := A.2.1
  cases hk.symm.trans g1
  rw [hkind] at q3
  cases q3
end OwnNe
end Jvm.RoadKit
namespace Jvm.RoadKit.HLam
open Jvm Jvm.ClassFile Jvm.Lambda Sem Op Lib Jvm.Stand Jvm.Free Jvm.LawKit Jvm.RoadKit Jvm.Free.Fw Jvm.Free.Fn Jvm.Free.HMW
def σ : Lambda.Shape := { iface := "java/util/function/Predicate", name := "test", sam := ⟨[.object "java/lang/Object"], some .boolean⟩, captured := [], kind := 6, implClass := "com/example/copse/copse/HangingTree", implName := "lambda$new$0", implDesc := ⟨[.object "com/example/copse/copse/Arc"], some .boolean⟩, implItf := false, inst := ⟨[.object "com/example/copse/copse/Arc"], some .boolean⟩ }
def xs : MethodName := ⟨"com/example/copse/copse/HangingTree", "<init>", "(IILjava/util/Collection;)V"⟩
def xi : MethodName := ⟨"java/util/function/Predicate", "test", "(Ljava/lang/Object;)Z"⟩
def yl : MethodName := ⟨"com/example/copse/copse/HangingTree", "lambda$new$0", "(Lcom/example/copse/copse/Arc;)Z"⟩
def fwdB : ByteArray := ⟨#[0x2b, 0xc0, 0x00, 0x0e, 0xb8, 0x00, 0x14, 0xac]⟩
theorem f0 : decode fwdB 0 = .ok (.aload_n 1, 1) := by decide +kernel
theorem f1 : decode fwdB 1 = .ok (.checkcast 14, 3) := by decide +kernel
theorem f4 : decode fwdB 4 = .ok (.invokestatic 20, 3) := by decide +kernel
theorem f7 : decode fwdB 7 = .ok (.ireturn, 1) := by decide +kernel
def D : ClassFile := (σ.file "com/example/copse/copse/HangingTree").getD { minorVersion := 0, majorVersion := 0, constantPool := #[], accessFlags := 0, thisClass := 0, superClass := 0, interfaces := #[], fields := #[], methods := #[], attributes := #[] }
def forwarder : Method := ((layoutMethods D).bind (·[1]?)).getD default
theorem file_is : σ.file "com/example/copse/copse/HangingTree" = some D := by
  have h : (σ.file "com/example/copse/copse/HangingTree").isSome = true := by decide +kernel
  obtain ⟨x, hx⟩ := Option.isSome_iff_exists.mp h
  simp [D, hx]
theorem second_is : ∀ ms, layoutMethods D = some ms → ms[1]? = some forwarder := by
  intro ms hms
  have h : ((layoutMethods D).bind (·[1]?)).isSome = true := by decide +kernel
  obtain ⟨x, hx⟩ := Option.isSome_iff_exists.mp h
  have hf : forwarder = x := by simp [forwarder, hx]
  rw [hms] at hx
  rw [hf]
  exact hx
theorem f_code : (forwarder.code.map fun c => (c.code.data, c.maxLocals)) = some (fwdB.data, 2) := by decide +kernel
theorem f_flags : (forwarder.accessFlags, forwarder.name, forwarder.sig.returnType) = (0x0001, "test", (some .boolean : Option FieldType)) := by decide +kernel
theorem eM : D.constantPool[20]? = some (.methodref 16 19) ∧ D.constantPool.className? 16 = some "com/example/copse/copse/HangingTree" ∧ D.constantPool.nameAndType? 19 = some ("lambda$new$0", "(Lcom/example/copse/copse/Arc;)Z") := by decide +kernel
theorem eC : D.constantPool[16]? = some (.class_ 15) ∧ D.constantPool.string? 15 = some "com/example/copse/copse/HangingTree" ∧ 16 ≠ D.thisClass := by decide +kernel
theorem eK0 : D.constantPool[14]? = some (.class_ 13) ∧ D.constantPool.string? 13 = some "com/example/copse/copse/Arc" ∧ 14 ≠ D.thisClass := by decide +kernel
/-- what the made class's record says -/
theorem made_facts {e : Setting} {vm : Vm} {d c : ClassId} {dk : Class} {cA : ClassId} (hd : vm.classes[d]? = some dk) (hname : dk.name = "com/example/copse/copse/HangingTree") (h : isMade e vm d σ c = true) (hA : vm.findClass "com/example/copse/copse/Arc" = some cA) :
    ∃ (k tk : Class) (file : ClassFile) (methk : Method) (ck : Code) (toy : ClassId) (t : MethodId),
      vm.classes[c]? = some k ∧ k.name = "com/example/copse/copse/HangingTree$$Lambda" ∧ k.cf = some file ∧ file.constantPool = D.constantPool ∧
      vm.method? ⟨c, 1⟩ = some methk ∧ methk.code = some ck ∧ ck.code = fwdB ∧ ck.maxLocals = 2 ∧ methk.locks = false ∧ methk.accessFlags = 0x0001 ∧ methk.sig.returnType = some .boolean ∧
      vm.findClass "com/example/copse/copse/HangingTree" = some toy ∧ vm.classes[toy]? = some tk ∧ ((methodIn toy "lambda$new$0" "(Lcom/example/copse/copse/Arc;)Z" tk.isInterface none).ask e vm).1 = .ok t ∧
      vm.methodReady c 20 t ∧ vm.classReady c 16 toy ∧ vm.classReady c 14 cA := by
  obtain ⟨dk', k, ok, tk, file, cf, object, iface, toy, lay, methods, target, found, hd', hk, hfile, hcf, hobj, -, hok, hlay, hms, ht, htk, hg, -, hrec, -, -, -, hitf, hpool, hmeth, hfields, -, hres, -⟩ := isMade_spec h
  cases hd.symm.trans hd'
  rw [hname, file_is] at hcf
  cases hcf
  obtain ⟨b, hb, hsame⟩ := hmeth 1 forwarder (second_is methods hms)
  simp only [sameMethod, Bool.and_eq_true, decide_eq_true_eq] at hsame
  obtain ⟨⟨hn, -, hsig, hfl⟩, hcode⟩ := hsame
  have fc := f_code
  have ff := f_flags
  simp only [Prod.mk.injEq] at ff
  cases hfc : forwarder.code with
  | none => rw [hfc] at fc; cases fc
  | some x =>
    cases hbc : b.code with
    | none => simp [hfc, hbc] at hcode
    | some y =>
      simp only [hfc, hbc, Bool.and_eq_true, decide_eq_true_eq] at hcode
      simp only [hfc, Option.map_some, Option.some.injEq, Prod.mk.injEq] at fc
      refine ⟨k, tk, file, b, y, toy, target, hk, by rw [hrec.1, hname]; rfl, hfile, hpool.2.1, by simp [Vm.method?, hk, hb], hbc, ?_, by rw [← hcode.1.1.1.1.2.1]; exact fc.2, ?_, by rw [← hfl]; exact ff.1, by rw [← hsig]; exact ff.2.2, ht, htk, hg,
        ⟨k, hk, hres 20 _ (resolvedOf_method eM.1 eM.2.1 ht htk eM.2.2 hg)⟩, ⟨k, hk, hres 16 _ (resolvedOf_class eC.1 eC.2.2 eC.2.1 ht)⟩, ⟨k, hk, hres 14 _ (resolvedOf_class eK0.1 eK0.2.2 eK0.2.1 hA)⟩⟩
      · rw [← hcode.1.1.1.1.2.2]
        exact ByteArray.ext fc.1
      · simp [Method.locks, Method.isSynchronized, ← hfl, ff.1, hasFlag, Acc.synchronized]
section Ride
variable {Z : State} {vm : Vm}
theorem cls39 {c i a : Nat} (hZ : Z.Warmed39 vm) (h : Z.vm.classReady c i a) : vm.classReady c i a := by
  obtain ⟨k, hk, hr⟩ := h
  obtain ⟨k', hk', -, -, e, -⟩ := hZ.2.2.2 c k hk
  refine ⟨k', hk', ?_⟩
  rcases e i with q | ⟨q, -⟩
  · rw [q]; exact hr
  · rw [hr] at q; cases q
theorem met39 {c i : Nat} {a : MethodId} (hZ : Z.Warmed39 vm) (h : Z.vm.methodReady c i a) : vm.methodReady c i a := by
  obtain ⟨k, hk, hr⟩ := h
  obtain ⟨k', hk', -, -, e, -⟩ := hZ.2.2.2 c k hk
  refine ⟨k', hk', ?_⟩
  rcases e i with q | ⟨q, -⟩
  · rw [q]; exact hr
  · rw [hr] at q; cases q
end Ride
/-- the site's one object, and its class -/
def Lam (Z : State) (cK : ClassId) (la : Addr) : Prop := Z.lambdaAt? xs 4 1 σ = some (cK, some la)
theorem Lam.at_ {Z : State} {cK : ClassId} {la : Addr} (F : Lam Z cK la) : Z.lambdaAt? xs 4 1 σ = some (cK, some la) := F
theorem Lam.start {Z : State} {a0 : Array Value} (h : (Jvm.Cond.lambdaSite xs 4 1 σ).before a0 Z = true) : ∃ cK la, Lam Z cK la := by
  obtain ⟨cK, one, hat⟩ := Cond.lambdaSite_spec h
  obtain ⟨m, k, cf, i0, p0, lk, h1, h2, -, -, -, h6, -, -, h9⟩ := State.lambdaAt?_spec hat
  rcases h9 with ⟨a, cell, -, rfl, -⟩ | ⟨-, -, h⟩
  · exact ⟨cK, a, hat⟩
  · exact absurd rfl h
theorem Lam.cell {Z : State} {cK : ClassId} {la : Addr} (F : Lam Z cK la) : ∃ cell : Cell, Z.heap[la]? = some cell ∧ cell.cls = cK ∧ cell.vm = .none := by
  obtain ⟨m, k, cf, i0, p0, lk, h1, h2, -, -, -, h6, -, -, h9⟩ := State.lambdaAt?_spec F.at_
  rcases h9 with ⟨a, cell, -, h, -, h3, h4, h5, -⟩ | ⟨-, h, -⟩
  · cases h; exact ⟨cell, h3, h4, h5⟩
  · cases h
/-- the made method over tables that have come to be warmer -/
theorem Lam.base {Z U : State} {e : Env} {cK cA : ClassId} {la : Addr} {a0 : Array Value} {bytes : ByteArray} {maxL : Nat} {ret : Option FieldType} (F : Lam Z cK la) (hA : Z.vm.findClass "com/example/copse/copse/Arc" = some cA)
    (w1 : (Jvm.Cond.code yl bytes maxL ret).before a0 Z = true) (w2 : (Jvm.Cond.static yl).before a0 Z = true) (w3 : (Jvm.Cond.initialized yl.cls).before a0 Z = true) (hZ : Z.Warmed39 U.vm) :
    ∃ methk ck, Base U cK methk ck 2 (some .boolean) ∧ ck.code = fwdB ∧ methk.accessFlags = 0x0001 ∧ U.vm.classReady cK 14 cA ∧ StaticAt e U cK 20 yl 1 := by
  obtain ⟨m, k, cf, i0, p0, lk, h1, h2, -, -, -, -, hmade, -, -⟩ := State.lambdaAt?_spec F.at_
  obtain ⟨k0, hk0, hnm⟩ := Vm.findClass_spec (findClass_of_methodNamed h1)
  cases h2.symm.trans hk0
  obtain ⟨kK, tk, file, methk, ck, toy, t, g1, g2, g3, g4, g5, g6, g7, g8, g9, g10, g11, g12, g13, g14, g15, g16, g17⟩ := made_facts h2 hnm hmade hA
  obtain ⟨t', kt, metht, q1, q2, q3, q4, q5, q6, q7, q8, q9⟩ := StaticAt.of_made (e := e) (U := Z) (y := yl) (cK := cK) (mi := 20) (ci := 16) (nt := 19) (n := 1) g1 g3 (by rw [g4]; exact eM.1) (by rw [g4]; exact eM.2.2) g15 g16 g12 g13 g14 (by decide) (mvT (State.Warmed39.refl Z) w1) (mvT (State.Warmed39.refl Z) w2) (mvT (State.Warmed39.refl Z) w3) (sig := ⟨[.object "com/example/copse/copse/Arc"], some .boolean⟩) (by decide +kernel) rfl
  have hal := hZ.alike
  obtain ⟨kK', b1, b2⟩ := hal.2.2 _ _ g1
  obtain ⟨kt', c1, c2⟩ := hal.2.2 _ _ q3
  refine ⟨methk, ck, ⟨by rw [hal.method?]; exact g5, g6, g9, State.plainMethod.of_name (fun k' hk' => by cases b1.symm.trans hk'; rw [show kK'.name = kK.name by rw [b2], g2]; decide +kernel), g8, g11⟩, g7, g10, cls39 hZ g17, ?_⟩
  obtain ⟨bb, hmem⟩ := memberRef_ask' (e := e) (vm := U.vm) (d := cK) (index := 20) (ci := 16) (n := 19) (name := yl.name) (desc := yl.desc) b1 (show kK'.cf = some file by rw [b2]; exact g3) (Or.inl (by rw [g4]; exact eM.1)) (by rw [g4]; exact eM.2.2)
  have hnU : U.methodNamed? yl = some t' := by
    have := State.methodNamed?_setVm (s := Z) hal yl
    exact this.trans q9
  obtain ⟨kt2, e1, e2⟩ := className_of_methodNamed q9
  cases q3.symm.trans e1
  have hsp : ∀ z : Method, signaturePolymorphic kt' z = false := fun z => by
    have : kt'.name = "com/example/copse/copse/HangingTree" := by rw [show kt'.name = kt.name by rw [c2]]; exact e2
    simp [signaturePolymorphic, this]
  have hcl : toy = t'.cls := by
    have := findClass_of_methodNamed q9
    exact Option.some.inj (g12.symm.trans this)
  exact ⟨t', kt', metht, ⟨16, _, _, bb, t'.cls, kt', hmem, hcl ▸ cls39 hZ g16, c1, by simp [hsp]⟩, met39 hZ q2, c1, by rw [hal.method?]; exact q4, hsp _, q6, by rw [show kt'.init = kt.init by rw [c2]]; exact q7, q8, hnU⟩
section Call
variable {p : Program} {l : Launch} {e : Env} {R : Room} {s : State} {m : MethodId} {args : Array Value} {below : List Frame} {meth : Method} {c : Code} {T : State} {locs : List Loc} {cells slots : Nat} {Z : State} {a0 : Array Value} {h : Heap} {cK : ClassId} {la : Addr}
/-- the site hands out its object -/
theorem Lam.site (F : Lam Z cK la) (X : Stand p l e R s m args below meth c T locs cells slots) (hx : p.tables.exec = Jvm.exec) (hZ : Z.Warmed39 s.vm) (hnamed : s.methodNamed? xs = some m) {g : JFrame} (hg : g.method = m) (hsize : g.locals.size = c.maxLocals) (hpc : g.pc = 4)
    (hd : decode c.code g.pc = .ok (.invokedynamic 1, 5)) {W : Nat} (hW : 2 * g.monitorRoom + (g.stack.map fun v => v.category).sum ≤ W) (hR : W + 3072 ≤ R.locals) :
    ∀ t, Steps p.tables e below (T.setTop { g with pc := g.pc + 5, stack := .ref la :: g.stack }) t → Steps p.tables e below (T.setTop g) t := by
  intro t kt
  obtain ⟨m0, k, cf, i0, p0, lk, h1, h2, -, -, -, h6, -, -, h9⟩ := State.lambdaAt?_spec F.at_
  have hm : m0 = m := by
    have q := State.methodNamed?_setVm (s := Z) hZ.alike xs
    exact Option.some.inj (h1.symm.trans (q.symm.trans hnamed))
  subst hm
  obtain ⟨k', b1, b2⟩ := hZ.alike.2.2 _ _ h2
  rcases h9 with ⟨a, cell, rfl, h, -⟩ | ⟨-, h, -⟩
  · cases h
    refine X.lambdaConstant hx (g := g) hg hsize hd (i0 := i0) (p0 := p0) (a := la) b1 (by rw [show k'.callSites = k.callSites by rw [b2], hpc]; exact h6) ?_ kt
    rw [X.admits.platform]
    exact Nat.le_trans (Nat.add_le_add_right hW _) hR
  · cases h
theorem Lam.fnx (F : Lam Z cK la) (e : Env) {cA : ClassId} (hA : Z.vm.findClass "com/example/copse/copse/Arc" = some cA) {bytes : ByteArray} {maxL : Nat} {ret : Option FieldType}
    (w1 : (Jvm.Cond.code yl bytes maxL ret).before a0 Z = true) (w2 : (Jvm.Cond.static yl).before a0 Z = true) (w3 : (Jvm.Cond.initialized yl.cls).before a0 Z = true) (hword : (Jvm.Cond.interfaceMethod xi.cls xi.cls xi.name xi.desc).before a0 Z = true) (hZ : Z.Warmed39 s.vm) : FnX xi cK ⟨cK, 1⟩ s := by
  obtain ⟨m0, k, cf, i0, p0, lk, h1, h2, -, -, -, h6, hmade, hcan, -⟩ := State.lambdaAt?_spec F.at_
  obtain ⟨methk, ck, hB, -, hfl, -⟩ := F.base (U := Z) (e := e) hA w1 w2 w3 (State.Warmed39.refl Z)
  obtain ⟨kk, hkk⟩ : ∃ kk, Z.vm.classes[cK]? = some kk := by
    obtain ⟨k, h, -⟩ := cls39 (State.Warmed39.refl Z) (F.base (U := Z) (e := e) hA w1 w2 w3 (State.Warmed39.refl Z)).choose_spec.choose_spec.2.2.2.1
    exact ⟨k, h⟩
  obtain ⟨kF, methK, g1, g2, g3, g4, g5⟩ := FnX.of_site hmade hcan (xi := xi) rfl rfl (by decide +kernel) hword hkk hB.meth hfl
  have hal := hZ.alike
  obtain ⟨kF', b1, b2⟩ := hal.2.2 _ _ g1
  refine ⟨kF', methK, b1, by rw [hal.method?]; exact g2, g3, g4, fun r0 r hn hr => ?_⟩
  have q : Z.methodNamed? xi = some r0 := ((State.methodNamed?_setVm (s := Z) hal xi).symm.trans hn)
  obtain ⟨q1, q2, q3⟩ := g5 r0 r q (by rw [← hal.method?]; exact hr)
  refine ⟨by rw [hal.assignable]; exact q1, by rw [hal.selectMethod]; exact q2, ?_⟩
  rw [hal.superclasses]
  simpa only [hal.declaredIn] using q3
/-- a call of test on the site's object: the forwarder, and the lambda's body beneath it -/
theorem Lam.call (F : Lam Z cK la) (X : Stand p l e R s m args below meth c T locs cells slots) (hx : p.tables.exec = Jvm.exec) (hZ : Z.Warmed39 s.vm) {own : String} {index count : Nat} (hown : s.vm.findClass own = some m.cls) {maxL : Nat} {bytes : ByteArray}
    (wl : (Jvm.Cond.methodLink own index xi).before a0 Z = true) (wd : (Jvm.Cond.declares xi).before a0 Z = true) (wf : (Jvm.Cond.interfaceMethod xi.cls xi.cls xi.name xi.desc).before a0 Z = true) (w1 : (Jvm.Cond.code yl bytes maxL (some .boolean)).before a0 Z = true) (w2 : (Jvm.Cond.static yl).before a0 Z = true) (w3 : (Jvm.Cond.initialized yl.cls).before a0 Z = true) (wc : (Jvm.Cond.castable "com/example/copse/copse/Arc" "com/example/copse/copse/Arc").before a0 Z = true)
    {rm : Room} {ax : Addr} {z : Int32} (hz : narrow .boolean (.int z) = .int z) (M : Pays l Z yl bytes maxL (some .boolean) [] rm #[.ref ax] h (fun v h' L => v = some (.int z) ∧ L = [] ∧ h' = h)) (E : Exa Z h ax "com/example/copse/copse/Arc") (eT : T.heap = h) (hold : Ext Z.heap h)
    {g : JFrame} (hg : g.method = m) (hsize : g.locals.size = c.maxLocals) {rest : List Value} (hst : g.stack = .ref ax :: .ref la :: rest) {W : Nat} (hW : 2 * g.monitorRoom + (rest.map fun v => v.category).sum ≤ W) (hd : decode c.code g.pc = .ok (.invokeinterface index count, 5))
    (hf : rm.frames + 1 + 1 ≤ R.frames) (hl : W + (2 + 11) + (0 + (maxL + 11) + rm.locals) ≤ R.locals) (hc : cells + rm.cells ≤ R.cells) (hs : slots + rm.slots ≤ R.slots) :
    ∃ T', Stand p l e R s m args below meth c T' locs (cells + rm.cells) (slots + rm.slots) ∧ T'.heap = h ∧ ∀ t, Steps p.tables e below (T'.setTop { g with pc := g.pc + 5, stack := .int z :: rest }) t → Steps p.tables e below (T.setTop g) t := by
  obtain ⟨cellA, kA, hA1, hA, hA3, hA4, -⟩ := id E
  obtain ⟨cellA', cT, i1, i2, i3⟩ := Ins.self E
  cases i1.symm.trans hA1
  cases i2.symm.trans hA
  have i4 : Z.vm.assignable cellA.cls cellA.cls = true := by simpa [hA4] using i3
  have hK : BackW l R p e below s args (fun _ m' => m' = ⟨cK, 1⟩) 5 W (fun A a => a = #[.ref la, .ref ax] ∧ A.U.heap = h ∧ A.cells + rm.cells ≤ R.cells ∧ A.slots + rm.slots ≤ R.slots)
      (fun A _ v B => v = some (.int z) ∧ B.U.heap = h ∧ B.locs = A.locs ∧ B.cells = A.cells + rm.cells ∧ B.slots = A.slots + rm.slots) := by
    intro m1 meth1 c1 A gj ig mk a X1 hg1 hsize1 hdg1 hW1 hwho hpre
    obtain ⟨ha, hh, hc1, hs1⟩ := hpre
    subst hwho ha
    have hU : Z.Warmed39 A.U.vm := wtrans hZ X1.warmed
    obtain ⟨methk, ck, hB, hby, -, hcr, hS⟩ := F.base (U := A.U) (e := e) hA w1 w2 w3 hU
    obtain ⟨v, T', U1, L1, k1, n1, X', ⟨hv, hL, hh1, hk1, hn1⟩, hhe, hvm, -, st⟩ := X1.through hg1 hsize1 hdg1 #[.ref la, .ref ax] (R' := { frames := rm.frames + 1, cells := rm.cells, slots := rm.slots, locals := 0 + (maxL + 11) + rm.locals }) hB.meth hB.code hB.locks hB.plain hf (by rw [hB.maxL]; show _ + (2 + 11) + (0 + (maxL + 11) + rm.locals) ≤ _; omega) hc1 hs1
      (Φ := fun v U1 L1 k1 n1 => v = some (.int z) ∧ L1 = [] ∧ U1.heap = h ∧ k1 = rm.cells ∧ n1 = rm.slots)
      (fun U0 hU0 Y0 => by
        have hvm0 : U0.vm = A.U.vm := by rw [hU0]; rfl
        have hheap : U0.heap = A.U.heap := by rw [hU0]; rfl
        obtain ⟨t, kt, metht, q1, q2, q3, q4, q5, q6, q7, q8, q9⟩ := hS.of hvm0
        rw [hB.maxL, entry2 _ _ rfl]
        have d0 : decode ck.code 0 = .ok (.aload_n 1, 1) := by rw [hby]; exact f0
        have r1 : Steps p.tables e (.java gj :: below) (U0.setTop { method := ⟨cK, 1⟩, pc := 0, locals := #[.val (.ref la), .val (.ref ax)], stack := [], locked := none }) (U0.setTop { method := ⟨cK, 1⟩, pc := 1, locals := #[.val (.ref la), .val (.ref ax)], stack := [.ref ax], locked := none }) := by
          refine XS.aloadN Y0.here hx rfl d0 rfl rfl ?_
          exact Steps.refl _
        obtain ⟨kA', a1, a2⟩ := hU.alike.2.2 _ _ hA3
        have r2 := Y0.checkcastR hx (g := { method := ⟨cK, 1⟩, pc := 1, locals := #[.val (.ref la), .val (.ref ax)], stack := [.ref ax], locked := none }) rfl (index := 14) (cT := cellA.cls) (x := .ref ax) (rest := []) (by rw [hvm0]; exact hcr) rfl
          (Or.inr ⟨ax, cellA, kA', kA', rfl, by rw [hheap, hh]; exact hA1, (fun q hq => by rw [hq] at hA4; exact Bool.noConfusion hA4), by rw [hvm0]; exact a1, by rw [hvm0]; exact a1, by rw [hvm0, hU.alike.assignable]; exact i4⟩) (by rw [hby]; exact f1) r1
        obtain ⟨v, ⟨U1, L1, k1, n1⟩, Y1, ⟨L, ⟨hv, hL, hhq⟩, l1, y1, z1⟩, r3⟩ := Y0.staticR hx (g := { method := ⟨cK, 1⟩, pc := 4, locals := #[.val (.ref la), .val (.ref ax)], stack := [.ref ax], locked := none }) rfl (by rw [hB.maxL]; rfl) (index := 20) (y := yl) (argsL := [.ref ax]) (rest := []) q1 q2 q3 q4 q5 q6 q7 q8.symm rfl q9
          (backOf (W := 0) (Q := fun v h' L => v = some (.int z) ∧ L = [] ∧ h' = h) M (show Z.Warmed39 (A.U.calling gj ⟨cK, 1⟩ #[.ref la, .ref ax]).vm from hU) w1 w3 (Nat.le_refl _) (Nat.le_refl _)) (by show 2 * 0 + 0 ≤ 0; decide) ⟨rfl, by show U0.heap = h; rw [hheap, hh], by show 0 + rm.cells ≤ rm.cells; omega, by show 0 + rm.slots ≤ rm.slots; omega⟩ (by rw [hby]; exact f4) r2
        dsimp only [Pt.U, Pt.locs, Pt.cells, Pt.slots] at Y1 r3 l1 y1 z1 hhq
        subst hv hL l1 y1 z1
        exact ⟨some (.int z), U1, _, _, _, Y1, (fun q => by rw [hB.ret] at q; cases q), ⟨rfl, rfl, hhq, Nat.zero_add _, Nat.zero_add _⟩, fun fs hleave => r3.trans (Y1.ireturnOut hx hB.ret hz (Or.inr (Or.inl rfl)) (by rw [hby]; exact f7) hleave)⟩)
    subst hv hL hk1 hn1
    exact ⟨_, ⟨T', A.locs ++ [], A.cells + rm.cells, A.slots + rm.slots⟩, X', ⟨rfl, by show T'.heap = h; rw [hhe, hh1], List.append_nil _, rfl, rfl⟩, st⟩
  obtain ⟨cellL, hl1, hl2, hl3⟩ := F.cell
  obtain ⟨v, vm1, ⟨T', L', k', n'⟩, -, X', ⟨hv, hh, h1, h2, h3⟩, st⟩ := X.fnAt hx (own := own) (index := index) (count := count) (xi := xi) hown
    (fun w hw => by
      simp only [fnW, List.mem_cons, List.not_mem_nil, or_false] at hw
      rcases hw with rfl | rfl | rfl
      · exact mvT hZ wl
      · exact mvT hZ wd
      · exact mvT hZ wf) (by decide) (F.fnx e hA w1 w2 w3 wf hZ) hK (fun _ _ => rfl) (b := la) ⟨cellL, by rw [eT]; exact hold.2 _ _ hl1, hl2, by rw [hl3]; rfl⟩ (g := g) hg hsize (Steps.refl _) (argsL := [.ref ax]) (rest := rest)
    (fun sig hsig => by rw [show parseMethodDescriptor xi.desc = some ⟨[.object "java/lang/Object"], some .boolean⟩ by decide +kernel] at hsig; cases hsig; rfl) hst hW hd (fun _ _ => ⟨rfl, eT, hc, hs⟩)
  dsimp only [Pt.U, Pt.locs, Pt.cells, Pt.slots] at X' hh h1 h2 h3 st
  subst hv h1 h2 h3
  exact ⟨T', X', hh, fun t k => st.trans k⟩
end Call
end Jvm.RoadKit.HLam
namespace Jvm.RoadKit
open Sem ClassFile Op Lib Jvm.Stand Jvm.Free Jvm.LawKit
/-- a tree over the vertices 1 to 4, and on what each hangs -/
def HTr (Z : State) (h : Heap) (n0 : Nat) (tx la : Addr) (r : Int32) (v0 v1 v2 v3 v4 : Value) : Prop := ∃ (ho ch fc ns ps tu : Addr) (kh : ClassId) (sz : Int32) (cg : Int64), Exa Z h tx "com/example/copse/copse/HangingTree" ∧ Fld Z h tx "com/example/copse/copse/HangingTree" "size" "I" (.int sz) ∧ Fld Z h tx "com/example/copse/copse/HangingTree" "root" "I" (.int r) ∧ Fld Z h tx "com/example/copse/copse/HangingTree" "hangsOn" "[Lcom/example/copse/copse/Arc;" (.ref ho) ∧ Fld Z h tx "com/example/copse/copse/HangingTree" "children" "[I" (.ref ch) ∧ Fld Z h tx "com/example/copse/copse/HangingTree" "firstChild" "[I" (.ref fc) ∧ Fld Z h tx "com/example/copse/copse/HangingTree" "nextSibling" "[I" (.ref ns) ∧ Fld Z h tx "com/example/copse/copse/HangingTree" "previousSibling" "[I" (.ref ps) ∧ Fld Z h tx "com/example/copse/copse/HangingTree" "twinned" "Ljava/util/function/Predicate;" (.ref la) ∧ Fld Z h tx "com/example/copse/copse/HangingTree" "turns" "[Z" (.ref tu) ∧ Fld Z h tx "com/example/copse/copse/HangingTree" "changes" "J" (.long cg) ∧ Fld Z h tx "com/example/copse/copse/HangingTree" "forest" "Lcom/example/copse/copse/LinkCutForest;" .null ∧ Arv Z h ho kh (.object "com/example/copse/copse/Arc") (5 : Int32) [v0, v1, v2, v3, v4] .null ∧ Bar Z h tu .boolean IntP ∧ Bar Z h ns .int IntP ∧ Bar Z h fc .int IxP ∧ Bar Z h ps .int IntP ∧ Bar Z h ch .int IntP ∧ Ovr Z kh "com/example/copse/copse/Arc" ∧ (n0 ≤ tx ∧ n0 ≤ ho ∧ n0 ≤ ch ∧ n0 ≤ fc ∧ n0 ≤ ns ∧ n0 ≤ ps ∧ n0 ≤ tu) ∧ (fc ≠ ns ∧ fc ≠ ps ∧ fc ≠ ch ∧ ns ≠ ps ∧ ns ≠ ch ∧ ps ≠ ch)
theorem HTr.ext {Z : State} {h h' : Heap} {n0 : Nat} {tx la : Addr} {r : Int32} {v0 v1 v2 v3 v4 : Value} (F : HTr Z h n0 tx la r v0 v1 v2 v3 v4) (E : Ext h h') : HTr Z h' n0 tx la r v0 v1 v2 v3 v4 := by
  obtain ⟨ho, ch, fc, ns, ps, tu, kh, sz, cg, q0, q1, q2, q3, q4, q5, q6, q7, q8, q9, q10, q11, q12, q13, q14, q15, q16, q17, r0⟩ := F
  exact ⟨ho, ch, fc, ns, ps, tu, kh, sz, cg, q0.ext E, q1.ext E, q2.ext E, q3.ext E, q4.ext E, q5.ext E, q6.ext E, q7.ext E, q8.ext E, q9.ext E, q10.ext E, q11.ext E, q12.ext E, q13.ext E, q14.ext E, q15.ext E, q16.ext E, q17.ext E, r0⟩
theorem HTr.exa {Z : State} {h : Heap} {n0 : Nat} {tx la : Addr} {r : Int32} {v0 v1 v2 v3 v4 : Value} (F : HTr Z h n0 tx la r v0 v1 v2 v3 v4) : Exa Z h tx "com/example/copse/copse/HangingTree" := by
  obtain ⟨ho, ch, fc, ns, ps, tu, kh, sz, cg, q, -⟩ := F
  exact q
end Jvm.RoadKit
namespace Jvm.Pilot.@@N@@
open Jvm Jvm.ClassFile Sem Op Lib Jvm.Free Jvm.Stand Jvm.LawKit Jvm.RoadKit Bundle Jvm.Pilot.@@N@@.Jvm.D
theorem pd_0 : parseMethodDescriptor "()V" = some ⟨[], none⟩ := by decide +kernel
theorem pd_1 : parseMethodDescriptor "(II)I" = some ⟨[.int, .int], some .int⟩ := by decide +kernel
theorem pd_2 : parseMethodDescriptor "(I)[Ljava/lang/Object;" = some ⟨[.int], some (.array (.object "java/lang/Object"))⟩ := by decide +kernel
theorem pd_3 : parseMethodDescriptor "()[Ljava/lang/Object;" = some ⟨[], some (.array (.object "java/lang/Object"))⟩ := by decide +kernel
theorem pd_4 : parseMethodDescriptor "(Ljava/lang/Object;[Ljava/lang/Object;I)V" = some ⟨[(.object "java/lang/Object"), (.array (.object "java/lang/Object")), .int], none⟩ := by decide +kernel
theorem pd_5 : parseMethodDescriptor "(Ljava/util/ArrayList;)V" = some ⟨[(.object "java/util/ArrayList")], none⟩ := by decide +kernel
theorem pd_6 : parseMethodDescriptor "()I" = some ⟨[], some .int⟩ := by decide +kernel
theorem pd_7 : parseMethodDescriptor "(II)V" = some ⟨[.int, .int], none⟩ := by decide +kernel
theorem pd_8 : parseMethodDescriptor "()Ljava/util/Iterator;" = some ⟨[], some (.object "java/util/Iterator")⟩ := by decide +kernel
theorem pd_9 : parseMethodDescriptor "()Z" = some ⟨[], some .boolean⟩ := by decide +kernel
theorem pd_10 : parseMethodDescriptor "()Ljava/lang/Object;" = some ⟨[], some (.object "java/lang/Object")⟩ := by decide +kernel
theorem pd_11 : parseMethodDescriptor "(IILjava/util/Collection;Ljava/util/function/Predicate;)V" = some ⟨[.int, .int, (.object "java/util/Collection"), (.object "java/util/function/Predicate")], none⟩ := by decide +kernel
theorem pd_12 : parseMethodDescriptor "(I)Z" = some ⟨[.int], some .boolean⟩ := by decide +kernel
theorem pd_13 : parseMethodDescriptor "(IIJ)V" = some ⟨[.int, .int, .long], none⟩ := by decide +kernel
theorem pd_14 : parseMethodDescriptor "(Lcom/example/copse/copse/Arc;)V" = some ⟨[(.object "com/example/copse/copse/Arc")], none⟩ := by decide +kernel
theorem pd_15 : parseMethodDescriptor "(I)Ljava/lang/Integer;" = some ⟨[.int], some (.object "java/lang/Integer")⟩ := by decide +kernel
theorem pd_16 : parseMethodDescriptor "(Ljava/lang/Object;)Z" = some ⟨[(.object "java/lang/Object")], some .boolean⟩ := by decide +kernel
theorem pd_17 : parseMethodDescriptor "(IILjava/util/Collection;)V" = some ⟨[.int, .int, (.object "java/util/Collection")], none⟩ := by decide +kernel
theorem d_rm_ac_0 : decode jdk_22_method_1_code 0 = .ok (.aload_n 0, 1) := by decide +kernel
theorem d_rm_ac_1 : decode jdk_22_method_1_code 1 = .ok (.invokespecial 1, 3) := by decide +kernel
theorem d_rm_ac_4 : decode jdk_22_method_1_code 4 = .ok (.return_, 1) := by decide +kernel
set_option maxHeartbeats 4000000 in
theorem ef_rm_ac (m : MethodId) (x0 : Addr)  : entryFrame m #[(.ref x0)] 1 = mkF m 0 #[.val (.ref x0)] [] := by first | (simp [entryFrame, mkF, argsToLocals, catR, catN, catI, catJ]; done) | rfl
set_option maxRecDepth 65536 in
set_option maxHeartbeats 40000000 in
theorem rm_ac (l : Launch) (Z : State) (a0 : Array Value) (hw : ∀ d ∈ tables_1, d.before a0 Z = true) (ws : List Jvm.Cond) (ax : Addr) (h0 : Heap) (n0 : Nat) (Z0 : n0 ≤ h0.size)  :
    Pays l Z (⟨"java/util/AbstractCollection", "<init>", "()V"⟩ : MethodName) jdk_22_method_1_code 1 none ws ({ frames := 1, cells := 0, slots := 0, locals := 12 } : Room) #[(.ref ax)] h0 (fun v h L => v = none ∧ Fr n0 L ∧ h = h0) := by
  refine Pays.of (plainFor_of_name (by first | (simp [plainName, overriddenIn]; done) | decide +kernel)) ?_
  intro p e s m below meth c s₁ hx hby hml hown hnm hret hlk hZ e0 X0
  have N0 := Fr.nil n0
  have K0 : Keep h0 h0 [] := Keep.refl _ _
  refine Goes.go (U' := (s₁.setTop (mkF m 0 #[sR_ ax] []))) (fun t kt => castTop (ef_rm_ac m ax) kt) ?_
  refine Goes.go (U' := (s₁.setTop (mkF m 1 #[sR_ ax] [(.ref ax)]))) (fun t kt => ?_) ?_
  · skip
    refine XS.aloadN X0.here hx rfl (hb hby d_rm_ac_0) rfl rfl ?_
    exact kt
  obtain ⟨T_1, X_1, e_1, st_1⟩ := initO X0 hx hZ hown (wdOf hw 19 rfl) (wdOf hw 20 rfl) (wdOf hw 21 rfl) e0 (g := (mkF m 1 #[sR_ ax] [(.ref ax)])) rfl (by rw [hml]; rfl) rfl (hb hby d_rm_ac_1) (by decide) (W := 0) (Nat.le_refl _) (by decide)
  refine Goes.go (U' := (T_1.setTop (mkF m 4 #[sR_ ax] []))) st_1 ?_
  refine Goes.retV X_1 hx hlk hret (hb hby d_rm_ac_4) (by decide) (by decide) ?_
  try rw [e_1]
  exact ⟨rfl, N0, rfl⟩
theorem d_rm_ab2_0 : decode jdk_39_method_1_code 0 = .ok (.aload_n 0, 1) := by decide +kernel
theorem d_rm_ab2_1 : decode jdk_39_method_1_code 1 = .ok (.invokespecial 1, 3) := by decide +kernel
theorem d_rm_ab2_4 : decode jdk_39_method_1_code 4 = .ok (.aload_n 0, 1) := by decide +kernel
theorem d_rm_ab2_5 : decode jdk_39_method_1_code 5 = .ok (.iconst 0, 1) := by decide +kernel
theorem d_rm_ab2_6 : decode jdk_39_method_1_code 6 = .ok (.putfield 7, 3) := by decide +kernel
theorem d_rm_ab2_9 : decode jdk_39_method_1_code 9 = .ok (.return_, 1) := by decide +kernel
set_option maxHeartbeats 4000000 in
theorem ef_rm_ab2 (m : MethodId) (x0 : Addr)  : entryFrame m #[(.ref x0)] 1 = mkF m 0 #[.val (.ref x0)] [] := by first | (simp [entryFrame, mkF, argsToLocals, catR, catN, catI, catJ]; done) | rfl
set_option maxRecDepth 65536 in
set_option maxHeartbeats 40000000 in
theorem rm_ab2 (l : Launch) (Z : State) (a0 : Array Value) (hw : ∀ d ∈ tables_1, d.before a0 Z = true) (ws : List Jvm.Cond) (ax : Addr) (h0 : Heap) (n0 : Nat) (Z0 : n0 ≤ h0.size) (o0 : n0 ≤ ax) (E0 : Exa Z h0 ax "java/util/ArrayList") (F0_modCount : Fld Z h0 ax "java/util/AbstractList" "modCount" "I" (.int (0 : Int32))) (F0_elementData : Fld Z h0 ax "java/util/ArrayList" "elementData" "[Ljava/lang/Object;" .null) (F0_size : Fld Z h0 ax "java/util/ArrayList" "size" "I" (.int (0 : Int32))) :
    Pays l Z (⟨"java/util/AbstractList", "<init>", "()V"⟩ : MethodName) jdk_39_method_1_code 1 none ws ({ frames := 2, cells := 0, slots := 0, locals := 24 } : Room) #[(.ref ax)] h0 (fun v h L => v = none ∧ Fr n0 L ∧ Keep h0 h [ax] ∧ Exa Z h ax "java/util/ArrayList" ∧ Fld Z h ax "java/util/AbstractList" "modCount" "I" (.int (0 : Int32)) ∧ Fld Z h ax "java/util/ArrayList" "elementData" "[Ljava/lang/Object;" .null ∧ Fld Z h ax "java/util/ArrayList" "size" "I" (.int (0 : Int32))) := by
  refine Pays.of (plainFor_of_name (by first | (simp [plainName, overriddenIn]; done) | decide +kernel)) ?_
  intro p e s m below meth c s₁ hx hby hml hown hnm hret hlk hZ e0 X0
  have N0 := Fr.nil n0
  have K0 : Keep h0 h0 [ax] := Keep.refl _ _
  refine Goes.go (U' := (s₁.setTop (mkF m 0 #[sR_ ax] []))) (fun t kt => castTop (ef_rm_ab2 m ax) kt) ?_
  refine Goes.go (U' := (s₁.setTop (mkF m 1 #[sR_ ax] [(.ref ax)]))) (fun t kt => ?_) ?_
  · skip
    refine XS.aloadN X0.here hx rfl (hb hby d_rm_ab2_0) rfl rfl ?_
    exact kt
  obtain ⟨v_1, T_1, L_1, X_1, q_1, st_1⟩ := callInit X0 hx hZ (y := (⟨"java/util/AbstractCollection", "<init>", "()V"⟩ : MethodName)) (W := 0) rfl hown (wdOf hw 13 rfl) (wdOf hw 14 rfl) (wdOf hw 17 rfl) (wdOf hw 18 rfl) (by decide) (rm_ac l Z a0 hw [] ax h0 n0 Z0) (by decide) (by decide) (by decide) (by decide) e0 (b := ax) (g := (mkF m 1 #[sR_ ax] [(.ref ax)])) rfl (by rw [hml]; rfl) (argsL := []) (rest := []) (lenOf pd_0 rfl) rfl rfl (Nat.le_refl _) (hb hby d_rm_ab2_1)
  obtain ⟨rfl, n_1, K_1⟩ := q_1
  have N_1 := Fr.app N0 n_1
  refine Goes.go (U' := (T_1.setTop (mkF m 4 #[sR_ ax] []))) st_1 ?_
  refine Goes.go (U' := (T_1.setTop (mkF m 6 #[sR_ ax] [(.int (0 : Int32)), (.ref ax)]))) (fun t kt => ?_) ?_
  · skip
    refine XS.aloadN X_1.here hx rfl (hb hby d_rm_ab2_4) rfl rfl ?_
    refine XS.iconst X_1.here hx rfl (hb hby d_rm_ab2_5) ?_
    exact kt
  obtain ⟨T_2, h_2, X_2, e_2, W_2, st_2⟩ := putF X_1 hx hZ hown (host := "") (Or.inl (wdOf hw 22 rfl)) Via.refl K_1 F0_modCount E0 (Or.inl (wdOf hw 23 rfl)) (wdOf hw 2 rfl) (ty := .int) (by decide) rfl rfl (g := (mkF m 6 #[sR_ ax] [(.int (0 : Int32)), (.ref ax)])) rfl rfl (hb hby d_rm_ab2_6)
  have N_2 := Fr.snoc X_2 N_1 o0
  have f_3 := E0.wr W_2
  have f_4 := F0_modCount.same W_2
  have f_5 := F0_elementData.other W_2 (Or.inr (slot_ne (Or.inl (wdOf hw 26 rfl)) (Or.inl (wdOf hw 23 rfl)) (by decide) (t := (.array (.object "java/lang/Object"))) (t' := .int) (by decide) (by decide)))
  have f_6 := F0_size.other W_2 (Or.inr (slot_ne (Or.inl (wdOf hw 42 rfl)) (Or.inl (wdOf hw 23 rfl)) (by decide) (t := .int) (t' := .int) (by decide) (by decide)))
  have K_7 : Keep h0 h_2 [ax] := K0.wr W_2 (Or.inl (List.mem_of_getElem? (i := 0) rfl))
  have y_7 : n0 ≤ h_2.size := Nat.le_trans Z0 K_7.1
  refine Goes.go (U' := (T_2.setTop (mkF m 9 #[sR_ ax] []))) st_2 ?_
  refine Goes.retV X_2 hx hlk hret (hb hby d_rm_ab2_9) (by decide) (by decide) ?_
  try rw [e_2]
  exact ⟨rfl, N_2, K_7, f_3, f_4, f_5, f_6⟩
theorem d_rm_li_0 : decode jdk_38_method_2_code 0 = .ok (.aload_n 0, 1) := by decide +kernel
theorem d_rm_li_1 : decode jdk_38_method_2_code 1 = .ok (.invokespecial 1, 3) := by decide +kernel
theorem d_rm_li_4 : decode jdk_38_method_2_code 4 = .ok (.aload_n 0, 1) := by decide +kernel
theorem d_rm_li_5 : decode jdk_38_method_2_code 5 = .ok (.getstatic 39, 3) := by decide +kernel
theorem d_rm_li_8 : decode jdk_38_method_2_code 8 = .ok (.putfield 9, 3) := by decide +kernel
theorem d_rm_li_11 : decode jdk_38_method_2_code 11 = .ok (.return_, 1) := by decide +kernel
set_option maxHeartbeats 4000000 in
theorem ef_rm_li (m : MethodId) (x0 : Addr)  : entryFrame m #[(.ref x0)] 1 = mkF m 0 #[.val (.ref x0)] [] := by first | (simp [entryFrame, mkF, argsToLocals, catR, catN, catI, catJ]; done) | rfl
set_option maxRecDepth 65536 in
set_option maxHeartbeats 40000000 in
theorem rm_li (l : Launch) (Z : State) (a0 : Array Value) (hw : ∀ d ∈ tables_1, d.before a0 Z = true) (ws : List Jvm.Cond) (ax dx : Addr) (h0 : Heap) (n0 : Nat) (Z0 : n0 ≤ h0.size) (O : Old Z n0 h0) (SD : Sta Z Z.heap "java/util/ArrayList" "DEFAULTCAPACITY_EMPTY_ELEMENTDATA" "[Ljava/lang/Object;" (.ref dx)) (o0 : n0 ≤ ax) (E0 : Exa Z h0 ax "java/util/ArrayList") (F0_modCount : Fld Z h0 ax "java/util/AbstractList" "modCount" "I" (.int (0 : Int32))) (F0_elementData : Fld Z h0 ax "java/util/ArrayList" "elementData" "[Ljava/lang/Object;" .null) (F0_size : Fld Z h0 ax "java/util/ArrayList" "size" "I" (.int (0 : Int32))) :
    Pays l Z (⟨"java/util/ArrayList", "<init>", "()V"⟩ : MethodName) jdk_38_method_2_code 1 none ws ({ frames := 3, cells := 0, slots := 0, locals := 36 } : Room) #[(.ref ax)] h0 (fun v h L => v = none ∧ Fr n0 L ∧ Keep h0 h [ax] ∧ Exa Z h ax "java/util/ArrayList" ∧ Fld Z h ax "java/util/AbstractList" "modCount" "I" (.int (0 : Int32)) ∧ Fld Z h ax "java/util/ArrayList" "elementData" "[Ljava/lang/Object;" (.ref dx) ∧ Fld Z h ax "java/util/ArrayList" "size" "I" (.int (0 : Int32))) := by
  refine Pays.of (plainFor_of_name (by first | (simp [plainName, overriddenIn]; done) | decide +kernel)) ?_
  intro p e s m below meth c s₁ hx hby hml hown hnm hret hlk hZ e0 X0
  have N0 := Fr.nil n0
  have K0 : Keep h0 h0 [ax] := Keep.refl _ _
  refine Goes.go (U' := (s₁.setTop (mkF m 0 #[sR_ ax] []))) (fun t kt => castTop (ef_rm_li m ax) kt) ?_
  refine Goes.go (U' := (s₁.setTop (mkF m 1 #[sR_ ax] [(.ref ax)]))) (fun t kt => ?_) ?_
  · skip
    refine XS.aloadN X0.here hx rfl (hb hby d_rm_li_0) rfl rfl ?_
    exact kt
  obtain ⟨v_1, T_1, L_1, X_1, q_1, st_1⟩ := callInit X0 hx hZ (y := (⟨"java/util/AbstractList", "<init>", "()V"⟩ : MethodName)) (W := 0) rfl hown (wdOf hw 7 rfl) (wdOf hw 8 rfl) (wdOf hw 11 rfl) (wdOf hw 12 rfl) (by decide) (rm_ab2 l Z a0 hw [] ax h0 n0 Z0 o0 E0 F0_modCount F0_elementData F0_size) (by decide) (by decide) (by decide) (by decide) e0 (b := ax) (g := (mkF m 1 #[sR_ ax] [(.ref ax)])) rfl (by rw [hml]; rfl) (argsL := []) (rest := []) (lenOf pd_0 rfl) rfl rfl (Nat.le_refl _) (hb hby d_rm_li_1)
  obtain ⟨rfl, n_1, K_1, GE__1, GmodCount__1, GelementData__1, Gsize__1⟩ := q_1
  have N_1 := Fr.app N0 n_1
  have f_2 := E0.keep K_1
  have f_6 : Sta Z T_1.heap "java/util/ArrayList" "DEFAULTCAPACITY_EMPTY_ELEMENTDATA" "[Ljava/lang/Object;" (.ref dx) := (SD.ext O.2).keepN K_1 (allS (E0.cell) all0)
  have K_7 : Keep h0 T_1.heap [ax] := K0.trans K_1 (allS (P := fun x => x ∈ [ax] ∨ h0.size ≤ x) (Or.inl (List.mem_of_getElem? (i := 0) rfl)) all0)
  have y_7 : n0 ≤ T_1.heap.size := Nat.le_trans Z0 K_7.1
  refine Goes.go (U' := (T_1.setTop (mkF m 4 #[sR_ ax] []))) st_1 ?_
  refine Goes.go (U' := (T_1.setTop (mkF m 5 #[sR_ ax] [(.ref ax)]))) (fun t kt => ?_) ?_
  · skip
    refine XS.aloadN X_1.here hx rfl (hb hby d_rm_li_4) rfl rfl ?_
    exact kt
  obtain ⟨T_8, X_8, e_8, st_8⟩ := getS X_1 hx hZ hown (host := "") (wdOf hw 24 rfl) Via.refl (rfl : T_1.heap = T_1.heap) f_6 (g := (mkF m 5 #[sR_ ax] [(.ref ax)])) rfl (hb hby d_rm_li_5)
  refine Goes.go (U' := (T_8.setTop (mkF m 8 #[sR_ ax] [(.ref dx), (.ref ax)]))) st_8 ?_
  obtain ⟨T_9, h_9, X_9, e_9, W_9, st_9⟩ := putF X_8 hx hZ hown (host := "") (Or.inl (wdOf hw 25 rfl)) Via.refl e_8 GelementData__1 f_2 (Or.inl (wdOf hw 26 rfl)) (wdOf hw 2 rfl) (ty := (.array (.object "java/lang/Object"))) (by decide) rfl rfl (g := (mkF m 8 #[sR_ ax] [(.ref dx), (.ref ax)])) rfl rfl (hb hby d_rm_li_8)
  have N_9 := Fr.snoc X_9 N_1 o0
  have f_10 := f_2.wr W_9
  have f_11 : Sta Z h_9 "java/util/ArrayList" "DEFAULTCAPACITY_EMPTY_ELEMENTDATA" "[Ljava/lang/Object;" (.ref dx) := f_6.wr W_9
  have f_12 := GmodCount__1.other W_9 (Or.inr (slot_ne (Or.inl (wdOf hw 23 rfl)) (Or.inl (wdOf hw 26 rfl)) (by decide) (t := .int) (t' := (.array (.object "java/lang/Object"))) (by decide) (by decide)))
  have f_13 := GelementData__1.same W_9
  have f_14 := Gsize__1.other W_9 (Or.inr (slot_ne (Or.inl (wdOf hw 42 rfl)) (Or.inl (wdOf hw 26 rfl)) (by decide) (t := .int) (t' := (.array (.object "java/lang/Object"))) (by decide) (by decide)))
  have K_15 : Keep h0 h_9 [ax] := K_7.wr W_9 (Or.inl (List.mem_of_getElem? (i := 0) rfl))
  have y_15 : n0 ≤ h_9.size := Nat.le_trans Z0 K_15.1
  refine Goes.go (U' := (T_9.setTop (mkF m 11 #[sR_ ax] []))) st_9 ?_
  refine Goes.retV X_9 hx hlk hret (hb hby d_rm_li_11) (by decide) (by decide) ?_
  try rw [e_9]
  exact ⟨rfl, N_9, K_15, f_10, f_12, f_13, f_14⟩
theorem d_rm_mx_0 : decode jdk_29_method_65_code 0 = .ok (.iload_n 0, 1) := by decide +kernel
theorem d_rm_mx_1 : decode jdk_29_method_65_code 1 = .ok (.iload_n 1, 1) := by decide +kernel
theorem d_rm_mx_2 : decode jdk_29_method_65_code 2 = .ok (.if_icmp .lt 7, 3) := by decide +kernel
theorem d_rm_mx_5 : decode jdk_29_method_65_code 5 = .ok (.iload_n 0, 1) := by decide +kernel
theorem d_rm_mx_6 : decode jdk_29_method_65_code 6 = .ok (.goto 4, 3) := by decide +kernel
theorem d_rm_mx_10 : decode jdk_29_method_65_code 10 = .ok (.ireturn, 1) := by decide +kernel
set_option maxHeartbeats 4000000 in
theorem ef_rm_mx (m : MethodId) (x0 : Int32) (x1 : Int32)  : entryFrame m #[(.int x0), (.int x1)] 2 = mkF m 0 #[.val (.int x0), .val (.int x1)] [] := by first | (simp [entryFrame, mkF, argsToLocals, catR, catN, catI, catJ]; done) | rfl
set_option maxRecDepth 65536 in
set_option maxHeartbeats 40000000 in
theorem rm_mx (l : Launch) (Z : State) (a0 : Array Value) (hw : ∀ d ∈ tables_1, d.before a0 Z = true) (ws : List Jvm.Cond)  (h0 : Heap) (n0 : Nat) (Z0 : n0 ≤ h0.size)  :
    Pays l Z (⟨"java/lang/Math", "max", "(II)I"⟩ : MethodName) jdk_29_method_65_code 2 (some .int) ws ({ frames := 0, cells := 0, slots := 0, locals := 0 } : Room) #[(.int (10 : Int32)), (.int (1 : Int32))] h0 (fun v h L => v = some (.int (10 : Int32)) ∧ Fr n0 L ∧ h = h0) := by
  refine Pays.of (by decide +kernel) ?_
  intro p e s m below meth c s₁ hx hby hml hown hnm hret hlk hZ e0 X0
  have N0 := Fr.nil n0
  have K0 : Keep h0 h0 [] := Keep.refl _ _
  refine Goes.go (U' := (s₁.setTop (mkF m 0 #[sI_ (10 : Int32), sI_ (1 : Int32)] []))) (fun t kt => castTop (ef_rm_mx m (10 : Int32) (1 : Int32)) kt) ?_
  refine Goes.go (U' := (s₁.setTop (mkF m 10 #[sI_ (10 : Int32), sI_ (1 : Int32)] [(.int (10 : Int32))]))) (fun t kt => ?_) ?_
  · skip
    refine XS.iloadN X0.here hx rfl (hb hby d_rm_mx_0) rfl ?_
    refine XS.iloadN X0.here hx rfl (hb hby d_rm_mx_1) rfl ?_
    refine XS.icmpNo X0.here hx rfl (hb hby d_rm_mx_2) rfl (XT.ii_lt_f (by decide)) ?_
    refine XS.iloadN X0.here hx rfl (hb hby d_rm_mx_5) rfl ?_
    refine XS.goto X0.here hx rfl (pc0 := 6) (pc' := 10) rfl (hb hby d_rm_mx_6) (by decide) (by decide) ?_
    exact kt
  refine Goes.retI X0 hx hlk hret (hb hby d_rm_mx_10) (by decide) (by decide) ?_
  try rw [e0]
  exact ⟨rfl, N0, rfl⟩
theorem d_rm_g1_0 : decode jdk_38_method_6_code 0 = .ok (.aload_n 0, 1) := by decide +kernel
theorem d_rm_g1_1 : decode jdk_38_method_6_code 1 = .ok (.getfield 9, 3) := by decide +kernel
theorem d_rm_g1_4 : decode jdk_38_method_6_code 4 = .ok (.arraylength, 1) := by decide +kernel
theorem d_rm_g1_5 : decode jdk_38_method_6_code 5 = .ok (.istore_n 2, 1) := by decide +kernel
theorem d_rm_g1_6 : decode jdk_38_method_6_code 6 = .ok (.iload_n 2, 1) := by decide +kernel
theorem d_rm_g1_7 : decode jdk_38_method_6_code 7 = .ok (.ifCond .gt 13, 3) := by decide +kernel
theorem d_rm_g1_10 : decode jdk_38_method_6_code 10 = .ok (.aload_n 0, 1) := by decide +kernel
theorem d_rm_g1_11 : decode jdk_38_method_6_code 11 = .ok (.getfield 9, 3) := by decide +kernel
theorem d_rm_g1_14 : decode jdk_38_method_6_code 14 = .ok (.getstatic 39, 3) := by decide +kernel
theorem d_rm_g1_17 : decode jdk_38_method_6_code 17 = .ok (.if_acmp .eq 28, 3) := by decide +kernel
theorem d_rm_g1_45 : decode jdk_38_method_6_code 45 = .ok (.aload_n 0, 1) := by decide +kernel
theorem d_rm_g1_46 : decode jdk_38_method_6_code 46 = .ok (.bipush 10, 2) := by decide +kernel
theorem d_rm_g1_48 : decode jdk_38_method_6_code 48 = .ok (.iload_n 1, 1) := by decide +kernel
theorem d_rm_g1_49 : decode jdk_38_method_6_code 49 = .ok (.invokestatic 79, 3) := by decide +kernel
theorem d_rm_g1_52 : decode jdk_38_method_6_code 52 = .ok (.anewarray 7, 3) := by decide +kernel
theorem d_rm_g1_55 : decode jdk_38_method_6_code 55 = .ok (.dup_x1, 1) := by decide +kernel
theorem d_rm_g1_56 : decode jdk_38_method_6_code 56 = .ok (.putfield 9, 3) := by decide +kernel
theorem d_rm_g1_59 : decode jdk_38_method_6_code 59 = .ok (.areturn, 1) := by decide +kernel
set_option maxHeartbeats 4000000 in
theorem ef_rm_g1 (m : MethodId) (x0 : Addr) (x1 : Int32)  : entryFrame m #[(.ref x0), (.int x1)] 4 = mkF m 0 #[.val (.ref x0), .val (.int x1), .unset, .unset] [] := by first | (simp [entryFrame, mkF, argsToLocals, catR, catN, catI, catJ]; done) | rfl
set_option maxRecDepth 65536 in
set_option maxHeartbeats 40000000 in
theorem rm_g1 (l : Launch) (Z : State) (a0 : Array Value) (hw : ∀ d ∈ tables_1, d.before a0 Z = true) (ws : List Jvm.Cond) (ax dx : Addr) (kd : ClassId) (mc : Int32) (h0 : Heap) (n0 : Nat) (Z0 : n0 ≤ h0.size) (O : Old Z n0 h0) (SD : Sta Z Z.heap "java/util/ArrayList" "DEFAULTCAPACITY_EMPTY_ELEMENTDATA" "[Ljava/lang/Object;" (.ref dx)) (o0 : n0 ≤ ax) (nd : dx ≠ ax) (E0 : Exa Z h0 ax "java/util/ArrayList") (F0_modCount : Fld Z h0 ax "java/util/AbstractList" "modCount" "I" (.int mc)) (F0_elementData : Fld Z h0 ax "java/util/ArrayList" "elementData" "[Ljava/lang/Object;" (.ref dx)) (F0_size : Fld Z h0 ax "java/util/ArrayList" "size" "I" (.int (0 : Int32))) (Vd : Arv Z h0 dx kd (.object "java/lang/Object") (0 : Int32) [] .null) :
    Pays l Z (⟨"java/util/ArrayList", "grow", "(I)[Ljava/lang/Object;"⟩ : MethodName) jdk_38_method_6_code 4 (some (.array (.object "java/lang/Object"))) ws ({ frames := 1, cells := 1, slots := 10, locals := 14 } : Room) #[(.ref ax), (.int (1 : Int32))] h0 (fun v h L => ∃ r k, v = some (.ref r) ∧ Fr n0 L ∧ Keep h0 h [ax] ∧ Exa Z h ax "java/util/ArrayList" ∧ Fld Z h ax "java/util/AbstractList" "modCount" "I" (.int mc) ∧ Fld Z h ax "java/util/ArrayList" "elementData" "[Ljava/lang/Object;" (.ref r) ∧ Fld Z h ax "java/util/ArrayList" "size" "I" (.int (0 : Int32)) ∧ Arv Z h r k (.object "java/lang/Object") (10 : Int32) [.null, .null, .null, .null, .null, .null, .null, .null, .null, .null] .null ∧ Ovr Z k "java/lang/Object" ∧ ax ≠ r ∧ n0 ≤ r ∧ h0.size ≤ r) := by
  refine Pays.of (plainFor_of_name (by first | (simp [plainName, overriddenIn]; done) | decide +kernel)) ?_
  intro p e s m below meth c s₁ hx hby hml hown hnm hret hlk hZ e0 X0
  have N0 := Fr.nil n0
  have K0 : Keep h0 h0 [ax] := Keep.refl _ _
  refine Goes.go (U' := (s₁.setTop (mkF m 0 #[sR_ ax, sI_ (1 : Int32), sU_, sU_] []))) (fun t kt => castTop (ef_rm_g1 m ax (1 : Int32)) kt) ?_
  refine Goes.go (U' := (s₁.setTop (mkF m 1 #[sR_ ax, sI_ (1 : Int32), sU_, sU_] [(.ref ax)]))) (fun t kt => ?_) ?_
  · skip
    refine XS.aloadN X0.here hx rfl (hb hby d_rm_g1_0) rfl rfl ?_
    exact kt
  obtain ⟨T_1, X_1, e_1, st_1⟩ := getF X0 hx hZ hown (host := "") (Or.inl (wdOf hw 25 rfl)) Via.refl e0 F0_elementData (g := (mkF m 1 #[sR_ ax, sI_ (1 : Int32), sU_, sU_] [(.ref ax)])) rfl rfl (hb hby d_rm_g1_1)
  refine Goes.go (U' := (T_1.setTop (mkF m 4 #[sR_ ax, sI_ (1 : Int32), sU_, sU_] [(.ref dx)]))) st_1 ?_
  obtain ⟨cl_2, Ar_2, q_2, S_2, M_2, H_2, G_2⟩ := id Vd
  refine Goes.go (U' := (T_1.setTop (mkF m 5 #[sR_ ax, sI_ (1 : Int32), sU_, sU_] [(.int (0 : Int32))]))) (fun t kt => ?_) ?_
  · skip
    refine X_1.arraylength hx (by rw [e_1]; exact Ar_2.1) (State.isArrayOf_alike hZ.alike Ar_2.2.1) (g := (mkF m 4 #[sR_ ax, sI_ (1 : Int32), sU_, sU_] [(.ref dx)])) rfl rfl (hb hby d_rm_g1_4) _ ?_
    rw [len_of S_2 M_2]
    exact kt
  refine Goes.go (U' := (T_1.setTop (mkF m 11 #[sR_ ax, sI_ (1 : Int32), sI_ (0 : Int32), sU_] [(.ref ax)]))) (fun t kt => ?_) ?_
  · skip
    refine XS.istoreN X_1.here hx rfl (hb hby d_rm_g1_5) rfl (l' := #[sR_ ax, sI_ (1 : Int32), sI_ (0 : Int32), sU_]) rfl ?_
    refine XS.iloadN X_1.here hx rfl (hb hby d_rm_g1_6) rfl ?_
    refine XS.ifNo X_1.here hx rfl (hb hby d_rm_g1_7) rfl (XT.i0_gt_f (by decide)) ?_
    refine XS.aloadN X_1.here hx rfl (hb hby d_rm_g1_10) rfl rfl ?_
    exact kt
  obtain ⟨T_3, X_3, e_3, st_3⟩ := getF X_1 hx hZ hown (host := "") (Or.inl (wdOf hw 25 rfl)) Via.refl e_1 F0_elementData (g := (mkF m 11 #[sR_ ax, sI_ (1 : Int32), sI_ (0 : Int32), sU_] [(.ref ax)])) rfl rfl (hb hby d_rm_g1_11)
  refine Goes.go (U' := (T_3.setTop (mkF m 14 #[sR_ ax, sI_ (1 : Int32), sI_ (0 : Int32), sU_] [(.ref dx)]))) st_3 ?_
  obtain ⟨T_4, X_4, e_4, st_4⟩ := getS X_3 hx hZ hown (host := "") (wdOf hw 24 rfl) Via.refl e_3 (SD.ext O.2) (g := (mkF m 14 #[sR_ ax, sI_ (1 : Int32), sI_ (0 : Int32), sU_] [(.ref dx)])) rfl (hb hby d_rm_g1_14)
  refine Goes.go (U' := (T_4.setTop (mkF m 17 #[sR_ ax, sI_ (1 : Int32), sI_ (0 : Int32), sU_] [(.ref dx), (.ref dx)]))) st_4 ?_
  refine Goes.go (U' := (T_4.setTop (mkF m 49 #[sR_ ax, sI_ (1 : Int32), sI_ (0 : Int32), sU_] [(.int (1 : Int32)), (.int (10 : Int32)), (.ref ax)]))) (fun t kt => ?_) ?_
  · skip
    refine XT.acmpYes X_4.here hx rfl (pc0 := 17) (pc' := 45) rfl (hb hby d_rm_g1_17) rfl rfl rfl (XT.aa_eq_t (congrArg Value.ref rfl)) (by decide) (by decide) ?_
    refine XS.aloadN X_4.here hx rfl (hb hby d_rm_g1_45) rfl rfl ?_
    refine XS.bipush X_4.here hx rfl (hb hby d_rm_g1_46) ?_
    refine XS.iloadN X_4.here hx rfl (hb hby d_rm_g1_48) rfl ?_
    exact kt
  obtain ⟨v_5, T_5, L_5, X_5, q_5, st_5⟩ := callStatic X_4 hx hZ (y := (⟨"java/lang/Math", "max", "(II)I"⟩ : MethodName)) (W := 1) hown (wdOf hw 58 rfl) (wdOf hw 59 rfl) (wdOf hw 60 rfl) (wdOf hw 61 rfl) (by decide) (rm_mx l Z a0 hw [] h0 n0 Z0) (by decide) (by decide) (by decide) (by decide) e_4 (g := (mkF m 49 #[sR_ ax, sI_ (1 : Int32), sI_ (0 : Int32), sU_] [(.int (1 : Int32)), (.int (10 : Int32)), (.ref ax)])) rfl (by rw [hml]; rfl) (argsL := [(.int (10 : Int32)), (.int (1 : Int32))]) (rest := [(.ref ax)]) (lenOf pd_1 rfl) rfl rfl (Nat.le_refl _) (hb hby d_rm_g1_49)
  obtain ⟨rfl, n_5, K_5⟩ := q_5
  have N_5 := Fr.app N0 n_5
  refine Goes.go (U' := (T_5.setTop (mkF m 52 #[sR_ ax, sI_ (1 : Int32), sI_ (0 : Int32), sU_] [(.int (10 : Int32)), (.ref ax)]))) st_5 ?_
  obtain ⟨T_6, h_6, k_6, X_6, e_6, E_6, A_6, O_6, st_6⟩ := newR X_5 hx hZ hown (wdOf hw 62 rfl) (wdOf hw 63 rfl) K_5 (g := (mkF m 52 #[sR_ ax, sI_ (1 : Int32), sI_ (0 : Int32), sU_] [(.int (10 : Int32)), (.ref ax)])) rfl (hb hby d_rm_g1_52) rfl (by decide) (cap := 10) (by decide) (by decide) (by decide) (by decide)
  obtain ⟨b_6, g_6⟩ : ∃ z, z = h0.size := ⟨_, rfl⟩
  rw [← g_6] at A_6 st_6
  have ne_7 : ax ≠ b_6 := Nat.ne_of_lt (Nat.lt_of_lt_of_le E0.lt (Nat.le_of_eq g_6.symm))
  have ne_8 : dx ≠ b_6 := Nat.ne_of_lt (Nat.lt_of_lt_of_le Vd.lt (Nat.le_of_eq g_6.symm))
  have o_6 : n0 ≤ b_6 := Nat.le_trans Z0 (Nat.le_of_eq g_6.symm)
  have z_6 : h0.size ≤ b_6 := Nat.le_trans K0.1 (Nat.le_of_eq g_6.symm)
  have f_9 := E0.ext E_6
  have f_10 := F0_modCount.ext E_6
  have f_11 := F0_elementData.ext E_6
  have f_12 := F0_size.ext E_6
  have f_13 := Vd.ext E_6
  have f_14 : Sta Z h_6 "java/util/ArrayList" "DEFAULTCAPACITY_EMPTY_ELEMENTDATA" "[Ljava/lang/Object;" (.ref dx) := (SD.ext O.2).ext E_6
  have V_6 : Arv Z h_6 b_6 k_6 (.object "java/lang/Object") (10 : Int32) [.null, .null, .null, .null, .null, .null, .null, .null, .null, .null] .null := (Arv.new A_6 (by decide)).pad (pad_rep [] .null 10)
  have K_15 : Keep h0 h_6 [ax] := K0.ext E_6
  have y_15 : n0 ≤ h_6.size := Nat.le_trans Z0 K_15.1
  refine Goes.go (U' := (T_6.setTop (mkF m 55 #[sR_ ax, sI_ (1 : Int32), sI_ (0 : Int32), sU_] [(.ref b_6), (.ref ax)]))) st_6 ?_
  refine Goes.go (U' := (T_6.setTop (mkF m 56 #[sR_ ax, sI_ (1 : Int32), sI_ (0 : Int32), sU_] [(.ref b_6), (.ref ax), (.ref b_6)]))) (fun t kt => ?_) ?_
  · skip
    refine XS.dupX1 X_6.here hx rfl (hb hby d_rm_g1_55) rfl rfl rfl ?_
    exact kt
  obtain ⟨T_16, h_16, X_16, e_16, W_16, st_16⟩ := putF X_6 hx hZ hown (host := "") (Or.inl (wdOf hw 25 rfl)) Via.refl e_6 f_11 f_9 (Or.inl (wdOf hw 26 rfl)) (wdOf hw 2 rfl) (ty := (.array (.object "java/lang/Object"))) (by decide) rfl rfl (g := (mkF m 56 #[sR_ ax, sI_ (1 : Int32), sI_ (0 : Int32), sU_] [(.ref b_6), (.ref ax), (.ref b_6)])) rfl rfl (hb hby d_rm_g1_56)
  have N_16 := Fr.snoc X_16 N_5 o0
  have f_17 := f_9.wr W_16
  have f_18 := f_10.other W_16 (Or.inr (slot_ne (Or.inl (wdOf hw 23 rfl)) (Or.inl (wdOf hw 26 rfl)) (by decide) (t := .int) (t' := (.array (.object "java/lang/Object"))) (by decide) (by decide)))
  have f_19 := f_11.same W_16
  have f_20 := f_12.other W_16 (Or.inr (slot_ne (Or.inl (wdOf hw 42 rfl)) (Or.inl (wdOf hw 26 rfl)) (by decide) (t := .int) (t' := (.array (.object "java/lang/Object"))) (by decide) (by decide)))
  have f_21 := f_13.other W_16 nd
  have f_22 : Sta Z h_16 "java/util/ArrayList" "DEFAULTCAPACITY_EMPTY_ELEMENTDATA" "[Ljava/lang/Object;" (.ref dx) := f_14.wr W_16
  have f_23 := V_6.other W_16 (Ne.symm ne_7)
  have K_24 : Keep h0 h_16 [ax] := K_15.wr W_16 (Or.inl (List.mem_of_getElem? (i := 0) rfl))
  have y_24 : n0 ≤ h_16.size := Nat.le_trans Z0 K_24.1
  refine Goes.go (U' := (T_16.setTop (mkF m 59 #[sR_ ax, sI_ (1 : Int32), sI_ (0 : Int32), sU_] [(.ref b_6)]))) st_16 ?_
  refine Goes.retA X_16 hx hlk hret rfl rfl (hb hby d_rm_g1_59) (by decide) (by decide) ?_
  try rw [e_16]
  exact ⟨_, _, rfl, N_16, K_24, f_17, f_18, f_19, f_20, f_23, O_6, ne_7, o_6, z_6⟩
theorem d_rm_g0_0 : decode jdk_38_method_7_code 0 = .ok (.aload_n 0, 1) := by decide +kernel
theorem d_rm_g0_1 : decode jdk_38_method_7_code 1 = .ok (.aload_n 0, 1) := by decide +kernel
theorem d_rm_g0_2 : decode jdk_38_method_7_code 2 = .ok (.getfield 48, 3) := by decide +kernel
theorem d_rm_g0_5 : decode jdk_38_method_7_code 5 = .ok (.iconst 1, 1) := by decide +kernel
theorem d_rm_g0_6 : decode jdk_38_method_7_code 6 = .ok (.iadd, 1) := by decide +kernel
theorem d_rm_g0_7 : decode jdk_38_method_7_code 7 = .ok (.invokevirtual 69, 3) := by decide +kernel
theorem d_rm_g0_10 : decode jdk_38_method_7_code 10 = .ok (.areturn, 1) := by decide +kernel
set_option maxHeartbeats 4000000 in
theorem ef_rm_g0 (m : MethodId) (x0 : Addr)  : entryFrame m #[(.ref x0)] 1 = mkF m 0 #[.val (.ref x0)] [] := by first | (simp [entryFrame, mkF, argsToLocals, catR, catN, catI, catJ]; done) | rfl
set_option maxRecDepth 65536 in
set_option maxHeartbeats 40000000 in
theorem rm_g0 (l : Launch) (Z : State) (a0 : Array Value) (hw : ∀ d ∈ tables_1, d.before a0 Z = true) (ws : List Jvm.Cond) (ax dx : Addr) (kd : ClassId) (mc : Int32) (h0 : Heap) (n0 : Nat) (Z0 : n0 ≤ h0.size) (O : Old Z n0 h0) (SD : Sta Z Z.heap "java/util/ArrayList" "DEFAULTCAPACITY_EMPTY_ELEMENTDATA" "[Ljava/lang/Object;" (.ref dx)) (o0 : n0 ≤ ax) (nd : dx ≠ ax) (E0 : Exa Z h0 ax "java/util/ArrayList") (F0_modCount : Fld Z h0 ax "java/util/AbstractList" "modCount" "I" (.int mc)) (F0_elementData : Fld Z h0 ax "java/util/ArrayList" "elementData" "[Ljava/lang/Object;" (.ref dx)) (F0_size : Fld Z h0 ax "java/util/ArrayList" "size" "I" (.int (0 : Int32))) (Vd : Arv Z h0 dx kd (.object "java/lang/Object") (0 : Int32) [] .null) :
    Pays l Z (⟨"java/util/ArrayList", "grow", "()[Ljava/lang/Object;"⟩ : MethodName) jdk_38_method_7_code 1 (some (.array (.object "java/lang/Object"))) ws ({ frames := 2, cells := 1, slots := 10, locals := 29 } : Room) #[(.ref ax)] h0 (fun v h L => ∃ r k, v = some (.ref r) ∧ Fr n0 L ∧ Keep h0 h [ax] ∧ Exa Z h ax "java/util/ArrayList" ∧ Fld Z h ax "java/util/AbstractList" "modCount" "I" (.int mc) ∧ Fld Z h ax "java/util/ArrayList" "elementData" "[Ljava/lang/Object;" (.ref r) ∧ Fld Z h ax "java/util/ArrayList" "size" "I" (.int (0 : Int32)) ∧ Arv Z h r k (.object "java/lang/Object") (10 : Int32) [.null, .null, .null, .null, .null, .null, .null, .null, .null, .null] .null ∧ Ovr Z k "java/lang/Object" ∧ ax ≠ r ∧ n0 ≤ r ∧ h0.size ≤ r) := by
  refine Pays.of (plainFor_of_name (by first | (simp [plainName, overriddenIn]; done) | decide +kernel)) ?_
  intro p e s m below meth c s₁ hx hby hml hown hnm hret hlk hZ e0 X0
  have N0 := Fr.nil n0
  have K0 : Keep h0 h0 [ax] := Keep.refl _ _
  refine Goes.go (U' := (s₁.setTop (mkF m 0 #[sR_ ax] []))) (fun t kt => castTop (ef_rm_g0 m ax) kt) ?_
  refine Goes.go (U' := (s₁.setTop (mkF m 2 #[sR_ ax] [(.ref ax), (.ref ax)]))) (fun t kt => ?_) ?_
  · skip
    refine XS.aloadN X0.here hx rfl (hb hby d_rm_g0_0) rfl rfl ?_
    refine XS.aloadN X0.here hx rfl (hb hby d_rm_g0_1) rfl rfl ?_
    exact kt
  obtain ⟨T_1, X_1, e_1, st_1⟩ := getF X0 hx hZ hown (host := "") (Or.inl (wdOf hw 41 rfl)) Via.refl e0 F0_size (g := (mkF m 2 #[sR_ ax] [(.ref ax), (.ref ax)])) rfl rfl (hb hby d_rm_g0_2)
  refine Goes.go (U' := (T_1.setTop (mkF m 5 #[sR_ ax] [(.int (0 : Int32)), (.ref ax)]))) st_1 ?_
  refine Goes.go (U' := (T_1.setTop (mkF m 7 #[sR_ ax] [(.int (1 : Int32)), (.ref ax)]))) (fun t kt => ?_) ?_
  · skip
    refine XS.iconst X_1.here hx rfl (hb hby d_rm_g0_5) ?_
    refine XS.iadd X_1.here hx rfl (hb hby d_rm_g0_6) rfl ?_
    exact kt
  obtain ⟨v_2, T_2, L_2, X_2, q_2, st_2⟩ := callPrivate X_1 hx hZ (y := (⟨"java/util/ArrayList", "grow", "(I)[Ljava/lang/Object;"⟩ : MethodName)) (W := 0) hown (wdOf hw 53 rfl) (wdOf hw 54 rfl) (wdOf hw 55 rfl) (wdOf hw 2 rfl) (wdOf hw 3 rfl) (wdOf hw 57 rfl) (by decide) (rm_g1 l Z a0 hw [] ax dx kd mc h0 n0 Z0 O SD o0 nd E0 F0_modCount F0_elementData F0_size Vd) (by decide) (by decide) (by decide) (by decide) e_1 E0 (g := (mkF m 7 #[sR_ ax] [(.int (1 : Int32)), (.ref ax)])) rfl (by rw [hml]; rfl) (argsL := [(.int (1 : Int32))]) (rest := []) (lenOf pd_2 rfl) rfl rfl (Nat.le_refl _) (hb hby d_rm_g0_7)
  obtain ⟨r_2, k_2, rfl, n_2, K_2, GE__2, GmodCount__2, GelementData__2, Gsize__2, Gv__2, Go__2, Gn__2, Gl__2, Gz__2⟩ := q_2
  have N_2 := Fr.app N0 n_2
  have f_3 := E0.keep K_2
  have K_7 : Keep h0 T_2.heap [ax] := K0.trans K_2 (allS (P := fun x => x ∈ [ax] ∨ h0.size ≤ x) (Or.inl (List.mem_of_getElem? (i := 0) rfl)) all0)
  have y_7 : n0 ≤ T_2.heap.size := Nat.le_trans Z0 K_7.1
  refine Goes.go (U' := (T_2.setTop (mkF m 10 #[sR_ ax] [(.ref r_2)]))) st_2 ?_
  have Gzz__2 : h0.size ≤ r_2 := Nat.le_trans (K0.1) Gz__2
  refine Goes.retA X_2 hx hlk hret rfl rfl (hb hby d_rm_g0_10) (by decide) (by decide) ?_
  try rw [(rfl : T_2.heap = T_2.heap)]
  exact ⟨_, _, rfl, N_2, K_7, f_3, GmodCount__2, GelementData__2, Gsize__2, Gv__2, Go__2, Gn__2, Gl__2, Gzz__2⟩
theorem d_rm_a3_0 : decode jdk_38_method_24_code 0 = .ok (.iload_n 3, 1) := by decide +kernel
theorem d_rm_a3_1 : decode jdk_38_method_24_code 1 = .ok (.aload_n 2, 1) := by decide +kernel
theorem d_rm_a3_2 : decode jdk_38_method_24_code 2 = .ok (.arraylength, 1) := by decide +kernel
theorem d_rm_a3_3 : decode jdk_38_method_24_code 3 = .ok (.if_icmp .ne 8, 3) := by decide +kernel
theorem d_rm_a3_6 : decode jdk_38_method_24_code 6 = .ok (.aload_n 0, 1) := by decide +kernel
theorem d_rm_a3_7 : decode jdk_38_method_24_code 7 = .ok (.invokevirtual 129, 3) := by decide +kernel
theorem d_rm_a3_10 : decode jdk_38_method_24_code 10 = .ok (.astore_n 2, 1) := by decide +kernel
theorem d_rm_a3_11 : decode jdk_38_method_24_code 11 = .ok (.aload_n 2, 1) := by decide +kernel
theorem d_rm_a3_12 : decode jdk_38_method_24_code 12 = .ok (.iload_n 3, 1) := by decide +kernel
theorem d_rm_a3_13 : decode jdk_38_method_24_code 13 = .ok (.aload_n 1, 1) := by decide +kernel
theorem d_rm_a3_14 : decode jdk_38_method_24_code 14 = .ok (.aastore, 1) := by decide +kernel
theorem d_rm_a3_15 : decode jdk_38_method_24_code 15 = .ok (.aload_n 0, 1) := by decide +kernel
theorem d_rm_a3_16 : decode jdk_38_method_24_code 16 = .ok (.iload_n 3, 1) := by decide +kernel
theorem d_rm_a3_17 : decode jdk_38_method_24_code 17 = .ok (.iconst 1, 1) := by decide +kernel
theorem d_rm_a3_18 : decode jdk_38_method_24_code 18 = .ok (.iadd, 1) := by decide +kernel
theorem d_rm_a3_19 : decode jdk_38_method_24_code 19 = .ok (.putfield 48, 3) := by decide +kernel
theorem d_rm_a3_22 : decode jdk_38_method_24_code 22 = .ok (.return_, 1) := by decide +kernel
set_option maxHeartbeats 4000000 in
theorem ef_rm_a3 (m : MethodId) (x0 : Addr) (x1 : Addr) (x2 : Addr) (x3 : Int32)  : entryFrame m #[(.ref x0), (.ref x1), (.ref x2), (.int x3)] 4 = mkF m 0 #[.val (.ref x0), .val (.ref x1), .val (.ref x2), .val (.int x3)] [] := by first | (simp [entryFrame, mkF, argsToLocals, catR, catN, catI, catJ]; done) | rfl
set_option maxRecDepth 65536 in
set_option maxHeartbeats 40000000 in
theorem rm_a3 (l : Launch) (Z : State) (a0 : Array Value) (hw : ∀ d ∈ tables_1, d.before a0 Z = true) (ws : List Jvm.Cond) (ax dx : Addr) (kd : ClassId) (mc : Int32) (ob : Addr) (h0 : Heap) (n0 : Nat) (Z0 : n0 ≤ h0.size) (O : Old Z n0 h0) (SD : Sta Z Z.heap "java/util/ArrayList" "DEFAULTCAPACITY_EMPTY_ELEMENTDATA" "[Ljava/lang/Object;" (.ref dx)) (o0 : n0 ≤ ax) (nd : dx ≠ ax) (E0 : Exa Z h0 ax "java/util/ArrayList") (F0_modCount : Fld Z h0 ax "java/util/AbstractList" "modCount" "I" (.int mc)) (F0_elementData : Fld Z h0 ax "java/util/ArrayList" "elementData" "[Ljava/lang/Object;" (.ref dx)) (F0_size : Fld Z h0 ax "java/util/ArrayList" "size" "I" (.int (0 : Int32))) (Vd : Arv Z h0 dx kd (.object "java/lang/Object") (0 : Int32) [] .null) (Eo : Exa Z h0 ob "java/lang/Integer") :
    Pays l Z (⟨"java/util/ArrayList", "add", "(Ljava/lang/Object;[Ljava/lang/Object;I)V"⟩ : MethodName) jdk_38_method_24_code 4 none ws ({ frames := 3, cells := 1, slots := 10, locals := 41 } : Room) #[(.ref ax), (.ref ob), (.ref dx), (.int (0 : Int32))] h0 (fun v h L => v = none ∧ Fr n0 L ∧ Keep h0 h [ax] ∧ ∃ r k, Exa Z h ax "java/util/ArrayList" ∧ Fld Z h ax "java/util/AbstractList" "modCount" "I" (.int mc) ∧ Fld Z h ax "java/util/ArrayList" "elementData" "[Ljava/lang/Object;" (.ref r) ∧ Fld Z h ax "java/util/ArrayList" "size" "I" (.int (1 : Int32)) ∧ Arv Z h r k (.object "java/lang/Object") (10 : Int32) [(.ref ob), .null, .null, .null, .null, .null, .null, .null, .null, .null] .null) := by
  refine Pays.of (plainFor_of_name (by first | (simp [plainName, overriddenIn]; done) | decide +kernel)) ?_
  intro p e s m below meth c s₁ hx hby hml hown hnm hret hlk hZ e0 X0
  have N0 := Fr.nil n0
  have K0 : Keep h0 h0 [ax] := Keep.refl _ _
  refine Goes.go (U' := (s₁.setTop (mkF m 0 #[sR_ ax, sR_ ob, sR_ dx, sI_ (0 : Int32)] []))) (fun t kt => castTop (ef_rm_a3 m ax ob dx (0 : Int32)) kt) ?_
  refine Goes.go (U' := (s₁.setTop (mkF m 2 #[sR_ ax, sR_ ob, sR_ dx, sI_ (0 : Int32)] [(.ref dx), (.int (0 : Int32))]))) (fun t kt => ?_) ?_
  · skip
    refine XS.iloadN X0.here hx rfl (hb hby d_rm_a3_0) rfl ?_
    refine XS.aloadN X0.here hx rfl (hb hby d_rm_a3_1) rfl rfl ?_
    exact kt
  obtain ⟨cl_1, Ar_1, q_1, S_1, M_1, H_1, G_1⟩ := id Vd
  refine Goes.go (U' := (s₁.setTop (mkF m 3 #[sR_ ax, sR_ ob, sR_ dx, sI_ (0 : Int32)] [(.int (0 : Int32)), (.int (0 : Int32))]))) (fun t kt => ?_) ?_
  · skip
    refine X0.arraylength hx (by rw [e0]; exact Ar_1.1) (State.isArrayOf_alike hZ.alike Ar_1.2.1) (g := (mkF m 2 #[sR_ ax, sR_ ob, sR_ dx, sI_ (0 : Int32)] [(.ref dx), (.int (0 : Int32))])) rfl rfl (hb hby d_rm_a3_2) _ ?_
    rw [len_of S_1 M_1]
    exact kt
  refine Goes.go (U' := (s₁.setTop (mkF m 7 #[sR_ ax, sR_ ob, sR_ dx, sI_ (0 : Int32)] [(.ref ax)]))) (fun t kt => ?_) ?_
  · skip
    refine XS.icmpNo X0.here hx rfl (hb hby d_rm_a3_3) rfl (XT.ii_ne_f (by decide)) ?_
    refine XS.aloadN X0.here hx rfl (hb hby d_rm_a3_6) rfl rfl ?_
    exact kt
  obtain ⟨v_2, T_2, L_2, X_2, q_2, st_2⟩ := callPrivate X0 hx hZ (y := (⟨"java/util/ArrayList", "grow", "()[Ljava/lang/Object;"⟩ : MethodName)) (W := 0) hown (wdOf hw 48 rfl) (wdOf hw 49 rfl) (wdOf hw 50 rfl) (wdOf hw 2 rfl) (wdOf hw 3 rfl) (wdOf hw 52 rfl) (by decide) (rm_g0 l Z a0 hw [] ax dx kd mc h0 n0 Z0 O SD o0 nd E0 F0_modCount F0_elementData F0_size Vd) (by decide) (by decide) (by decide) (by decide) e0 E0 (g := (mkF m 7 #[sR_ ax, sR_ ob, sR_ dx, sI_ (0 : Int32)] [(.ref ax)])) rfl (by rw [hml]; rfl) (argsL := []) (rest := []) (lenOf pd_3 rfl) rfl rfl (Nat.le_refl _) (hb hby d_rm_a3_7)
  obtain ⟨r_2, k_2, rfl, n_2, K_2, GE__2, GmodCount__2, GelementData__2, Gsize__2, Gv__2, Go__2, Gn__2, Gl__2, Gz__2⟩ := q_2
  have N_2 := Fr.app N0 n_2
  have f_3 := E0.keep K_2
  have f_7 := Eo.keep K_2
  have K_8 : Keep h0 T_2.heap [ax] := K0.trans K_2 (allS (P := fun x => x ∈ [ax] ∨ h0.size ≤ x) (Or.inl (List.mem_of_getElem? (i := 0) rfl)) all0)
  have y_8 : n0 ≤ T_2.heap.size := Nat.le_trans Z0 K_8.1
  refine Goes.go (U' := (T_2.setTop (mkF m 10 #[sR_ ax, sR_ ob, sR_ dx, sI_ (0 : Int32)] [(.ref r_2)]))) st_2 ?_
  have Gzz__2 : h0.size ≤ r_2 := Nat.le_trans (K0.1) Gz__2
  refine Goes.go (U' := (T_2.setTop (mkF m 14 #[sR_ ax, sR_ ob, sR_ r_2, sI_ (0 : Int32)] [(.ref ob), (.int (0 : Int32)), (.ref r_2)]))) (fun t kt => ?_) ?_
  · skip
    refine XS.astoreN X_2.here hx rfl (hb hby d_rm_a3_10) rfl rfl (l' := #[sR_ ax, sR_ ob, sR_ r_2, sI_ (0 : Int32)]) rfl ?_
    refine XS.aloadN X_2.here hx rfl (hb hby d_rm_a3_11) rfl rfl ?_
    refine XS.iloadN X_2.here hx rfl (hb hby d_rm_a3_12) rfl ?_
    refine XS.aloadN X_2.here hx rfl (hb hby d_rm_a3_13) rfl rfl ?_
    exact kt
  obtain ⟨cl_9, Ar_9, q_9, S_9, M_9, H_9, G_9⟩ := id Gv__2
  have hin_9 : ¬ ((0 : Int32) < 0 ∨ cl_9.slots.size ≤ ((0 : Int32)).toNatClampNeg) := inb_of S_9 ⟨by decide, by decide⟩
  obtain ⟨T_9, h_9, X_9, e_9, W_9, st_9⟩ := stR X_2 hx hZ (rfl : T_2.heap = T_2.heap) Ar_9 (j := (0 : Int32)) hin_9 rfl (Sto.of Ar_9 (q_9 ▸ Go__2) (Ins.of_exa f_7 (wdOf hw 64 rfl))) (g := (mkF m 14 #[sR_ ax, sR_ ob, sR_ r_2, sI_ (0 : Int32)] [(.ref ob), (.int (0 : Int32)), (.ref r_2)])) rfl rfl (hb hby d_rm_a3_14)
  have V_9 : Arv Z h_9 r_2 k_2 (.object "java/lang/Object") (10 : Int32) [(.ref ob), .null, .null, .null, .null, .null, .null, .null, .null, .null] .null := Arv.set Ar_9 q_9 S_9 M_9 H_9 G_9 rfl W_9 0 rfl (Nat.le_of_ble_eq_true rfl)
  have N_9 := Fr.snoc X_9 N_2 Gl__2
  have f_10 := f_3.wr W_9
  have f_11 := f_7.wr W_9
  have f_12 := GmodCount__2.other W_9 (Or.inl Gn__2)
  have f_13 := GelementData__2.other W_9 (Or.inl Gn__2)
  have f_14 := Gsize__2.other W_9 (Or.inl Gn__2)
  have K_16 : Keep h0 h_9 [ax] := K_8.wr W_9 (Or.inr Gzz__2)
  have y_16 : n0 ≤ h_9.size := Nat.le_trans Z0 K_16.1
  refine Goes.go (U' := (T_9.setTop (mkF m 15 #[sR_ ax, sR_ ob, sR_ r_2, sI_ (0 : Int32)] []))) st_9 ?_
  refine Goes.go (U' := (T_9.setTop (mkF m 19 #[sR_ ax, sR_ ob, sR_ r_2, sI_ (0 : Int32)] [(.int (1 : Int32)), (.ref ax)]))) (fun t kt => ?_) ?_
  · skip
    refine XS.aloadN X_9.here hx rfl (hb hby d_rm_a3_15) rfl rfl ?_
    refine XS.iloadN X_9.here hx rfl (hb hby d_rm_a3_16) rfl ?_
    refine XS.iconst X_9.here hx rfl (hb hby d_rm_a3_17) ?_
    refine XS.iadd X_9.here hx rfl (hb hby d_rm_a3_18) rfl ?_
    exact kt
  obtain ⟨T_17, h_17, X_17, e_17, W_17, st_17⟩ := putF X_9 hx hZ hown (host := "") (Or.inl (wdOf hw 41 rfl)) Via.refl e_9 f_14 f_10 (Or.inl (wdOf hw 42 rfl)) (wdOf hw 2 rfl) (ty := .int) (by decide) rfl rfl (g := (mkF m 19 #[sR_ ax, sR_ ob, sR_ r_2, sI_ (0 : Int32)] [(.int (1 : Int32)), (.ref ax)])) rfl rfl (hb hby d_rm_a3_19)
  have N_17 := Fr.snoc X_17 N_9 o0
  have f_18 := f_10.wr W_17
  have f_19 := f_11.wr W_17
  have f_20 := f_12.other W_17 (Or.inr (slot_ne (Or.inl (wdOf hw 23 rfl)) (Or.inl (wdOf hw 42 rfl)) (by decide) (t := .int) (t' := .int) (by decide) (by decide)))
  have f_21 := f_13.other W_17 (Or.inr (slot_ne (Or.inl (wdOf hw 26 rfl)) (Or.inl (wdOf hw 42 rfl)) (by decide) (t := (.array (.object "java/lang/Object"))) (t' := .int) (by decide) (by decide)))
  have f_22 := f_14.same W_17
  have f_23 := V_9.other W_17 (Ne.symm Gn__2)
  have K_24 : Keep h0 h_17 [ax] := K_16.wr W_17 (Or.inl (List.mem_of_getElem? (i := 0) rfl))
  have y_24 : n0 ≤ h_17.size := Nat.le_trans Z0 K_24.1
  refine Goes.go (U' := (T_17.setTop (mkF m 22 #[sR_ ax, sR_ ob, sR_ r_2, sI_ (0 : Int32)] []))) st_17 ?_
  refine Goes.retV X_17 hx hlk hret (hb hby d_rm_a3_22) (by decide) (by decide) ?_
  try rw [e_17]
  exact ⟨rfl, N_17, K_24, _, _, f_18, f_20, f_21, f_22, f_23⟩
theorem d_rm_a1_0 : decode jdk_38_method_25_code 0 = .ok (.aload_n 0, 1) := by decide +kernel
theorem d_rm_a1_1 : decode jdk_38_method_25_code 1 = .ok (.dup, 1) := by decide +kernel
theorem d_rm_a1_2 : decode jdk_38_method_25_code 2 = .ok (.getfield 63, 3) := by decide +kernel
theorem d_rm_a1_5 : decode jdk_38_method_25_code 5 = .ok (.iconst 1, 1) := by decide +kernel
theorem d_rm_a1_6 : decode jdk_38_method_25_code 6 = .ok (.iadd, 1) := by decide +kernel
theorem d_rm_a1_7 : decode jdk_38_method_25_code 7 = .ok (.putfield 63, 3) := by decide +kernel
theorem d_rm_a1_10 : decode jdk_38_method_25_code 10 = .ok (.aload_n 0, 1) := by decide +kernel
theorem d_rm_a1_11 : decode jdk_38_method_25_code 11 = .ok (.aload_n 1, 1) := by decide +kernel
theorem d_rm_a1_12 : decode jdk_38_method_25_code 12 = .ok (.aload_n 0, 1) := by decide +kernel
theorem d_rm_a1_13 : decode jdk_38_method_25_code 13 = .ok (.getfield 9, 3) := by decide +kernel
theorem d_rm_a1_16 : decode jdk_38_method_25_code 16 = .ok (.aload_n 0, 1) := by decide +kernel
theorem d_rm_a1_17 : decode jdk_38_method_25_code 17 = .ok (.getfield 48, 3) := by decide +kernel
theorem d_rm_a1_20 : decode jdk_38_method_25_code 20 = .ok (.invokevirtual 131, 3) := by decide +kernel
theorem d_rm_a1_23 : decode jdk_38_method_25_code 23 = .ok (.iconst 1, 1) := by decide +kernel
theorem d_rm_a1_24 : decode jdk_38_method_25_code 24 = .ok (.ireturn, 1) := by decide +kernel
set_option maxHeartbeats 4000000 in
theorem ef_rm_a1 (m : MethodId) (x0 : Addr) (x1 : Addr)  : entryFrame m #[(.ref x0), (.ref x1)] 2 = mkF m 0 #[.val (.ref x0), .val (.ref x1)] [] := by first | (simp [entryFrame, mkF, argsToLocals, catR, catN, catI, catJ]; done) | rfl
set_option maxRecDepth 65536 in
set_option maxHeartbeats 40000000 in
theorem rm_a1 (l : Launch) (Z : State) (a0 : Array Value) (hw : ∀ d ∈ tables_1, d.before a0 Z = true) (ws : List Jvm.Cond) (ax dx : Addr) (kd : ClassId) (ob : Addr) (h0 : Heap) (n0 : Nat) (Z0 : n0 ≤ h0.size) (O : Old Z n0 h0) (SD : Sta Z Z.heap "java/util/ArrayList" "DEFAULTCAPACITY_EMPTY_ELEMENTDATA" "[Ljava/lang/Object;" (.ref dx)) (o0 : n0 ≤ ax) (nd : dx ≠ ax) (E0 : Exa Z h0 ax "java/util/ArrayList") (F0_modCount : Fld Z h0 ax "java/util/AbstractList" "modCount" "I" (.int (0 : Int32))) (F0_elementData : Fld Z h0 ax "java/util/ArrayList" "elementData" "[Ljava/lang/Object;" (.ref dx)) (F0_size : Fld Z h0 ax "java/util/ArrayList" "size" "I" (.int (0 : Int32))) (Vd : Arv Z h0 dx kd (.object "java/lang/Object") (0 : Int32) [] .null) (Eo : Exa Z h0 ob "java/lang/Integer") :
    Pays l Z (⟨"java/util/ArrayList", "add", "(Ljava/lang/Object;)Z"⟩ : MethodName) jdk_38_method_25_code 2 (some .boolean) ws ({ frames := 4, cells := 1, slots := 10, locals := 56 } : Room) #[(.ref ax), (.ref ob)] h0 (fun v h L => v = some (.int 1) ∧ Fr n0 L ∧ Keep h0 h [ax] ∧ ∃ r k, Exa Z h ax "java/util/ArrayList" ∧ Fld Z h ax "java/util/AbstractList" "modCount" "I" (.int (1 : Int32)) ∧ Fld Z h ax "java/util/ArrayList" "elementData" "[Ljava/lang/Object;" (.ref r) ∧ Fld Z h ax "java/util/ArrayList" "size" "I" (.int (1 : Int32)) ∧ Arv Z h r k (.object "java/lang/Object") (10 : Int32) [(.ref ob), .null, .null, .null, .null, .null, .null, .null, .null, .null] .null) := by
  refine Pays.of (plainFor_of_name (by first | (simp [plainName, overriddenIn]; done) | decide +kernel)) ?_
  intro p e s m below meth c s₁ hx hby hml hown hnm hret hlk hZ e0 X0
  have N0 := Fr.nil n0
  have K0 : Keep h0 h0 [ax] := Keep.refl _ _
  refine Goes.go (U' := (s₁.setTop (mkF m 0 #[sR_ ax, sR_ ob] []))) (fun t kt => castTop (ef_rm_a1 m ax ob) kt) ?_
  refine Goes.go (U' := (s₁.setTop (mkF m 2 #[sR_ ax, sR_ ob] [(.ref ax), (.ref ax)]))) (fun t kt => ?_) ?_
  · skip
    refine XS.aloadN X0.here hx rfl (hb hby d_rm_a1_0) rfl rfl ?_
    refine XS.dup X0.here hx rfl (hb hby d_rm_a1_1) rfl rfl ?_
    exact kt
  obtain ⟨T_1, X_1, e_1, st_1⟩ := getF X0 hx hZ hown (host := "") (Or.inl (wdOf hw 39 rfl)) (Via.of (wdOf hw 40 rfl)) e0 F0_modCount (g := (mkF m 2 #[sR_ ax, sR_ ob] [(.ref ax), (.ref ax)])) rfl rfl (hb hby d_rm_a1_2)
  refine Goes.go (U' := (T_1.setTop (mkF m 5 #[sR_ ax, sR_ ob] [(.int (0 : Int32)), (.ref ax)]))) st_1 ?_
  refine Goes.go (U' := (T_1.setTop (mkF m 7 #[sR_ ax, sR_ ob] [(.int (1 : Int32)), (.ref ax)]))) (fun t kt => ?_) ?_
  · skip
    refine XS.iconst X_1.here hx rfl (hb hby d_rm_a1_5) ?_
    refine XS.iadd X_1.here hx rfl (hb hby d_rm_a1_6) rfl ?_
    exact kt
  obtain ⟨T_2, h_2, X_2, e_2, W_2, st_2⟩ := putF X_1 hx hZ hown (host := "") (Or.inl (wdOf hw 39 rfl)) (Via.of (wdOf hw 40 rfl)) e_1 F0_modCount E0 (Or.inl (wdOf hw 23 rfl)) (wdOf hw 2 rfl) (ty := .int) (by decide) rfl rfl (g := (mkF m 7 #[sR_ ax, sR_ ob] [(.int (1 : Int32)), (.ref ax)])) rfl rfl (hb hby d_rm_a1_7)
  have N_2 := Fr.snoc X_2 N0 o0
  have f_3 := E0.wr W_2
  have f_4 := F0_modCount.same W_2
  have f_5 := F0_elementData.other W_2 (Or.inr (slot_ne (Or.inl (wdOf hw 26 rfl)) (Or.inl (wdOf hw 23 rfl)) (by decide) (t := (.array (.object "java/lang/Object"))) (t' := .int) (by decide) (by decide)))
  have f_6 := F0_size.other W_2 (Or.inr (slot_ne (Or.inl (wdOf hw 42 rfl)) (Or.inl (wdOf hw 23 rfl)) (by decide) (t := .int) (t' := .int) (by decide) (by decide)))
  have f_7 := Vd.other W_2 nd
  have f_8 := Eo.wr W_2
  have f_9 := O.wr W_2 o0
  have K_10 : Keep h0 h_2 [ax] := K0.wr W_2 (Or.inl (List.mem_of_getElem? (i := 0) rfl))
  have y_10 : n0 ≤ h_2.size := Nat.le_trans Z0 K_10.1
  refine Goes.go (U' := (T_2.setTop (mkF m 10 #[sR_ ax, sR_ ob] []))) st_2 ?_
  refine Goes.go (U' := (T_2.setTop (mkF m 13 #[sR_ ax, sR_ ob] [(.ref ax), (.ref ob), (.ref ax)]))) (fun t kt => ?_) ?_
  · skip
    refine XS.aloadN X_2.here hx rfl (hb hby d_rm_a1_10) rfl rfl ?_
    refine XS.aloadN X_2.here hx rfl (hb hby d_rm_a1_11) rfl rfl ?_
    refine XS.aloadN X_2.here hx rfl (hb hby d_rm_a1_12) rfl rfl ?_
    exact kt
  obtain ⟨T_11, X_11, e_11, st_11⟩ := getF X_2 hx hZ hown (host := "") (Or.inl (wdOf hw 25 rfl)) Via.refl e_2 f_5 (g := (mkF m 13 #[sR_ ax, sR_ ob] [(.ref ax), (.ref ob), (.ref ax)])) rfl rfl (hb hby d_rm_a1_13)
  refine Goes.go (U' := (T_11.setTop (mkF m 16 #[sR_ ax, sR_ ob] [(.ref dx), (.ref ob), (.ref ax)]))) st_11 ?_
  refine Goes.go (U' := (T_11.setTop (mkF m 17 #[sR_ ax, sR_ ob] [(.ref ax), (.ref dx), (.ref ob), (.ref ax)]))) (fun t kt => ?_) ?_
  · skip
    refine XS.aloadN X_11.here hx rfl (hb hby d_rm_a1_16) rfl rfl ?_
    exact kt
  obtain ⟨T_12, X_12, e_12, st_12⟩ := getF X_11 hx hZ hown (host := "") (Or.inl (wdOf hw 41 rfl)) Via.refl e_11 f_6 (g := (mkF m 17 #[sR_ ax, sR_ ob] [(.ref ax), (.ref dx), (.ref ob), (.ref ax)])) rfl rfl (hb hby d_rm_a1_17)
  refine Goes.go (U' := (T_12.setTop (mkF m 20 #[sR_ ax, sR_ ob] [(.int (0 : Int32)), (.ref dx), (.ref ob), (.ref ax)]))) st_12 ?_
  obtain ⟨v_13, T_13, L_13, X_13, q_13, st_13⟩ := callPrivate X_12 hx hZ (y := (⟨"java/util/ArrayList", "add", "(Ljava/lang/Object;[Ljava/lang/Object;I)V"⟩ : MethodName)) (W := 0) hown (wdOf hw 43 rfl) (wdOf hw 44 rfl) (wdOf hw 45 rfl) (wdOf hw 2 rfl) (wdOf hw 3 rfl) (wdOf hw 47 rfl) (by decide) (rm_a3 l Z a0 hw [] ax dx kd (1 : Int32) ob h_2 n0 y_10 f_9 SD o0 nd f_3 f_4 f_5 f_6 f_7 f_8) (by decide) (by decide) (by decide) (by decide) e_12 f_3 (g := (mkF m 20 #[sR_ ax, sR_ ob] [(.int (0 : Int32)), (.ref dx), (.ref ob), (.ref ax)])) rfl (by rw [hml]; rfl) (argsL := [(.ref ob), (.ref dx), (.int (0 : Int32))]) (rest := []) (lenOf pd_4 rfl) rfl rfl (Nat.le_refl _) (hb hby d_rm_a1_20)
  obtain ⟨rfl, n_13, K_13, r_13, k_13, GE__13, GmodCount__13, GelementData__13, Gsize__13, Gv__13⟩ := q_13
  have N_13 := Fr.app N_2 n_13
  have f_14 := f_3.keep K_13
  have f_18 := f_8.keep K_13
  have f_19 := f_9.keep K_13 (allS o0 all0)
  have K_20 : Keep h0 T_13.heap [ax] := K_10.trans K_13 (allS (P := fun x => x ∈ [ax] ∨ h0.size ≤ x) (Or.inl (List.mem_of_getElem? (i := 0) rfl)) all0)
  have y_20 : n0 ≤ T_13.heap.size := Nat.le_trans Z0 K_20.1
  refine Goes.go (U' := (T_13.setTop (mkF m 23 #[sR_ ax, sR_ ob] []))) st_13 ?_
  refine Goes.go (U' := (T_13.setTop (mkF m 24 #[sR_ ax, sR_ ob] [(.int (1 : Int32))]))) (fun t kt => ?_) ?_
  · skip
    refine XS.iconst X_13.here hx rfl (hb hby d_rm_a1_23) ?_
    exact kt
  refine Goes.retB X_13 hx hlk hret (hb hby d_rm_a1_24) (by decide) (by decide) ?_
  try rw [(rfl : T_13.heap = T_13.heap)]
  exact ⟨rfl, N_13, K_20, _, _, f_14, GmodCount__13, GelementData__13, Gsize__13, Gv__13⟩
theorem d_rm_ii_0 : decode jdk_49_method_1_code 0 = .ok (.aload_n 0, 1) := by decide +kernel
theorem d_rm_ii_1 : decode jdk_49_method_1_code 1 = .ok (.aload_n 1, 1) := by decide +kernel
theorem d_rm_ii_2 : decode jdk_49_method_1_code 2 = .ok (.putfield 1, 3) := by decide +kernel
theorem d_rm_ii_5 : decode jdk_49_method_1_code 5 = .ok (.aload_n 0, 1) := by decide +kernel
theorem d_rm_ii_6 : decode jdk_49_method_1_code 6 = .ok (.invokespecial 7, 3) := by decide +kernel
theorem d_rm_ii_9 : decode jdk_49_method_1_code 9 = .ok (.aload_n 0, 1) := by decide +kernel
theorem d_rm_ii_10 : decode jdk_49_method_1_code 10 = .ok (.iconst (-1), 1) := by decide +kernel
theorem d_rm_ii_11 : decode jdk_49_method_1_code 11 = .ok (.putfield 13, 3) := by decide +kernel
theorem d_rm_ii_14 : decode jdk_49_method_1_code 14 = .ok (.aload_n 0, 1) := by decide +kernel
theorem d_rm_ii_15 : decode jdk_49_method_1_code 15 = .ok (.aload_n 0, 1) := by decide +kernel
theorem d_rm_ii_16 : decode jdk_49_method_1_code 16 = .ok (.getfield 1, 3) := by decide +kernel
theorem d_rm_ii_19 : decode jdk_49_method_1_code 19 = .ok (.getfield 17, 3) := by decide +kernel
theorem d_rm_ii_22 : decode jdk_49_method_1_code 22 = .ok (.putfield 22, 3) := by decide +kernel
theorem d_rm_ii_25 : decode jdk_49_method_1_code 25 = .ok (.return_, 1) := by decide +kernel
set_option maxHeartbeats 4000000 in
theorem ef_rm_ii (m : MethodId) (x0 : Addr) (x1 : Addr)  : entryFrame m #[(.ref x0), (.ref x1)] 2 = mkF m 0 #[.val (.ref x0), .val (.ref x1)] [] := by first | (simp [entryFrame, mkF, argsToLocals, catR, catN, catI, catJ]; done) | rfl
set_option maxRecDepth 65536 in
set_option maxHeartbeats 40000000 in
theorem rm_ii (l : Launch) (Z : State) (a0 : Array Value) (hw : ∀ d ∈ tables_1, d.before a0 Z = true) (ws : List Jvm.Cond) (ix ax : Addr) (h0 : Heap) (n0 : Nat) (Z0 : n0 ≤ h0.size) (o0 : n0 ≤ ix) (E0 : Exa Z h0 ix "java/util/ArrayList$Itr") (F0_this0 : Fld Z h0 ix "java/util/ArrayList$Itr" "this$0" "Ljava/util/ArrayList;" .null) (F0_cursor : Fld Z h0 ix "java/util/ArrayList$Itr" "cursor" "I" (.int (0 : Int32))) (F0_lastRet : Fld Z h0 ix "java/util/ArrayList$Itr" "lastRet" "I" (.int (0 : Int32))) (F0_expectedModCount : Fld Z h0 ix "java/util/ArrayList$Itr" "expectedModCount" "I" (.int (0 : Int32))) (El : Exa Z h0 ax "java/util/ArrayList") (Fl_modCount : Fld Z h0 ax "java/util/AbstractList" "modCount" "I" (.int (1 : Int32))) :
    Pays l Z (⟨"java/util/ArrayList$Itr", "<init>", "(Ljava/util/ArrayList;)V"⟩ : MethodName) jdk_49_method_1_code 2 none ws ({ frames := 1, cells := 0, slots := 0, locals := 12 } : Room) #[(.ref ix), (.ref ax)] h0 (fun v h L => v = none ∧ Fr n0 L ∧ Keep h0 h [ix] ∧ Exa Z h ix "java/util/ArrayList$Itr" ∧ Fld Z h ix "java/util/ArrayList$Itr" "this$0" "Ljava/util/ArrayList;" (.ref ax) ∧ Fld Z h ix "java/util/ArrayList$Itr" "cursor" "I" (.int (0 : Int32)) ∧ Fld Z h ix "java/util/ArrayList$Itr" "lastRet" "I" (.int (-1 : Int32)) ∧ Fld Z h ix "java/util/ArrayList$Itr" "expectedModCount" "I" (.int (1 : Int32))) := by
  refine Pays.of (plainFor_of_name (by first | (simp [plainName, overriddenIn]; done) | decide +kernel)) ?_
  intro p e s m below meth c s₁ hx hby hml hown hnm hret hlk hZ e0 X0
  have N0 := Fr.nil n0
  have K0 : Keep h0 h0 [ix] := Keep.refl _ _
  refine Goes.go (U' := (s₁.setTop (mkF m 0 #[sR_ ix, sR_ ax] []))) (fun t kt => castTop (ef_rm_ii m ix ax) kt) ?_
  refine Goes.go (U' := (s₁.setTop (mkF m 2 #[sR_ ix, sR_ ax] [(.ref ax), (.ref ix)]))) (fun t kt => ?_) ?_
  · skip
    refine XS.aloadN X0.here hx rfl (hb hby d_rm_ii_0) rfl rfl ?_
    refine XS.aloadN X0.here hx rfl (hb hby d_rm_ii_1) rfl rfl ?_
    exact kt
  obtain ⟨T_1, h_1, X_1, e_1, W_1, st_1⟩ := putF X0 hx hZ hown (host := "") (Or.inl (wdOf hw 131 rfl)) Via.refl e0 F0_this0 E0 (Or.inr ⟨wdOf hw 132 rfl, rfl, hnm⟩) (wdOf hw 125 rfl) (ty := (.object "java/util/ArrayList")) (by decide) rfl rfl (g := (mkF m 2 #[sR_ ix, sR_ ax] [(.ref ax), (.ref ix)])) rfl rfl (hb hby d_rm_ii_2)
  have N_1 := Fr.snoc X_1 N0 o0
  have f_2 := E0.wr W_1
  have f_3 := F0_this0.same W_1
  have f_4 := F0_cursor.other W_1 (Or.inr (slot_ne (Or.inl (wdOf hw 149 rfl)) (Or.inr (wdOf hw 132 rfl)) (by decide) (t := .int) (t' := (.object "java/util/ArrayList")) (by decide) (by decide)))
  have f_5 := F0_lastRet.other W_1 (Or.inr (slot_ne (Or.inl (wdOf hw 135 rfl)) (Or.inr (wdOf hw 132 rfl)) (by decide) (t := .int) (t' := (.object "java/util/ArrayList")) (by decide) (by decide)))
  have f_6 := F0_expectedModCount.other W_1 (Or.inr (slot_ne (Or.inl (wdOf hw 138 rfl)) (Or.inr (wdOf hw 132 rfl)) (by decide) (t := .int) (t' := (.object "java/util/ArrayList")) (by decide) (by decide)))
  have f_7 := El.wr W_1
  have f_8 := Fl_modCount.other W_1 (Or.inl (ne_exa El E0 (by decide)))
  have K_9 : Keep h0 h_1 [ix] := K0.wr W_1 (Or.inl (List.mem_of_getElem? (i := 0) rfl))
  have y_9 : n0 ≤ h_1.size := Nat.le_trans Z0 K_9.1
  refine Goes.go (U' := (T_1.setTop (mkF m 5 #[sR_ ix, sR_ ax] []))) st_1 ?_
  refine Goes.go (U' := (T_1.setTop (mkF m 6 #[sR_ ix, sR_ ax] [(.ref ix)]))) (fun t kt => ?_) ?_
  · skip
    refine XS.aloadN X_1.here hx rfl (hb hby d_rm_ii_5) rfl rfl ?_
    exact kt
  obtain ⟨T_10, X_10, e_10, st_10⟩ := initO X_1 hx hZ hown (wdOf hw 133 rfl) (wdOf hw 20 rfl) (wdOf hw 21 rfl) e_1 (g := (mkF m 6 #[sR_ ix, sR_ ax] [(.ref ix)])) rfl (by rw [hml]; rfl) rfl (hb hby d_rm_ii_6) (by decide) (W := 0) (Nat.le_refl _) (by decide)
  refine Goes.go (U' := (T_10.setTop (mkF m 9 #[sR_ ix, sR_ ax] []))) st_10 ?_
  refine Goes.go (U' := (T_10.setTop (mkF m 11 #[sR_ ix, sR_ ax] [(.int (-1 : Int32)), (.ref ix)]))) (fun t kt => ?_) ?_
  · skip
    refine XS.aloadN X_10.here hx rfl (hb hby d_rm_ii_9) rfl rfl ?_
    refine XS.iconst X_10.here hx rfl (hb hby d_rm_ii_10) ?_
    exact kt
  obtain ⟨T_11, h_11, X_11, e_11, W_11, st_11⟩ := putF X_10 hx hZ hown (host := "") (Or.inl (wdOf hw 134 rfl)) Via.refl e_10 f_5 f_2 (Or.inl (wdOf hw 135 rfl)) (wdOf hw 125 rfl) (ty := .int) (by decide) rfl rfl (g := (mkF m 11 #[sR_ ix, sR_ ax] [(.int (-1 : Int32)), (.ref ix)])) rfl rfl (hb hby d_rm_ii_11)
  have N_11 := Fr.snoc X_11 N_1 o0
  have f_12 := f_2.wr W_11
  have f_13 := f_3.other W_11 (Or.inr (slot_ne (Or.inr (wdOf hw 132 rfl)) (Or.inl (wdOf hw 135 rfl)) (by decide) (t := (.object "java/util/ArrayList")) (t' := .int) (by decide) (by decide)))
  have f_14 := f_4.other W_11 (Or.inr (slot_ne (Or.inl (wdOf hw 149 rfl)) (Or.inl (wdOf hw 135 rfl)) (by decide) (t := .int) (t' := .int) (by decide) (by decide)))
  have f_15 := f_5.same W_11
  have f_16 := f_6.other W_11 (Or.inr (slot_ne (Or.inl (wdOf hw 138 rfl)) (Or.inl (wdOf hw 135 rfl)) (by decide) (t := .int) (t' := .int) (by decide) (by decide)))
  have f_17 := f_7.wr W_11
  have f_18 := f_8.other W_11 (Or.inl (ne_exa f_7 f_2 (by decide)))
  have K_19 : Keep h0 h_11 [ix] := K_9.wr W_11 (Or.inl (List.mem_of_getElem? (i := 0) rfl))
  have y_19 : n0 ≤ h_11.size := Nat.le_trans Z0 K_19.1
  refine Goes.go (U' := (T_11.setTop (mkF m 14 #[sR_ ix, sR_ ax] []))) st_11 ?_
  refine Goes.go (U' := (T_11.setTop (mkF m 16 #[sR_ ix, sR_ ax] [(.ref ix), (.ref ix)]))) (fun t kt => ?_) ?_
  · skip
    refine XS.aloadN X_11.here hx rfl (hb hby d_rm_ii_14) rfl rfl ?_
    refine XS.aloadN X_11.here hx rfl (hb hby d_rm_ii_15) rfl rfl ?_
    exact kt
  obtain ⟨T_20, X_20, e_20, st_20⟩ := getF X_11 hx hZ hown (host := "") (Or.inl (wdOf hw 131 rfl)) Via.refl e_11 f_13 (g := (mkF m 16 #[sR_ ix, sR_ ax] [(.ref ix), (.ref ix)])) rfl rfl (hb hby d_rm_ii_16)
  refine Goes.go (U' := (T_20.setTop (mkF m 19 #[sR_ ix, sR_ ax] [(.ref ax), (.ref ix)]))) st_20 ?_
  obtain ⟨T_21, X_21, e_21, st_21⟩ := getF X_20 hx hZ hown (host := "") (Or.inl (wdOf hw 136 rfl)) (Via.of (wdOf hw 40 rfl)) e_20 f_18 (g := (mkF m 19 #[sR_ ix, sR_ ax] [(.ref ax), (.ref ix)])) rfl rfl (hb hby d_rm_ii_19)
  refine Goes.go (U' := (T_21.setTop (mkF m 22 #[sR_ ix, sR_ ax] [(.int (1 : Int32)), (.ref ix)]))) st_21 ?_
  obtain ⟨T_22, h_22, X_22, e_22, W_22, st_22⟩ := putF X_21 hx hZ hown (host := "") (Or.inl (wdOf hw 137 rfl)) Via.refl e_21 f_16 f_12 (Or.inl (wdOf hw 138 rfl)) (wdOf hw 125 rfl) (ty := .int) (by decide) rfl rfl (g := (mkF m 22 #[sR_ ix, sR_ ax] [(.int (1 : Int32)), (.ref ix)])) rfl rfl (hb hby d_rm_ii_22)
  have N_22 := Fr.snoc X_22 N_11 o0
  have f_23 := f_12.wr W_22
  have f_24 := f_13.other W_22 (Or.inr (slot_ne (Or.inr (wdOf hw 132 rfl)) (Or.inl (wdOf hw 138 rfl)) (by decide) (t := (.object "java/util/ArrayList")) (t' := .int) (by decide) (by decide)))
  have f_25 := f_14.other W_22 (Or.inr (slot_ne (Or.inl (wdOf hw 149 rfl)) (Or.inl (wdOf hw 138 rfl)) (by decide) (t := .int) (t' := .int) (by decide) (by decide)))
  have f_26 := f_15.other W_22 (Or.inr (slot_ne (Or.inl (wdOf hw 135 rfl)) (Or.inl (wdOf hw 138 rfl)) (by decide) (t := .int) (t' := .int) (by decide) (by decide)))
  have f_27 := f_16.same W_22
  have f_28 := f_17.wr W_22
  have f_29 := f_18.other W_22 (Or.inl (ne_exa f_17 f_12 (by decide)))
  have K_30 : Keep h0 h_22 [ix] := K_19.wr W_22 (Or.inl (List.mem_of_getElem? (i := 0) rfl))
  have y_30 : n0 ≤ h_22.size := Nat.le_trans Z0 K_30.1
  refine Goes.go (U' := (T_22.setTop (mkF m 25 #[sR_ ix, sR_ ax] []))) st_22 ?_
  refine Goes.retV X_22 hx hlk hret (hb hby d_rm_ii_25) (by decide) (by decide) ?_
  try rw [e_22]
  exact ⟨rfl, N_22, K_30, f_23, f_24, f_25, f_26, f_27⟩
theorem d_rm_it_0 : decode jdk_38_method_55_code 0 = .ok (.new 267, 3) := by decide +kernel
theorem d_rm_it_3 : decode jdk_38_method_55_code 3 = .ok (.dup, 1) := by decide +kernel
theorem d_rm_it_4 : decode jdk_38_method_55_code 4 = .ok (.aload_n 0, 1) := by decide +kernel
theorem d_rm_it_5 : decode jdk_38_method_55_code 5 = .ok (.invokespecial 269, 3) := by decide +kernel
theorem d_rm_it_8 : decode jdk_38_method_55_code 8 = .ok (.areturn, 1) := by decide +kernel
set_option maxHeartbeats 4000000 in
theorem ef_rm_it (m : MethodId) (x0 : Addr)  : entryFrame m #[(.ref x0)] 1 = mkF m 0 #[.val (.ref x0)] [] := by first | (simp [entryFrame, mkF, argsToLocals, catR, catN, catI, catJ]; done) | rfl
set_option maxRecDepth 65536 in
set_option maxHeartbeats 40000000 in
theorem rm_it (l : Launch) (Z : State) (a0 : Array Value) (hw : ∀ d ∈ tables_1, d.before a0 Z = true) (ws : List Jvm.Cond) (ax : Addr) (h0 : Heap) (n0 : Nat) (Z0 : n0 ≤ h0.size) (El : Exa Z h0 ax "java/util/ArrayList") (Fl_modCount : Fld Z h0 ax "java/util/AbstractList" "modCount" "I" (.int (1 : Int32))) :
    Pays l Z (⟨"java/util/ArrayList", "iterator", "()Ljava/util/Iterator;"⟩ : MethodName) jdk_38_method_55_code 1 (some (.object "java/util/Iterator")) ws ({ frames := 2, cells := 1, slots := 4, locals := 26 } : Room) #[(.ref ax)] h0 (fun v h L => ∃ r, v = some (.ref r) ∧ Fr n0 L ∧ Ext h0 h ∧ Exa Z h r "java/util/ArrayList$Itr" ∧ Fld Z h r "java/util/ArrayList$Itr" "this$0" "Ljava/util/ArrayList;" (.ref ax) ∧ Fld Z h r "java/util/ArrayList$Itr" "cursor" "I" (.int (0 : Int32)) ∧ Fld Z h r "java/util/ArrayList$Itr" "lastRet" "I" (.int (-1 : Int32)) ∧ Fld Z h r "java/util/ArrayList$Itr" "expectedModCount" "I" (.int (1 : Int32)) ∧ n0 ≤ r) := by
  refine Pays.of (plainFor_of_name (by first | (simp [plainName, overriddenIn]; done) | decide +kernel)) ?_
  intro p e s m below meth c s₁ hx hby hml hown hnm hret hlk hZ e0 X0
  have N0 := Fr.nil n0
  have K0 : Keep h0 h0 [] := Keep.refl _ _
  refine Goes.go (U' := (s₁.setTop (mkF m 0 #[sR_ ax] []))) (fun t kt => castTop (ef_rm_it m ax) kt) ?_
  obtain ⟨T_1, h_1, X_1, e_1, E_1, A_1, D_1, -, st_1⟩ := newO X0 hx hZ hown (wdOf hw 124 rfl) (wdOf hw 125 rfl) (wdOf hw 126 rfl) e0 (g := (mkF m 0 #[sR_ ax] [])) rfl (hb hby d_rm_it_0) (by decide) (by decide)
  obtain ⟨b_1, g_1⟩ : ∃ z, z = h0.size := ⟨_, rfl⟩
  rw [← g_1] at A_1 D_1 st_1
  have ne_2 : ax ≠ b_1 := Nat.ne_of_lt (Nat.lt_of_lt_of_le El.lt (Nat.le_of_eq g_1.symm))
  have o_1 : n0 ≤ b_1 := Nat.le_trans Z0 (Nat.le_of_eq g_1.symm)
  have z_1 : h0.size ≤ b_1 := Nat.le_trans K0.1 (Nat.le_of_eq g_1.symm)
  have f_3 := El.ext E_1
  have f_4 := Fl_modCount.ext E_1
  have f_5 : Fld Z h_1 b_1 "java/util/ArrayList$Itr" "this$0" "Ljava/util/ArrayList;" .null := D_1 (Or.inr (wdOf hw 132 rfl)) (ty := (.object "java/util/ArrayList")) (by decide)
  have f_6 : Fld Z h_1 b_1 "java/util/ArrayList$Itr" "lastRet" "I" (.int (0 : Int32)) := D_1 (Or.inl (wdOf hw 135 rfl)) (ty := .int) (by decide)
  have f_7 : Fld Z h_1 b_1 "java/util/ArrayList$Itr" "expectedModCount" "I" (.int (0 : Int32)) := D_1 (Or.inl (wdOf hw 138 rfl)) (ty := .int) (by decide)
  have f_8 : Fld Z h_1 b_1 "java/util/ArrayList$Itr" "cursor" "I" (.int (0 : Int32)) := D_1 (Or.inl (wdOf hw 149 rfl)) (ty := .int) (by decide)
  have K_9 : Keep h0 h_1 [] := K0.ext E_1
  have y_9 : n0 ≤ h_1.size := Nat.le_trans Z0 K_9.1
  refine Goes.go (U' := (T_1.setTop (mkF m 3 #[sR_ ax] [(.ref b_1)]))) st_1 ?_
  refine Goes.go (U' := (T_1.setTop (mkF m 5 #[sR_ ax] [(.ref ax), (.ref b_1), (.ref b_1)]))) (fun t kt => ?_) ?_
  · skip
    refine XS.dup X_1.here hx rfl (hb hby d_rm_it_3) rfl rfl ?_
    refine XS.aloadN X_1.here hx rfl (hb hby d_rm_it_4) rfl rfl ?_
    exact kt
  obtain ⟨v_10, T_10, L_10, X_10, q_10, st_10⟩ := callInit X_1 hx hZ (y := (⟨"java/util/ArrayList$Itr", "<init>", "(Ljava/util/ArrayList;)V"⟩ : MethodName)) (W := 1) rfl hown (wdOf hw 127 rfl) (wdOf hw 128 rfl) (wdOf hw 126 rfl) (wdOf hw 130 rfl) (by decide) (rm_ii l Z a0 hw [] b_1 ax h_1 n0 y_9 o_1 A_1 f_5 f_8 f_6 f_7 f_3 f_4) (by decide) (by decide) (by decide) (by decide) e_1 (b := b_1) (g := (mkF m 5 #[sR_ ax] [(.ref ax), (.ref b_1), (.ref b_1)])) rfl (by rw [hml]; rfl) (argsL := [(.ref ax)]) (rest := [(.ref b_1)]) (lenOf pd_5 rfl) rfl rfl (Nat.le_refl _) (hb hby d_rm_it_5)
  obtain ⟨rfl, n_10, K_10, GE__10, Gthis0__10, Gcursor__10, GlastRet__10, GexpectedModCount__10⟩ := q_10
  have N_10 := Fr.app N0 n_10
  have f_11 := f_3.keep K_10
  have f_12 := f_4.keep K_10 (ninS ne_2 nin0)
  have f_13 := A_1.keep K_10
  have K_18 : Keep h0 T_10.heap [] := K_9.trans K_10 (allS (P := fun x => x ∈ [] ∨ h0.size ≤ x) (Or.inr z_1) all0)
  have y_18 : n0 ≤ T_10.heap.size := Nat.le_trans Z0 K_18.1
  refine Goes.go (U' := (T_10.setTop (mkF m 8 #[sR_ ax] [(.ref b_1)]))) st_10 ?_
  refine Goes.retA X_10 hx hlk hret rfl rfl (hb hby d_rm_it_8) (by decide) (by decide) ?_
  try rw [(rfl : T_10.heap = T_10.heap)]
  exact ⟨_, rfl, N_10, Ext.of_keep K_18, f_13, Gthis0__10, Gcursor__10, GlastRet__10, GexpectedModCount__10, o_1⟩
theorem d_rm_hn0_0 : decode jdk_49_method_2_code 0 = .ok (.aload_n 0, 1) := by decide +kernel
theorem d_rm_hn0_1 : decode jdk_49_method_2_code 1 = .ok (.getfield 25, 3) := by decide +kernel
theorem d_rm_hn0_4 : decode jdk_49_method_2_code 4 = .ok (.aload_n 0, 1) := by decide +kernel
theorem d_rm_hn0_5 : decode jdk_49_method_2_code 5 = .ok (.getfield 1, 3) := by decide +kernel
theorem d_rm_hn0_8 : decode jdk_49_method_2_code 8 = .ok (.getfield 28, 3) := by decide +kernel
theorem d_rm_hn0_11 : decode jdk_49_method_2_code 11 = .ok (.if_icmp .eq 7, 3) := by decide +kernel
theorem d_rm_hn0_14 : decode jdk_49_method_2_code 14 = .ok (.iconst 1, 1) := by decide +kernel
theorem d_rm_hn0_15 : decode jdk_49_method_2_code 15 = .ok (.goto 4, 3) := by decide +kernel
theorem d_rm_hn0_19 : decode jdk_49_method_2_code 19 = .ok (.ireturn, 1) := by decide +kernel
set_option maxHeartbeats 4000000 in
theorem ef_rm_hn0 (m : MethodId) (x0 : Addr)  : entryFrame m #[(.ref x0)] 1 = mkF m 0 #[.val (.ref x0)] [] := by first | (simp [entryFrame, mkF, argsToLocals, catR, catN, catI, catJ]; done) | rfl
set_option maxRecDepth 65536 in
set_option maxHeartbeats 40000000 in
theorem rm_hn0 (l : Launch) (Z : State) (a0 : Array Value) (hw : ∀ d ∈ tables_1, d.before a0 Z = true) (ws : List Jvm.Cond) (ix ax : Addr) (lr : Int32) (h0 : Heap) (n0 : Nat) (Z0 : n0 ≤ h0.size) (Fi_this0 : Fld Z h0 ix "java/util/ArrayList$Itr" "this$0" "Ljava/util/ArrayList;" (.ref ax)) (Fi_cursor : Fld Z h0 ix "java/util/ArrayList$Itr" "cursor" "I" (.int (0 : Int32))) (El : Exa Z h0 ax "java/util/ArrayList") (Fl_size : Fld Z h0 ax "java/util/ArrayList" "size" "I" (.int (1 : Int32))) :
    Pays l Z (⟨"java/util/ArrayList$Itr", "hasNext", "()Z"⟩ : MethodName) jdk_49_method_2_code 1 (some .boolean) ws ({ frames := 0, cells := 0, slots := 0, locals := 0 } : Room) #[(.ref ix)] h0 (fun v h L => v = some (.int 1) ∧ Fr n0 L ∧ h = h0) := by
  refine Pays.of (plainFor_of_name (by first | (simp [plainName, overriddenIn]; done) | decide +kernel)) ?_
  intro p e s m below meth c s₁ hx hby hml hown hnm hret hlk hZ e0 X0
  have N0 := Fr.nil n0
  have K0 : Keep h0 h0 [] := Keep.refl _ _
  refine Goes.go (U' := (s₁.setTop (mkF m 0 #[sR_ ix] []))) (fun t kt => castTop (ef_rm_hn0 m ix) kt) ?_
  refine Goes.go (U' := (s₁.setTop (mkF m 1 #[sR_ ix] [(.ref ix)]))) (fun t kt => ?_) ?_
  · skip
    refine XS.aloadN X0.here hx rfl (hb hby d_rm_hn0_0) rfl rfl ?_
    exact kt
  obtain ⟨T_1, X_1, e_1, st_1⟩ := getF X0 hx hZ hown (host := "") (Or.inl (wdOf hw 148 rfl)) Via.refl e0 Fi_cursor (g := (mkF m 1 #[sR_ ix] [(.ref ix)])) rfl rfl (hb hby d_rm_hn0_1)
  refine Goes.go (U' := (T_1.setTop (mkF m 4 #[sR_ ix] [(.int (0 : Int32))]))) st_1 ?_
  refine Goes.go (U' := (T_1.setTop (mkF m 5 #[sR_ ix] [(.ref ix), (.int (0 : Int32))]))) (fun t kt => ?_) ?_
  · skip
    refine XS.aloadN X_1.here hx rfl (hb hby d_rm_hn0_4) rfl rfl ?_
    exact kt
  obtain ⟨T_2, X_2, e_2, st_2⟩ := getF X_1 hx hZ hown (host := "") (Or.inl (wdOf hw 131 rfl)) Via.refl e_1 Fi_this0 (g := (mkF m 5 #[sR_ ix] [(.ref ix), (.int (0 : Int32))])) rfl rfl (hb hby d_rm_hn0_5)
  refine Goes.go (U' := (T_2.setTop (mkF m 8 #[sR_ ix] [(.ref ax), (.int (0 : Int32))]))) st_2 ?_
  obtain ⟨T_3, X_3, e_3, st_3⟩ := getF X_2 hx hZ hown (Or.inr (wdOf hw 150 rfl)) Via.refl e_2 Fl_size (g := (mkF m 8 #[sR_ ix] [(.ref ax), (.int (0 : Int32))])) rfl rfl (hb hby d_rm_hn0_8)
  refine Goes.go (U' := (T_3.setTop (mkF m 11 #[sR_ ix] [(.int (1 : Int32)), (.int (0 : Int32))]))) st_3 ?_
  refine Goes.go (U' := (T_3.setTop (mkF m 19 #[sR_ ix] [(.int (1 : Int32))]))) (fun t kt => ?_) ?_
  · skip
    refine XS.icmpNo X_3.here hx rfl (hb hby d_rm_hn0_11) rfl (XT.ii_eq_f (by decide)) ?_
    refine XS.iconst X_3.here hx rfl (hb hby d_rm_hn0_14) ?_
    refine XS.goto X_3.here hx rfl (pc0 := 15) (pc' := 19) rfl (hb hby d_rm_hn0_15) (by decide) (by decide) ?_
    exact kt
  refine Goes.retB X_3 hx hlk hret (hb hby d_rm_hn0_19) (by decide) (by decide) ?_
  try rw [e_3]
  exact ⟨rfl, N0, rfl⟩
theorem d_rm_hn1_0 : decode jdk_49_method_2_code 0 = .ok (.aload_n 0, 1) := by decide +kernel
theorem d_rm_hn1_1 : decode jdk_49_method_2_code 1 = .ok (.getfield 25, 3) := by decide +kernel
theorem d_rm_hn1_4 : decode jdk_49_method_2_code 4 = .ok (.aload_n 0, 1) := by decide +kernel
theorem d_rm_hn1_5 : decode jdk_49_method_2_code 5 = .ok (.getfield 1, 3) := by decide +kernel
theorem d_rm_hn1_8 : decode jdk_49_method_2_code 8 = .ok (.getfield 28, 3) := by decide +kernel
theorem d_rm_hn1_11 : decode jdk_49_method_2_code 11 = .ok (.if_icmp .eq 7, 3) := by decide +kernel
theorem d_rm_hn1_18 : decode jdk_49_method_2_code 18 = .ok (.iconst 0, 1) := by decide +kernel
theorem d_rm_hn1_19 : decode jdk_49_method_2_code 19 = .ok (.ireturn, 1) := by decide +kernel
set_option maxHeartbeats 4000000 in
theorem ef_rm_hn1 (m : MethodId) (x0 : Addr)  : entryFrame m #[(.ref x0)] 1 = mkF m 0 #[.val (.ref x0)] [] := by first | (simp [entryFrame, mkF, argsToLocals, catR, catN, catI, catJ]; done) | rfl
set_option maxRecDepth 65536 in
set_option maxHeartbeats 40000000 in
theorem rm_hn1 (l : Launch) (Z : State) (a0 : Array Value) (hw : ∀ d ∈ tables_1, d.before a0 Z = true) (ws : List Jvm.Cond) (ix ax : Addr) (lr : Int32) (h0 : Heap) (n0 : Nat) (Z0 : n0 ≤ h0.size) (Fi_this0 : Fld Z h0 ix "java/util/ArrayList$Itr" "this$0" "Ljava/util/ArrayList;" (.ref ax)) (Fi_cursor : Fld Z h0 ix "java/util/ArrayList$Itr" "cursor" "I" (.int (1 : Int32))) (El : Exa Z h0 ax "java/util/ArrayList") (Fl_size : Fld Z h0 ax "java/util/ArrayList" "size" "I" (.int (1 : Int32))) :
    Pays l Z (⟨"java/util/ArrayList$Itr", "hasNext", "()Z"⟩ : MethodName) jdk_49_method_2_code 1 (some .boolean) ws ({ frames := 0, cells := 0, slots := 0, locals := 0 } : Room) #[(.ref ix)] h0 (fun v h L => v = some (.int 0) ∧ Fr n0 L ∧ h = h0) := by
  refine Pays.of (plainFor_of_name (by first | (simp [plainName, overriddenIn]; done) | decide +kernel)) ?_
  intro p e s m below meth c s₁ hx hby hml hown hnm hret hlk hZ e0 X0
  have N0 := Fr.nil n0
  have K0 : Keep h0 h0 [] := Keep.refl _ _
  refine Goes.go (U' := (s₁.setTop (mkF m 0 #[sR_ ix] []))) (fun t kt => castTop (ef_rm_hn1 m ix) kt) ?_
  refine Goes.go (U' := (s₁.setTop (mkF m 1 #[sR_ ix] [(.ref ix)]))) (fun t kt => ?_) ?_
  · skip
    refine XS.aloadN X0.here hx rfl (hb hby d_rm_hn1_0) rfl rfl ?_
    exact kt
  obtain ⟨T_1, X_1, e_1, st_1⟩ := getF X0 hx hZ hown (host := "") (Or.inl (wdOf hw 148 rfl)) Via.refl e0 Fi_cursor (g := (mkF m 1 #[sR_ ix] [(.ref ix)])) rfl rfl (hb hby d_rm_hn1_1)
  refine Goes.go (U' := (T_1.setTop (mkF m 4 #[sR_ ix] [(.int (1 : Int32))]))) st_1 ?_
  refine Goes.go (U' := (T_1.setTop (mkF m 5 #[sR_ ix] [(.ref ix), (.int (1 : Int32))]))) (fun t kt => ?_) ?_
  · skip
    refine XS.aloadN X_1.here hx rfl (hb hby d_rm_hn1_4) rfl rfl ?_
    exact kt
  obtain ⟨T_2, X_2, e_2, st_2⟩ := getF X_1 hx hZ hown (host := "") (Or.inl (wdOf hw 131 rfl)) Via.refl e_1 Fi_this0 (g := (mkF m 5 #[sR_ ix] [(.ref ix), (.int (1 : Int32))])) rfl rfl (hb hby d_rm_hn1_5)
  refine Goes.go (U' := (T_2.setTop (mkF m 8 #[sR_ ix] [(.ref ax), (.int (1 : Int32))]))) st_2 ?_
  obtain ⟨T_3, X_3, e_3, st_3⟩ := getF X_2 hx hZ hown (Or.inr (wdOf hw 150 rfl)) Via.refl e_2 Fl_size (g := (mkF m 8 #[sR_ ix] [(.ref ax), (.int (1 : Int32))])) rfl rfl (hb hby d_rm_hn1_8)
  refine Goes.go (U' := (T_3.setTop (mkF m 11 #[sR_ ix] [(.int (1 : Int32)), (.int (1 : Int32))]))) st_3 ?_
  refine Goes.go (U' := (T_3.setTop (mkF m 19 #[sR_ ix] [(.int (0 : Int32))]))) (fun t kt => ?_) ?_
  · skip
    refine XS.icmpYes X_3.here hx rfl (pc0 := 11) (pc' := 18) rfl (hb hby d_rm_hn1_11) rfl (XT.ii_eq_t (by decide)) (by decide) (by decide) ?_
    refine XS.iconst X_3.here hx rfl (hb hby d_rm_hn1_18) ?_
    exact kt
  refine Goes.retB X_3 hx hlk hret (hb hby d_rm_hn1_19) (by decide) (by decide) ?_
  try rw [e_3]
  exact ⟨rfl, N0, rfl⟩
theorem d_rm_cm_0 : decode jdk_49_method_6_code 0 = .ok (.aload_n 0, 1) := by decide +kernel
theorem d_rm_cm_1 : decode jdk_49_method_6_code 1 = .ok (.getfield 1, 3) := by decide +kernel
theorem d_rm_cm_4 : decode jdk_49_method_6_code 4 = .ok (.getfield 17, 3) := by decide +kernel
theorem d_rm_cm_7 : decode jdk_49_method_6_code 7 = .ok (.aload_n 0, 1) := by decide +kernel
theorem d_rm_cm_8 : decode jdk_49_method_6_code 8 = .ok (.getfield 22, 3) := by decide +kernel
theorem d_rm_cm_11 : decode jdk_49_method_6_code 11 = .ok (.if_icmp .eq 11, 3) := by decide +kernel
theorem d_rm_cm_22 : decode jdk_49_method_6_code 22 = .ok (.return_, 1) := by decide +kernel
set_option maxHeartbeats 4000000 in
theorem ef_rm_cm (m : MethodId) (x0 : Addr)  : entryFrame m #[(.ref x0)] 1 = mkF m 0 #[.val (.ref x0)] [] := by first | (simp [entryFrame, mkF, argsToLocals, catR, catN, catI, catJ]; done) | rfl
set_option maxRecDepth 65536 in
set_option maxHeartbeats 40000000 in
theorem rm_cm (l : Launch) (Z : State) (a0 : Array Value) (hw : ∀ d ∈ tables_1, d.before a0 Z = true) (ws : List Jvm.Cond) (ix ax : Addr) (cu lr : Int32) (h0 : Heap) (n0 : Nat) (Z0 : n0 ≤ h0.size) (Fi_this0 : Fld Z h0 ix "java/util/ArrayList$Itr" "this$0" "Ljava/util/ArrayList;" (.ref ax)) (Fi_expectedModCount : Fld Z h0 ix "java/util/ArrayList$Itr" "expectedModCount" "I" (.int (1 : Int32))) (El : Exa Z h0 ax "java/util/ArrayList") (Fl_modCount : Fld Z h0 ax "java/util/AbstractList" "modCount" "I" (.int (1 : Int32))) :
    Pays l Z (⟨"java/util/ArrayList$Itr", "checkForComodification", "()V"⟩ : MethodName) jdk_49_method_6_code 1 none ws ({ frames := 0, cells := 0, slots := 0, locals := 0 } : Room) #[(.ref ix)] h0 (fun v h L => v = none ∧ Fr n0 L ∧ h = h0) := by
  refine Pays.of (plainFor_of_name (by first | (simp [plainName, overriddenIn]; done) | decide +kernel)) ?_
  intro p e s m below meth c s₁ hx hby hml hown hnm hret hlk hZ e0 X0
  have N0 := Fr.nil n0
  have K0 : Keep h0 h0 [] := Keep.refl _ _
  refine Goes.go (U' := (s₁.setTop (mkF m 0 #[sR_ ix] []))) (fun t kt => castTop (ef_rm_cm m ix) kt) ?_
  refine Goes.go (U' := (s₁.setTop (mkF m 1 #[sR_ ix] [(.ref ix)]))) (fun t kt => ?_) ?_
  · skip
    refine XS.aloadN X0.here hx rfl (hb hby d_rm_cm_0) rfl rfl ?_
    exact kt
  obtain ⟨T_1, X_1, e_1, st_1⟩ := getF X0 hx hZ hown (host := "") (Or.inl (wdOf hw 131 rfl)) Via.refl e0 Fi_this0 (g := (mkF m 1 #[sR_ ix] [(.ref ix)])) rfl rfl (hb hby d_rm_cm_1)
  refine Goes.go (U' := (T_1.setTop (mkF m 4 #[sR_ ix] [(.ref ax)]))) st_1 ?_
  obtain ⟨T_2, X_2, e_2, st_2⟩ := getF X_1 hx hZ hown (host := "") (Or.inl (wdOf hw 136 rfl)) (Via.of (wdOf hw 40 rfl)) e_1 Fl_modCount (g := (mkF m 4 #[sR_ ix] [(.ref ax)])) rfl rfl (hb hby d_rm_cm_4)
  refine Goes.go (U' := (T_2.setTop (mkF m 7 #[sR_ ix] [(.int (1 : Int32))]))) st_2 ?_
  refine Goes.go (U' := (T_2.setTop (mkF m 8 #[sR_ ix] [(.ref ix), (.int (1 : Int32))]))) (fun t kt => ?_) ?_
  · skip
    refine XS.aloadN X_2.here hx rfl (hb hby d_rm_cm_7) rfl rfl ?_
    exact kt
  obtain ⟨T_3, X_3, e_3, st_3⟩ := getF X_2 hx hZ hown (host := "") (Or.inl (wdOf hw 137 rfl)) Via.refl e_2 Fi_expectedModCount (g := (mkF m 8 #[sR_ ix] [(.ref ix), (.int (1 : Int32))])) rfl rfl (hb hby d_rm_cm_8)
  refine Goes.go (U' := (T_3.setTop (mkF m 11 #[sR_ ix] [(.int (1 : Int32)), (.int (1 : Int32))]))) st_3 ?_
  refine Goes.go (U' := (T_3.setTop (mkF m 22 #[sR_ ix] []))) (fun t kt => ?_) ?_
  · skip
    refine XS.icmpYes X_3.here hx rfl (pc0 := 11) (pc' := 22) rfl (hb hby d_rm_cm_11) rfl (XT.ii_eq_t (by decide)) (by decide) (by decide) ?_
    exact kt
  refine Goes.retV X_3 hx hlk hret (hb hby d_rm_cm_22) (by decide) (by decide) ?_
  try rw [e_3]
  exact ⟨rfl, N0, rfl⟩
theorem d_rm_nx_0 : decode jdk_49_method_3_code 0 = .ok (.aload_n 0, 1) := by decide +kernel
theorem d_rm_nx_1 : decode jdk_49_method_3_code 1 = .ok (.invokevirtual 31, 3) := by decide +kernel
theorem d_rm_nx_4 : decode jdk_49_method_3_code 4 = .ok (.aload_n 0, 1) := by decide +kernel
theorem d_rm_nx_5 : decode jdk_49_method_3_code 5 = .ok (.getfield 25, 3) := by decide +kernel
theorem d_rm_nx_8 : decode jdk_49_method_3_code 8 = .ok (.istore_n 1, 1) := by decide +kernel
theorem d_rm_nx_9 : decode jdk_49_method_3_code 9 = .ok (.iload_n 1, 1) := by decide +kernel
theorem d_rm_nx_10 : decode jdk_49_method_3_code 10 = .ok (.aload_n 0, 1) := by decide +kernel
theorem d_rm_nx_11 : decode jdk_49_method_3_code 11 = .ok (.getfield 1, 3) := by decide +kernel
theorem d_rm_nx_14 : decode jdk_49_method_3_code 14 = .ok (.getfield 28, 3) := by decide +kernel
theorem d_rm_nx_17 : decode jdk_49_method_3_code 17 = .ok (.if_icmp .lt 11, 3) := by decide +kernel
theorem d_rm_nx_28 : decode jdk_49_method_3_code 28 = .ok (.aload_n 0, 1) := by decide +kernel
theorem d_rm_nx_29 : decode jdk_49_method_3_code 29 = .ok (.getfield 1, 3) := by decide +kernel
theorem d_rm_nx_32 : decode jdk_49_method_3_code 32 = .ok (.getfield 37, 3) := by decide +kernel
theorem d_rm_nx_35 : decode jdk_49_method_3_code 35 = .ok (.astore_n 2, 1) := by decide +kernel
theorem d_rm_nx_36 : decode jdk_49_method_3_code 36 = .ok (.iload_n 1, 1) := by decide +kernel
theorem d_rm_nx_37 : decode jdk_49_method_3_code 37 = .ok (.aload_n 2, 1) := by decide +kernel
theorem d_rm_nx_38 : decode jdk_49_method_3_code 38 = .ok (.arraylength, 1) := by decide +kernel
theorem d_rm_nx_39 : decode jdk_49_method_3_code 39 = .ok (.if_icmp .lt 11, 3) := by decide +kernel
theorem d_rm_nx_50 : decode jdk_49_method_3_code 50 = .ok (.aload_n 0, 1) := by decide +kernel
theorem d_rm_nx_51 : decode jdk_49_method_3_code 51 = .ok (.iload_n 1, 1) := by decide +kernel
theorem d_rm_nx_52 : decode jdk_49_method_3_code 52 = .ok (.iconst 1, 1) := by decide +kernel
theorem d_rm_nx_53 : decode jdk_49_method_3_code 53 = .ok (.iadd, 1) := by decide +kernel
theorem d_rm_nx_54 : decode jdk_49_method_3_code 54 = .ok (.putfield 25, 3) := by decide +kernel
theorem d_rm_nx_57 : decode jdk_49_method_3_code 57 = .ok (.aload_n 2, 1) := by decide +kernel
theorem d_rm_nx_58 : decode jdk_49_method_3_code 58 = .ok (.aload_n 0, 1) := by decide +kernel
theorem d_rm_nx_59 : decode jdk_49_method_3_code 59 = .ok (.iload_n 1, 1) := by decide +kernel
theorem d_rm_nx_60 : decode jdk_49_method_3_code 60 = .ok (.dup_x1, 1) := by decide +kernel
theorem d_rm_nx_61 : decode jdk_49_method_3_code 61 = .ok (.putfield 13, 3) := by decide +kernel
theorem d_rm_nx_64 : decode jdk_49_method_3_code 64 = .ok (.aaload, 1) := by decide +kernel
theorem d_rm_nx_65 : decode jdk_49_method_3_code 65 = .ok (.areturn, 1) := by decide +kernel
set_option maxHeartbeats 4000000 in
theorem ef_rm_nx (m : MethodId) (x0 : Addr)  : entryFrame m #[(.ref x0)] 3 = mkF m 0 #[.val (.ref x0), .unset, .unset] [] := by first | (simp [entryFrame, mkF, argsToLocals, catR, catN, catI, catJ]; done) | rfl
set_option maxRecDepth 65536 in
set_option maxHeartbeats 40000000 in
theorem rm_nx (l : Launch) (Z : State) (a0 : Array Value) (hw : ∀ d ∈ tables_1, d.before a0 Z = true) (ws : List Jvm.Cond) (ix ax ea ob : Addr) (ke : ClassId) (h0 : Heap) (n0 : Nat) (Z0 : n0 ≤ h0.size) (o0 : n0 ≤ ix) (na : ax ≠ ix) (ne : ea ≠ ix) (Ei : Exa Z h0 ix "java/util/ArrayList$Itr") (Fi_this0 : Fld Z h0 ix "java/util/ArrayList$Itr" "this$0" "Ljava/util/ArrayList;" (.ref ax)) (Fi_cursor : Fld Z h0 ix "java/util/ArrayList$Itr" "cursor" "I" (.int (0 : Int32))) (Fi_lastRet : Fld Z h0 ix "java/util/ArrayList$Itr" "lastRet" "I" (.int (-1 : Int32))) (Fi_expectedModCount : Fld Z h0 ix "java/util/ArrayList$Itr" "expectedModCount" "I" (.int (1 : Int32))) (El : Exa Z h0 ax "java/util/ArrayList") (Fl_modCount : Fld Z h0 ax "java/util/AbstractList" "modCount" "I" (.int (1 : Int32))) (Fl_elementData : Fld Z h0 ax "java/util/ArrayList" "elementData" "[Ljava/lang/Object;" (.ref ea)) (Fl_size : Fld Z h0 ax "java/util/ArrayList" "size" "I" (.int (1 : Int32))) (Va : Arv Z h0 ea ke (.object "java/lang/Object") (10 : Int32) [(.ref ob), .null, .null, .null, .null, .null, .null, .null, .null, .null] .null) :
    Pays l Z (⟨"java/util/ArrayList$Itr", "next", "()Ljava/lang/Object;"⟩ : MethodName) jdk_49_method_3_code 3 (some (.object "java/lang/Object")) ws ({ frames := 1, cells := 0, slots := 0, locals := 12 } : Room) #[(.ref ix)] h0 (fun v h L => v = some (.ref ob) ∧ Fr n0 L ∧ Keep h0 h [ix] ∧ Exa Z h ix "java/util/ArrayList$Itr" ∧ Fld Z h ix "java/util/ArrayList$Itr" "this$0" "Ljava/util/ArrayList;" (.ref ax) ∧ Fld Z h ix "java/util/ArrayList$Itr" "cursor" "I" (.int (1 : Int32)) ∧ Fld Z h ix "java/util/ArrayList$Itr" "lastRet" "I" (.int (0 : Int32)) ∧ Fld Z h ix "java/util/ArrayList$Itr" "expectedModCount" "I" (.int (1 : Int32))) := by
  refine Pays.of (plainFor_of_name (by first | (simp [plainName, overriddenIn]; done) | decide +kernel)) ?_
  intro p e s m below meth c s₁ hx hby hml hown hnm hret hlk hZ e0 X0
  have N0 := Fr.nil n0
  have K0 : Keep h0 h0 [ix] := Keep.refl _ _
  refine Goes.go (U' := (s₁.setTop (mkF m 0 #[sR_ ix, sU_, sU_] []))) (fun t kt => castTop (ef_rm_nx m ix) kt) ?_
  refine Goes.go (U' := (s₁.setTop (mkF m 1 #[sR_ ix, sU_, sU_] [(.ref ix)]))) (fun t kt => ?_) ?_
  · skip
    refine XS.aloadN X0.here hx rfl (hb hby d_rm_nx_0) rfl rfl ?_
    exact kt
  obtain ⟨v_1, T_1, L_1, X_1, q_1, st_1⟩ := callVirtual X0 hx hZ (y := (⟨"java/util/ArrayList$Itr", "checkForComodification", "()V"⟩ : MethodName)) (z := (⟨"java/util/ArrayList$Itr", "checkForComodification", "()V"⟩ : MethodName)) (W := 0) hown (wdOf hw 159 rfl) (wdOf hw 160 rfl) (notFace_of_selects (args := #[]) (mvT hZ (wdOf hw 162 rfl))) (wdOf hw 162 rfl) (wdOf hw 161 rfl) (wdOf hw 126 rfl) (wdOf hw 163 rfl) (by decide) (rm_cm l Z a0 hw [] ix ax (0 : Int32) (-1 : Int32) h0 n0 Z0 Fi_this0 Fi_expectedModCount El Fl_modCount) (by decide) (by decide) (by decide) (by decide) e0 Ei (g := (mkF m 1 #[sR_ ix, sU_, sU_] [(.ref ix)])) rfl (by rw [hml]; rfl) (argsL := []) (rest := []) (lenOf pd_0 rfl) rfl rfl (Nat.le_refl _) (hb hby d_rm_nx_1)
  obtain ⟨rfl, n_1, K_1⟩ := q_1
  have N_1 := Fr.app N0 n_1
  refine Goes.go (U' := (T_1.setTop (mkF m 4 #[sR_ ix, sU_, sU_] []))) st_1 ?_
  refine Goes.go (U' := (T_1.setTop (mkF m 5 #[sR_ ix, sU_, sU_] [(.ref ix)]))) (fun t kt => ?_) ?_
  · skip
    refine XS.aloadN X_1.here hx rfl (hb hby d_rm_nx_4) rfl rfl ?_
    exact kt
  obtain ⟨T_2, X_2, e_2, st_2⟩ := getF X_1 hx hZ hown (host := "") (Or.inl (wdOf hw 148 rfl)) Via.refl K_1 Fi_cursor (g := (mkF m 5 #[sR_ ix, sU_, sU_] [(.ref ix)])) rfl rfl (hb hby d_rm_nx_5)
  refine Goes.go (U' := (T_2.setTop (mkF m 8 #[sR_ ix, sU_, sU_] [(.int (0 : Int32))]))) st_2 ?_
  refine Goes.go (U' := (T_2.setTop (mkF m 11 #[sR_ ix, sI_ (0 : Int32), sU_] [(.ref ix), (.int (0 : Int32))]))) (fun t kt => ?_) ?_
  · skip
    refine XS.istoreN X_2.here hx rfl (hb hby d_rm_nx_8) rfl (l' := #[sR_ ix, sI_ (0 : Int32), sU_]) rfl ?_
    refine XS.iloadN X_2.here hx rfl (hb hby d_rm_nx_9) rfl ?_
    refine XS.aloadN X_2.here hx rfl (hb hby d_rm_nx_10) rfl rfl ?_
    exact kt
  obtain ⟨T_3, X_3, e_3, st_3⟩ := getF X_2 hx hZ hown (host := "") (Or.inl (wdOf hw 131 rfl)) Via.refl e_2 Fi_this0 (g := (mkF m 11 #[sR_ ix, sI_ (0 : Int32), sU_] [(.ref ix), (.int (0 : Int32))])) rfl rfl (hb hby d_rm_nx_11)
  refine Goes.go (U' := (T_3.setTop (mkF m 14 #[sR_ ix, sI_ (0 : Int32), sU_] [(.ref ax), (.int (0 : Int32))]))) st_3 ?_
  obtain ⟨T_4, X_4, e_4, st_4⟩ := getF X_3 hx hZ hown (Or.inr (wdOf hw 150 rfl)) Via.refl e_3 Fl_size (g := (mkF m 14 #[sR_ ix, sI_ (0 : Int32), sU_] [(.ref ax), (.int (0 : Int32))])) rfl rfl (hb hby d_rm_nx_14)
  refine Goes.go (U' := (T_4.setTop (mkF m 17 #[sR_ ix, sI_ (0 : Int32), sU_] [(.int (1 : Int32)), (.int (0 : Int32))]))) st_4 ?_
  refine Goes.go (U' := (T_4.setTop (mkF m 29 #[sR_ ix, sI_ (0 : Int32), sU_] [(.ref ix)]))) (fun t kt => ?_) ?_
  · skip
    refine XS.icmpYes X_4.here hx rfl (pc0 := 17) (pc' := 28) rfl (hb hby d_rm_nx_17) rfl (XT.ii_lt_t (by decide)) (by decide) (by decide) ?_
    refine XS.aloadN X_4.here hx rfl (hb hby d_rm_nx_28) rfl rfl ?_
    exact kt
  obtain ⟨T_5, X_5, e_5, st_5⟩ := getF X_4 hx hZ hown (host := "") (Or.inl (wdOf hw 131 rfl)) Via.refl e_4 Fi_this0 (g := (mkF m 29 #[sR_ ix, sI_ (0 : Int32), sU_] [(.ref ix)])) rfl rfl (hb hby d_rm_nx_29)
  refine Goes.go (U' := (T_5.setTop (mkF m 32 #[sR_ ix, sI_ (0 : Int32), sU_] [(.ref ax)]))) st_5 ?_
  obtain ⟨T_6, X_6, e_6, st_6⟩ := getF X_5 hx hZ hown (host := "") (Or.inl (wdOf hw 164 rfl)) Via.refl e_5 Fl_elementData (g := (mkF m 32 #[sR_ ix, sI_ (0 : Int32), sU_] [(.ref ax)])) rfl rfl (hb hby d_rm_nx_32)
  refine Goes.go (U' := (T_6.setTop (mkF m 35 #[sR_ ix, sI_ (0 : Int32), sU_] [(.ref ea)]))) st_6 ?_
  refine Goes.go (U' := (T_6.setTop (mkF m 38 #[sR_ ix, sI_ (0 : Int32), sR_ ea] [(.ref ea), (.int (0 : Int32))]))) (fun t kt => ?_) ?_
  · skip
    refine XS.astoreN X_6.here hx rfl (hb hby d_rm_nx_35) rfl rfl (l' := #[sR_ ix, sI_ (0 : Int32), sR_ ea]) rfl ?_
    refine XS.iloadN X_6.here hx rfl (hb hby d_rm_nx_36) rfl ?_
    refine XS.aloadN X_6.here hx rfl (hb hby d_rm_nx_37) rfl rfl ?_
    exact kt
  obtain ⟨cl_7, Ar_7, q_7, S_7, M_7, H_7, G_7⟩ := id Va
  refine Goes.go (U' := (T_6.setTop (mkF m 39 #[sR_ ix, sI_ (0 : Int32), sR_ ea] [(.int (10 : Int32)), (.int (0 : Int32))]))) (fun t kt => ?_) ?_
  · skip
    refine X_6.arraylength hx (by rw [e_6]; exact Ar_7.1) (State.isArrayOf_alike hZ.alike Ar_7.2.1) (g := (mkF m 38 #[sR_ ix, sI_ (0 : Int32), sR_ ea] [(.ref ea), (.int (0 : Int32))])) rfl rfl (hb hby d_rm_nx_38) _ ?_
    rw [len_of S_7 M_7]
    exact kt
  refine Goes.go (U' := (T_6.setTop (mkF m 54 #[sR_ ix, sI_ (0 : Int32), sR_ ea] [(.int (1 : Int32)), (.ref ix)]))) (fun t kt => ?_) ?_
  · skip
    refine XS.icmpYes X_6.here hx rfl (pc0 := 39) (pc' := 50) rfl (hb hby d_rm_nx_39) rfl (XT.ii_lt_t (by decide)) (by decide) (by decide) ?_
    refine XS.aloadN X_6.here hx rfl (hb hby d_rm_nx_50) rfl rfl ?_
    refine XS.iloadN X_6.here hx rfl (hb hby d_rm_nx_51) rfl ?_
    refine XS.iconst X_6.here hx rfl (hb hby d_rm_nx_52) ?_
    refine XS.iadd X_6.here hx rfl (hb hby d_rm_nx_53) rfl ?_
    exact kt
  obtain ⟨T_8, h_8, X_8, e_8, W_8, st_8⟩ := putF X_6 hx hZ hown (host := "") (Or.inl (wdOf hw 148 rfl)) Via.refl e_6 Fi_cursor Ei (Or.inl (wdOf hw 149 rfl)) (wdOf hw 125 rfl) (ty := .int) (by decide) rfl rfl (g := (mkF m 54 #[sR_ ix, sI_ (0 : Int32), sR_ ea] [(.int (1 : Int32)), (.ref ix)])) rfl rfl (hb hby d_rm_nx_54)
  have N_8 := Fr.snoc X_8 N_1 o0
  have f_9 := Ei.wr W_8
  have f_10 := Fi_this0.other W_8 (Or.inr (slot_ne (Or.inr (wdOf hw 132 rfl)) (Or.inl (wdOf hw 149 rfl)) (by decide) (t := (.object "java/util/ArrayList")) (t' := .int) (by decide) (by decide)))
  have f_11 := Fi_cursor.same W_8
  have f_12 := Fi_lastRet.other W_8 (Or.inr (slot_ne (Or.inl (wdOf hw 135 rfl)) (Or.inl (wdOf hw 149 rfl)) (by decide) (t := .int) (t' := .int) (by decide) (by decide)))
  have f_13 := Fi_expectedModCount.other W_8 (Or.inr (slot_ne (Or.inl (wdOf hw 138 rfl)) (Or.inl (wdOf hw 149 rfl)) (by decide) (t := .int) (t' := .int) (by decide) (by decide)))
  have f_14 := El.wr W_8
  have f_15 := Fl_modCount.other W_8 (Or.inl na)
  have f_16 := Fl_elementData.other W_8 (Or.inl na)
  have f_17 := Fl_size.other W_8 (Or.inl na)
  have f_18 := Va.other W_8 ne
  have K_19 : Keep h0 h_8 [ix] := K0.wr W_8 (Or.inl (List.mem_of_getElem? (i := 0) rfl))
  have y_19 : n0 ≤ h_8.size := Nat.le_trans Z0 K_19.1
  refine Goes.go (U' := (T_8.setTop (mkF m 57 #[sR_ ix, sI_ (0 : Int32), sR_ ea] []))) st_8 ?_
  refine Goes.go (U' := (T_8.setTop (mkF m 61 #[sR_ ix, sI_ (0 : Int32), sR_ ea] [(.int (0 : Int32)), (.ref ix), (.int (0 : Int32)), (.ref ea)]))) (fun t kt => ?_) ?_
  · skip
    refine XS.aloadN X_8.here hx rfl (hb hby d_rm_nx_57) rfl rfl ?_
    refine XS.aloadN X_8.here hx rfl (hb hby d_rm_nx_58) rfl rfl ?_
    refine XS.iloadN X_8.here hx rfl (hb hby d_rm_nx_59) rfl ?_
    refine XS.dupX1 X_8.here hx rfl (hb hby d_rm_nx_60) rfl rfl rfl ?_
    exact kt
  obtain ⟨T_20, h_20, X_20, e_20, W_20, st_20⟩ := putF X_8 hx hZ hown (host := "") (Or.inl (wdOf hw 134 rfl)) Via.refl e_8 f_12 f_9 (Or.inl (wdOf hw 135 rfl)) (wdOf hw 125 rfl) (ty := .int) (by decide) rfl rfl (g := (mkF m 61 #[sR_ ix, sI_ (0 : Int32), sR_ ea] [(.int (0 : Int32)), (.ref ix), (.int (0 : Int32)), (.ref ea)])) rfl rfl (hb hby d_rm_nx_61)
  have N_20 := Fr.snoc X_20 N_8 o0
  have f_21 := f_9.wr W_20
  have f_22 := f_10.other W_20 (Or.inr (slot_ne (Or.inr (wdOf hw 132 rfl)) (Or.inl (wdOf hw 135 rfl)) (by decide) (t := (.object "java/util/ArrayList")) (t' := .int) (by decide) (by decide)))
  have f_23 := f_11.other W_20 (Or.inr (slot_ne (Or.inl (wdOf hw 149 rfl)) (Or.inl (wdOf hw 135 rfl)) (by decide) (t := .int) (t' := .int) (by decide) (by decide)))
  have f_24 := f_12.same W_20
  have f_25 := f_13.other W_20 (Or.inr (slot_ne (Or.inl (wdOf hw 138 rfl)) (Or.inl (wdOf hw 135 rfl)) (by decide) (t := .int) (t' := .int) (by decide) (by decide)))
  have f_26 := f_14.wr W_20
  have f_27 := f_15.other W_20 (Or.inl na)
  have f_28 := f_16.other W_20 (Or.inl na)
  have f_29 := f_17.other W_20 (Or.inl na)
  have f_30 := f_18.other W_20 ne
  have K_31 : Keep h0 h_20 [ix] := K_19.wr W_20 (Or.inl (List.mem_of_getElem? (i := 0) rfl))
  have y_31 : n0 ≤ h_20.size := Nat.le_trans Z0 K_31.1
  refine Goes.go (U' := (T_20.setTop (mkF m 64 #[sR_ ix, sI_ (0 : Int32), sR_ ea] [(.int (0 : Int32)), (.ref ea)]))) st_20 ?_
  obtain ⟨cl_32, Ar_32, q_32, S_32, M_32, H_32, G_32⟩ := id f_30
  have hin_32 : ¬ ((0 : Int32) < 0 ∨ cl_32.slots.size ≤ ((0 : Int32)).toNatClampNeg) := inb_of S_32 ⟨by decide, by decide⟩
  have hat_32 : cl_32.slots[((0 : Int32)).toNatClampNeg]? = some (.ref ob) := H_32.at hin_32 rfl
  refine Goes.go (U' := (T_20.setTop (mkF m 65 #[sR_ ix, sI_ (0 : Int32), sR_ ea] [(.ref ob)]))) (fun t kt => ?_) ?_
  · skip
    refine X_20.aaload hx (j := (0 : Int32)) (v := (.ref ob)) (by rw [e_20]; exact Ar_32.1) (State.isArrayOf_alike hZ.alike Ar_32.2.1) rfl Ar_32.2.2 hin_32 hat_32 (g := (mkF m 64 #[sR_ ix, sI_ (0 : Int32), sR_ ea] [(.int (0 : Int32)), (.ref ea)])) rfl rfl (hb hby d_rm_nx_64) _ ?_
    exact kt
  refine Goes.retA X_20 hx hlk hret rfl rfl (hb hby d_rm_nx_65) (by decide) (by decide) ?_
  try rw [e_20]
  exact ⟨rfl, N_20, K_31, f_21, f_22, f_23, f_24, f_25⟩
theorem d_rm_iv_0 : decode jdk_33_method_27_code 0 = .ok (.aload_n 0, 1) := by decide +kernel
theorem d_rm_iv_1 : decode jdk_33_method_27_code 1 = .ok (.getfield 205, 3) := by decide +kernel
theorem d_rm_iv_4 : decode jdk_33_method_27_code 4 = .ok (.ireturn, 1) := by decide +kernel
set_option maxHeartbeats 4000000 in
theorem ef_rm_iv (m : MethodId) (x0 : Addr)  : entryFrame m #[(.ref x0)] 1 = mkF m 0 #[.val (.ref x0)] [] := by first | (simp [entryFrame, mkF, argsToLocals, catR, catN, catI, catJ]; done) | rfl
set_option maxRecDepth 65536 in
set_option maxHeartbeats 40000000 in
theorem rm_iv (l : Launch) (Z : State) (a0 : Array Value) (hw : ∀ d ∈ tables_1, d.before a0 Z = true) (ws : List Jvm.Cond) (ax : Addr) (xv : Int32) (h0 : Heap) (n0 : Nat) (Z0 : n0 ≤ h0.size) (F0 : Fld Z h0 ax "java/lang/Integer" "value" "I" (.int xv)) :
    Pays l Z (⟨"java/lang/Integer", "intValue", "()I"⟩ : MethodName) jdk_33_method_27_code 1 (some .int) ws ({ frames := 0, cells := 0, slots := 0, locals := 0 } : Room) #[(.ref ax)] h0 (fun v h L => v = some (.int xv) ∧ Fr n0 L ∧ h = h0) := by
  refine Pays.of (plainFor_of_name (by first | (simp [plainName, overriddenIn]; done) | decide +kernel)) ?_
  intro p e s m below meth c s₁ hx hby hml hown hnm hret hlk hZ e0 X0
  have N0 := Fr.nil n0
  have K0 : Keep h0 h0 [] := Keep.refl _ _
  refine Goes.go (U' := (s₁.setTop (mkF m 0 #[sR_ ax] []))) (fun t kt => castTop (ef_rm_iv m ax) kt) ?_
  refine Goes.go (U' := (s₁.setTop (mkF m 1 #[sR_ ax] [(.ref ax)]))) (fun t kt => ?_) ?_
  · skip
    refine XS.aloadN X0.here hx rfl (hb hby d_rm_iv_0) rfl rfl ?_
    exact kt
  obtain ⟨T_1, X_1, e_1, st_1⟩ := getF X0 hx hZ hown (host := "") (Or.inl (wdOf hw 172 rfl)) Via.refl e0 F0 (g := (mkF m 1 #[sR_ ax] [(.ref ax)])) rfl rfl (hb hby d_rm_iv_1)
  refine Goes.go (U' := (T_1.setTop (mkF m 4 #[sR_ ax] [(.int xv)]))) st_1 ?_
  refine Goes.retI X_1 hx hlk hret (hb hby d_rm_iv_4) (by decide) (by decide) ?_
  try rw [e_1]
  exact ⟨rfl, N0, rfl⟩


theorem own_ix {i : Int32} (h1 : ¬ i < (-128 : Int32)) (h2 : ¬ (127 : Int32) < i) : ¬ (i + (128 : Int32)) < 0 ∧ (i + (128 : Int32)).toNatClampNeg < 256 ∧ (Value.int ((i + (128 : Int32)).toNatClampNeg.toInt32 - 128)) = .int i := by
  rw [Int32.lt_iff_toInt_lt] at h1 h2
  have e1 : (-128 : Int32).toInt = -128 := rfl
  have e2 : (127 : Int32).toInt = 127 := rfl
  have e3 : (128 : Int32).toInt = 128 := rfl
  have q := c_iadd i 128
  have r := rng32 (i + 128)
  have h3 : (i + (128 : Int32)).toInt = i.toInt + 128 := by omega
  have h0 : ¬ (i + (128 : Int32)) < 0 := by rw [Int32.lt_iff_toInt_lt]; show ¬ _ < (0 : Int); omega
  refine ⟨h0, by simp only [Int32.toNatClampNeg]; omega, ?_⟩
  rw [(back32 h0).1]
  congr 1
  apply Int32.toInt_inj.mp
  have q2 := c_isub (i + 128) 128
  have r2 := rng32 (i + 128 - 128)
  have r3 := rng32 i
  omega
theorem d_rm_vo_0 : decode jdk_33_method_22_code 0 = .ok (.iload_n 0, 1) := by decide +kernel
theorem d_rm_vo_1 : decode jdk_33_method_22_code 1 = .ok (.bipush (-128), 2) := by decide +kernel
theorem d_rm_vo_3 : decode jdk_33_method_22_code 3 = .ok (.if_icmp .lt 20, 3) := by decide +kernel
theorem d_rm_vo_6 : decode jdk_33_method_22_code 6 = .ok (.iload_n 0, 1) := by decide +kernel
theorem d_rm_vo_7 : decode jdk_33_method_22_code 7 = .ok (.getstatic 191, 3) := by decide +kernel
theorem d_rm_vo_10 : decode jdk_33_method_22_code 10 = .ok (.if_icmp .gt 13, 3) := by decide +kernel
theorem d_rm_vo_13 : decode jdk_33_method_22_code 13 = .ok (.getstatic 195, 3) := by decide +kernel
theorem d_rm_vo_16 : decode jdk_33_method_22_code 16 = .ok (.iload_n 0, 1) := by decide +kernel
theorem d_rm_vo_17 : decode jdk_33_method_22_code 17 = .ok (.sipush 128, 3) := by decide +kernel
theorem d_rm_vo_20 : decode jdk_33_method_22_code 20 = .ok (.iadd, 1) := by decide +kernel
theorem d_rm_vo_21 : decode jdk_33_method_22_code 21 = .ok (.aaload, 1) := by decide +kernel
theorem d_rm_vo_22 : decode jdk_33_method_22_code 22 = .ok (.areturn, 1) := by decide +kernel
set_option maxHeartbeats 4000000 in
theorem ef_rm_vo (m : MethodId) (x0 : Int32)  : entryFrame m #[(.int x0)] 1 = mkF m 0 #[.val (.int x0)] [] := by first | (simp [entryFrame, mkF, argsToLocals, catR, catN, catI, catJ]; done) | rfl
set_option maxRecDepth 65536 in
set_option maxHeartbeats 40000000 in
theorem rm_vo (l : Launch) (Z : State) (a0 : Array Value) (hw : ∀ d ∈ tables_1, d.before a0 Z = true) (ws : List Jvm.Cond) (iv : Int32) (h0 : Heap) (n0 : Nat) (Z0 : n0 ≤ h0.size) (O : Old Z n0 h0) (BC : BoxC Z "java/lang/Integer$IntegerCache" "[Ljava/lang/Integer;" "java/lang/Integer" "I" (fun i => .int (i.toInt32 - 128))) (SH : Sta Z Z.heap "java/lang/Integer$IntegerCache" "high" "I" (.int (127 : Int32))) (hs1 : ¬ iv < (-128 : Int32)) (hs2 : ¬ (127 : Int32) < iv) :
    Pays l Z (⟨"java/lang/Integer", "valueOf", "(I)Ljava/lang/Integer;"⟩ : MethodName) jdk_33_method_22_code 1 (some (.object "java/lang/Integer")) ws ({ frames := 0, cells := 0, slots := 0, locals := 0 } : Room) #[(.int iv)] h0 (fun v h L => ∃ r, v = some (.ref r) ∧ Fr n0 L ∧ Ext h0 h ∧ Exa Z h r "java/lang/Integer" ∧ Fld Z h r "java/lang/Integer" "value" "I" (.int iv)) := by
  refine Pays.of (plainFor_of_name (by first | (simp [plainName, overriddenIn]; done) | decide +kernel)) ?_
  intro p e s m below meth c s₁ hx hby hml hown hnm hret hlk hZ e0 X0
  have N0 := Fr.nil n0
  have K0 : Keep h0 h0 [] := Keep.refl _ _
  refine Goes.go (U' := (s₁.setTop (mkF m 0 #[sI_ iv] []))) (fun t kt => castTop (ef_rm_vo m iv) kt) ?_
  refine Goes.go (U' := (s₁.setTop (mkF m 7 #[sI_ iv] [(.int iv)]))) (fun t kt => ?_) ?_
  · skip
    refine XS.iloadN X0.here hx rfl (hb hby d_rm_vo_0) rfl ?_
    refine XS.bipush X0.here hx rfl (hb hby d_rm_vo_1) ?_
    refine XS.icmpNo X0.here hx rfl (hb hby d_rm_vo_3) rfl (XT.ii_lt_f hs1) ?_
    refine XS.iloadN X0.here hx rfl (hb hby d_rm_vo_6) rfl ?_
    exact kt
  obtain ⟨T_1, X_1, e_1, st_1⟩ := getS X0 hx hZ hown (host := "") (wdOf hw 31 rfl) Via.refl e0 (SH.ext O.2) (g := (mkF m 7 #[sI_ iv] [(.int iv)])) rfl (hb hby d_rm_vo_7)
  refine Goes.go (U' := (T_1.setTop (mkF m 10 #[sI_ iv] [(.int (127 : Int32)), (.int iv)]))) st_1 ?_
  refine Goes.go (U' := (T_1.setTop (mkF m 13 #[sI_ iv] []))) (fun t kt => ?_) ?_
  · skip
    refine XS.icmpNo X_1.here hx rfl (hb hby d_rm_vo_10) rfl (XT.ii_gt_f hs2) ?_
    exact kt
  obtain ⟨ca, cl, Sc, Ac, hsz, hel⟩ := BC
  have A1 := Ac.ext O.2
  obtain ⟨hj0, hj1, hj2⟩ := own_ix hs1 hs2
  obtain ⟨rr, hat, Er, Fr1⟩ := hel _ hj1
  replace Fr1 := Eq.subst (motive := fun q => Fld Z Z.heap rr "java/lang/Integer" "value" "I" q) hj2 Fr1
  obtain ⟨T_2, X_2, e_2, st_2⟩ := getS X_1 hx hZ hown (host := "") (wdOf hw 33 rfl) Via.refl e_1 (Sc.ext O.2) (g := (mkF m 13 #[sI_ iv] [])) rfl (hb hby d_rm_vo_13)
  refine Goes.go (U' := (T_2.setTop (mkF m 16 #[sI_ iv] [(.ref ca)]))) st_2 ?_
  refine Goes.go (U' := (T_2.setTop (mkF m 22 #[sI_ iv] [(.ref rr)]))) (fun t kt => ?_) ?_
  · skip
    refine XS.iloadN X_2.here hx rfl (hb hby d_rm_vo_16) rfl ?_
    refine XS.sipush X_2.here hx rfl (hb hby d_rm_vo_17) ?_
    refine XS.iadd X_2.here hx rfl (hb hby d_rm_vo_20) rfl ?_
    refine X_2.aaload hx (j := (iv + (128 : Int32))) (v := (.ref rr)) (by rw [e_2]; exact A1.1) (State.isArrayOf_alike hZ.alike A1.2.1) rfl A1.2.2 (fun q => q.elim hj0 (fun q => absurd hj1 (Nat.not_lt.mpr (hsz ▸ q)))) hat (g := (mkF m 21 #[sI_ iv] [(.int (iv + (128 : Int32))), (.ref ca)])) rfl rfl (hb hby d_rm_vo_21) _ ?_
    exact kt
  refine Goes.retA X_2 hx hlk hret rfl rfl (hb hby d_rm_vo_22) (by decide) (by decide) ?_
  try rw [e_2]
  exact ⟨_, rfl, N0, ⟨Nat.le_refl _, fun _ _ q => q⟩, Er.ext O.2, Fr1.ext O.2⟩
theorem d_rm_rec_0 : decode jdk_30_method_1_code 0 = .ok (.aload_n 0, 1) := by decide +kernel
theorem d_rm_rec_1 : decode jdk_30_method_1_code 1 = .ok (.invokespecial 1, 3) := by decide +kernel
theorem d_rm_rec_4 : decode jdk_30_method_1_code 4 = .ok (.return_, 1) := by decide +kernel
set_option maxHeartbeats 4000000 in
theorem ef_rm_rec (m : MethodId) (x0 : Addr)  : entryFrame m #[(.ref x0)] 1 = mkF m 0 #[.val (.ref x0)] [] := by first | (simp [entryFrame, mkF, argsToLocals, catR, catN, catI, catJ]; done) | rfl
set_option maxRecDepth 65536 in
set_option maxHeartbeats 40000000 in
theorem rm_rec (l : Launch) (Z : State) (a0 : Array Value) (hw : ∀ d ∈ tables_1, d.before a0 Z = true) (ws : List Jvm.Cond) (ax : Addr) (h0 : Heap) (n0 : Nat) (Z0 : n0 ≤ h0.size)  :
    Pays l Z (⟨"java/lang/Record", "<init>", "()V"⟩ : MethodName) jdk_30_method_1_code 1 none ws ({ frames := 1, cells := 0, slots := 0, locals := 12 } : Room) #[(.ref ax)] h0 (fun v h L => v = none ∧ Fr n0 L ∧ h = h0) := by
  refine Pays.of (plainFor_of_name (by first | (simp [plainName, overriddenIn]; done) | decide +kernel)) ?_
  intro p e s m below meth c s₁ hx hby hml hown hnm hret hlk hZ e0 X0
  have N0 := Fr.nil n0
  have K0 : Keep h0 h0 [] := Keep.refl _ _
  refine Goes.go (U' := (s₁.setTop (mkF m 0 #[sR_ ax] []))) (fun t kt => castTop (ef_rm_rec m ax) kt) ?_
  refine Goes.go (U' := (s₁.setTop (mkF m 1 #[sR_ ax] [(.ref ax)]))) (fun t kt => ?_) ?_
  · skip
    refine XS.aloadN X0.here hx rfl (hb hby d_rm_rec_0) rfl rfl ?_
    exact kt
  obtain ⟨T_1, X_1, e_1, st_1⟩ := initO X0 hx hZ hown (wdOf hw 185 rfl) (wdOf hw 20 rfl) (wdOf hw 21 rfl) e0 (g := (mkF m 1 #[sR_ ax] [(.ref ax)])) rfl (by rw [hml]; rfl) rfl (hb hby d_rm_rec_1) (by decide) (W := 0) (Nat.le_refl _) (by decide)
  refine Goes.go (U' := (T_1.setTop (mkF m 4 #[sR_ ax] []))) st_1 ?_
  refine Goes.retV X_1 hx hlk hret (hb hby d_rm_rec_4) (by decide) (by decide) ?_
  try rw [e_1]
  exact ⟨rfl, N0, rfl⟩
theorem d_rm_arc_0 : decode prog_4_method_1_code 0 = .ok (.aload_n 0, 1) := by decide +kernel
theorem d_rm_arc_1 : decode prog_4_method_1_code 1 = .ok (.invokespecial 1, 3) := by decide +kernel
theorem d_rm_arc_4 : decode prog_4_method_1_code 4 = .ok (.iload_n 1, 1) := by decide +kernel
theorem d_rm_arc_5 : decode prog_4_method_1_code 5 = .ok (.iconst 1, 1) := by decide +kernel
theorem d_rm_arc_6 : decode prog_4_method_1_code 6 = .ok (.if_icmp .lt 8, 3) := by decide +kernel
theorem d_rm_arc_9 : decode prog_4_method_1_code 9 = .ok (.iload_n 2, 1) := by decide +kernel
theorem d_rm_arc_10 : decode prog_4_method_1_code 10 = .ok (.iconst 1, 1) := by decide +kernel
theorem d_rm_arc_11 : decode prog_4_method_1_code 11 = .ok (.if_icmp .ge 18, 3) := by decide +kernel
theorem d_rm_arc_29 : decode prog_4_method_1_code 29 = .ok (.lload_n 3, 1) := by decide +kernel
theorem d_rm_arc_30 : decode prog_4_method_1_code 30 = .ok (.lconst 0, 1) := by decide +kernel
theorem d_rm_arc_31 : decode prog_4_method_1_code 31 = .ok (.lcmp, 1) := by decide +kernel
theorem d_rm_arc_32 : decode prog_4_method_1_code 32 = .ok (.ifCond .ge 17, 3) := by decide +kernel
theorem d_rm_arc_49 : decode prog_4_method_1_code 49 = .ok (.aload_n 0, 1) := by decide +kernel
theorem d_rm_arc_50 : decode prog_4_method_1_code 50 = .ok (.iload_n 1, 1) := by decide +kernel
theorem d_rm_arc_51 : decode prog_4_method_1_code 51 = .ok (.putfield 19, 3) := by decide +kernel
theorem d_rm_arc_54 : decode prog_4_method_1_code 54 = .ok (.aload_n 0, 1) := by decide +kernel
theorem d_rm_arc_55 : decode prog_4_method_1_code 55 = .ok (.iload_n 2, 1) := by decide +kernel
theorem d_rm_arc_56 : decode prog_4_method_1_code 56 = .ok (.putfield 25, 3) := by decide +kernel
theorem d_rm_arc_59 : decode prog_4_method_1_code 59 = .ok (.aload_n 0, 1) := by decide +kernel
theorem d_rm_arc_60 : decode prog_4_method_1_code 60 = .ok (.lload_n 3, 1) := by decide +kernel
theorem d_rm_arc_61 : decode prog_4_method_1_code 61 = .ok (.putfield 28, 3) := by decide +kernel
theorem d_rm_arc_64 : decode prog_4_method_1_code 64 = .ok (.return_, 1) := by decide +kernel
set_option maxHeartbeats 4000000 in
theorem ef_rm_arc (m : MethodId) (x0 : Addr) (x1 : Int32) (x2 : Int32) (x3 : Int64)  : entryFrame m #[(.ref x0), (.int x1), (.int x2), (.long x3)] 5 = mkF m 0 #[.val (.ref x0), .val (.int x1), .val (.int x2), .val (.long x3), .second] [] := by first | (simp [entryFrame, mkF, argsToLocals, catR, catN, catI, catJ]; done) | rfl
set_option maxRecDepth 65536 in
set_option maxHeartbeats 40000000 in
theorem rm_arc (l : Launch) (Z : State) (a0 : Array Value) (hw : ∀ d ∈ tables_1, d.before a0 Z = true) (ws : List Jvm.Cond) (ax : Addr) (xt xh : Int32) (xw : Int64) (h0 : Heap) (n0 : Nat) (Z0 : n0 ≤ h0.size) (o0 : n0 ≤ ax) (E0 : Exa Z h0 ax "com/example/copse/copse/Arc") (F0_tail : Fld Z h0 ax "com/example/copse/copse/Arc" "tail" "I" (.int (0 : Int32))) (F0_head : Fld Z h0 ax "com/example/copse/copse/Arc" "head" "I" (.int (0 : Int32))) (F0_weight : Fld Z h0 ax "com/example/copse/copse/Arc" "weight" "J" (.long (0 : Int64))) (ht : ¬ xt < (1 : Int32)) (hh : ¬ xh < (1 : Int32)) (hwt : ¬ xw < (0 : Int64)) :
    Pays l Z (⟨"com/example/copse/copse/Arc", "<init>", "(IIJ)V"⟩ : MethodName) prog_4_method_1_code 5 none ws ({ frames := 2, cells := 0, slots := 0, locals := 24 } : Room) #[(.ref ax), (.int xt), (.int xh), (.long xw)] h0 (fun v h L => v = none ∧ Fr n0 L ∧ Keep h0 h [ax] ∧ Exa Z h ax "com/example/copse/copse/Arc" ∧ Fld Z h ax "com/example/copse/copse/Arc" "tail" "I" (.int xt) ∧ Fld Z h ax "com/example/copse/copse/Arc" "head" "I" (.int xh) ∧ Fld Z h ax "com/example/copse/copse/Arc" "weight" "J" (.long xw)) := by
  refine Pays.of (plainFor_of_name (by first | (simp [plainName, overriddenIn]; done) | decide +kernel)) ?_
  intro p e s m below meth c s₁ hx hby hml hown hnm hret hlk hZ e0 X0
  have N0 := Fr.nil n0
  have K0 : Keep h0 h0 [ax] := Keep.refl _ _
  refine Goes.go (U' := (s₁.setTop (mkF m 0 #[sR_ ax, sI_ xt, sI_ xh, sJ_ xw, sS_] []))) (fun t kt => castTop (ef_rm_arc m ax xt xh xw) kt) ?_
  refine Goes.go (U' := (s₁.setTop (mkF m 1 #[sR_ ax, sI_ xt, sI_ xh, sJ_ xw, sS_] [(.ref ax)]))) (fun t kt => ?_) ?_
  · skip
    refine XS.aloadN X0.here hx rfl (hb hby d_rm_arc_0) rfl rfl ?_
    exact kt
  obtain ⟨v_1, T_1, L_1, X_1, q_1, st_1⟩ := callInit X0 hx hZ (y := (⟨"java/lang/Record", "<init>", "()V"⟩ : MethodName)) (W := 0) rfl hown (wdOf hw 180 rfl) (wdOf hw 181 rfl) (wdOf hw 183 rfl) (wdOf hw 184 rfl) (by decide) (rm_rec l Z a0 hw [] ax h0 n0 Z0) (by decide) (by decide) (by decide) (by decide) e0 (b := ax) (g := (mkF m 1 #[sR_ ax, sI_ xt, sI_ xh, sJ_ xw, sS_] [(.ref ax)])) rfl (by rw [hml]; rfl) (argsL := []) (rest := []) (lenOf pd_0 rfl) rfl rfl (Nat.le_refl _) (hb hby d_rm_arc_1)
  obtain ⟨rfl, n_1, K_1⟩ := q_1
  have N_1 := Fr.app N0 n_1
  refine Goes.go (U' := (T_1.setTop (mkF m 4 #[sR_ ax, sI_ xt, sI_ xh, sJ_ xw, sS_] []))) st_1 ?_
  refine Goes.go (U' := (T_1.setTop (mkF m 51 #[sR_ ax, sI_ xt, sI_ xh, sJ_ xw, sS_] [(.int xt), (.ref ax)]))) (fun t kt => ?_) ?_
  · skip
    refine XS.iloadN X_1.here hx rfl (hb hby d_rm_arc_4) rfl ?_
    refine XS.iconst X_1.here hx rfl (hb hby d_rm_arc_5) ?_
    refine XS.icmpNo X_1.here hx rfl (hb hby d_rm_arc_6) rfl (XT.ii_lt_f ht) ?_
    refine XS.iloadN X_1.here hx rfl (hb hby d_rm_arc_9) rfl ?_
    refine XS.iconst X_1.here hx rfl (hb hby d_rm_arc_10) ?_
    refine XS.icmpYes X_1.here hx rfl (pc0 := 11) (pc' := 29) rfl (hb hby d_rm_arc_11) rfl (XT.ii_ge_t hh) (by decide) (by decide) ?_
    refine XS.lloadN X_1.here hx rfl (hb hby d_rm_arc_29) rfl ?_
    refine XS.lconst X_1.here hx rfl (hb hby d_rm_arc_30) ?_
    show Steps p.tables e below (T_1.setTop (mkF m 31 #[sR_ ax, sI_ xt, sI_ xh, sJ_ xw, sS_] [(.long (0 : Int64)), (.long xw)])) t
    refine XT.lcmp X_1.here hx rfl (hb hby d_rm_arc_31) rfl ?_
    refine XS.ifYes X_1.here hx rfl (pc0 := 32) (pc' := 49) rfl (hb hby d_rm_arc_32) rfl (XT.ll_ge_t hwt) (by decide) (by decide) ?_
    refine XS.aloadN X_1.here hx rfl (hb hby d_rm_arc_49) rfl rfl ?_
    refine XS.iloadN X_1.here hx rfl (hb hby d_rm_arc_50) rfl ?_
    exact kt
  obtain ⟨T_2, h_2, X_2, e_2, W_2, st_2⟩ := putF X_1 hx hZ hown (host := "") (Or.inl (wdOf hw 186 rfl)) Via.refl K_1 F0_tail E0 (Or.inr ⟨wdOf hw 187 rfl, rfl, hnm⟩) (wdOf hw 175 rfl) (ty := .int) (by decide) rfl rfl (g := (mkF m 51 #[sR_ ax, sI_ xt, sI_ xh, sJ_ xw, sS_] [(.int xt), (.ref ax)])) rfl rfl (hb hby d_rm_arc_51)
  have N_2 := Fr.snoc X_2 N_1 o0
  have f_3 := E0.wr W_2
  have f_4 := F0_tail.same W_2
  have f_5 := F0_head.other W_2 (Or.inr (slot_ne (Or.inr (wdOf hw 189 rfl)) (Or.inr (wdOf hw 187 rfl)) (by decide) (t := .int) (t' := .int) (by decide) (by decide)))
  have f_6 := F0_weight.other W_2 (Or.inr (slot_ne (Or.inr (wdOf hw 191 rfl)) (Or.inr (wdOf hw 187 rfl)) (by decide) (t := .long) (t' := .int) (by decide) (by decide)))
  have K_7 : Keep h0 h_2 [ax] := K0.wr W_2 (Or.inl (List.mem_of_getElem? (i := 0) rfl))
  have y_7 : n0 ≤ h_2.size := Nat.le_trans Z0 K_7.1
  refine Goes.go (U' := (T_2.setTop (mkF m 54 #[sR_ ax, sI_ xt, sI_ xh, sJ_ xw, sS_] []))) st_2 ?_
  refine Goes.go (U' := (T_2.setTop (mkF m 56 #[sR_ ax, sI_ xt, sI_ xh, sJ_ xw, sS_] [(.int xh), (.ref ax)]))) (fun t kt => ?_) ?_
  · skip
    refine XS.aloadN X_2.here hx rfl (hb hby d_rm_arc_54) rfl rfl ?_
    refine XS.iloadN X_2.here hx rfl (hb hby d_rm_arc_55) rfl ?_
    exact kt
  obtain ⟨T_8, h_8, X_8, e_8, W_8, st_8⟩ := putF X_2 hx hZ hown (host := "") (Or.inl (wdOf hw 188 rfl)) Via.refl e_2 f_5 f_3 (Or.inr ⟨wdOf hw 189 rfl, rfl, hnm⟩) (wdOf hw 175 rfl) (ty := .int) (by decide) rfl rfl (g := (mkF m 56 #[sR_ ax, sI_ xt, sI_ xh, sJ_ xw, sS_] [(.int xh), (.ref ax)])) rfl rfl (hb hby d_rm_arc_56)
  have N_8 := Fr.snoc X_8 N_2 o0
  have f_9 := f_3.wr W_8
  have f_10 := f_4.other W_8 (Or.inr (slot_ne (Or.inr (wdOf hw 187 rfl)) (Or.inr (wdOf hw 189 rfl)) (by decide) (t := .int) (t' := .int) (by decide) (by decide)))
  have f_11 := f_5.same W_8
  have f_12 := f_6.other W_8 (Or.inr (slot_ne (Or.inr (wdOf hw 191 rfl)) (Or.inr (wdOf hw 189 rfl)) (by decide) (t := .long) (t' := .int) (by decide) (by decide)))
  have K_13 : Keep h0 h_8 [ax] := K_7.wr W_8 (Or.inl (List.mem_of_getElem? (i := 0) rfl))
  have y_13 : n0 ≤ h_8.size := Nat.le_trans Z0 K_13.1
  refine Goes.go (U' := (T_8.setTop (mkF m 59 #[sR_ ax, sI_ xt, sI_ xh, sJ_ xw, sS_] []))) st_8 ?_
  refine Goes.go (U' := (T_8.setTop (mkF m 61 #[sR_ ax, sI_ xt, sI_ xh, sJ_ xw, sS_] [(.long xw), (.ref ax)]))) (fun t kt => ?_) ?_
  · skip
    refine XS.aloadN X_8.here hx rfl (hb hby d_rm_arc_59) rfl rfl ?_
    refine XS.lloadN X_8.here hx rfl (hb hby d_rm_arc_60) rfl ?_
    exact kt
  obtain ⟨T_14, h_14, X_14, e_14, W_14, st_14⟩ := putF X_8 hx hZ hown (host := "") (Or.inl (wdOf hw 190 rfl)) Via.refl e_8 f_12 f_9 (Or.inr ⟨wdOf hw 191 rfl, rfl, hnm⟩) (wdOf hw 175 rfl) (ty := .long) (by decide) rfl rfl (g := (mkF m 61 #[sR_ ax, sI_ xt, sI_ xh, sJ_ xw, sS_] [(.long xw), (.ref ax)])) rfl rfl (hb hby d_rm_arc_61)
  have N_14 := Fr.snoc X_14 N_8 o0
  have f_15 := f_9.wr W_14
  have f_16 := f_10.other W_14 (Or.inr (slot_ne (Or.inr (wdOf hw 187 rfl)) (Or.inr (wdOf hw 191 rfl)) (by decide) (t := .int) (t' := .long) (by decide) (by decide)))
  have f_17 := f_11.other W_14 (Or.inr (slot_ne (Or.inr (wdOf hw 189 rfl)) (Or.inr (wdOf hw 191 rfl)) (by decide) (t := .int) (t' := .long) (by decide) (by decide)))
  have f_18 := f_12.same W_14
  have K_19 : Keep h0 h_14 [ax] := K_13.wr W_14 (Or.inl (List.mem_of_getElem? (i := 0) rfl))
  have y_19 : n0 ≤ h_14.size := Nat.le_trans Z0 K_19.1
  refine Goes.go (U' := (T_14.setTop (mkF m 64 #[sR_ ax, sI_ xt, sI_ xh, sJ_ xw, sS_] []))) st_14 ?_
  refine Goes.retV X_14 hx hlk hret (hb hby d_rm_arc_64) (by decide) (by decide) ?_
  try rw [e_14]
  exact ⟨rfl, N_14, K_19, f_15, f_16, f_17, f_18⟩
theorem d_rm_head_0 : decode prog_4_method_7_code 0 = .ok (.aload_n 0, 1) := by decide +kernel
theorem d_rm_head_1 : decode prog_4_method_7_code 1 = .ok (.getfield 25, 3) := by decide +kernel
theorem d_rm_head_4 : decode prog_4_method_7_code 4 = .ok (.ireturn, 1) := by decide +kernel
set_option maxHeartbeats 4000000 in
theorem ef_rm_head (m : MethodId) (x0 : Addr)  : entryFrame m #[(.ref x0)] 1 = mkF m 0 #[.val (.ref x0)] [] := by first | (simp [entryFrame, mkF, argsToLocals, catR, catN, catI, catJ]; done) | rfl
set_option maxRecDepth 65536 in
set_option maxHeartbeats 40000000 in
theorem rm_head (l : Launch) (Z : State) (a0 : Array Value) (hw : ∀ d ∈ tables_1, d.before a0 Z = true) (ws : List Jvm.Cond) (ax : Addr) (xv : Int32) (h0 : Heap) (n0 : Nat) (Z0 : n0 ≤ h0.size) (F0 : Fld Z h0 ax "com/example/copse/copse/Arc" "head" "I" (.int xv)) :
    Pays l Z (⟨"com/example/copse/copse/Arc", "head", "()I"⟩ : MethodName) prog_4_method_7_code 1 (some .int) ws ({ frames := 0, cells := 0, slots := 0, locals := 0 } : Room) #[(.ref ax)] h0 (fun v h L => v = some (.int xv) ∧ Fr n0 L ∧ h = h0) := by
  refine Pays.of (plainFor_of_name (by first | (simp [plainName, overriddenIn]; done) | decide +kernel)) ?_
  intro p e s m below meth c s₁ hx hby hml hown hnm hret hlk hZ e0 X0
  have N0 := Fr.nil n0
  have K0 : Keep h0 h0 [] := Keep.refl _ _
  refine Goes.go (U' := (s₁.setTop (mkF m 0 #[sR_ ax] []))) (fun t kt => castTop (ef_rm_head m ax) kt) ?_
  refine Goes.go (U' := (s₁.setTop (mkF m 1 #[sR_ ax] [(.ref ax)]))) (fun t kt => ?_) ?_
  · skip
    refine XS.aloadN X0.here hx rfl (hb hby d_rm_head_0) rfl rfl ?_
    exact kt
  obtain ⟨T_1, X_1, e_1, st_1⟩ := getF X0 hx hZ hown (host := "") (Or.inl (wdOf hw 188 rfl)) Via.refl e0 F0 (g := (mkF m 1 #[sR_ ax] [(.ref ax)])) rfl rfl (hb hby d_rm_head_1)
  refine Goes.go (U' := (T_1.setTop (mkF m 4 #[sR_ ax] [(.int xv)]))) st_1 ?_
  refine Goes.retI X_1 hx hlk hret (hb hby d_rm_head_4) (by decide) (by decide) ?_
  try rw [e_1]
  exact ⟨rfl, N0, rfl⟩
theorem d_rm_tail_0 : decode prog_4_method_6_code 0 = .ok (.aload_n 0, 1) := by decide +kernel
theorem d_rm_tail_1 : decode prog_4_method_6_code 1 = .ok (.getfield 19, 3) := by decide +kernel
theorem d_rm_tail_4 : decode prog_4_method_6_code 4 = .ok (.ireturn, 1) := by decide +kernel
set_option maxHeartbeats 4000000 in
theorem ef_rm_tail (m : MethodId) (x0 : Addr)  : entryFrame m #[(.ref x0)] 1 = mkF m 0 #[.val (.ref x0)] [] := by first | (simp [entryFrame, mkF, argsToLocals, catR, catN, catI, catJ]; done) | rfl
set_option maxRecDepth 65536 in
set_option maxHeartbeats 40000000 in
theorem rm_tail (l : Launch) (Z : State) (a0 : Array Value) (hw : ∀ d ∈ tables_1, d.before a0 Z = true) (ws : List Jvm.Cond) (ax : Addr) (xv : Int32) (h0 : Heap) (n0 : Nat) (Z0 : n0 ≤ h0.size) (F0 : Fld Z h0 ax "com/example/copse/copse/Arc" "tail" "I" (.int xv)) :
    Pays l Z (⟨"com/example/copse/copse/Arc", "tail", "()I"⟩ : MethodName) prog_4_method_6_code 1 (some .int) ws ({ frames := 0, cells := 0, slots := 0, locals := 0 } : Room) #[(.ref ax)] h0 (fun v h L => v = some (.int xv) ∧ Fr n0 L ∧ h = h0) := by
  refine Pays.of (plainFor_of_name (by first | (simp [plainName, overriddenIn]; done) | decide +kernel)) ?_
  intro p e s m below meth c s₁ hx hby hml hown hnm hret hlk hZ e0 X0
  have N0 := Fr.nil n0
  have K0 : Keep h0 h0 [] := Keep.refl _ _
  refine Goes.go (U' := (s₁.setTop (mkF m 0 #[sR_ ax] []))) (fun t kt => castTop (ef_rm_tail m ax) kt) ?_
  refine Goes.go (U' := (s₁.setTop (mkF m 1 #[sR_ ax] [(.ref ax)]))) (fun t kt => ?_) ?_
  · skip
    refine XS.aloadN X0.here hx rfl (hb hby d_rm_tail_0) rfl rfl ?_
    exact kt
  obtain ⟨T_1, X_1, e_1, st_1⟩ := getF X0 hx hZ hown (host := "") (Or.inl (wdOf hw 186 rfl)) Via.refl e0 F0 (g := (mkF m 1 #[sR_ ax] [(.ref ax)])) rfl rfl (hb hby d_rm_tail_1)
  refine Goes.go (U' := (T_1.setTop (mkF m 4 #[sR_ ax] [(.int xv)]))) st_1 ?_
  refine Goes.retI X_1 hx hlk hret (hb hby d_rm_tail_4) (by decide) (by decide) ?_
  try rw [e_1]
  exact ⟨rfl, N0, rfl⟩
theorem d_rm_lb_0 : decode prog_20_method_27_code 0 = .ok (.iconst 0, 1) := by decide +kernel
theorem d_rm_lb_1 : decode prog_20_method_27_code 1 = .ok (.ireturn, 1) := by decide +kernel
set_option maxHeartbeats 4000000 in
theorem ef_rm_lb (m : MethodId) (x0 : Addr)  : entryFrame m #[(.ref x0)] 1 = mkF m 0 #[.val (.ref x0)] [] := by first | (simp [entryFrame, mkF, argsToLocals, catR, catN, catI, catJ]; done) | rfl
set_option maxRecDepth 65536 in
set_option maxHeartbeats 40000000 in
theorem rm_lb (l : Launch) (Z : State) (a0 : Array Value) (hw : ∀ d ∈ tables_1, d.before a0 Z = true) (ws : List Jvm.Cond) (ax : Addr) (h0 : Heap) (n0 : Nat) (Z0 : n0 ≤ h0.size)  :
    Pays l Z (⟨"com/example/copse/copse/HangingTree", "lambda$new$0", "(Lcom/example/copse/copse/Arc;)Z"⟩ : MethodName) prog_20_method_27_code 1 (some .boolean) ws ({ frames := 0, cells := 0, slots := 0, locals := 0 } : Room) #[(.ref ax)] h0 (fun v h L => v = some (.int (0 : Int32)) ∧ L = [] ∧ h = h0) := by
  refine Pays.of (plainFor_of_name (by first | (simp [plainName, overriddenIn]; done) | decide +kernel)) ?_
  intro p e s m below meth c s₁ hx hby hml hown hnm hret hlk hZ e0 X0
  have N0 := Fr.nil n0
  have K0 : Keep h0 h0 [] := Keep.refl _ _
  refine Goes.go (U' := (s₁.setTop (mkF m 0 #[sR_ ax] []))) (fun t kt => castTop (ef_rm_lb m ax) kt) ?_
  refine Goes.go (U' := (s₁.setTop (mkF m 1 #[sR_ ax] [(.int (0 : Int32))]))) (fun t kt => ?_) ?_
  · skip
    refine XS.iconst X0.here hx rfl (hb hby d_rm_lb_0) ?_
    exact kt
  refine Goes.retB X0 hx hlk hret (hb hby d_rm_lb_1) (by decide) (by decide) ?_
  try rw [e0]
  exact ⟨rfl, rfl, rfl⟩
theorem d_rm_cc_0 : decode prog_20_method_18_code 0 = .ok (.aload_n 0, 1) := by decide +kernel
theorem d_rm_cc_1 : decode prog_20_method_18_code 1 = .ok (.getfield 29, 3) := by decide +kernel
theorem d_rm_cc_4 : decode prog_20_method_18_code 4 = .ok (.iload_n 1, 1) := by decide +kernel
theorem d_rm_cc_5 : decode prog_20_method_18_code 5 = .ok (.dup2, 1) := by decide +kernel
theorem d_rm_cc_6 : decode prog_20_method_18_code 6 = .ok (.iaload, 1) := by decide +kernel
theorem d_rm_cc_7 : decode prog_20_method_18_code 7 = .ok (.iload_n 2, 1) := by decide +kernel
theorem d_rm_cc_8 : decode prog_20_method_18_code 8 = .ok (.iadd, 1) := by decide +kernel
theorem d_rm_cc_9 : decode prog_20_method_18_code 9 = .ok (.iastore, 1) := by decide +kernel
theorem d_rm_cc_10 : decode prog_20_method_18_code 10 = .ok (.aload_n 0, 1) := by decide +kernel
theorem d_rm_cc_11 : decode prog_20_method_18_code 11 = .ok (.getfield 113, 3) := by decide +kernel
theorem d_rm_cc_14 : decode prog_20_method_18_code 14 = .ok (.ifnull 24, 3) := by decide +kernel
theorem d_rm_cc_38 : decode prog_20_method_18_code 38 = .ok (.return_, 1) := by decide +kernel
set_option maxHeartbeats 4000000 in
theorem ef_rm_cc (m : MethodId) (x0 : Addr) (x1 : Int32) (x2 : Int32)  : entryFrame m #[(.ref x0), (.int x1), (.int x2)] 3 = mkF m 0 #[.val (.ref x0), .val (.int x1), .val (.int x2)] [] := by first | (simp [entryFrame, mkF, argsToLocals, catR, catN, catI, catJ]; done) | rfl
set_option maxRecDepth 65536 in
set_option maxHeartbeats 40000000 in
theorem rm_cc (l : Launch) (Z : State) (a0 : Array Value) (hw : ∀ d ∈ tables_1, d.before a0 Z = true) (ws : List Jvm.Cond) (tx ch : Addr) (tl : Int32) (h0 : Heap) (n0 : Nat) (Z0 : n0 ≤ h0.size) (o0 : n0 ≤ ch) (htl : ¬ tl < 0 ∧ tl < 5) (nt : tx ≠ ch) (Ft_children : Fld Z h0 tx "com/example/copse/copse/HangingTree" "children" "[I" (.ref ch)) (Ft_forest : Fld Z h0 tx "com/example/copse/copse/HangingTree" "forest" "Lcom/example/copse/copse/LinkCutForest;" .null) (Bch : Bar Z h0 ch .int IntP) :
    Pays l Z (⟨"com/example/copse/copse/HangingTree", "countChildren", "(II)V"⟩ : MethodName) prog_20_method_18_code 3 none ws ({ frames := 0, cells := 0, slots := 0, locals := 0 } : Room) #[(.ref tx), (.int tl), (.int (1 : Int32))] h0 (fun v h L => v = none ∧ Fr n0 L ∧ Keep h0 h [ch] ∧ Bar Z h ch .int IntP) := by
  refine Pays.of (plainFor_of_name (by first | (simp [plainName, overriddenIn]; done) | decide +kernel)) ?_
  intro p e s m below meth c s₁ hx hby hml hown hnm hret hlk hZ e0 X0
  have N0 := Fr.nil n0
  have K0 : Keep h0 h0 [ch] := Keep.refl _ _
  refine Goes.go (U' := (s₁.setTop (mkF m 0 #[sR_ tx, sI_ tl, sI_ (1 : Int32)] []))) (fun t kt => castTop (ef_rm_cc m tx tl (1 : Int32)) kt) ?_
  refine Goes.go (U' := (s₁.setTop (mkF m 1 #[sR_ tx, sI_ tl, sI_ (1 : Int32)] [(.ref tx)]))) (fun t kt => ?_) ?_
  · skip
    refine XS.aloadN X0.here hx rfl (hb hby d_rm_cc_0) rfl rfl ?_
    exact kt
  obtain ⟨T_1, X_1, e_1, st_1⟩ := getF X0 hx hZ hown (host := "") (Or.inl (wdOf hw 87 rfl)) Via.refl e0 Ft_children (g := (mkF m 1 #[sR_ tx, sI_ tl, sI_ (1 : Int32)] [(.ref tx)])) rfl rfl (hb hby d_rm_cc_1)
  refine Goes.go (U' := (T_1.setTop (mkF m 4 #[sR_ tx, sI_ tl, sI_ (1 : Int32)] [(.ref ch)]))) st_1 ?_
  refine Goes.go (U' := (T_1.setTop (mkF m 6 #[sR_ tx, sI_ tl, sI_ (1 : Int32)] [(.int tl), (.ref ch), (.int tl), (.ref ch)]))) (fun t kt => ?_) ?_
  · skip
    refine XS.iloadN X_1.here hx rfl (hb hby d_rm_cc_4) rfl ?_
    refine xsDup2 X_1.here hx rfl (hb hby d_rm_cc_5) rfl rfl rfl ?_
    exact kt
  obtain ⟨cl_2, Ar_2, S_2, H_2⟩ := id Bch
  have hin_2 : ¬ (tl < 0 ∨ cl_2.slots.size ≤ (tl).toNatClampNeg) := inb_of S_2 htl
  obtain ⟨_, hat_2, i_2, rfl⟩ := Bar.at H_2 hin_2
  refine Goes.go (U' := (T_1.setTop (mkF m 7 #[sR_ tx, sI_ tl, sI_ (1 : Int32)] [(.int i_2), (.int tl), (.ref ch)]))) (fun t kt => ?_) ?_
  · skip
    refine X_1.iaload hx (j := tl) (v := (.int i_2)) (by rw [e_1]; exact Ar_2.1) (State.isArrayOf_alike hZ.alike Ar_2.2.1) Ar_2.2.2 hin_2 hat_2 (g := (mkF m 6 #[sR_ tx, sI_ tl, sI_ (1 : Int32)] [(.int tl), (.ref ch), (.int tl), (.ref ch)])) rfl rfl (hb hby d_rm_cc_6) _ ?_
    exact kt
  refine Goes.go (U' := (T_1.setTop (mkF m 9 #[sR_ tx, sI_ tl, sI_ (1 : Int32)] [(.int (i_2 + (1 : Int32))), (.int tl), (.ref ch)]))) (fun t kt => ?_) ?_
  · skip
    refine XS.iloadN X_1.here hx rfl (hb hby d_rm_cc_7) rfl ?_
    refine XS.iadd X_1.here hx rfl (hb hby d_rm_cc_8) rfl ?_
    exact kt
  obtain ⟨cl_3, Ar_3, S_3, H_3⟩ := id Bch
  have hin_3 : ¬ (tl < 0 ∨ cl_3.slots.size ≤ (tl).toNatClampNeg) := inb_of S_3 htl
  obtain ⟨T_3, h_3, X_3, e_3, W_3, st_3⟩ := stI X_1 hx hZ e_1 Ar_3 (j := tl) hin_3 (g := (mkF m 9 #[sR_ tx, sI_ tl, sI_ (1 : Int32)] [(.int (i_2 + (1 : Int32))), (.int tl), (.ref ch)])) rfl rfl (hb hby d_rm_cc_9)
  have B_3 : Bar Z h_3 ch .int IntP := Bar.set Ar_3 S_3 H_3 W_3 (IntP.mk _)
  have N_3 := Fr.snoc X_3 N0 o0
  have f_4 := Ft_children.other W_3 (Or.inl nt)
  have f_5 := Ft_forest.other W_3 (Or.inl nt)
  have K_7 : Keep h0 h_3 [ch] := K0.wr W_3 (Or.inl (List.mem_of_getElem? (i := 0) rfl))
  have y_7 : n0 ≤ h_3.size := Nat.le_trans Z0 K_7.1
  refine Goes.go (U' := (T_3.setTop (mkF m 10 #[sR_ tx, sI_ tl, sI_ (1 : Int32)] []))) st_3 ?_
  refine Goes.go (U' := (T_3.setTop (mkF m 11 #[sR_ tx, sI_ tl, sI_ (1 : Int32)] [(.ref tx)]))) (fun t kt => ?_) ?_
  · skip
    refine XS.aloadN X_3.here hx rfl (hb hby d_rm_cc_10) rfl rfl ?_
    exact kt
  obtain ⟨T_8, X_8, e_8, st_8⟩ := getF X_3 hx hZ hown (host := "") (Or.inl (wdOf hw 219 rfl)) Via.refl e_3 f_5 (g := (mkF m 11 #[sR_ tx, sI_ tl, sI_ (1 : Int32)] [(.ref tx)])) rfl rfl (hb hby d_rm_cc_11)
  refine Goes.go (U' := (T_8.setTop (mkF m 14 #[sR_ tx, sI_ tl, sI_ (1 : Int32)] [.null]))) st_8 ?_
  refine Goes.go (U' := (T_8.setTop (mkF m 38 #[sR_ tx, sI_ tl, sI_ (1 : Int32)] []))) (fun t kt => ?_) ?_
  · skip
    refine XS.ifnullYes X_8.here hx rfl (pc0 := 14) (pc' := 38) rfl (hb hby d_rm_cc_14) rfl (by decide) (by decide) ?_
    exact kt
  refine Goes.retV X_8 hx hlk hret (hb hby d_rm_cc_38) (by decide) (by decide) ?_
  try rw [e_8]
  exact ⟨rfl, N_3, K_7, B_3⟩
theorem d_rm_hang1_0 : decode prog_20_method_4_code 0 = .ok (.aload_n 1, 1) := by decide +kernel
theorem d_rm_hang1_1 : decode prog_20_method_4_code 1 = .ok (.invokevirtual 94, 3) := by decide +kernel
theorem d_rm_hang1_4 : decode prog_20_method_4_code 4 = .ok (.istore_n 2, 1) := by decide +kernel
theorem d_rm_hang1_5 : decode prog_20_method_4_code 5 = .ok (.aload_n 1, 1) := by decide +kernel
theorem d_rm_hang1_6 : decode prog_20_method_4_code 6 = .ok (.invokevirtual 97, 3) := by decide +kernel
theorem d_rm_hang1_9 : decode prog_20_method_4_code 9 = .ok (.istore_n 3, 1) := by decide +kernel
theorem d_rm_hang1_10 : decode prog_20_method_4_code 10 = .ok (.aload_n 0, 1) := by decide +kernel
theorem d_rm_hang1_11 : decode prog_20_method_4_code 11 = .ok (.getfield 25, 3) := by decide +kernel
theorem d_rm_hang1_14 : decode prog_20_method_4_code 14 = .ok (.iload_n 2, 1) := by decide +kernel
theorem d_rm_hang1_15 : decode prog_20_method_4_code 15 = .ok (.aload_n 1, 1) := by decide +kernel
theorem d_rm_hang1_16 : decode prog_20_method_4_code 16 = .ok (.aastore, 1) := by decide +kernel
theorem d_rm_hang1_17 : decode prog_20_method_4_code 17 = .ok (.aload_n 0, 1) := by decide +kernel
theorem d_rm_hang1_18 : decode prog_20_method_4_code 18 = .ok (.getfield 50, 3) := by decide +kernel
theorem d_rm_hang1_21 : decode prog_20_method_4_code 21 = .ok (.iload_n 2, 1) := by decide +kernel
theorem d_rm_hang1_22 : decode prog_20_method_4_code 22 = .ok (.aload_n 0, 1) := by decide +kernel
theorem d_rm_hang1_23 : decode prog_20_method_4_code 23 = .ok (.getfield 46, 3) := by decide +kernel
theorem d_rm_hang1_26 : decode prog_20_method_4_code 26 = .ok (.aload_n 1, 1) := by decide +kernel
theorem d_rm_hang1_27 : decode prog_20_method_4_code 27 = .ok (.invokeinterface 100 2, 5) := by decide +kernel
theorem d_rm_hang1_32 : decode prog_20_method_4_code 32 = .ok (.bastore, 1) := by decide +kernel
theorem d_rm_hang1_33 : decode prog_20_method_4_code 33 = .ok (.aload_n 0, 1) := by decide +kernel
theorem d_rm_hang1_34 : decode prog_20_method_4_code 34 = .ok (.getfield 40, 3) := by decide +kernel
theorem d_rm_hang1_37 : decode prog_20_method_4_code 37 = .ok (.iload_n 2, 1) := by decide +kernel
theorem d_rm_hang1_38 : decode prog_20_method_4_code 38 = .ok (.aload_n 0, 1) := by decide +kernel
theorem d_rm_hang1_39 : decode prog_20_method_4_code 39 = .ok (.getfield 37, 3) := by decide +kernel
theorem d_rm_hang1_42 : decode prog_20_method_4_code 42 = .ok (.iload_n 3, 1) := by decide +kernel
theorem d_rm_hang1_43 : decode prog_20_method_4_code 43 = .ok (.iaload, 1) := by decide +kernel
theorem d_rm_hang1_44 : decode prog_20_method_4_code 44 = .ok (.iastore, 1) := by decide +kernel
theorem d_rm_hang1_45 : decode prog_20_method_4_code 45 = .ok (.aload_n 0, 1) := by decide +kernel
theorem d_rm_hang1_46 : decode prog_20_method_4_code 46 = .ok (.getfield 37, 3) := by decide +kernel
theorem d_rm_hang1_49 : decode prog_20_method_4_code 49 = .ok (.iload_n 3, 1) := by decide +kernel
theorem d_rm_hang1_50 : decode prog_20_method_4_code 50 = .ok (.iaload, 1) := by decide +kernel
theorem d_rm_hang1_51 : decode prog_20_method_4_code 51 = .ok (.ifCond .eq 15, 3) := by decide +kernel
theorem d_rm_hang1_54 : decode prog_20_method_4_code 54 = .ok (.aload_n 0, 1) := by decide +kernel
theorem d_rm_hang1_55 : decode prog_20_method_4_code 55 = .ok (.getfield 43, 3) := by decide +kernel
theorem d_rm_hang1_58 : decode prog_20_method_4_code 58 = .ok (.aload_n 0, 1) := by decide +kernel
theorem d_rm_hang1_59 : decode prog_20_method_4_code 59 = .ok (.getfield 37, 3) := by decide +kernel
theorem d_rm_hang1_62 : decode prog_20_method_4_code 62 = .ok (.iload_n 3, 1) := by decide +kernel
theorem d_rm_hang1_63 : decode prog_20_method_4_code 63 = .ok (.iaload, 1) := by decide +kernel
theorem d_rm_hang1_64 : decode prog_20_method_4_code 64 = .ok (.iload_n 2, 1) := by decide +kernel
theorem d_rm_hang1_65 : decode prog_20_method_4_code 65 = .ok (.iastore, 1) := by decide +kernel
theorem d_rm_hang1_66 : decode prog_20_method_4_code 66 = .ok (.aload_n 0, 1) := by decide +kernel
theorem d_rm_hang1_67 : decode prog_20_method_4_code 67 = .ok (.getfield 37, 3) := by decide +kernel
theorem d_rm_hang1_70 : decode prog_20_method_4_code 70 = .ok (.iload_n 3, 1) := by decide +kernel
theorem d_rm_hang1_71 : decode prog_20_method_4_code 71 = .ok (.iload_n 2, 1) := by decide +kernel
theorem d_rm_hang1_72 : decode prog_20_method_4_code 72 = .ok (.iastore, 1) := by decide +kernel
theorem d_rm_hang1_73 : decode prog_20_method_4_code 73 = .ok (.aload_n 0, 1) := by decide +kernel
theorem d_rm_hang1_74 : decode prog_20_method_4_code 74 = .ok (.dup, 1) := by decide +kernel
theorem d_rm_hang1_75 : decode prog_20_method_4_code 75 = .ok (.getfield 16, 3) := by decide +kernel
theorem d_rm_hang1_78 : decode prog_20_method_4_code 78 = .ok (.iconst 1, 1) := by decide +kernel
theorem d_rm_hang1_79 : decode prog_20_method_4_code 79 = .ok (.iadd, 1) := by decide +kernel
theorem d_rm_hang1_80 : decode prog_20_method_4_code 80 = .ok (.putfield 16, 3) := by decide +kernel
theorem d_rm_hang1_83 : decode prog_20_method_4_code 83 = .ok (.aload_n 0, 1) := by decide +kernel
theorem d_rm_hang1_84 : decode prog_20_method_4_code 84 = .ok (.dup, 1) := by decide +kernel
theorem d_rm_hang1_85 : decode prog_20_method_4_code 85 = .ok (.getfield 105, 3) := by decide +kernel
theorem d_rm_hang1_88 : decode prog_20_method_4_code 88 = .ok (.lconst 1, 1) := by decide +kernel
theorem d_rm_hang1_89 : decode prog_20_method_4_code 89 = .ok (.ladd, 1) := by decide +kernel
theorem d_rm_hang1_90 : decode prog_20_method_4_code 90 = .ok (.putfield 105, 3) := by decide +kernel
theorem d_rm_hang1_93 : decode prog_20_method_4_code 93 = .ok (.aload_n 0, 1) := by decide +kernel
theorem d_rm_hang1_94 : decode prog_20_method_4_code 94 = .ok (.iload_n 3, 1) := by decide +kernel
theorem d_rm_hang1_95 : decode prog_20_method_4_code 95 = .ok (.iconst 1, 1) := by decide +kernel
theorem d_rm_hang1_96 : decode prog_20_method_4_code 96 = .ok (.invokevirtual 109, 3) := by decide +kernel
theorem d_rm_hang1_99 : decode prog_20_method_4_code 99 = .ok (.aload_n 0, 1) := by decide +kernel
theorem d_rm_hang1_100 : decode prog_20_method_4_code 100 = .ok (.getfield 113, 3) := by decide +kernel
theorem d_rm_hang1_103 : decode prog_20_method_4_code 103 = .ok (.ifnull 16, 3) := by decide +kernel
theorem d_rm_hang1_119 : decode prog_20_method_4_code 119 = .ok (.return_, 1) := by decide +kernel
set_option maxHeartbeats 4000000 in
theorem ef_rm_hang1 (m : MethodId) (x0 : Addr) (x1 : Addr)  : entryFrame m #[(.ref x0), (.ref x1)] 4 = mkF m 0 #[.val (.ref x0), .val (.ref x1), .unset, .unset] [] := by first | (simp [entryFrame, mkF, argsToLocals, catR, catN, catI, catJ]; done) | rfl
set_option maxRecDepth 65536 in
set_option maxHeartbeats 40000000 in
theorem rm_hang1 (l : Launch) (Z : State) (a0 : Array Value) (hw : ∀ d ∈ tables_1, d.before a0 Z = true) (ws : List Jvm.Cond) (tx ax la : Addr) (cK : ClassId) (r tl : Int32) (v0 v1 v2 v3 v4 : Value) (h0 : Heap) (n0 : Nat) (Z0 : n0 ≤ h0.size) (O : Old Z n0 h0) (FL : HLam.Lam Z cK la) (T0 : HTr Z h0 n0 tx la r v0 v1 v2 v3 v4) (Ea : Exa Z h0 ax "com/example/copse/copse/Arc") (Fh : Fld Z h0 ax "com/example/copse/copse/Arc" "head" "I" (.int (1 : Int32))) (Ft : Fld Z h0 ax "com/example/copse/copse/Arc" "tail" "I" (.int tl)) (htl : ¬ tl < 0 ∧ tl < 5) :
    Pays l Z (⟨"com/example/copse/copse/HangingTree", "hang", "(Lcom/example/copse/copse/Arc;)V"⟩ : MethodName) prog_20_method_4_code 4 none ws ({ frames := 2, cells := 0, slots := 0, locals := 27 } : Room) #[(.ref tx), (.ref ax)] h0 (fun v h L => v = none ∧ Fr n0 L ∧ Old Z n0 h ∧ HTr Z h n0 tx la r v0 (.ref ax) v2 v3 v4) := by
  refine Pays.of (plainFor_of_name (by first | (simp [plainName, overriddenIn]; done) | decide +kernel)) ?_
  intro p e s m below meth c s₁ hx hby hml hown hnm hret hlk hZ e0 X0
  have N0 := Fr.nil n0
  have K0 : Keep h0 h0 [] := Keep.refl _ _
  refine Goes.go (U' := (s₁.setTop (mkF m 0 #[sR_ tx, sR_ ax, sU_, sU_] []))) (fun t kt => castTop (ef_rm_hang1 m tx ax) kt) ?_
  obtain ⟨ho, ch, fc, ns, ps, tu, kh, sz, cg, Et, Ft_size, Ft_root, Ft_hangsOn, Ft_children, Ft_firstChild, Ft_nextSibling, Ft_previousSibling, Ft_twinned, Ft_turns, Ft_changes, Ft_forest, Vh, Btu, Bns, Bfc, Bps, Bch, Ov, ⟨o_tx, o_ho, o_ch, o_fc, o_ns, o_ps, o_tu⟩, ⟨n_fc_ns, n_fc_ps, n_fc_ch, n_ns_ps, n_ns_ch, n_ps_ch⟩⟩ := id T0
  refine Goes.go (U' := (s₁.setTop (mkF m 1 #[sR_ tx, sR_ ax, sU_, sU_] [(.ref ax)]))) (fun t kt => ?_) ?_
  · skip
    refine XS.aloadN X0.here hx rfl (hb hby d_rm_hang1_0) rfl rfl ?_
    exact kt
  obtain ⟨v_1, T_1, L_1, X_1, q_1, st_1⟩ := callVirtual X0 hx hZ (y := (⟨"com/example/copse/copse/Arc", "head", "()I"⟩ : MethodName)) (z := (⟨"com/example/copse/copse/Arc", "head", "()I"⟩ : MethodName)) (W := 0) hown (wdOf hw 197 rfl) (wdOf hw 198 rfl) (notFace_of_selects (args := #[]) (mvT hZ (wdOf hw 200 rfl))) (wdOf hw 200 rfl) (wdOf hw 199 rfl) (wdOf hw 176 rfl) (wdOf hw 201 rfl) (by decide) (rm_head l Z a0 hw [] ax (1 : Int32) h0 n0 Z0 Fh) (by decide) (by decide) (by decide) (by decide) e0 Ea (g := (mkF m 1 #[sR_ tx, sR_ ax, sU_, sU_] [(.ref ax)])) rfl (by rw [hml]; rfl) (argsL := []) (rest := []) (lenOf pd_6 rfl) rfl rfl (Nat.le_refl _) (hb hby d_rm_hang1_1)
  obtain ⟨rfl, n_1, K_1⟩ := q_1
  have N_1 := Fr.app N0 n_1
  refine Goes.go (U' := (T_1.setTop (mkF m 4 #[sR_ tx, sR_ ax, sU_, sU_] [(.int (1 : Int32))]))) st_1 ?_
  refine Goes.go (U' := (T_1.setTop (mkF m 6 #[sR_ tx, sR_ ax, sI_ (1 : Int32), sU_] [(.ref ax)]))) (fun t kt => ?_) ?_
  · skip
    refine XS.istoreN X_1.here hx rfl (hb hby d_rm_hang1_4) rfl (l' := #[sR_ tx, sR_ ax, sI_ (1 : Int32), sU_]) rfl ?_
    refine XS.aloadN X_1.here hx rfl (hb hby d_rm_hang1_5) rfl rfl ?_
    exact kt
  obtain ⟨v_2, T_2, L_2, X_2, q_2, st_2⟩ := callVirtual X_1 hx hZ (y := (⟨"com/example/copse/copse/Arc", "tail", "()I"⟩ : MethodName)) (z := (⟨"com/example/copse/copse/Arc", "tail", "()I"⟩ : MethodName)) (W := 0) hown (wdOf hw 202 rfl) (wdOf hw 203 rfl) (notFace_of_selects (args := #[]) (mvT hZ (wdOf hw 205 rfl))) (wdOf hw 205 rfl) (wdOf hw 204 rfl) (wdOf hw 176 rfl) (wdOf hw 206 rfl) (by decide) (rm_tail l Z a0 hw [] ax tl h0 n0 Z0 Ft) (by decide) (by decide) (by decide) (by decide) K_1 Ea (g := (mkF m 6 #[sR_ tx, sR_ ax, sI_ (1 : Int32), sU_] [(.ref ax)])) rfl (by rw [hml]; rfl) (argsL := []) (rest := []) (lenOf pd_6 rfl) rfl rfl (Nat.le_refl _) (hb hby d_rm_hang1_6)
  obtain ⟨rfl, n_2, K_2⟩ := q_2
  have N_2 := Fr.app N_1 n_2
  refine Goes.go (U' := (T_2.setTop (mkF m 9 #[sR_ tx, sR_ ax, sI_ (1 : Int32), sU_] [(.int tl)]))) st_2 ?_
  refine Goes.go (U' := (T_2.setTop (mkF m 11 #[sR_ tx, sR_ ax, sI_ (1 : Int32), sI_ tl] [(.ref tx)]))) (fun t kt => ?_) ?_
  · skip
    refine XS.istoreN X_2.here hx rfl (hb hby d_rm_hang1_9) rfl (l' := #[sR_ tx, sR_ ax, sI_ (1 : Int32), sI_ tl]) rfl ?_
    refine XS.aloadN X_2.here hx rfl (hb hby d_rm_hang1_10) rfl rfl ?_
    exact kt
  obtain ⟨T_3, X_3, e_3, st_3⟩ := getF X_2 hx hZ hown (host := "") (Or.inl (wdOf hw 84 rfl)) Via.refl K_2 Ft_hangsOn (g := (mkF m 11 #[sR_ tx, sR_ ax, sI_ (1 : Int32), sI_ tl] [(.ref tx)])) rfl rfl (hb hby d_rm_hang1_11)
  refine Goes.go (U' := (T_3.setTop (mkF m 14 #[sR_ tx, sR_ ax, sI_ (1 : Int32), sI_ tl] [(.ref ho)]))) st_3 ?_
  refine Goes.go (U' := (T_3.setTop (mkF m 16 #[sR_ tx, sR_ ax, sI_ (1 : Int32), sI_ tl] [(.ref ax), (.int (1 : Int32)), (.ref ho)]))) (fun t kt => ?_) ?_
  · skip
    refine XS.iloadN X_3.here hx rfl (hb hby d_rm_hang1_14) rfl ?_
    refine XS.aloadN X_3.here hx rfl (hb hby d_rm_hang1_15) rfl rfl ?_
    exact kt
  obtain ⟨cl_4, Ar_4, q_4, S_4, M_4, H_4, G_4⟩ := id Vh
  have hin_4 : ¬ ((1 : Int32) < 0 ∨ cl_4.slots.size ≤ ((1 : Int32)).toNatClampNeg) := inb_of S_4 ⟨by decide, by decide⟩
  obtain ⟨T_4, h_4, X_4, e_4, W_4, st_4⟩ := stR X_3 hx hZ e_3 Ar_4 (j := (1 : Int32)) hin_4 rfl (Sto.of Ar_4 (q_4 ▸ Ov) (Ins.self Ea)) (g := (mkF m 16 #[sR_ tx, sR_ ax, sI_ (1 : Int32), sI_ tl] [(.ref ax), (.int (1 : Int32)), (.ref ho)])) rfl rfl (hb hby d_rm_hang1_16)
  have V_4 : Arv Z h_4 ho kh (.object "com/example/copse/copse/Arc") (5 : Int32) [v0, (.ref ax), v2, v3, v4] .null := Arv.set Ar_4 q_4 S_4 M_4 H_4 G_4 rfl W_4 1 rfl (Nat.le_of_ble_eq_true rfl)
  have N_4 := Fr.snoc X_4 N_2 o_ho
  have f_5 := O.wr W_4 o_ho
  have f_6 := Ea.wr W_4
  have f_7 := Et.wr W_4
  have f_8 := Ft_size.other W_4 (Or.inl (Et.neArv Vh (wdOf hw 66 rfl)))
  have f_9 := Ft_root.other W_4 (Or.inl (Et.neArv Vh (wdOf hw 66 rfl)))
  have f_10 := Ft_hangsOn.other W_4 (Or.inl (Et.neArv Vh (wdOf hw 66 rfl)))
  have f_11 := Ft_children.other W_4 (Or.inl (Et.neArv Vh (wdOf hw 66 rfl)))
  have f_12 := Ft_firstChild.other W_4 (Or.inl (Et.neArv Vh (wdOf hw 66 rfl)))
  have f_13 := Ft_nextSibling.other W_4 (Or.inl (Et.neArv Vh (wdOf hw 66 rfl)))
  have f_14 := Ft_previousSibling.other W_4 (Or.inl (Et.neArv Vh (wdOf hw 66 rfl)))
  have f_15 := Ft_twinned.other W_4 (Or.inl (Et.neArv Vh (wdOf hw 66 rfl)))
  have f_16 := Ft_turns.other W_4 (Or.inl (Et.neArv Vh (wdOf hw 66 rfl)))
  have f_17 := Ft_changes.other W_4 (Or.inl (Et.neArv Vh (wdOf hw 66 rfl)))
  have f_18 := Ft_forest.other W_4 (Or.inl (Et.neArv Vh (wdOf hw 66 rfl)))
  have f_20 := Btu.other W_4 (Ne.symm (Vh.neBar Btu nofun))
  have f_21 := Bns.other W_4 (Ne.symm (Vh.neBar Bns nofun))
  have f_22 := Bfc.other W_4 (Ne.symm (Vh.neBar Bfc nofun))
  have f_23 := Bps.other W_4 (Ne.symm (Vh.neBar Bps nofun))
  have f_24 := Bch.other W_4 (Ne.symm (Vh.neBar Bch nofun))
  have y_25 : n0 ≤ h_4.size := Nat.le_trans (Nat.le_of_eq f_5.1.symm) f_5.2.1
  refine Goes.go (U' := (T_4.setTop (mkF m 17 #[sR_ tx, sR_ ax, sI_ (1 : Int32), sI_ tl] []))) st_4 ?_
  refine Goes.go (U' := (T_4.setTop (mkF m 18 #[sR_ tx, sR_ ax, sI_ (1 : Int32), sI_ tl] [(.ref tx)]))) (fun t kt => ?_) ?_
  · skip
    refine XS.aloadN X_4.here hx rfl (hb hby d_rm_hang1_17) rfl rfl ?_
    exact kt
  obtain ⟨T_26, X_26, e_26, st_26⟩ := getF X_4 hx hZ hown (host := "") (Or.inl (wdOf hw 100 rfl)) Via.refl e_4 f_16 (g := (mkF m 18 #[sR_ tx, sR_ ax, sI_ (1 : Int32), sI_ tl] [(.ref tx)])) rfl rfl (hb hby d_rm_hang1_18)
  refine Goes.go (U' := (T_26.setTop (mkF m 21 #[sR_ tx, sR_ ax, sI_ (1 : Int32), sI_ tl] [(.ref tu)]))) st_26 ?_
  refine Goes.go (U' := (T_26.setTop (mkF m 23 #[sR_ tx, sR_ ax, sI_ (1 : Int32), sI_ tl] [(.ref tx), (.int (1 : Int32)), (.ref tu)]))) (fun t kt => ?_) ?_
  · skip
    refine XS.iloadN X_26.here hx rfl (hb hby d_rm_hang1_21) rfl ?_
    refine XS.aloadN X_26.here hx rfl (hb hby d_rm_hang1_22) rfl rfl ?_
    exact kt
  obtain ⟨T_27, X_27, e_27, st_27⟩ := getF X_26 hx hZ hown (host := "") (Or.inl (wdOf hw 98 rfl)) Via.refl e_26 f_15 (g := (mkF m 23 #[sR_ tx, sR_ ax, sI_ (1 : Int32), sI_ tl] [(.ref tx), (.int (1 : Int32)), (.ref tu)])) rfl rfl (hb hby d_rm_hang1_23)
  refine Goes.go (U' := (T_27.setTop (mkF m 26 #[sR_ tx, sR_ ax, sI_ (1 : Int32), sI_ tl] [(.ref la), (.int (1 : Int32)), (.ref tu)]))) st_27 ?_
  refine Goes.go (U' := (T_27.setTop (mkF m 27 #[sR_ tx, sR_ ax, sI_ (1 : Int32), sI_ tl] [(.ref ax), (.ref la), (.int (1 : Int32)), (.ref tu)]))) (fun t kt => ?_) ?_
  · skip
    refine XS.aloadN X_27.here hx rfl (hb hby d_rm_hang1_26) rfl rfl ?_
    exact kt
  obtain ⟨T_28, X_28, e_28, st_28⟩ := HLam.Lam.call FL X_27 hx hZ hown (wdOf hw 208 rfl) (wdOf hw 209 rfl) (wdOf hw 210 rfl) (wdOf hw 212 rfl) (wdOf hw 211 rfl) (wdOf hw 67 rfl) (wdOf hw 207 rfl) (z := 0) rfl (rm_lb l Z a0 hw [] ax h_4 n0 y_25) f_6 e_27 f_5.2 (g := (mkF m 27 #[sR_ tx, sR_ ax, sI_ (1 : Int32), sI_ tl] [(.ref ax), (.ref la), (.int (1 : Int32)), (.ref tu)])) rfl (by rw [hml]; rfl) (rest := [(.int (1 : Int32)), (.ref tu)]) rfl (W := 2) (Nat.le_refl _) (hb hby d_rm_hang1_27) (by decide) (by decide) (by decide) (by decide)
  refine Goes.go (U' := (T_28.setTop (mkF m 32 #[sR_ tx, sR_ ax, sI_ (1 : Int32), sI_ tl] [(.int (0 : Int32)), (.int (1 : Int32)), (.ref tu)]))) st_28 ?_
  obtain ⟨cl_29, Ar_29, S_29, H_29⟩ := id f_20
  have hin_29 : ¬ ((1 : Int32) < 0 ∨ cl_29.slots.size ≤ ((1 : Int32)).toNatClampNeg) := inb_of S_29 ⟨by decide, by decide⟩
  obtain ⟨T_29, h_29, X_29, e_29, W_29, st_29⟩ := stZ X_28 hx hZ e_28 Ar_29 (j := (1 : Int32)) hin_29 (g := (mkF m 32 #[sR_ tx, sR_ ax, sI_ (1 : Int32), sI_ tl] [(.int (0 : Int32)), (.int (1 : Int32)), (.ref tu)])) rfl rfl (hb hby d_rm_hang1_32)
  have B_29 : Bar Z h_29 tu .boolean IntP := Bar.set Ar_29 S_29 H_29 W_29 (IntP.mk _)
  have N_29 := Fr.snoc X_29 N_4 o_tu
  have f_30 := f_5.wr W_29 o_tu
  have f_31 := f_6.wr W_29
  have f_32 := f_7.wr W_29
  have f_33 := f_8.other W_29 (Or.inl (f_7.neBar f_20 (wdOf hw 66 rfl)))
  have f_34 := f_9.other W_29 (Or.inl (f_7.neBar f_20 (wdOf hw 66 rfl)))
  have f_35 := f_10.other W_29 (Or.inl (f_7.neBar f_20 (wdOf hw 66 rfl)))
  have f_36 := f_11.other W_29 (Or.inl (f_7.neBar f_20 (wdOf hw 66 rfl)))
  have f_37 := f_12.other W_29 (Or.inl (f_7.neBar f_20 (wdOf hw 66 rfl)))
  have f_38 := f_13.other W_29 (Or.inl (f_7.neBar f_20 (wdOf hw 66 rfl)))
  have f_39 := f_14.other W_29 (Or.inl (f_7.neBar f_20 (wdOf hw 66 rfl)))
  have f_40 := f_15.other W_29 (Or.inl (f_7.neBar f_20 (wdOf hw 66 rfl)))
  have f_41 := f_16.other W_29 (Or.inl (f_7.neBar f_20 (wdOf hw 66 rfl)))
  have f_42 := f_17.other W_29 (Or.inl (f_7.neBar f_20 (wdOf hw 66 rfl)))
  have f_43 := f_18.other W_29 (Or.inl (f_7.neBar f_20 (wdOf hw 66 rfl)))
  have f_45 := f_21.other W_29 (f_21.neT f_20 nofun)
  have f_46 := f_22.other W_29 (f_22.neT f_20 nofun)
  have f_47 := f_23.other W_29 (f_23.neT f_20 nofun)
  have f_48 := f_24.other W_29 (f_24.neT f_20 nofun)
  have f_49 := V_4.other W_29 (V_4.neBar f_20 nofun)
  have y_50 : n0 ≤ h_29.size := Nat.le_trans (Nat.le_of_eq f_30.1.symm) f_30.2.1
  refine Goes.go (U' := (T_29.setTop (mkF m 33 #[sR_ tx, sR_ ax, sI_ (1 : Int32), sI_ tl] []))) st_29 ?_
  refine Goes.go (U' := (T_29.setTop (mkF m 34 #[sR_ tx, sR_ ax, sI_ (1 : Int32), sI_ tl] [(.ref tx)]))) (fun t kt => ?_) ?_
  · skip
    refine XS.aloadN X_29.here hx rfl (hb hby d_rm_hang1_33) rfl rfl ?_
    exact kt
  obtain ⟨T_51, X_51, e_51, st_51⟩ := getF X_29 hx hZ hown (host := "") (Or.inl (wdOf hw 94 rfl)) Via.refl e_29 f_38 (g := (mkF m 34 #[sR_ tx, sR_ ax, sI_ (1 : Int32), sI_ tl] [(.ref tx)])) rfl rfl (hb hby d_rm_hang1_34)
  refine Goes.go (U' := (T_51.setTop (mkF m 37 #[sR_ tx, sR_ ax, sI_ (1 : Int32), sI_ tl] [(.ref ns)]))) st_51 ?_
  refine Goes.go (U' := (T_51.setTop (mkF m 39 #[sR_ tx, sR_ ax, sI_ (1 : Int32), sI_ tl] [(.ref tx), (.int (1 : Int32)), (.ref ns)]))) (fun t kt => ?_) ?_
  · skip
    refine XS.iloadN X_51.here hx rfl (hb hby d_rm_hang1_37) rfl ?_
    refine XS.aloadN X_51.here hx rfl (hb hby d_rm_hang1_38) rfl rfl ?_
    exact kt
  obtain ⟨T_52, X_52, e_52, st_52⟩ := getF X_51 hx hZ hown (host := "") (Or.inl (wdOf hw 92 rfl)) Via.refl e_51 f_37 (g := (mkF m 39 #[sR_ tx, sR_ ax, sI_ (1 : Int32), sI_ tl] [(.ref tx), (.int (1 : Int32)), (.ref ns)])) rfl rfl (hb hby d_rm_hang1_39)
  refine Goes.go (U' := (T_52.setTop (mkF m 42 #[sR_ tx, sR_ ax, sI_ (1 : Int32), sI_ tl] [(.ref fc), (.int (1 : Int32)), (.ref ns)]))) st_52 ?_
  refine Goes.go (U' := (T_52.setTop (mkF m 43 #[sR_ tx, sR_ ax, sI_ (1 : Int32), sI_ tl] [(.int tl), (.ref fc), (.int (1 : Int32)), (.ref ns)]))) (fun t kt => ?_) ?_
  · skip
    refine XS.iloadN X_52.here hx rfl (hb hby d_rm_hang1_42) rfl ?_
    exact kt
  obtain ⟨cl_53, Ar_53, S_53, H_53⟩ := id f_46
  have hin_53 : ¬ (tl < 0 ∨ cl_53.slots.size ≤ (tl).toNatClampNeg) := inb_of S_53 htl
  obtain ⟨_, hat_53, i_53, rfl, bd_53⟩ := Bar.at H_53 hin_53
  refine Goes.go (U' := (T_52.setTop (mkF m 44 #[sR_ tx, sR_ ax, sI_ (1 : Int32), sI_ tl] [(.int i_53), (.int (1 : Int32)), (.ref ns)]))) (fun t kt => ?_) ?_
  · skip
    refine X_52.iaload hx (j := tl) (v := (.int i_53)) (by rw [e_52]; exact Ar_53.1) (State.isArrayOf_alike hZ.alike Ar_53.2.1) Ar_53.2.2 hin_53 hat_53 (g := (mkF m 43 #[sR_ tx, sR_ ax, sI_ (1 : Int32), sI_ tl] [(.int tl), (.ref fc), (.int (1 : Int32)), (.ref ns)])) rfl rfl (hb hby d_rm_hang1_43) _ ?_
    exact kt
  obtain ⟨cl_54, Ar_54, S_54, H_54⟩ := id f_45
  have hin_54 : ¬ ((1 : Int32) < 0 ∨ cl_54.slots.size ≤ ((1 : Int32)).toNatClampNeg) := inb_of S_54 ⟨by decide, by decide⟩
  obtain ⟨T_54, h_54, X_54, e_54, W_54, st_54⟩ := stI X_52 hx hZ e_52 Ar_54 (j := (1 : Int32)) hin_54 (g := (mkF m 44 #[sR_ tx, sR_ ax, sI_ (1 : Int32), sI_ tl] [(.int i_53), (.int (1 : Int32)), (.ref ns)])) rfl rfl (hb hby d_rm_hang1_44)
  have B_54 : Bar Z h_54 ns .int IntP := Bar.set Ar_54 S_54 H_54 W_54 (IntP.mk _)
  have N_54 := Fr.snoc X_54 N_29 o_ns
  have f_55 := f_30.wr W_54 o_ns
  have f_56 := f_31.wr W_54
  have f_57 := f_32.wr W_54
  have f_58 := f_33.other W_54 (Or.inl (f_32.neBar f_45 (wdOf hw 66 rfl)))
  have f_59 := f_34.other W_54 (Or.inl (f_32.neBar f_45 (wdOf hw 66 rfl)))
  have f_60 := f_35.other W_54 (Or.inl (f_32.neBar f_45 (wdOf hw 66 rfl)))
  have f_61 := f_36.other W_54 (Or.inl (f_32.neBar f_45 (wdOf hw 66 rfl)))
  have f_62 := f_37.other W_54 (Or.inl (f_32.neBar f_45 (wdOf hw 66 rfl)))
  have f_63 := f_38.other W_54 (Or.inl (f_32.neBar f_45 (wdOf hw 66 rfl)))
  have f_64 := f_39.other W_54 (Or.inl (f_32.neBar f_45 (wdOf hw 66 rfl)))
  have f_65 := f_40.other W_54 (Or.inl (f_32.neBar f_45 (wdOf hw 66 rfl)))
  have f_66 := f_41.other W_54 (Or.inl (f_32.neBar f_45 (wdOf hw 66 rfl)))
  have f_67 := f_42.other W_54 (Or.inl (f_32.neBar f_45 (wdOf hw 66 rfl)))
  have f_68 := f_43.other W_54 (Or.inl (f_32.neBar f_45 (wdOf hw 66 rfl)))
  have f_70 := f_46.other W_54 n_fc_ns
  have f_71 := f_47.other W_54 (Ne.symm n_ns_ps)
  have f_72 := f_48.other W_54 (Ne.symm n_ns_ch)
  have f_73 := f_49.other W_54 (f_49.neBar f_45 nofun)
  have f_74 := B_29.other W_54 (B_29.neT f_45 nofun)
  have y_75 : n0 ≤ h_54.size := Nat.le_trans (Nat.le_of_eq f_55.1.symm) f_55.2.1
  refine Goes.go (U' := (T_54.setTop (mkF m 45 #[sR_ tx, sR_ ax, sI_ (1 : Int32), sI_ tl] []))) st_54 ?_
  refine Goes.go (U' := (T_54.setTop (mkF m 46 #[sR_ tx, sR_ ax, sI_ (1 : Int32), sI_ tl] [(.ref tx)]))) (fun t kt => ?_) ?_
  · skip
    refine XS.aloadN X_54.here hx rfl (hb hby d_rm_hang1_45) rfl rfl ?_
    exact kt
  obtain ⟨T_76, X_76, e_76, st_76⟩ := getF X_54 hx hZ hown (host := "") (Or.inl (wdOf hw 92 rfl)) Via.refl e_54 f_62 (g := (mkF m 46 #[sR_ tx, sR_ ax, sI_ (1 : Int32), sI_ tl] [(.ref tx)])) rfl rfl (hb hby d_rm_hang1_46)
  refine Goes.go (U' := (T_76.setTop (mkF m 49 #[sR_ tx, sR_ ax, sI_ (1 : Int32), sI_ tl] [(.ref fc)]))) st_76 ?_
  refine Goes.go (U' := (T_76.setTop (mkF m 50 #[sR_ tx, sR_ ax, sI_ (1 : Int32), sI_ tl] [(.int tl), (.ref fc)]))) (fun t kt => ?_) ?_
  · skip
    refine XS.iloadN X_76.here hx rfl (hb hby d_rm_hang1_49) rfl ?_
    exact kt
  obtain ⟨cl_77, Ar_77, S_77, H_77⟩ := id f_70
  have hin_77 : ¬ (tl < 0 ∨ cl_77.slots.size ≤ (tl).toNatClampNeg) := inb_of S_77 htl
  obtain ⟨_, hat_77, i_77, rfl, bd_77⟩ := Bar.at H_77 hin_77
  refine Goes.go (U' := (T_76.setTop (mkF m 51 #[sR_ tx, sR_ ax, sI_ (1 : Int32), sI_ tl] [(.int i_77)]))) (fun t kt => ?_) ?_
  · skip
    refine X_76.iaload hx (j := tl) (v := (.int i_77)) (by rw [e_76]; exact Ar_77.1) (State.isArrayOf_alike hZ.alike Ar_77.2.1) Ar_77.2.2 hin_77 hat_77 (g := (mkF m 50 #[sR_ tx, sR_ ax, sI_ (1 : Int32), sI_ tl] [(.int tl), (.ref fc)])) rfl rfl (hb hby d_rm_hang1_50) _ ?_
    exact kt
  by_cases cf : i_77 = 0
  · -- i_77 = 0
    refine Goes.go (U' := (T_76.setTop (mkF m 67 #[sR_ tx, sR_ ax, sI_ (1 : Int32), sI_ tl] [(.ref tx)]))) (fun t kt => ?_) ?_
    · skip
      refine XS.ifYes X_76.here hx rfl (pc0 := 51) (pc' := 66) rfl (hb hby d_rm_hang1_51) rfl (XT.i0_eq_t cf) (by decide) (by decide) ?_
      refine XS.aloadN X_76.here hx rfl (hb hby d_rm_hang1_66) rfl rfl ?_
      exact kt
    obtain ⟨T_78, X_78, e_78, st_78⟩ := getF X_76 hx hZ hown (host := "") (Or.inl (wdOf hw 92 rfl)) Via.refl e_76 f_62 (g := (mkF m 67 #[sR_ tx, sR_ ax, sI_ (1 : Int32), sI_ tl] [(.ref tx)])) rfl rfl (hb hby d_rm_hang1_67)
    refine Goes.go (U' := (T_78.setTop (mkF m 70 #[sR_ tx, sR_ ax, sI_ (1 : Int32), sI_ tl] [(.ref fc)]))) st_78 ?_
    refine Goes.go (U' := (T_78.setTop (mkF m 72 #[sR_ tx, sR_ ax, sI_ (1 : Int32), sI_ tl] [(.int (1 : Int32)), (.int tl), (.ref fc)]))) (fun t kt => ?_) ?_
    · skip
      refine XS.iloadN X_78.here hx rfl (hb hby d_rm_hang1_70) rfl ?_
      refine XS.iloadN X_78.here hx rfl (hb hby d_rm_hang1_71) rfl ?_
      exact kt
    obtain ⟨cl_79, Ar_79, S_79, H_79⟩ := id f_70
    have hin_79 : ¬ (tl < 0 ∨ cl_79.slots.size ≤ (tl).toNatClampNeg) := inb_of S_79 htl
    obtain ⟨T_79, h_79, X_79, e_79, W_79, st_79⟩ := stI X_78 hx hZ e_78 Ar_79 (j := tl) hin_79 (g := (mkF m 72 #[sR_ tx, sR_ ax, sI_ (1 : Int32), sI_ tl] [(.int (1 : Int32)), (.int tl), (.ref fc)])) rfl rfl (hb hby d_rm_hang1_72)
    have B_79 : Bar Z h_79 fc .int IxP := Bar.set Ar_79 S_79 H_79 W_79 ⟨_, rfl, by decide, by decide⟩
    have N_79 := Fr.snoc X_79 N_54 o_fc
    have f_80 := f_55.wr W_79 o_fc
    have f_81 := f_56.wr W_79
    have f_82 := f_57.wr W_79
    have f_83 := f_58.other W_79 (Or.inl (f_57.neBar f_70 (wdOf hw 66 rfl)))
    have f_84 := f_59.other W_79 (Or.inl (f_57.neBar f_70 (wdOf hw 66 rfl)))
    have f_85 := f_60.other W_79 (Or.inl (f_57.neBar f_70 (wdOf hw 66 rfl)))
    have f_86 := f_61.other W_79 (Or.inl (f_57.neBar f_70 (wdOf hw 66 rfl)))
    have f_87 := f_62.other W_79 (Or.inl (f_57.neBar f_70 (wdOf hw 66 rfl)))
    have f_88 := f_63.other W_79 (Or.inl (f_57.neBar f_70 (wdOf hw 66 rfl)))
    have f_89 := f_64.other W_79 (Or.inl (f_57.neBar f_70 (wdOf hw 66 rfl)))
    have f_90 := f_65.other W_79 (Or.inl (f_57.neBar f_70 (wdOf hw 66 rfl)))
    have f_91 := f_66.other W_79 (Or.inl (f_57.neBar f_70 (wdOf hw 66 rfl)))
    have f_92 := f_67.other W_79 (Or.inl (f_57.neBar f_70 (wdOf hw 66 rfl)))
    have f_93 := f_68.other W_79 (Or.inl (f_57.neBar f_70 (wdOf hw 66 rfl)))
    have f_95 := f_71.other W_79 (Ne.symm n_fc_ps)
    have f_96 := f_72.other W_79 (Ne.symm n_fc_ch)
    have f_97 := f_73.other W_79 (f_73.neBar f_70 nofun)
    have f_98 := f_74.other W_79 (f_74.neT f_70 nofun)
    have f_99 := B_54.other W_79 (Ne.symm n_fc_ns)
    have y_100 : n0 ≤ h_79.size := Nat.le_trans (Nat.le_of_eq f_80.1.symm) f_80.2.1
    refine Goes.go (U' := (T_79.setTop (mkF m 73 #[sR_ tx, sR_ ax, sI_ (1 : Int32), sI_ tl] []))) st_79 ?_
    refine Goes.go (U' := (T_79.setTop (mkF m 75 #[sR_ tx, sR_ ax, sI_ (1 : Int32), sI_ tl] [(.ref tx), (.ref tx)]))) (fun t kt => ?_) ?_
    · skip
      refine XS.aloadN X_79.here hx rfl (hb hby d_rm_hang1_73) rfl rfl ?_
      refine XS.dup X_79.here hx rfl (hb hby d_rm_hang1_74) rfl rfl ?_
      exact kt
    obtain ⟨T_101, X_101, e_101, st_101⟩ := getF X_79 hx hZ hown (host := "") (Or.inl (wdOf hw 78 rfl)) Via.refl e_79 f_83 (g := (mkF m 75 #[sR_ tx, sR_ ax, sI_ (1 : Int32), sI_ tl] [(.ref tx), (.ref tx)])) rfl rfl (hb hby d_rm_hang1_75)
    refine Goes.go (U' := (T_101.setTop (mkF m 78 #[sR_ tx, sR_ ax, sI_ (1 : Int32), sI_ tl] [(.int sz), (.ref tx)]))) st_101 ?_
    refine Goes.go (U' := (T_101.setTop (mkF m 80 #[sR_ tx, sR_ ax, sI_ (1 : Int32), sI_ tl] [(.int (sz + (1 : Int32))), (.ref tx)]))) (fun t kt => ?_) ?_
    · skip
      refine XS.iconst X_101.here hx rfl (hb hby d_rm_hang1_78) ?_
      refine XS.iadd X_101.here hx rfl (hb hby d_rm_hang1_79) rfl ?_
      exact kt
    obtain ⟨T_102, h_102, X_102, e_102, W_102, st_102⟩ := putF X_101 hx hZ hown (host := "") (Or.inl (wdOf hw 78 rfl)) Via.refl e_101 f_83 f_82 (Or.inl (wdOf hw 79 rfl)) (wdOf hw 66 rfl) (ty := .int) (by decide) rfl rfl (g := (mkF m 80 #[sR_ tx, sR_ ax, sI_ (1 : Int32), sI_ tl] [(.int (sz + (1 : Int32))), (.ref tx)])) rfl rfl (hb hby d_rm_hang1_80)
    have N_102 := Fr.snoc X_102 N_79 o_tx
    have f_103 := f_80.wr W_102 o_tx
    have f_104 := f_81.wr W_102
    have f_105 := f_82.wr W_102
    have f_106 := f_83.same W_102
    have f_107 := f_84.other W_102 (Or.inr (slot_ne (Or.inr (wdOf hw 81 rfl)) (Or.inl (wdOf hw 79 rfl)) (by decide) (t := .int) (t' := .int) (by decide) (by decide)))
    have f_108 := f_85.other W_102 (Or.inr (slot_ne (Or.inr (wdOf hw 85 rfl)) (Or.inl (wdOf hw 79 rfl)) (by decide) (t := (.array (.object "com/example/copse/copse/Arc"))) (t' := .int) (by decide) (by decide)))
    have f_109 := f_86.other W_102 (Or.inr (slot_ne (Or.inr (wdOf hw 88 rfl)) (Or.inl (wdOf hw 79 rfl)) (by decide) (t := (.array .int)) (t' := .int) (by decide) (by decide)))
    have f_110 := f_87.other W_102 (Or.inr (slot_ne (Or.inr (wdOf hw 93 rfl)) (Or.inl (wdOf hw 79 rfl)) (by decide) (t := (.array .int)) (t' := .int) (by decide) (by decide)))
    have f_111 := f_88.other W_102 (Or.inr (slot_ne (Or.inr (wdOf hw 95 rfl)) (Or.inl (wdOf hw 79 rfl)) (by decide) (t := (.array .int)) (t' := .int) (by decide) (by decide)))
    have f_112 := f_89.other W_102 (Or.inr (slot_ne (Or.inr (wdOf hw 97 rfl)) (Or.inl (wdOf hw 79 rfl)) (by decide) (t := (.array .int)) (t' := .int) (by decide) (by decide)))
    have f_113 := f_90.other W_102 (Or.inr (slot_ne (Or.inr (wdOf hw 99 rfl)) (Or.inl (wdOf hw 79 rfl)) (by decide) (t := (.object "java/util/function/Predicate")) (t' := .int) (by decide) (by decide)))
    have f_114 := f_91.other W_102 (Or.inr (slot_ne (Or.inr (wdOf hw 101 rfl)) (Or.inl (wdOf hw 79 rfl)) (by decide) (t := (.array .boolean)) (t' := .int) (by decide) (by decide)))
    have f_115 := f_92.other W_102 (Or.inr (slot_ne (Or.inl (wdOf hw 214 rfl)) (Or.inl (wdOf hw 79 rfl)) (by decide) (t := .long) (t' := .int) (by decide) (by decide)))
    have f_116 := f_93.other W_102 (Or.inr (slot_ne (Or.inl (wdOf hw 220 rfl)) (Or.inl (wdOf hw 79 rfl)) (by decide) (t := (.object "com/example/copse/copse/LinkCutForest")) (t' := .int) (by decide) (by decide)))
    have f_117 := f_95.other W_102 (Ne.symm (f_82.neBar f_95 (wdOf hw 66 rfl)))
    have f_118 := f_96.other W_102 (Ne.symm (f_82.neBar f_96 (wdOf hw 66 rfl)))
    have f_119 := f_97.other W_102 (Ne.symm (f_82.neArv f_97 (wdOf hw 66 rfl)))
    have f_120 := f_98.other W_102 (Ne.symm (f_82.neBar f_98 (wdOf hw 66 rfl)))
    have f_121 := f_99.other W_102 (Ne.symm (f_82.neBar f_99 (wdOf hw 66 rfl)))
    have f_122 := B_79.other W_102 (Ne.symm (f_82.neBar B_79 (wdOf hw 66 rfl)))
    have y_123 : n0 ≤ h_102.size := Nat.le_trans (Nat.le_of_eq f_103.1.symm) f_103.2.1
    refine Goes.go (U' := (T_102.setTop (mkF m 83 #[sR_ tx, sR_ ax, sI_ (1 : Int32), sI_ tl] []))) st_102 ?_
    refine Goes.go (U' := (T_102.setTop (mkF m 85 #[sR_ tx, sR_ ax, sI_ (1 : Int32), sI_ tl] [(.ref tx), (.ref tx)]))) (fun t kt => ?_) ?_
    · skip
      refine XS.aloadN X_102.here hx rfl (hb hby d_rm_hang1_83) rfl rfl ?_
      refine XS.dup X_102.here hx rfl (hb hby d_rm_hang1_84) rfl rfl ?_
      exact kt
    obtain ⟨T_124, X_124, e_124, st_124⟩ := getF X_102 hx hZ hown (host := "") (Or.inl (wdOf hw 213 rfl)) Via.refl e_102 f_115 (g := (mkF m 85 #[sR_ tx, sR_ ax, sI_ (1 : Int32), sI_ tl] [(.ref tx), (.ref tx)])) rfl rfl (hb hby d_rm_hang1_85)
    refine Goes.go (U' := (T_124.setTop (mkF m 88 #[sR_ tx, sR_ ax, sI_ (1 : Int32), sI_ tl] [(.long cg), (.ref tx)]))) st_124 ?_
    refine Goes.go (U' := (T_124.setTop (mkF m 90 #[sR_ tx, sR_ ax, sI_ (1 : Int32), sI_ tl] [(.long (cg + (1 : Int64))), (.ref tx)]))) (fun t kt => ?_) ?_
    · skip
      refine XS.lconst X_124.here hx rfl (hb hby d_rm_hang1_88) ?_
      refine XS.ladd X_124.here hx rfl (hb hby d_rm_hang1_89) rfl ?_
      exact kt
    obtain ⟨T_125, h_125, X_125, e_125, W_125, st_125⟩ := putF X_124 hx hZ hown (host := "") (Or.inl (wdOf hw 213 rfl)) Via.refl e_124 f_115 f_105 (Or.inl (wdOf hw 214 rfl)) (wdOf hw 66 rfl) (ty := .long) (by decide) rfl rfl (g := (mkF m 90 #[sR_ tx, sR_ ax, sI_ (1 : Int32), sI_ tl] [(.long (cg + (1 : Int64))), (.ref tx)])) rfl rfl (hb hby d_rm_hang1_90)
    have N_125 := Fr.snoc X_125 N_102 o_tx
    have f_126 := f_103.wr W_125 o_tx
    have f_127 := f_104.wr W_125
    have f_128 := f_105.wr W_125
    have f_129 := f_106.other W_125 (Or.inr (slot_ne (Or.inl (wdOf hw 79 rfl)) (Or.inl (wdOf hw 214 rfl)) (by decide) (t := .int) (t' := .long) (by decide) (by decide)))
    have f_130 := f_107.other W_125 (Or.inr (slot_ne (Or.inr (wdOf hw 81 rfl)) (Or.inl (wdOf hw 214 rfl)) (by decide) (t := .int) (t' := .long) (by decide) (by decide)))
    have f_131 := f_108.other W_125 (Or.inr (slot_ne (Or.inr (wdOf hw 85 rfl)) (Or.inl (wdOf hw 214 rfl)) (by decide) (t := (.array (.object "com/example/copse/copse/Arc"))) (t' := .long) (by decide) (by decide)))
    have f_132 := f_109.other W_125 (Or.inr (slot_ne (Or.inr (wdOf hw 88 rfl)) (Or.inl (wdOf hw 214 rfl)) (by decide) (t := (.array .int)) (t' := .long) (by decide) (by decide)))
    have f_133 := f_110.other W_125 (Or.inr (slot_ne (Or.inr (wdOf hw 93 rfl)) (Or.inl (wdOf hw 214 rfl)) (by decide) (t := (.array .int)) (t' := .long) (by decide) (by decide)))
    have f_134 := f_111.other W_125 (Or.inr (slot_ne (Or.inr (wdOf hw 95 rfl)) (Or.inl (wdOf hw 214 rfl)) (by decide) (t := (.array .int)) (t' := .long) (by decide) (by decide)))
    have f_135 := f_112.other W_125 (Or.inr (slot_ne (Or.inr (wdOf hw 97 rfl)) (Or.inl (wdOf hw 214 rfl)) (by decide) (t := (.array .int)) (t' := .long) (by decide) (by decide)))
    have f_136 := f_113.other W_125 (Or.inr (slot_ne (Or.inr (wdOf hw 99 rfl)) (Or.inl (wdOf hw 214 rfl)) (by decide) (t := (.object "java/util/function/Predicate")) (t' := .long) (by decide) (by decide)))
    have f_137 := f_114.other W_125 (Or.inr (slot_ne (Or.inr (wdOf hw 101 rfl)) (Or.inl (wdOf hw 214 rfl)) (by decide) (t := (.array .boolean)) (t' := .long) (by decide) (by decide)))
    have f_138 := f_115.same W_125
    have f_139 := f_116.other W_125 (Or.inr (slot_ne (Or.inl (wdOf hw 220 rfl)) (Or.inl (wdOf hw 214 rfl)) (by decide) (t := (.object "com/example/copse/copse/LinkCutForest")) (t' := .long) (by decide) (by decide)))
    have f_140 := f_117.other W_125 (Ne.symm (f_105.neBar f_117 (wdOf hw 66 rfl)))
    have f_141 := f_118.other W_125 (Ne.symm (f_105.neBar f_118 (wdOf hw 66 rfl)))
    have f_142 := f_119.other W_125 (Ne.symm (f_105.neArv f_119 (wdOf hw 66 rfl)))
    have f_143 := f_120.other W_125 (Ne.symm (f_105.neBar f_120 (wdOf hw 66 rfl)))
    have f_144 := f_121.other W_125 (Ne.symm (f_105.neBar f_121 (wdOf hw 66 rfl)))
    have f_145 := f_122.other W_125 (Ne.symm (f_105.neBar f_122 (wdOf hw 66 rfl)))
    have y_146 : n0 ≤ h_125.size := Nat.le_trans (Nat.le_of_eq f_126.1.symm) f_126.2.1
    refine Goes.go (U' := (T_125.setTop (mkF m 93 #[sR_ tx, sR_ ax, sI_ (1 : Int32), sI_ tl] []))) st_125 ?_
    refine Goes.go (U' := (T_125.setTop (mkF m 96 #[sR_ tx, sR_ ax, sI_ (1 : Int32), sI_ tl] [(.int (1 : Int32)), (.int tl), (.ref tx)]))) (fun t kt => ?_) ?_
    · skip
      refine XS.aloadN X_125.here hx rfl (hb hby d_rm_hang1_93) rfl rfl ?_
      refine XS.iloadN X_125.here hx rfl (hb hby d_rm_hang1_94) rfl ?_
      refine XS.iconst X_125.here hx rfl (hb hby d_rm_hang1_95) ?_
      exact kt
    obtain ⟨v_147, T_147, L_147, X_147, q_147, st_147⟩ := callPrivate X_125 hx hZ (y := (⟨"com/example/copse/copse/HangingTree", "countChildren", "(II)V"⟩ : MethodName)) (W := 0) hown (wdOf hw 215 rfl) (wdOf hw 216 rfl) (wdOf hw 217 rfl) (wdOf hw 66 rfl) (wdOf hw 67 rfl) (wdOf hw 218 rfl) (by decide) (rm_cc l Z a0 hw [] tx ch tl h_125 n0 y_146 o_ch htl (f_128.neBar f_141 (wdOf hw 66 rfl)) f_132 f_139 f_141) (by decide) (by decide) (by decide) (by decide) e_125 f_128 (g := (mkF m 96 #[sR_ tx, sR_ ax, sI_ (1 : Int32), sI_ tl] [(.int (1 : Int32)), (.int tl), (.ref tx)])) rfl (by rw [hml]; rfl) (argsL := [(.int tl), (.int (1 : Int32))]) (rest := []) (lenOf pd_7 rfl) rfl rfl (Nat.le_refl _) (hb hby d_rm_hang1_96)
    obtain ⟨rfl, n_147, K_147, Bq_147⟩ := q_147
    have N_147 := Fr.app N_125 n_147
    have f_148 := f_126.keep K_147 (allS o_ch all0)
    have f_149 := f_127.keep K_147
    have f_150 := f_128.keep K_147
    have f_151 := f_129.keep K_147 (ninS (f_128.neBar f_141 (wdOf hw 66 rfl)) nin0)
    have f_152 := f_130.keep K_147 (ninS (f_128.neBar f_141 (wdOf hw 66 rfl)) nin0)
    have f_153 := f_131.keep K_147 (ninS (f_128.neBar f_141 (wdOf hw 66 rfl)) nin0)
    have f_154 := f_132.keep K_147 (ninS (f_128.neBar f_141 (wdOf hw 66 rfl)) nin0)
    have f_155 := f_133.keep K_147 (ninS (f_128.neBar f_141 (wdOf hw 66 rfl)) nin0)
    have f_156 := f_134.keep K_147 (ninS (f_128.neBar f_141 (wdOf hw 66 rfl)) nin0)
    have f_157 := f_135.keep K_147 (ninS (f_128.neBar f_141 (wdOf hw 66 rfl)) nin0)
    have f_158 := f_136.keep K_147 (ninS (f_128.neBar f_141 (wdOf hw 66 rfl)) nin0)
    have f_159 := f_137.keep K_147 (ninS (f_128.neBar f_141 (wdOf hw 66 rfl)) nin0)
    have f_160 := f_138.keep K_147 (ninS (f_128.neBar f_141 (wdOf hw 66 rfl)) nin0)
    have f_161 := f_139.keep K_147 (ninS (f_128.neBar f_141 (wdOf hw 66 rfl)) nin0)
    have f_162 := f_140.keep K_147 (ninS n_ps_ch nin0)
    have f_164 := f_142.keep K_147 (ninS (f_142.neBar f_141 nofun) nin0)
    have f_165 := f_143.keep K_147 (ninS (f_143.neT f_141 nofun) nin0)
    have f_166 := f_144.keep K_147 (ninS n_ns_ch nin0)
    have f_167 := f_145.keep K_147 (ninS n_fc_ch nin0)
    have y_168 : n0 ≤ T_147.heap.size := Nat.le_trans (Nat.le_of_eq f_148.1.symm) f_148.2.1
    refine Goes.go (U' := (T_147.setTop (mkF m 99 #[sR_ tx, sR_ ax, sI_ (1 : Int32), sI_ tl] []))) st_147 ?_
    refine Goes.go (U' := (T_147.setTop (mkF m 100 #[sR_ tx, sR_ ax, sI_ (1 : Int32), sI_ tl] [(.ref tx)]))) (fun t kt => ?_) ?_
    · skip
      refine XS.aloadN X_147.here hx rfl (hb hby d_rm_hang1_99) rfl rfl ?_
      exact kt
    obtain ⟨T_169, X_169, e_169, st_169⟩ := getF X_147 hx hZ hown (host := "") (Or.inl (wdOf hw 219 rfl)) Via.refl (rfl : T_147.heap = T_147.heap) f_161 (g := (mkF m 100 #[sR_ tx, sR_ ax, sI_ (1 : Int32), sI_ tl] [(.ref tx)])) rfl rfl (hb hby d_rm_hang1_100)
    refine Goes.go (U' := (T_169.setTop (mkF m 103 #[sR_ tx, sR_ ax, sI_ (1 : Int32), sI_ tl] [.null]))) st_169 ?_
    refine Goes.go (U' := (T_169.setTop (mkF m 119 #[sR_ tx, sR_ ax, sI_ (1 : Int32), sI_ tl] []))) (fun t kt => ?_) ?_
    · skip
      refine XS.ifnullYes X_169.here hx rfl (pc0 := 103) (pc' := 119) rfl (hb hby d_rm_hang1_103) rfl (by decide) (by decide) ?_
      exact kt
    refine Goes.retV X_169 hx hlk hret (hb hby d_rm_hang1_119) (by decide) (by decide) ?_
    try rw [e_169]
    exact ⟨rfl, N_147, f_148, ⟨_, _, _, _, _, _, _, _, _, f_150, f_151, f_152, f_153, f_154, f_155, f_156, f_157, f_158, f_159, f_160, f_161, f_164, f_165, f_166, f_167, f_162, Bq_147, Ov, ⟨o_tx, o_ho, o_ch, o_fc, o_ns, o_ps, o_tu⟩, ⟨n_fc_ns, n_fc_ps, n_fc_ch, n_ns_ps, n_ns_ch, n_ps_ch⟩⟩⟩
  · -- not i_77 = 0
    refine Goes.go (U' := (T_76.setTop (mkF m 55 #[sR_ tx, sR_ ax, sI_ (1 : Int32), sI_ tl] [(.ref tx)]))) (fun t kt => ?_) ?_
    · skip
      refine XS.ifNo X_76.here hx rfl (hb hby d_rm_hang1_51) rfl (XT.i0_eq_f cf) ?_
      refine XS.aloadN X_76.here hx rfl (hb hby d_rm_hang1_54) rfl rfl ?_
      exact kt
    obtain ⟨T_170, X_170, e_170, st_170⟩ := getF X_76 hx hZ hown (host := "") (Or.inl (wdOf hw 96 rfl)) Via.refl e_76 f_64 (g := (mkF m 55 #[sR_ tx, sR_ ax, sI_ (1 : Int32), sI_ tl] [(.ref tx)])) rfl rfl (hb hby d_rm_hang1_55)
    refine Goes.go (U' := (T_170.setTop (mkF m 58 #[sR_ tx, sR_ ax, sI_ (1 : Int32), sI_ tl] [(.ref ps)]))) st_170 ?_
    refine Goes.go (U' := (T_170.setTop (mkF m 59 #[sR_ tx, sR_ ax, sI_ (1 : Int32), sI_ tl] [(.ref tx), (.ref ps)]))) (fun t kt => ?_) ?_
    · skip
      refine XS.aloadN X_170.here hx rfl (hb hby d_rm_hang1_58) rfl rfl ?_
      exact kt
    obtain ⟨T_171, X_171, e_171, st_171⟩ := getF X_170 hx hZ hown (host := "") (Or.inl (wdOf hw 92 rfl)) Via.refl e_170 f_62 (g := (mkF m 59 #[sR_ tx, sR_ ax, sI_ (1 : Int32), sI_ tl] [(.ref tx), (.ref ps)])) rfl rfl (hb hby d_rm_hang1_59)
    refine Goes.go (U' := (T_171.setTop (mkF m 62 #[sR_ tx, sR_ ax, sI_ (1 : Int32), sI_ tl] [(.ref fc), (.ref ps)]))) st_171 ?_
    refine Goes.go (U' := (T_171.setTop (mkF m 63 #[sR_ tx, sR_ ax, sI_ (1 : Int32), sI_ tl] [(.int tl), (.ref fc), (.ref ps)]))) (fun t kt => ?_) ?_
    · skip
      refine XS.iloadN X_171.here hx rfl (hb hby d_rm_hang1_62) rfl ?_
      exact kt
    obtain ⟨cl_172, Ar_172, S_172, H_172⟩ := id f_70
    have hin_172 : ¬ (tl < 0 ∨ cl_172.slots.size ≤ (tl).toNatClampNeg) := inb_of S_172 htl
    obtain ⟨_, hat_172, i_172, rfl, bd_172⟩ := Bar.at H_172 hin_172
    refine Goes.go (U' := (T_171.setTop (mkF m 64 #[sR_ tx, sR_ ax, sI_ (1 : Int32), sI_ tl] [(.int i_172), (.ref ps)]))) (fun t kt => ?_) ?_
    · skip
      refine X_171.iaload hx (j := tl) (v := (.int i_172)) (by rw [e_171]; exact Ar_172.1) (State.isArrayOf_alike hZ.alike Ar_172.2.1) Ar_172.2.2 hin_172 hat_172 (g := (mkF m 63 #[sR_ tx, sR_ ax, sI_ (1 : Int32), sI_ tl] [(.int tl), (.ref fc), (.ref ps)])) rfl rfl (hb hby d_rm_hang1_63) _ ?_
      exact kt
    refine Goes.go (U' := (T_171.setTop (mkF m 65 #[sR_ tx, sR_ ax, sI_ (1 : Int32), sI_ tl] [(.int (1 : Int32)), (.int i_172), (.ref ps)]))) (fun t kt => ?_) ?_
    · skip
      refine XS.iloadN X_171.here hx rfl (hb hby d_rm_hang1_64) rfl ?_
      exact kt
    obtain ⟨cl_173, Ar_173, S_173, H_173⟩ := id f_71
    have hin_173 : ¬ (i_172 < 0 ∨ cl_173.slots.size ≤ (i_172).toNatClampNeg) := inb_of S_173 bd_172
    obtain ⟨T_173, h_173, X_173, e_173, W_173, st_173⟩ := stI X_171 hx hZ e_171 Ar_173 (j := i_172) hin_173 (g := (mkF m 65 #[sR_ tx, sR_ ax, sI_ (1 : Int32), sI_ tl] [(.int (1 : Int32)), (.int i_172), (.ref ps)])) rfl rfl (hb hby d_rm_hang1_65)
    have B_173 : Bar Z h_173 ps .int IntP := Bar.set Ar_173 S_173 H_173 W_173 (IntP.mk _)
    have N_173 := Fr.snoc X_173 N_54 o_ps
    have f_174 := f_55.wr W_173 o_ps
    have f_175 := f_56.wr W_173
    have f_176 := f_57.wr W_173
    have f_177 := f_58.other W_173 (Or.inl (f_57.neBar f_71 (wdOf hw 66 rfl)))
    have f_178 := f_59.other W_173 (Or.inl (f_57.neBar f_71 (wdOf hw 66 rfl)))
    have f_179 := f_60.other W_173 (Or.inl (f_57.neBar f_71 (wdOf hw 66 rfl)))
    have f_180 := f_61.other W_173 (Or.inl (f_57.neBar f_71 (wdOf hw 66 rfl)))
    have f_181 := f_62.other W_173 (Or.inl (f_57.neBar f_71 (wdOf hw 66 rfl)))
    have f_182 := f_63.other W_173 (Or.inl (f_57.neBar f_71 (wdOf hw 66 rfl)))
    have f_183 := f_64.other W_173 (Or.inl (f_57.neBar f_71 (wdOf hw 66 rfl)))
    have f_184 := f_65.other W_173 (Or.inl (f_57.neBar f_71 (wdOf hw 66 rfl)))
    have f_185 := f_66.other W_173 (Or.inl (f_57.neBar f_71 (wdOf hw 66 rfl)))
    have f_186 := f_67.other W_173 (Or.inl (f_57.neBar f_71 (wdOf hw 66 rfl)))
    have f_187 := f_68.other W_173 (Or.inl (f_57.neBar f_71 (wdOf hw 66 rfl)))
    have f_188 := f_70.other W_173 n_fc_ps
    have f_190 := f_72.other W_173 (Ne.symm n_ps_ch)
    have f_191 := f_73.other W_173 (f_73.neBar f_71 nofun)
    have f_192 := f_74.other W_173 (f_74.neT f_71 nofun)
    have f_193 := B_54.other W_173 n_ns_ps
    have y_194 : n0 ≤ h_173.size := Nat.le_trans (Nat.le_of_eq f_174.1.symm) f_174.2.1
    refine Goes.go (U' := (T_173.setTop (mkF m 66 #[sR_ tx, sR_ ax, sI_ (1 : Int32), sI_ tl] []))) st_173 ?_
    refine Goes.go (U' := (T_173.setTop (mkF m 67 #[sR_ tx, sR_ ax, sI_ (1 : Int32), sI_ tl] [(.ref tx)]))) (fun t kt => ?_) ?_
    · skip
      refine XS.aloadN X_173.here hx rfl (hb hby d_rm_hang1_66) rfl rfl ?_
      exact kt
    obtain ⟨T_195, X_195, e_195, st_195⟩ := getF X_173 hx hZ hown (host := "") (Or.inl (wdOf hw 92 rfl)) Via.refl e_173 f_181 (g := (mkF m 67 #[sR_ tx, sR_ ax, sI_ (1 : Int32), sI_ tl] [(.ref tx)])) rfl rfl (hb hby d_rm_hang1_67)
    refine Goes.go (U' := (T_195.setTop (mkF m 70 #[sR_ tx, sR_ ax, sI_ (1 : Int32), sI_ tl] [(.ref fc)]))) st_195 ?_
    refine Goes.go (U' := (T_195.setTop (mkF m 72 #[sR_ tx, sR_ ax, sI_ (1 : Int32), sI_ tl] [(.int (1 : Int32)), (.int tl), (.ref fc)]))) (fun t kt => ?_) ?_
    · skip
      refine XS.iloadN X_195.here hx rfl (hb hby d_rm_hang1_70) rfl ?_
      refine XS.iloadN X_195.here hx rfl (hb hby d_rm_hang1_71) rfl ?_
      exact kt
    obtain ⟨cl_196, Ar_196, S_196, H_196⟩ := id f_188
    have hin_196 : ¬ (tl < 0 ∨ cl_196.slots.size ≤ (tl).toNatClampNeg) := inb_of S_196 htl
    obtain ⟨T_196, h_196, X_196, e_196, W_196, st_196⟩ := stI X_195 hx hZ e_195 Ar_196 (j := tl) hin_196 (g := (mkF m 72 #[sR_ tx, sR_ ax, sI_ (1 : Int32), sI_ tl] [(.int (1 : Int32)), (.int tl), (.ref fc)])) rfl rfl (hb hby d_rm_hang1_72)
    have B_196 : Bar Z h_196 fc .int IxP := Bar.set Ar_196 S_196 H_196 W_196 ⟨_, rfl, by decide, by decide⟩
    have N_196 := Fr.snoc X_196 N_173 o_fc
    have f_197 := f_174.wr W_196 o_fc
    have f_198 := f_175.wr W_196
    have f_199 := f_176.wr W_196
    have f_200 := f_177.other W_196 (Or.inl (f_176.neBar f_188 (wdOf hw 66 rfl)))
    have f_201 := f_178.other W_196 (Or.inl (f_176.neBar f_188 (wdOf hw 66 rfl)))
    have f_202 := f_179.other W_196 (Or.inl (f_176.neBar f_188 (wdOf hw 66 rfl)))
    have f_203 := f_180.other W_196 (Or.inl (f_176.neBar f_188 (wdOf hw 66 rfl)))
    have f_204 := f_181.other W_196 (Or.inl (f_176.neBar f_188 (wdOf hw 66 rfl)))
    have f_205 := f_182.other W_196 (Or.inl (f_176.neBar f_188 (wdOf hw 66 rfl)))
    have f_206 := f_183.other W_196 (Or.inl (f_176.neBar f_188 (wdOf hw 66 rfl)))
    have f_207 := f_184.other W_196 (Or.inl (f_176.neBar f_188 (wdOf hw 66 rfl)))
    have f_208 := f_185.other W_196 (Or.inl (f_176.neBar f_188 (wdOf hw 66 rfl)))
    have f_209 := f_186.other W_196 (Or.inl (f_176.neBar f_188 (wdOf hw 66 rfl)))
    have f_210 := f_187.other W_196 (Or.inl (f_176.neBar f_188 (wdOf hw 66 rfl)))
    have f_212 := f_190.other W_196 (Ne.symm n_fc_ch)
    have f_213 := f_191.other W_196 (f_191.neBar f_188 nofun)
    have f_214 := f_192.other W_196 (f_192.neT f_188 nofun)
    have f_215 := f_193.other W_196 (Ne.symm n_fc_ns)
    have f_216 := B_173.other W_196 (Ne.symm n_fc_ps)
    have y_217 : n0 ≤ h_196.size := Nat.le_trans (Nat.le_of_eq f_197.1.symm) f_197.2.1
    refine Goes.go (U' := (T_196.setTop (mkF m 73 #[sR_ tx, sR_ ax, sI_ (1 : Int32), sI_ tl] []))) st_196 ?_
    refine Goes.go (U' := (T_196.setTop (mkF m 75 #[sR_ tx, sR_ ax, sI_ (1 : Int32), sI_ tl] [(.ref tx), (.ref tx)]))) (fun t kt => ?_) ?_
    · skip
      refine XS.aloadN X_196.here hx rfl (hb hby d_rm_hang1_73) rfl rfl ?_
      refine XS.dup X_196.here hx rfl (hb hby d_rm_hang1_74) rfl rfl ?_
      exact kt
    obtain ⟨T_218, X_218, e_218, st_218⟩ := getF X_196 hx hZ hown (host := "") (Or.inl (wdOf hw 78 rfl)) Via.refl e_196 f_200 (g := (mkF m 75 #[sR_ tx, sR_ ax, sI_ (1 : Int32), sI_ tl] [(.ref tx), (.ref tx)])) rfl rfl (hb hby d_rm_hang1_75)
    refine Goes.go (U' := (T_218.setTop (mkF m 78 #[sR_ tx, sR_ ax, sI_ (1 : Int32), sI_ tl] [(.int sz), (.ref tx)]))) st_218 ?_
    refine Goes.go (U' := (T_218.setTop (mkF m 80 #[sR_ tx, sR_ ax, sI_ (1 : Int32), sI_ tl] [(.int (sz + (1 : Int32))), (.ref tx)]))) (fun t kt => ?_) ?_
    · skip
      refine XS.iconst X_218.here hx rfl (hb hby d_rm_hang1_78) ?_
      refine XS.iadd X_218.here hx rfl (hb hby d_rm_hang1_79) rfl ?_
      exact kt
    obtain ⟨T_219, h_219, X_219, e_219, W_219, st_219⟩ := putF X_218 hx hZ hown (host := "") (Or.inl (wdOf hw 78 rfl)) Via.refl e_218 f_200 f_199 (Or.inl (wdOf hw 79 rfl)) (wdOf hw 66 rfl) (ty := .int) (by decide) rfl rfl (g := (mkF m 80 #[sR_ tx, sR_ ax, sI_ (1 : Int32), sI_ tl] [(.int (sz + (1 : Int32))), (.ref tx)])) rfl rfl (hb hby d_rm_hang1_80)
    have N_219 := Fr.snoc X_219 N_196 o_tx
    have f_220 := f_197.wr W_219 o_tx
    have f_221 := f_198.wr W_219
    have f_222 := f_199.wr W_219
    have f_223 := f_200.same W_219
    have f_224 := f_201.other W_219 (Or.inr (slot_ne (Or.inr (wdOf hw 81 rfl)) (Or.inl (wdOf hw 79 rfl)) (by decide) (t := .int) (t' := .int) (by decide) (by decide)))
    have f_225 := f_202.other W_219 (Or.inr (slot_ne (Or.inr (wdOf hw 85 rfl)) (Or.inl (wdOf hw 79 rfl)) (by decide) (t := (.array (.object "com/example/copse/copse/Arc"))) (t' := .int) (by decide) (by decide)))
    have f_226 := f_203.other W_219 (Or.inr (slot_ne (Or.inr (wdOf hw 88 rfl)) (Or.inl (wdOf hw 79 rfl)) (by decide) (t := (.array .int)) (t' := .int) (by decide) (by decide)))
    have f_227 := f_204.other W_219 (Or.inr (slot_ne (Or.inr (wdOf hw 93 rfl)) (Or.inl (wdOf hw 79 rfl)) (by decide) (t := (.array .int)) (t' := .int) (by decide) (by decide)))
    have f_228 := f_205.other W_219 (Or.inr (slot_ne (Or.inr (wdOf hw 95 rfl)) (Or.inl (wdOf hw 79 rfl)) (by decide) (t := (.array .int)) (t' := .int) (by decide) (by decide)))
    have f_229 := f_206.other W_219 (Or.inr (slot_ne (Or.inr (wdOf hw 97 rfl)) (Or.inl (wdOf hw 79 rfl)) (by decide) (t := (.array .int)) (t' := .int) (by decide) (by decide)))
    have f_230 := f_207.other W_219 (Or.inr (slot_ne (Or.inr (wdOf hw 99 rfl)) (Or.inl (wdOf hw 79 rfl)) (by decide) (t := (.object "java/util/function/Predicate")) (t' := .int) (by decide) (by decide)))
    have f_231 := f_208.other W_219 (Or.inr (slot_ne (Or.inr (wdOf hw 101 rfl)) (Or.inl (wdOf hw 79 rfl)) (by decide) (t := (.array .boolean)) (t' := .int) (by decide) (by decide)))
    have f_232 := f_209.other W_219 (Or.inr (slot_ne (Or.inl (wdOf hw 214 rfl)) (Or.inl (wdOf hw 79 rfl)) (by decide) (t := .long) (t' := .int) (by decide) (by decide)))
    have f_233 := f_210.other W_219 (Or.inr (slot_ne (Or.inl (wdOf hw 220 rfl)) (Or.inl (wdOf hw 79 rfl)) (by decide) (t := (.object "com/example/copse/copse/LinkCutForest")) (t' := .int) (by decide) (by decide)))
    have f_234 := f_212.other W_219 (Ne.symm (f_199.neBar f_212 (wdOf hw 66 rfl)))
    have f_235 := f_213.other W_219 (Ne.symm (f_199.neArv f_213 (wdOf hw 66 rfl)))
    have f_236 := f_214.other W_219 (Ne.symm (f_199.neBar f_214 (wdOf hw 66 rfl)))
    have f_237 := f_215.other W_219 (Ne.symm (f_199.neBar f_215 (wdOf hw 66 rfl)))
    have f_238 := f_216.other W_219 (Ne.symm (f_199.neBar f_216 (wdOf hw 66 rfl)))
    have f_239 := B_196.other W_219 (Ne.symm (f_199.neBar B_196 (wdOf hw 66 rfl)))
    have y_240 : n0 ≤ h_219.size := Nat.le_trans (Nat.le_of_eq f_220.1.symm) f_220.2.1
    refine Goes.go (U' := (T_219.setTop (mkF m 83 #[sR_ tx, sR_ ax, sI_ (1 : Int32), sI_ tl] []))) st_219 ?_
    refine Goes.go (U' := (T_219.setTop (mkF m 85 #[sR_ tx, sR_ ax, sI_ (1 : Int32), sI_ tl] [(.ref tx), (.ref tx)]))) (fun t kt => ?_) ?_
    · skip
      refine XS.aloadN X_219.here hx rfl (hb hby d_rm_hang1_83) rfl rfl ?_
      refine XS.dup X_219.here hx rfl (hb hby d_rm_hang1_84) rfl rfl ?_
      exact kt
    obtain ⟨T_241, X_241, e_241, st_241⟩ := getF X_219 hx hZ hown (host := "") (Or.inl (wdOf hw 213 rfl)) Via.refl e_219 f_232 (g := (mkF m 85 #[sR_ tx, sR_ ax, sI_ (1 : Int32), sI_ tl] [(.ref tx), (.ref tx)])) rfl rfl (hb hby d_rm_hang1_85)
    refine Goes.go (U' := (T_241.setTop (mkF m 88 #[sR_ tx, sR_ ax, sI_ (1 : Int32), sI_ tl] [(.long cg), (.ref tx)]))) st_241 ?_
    refine Goes.go (U' := (T_241.setTop (mkF m 90 #[sR_ tx, sR_ ax, sI_ (1 : Int32), sI_ tl] [(.long (cg + (1 : Int64))), (.ref tx)]))) (fun t kt => ?_) ?_
    · skip
      refine XS.lconst X_241.here hx rfl (hb hby d_rm_hang1_88) ?_
      refine XS.ladd X_241.here hx rfl (hb hby d_rm_hang1_89) rfl ?_
      exact kt
    obtain ⟨T_242, h_242, X_242, e_242, W_242, st_242⟩ := putF X_241 hx hZ hown (host := "") (Or.inl (wdOf hw 213 rfl)) Via.refl e_241 f_232 f_222 (Or.inl (wdOf hw 214 rfl)) (wdOf hw 66 rfl) (ty := .long) (by decide) rfl rfl (g := (mkF m 90 #[sR_ tx, sR_ ax, sI_ (1 : Int32), sI_ tl] [(.long (cg + (1 : Int64))), (.ref tx)])) rfl rfl (hb hby d_rm_hang1_90)
    have N_242 := Fr.snoc X_242 N_219 o_tx
    have f_243 := f_220.wr W_242 o_tx
    have f_244 := f_221.wr W_242
    have f_245 := f_222.wr W_242
    have f_246 := f_223.other W_242 (Or.inr (slot_ne (Or.inl (wdOf hw 79 rfl)) (Or.inl (wdOf hw 214 rfl)) (by decide) (t := .int) (t' := .long) (by decide) (by decide)))
    have f_247 := f_224.other W_242 (Or.inr (slot_ne (Or.inr (wdOf hw 81 rfl)) (Or.inl (wdOf hw 214 rfl)) (by decide) (t := .int) (t' := .long) (by decide) (by decide)))
    have f_248 := f_225.other W_242 (Or.inr (slot_ne (Or.inr (wdOf hw 85 rfl)) (Or.inl (wdOf hw 214 rfl)) (by decide) (t := (.array (.object "com/example/copse/copse/Arc"))) (t' := .long) (by decide) (by decide)))
    have f_249 := f_226.other W_242 (Or.inr (slot_ne (Or.inr (wdOf hw 88 rfl)) (Or.inl (wdOf hw 214 rfl)) (by decide) (t := (.array .int)) (t' := .long) (by decide) (by decide)))
    have f_250 := f_227.other W_242 (Or.inr (slot_ne (Or.inr (wdOf hw 93 rfl)) (Or.inl (wdOf hw 214 rfl)) (by decide) (t := (.array .int)) (t' := .long) (by decide) (by decide)))
    have f_251 := f_228.other W_242 (Or.inr (slot_ne (Or.inr (wdOf hw 95 rfl)) (Or.inl (wdOf hw 214 rfl)) (by decide) (t := (.array .int)) (t' := .long) (by decide) (by decide)))
    have f_252 := f_229.other W_242 (Or.inr (slot_ne (Or.inr (wdOf hw 97 rfl)) (Or.inl (wdOf hw 214 rfl)) (by decide) (t := (.array .int)) (t' := .long) (by decide) (by decide)))
    have f_253 := f_230.other W_242 (Or.inr (slot_ne (Or.inr (wdOf hw 99 rfl)) (Or.inl (wdOf hw 214 rfl)) (by decide) (t := (.object "java/util/function/Predicate")) (t' := .long) (by decide) (by decide)))
    have f_254 := f_231.other W_242 (Or.inr (slot_ne (Or.inr (wdOf hw 101 rfl)) (Or.inl (wdOf hw 214 rfl)) (by decide) (t := (.array .boolean)) (t' := .long) (by decide) (by decide)))
    have f_255 := f_232.same W_242
    have f_256 := f_233.other W_242 (Or.inr (slot_ne (Or.inl (wdOf hw 220 rfl)) (Or.inl (wdOf hw 214 rfl)) (by decide) (t := (.object "com/example/copse/copse/LinkCutForest")) (t' := .long) (by decide) (by decide)))
    have f_257 := f_234.other W_242 (Ne.symm (f_222.neBar f_234 (wdOf hw 66 rfl)))
    have f_258 := f_235.other W_242 (Ne.symm (f_222.neArv f_235 (wdOf hw 66 rfl)))
    have f_259 := f_236.other W_242 (Ne.symm (f_222.neBar f_236 (wdOf hw 66 rfl)))
    have f_260 := f_237.other W_242 (Ne.symm (f_222.neBar f_237 (wdOf hw 66 rfl)))
    have f_261 := f_238.other W_242 (Ne.symm (f_222.neBar f_238 (wdOf hw 66 rfl)))
    have f_262 := f_239.other W_242 (Ne.symm (f_222.neBar f_239 (wdOf hw 66 rfl)))
    have y_263 : n0 ≤ h_242.size := Nat.le_trans (Nat.le_of_eq f_243.1.symm) f_243.2.1
    refine Goes.go (U' := (T_242.setTop (mkF m 93 #[sR_ tx, sR_ ax, sI_ (1 : Int32), sI_ tl] []))) st_242 ?_
    refine Goes.go (U' := (T_242.setTop (mkF m 96 #[sR_ tx, sR_ ax, sI_ (1 : Int32), sI_ tl] [(.int (1 : Int32)), (.int tl), (.ref tx)]))) (fun t kt => ?_) ?_
    · skip
      refine XS.aloadN X_242.here hx rfl (hb hby d_rm_hang1_93) rfl rfl ?_
      refine XS.iloadN X_242.here hx rfl (hb hby d_rm_hang1_94) rfl ?_
      refine XS.iconst X_242.here hx rfl (hb hby d_rm_hang1_95) ?_
      exact kt
    obtain ⟨v_264, T_264, L_264, X_264, q_264, st_264⟩ := callPrivate X_242 hx hZ (y := (⟨"com/example/copse/copse/HangingTree", "countChildren", "(II)V"⟩ : MethodName)) (W := 0) hown (wdOf hw 215 rfl) (wdOf hw 216 rfl) (wdOf hw 217 rfl) (wdOf hw 66 rfl) (wdOf hw 67 rfl) (wdOf hw 218 rfl) (by decide) (rm_cc l Z a0 hw [] tx ch tl h_242 n0 y_263 o_ch htl (f_245.neBar f_257 (wdOf hw 66 rfl)) f_249 f_256 f_257) (by decide) (by decide) (by decide) (by decide) e_242 f_245 (g := (mkF m 96 #[sR_ tx, sR_ ax, sI_ (1 : Int32), sI_ tl] [(.int (1 : Int32)), (.int tl), (.ref tx)])) rfl (by rw [hml]; rfl) (argsL := [(.int tl), (.int (1 : Int32))]) (rest := []) (lenOf pd_7 rfl) rfl rfl (Nat.le_refl _) (hb hby d_rm_hang1_96)
    obtain ⟨rfl, n_264, K_264, Bq_264⟩ := q_264
    have N_264 := Fr.app N_242 n_264
    have f_265 := f_243.keep K_264 (allS o_ch all0)
    have f_266 := f_244.keep K_264
    have f_267 := f_245.keep K_264
    have f_268 := f_246.keep K_264 (ninS (f_245.neBar f_257 (wdOf hw 66 rfl)) nin0)
    have f_269 := f_247.keep K_264 (ninS (f_245.neBar f_257 (wdOf hw 66 rfl)) nin0)
    have f_270 := f_248.keep K_264 (ninS (f_245.neBar f_257 (wdOf hw 66 rfl)) nin0)
    have f_271 := f_249.keep K_264 (ninS (f_245.neBar f_257 (wdOf hw 66 rfl)) nin0)
    have f_272 := f_250.keep K_264 (ninS (f_245.neBar f_257 (wdOf hw 66 rfl)) nin0)
    have f_273 := f_251.keep K_264 (ninS (f_245.neBar f_257 (wdOf hw 66 rfl)) nin0)
    have f_274 := f_252.keep K_264 (ninS (f_245.neBar f_257 (wdOf hw 66 rfl)) nin0)
    have f_275 := f_253.keep K_264 (ninS (f_245.neBar f_257 (wdOf hw 66 rfl)) nin0)
    have f_276 := f_254.keep K_264 (ninS (f_245.neBar f_257 (wdOf hw 66 rfl)) nin0)
    have f_277 := f_255.keep K_264 (ninS (f_245.neBar f_257 (wdOf hw 66 rfl)) nin0)
    have f_278 := f_256.keep K_264 (ninS (f_245.neBar f_257 (wdOf hw 66 rfl)) nin0)
    have f_280 := f_258.keep K_264 (ninS (f_258.neBar f_257 nofun) nin0)
    have f_281 := f_259.keep K_264 (ninS (f_259.neT f_257 nofun) nin0)
    have f_282 := f_260.keep K_264 (ninS n_ns_ch nin0)
    have f_283 := f_261.keep K_264 (ninS n_ps_ch nin0)
    have f_284 := f_262.keep K_264 (ninS n_fc_ch nin0)
    have y_285 : n0 ≤ T_264.heap.size := Nat.le_trans (Nat.le_of_eq f_265.1.symm) f_265.2.1
    refine Goes.go (U' := (T_264.setTop (mkF m 99 #[sR_ tx, sR_ ax, sI_ (1 : Int32), sI_ tl] []))) st_264 ?_
    refine Goes.go (U' := (T_264.setTop (mkF m 100 #[sR_ tx, sR_ ax, sI_ (1 : Int32), sI_ tl] [(.ref tx)]))) (fun t kt => ?_) ?_
    · skip
      refine XS.aloadN X_264.here hx rfl (hb hby d_rm_hang1_99) rfl rfl ?_
      exact kt
    obtain ⟨T_286, X_286, e_286, st_286⟩ := getF X_264 hx hZ hown (host := "") (Or.inl (wdOf hw 219 rfl)) Via.refl (rfl : T_264.heap = T_264.heap) f_278 (g := (mkF m 100 #[sR_ tx, sR_ ax, sI_ (1 : Int32), sI_ tl] [(.ref tx)])) rfl rfl (hb hby d_rm_hang1_100)
    refine Goes.go (U' := (T_286.setTop (mkF m 103 #[sR_ tx, sR_ ax, sI_ (1 : Int32), sI_ tl] [.null]))) st_286 ?_
    refine Goes.go (U' := (T_286.setTop (mkF m 119 #[sR_ tx, sR_ ax, sI_ (1 : Int32), sI_ tl] []))) (fun t kt => ?_) ?_
    · skip
      refine XS.ifnullYes X_286.here hx rfl (pc0 := 103) (pc' := 119) rfl (hb hby d_rm_hang1_103) rfl (by decide) (by decide) ?_
      exact kt
    refine Goes.retV X_286 hx hlk hret (hb hby d_rm_hang1_119) (by decide) (by decide) ?_
    try rw [e_286]
    exact ⟨rfl, N_264, f_265, ⟨_, _, _, _, _, _, _, _, _, f_267, f_268, f_269, f_270, f_271, f_272, f_273, f_274, f_275, f_276, f_277, f_278, f_280, f_281, f_282, f_284, f_283, Bq_264, Ov, ⟨o_tx, o_ho, o_ch, o_fc, o_ns, o_ps, o_tu⟩, ⟨n_fc_ns, n_fc_ps, n_fc_ch, n_ns_ps, n_ns_ch, n_ps_ch⟩⟩⟩
set_option maxHeartbeats 4000000 in
theorem ef_rm_hang2 (m : MethodId) (x0 : Addr) (x1 : Addr)  : entryFrame m #[(.ref x0), (.ref x1)] 4 = mkF m 0 #[.val (.ref x0), .val (.ref x1), .unset, .unset] [] := by first | (simp [entryFrame, mkF, argsToLocals, catR, catN, catI, catJ]; done) | rfl
set_option maxRecDepth 65536 in
set_option maxHeartbeats 40000000 in
theorem rm_hang2 (l : Launch) (Z : State) (a0 : Array Value) (hw : ∀ d ∈ tables_1, d.before a0 Z = true) (ws : List Jvm.Cond) (tx ax la : Addr) (cK : ClassId) (r tl : Int32) (v0 v1 v2 v3 v4 : Value) (h0 : Heap) (n0 : Nat) (Z0 : n0 ≤ h0.size) (O : Old Z n0 h0) (FL : HLam.Lam Z cK la) (T0 : HTr Z h0 n0 tx la r v0 v1 v2 v3 v4) (Ea : Exa Z h0 ax "com/example/copse/copse/Arc") (Fh : Fld Z h0 ax "com/example/copse/copse/Arc" "head" "I" (.int (2 : Int32))) (Ft : Fld Z h0 ax "com/example/copse/copse/Arc" "tail" "I" (.int tl)) (htl : ¬ tl < 0 ∧ tl < 5) :
    Pays l Z (⟨"com/example/copse/copse/HangingTree", "hang", "(Lcom/example/copse/copse/Arc;)V"⟩ : MethodName) prog_20_method_4_code 4 none ws ({ frames := 2, cells := 0, slots := 0, locals := 27 } : Room) #[(.ref tx), (.ref ax)] h0 (fun v h L => v = none ∧ Fr n0 L ∧ Old Z n0 h ∧ HTr Z h n0 tx la r v0 v1 (.ref ax) v3 v4) := by
  refine Pays.of (plainFor_of_name (by first | (simp [plainName, overriddenIn]; done) | decide +kernel)) ?_
  intro p e s m below meth c s₁ hx hby hml hown hnm hret hlk hZ e0 X0
  have N0 := Fr.nil n0
  have K0 : Keep h0 h0 [] := Keep.refl _ _
  refine Goes.go (U' := (s₁.setTop (mkF m 0 #[sR_ tx, sR_ ax, sU_, sU_] []))) (fun t kt => castTop (ef_rm_hang2 m tx ax) kt) ?_
  obtain ⟨ho, ch, fc, ns, ps, tu, kh, sz, cg, Et, Ft_size, Ft_root, Ft_hangsOn, Ft_children, Ft_firstChild, Ft_nextSibling, Ft_previousSibling, Ft_twinned, Ft_turns, Ft_changes, Ft_forest, Vh, Btu, Bns, Bfc, Bps, Bch, Ov, ⟨o_tx, o_ho, o_ch, o_fc, o_ns, o_ps, o_tu⟩, ⟨n_fc_ns, n_fc_ps, n_fc_ch, n_ns_ps, n_ns_ch, n_ps_ch⟩⟩ := id T0
  refine Goes.go (U' := (s₁.setTop (mkF m 1 #[sR_ tx, sR_ ax, sU_, sU_] [(.ref ax)]))) (fun t kt => ?_) ?_
  · skip
    refine XS.aloadN X0.here hx rfl (hb hby d_rm_hang1_0) rfl rfl ?_
    exact kt
  obtain ⟨v_1, T_1, L_1, X_1, q_1, st_1⟩ := callVirtual X0 hx hZ (y := (⟨"com/example/copse/copse/Arc", "head", "()I"⟩ : MethodName)) (z := (⟨"com/example/copse/copse/Arc", "head", "()I"⟩ : MethodName)) (W := 0) hown (wdOf hw 197 rfl) (wdOf hw 198 rfl) (notFace_of_selects (args := #[]) (mvT hZ (wdOf hw 200 rfl))) (wdOf hw 200 rfl) (wdOf hw 199 rfl) (wdOf hw 176 rfl) (wdOf hw 201 rfl) (by decide) (rm_head l Z a0 hw [] ax (2 : Int32) h0 n0 Z0 Fh) (by decide) (by decide) (by decide) (by decide) e0 Ea (g := (mkF m 1 #[sR_ tx, sR_ ax, sU_, sU_] [(.ref ax)])) rfl (by rw [hml]; rfl) (argsL := []) (rest := []) (lenOf pd_6 rfl) rfl rfl (Nat.le_refl _) (hb hby d_rm_hang1_1)
  obtain ⟨rfl, n_1, K_1⟩ := q_1
  have N_1 := Fr.app N0 n_1
  refine Goes.go (U' := (T_1.setTop (mkF m 4 #[sR_ tx, sR_ ax, sU_, sU_] [(.int (2 : Int32))]))) st_1 ?_
  refine Goes.go (U' := (T_1.setTop (mkF m 6 #[sR_ tx, sR_ ax, sI_ (2 : Int32), sU_] [(.ref ax)]))) (fun t kt => ?_) ?_
  · skip
    refine XS.istoreN X_1.here hx rfl (hb hby d_rm_hang1_4) rfl (l' := #[sR_ tx, sR_ ax, sI_ (2 : Int32), sU_]) rfl ?_
    refine XS.aloadN X_1.here hx rfl (hb hby d_rm_hang1_5) rfl rfl ?_
    exact kt
  obtain ⟨v_2, T_2, L_2, X_2, q_2, st_2⟩ := callVirtual X_1 hx hZ (y := (⟨"com/example/copse/copse/Arc", "tail", "()I"⟩ : MethodName)) (z := (⟨"com/example/copse/copse/Arc", "tail", "()I"⟩ : MethodName)) (W := 0) hown (wdOf hw 202 rfl) (wdOf hw 203 rfl) (notFace_of_selects (args := #[]) (mvT hZ (wdOf hw 205 rfl))) (wdOf hw 205 rfl) (wdOf hw 204 rfl) (wdOf hw 176 rfl) (wdOf hw 206 rfl) (by decide) (rm_tail l Z a0 hw [] ax tl h0 n0 Z0 Ft) (by decide) (by decide) (by decide) (by decide) K_1 Ea (g := (mkF m 6 #[sR_ tx, sR_ ax, sI_ (2 : Int32), sU_] [(.ref ax)])) rfl (by rw [hml]; rfl) (argsL := []) (rest := []) (lenOf pd_6 rfl) rfl rfl (Nat.le_refl _) (hb hby d_rm_hang1_6)
  obtain ⟨rfl, n_2, K_2⟩ := q_2
  have N_2 := Fr.app N_1 n_2
  refine Goes.go (U' := (T_2.setTop (mkF m 9 #[sR_ tx, sR_ ax, sI_ (2 : Int32), sU_] [(.int tl)]))) st_2 ?_
  refine Goes.go (U' := (T_2.setTop (mkF m 11 #[sR_ tx, sR_ ax, sI_ (2 : Int32), sI_ tl] [(.ref tx)]))) (fun t kt => ?_) ?_
  · skip
    refine XS.istoreN X_2.here hx rfl (hb hby d_rm_hang1_9) rfl (l' := #[sR_ tx, sR_ ax, sI_ (2 : Int32), sI_ tl]) rfl ?_
    refine XS.aloadN X_2.here hx rfl (hb hby d_rm_hang1_10) rfl rfl ?_
    exact kt
  obtain ⟨T_3, X_3, e_3, st_3⟩ := getF X_2 hx hZ hown (host := "") (Or.inl (wdOf hw 84 rfl)) Via.refl K_2 Ft_hangsOn (g := (mkF m 11 #[sR_ tx, sR_ ax, sI_ (2 : Int32), sI_ tl] [(.ref tx)])) rfl rfl (hb hby d_rm_hang1_11)
  refine Goes.go (U' := (T_3.setTop (mkF m 14 #[sR_ tx, sR_ ax, sI_ (2 : Int32), sI_ tl] [(.ref ho)]))) st_3 ?_
  refine Goes.go (U' := (T_3.setTop (mkF m 16 #[sR_ tx, sR_ ax, sI_ (2 : Int32), sI_ tl] [(.ref ax), (.int (2 : Int32)), (.ref ho)]))) (fun t kt => ?_) ?_
  · skip
    refine XS.iloadN X_3.here hx rfl (hb hby d_rm_hang1_14) rfl ?_
    refine XS.aloadN X_3.here hx rfl (hb hby d_rm_hang1_15) rfl rfl ?_
    exact kt
  obtain ⟨cl_4, Ar_4, q_4, S_4, M_4, H_4, G_4⟩ := id Vh
  have hin_4 : ¬ ((2 : Int32) < 0 ∨ cl_4.slots.size ≤ ((2 : Int32)).toNatClampNeg) := inb_of S_4 ⟨by decide, by decide⟩
  obtain ⟨T_4, h_4, X_4, e_4, W_4, st_4⟩ := stR X_3 hx hZ e_3 Ar_4 (j := (2 : Int32)) hin_4 rfl (Sto.of Ar_4 (q_4 ▸ Ov) (Ins.self Ea)) (g := (mkF m 16 #[sR_ tx, sR_ ax, sI_ (2 : Int32), sI_ tl] [(.ref ax), (.int (2 : Int32)), (.ref ho)])) rfl rfl (hb hby d_rm_hang1_16)
  have V_4 : Arv Z h_4 ho kh (.object "com/example/copse/copse/Arc") (5 : Int32) [v0, v1, (.ref ax), v3, v4] .null := Arv.set Ar_4 q_4 S_4 M_4 H_4 G_4 rfl W_4 2 rfl (Nat.le_of_ble_eq_true rfl)
  have N_4 := Fr.snoc X_4 N_2 o_ho
  have f_5 := O.wr W_4 o_ho
  have f_6 := Ea.wr W_4
  have f_7 := Et.wr W_4
  have f_8 := Ft_size.other W_4 (Or.inl (Et.neArv Vh (wdOf hw 66 rfl)))
  have f_9 := Ft_root.other W_4 (Or.inl (Et.neArv Vh (wdOf hw 66 rfl)))
  have f_10 := Ft_hangsOn.other W_4 (Or.inl (Et.neArv Vh (wdOf hw 66 rfl)))
  have f_11 := Ft_children.other W_4 (Or.inl (Et.neArv Vh (wdOf hw 66 rfl)))
  have f_12 := Ft_firstChild.other W_4 (Or.inl (Et.neArv Vh (wdOf hw 66 rfl)))
  have f_13 := Ft_nextSibling.other W_4 (Or.inl (Et.neArv Vh (wdOf hw 66 rfl)))
  have f_14 := Ft_previousSibling.other W_4 (Or.inl (Et.neArv Vh (wdOf hw 66 rfl)))
  have f_15 := Ft_twinned.other W_4 (Or.inl (Et.neArv Vh (wdOf hw 66 rfl)))
  have f_16 := Ft_turns.other W_4 (Or.inl (Et.neArv Vh (wdOf hw 66 rfl)))
  have f_17 := Ft_changes.other W_4 (Or.inl (Et.neArv Vh (wdOf hw 66 rfl)))
  have f_18 := Ft_forest.other W_4 (Or.inl (Et.neArv Vh (wdOf hw 66 rfl)))
  have f_20 := Btu.other W_4 (Ne.symm (Vh.neBar Btu nofun))
  have f_21 := Bns.other W_4 (Ne.symm (Vh.neBar Bns nofun))
  have f_22 := Bfc.other W_4 (Ne.symm (Vh.neBar Bfc nofun))
  have f_23 := Bps.other W_4 (Ne.symm (Vh.neBar Bps nofun))
  have f_24 := Bch.other W_4 (Ne.symm (Vh.neBar Bch nofun))
  have y_25 : n0 ≤ h_4.size := Nat.le_trans (Nat.le_of_eq f_5.1.symm) f_5.2.1
  refine Goes.go (U' := (T_4.setTop (mkF m 17 #[sR_ tx, sR_ ax, sI_ (2 : Int32), sI_ tl] []))) st_4 ?_
  refine Goes.go (U' := (T_4.setTop (mkF m 18 #[sR_ tx, sR_ ax, sI_ (2 : Int32), sI_ tl] [(.ref tx)]))) (fun t kt => ?_) ?_
  · skip
    refine XS.aloadN X_4.here hx rfl (hb hby d_rm_hang1_17) rfl rfl ?_
    exact kt
  obtain ⟨T_26, X_26, e_26, st_26⟩ := getF X_4 hx hZ hown (host := "") (Or.inl (wdOf hw 100 rfl)) Via.refl e_4 f_16 (g := (mkF m 18 #[sR_ tx, sR_ ax, sI_ (2 : Int32), sI_ tl] [(.ref tx)])) rfl rfl (hb hby d_rm_hang1_18)
  refine Goes.go (U' := (T_26.setTop (mkF m 21 #[sR_ tx, sR_ ax, sI_ (2 : Int32), sI_ tl] [(.ref tu)]))) st_26 ?_
  refine Goes.go (U' := (T_26.setTop (mkF m 23 #[sR_ tx, sR_ ax, sI_ (2 : Int32), sI_ tl] [(.ref tx), (.int (2 : Int32)), (.ref tu)]))) (fun t kt => ?_) ?_
  · skip
    refine XS.iloadN X_26.here hx rfl (hb hby d_rm_hang1_21) rfl ?_
    refine XS.aloadN X_26.here hx rfl (hb hby d_rm_hang1_22) rfl rfl ?_
    exact kt
  obtain ⟨T_27, X_27, e_27, st_27⟩ := getF X_26 hx hZ hown (host := "") (Or.inl (wdOf hw 98 rfl)) Via.refl e_26 f_15 (g := (mkF m 23 #[sR_ tx, sR_ ax, sI_ (2 : Int32), sI_ tl] [(.ref tx), (.int (2 : Int32)), (.ref tu)])) rfl rfl (hb hby d_rm_hang1_23)
  refine Goes.go (U' := (T_27.setTop (mkF m 26 #[sR_ tx, sR_ ax, sI_ (2 : Int32), sI_ tl] [(.ref la), (.int (2 : Int32)), (.ref tu)]))) st_27 ?_
  refine Goes.go (U' := (T_27.setTop (mkF m 27 #[sR_ tx, sR_ ax, sI_ (2 : Int32), sI_ tl] [(.ref ax), (.ref la), (.int (2 : Int32)), (.ref tu)]))) (fun t kt => ?_) ?_
  · skip
    refine XS.aloadN X_27.here hx rfl (hb hby d_rm_hang1_26) rfl rfl ?_
    exact kt
  obtain ⟨T_28, X_28, e_28, st_28⟩ := HLam.Lam.call FL X_27 hx hZ hown (wdOf hw 208 rfl) (wdOf hw 209 rfl) (wdOf hw 210 rfl) (wdOf hw 212 rfl) (wdOf hw 211 rfl) (wdOf hw 67 rfl) (wdOf hw 207 rfl) (z := 0) rfl (rm_lb l Z a0 hw [] ax h_4 n0 y_25) f_6 e_27 f_5.2 (g := (mkF m 27 #[sR_ tx, sR_ ax, sI_ (2 : Int32), sI_ tl] [(.ref ax), (.ref la), (.int (2 : Int32)), (.ref tu)])) rfl (by rw [hml]; rfl) (rest := [(.int (2 : Int32)), (.ref tu)]) rfl (W := 2) (Nat.le_refl _) (hb hby d_rm_hang1_27) (by decide) (by decide) (by decide) (by decide)
  refine Goes.go (U' := (T_28.setTop (mkF m 32 #[sR_ tx, sR_ ax, sI_ (2 : Int32), sI_ tl] [(.int (0 : Int32)), (.int (2 : Int32)), (.ref tu)]))) st_28 ?_
  obtain ⟨cl_29, Ar_29, S_29, H_29⟩ := id f_20
  have hin_29 : ¬ ((2 : Int32) < 0 ∨ cl_29.slots.size ≤ ((2 : Int32)).toNatClampNeg) := inb_of S_29 ⟨by decide, by decide⟩
  obtain ⟨T_29, h_29, X_29, e_29, W_29, st_29⟩ := stZ X_28 hx hZ e_28 Ar_29 (j := (2 : Int32)) hin_29 (g := (mkF m 32 #[sR_ tx, sR_ ax, sI_ (2 : Int32), sI_ tl] [(.int (0 : Int32)), (.int (2 : Int32)), (.ref tu)])) rfl rfl (hb hby d_rm_hang1_32)
  have B_29 : Bar Z h_29 tu .boolean IntP := Bar.set Ar_29 S_29 H_29 W_29 (IntP.mk _)
  have N_29 := Fr.snoc X_29 N_4 o_tu
  have f_30 := f_5.wr W_29 o_tu
  have f_31 := f_6.wr W_29
  have f_32 := f_7.wr W_29
  have f_33 := f_8.other W_29 (Or.inl (f_7.neBar f_20 (wdOf hw 66 rfl)))
  have f_34 := f_9.other W_29 (Or.inl (f_7.neBar f_20 (wdOf hw 66 rfl)))
  have f_35 := f_10.other W_29 (Or.inl (f_7.neBar f_20 (wdOf hw 66 rfl)))
  have f_36 := f_11.other W_29 (Or.inl (f_7.neBar f_20 (wdOf hw 66 rfl)))
  have f_37 := f_12.other W_29 (Or.inl (f_7.neBar f_20 (wdOf hw 66 rfl)))
  have f_38 := f_13.other W_29 (Or.inl (f_7.neBar f_20 (wdOf hw 66 rfl)))
  have f_39 := f_14.other W_29 (Or.inl (f_7.neBar f_20 (wdOf hw 66 rfl)))
  have f_40 := f_15.other W_29 (Or.inl (f_7.neBar f_20 (wdOf hw 66 rfl)))
  have f_41 := f_16.other W_29 (Or.inl (f_7.neBar f_20 (wdOf hw 66 rfl)))
  have f_42 := f_17.other W_29 (Or.inl (f_7.neBar f_20 (wdOf hw 66 rfl)))
  have f_43 := f_18.other W_29 (Or.inl (f_7.neBar f_20 (wdOf hw 66 rfl)))
  have f_45 := f_21.other W_29 (f_21.neT f_20 nofun)
  have f_46 := f_22.other W_29 (f_22.neT f_20 nofun)
  have f_47 := f_23.other W_29 (f_23.neT f_20 nofun)
  have f_48 := f_24.other W_29 (f_24.neT f_20 nofun)
  have f_49 := V_4.other W_29 (V_4.neBar f_20 nofun)
  have y_50 : n0 ≤ h_29.size := Nat.le_trans (Nat.le_of_eq f_30.1.symm) f_30.2.1
  refine Goes.go (U' := (T_29.setTop (mkF m 33 #[sR_ tx, sR_ ax, sI_ (2 : Int32), sI_ tl] []))) st_29 ?_
  refine Goes.go (U' := (T_29.setTop (mkF m 34 #[sR_ tx, sR_ ax, sI_ (2 : Int32), sI_ tl] [(.ref tx)]))) (fun t kt => ?_) ?_
  · skip
    refine XS.aloadN X_29.here hx rfl (hb hby d_rm_hang1_33) rfl rfl ?_
    exact kt
  obtain ⟨T_51, X_51, e_51, st_51⟩ := getF X_29 hx hZ hown (host := "") (Or.inl (wdOf hw 94 rfl)) Via.refl e_29 f_38 (g := (mkF m 34 #[sR_ tx, sR_ ax, sI_ (2 : Int32), sI_ tl] [(.ref tx)])) rfl rfl (hb hby d_rm_hang1_34)
  refine Goes.go (U' := (T_51.setTop (mkF m 37 #[sR_ tx, sR_ ax, sI_ (2 : Int32), sI_ tl] [(.ref ns)]))) st_51 ?_
  refine Goes.go (U' := (T_51.setTop (mkF m 39 #[sR_ tx, sR_ ax, sI_ (2 : Int32), sI_ tl] [(.ref tx), (.int (2 : Int32)), (.ref ns)]))) (fun t kt => ?_) ?_
  · skip
    refine XS.iloadN X_51.here hx rfl (hb hby d_rm_hang1_37) rfl ?_
    refine XS.aloadN X_51.here hx rfl (hb hby d_rm_hang1_38) rfl rfl ?_
    exact kt
  obtain ⟨T_52, X_52, e_52, st_52⟩ := getF X_51 hx hZ hown (host := "") (Or.inl (wdOf hw 92 rfl)) Via.refl e_51 f_37 (g := (mkF m 39 #[sR_ tx, sR_ ax, sI_ (2 : Int32), sI_ tl] [(.ref tx), (.int (2 : Int32)), (.ref ns)])) rfl rfl (hb hby d_rm_hang1_39)
  refine Goes.go (U' := (T_52.setTop (mkF m 42 #[sR_ tx, sR_ ax, sI_ (2 : Int32), sI_ tl] [(.ref fc), (.int (2 : Int32)), (.ref ns)]))) st_52 ?_
  refine Goes.go (U' := (T_52.setTop (mkF m 43 #[sR_ tx, sR_ ax, sI_ (2 : Int32), sI_ tl] [(.int tl), (.ref fc), (.int (2 : Int32)), (.ref ns)]))) (fun t kt => ?_) ?_
  · skip
    refine XS.iloadN X_52.here hx rfl (hb hby d_rm_hang1_42) rfl ?_
    exact kt
  obtain ⟨cl_53, Ar_53, S_53, H_53⟩ := id f_46
  have hin_53 : ¬ (tl < 0 ∨ cl_53.slots.size ≤ (tl).toNatClampNeg) := inb_of S_53 htl
  obtain ⟨_, hat_53, i_53, rfl, bd_53⟩ := Bar.at H_53 hin_53
  refine Goes.go (U' := (T_52.setTop (mkF m 44 #[sR_ tx, sR_ ax, sI_ (2 : Int32), sI_ tl] [(.int i_53), (.int (2 : Int32)), (.ref ns)]))) (fun t kt => ?_) ?_
  · skip
    refine X_52.iaload hx (j := tl) (v := (.int i_53)) (by rw [e_52]; exact Ar_53.1) (State.isArrayOf_alike hZ.alike Ar_53.2.1) Ar_53.2.2 hin_53 hat_53 (g := (mkF m 43 #[sR_ tx, sR_ ax, sI_ (2 : Int32), sI_ tl] [(.int tl), (.ref fc), (.int (2 : Int32)), (.ref ns)])) rfl rfl (hb hby d_rm_hang1_43) _ ?_
    exact kt
  obtain ⟨cl_54, Ar_54, S_54, H_54⟩ := id f_45
  have hin_54 : ¬ ((2 : Int32) < 0 ∨ cl_54.slots.size ≤ ((2 : Int32)).toNatClampNeg) := inb_of S_54 ⟨by decide, by decide⟩
  obtain ⟨T_54, h_54, X_54, e_54, W_54, st_54⟩ := stI X_52 hx hZ e_52 Ar_54 (j := (2 : Int32)) hin_54 (g := (mkF m 44 #[sR_ tx, sR_ ax, sI_ (2 : Int32), sI_ tl] [(.int i_53), (.int (2 : Int32)), (.ref ns)])) rfl rfl (hb hby d_rm_hang1_44)
  have B_54 : Bar Z h_54 ns .int IntP := Bar.set Ar_54 S_54 H_54 W_54 (IntP.mk _)
  have N_54 := Fr.snoc X_54 N_29 o_ns
  have f_55 := f_30.wr W_54 o_ns
  have f_56 := f_31.wr W_54
  have f_57 := f_32.wr W_54
  have f_58 := f_33.other W_54 (Or.inl (f_32.neBar f_45 (wdOf hw 66 rfl)))
  have f_59 := f_34.other W_54 (Or.inl (f_32.neBar f_45 (wdOf hw 66 rfl)))
  have f_60 := f_35.other W_54 (Or.inl (f_32.neBar f_45 (wdOf hw 66 rfl)))
  have f_61 := f_36.other W_54 (Or.inl (f_32.neBar f_45 (wdOf hw 66 rfl)))
  have f_62 := f_37.other W_54 (Or.inl (f_32.neBar f_45 (wdOf hw 66 rfl)))
  have f_63 := f_38.other W_54 (Or.inl (f_32.neBar f_45 (wdOf hw 66 rfl)))
  have f_64 := f_39.other W_54 (Or.inl (f_32.neBar f_45 (wdOf hw 66 rfl)))
  have f_65 := f_40.other W_54 (Or.inl (f_32.neBar f_45 (wdOf hw 66 rfl)))
  have f_66 := f_41.other W_54 (Or.inl (f_32.neBar f_45 (wdOf hw 66 rfl)))
  have f_67 := f_42.other W_54 (Or.inl (f_32.neBar f_45 (wdOf hw 66 rfl)))
  have f_68 := f_43.other W_54 (Or.inl (f_32.neBar f_45 (wdOf hw 66 rfl)))
  have f_70 := f_46.other W_54 n_fc_ns
  have f_71 := f_47.other W_54 (Ne.symm n_ns_ps)
  have f_72 := f_48.other W_54 (Ne.symm n_ns_ch)
  have f_73 := f_49.other W_54 (f_49.neBar f_45 nofun)
  have f_74 := B_29.other W_54 (B_29.neT f_45 nofun)
  have y_75 : n0 ≤ h_54.size := Nat.le_trans (Nat.le_of_eq f_55.1.symm) f_55.2.1
  refine Goes.go (U' := (T_54.setTop (mkF m 45 #[sR_ tx, sR_ ax, sI_ (2 : Int32), sI_ tl] []))) st_54 ?_
  refine Goes.go (U' := (T_54.setTop (mkF m 46 #[sR_ tx, sR_ ax, sI_ (2 : Int32), sI_ tl] [(.ref tx)]))) (fun t kt => ?_) ?_
  · skip
    refine XS.aloadN X_54.here hx rfl (hb hby d_rm_hang1_45) rfl rfl ?_
    exact kt
  obtain ⟨T_76, X_76, e_76, st_76⟩ := getF X_54 hx hZ hown (host := "") (Or.inl (wdOf hw 92 rfl)) Via.refl e_54 f_62 (g := (mkF m 46 #[sR_ tx, sR_ ax, sI_ (2 : Int32), sI_ tl] [(.ref tx)])) rfl rfl (hb hby d_rm_hang1_46)
  refine Goes.go (U' := (T_76.setTop (mkF m 49 #[sR_ tx, sR_ ax, sI_ (2 : Int32), sI_ tl] [(.ref fc)]))) st_76 ?_
  refine Goes.go (U' := (T_76.setTop (mkF m 50 #[sR_ tx, sR_ ax, sI_ (2 : Int32), sI_ tl] [(.int tl), (.ref fc)]))) (fun t kt => ?_) ?_
  · skip
    refine XS.iloadN X_76.here hx rfl (hb hby d_rm_hang1_49) rfl ?_
    exact kt
  obtain ⟨cl_77, Ar_77, S_77, H_77⟩ := id f_70
  have hin_77 : ¬ (tl < 0 ∨ cl_77.slots.size ≤ (tl).toNatClampNeg) := inb_of S_77 htl
  obtain ⟨_, hat_77, i_77, rfl, bd_77⟩ := Bar.at H_77 hin_77
  refine Goes.go (U' := (T_76.setTop (mkF m 51 #[sR_ tx, sR_ ax, sI_ (2 : Int32), sI_ tl] [(.int i_77)]))) (fun t kt => ?_) ?_
  · skip
    refine X_76.iaload hx (j := tl) (v := (.int i_77)) (by rw [e_76]; exact Ar_77.1) (State.isArrayOf_alike hZ.alike Ar_77.2.1) Ar_77.2.2 hin_77 hat_77 (g := (mkF m 50 #[sR_ tx, sR_ ax, sI_ (2 : Int32), sI_ tl] [(.int tl), (.ref fc)])) rfl rfl (hb hby d_rm_hang1_50) _ ?_
    exact kt
  by_cases cf : i_77 = 0
  · -- i_77 = 0
    refine Goes.go (U' := (T_76.setTop (mkF m 67 #[sR_ tx, sR_ ax, sI_ (2 : Int32), sI_ tl] [(.ref tx)]))) (fun t kt => ?_) ?_
    · skip
      refine XS.ifYes X_76.here hx rfl (pc0 := 51) (pc' := 66) rfl (hb hby d_rm_hang1_51) rfl (XT.i0_eq_t cf) (by decide) (by decide) ?_
      refine XS.aloadN X_76.here hx rfl (hb hby d_rm_hang1_66) rfl rfl ?_
      exact kt
    obtain ⟨T_78, X_78, e_78, st_78⟩ := getF X_76 hx hZ hown (host := "") (Or.inl (wdOf hw 92 rfl)) Via.refl e_76 f_62 (g := (mkF m 67 #[sR_ tx, sR_ ax, sI_ (2 : Int32), sI_ tl] [(.ref tx)])) rfl rfl (hb hby d_rm_hang1_67)
    refine Goes.go (U' := (T_78.setTop (mkF m 70 #[sR_ tx, sR_ ax, sI_ (2 : Int32), sI_ tl] [(.ref fc)]))) st_78 ?_
    refine Goes.go (U' := (T_78.setTop (mkF m 72 #[sR_ tx, sR_ ax, sI_ (2 : Int32), sI_ tl] [(.int (2 : Int32)), (.int tl), (.ref fc)]))) (fun t kt => ?_) ?_
    · skip
      refine XS.iloadN X_78.here hx rfl (hb hby d_rm_hang1_70) rfl ?_
      refine XS.iloadN X_78.here hx rfl (hb hby d_rm_hang1_71) rfl ?_
      exact kt
    obtain ⟨cl_79, Ar_79, S_79, H_79⟩ := id f_70
    have hin_79 : ¬ (tl < 0 ∨ cl_79.slots.size ≤ (tl).toNatClampNeg) := inb_of S_79 htl
    obtain ⟨T_79, h_79, X_79, e_79, W_79, st_79⟩ := stI X_78 hx hZ e_78 Ar_79 (j := tl) hin_79 (g := (mkF m 72 #[sR_ tx, sR_ ax, sI_ (2 : Int32), sI_ tl] [(.int (2 : Int32)), (.int tl), (.ref fc)])) rfl rfl (hb hby d_rm_hang1_72)
    have B_79 : Bar Z h_79 fc .int IxP := Bar.set Ar_79 S_79 H_79 W_79 ⟨_, rfl, by decide, by decide⟩
    have N_79 := Fr.snoc X_79 N_54 o_fc
    have f_80 := f_55.wr W_79 o_fc
    have f_81 := f_56.wr W_79
    have f_82 := f_57.wr W_79
    have f_83 := f_58.other W_79 (Or.inl (f_57.neBar f_70 (wdOf hw 66 rfl)))
    have f_84 := f_59.other W_79 (Or.inl (f_57.neBar f_70 (wdOf hw 66 rfl)))
    have f_85 := f_60.other W_79 (Or.inl (f_57.neBar f_70 (wdOf hw 66 rfl)))
    have f_86 := f_61.other W_79 (Or.inl (f_57.neBar f_70 (wdOf hw 66 rfl)))
    have f_87 := f_62.other W_79 (Or.inl (f_57.neBar f_70 (wdOf hw 66 rfl)))
    have f_88 := f_63.other W_79 (Or.inl (f_57.neBar f_70 (wdOf hw 66 rfl)))
    have f_89 := f_64.other W_79 (Or.inl (f_57.neBar f_70 (wdOf hw 66 rfl)))
    have f_90 := f_65.other W_79 (Or.inl (f_57.neBar f_70 (wdOf hw 66 rfl)))
    have f_91 := f_66.other W_79 (Or.inl (f_57.neBar f_70 (wdOf hw 66 rfl)))
    have f_92 := f_67.other W_79 (Or.inl (f_57.neBar f_70 (wdOf hw 66 rfl)))
    have f_93 := f_68.other W_79 (Or.inl (f_57.neBar f_70 (wdOf hw 66 rfl)))
    have f_95 := f_71.other W_79 (Ne.symm n_fc_ps)
    have f_96 := f_72.other W_79 (Ne.symm n_fc_ch)
    have f_97 := f_73.other W_79 (f_73.neBar f_70 nofun)
    have f_98 := f_74.other W_79 (f_74.neT f_70 nofun)
    have f_99 := B_54.other W_79 (Ne.symm n_fc_ns)
    have y_100 : n0 ≤ h_79.size := Nat.le_trans (Nat.le_of_eq f_80.1.symm) f_80.2.1
    refine Goes.go (U' := (T_79.setTop (mkF m 73 #[sR_ tx, sR_ ax, sI_ (2 : Int32), sI_ tl] []))) st_79 ?_
    refine Goes.go (U' := (T_79.setTop (mkF m 75 #[sR_ tx, sR_ ax, sI_ (2 : Int32), sI_ tl] [(.ref tx), (.ref tx)]))) (fun t kt => ?_) ?_
    · skip
      refine XS.aloadN X_79.here hx rfl (hb hby d_rm_hang1_73) rfl rfl ?_
      refine XS.dup X_79.here hx rfl (hb hby d_rm_hang1_74) rfl rfl ?_
      exact kt
    obtain ⟨T_101, X_101, e_101, st_101⟩ := getF X_79 hx hZ hown (host := "") (Or.inl (wdOf hw 78 rfl)) Via.refl e_79 f_83 (g := (mkF m 75 #[sR_ tx, sR_ ax, sI_ (2 : Int32), sI_ tl] [(.ref tx), (.ref tx)])) rfl rfl (hb hby d_rm_hang1_75)
    refine Goes.go (U' := (T_101.setTop (mkF m 78 #[sR_ tx, sR_ ax, sI_ (2 : Int32), sI_ tl] [(.int sz), (.ref tx)]))) st_101 ?_
    refine Goes.go (U' := (T_101.setTop (mkF m 80 #[sR_ tx, sR_ ax, sI_ (2 : Int32), sI_ tl] [(.int (sz + (1 : Int32))), (.ref tx)]))) (fun t kt => ?_) ?_
    · skip
      refine XS.iconst X_101.here hx rfl (hb hby d_rm_hang1_78) ?_
      refine XS.iadd X_101.here hx rfl (hb hby d_rm_hang1_79) rfl ?_
      exact kt
    obtain ⟨T_102, h_102, X_102, e_102, W_102, st_102⟩ := putF X_101 hx hZ hown (host := "") (Or.inl (wdOf hw 78 rfl)) Via.refl e_101 f_83 f_82 (Or.inl (wdOf hw 79 rfl)) (wdOf hw 66 rfl) (ty := .int) (by decide) rfl rfl (g := (mkF m 80 #[sR_ tx, sR_ ax, sI_ (2 : Int32), sI_ tl] [(.int (sz + (1 : Int32))), (.ref tx)])) rfl rfl (hb hby d_rm_hang1_80)
    have N_102 := Fr.snoc X_102 N_79 o_tx
    have f_103 := f_80.wr W_102 o_tx
    have f_104 := f_81.wr W_102
    have f_105 := f_82.wr W_102
    have f_106 := f_83.same W_102
    have f_107 := f_84.other W_102 (Or.inr (slot_ne (Or.inr (wdOf hw 81 rfl)) (Or.inl (wdOf hw 79 rfl)) (by decide) (t := .int) (t' := .int) (by decide) (by decide)))
    have f_108 := f_85.other W_102 (Or.inr (slot_ne (Or.inr (wdOf hw 85 rfl)) (Or.inl (wdOf hw 79 rfl)) (by decide) (t := (.array (.object "com/example/copse/copse/Arc"))) (t' := .int) (by decide) (by decide)))
    have f_109 := f_86.other W_102 (Or.inr (slot_ne (Or.inr (wdOf hw 88 rfl)) (Or.inl (wdOf hw 79 rfl)) (by decide) (t := (.array .int)) (t' := .int) (by decide) (by decide)))
    have f_110 := f_87.other W_102 (Or.inr (slot_ne (Or.inr (wdOf hw 93 rfl)) (Or.inl (wdOf hw 79 rfl)) (by decide) (t := (.array .int)) (t' := .int) (by decide) (by decide)))
    have f_111 := f_88.other W_102 (Or.inr (slot_ne (Or.inr (wdOf hw 95 rfl)) (Or.inl (wdOf hw 79 rfl)) (by decide) (t := (.array .int)) (t' := .int) (by decide) (by decide)))
    have f_112 := f_89.other W_102 (Or.inr (slot_ne (Or.inr (wdOf hw 97 rfl)) (Or.inl (wdOf hw 79 rfl)) (by decide) (t := (.array .int)) (t' := .int) (by decide) (by decide)))
    have f_113 := f_90.other W_102 (Or.inr (slot_ne (Or.inr (wdOf hw 99 rfl)) (Or.inl (wdOf hw 79 rfl)) (by decide) (t := (.object "java/util/function/Predicate")) (t' := .int) (by decide) (by decide)))
    have f_114 := f_91.other W_102 (Or.inr (slot_ne (Or.inr (wdOf hw 101 rfl)) (Or.inl (wdOf hw 79 rfl)) (by decide) (t := (.array .boolean)) (t' := .int) (by decide) (by decide)))
    have f_115 := f_92.other W_102 (Or.inr (slot_ne (Or.inl (wdOf hw 214 rfl)) (Or.inl (wdOf hw 79 rfl)) (by decide) (t := .long) (t' := .int) (by decide) (by decide)))
    have f_116 := f_93.other W_102 (Or.inr (slot_ne (Or.inl (wdOf hw 220 rfl)) (Or.inl (wdOf hw 79 rfl)) (by decide) (t := (.object "com/example/copse/copse/LinkCutForest")) (t' := .int) (by decide) (by decide)))
    have f_117 := f_95.other W_102 (Ne.symm (f_82.neBar f_95 (wdOf hw 66 rfl)))
    have f_118 := f_96.other W_102 (Ne.symm (f_82.neBar f_96 (wdOf hw 66 rfl)))
    have f_119 := f_97.other W_102 (Ne.symm (f_82.neArv f_97 (wdOf hw 66 rfl)))
    have f_120 := f_98.other W_102 (Ne.symm (f_82.neBar f_98 (wdOf hw 66 rfl)))
    have f_121 := f_99.other W_102 (Ne.symm (f_82.neBar f_99 (wdOf hw 66 rfl)))
    have f_122 := B_79.other W_102 (Ne.symm (f_82.neBar B_79 (wdOf hw 66 rfl)))
    have y_123 : n0 ≤ h_102.size := Nat.le_trans (Nat.le_of_eq f_103.1.symm) f_103.2.1
    refine Goes.go (U' := (T_102.setTop (mkF m 83 #[sR_ tx, sR_ ax, sI_ (2 : Int32), sI_ tl] []))) st_102 ?_
    refine Goes.go (U' := (T_102.setTop (mkF m 85 #[sR_ tx, sR_ ax, sI_ (2 : Int32), sI_ tl] [(.ref tx), (.ref tx)]))) (fun t kt => ?_) ?_
    · skip
      refine XS.aloadN X_102.here hx rfl (hb hby d_rm_hang1_83) rfl rfl ?_
      refine XS.dup X_102.here hx rfl (hb hby d_rm_hang1_84) rfl rfl ?_
      exact kt
    obtain ⟨T_124, X_124, e_124, st_124⟩ := getF X_102 hx hZ hown (host := "") (Or.inl (wdOf hw 213 rfl)) Via.refl e_102 f_115 (g := (mkF m 85 #[sR_ tx, sR_ ax, sI_ (2 : Int32), sI_ tl] [(.ref tx), (.ref tx)])) rfl rfl (hb hby d_rm_hang1_85)
    refine Goes.go (U' := (T_124.setTop (mkF m 88 #[sR_ tx, sR_ ax, sI_ (2 : Int32), sI_ tl] [(.long cg), (.ref tx)]))) st_124 ?_
    refine Goes.go (U' := (T_124.setTop (mkF m 90 #[sR_ tx, sR_ ax, sI_ (2 : Int32), sI_ tl] [(.long (cg + (1 : Int64))), (.ref tx)]))) (fun t kt => ?_) ?_
    · skip
      refine XS.lconst X_124.here hx rfl (hb hby d_rm_hang1_88) ?_
      refine XS.ladd X_124.here hx rfl (hb hby d_rm_hang1_89) rfl ?_
      exact kt
    obtain ⟨T_125, h_125, X_125, e_125, W_125, st_125⟩ := putF X_124 hx hZ hown (host := "") (Or.inl (wdOf hw 213 rfl)) Via.refl e_124 f_115 f_105 (Or.inl (wdOf hw 214 rfl)) (wdOf hw 66 rfl) (ty := .long) (by decide) rfl rfl (g := (mkF m 90 #[sR_ tx, sR_ ax, sI_ (2 : Int32), sI_ tl] [(.long (cg + (1 : Int64))), (.ref tx)])) rfl rfl (hb hby d_rm_hang1_90)
    have N_125 := Fr.snoc X_125 N_102 o_tx
    have f_126 := f_103.wr W_125 o_tx
    have f_127 := f_104.wr W_125
    have f_128 := f_105.wr W_125
    have f_129 := f_106.other W_125 (Or.inr (slot_ne (Or.inl (wdOf hw 79 rfl)) (Or.inl (wdOf hw 214 rfl)) (by decide) (t := .int) (t' := .long) (by decide) (by decide)))
    have f_130 := f_107.other W_125 (Or.inr (slot_ne (Or.inr (wdOf hw 81 rfl)) (Or.inl (wdOf hw 214 rfl)) (by decide) (t := .int) (t' := .long) (by decide) (by decide)))
    have f_131 := f_108.other W_125 (Or.inr (slot_ne (Or.inr (wdOf hw 85 rfl)) (Or.inl (wdOf hw 214 rfl)) (by decide) (t := (.array (.object "com/example/copse/copse/Arc"))) (t' := .long) (by decide) (by decide)))
    have f_132 := f_109.other W_125 (Or.inr (slot_ne (Or.inr (wdOf hw 88 rfl)) (Or.inl (wdOf hw 214 rfl)) (by decide) (t := (.array .int)) (t' := .long) (by decide) (by decide)))
    have f_133 := f_110.other W_125 (Or.inr (slot_ne (Or.inr (wdOf hw 93 rfl)) (Or.inl (wdOf hw 214 rfl)) (by decide) (t := (.array .int)) (t' := .long) (by decide) (by decide)))
    have f_134 := f_111.other W_125 (Or.inr (slot_ne (Or.inr (wdOf hw 95 rfl)) (Or.inl (wdOf hw 214 rfl)) (by decide) (t := (.array .int)) (t' := .long) (by decide) (by decide)))
    have f_135 := f_112.other W_125 (Or.inr (slot_ne (Or.inr (wdOf hw 97 rfl)) (Or.inl (wdOf hw 214 rfl)) (by decide) (t := (.array .int)) (t' := .long) (by decide) (by decide)))
    have f_136 := f_113.other W_125 (Or.inr (slot_ne (Or.inr (wdOf hw 99 rfl)) (Or.inl (wdOf hw 214 rfl)) (by decide) (t := (.object "java/util/function/Predicate")) (t' := .long) (by decide) (by decide)))
    have f_137 := f_114.other W_125 (Or.inr (slot_ne (Or.inr (wdOf hw 101 rfl)) (Or.inl (wdOf hw 214 rfl)) (by decide) (t := (.array .boolean)) (t' := .long) (by decide) (by decide)))
    have f_138 := f_115.same W_125
    have f_139 := f_116.other W_125 (Or.inr (slot_ne (Or.inl (wdOf hw 220 rfl)) (Or.inl (wdOf hw 214 rfl)) (by decide) (t := (.object "com/example/copse/copse/LinkCutForest")) (t' := .long) (by decide) (by decide)))
    have f_140 := f_117.other W_125 (Ne.symm (f_105.neBar f_117 (wdOf hw 66 rfl)))
    have f_141 := f_118.other W_125 (Ne.symm (f_105.neBar f_118 (wdOf hw 66 rfl)))
    have f_142 := f_119.other W_125 (Ne.symm (f_105.neArv f_119 (wdOf hw 66 rfl)))
    have f_143 := f_120.other W_125 (Ne.symm (f_105.neBar f_120 (wdOf hw 66 rfl)))
    have f_144 := f_121.other W_125 (Ne.symm (f_105.neBar f_121 (wdOf hw 66 rfl)))
    have f_145 := f_122.other W_125 (Ne.symm (f_105.neBar f_122 (wdOf hw 66 rfl)))
    have y_146 : n0 ≤ h_125.size := Nat.le_trans (Nat.le_of_eq f_126.1.symm) f_126.2.1
    refine Goes.go (U' := (T_125.setTop (mkF m 93 #[sR_ tx, sR_ ax, sI_ (2 : Int32), sI_ tl] []))) st_125 ?_
    refine Goes.go (U' := (T_125.setTop (mkF m 96 #[sR_ tx, sR_ ax, sI_ (2 : Int32), sI_ tl] [(.int (1 : Int32)), (.int tl), (.ref tx)]))) (fun t kt => ?_) ?_
    · skip
      refine XS.aloadN X_125.here hx rfl (hb hby d_rm_hang1_93) rfl rfl ?_
      refine XS.iloadN X_125.here hx rfl (hb hby d_rm_hang1_94) rfl ?_
      refine XS.iconst X_125.here hx rfl (hb hby d_rm_hang1_95) ?_
      exact kt
    obtain ⟨v_147, T_147, L_147, X_147, q_147, st_147⟩ := callPrivate X_125 hx hZ (y := (⟨"com/example/copse/copse/HangingTree", "countChildren", "(II)V"⟩ : MethodName)) (W := 0) hown (wdOf hw 215 rfl) (wdOf hw 216 rfl) (wdOf hw 217 rfl) (wdOf hw 66 rfl) (wdOf hw 67 rfl) (wdOf hw 218 rfl) (by decide) (rm_cc l Z a0 hw [] tx ch tl h_125 n0 y_146 o_ch htl (f_128.neBar f_141 (wdOf hw 66 rfl)) f_132 f_139 f_141) (by decide) (by decide) (by decide) (by decide) e_125 f_128 (g := (mkF m 96 #[sR_ tx, sR_ ax, sI_ (2 : Int32), sI_ tl] [(.int (1 : Int32)), (.int tl), (.ref tx)])) rfl (by rw [hml]; rfl) (argsL := [(.int tl), (.int (1 : Int32))]) (rest := []) (lenOf pd_7 rfl) rfl rfl (Nat.le_refl _) (hb hby d_rm_hang1_96)
    obtain ⟨rfl, n_147, K_147, Bq_147⟩ := q_147
    have N_147 := Fr.app N_125 n_147
    have f_148 := f_126.keep K_147 (allS o_ch all0)
    have f_149 := f_127.keep K_147
    have f_150 := f_128.keep K_147
    have f_151 := f_129.keep K_147 (ninS (f_128.neBar f_141 (wdOf hw 66 rfl)) nin0)
    have f_152 := f_130.keep K_147 (ninS (f_128.neBar f_141 (wdOf hw 66 rfl)) nin0)
    have f_153 := f_131.keep K_147 (ninS (f_128.neBar f_141 (wdOf hw 66 rfl)) nin0)
    have f_154 := f_132.keep K_147 (ninS (f_128.neBar f_141 (wdOf hw 66 rfl)) nin0)
    have f_155 := f_133.keep K_147 (ninS (f_128.neBar f_141 (wdOf hw 66 rfl)) nin0)
    have f_156 := f_134.keep K_147 (ninS (f_128.neBar f_141 (wdOf hw 66 rfl)) nin0)
    have f_157 := f_135.keep K_147 (ninS (f_128.neBar f_141 (wdOf hw 66 rfl)) nin0)
    have f_158 := f_136.keep K_147 (ninS (f_128.neBar f_141 (wdOf hw 66 rfl)) nin0)
    have f_159 := f_137.keep K_147 (ninS (f_128.neBar f_141 (wdOf hw 66 rfl)) nin0)
    have f_160 := f_138.keep K_147 (ninS (f_128.neBar f_141 (wdOf hw 66 rfl)) nin0)
    have f_161 := f_139.keep K_147 (ninS (f_128.neBar f_141 (wdOf hw 66 rfl)) nin0)
    have f_162 := f_140.keep K_147 (ninS n_ps_ch nin0)
    have f_164 := f_142.keep K_147 (ninS (f_142.neBar f_141 nofun) nin0)
    have f_165 := f_143.keep K_147 (ninS (f_143.neT f_141 nofun) nin0)
    have f_166 := f_144.keep K_147 (ninS n_ns_ch nin0)
    have f_167 := f_145.keep K_147 (ninS n_fc_ch nin0)
    have y_168 : n0 ≤ T_147.heap.size := Nat.le_trans (Nat.le_of_eq f_148.1.symm) f_148.2.1
    refine Goes.go (U' := (T_147.setTop (mkF m 99 #[sR_ tx, sR_ ax, sI_ (2 : Int32), sI_ tl] []))) st_147 ?_
    refine Goes.go (U' := (T_147.setTop (mkF m 100 #[sR_ tx, sR_ ax, sI_ (2 : Int32), sI_ tl] [(.ref tx)]))) (fun t kt => ?_) ?_
    · skip
      refine XS.aloadN X_147.here hx rfl (hb hby d_rm_hang1_99) rfl rfl ?_
      exact kt
    obtain ⟨T_169, X_169, e_169, st_169⟩ := getF X_147 hx hZ hown (host := "") (Or.inl (wdOf hw 219 rfl)) Via.refl (rfl : T_147.heap = T_147.heap) f_161 (g := (mkF m 100 #[sR_ tx, sR_ ax, sI_ (2 : Int32), sI_ tl] [(.ref tx)])) rfl rfl (hb hby d_rm_hang1_100)
    refine Goes.go (U' := (T_169.setTop (mkF m 103 #[sR_ tx, sR_ ax, sI_ (2 : Int32), sI_ tl] [.null]))) st_169 ?_
    refine Goes.go (U' := (T_169.setTop (mkF m 119 #[sR_ tx, sR_ ax, sI_ (2 : Int32), sI_ tl] []))) (fun t kt => ?_) ?_
    · skip
      refine XS.ifnullYes X_169.here hx rfl (pc0 := 103) (pc' := 119) rfl (hb hby d_rm_hang1_103) rfl (by decide) (by decide) ?_
      exact kt
    refine Goes.retV X_169 hx hlk hret (hb hby d_rm_hang1_119) (by decide) (by decide) ?_
    try rw [e_169]
    exact ⟨rfl, N_147, f_148, ⟨_, _, _, _, _, _, _, _, _, f_150, f_151, f_152, f_153, f_154, f_155, f_156, f_157, f_158, f_159, f_160, f_161, f_164, f_165, f_166, f_167, f_162, Bq_147, Ov, ⟨o_tx, o_ho, o_ch, o_fc, o_ns, o_ps, o_tu⟩, ⟨n_fc_ns, n_fc_ps, n_fc_ch, n_ns_ps, n_ns_ch, n_ps_ch⟩⟩⟩
  · -- not i_77 = 0
    refine Goes.go (U' := (T_76.setTop (mkF m 55 #[sR_ tx, sR_ ax, sI_ (2 : Int32), sI_ tl] [(.ref tx)]))) (fun t kt => ?_) ?_
    · skip
      refine XS.ifNo X_76.here hx rfl (hb hby d_rm_hang1_51) rfl (XT.i0_eq_f cf) ?_
      refine XS.aloadN X_76.here hx rfl (hb hby d_rm_hang1_54) rfl rfl ?_
      exact kt
    obtain ⟨T_170, X_170, e_170, st_170⟩ := getF X_76 hx hZ hown (host := "") (Or.inl (wdOf hw 96 rfl)) Via.refl e_76 f_64 (g := (mkF m 55 #[sR_ tx, sR_ ax, sI_ (2 : Int32), sI_ tl] [(.ref tx)])) rfl rfl (hb hby d_rm_hang1_55)
    refine Goes.go (U' := (T_170.setTop (mkF m 58 #[sR_ tx, sR_ ax, sI_ (2 : Int32), sI_ tl] [(.ref ps)]))) st_170 ?_
    refine Goes.go (U' := (T_170.setTop (mkF m 59 #[sR_ tx, sR_ ax, sI_ (2 : Int32), sI_ tl] [(.ref tx), (.ref ps)]))) (fun t kt => ?_) ?_
    · skip
      refine XS.aloadN X_170.here hx rfl (hb hby d_rm_hang1_58) rfl rfl ?_
      exact kt
    obtain ⟨T_171, X_171, e_171, st_171⟩ := getF X_170 hx hZ hown (host := "") (Or.inl (wdOf hw 92 rfl)) Via.refl e_170 f_62 (g := (mkF m 59 #[sR_ tx, sR_ ax, sI_ (2 : Int32), sI_ tl] [(.ref tx), (.ref ps)])) rfl rfl (hb hby d_rm_hang1_59)
    refine Goes.go (U' := (T_171.setTop (mkF m 62 #[sR_ tx, sR_ ax, sI_ (2 : Int32), sI_ tl] [(.ref fc), (.ref ps)]))) st_171 ?_
    refine Goes.go (U' := (T_171.setTop (mkF m 63 #[sR_ tx, sR_ ax, sI_ (2 : Int32), sI_ tl] [(.int tl), (.ref fc), (.ref ps)]))) (fun t kt => ?_) ?_
    · skip
      refine XS.iloadN X_171.here hx rfl (hb hby d_rm_hang1_62) rfl ?_
      exact kt
    obtain ⟨cl_172, Ar_172, S_172, H_172⟩ := id f_70
    have hin_172 : ¬ (tl < 0 ∨ cl_172.slots.size ≤ (tl).toNatClampNeg) := inb_of S_172 htl
    obtain ⟨_, hat_172, i_172, rfl, bd_172⟩ := Bar.at H_172 hin_172
    refine Goes.go (U' := (T_171.setTop (mkF m 64 #[sR_ tx, sR_ ax, sI_ (2 : Int32), sI_ tl] [(.int i_172), (.ref ps)]))) (fun t kt => ?_) ?_
    · skip
      refine X_171.iaload hx (j := tl) (v := (.int i_172)) (by rw [e_171]; exact Ar_172.1) (State.isArrayOf_alike hZ.alike Ar_172.2.1) Ar_172.2.2 hin_172 hat_172 (g := (mkF m 63 #[sR_ tx, sR_ ax, sI_ (2 : Int32), sI_ tl] [(.int tl), (.ref fc), (.ref ps)])) rfl rfl (hb hby d_rm_hang1_63) _ ?_
      exact kt
    refine Goes.go (U' := (T_171.setTop (mkF m 65 #[sR_ tx, sR_ ax, sI_ (2 : Int32), sI_ tl] [(.int (2 : Int32)), (.int i_172), (.ref ps)]))) (fun t kt => ?_) ?_
    · skip
      refine XS.iloadN X_171.here hx rfl (hb hby d_rm_hang1_64) rfl ?_
      exact kt
    obtain ⟨cl_173, Ar_173, S_173, H_173⟩ := id f_71
    have hin_173 : ¬ (i_172 < 0 ∨ cl_173.slots.size ≤ (i_172).toNatClampNeg) := inb_of S_173 bd_172
    obtain ⟨T_173, h_173, X_173, e_173, W_173, st_173⟩ := stI X_171 hx hZ e_171 Ar_173 (j := i_172) hin_173 (g := (mkF m 65 #[sR_ tx, sR_ ax, sI_ (2 : Int32), sI_ tl] [(.int (2 : Int32)), (.int i_172), (.ref ps)])) rfl rfl (hb hby d_rm_hang1_65)
    have B_173 : Bar Z h_173 ps .int IntP := Bar.set Ar_173 S_173 H_173 W_173 (IntP.mk _)
    have N_173 := Fr.snoc X_173 N_54 o_ps
    have f_174 := f_55.wr W_173 o_ps
    have f_175 := f_56.wr W_173
    have f_176 := f_57.wr W_173
    have f_177 := f_58.other W_173 (Or.inl (f_57.neBar f_71 (wdOf hw 66 rfl)))
    have f_178 := f_59.other W_173 (Or.inl (f_57.neBar f_71 (wdOf hw 66 rfl)))
    have f_179 := f_60.other W_173 (Or.inl (f_57.neBar f_71 (wdOf hw 66 rfl)))
    have f_180 := f_61.other W_173 (Or.inl (f_57.neBar f_71 (wdOf hw 66 rfl)))
    have f_181 := f_62.other W_173 (Or.inl (f_57.neBar f_71 (wdOf hw 66 rfl)))
    have f_182 := f_63.other W_173 (Or.inl (f_57.neBar f_71 (wdOf hw 66 rfl)))
    have f_183 := f_64.other W_173 (Or.inl (f_57.neBar f_71 (wdOf hw 66 rfl)))
    have f_184 := f_65.other W_173 (Or.inl (f_57.neBar f_71 (wdOf hw 66 rfl)))
    have f_185 := f_66.other W_173 (Or.inl (f_57.neBar f_71 (wdOf hw 66 rfl)))
    have f_186 := f_67.other W_173 (Or.inl (f_57.neBar f_71 (wdOf hw 66 rfl)))
    have f_187 := f_68.other W_173 (Or.inl (f_57.neBar f_71 (wdOf hw 66 rfl)))
    have f_188 := f_70.other W_173 n_fc_ps
    have f_190 := f_72.other W_173 (Ne.symm n_ps_ch)
    have f_191 := f_73.other W_173 (f_73.neBar f_71 nofun)
    have f_192 := f_74.other W_173 (f_74.neT f_71 nofun)
    have f_193 := B_54.other W_173 n_ns_ps
    have y_194 : n0 ≤ h_173.size := Nat.le_trans (Nat.le_of_eq f_174.1.symm) f_174.2.1
    refine Goes.go (U' := (T_173.setTop (mkF m 66 #[sR_ tx, sR_ ax, sI_ (2 : Int32), sI_ tl] []))) st_173 ?_
    refine Goes.go (U' := (T_173.setTop (mkF m 67 #[sR_ tx, sR_ ax, sI_ (2 : Int32), sI_ tl] [(.ref tx)]))) (fun t kt => ?_) ?_
    · skip
      refine XS.aloadN X_173.here hx rfl (hb hby d_rm_hang1_66) rfl rfl ?_
      exact kt
    obtain ⟨T_195, X_195, e_195, st_195⟩ := getF X_173 hx hZ hown (host := "") (Or.inl (wdOf hw 92 rfl)) Via.refl e_173 f_181 (g := (mkF m 67 #[sR_ tx, sR_ ax, sI_ (2 : Int32), sI_ tl] [(.ref tx)])) rfl rfl (hb hby d_rm_hang1_67)
    refine Goes.go (U' := (T_195.setTop (mkF m 70 #[sR_ tx, sR_ ax, sI_ (2 : Int32), sI_ tl] [(.ref fc)]))) st_195 ?_
    refine Goes.go (U' := (T_195.setTop (mkF m 72 #[sR_ tx, sR_ ax, sI_ (2 : Int32), sI_ tl] [(.int (2 : Int32)), (.int tl), (.ref fc)]))) (fun t kt => ?_) ?_
    · skip
      refine XS.iloadN X_195.here hx rfl (hb hby d_rm_hang1_70) rfl ?_
      refine XS.iloadN X_195.here hx rfl (hb hby d_rm_hang1_71) rfl ?_
      exact kt
    obtain ⟨cl_196, Ar_196, S_196, H_196⟩ := id f_188
    have hin_196 : ¬ (tl < 0 ∨ cl_196.slots.size ≤ (tl).toNatClampNeg) := inb_of S_196 htl
    obtain ⟨T_196, h_196, X_196, e_196, W_196, st_196⟩ := stI X_195 hx hZ e_195 Ar_196 (j := tl) hin_196 (g := (mkF m 72 #[sR_ tx, sR_ ax, sI_ (2 : Int32), sI_ tl] [(.int (2 : Int32)), (.int tl), (.ref fc)])) rfl rfl (hb hby d_rm_hang1_72)
    have B_196 : Bar Z h_196 fc .int IxP := Bar.set Ar_196 S_196 H_196 W_196 ⟨_, rfl, by decide, by decide⟩
    have N_196 := Fr.snoc X_196 N_173 o_fc
    have f_197 := f_174.wr W_196 o_fc
    have f_198 := f_175.wr W_196
    have f_199 := f_176.wr W_196
    have f_200 := f_177.other W_196 (Or.inl (f_176.neBar f_188 (wdOf hw 66 rfl)))
    have f_201 := f_178.other W_196 (Or.inl (f_176.neBar f_188 (wdOf hw 66 rfl)))
    have f_202 := f_179.other W_196 (Or.inl (f_176.neBar f_188 (wdOf hw 66 rfl)))
    have f_203 := f_180.other W_196 (Or.inl (f_176.neBar f_188 (wdOf hw 66 rfl)))
    have f_204 := f_181.other W_196 (Or.inl (f_176.neBar f_188 (wdOf hw 66 rfl)))
    have f_205 := f_182.other W_196 (Or.inl (f_176.neBar f_188 (wdOf hw 66 rfl)))
    have f_206 := f_183.other W_196 (Or.inl (f_176.neBar f_188 (wdOf hw 66 rfl)))
    have f_207 := f_184.other W_196 (Or.inl (f_176.neBar f_188 (wdOf hw 66 rfl)))
    have f_208 := f_185.other W_196 (Or.inl (f_176.neBar f_188 (wdOf hw 66 rfl)))
    have f_209 := f_186.other W_196 (Or.inl (f_176.neBar f_188 (wdOf hw 66 rfl)))
    have f_210 := f_187.other W_196 (Or.inl (f_176.neBar f_188 (wdOf hw 66 rfl)))
    have f_212 := f_190.other W_196 (Ne.symm n_fc_ch)
    have f_213 := f_191.other W_196 (f_191.neBar f_188 nofun)
    have f_214 := f_192.other W_196 (f_192.neT f_188 nofun)
    have f_215 := f_193.other W_196 (Ne.symm n_fc_ns)
    have f_216 := B_173.other W_196 (Ne.symm n_fc_ps)
    have y_217 : n0 ≤ h_196.size := Nat.le_trans (Nat.le_of_eq f_197.1.symm) f_197.2.1
    refine Goes.go (U' := (T_196.setTop (mkF m 73 #[sR_ tx, sR_ ax, sI_ (2 : Int32), sI_ tl] []))) st_196 ?_
    refine Goes.go (U' := (T_196.setTop (mkF m 75 #[sR_ tx, sR_ ax, sI_ (2 : Int32), sI_ tl] [(.ref tx), (.ref tx)]))) (fun t kt => ?_) ?_
    · skip
      refine XS.aloadN X_196.here hx rfl (hb hby d_rm_hang1_73) rfl rfl ?_
      refine XS.dup X_196.here hx rfl (hb hby d_rm_hang1_74) rfl rfl ?_
      exact kt
    obtain ⟨T_218, X_218, e_218, st_218⟩ := getF X_196 hx hZ hown (host := "") (Or.inl (wdOf hw 78 rfl)) Via.refl e_196 f_200 (g := (mkF m 75 #[sR_ tx, sR_ ax, sI_ (2 : Int32), sI_ tl] [(.ref tx), (.ref tx)])) rfl rfl (hb hby d_rm_hang1_75)
    refine Goes.go (U' := (T_218.setTop (mkF m 78 #[sR_ tx, sR_ ax, sI_ (2 : Int32), sI_ tl] [(.int sz), (.ref tx)]))) st_218 ?_
    refine Goes.go (U' := (T_218.setTop (mkF m 80 #[sR_ tx, sR_ ax, sI_ (2 : Int32), sI_ tl] [(.int (sz + (1 : Int32))), (.ref tx)]))) (fun t kt => ?_) ?_
    · skip
      refine XS.iconst X_218.here hx rfl (hb hby d_rm_hang1_78) ?_
      refine XS.iadd X_218.here hx rfl (hb hby d_rm_hang1_79) rfl ?_
      exact kt
    obtain ⟨T_219, h_219, X_219, e_219, W_219, st_219⟩ := putF X_218 hx hZ hown (host := "") (Or.inl (wdOf hw 78 rfl)) Via.refl e_218 f_200 f_199 (Or.inl (wdOf hw 79 rfl)) (wdOf hw 66 rfl) (ty := .int) (by decide) rfl rfl (g := (mkF m 80 #[sR_ tx, sR_ ax, sI_ (2 : Int32), sI_ tl] [(.int (sz + (1 : Int32))), (.ref tx)])) rfl rfl (hb hby d_rm_hang1_80)
    have N_219 := Fr.snoc X_219 N_196 o_tx
    have f_220 := f_197.wr W_219 o_tx
    have f_221 := f_198.wr W_219
    have f_222 := f_199.wr W_219
    have f_223 := f_200.same W_219
    have f_224 := f_201.other W_219 (Or.inr (slot_ne (Or.inr (wdOf hw 81 rfl)) (Or.inl (wdOf hw 79 rfl)) (by decide) (t := .int) (t' := .int) (by decide) (by decide)))
    have f_225 := f_202.other W_219 (Or.inr (slot_ne (Or.inr (wdOf hw 85 rfl)) (Or.inl (wdOf hw 79 rfl)) (by decide) (t := (.array (.object "com/example/copse/copse/Arc"))) (t' := .int) (by decide) (by decide)))
    have f_226 := f_203.other W_219 (Or.inr (slot_ne (Or.inr (wdOf hw 88 rfl)) (Or.inl (wdOf hw 79 rfl)) (by decide) (t := (.array .int)) (t' := .int) (by decide) (by decide)))
    have f_227 := f_204.other W_219 (Or.inr (slot_ne (Or.inr (wdOf hw 93 rfl)) (Or.inl (wdOf hw 79 rfl)) (by decide) (t := (.array .int)) (t' := .int) (by decide) (by decide)))
    have f_228 := f_205.other W_219 (Or.inr (slot_ne (Or.inr (wdOf hw 95 rfl)) (Or.inl (wdOf hw 79 rfl)) (by decide) (t := (.array .int)) (t' := .int) (by decide) (by decide)))
    have f_229 := f_206.other W_219 (Or.inr (slot_ne (Or.inr (wdOf hw 97 rfl)) (Or.inl (wdOf hw 79 rfl)) (by decide) (t := (.array .int)) (t' := .int) (by decide) (by decide)))
    have f_230 := f_207.other W_219 (Or.inr (slot_ne (Or.inr (wdOf hw 99 rfl)) (Or.inl (wdOf hw 79 rfl)) (by decide) (t := (.object "java/util/function/Predicate")) (t' := .int) (by decide) (by decide)))
    have f_231 := f_208.other W_219 (Or.inr (slot_ne (Or.inr (wdOf hw 101 rfl)) (Or.inl (wdOf hw 79 rfl)) (by decide) (t := (.array .boolean)) (t' := .int) (by decide) (by decide)))
    have f_232 := f_209.other W_219 (Or.inr (slot_ne (Or.inl (wdOf hw 214 rfl)) (Or.inl (wdOf hw 79 rfl)) (by decide) (t := .long) (t' := .int) (by decide) (by decide)))
    have f_233 := f_210.other W_219 (Or.inr (slot_ne (Or.inl (wdOf hw 220 rfl)) (Or.inl (wdOf hw 79 rfl)) (by decide) (t := (.object "com/example/copse/copse/LinkCutForest")) (t' := .int) (by decide) (by decide)))
    have f_234 := f_212.other W_219 (Ne.symm (f_199.neBar f_212 (wdOf hw 66 rfl)))
    have f_235 := f_213.other W_219 (Ne.symm (f_199.neArv f_213 (wdOf hw 66 rfl)))
    have f_236 := f_214.other W_219 (Ne.symm (f_199.neBar f_214 (wdOf hw 66 rfl)))
    have f_237 := f_215.other W_219 (Ne.symm (f_199.neBar f_215 (wdOf hw 66 rfl)))
    have f_238 := f_216.other W_219 (Ne.symm (f_199.neBar f_216 (wdOf hw 66 rfl)))
    have f_239 := B_196.other W_219 (Ne.symm (f_199.neBar B_196 (wdOf hw 66 rfl)))
    have y_240 : n0 ≤ h_219.size := Nat.le_trans (Nat.le_of_eq f_220.1.symm) f_220.2.1
    refine Goes.go (U' := (T_219.setTop (mkF m 83 #[sR_ tx, sR_ ax, sI_ (2 : Int32), sI_ tl] []))) st_219 ?_
    refine Goes.go (U' := (T_219.setTop (mkF m 85 #[sR_ tx, sR_ ax, sI_ (2 : Int32), sI_ tl] [(.ref tx), (.ref tx)]))) (fun t kt => ?_) ?_
    · skip
      refine XS.aloadN X_219.here hx rfl (hb hby d_rm_hang1_83) rfl rfl ?_
      refine XS.dup X_219.here hx rfl (hb hby d_rm_hang1_84) rfl rfl ?_
      exact kt
    obtain ⟨T_241, X_241, e_241, st_241⟩ := getF X_219 hx hZ hown (host := "") (Or.inl (wdOf hw 213 rfl)) Via.refl e_219 f_232 (g := (mkF m 85 #[sR_ tx, sR_ ax, sI_ (2 : Int32), sI_ tl] [(.ref tx), (.ref tx)])) rfl rfl (hb hby d_rm_hang1_85)
    refine Goes.go (U' := (T_241.setTop (mkF m 88 #[sR_ tx, sR_ ax, sI_ (2 : Int32), sI_ tl] [(.long cg), (.ref tx)]))) st_241 ?_
    refine Goes.go (U' := (T_241.setTop (mkF m 90 #[sR_ tx, sR_ ax, sI_ (2 : Int32), sI_ tl] [(.long (cg + (1 : Int64))), (.ref tx)]))) (fun t kt => ?_) ?_
    · skip
      refine XS.lconst X_241.here hx rfl (hb hby d_rm_hang1_88) ?_
      refine XS.ladd X_241.here hx rfl (hb hby d_rm_hang1_89) rfl ?_
      exact kt
    obtain ⟨T_242, h_242, X_242, e_242, W_242, st_242⟩ := putF X_241 hx hZ hown (host := "") (Or.inl (wdOf hw 213 rfl)) Via.refl e_241 f_232 f_222 (Or.inl (wdOf hw 214 rfl)) (wdOf hw 66 rfl) (ty := .long) (by decide) rfl rfl (g := (mkF m 90 #[sR_ tx, sR_ ax, sI_ (2 : Int32), sI_ tl] [(.long (cg + (1 : Int64))), (.ref tx)])) rfl rfl (hb hby d_rm_hang1_90)
    have N_242 := Fr.snoc X_242 N_219 o_tx
    have f_243 := f_220.wr W_242 o_tx
    have f_244 := f_221.wr W_242
    have f_245 := f_222.wr W_242
    have f_246 := f_223.other W_242 (Or.inr (slot_ne (Or.inl (wdOf hw 79 rfl)) (Or.inl (wdOf hw 214 rfl)) (by decide) (t := .int) (t' := .long) (by decide) (by decide)))
    have f_247 := f_224.other W_242 (Or.inr (slot_ne (Or.inr (wdOf hw 81 rfl)) (Or.inl (wdOf hw 214 rfl)) (by decide) (t := .int) (t' := .long) (by decide) (by decide)))
    have f_248 := f_225.other W_242 (Or.inr (slot_ne (Or.inr (wdOf hw 85 rfl)) (Or.inl (wdOf hw 214 rfl)) (by decide) (t := (.array (.object "com/example/copse/copse/Arc"))) (t' := .long) (by decide) (by decide)))
    have f_249 := f_226.other W_242 (Or.inr (slot_ne (Or.inr (wdOf hw 88 rfl)) (Or.inl (wdOf hw 214 rfl)) (by decide) (t := (.array .int)) (t' := .long) (by decide) (by decide)))
    have f_250 := f_227.other W_242 (Or.inr (slot_ne (Or.inr (wdOf hw 93 rfl)) (Or.inl (wdOf hw 214 rfl)) (by decide) (t := (.array .int)) (t' := .long) (by decide) (by decide)))
    have f_251 := f_228.other W_242 (Or.inr (slot_ne (Or.inr (wdOf hw 95 rfl)) (Or.inl (wdOf hw 214 rfl)) (by decide) (t := (.array .int)) (t' := .long) (by decide) (by decide)))
    have f_252 := f_229.other W_242 (Or.inr (slot_ne (Or.inr (wdOf hw 97 rfl)) (Or.inl (wdOf hw 214 rfl)) (by decide) (t := (.array .int)) (t' := .long) (by decide) (by decide)))
    have f_253 := f_230.other W_242 (Or.inr (slot_ne (Or.inr (wdOf hw 99 rfl)) (Or.inl (wdOf hw 214 rfl)) (by decide) (t := (.object "java/util/function/Predicate")) (t' := .long) (by decide) (by decide)))
    have f_254 := f_231.other W_242 (Or.inr (slot_ne (Or.inr (wdOf hw 101 rfl)) (Or.inl (wdOf hw 214 rfl)) (by decide) (t := (.array .boolean)) (t' := .long) (by decide) (by decide)))
    have f_255 := f_232.same W_242
    have f_256 := f_233.other W_242 (Or.inr (slot_ne (Or.inl (wdOf hw 220 rfl)) (Or.inl (wdOf hw 214 rfl)) (by decide) (t := (.object "com/example/copse/copse/LinkCutForest")) (t' := .long) (by decide) (by decide)))
    have f_257 := f_234.other W_242 (Ne.symm (f_222.neBar f_234 (wdOf hw 66 rfl)))
    have f_258 := f_235.other W_242 (Ne.symm (f_222.neArv f_235 (wdOf hw 66 rfl)))
    have f_259 := f_236.other W_242 (Ne.symm (f_222.neBar f_236 (wdOf hw 66 rfl)))
    have f_260 := f_237.other W_242 (Ne.symm (f_222.neBar f_237 (wdOf hw 66 rfl)))
    have f_261 := f_238.other W_242 (Ne.symm (f_222.neBar f_238 (wdOf hw 66 rfl)))
    have f_262 := f_239.other W_242 (Ne.symm (f_222.neBar f_239 (wdOf hw 66 rfl)))
    have y_263 : n0 ≤ h_242.size := Nat.le_trans (Nat.le_of_eq f_243.1.symm) f_243.2.1
    refine Goes.go (U' := (T_242.setTop (mkF m 93 #[sR_ tx, sR_ ax, sI_ (2 : Int32), sI_ tl] []))) st_242 ?_
    refine Goes.go (U' := (T_242.setTop (mkF m 96 #[sR_ tx, sR_ ax, sI_ (2 : Int32), sI_ tl] [(.int (1 : Int32)), (.int tl), (.ref tx)]))) (fun t kt => ?_) ?_
    · skip
      refine XS.aloadN X_242.here hx rfl (hb hby d_rm_hang1_93) rfl rfl ?_
      refine XS.iloadN X_242.here hx rfl (hb hby d_rm_hang1_94) rfl ?_
      refine XS.iconst X_242.here hx rfl (hb hby d_rm_hang1_95) ?_
      exact kt
    obtain ⟨v_264, T_264, L_264, X_264, q_264, st_264⟩ := callPrivate X_242 hx hZ (y := (⟨"com/example/copse/copse/HangingTree", "countChildren", "(II)V"⟩ : MethodName)) (W := 0) hown (wdOf hw 215 rfl) (wdOf hw 216 rfl) (wdOf hw 217 rfl) (wdOf hw 66 rfl) (wdOf hw 67 rfl) (wdOf hw 218 rfl) (by decide) (rm_cc l Z a0 hw [] tx ch tl h_242 n0 y_263 o_ch htl (f_245.neBar f_257 (wdOf hw 66 rfl)) f_249 f_256 f_257) (by decide) (by decide) (by decide) (by decide) e_242 f_245 (g := (mkF m 96 #[sR_ tx, sR_ ax, sI_ (2 : Int32), sI_ tl] [(.int (1 : Int32)), (.int tl), (.ref tx)])) rfl (by rw [hml]; rfl) (argsL := [(.int tl), (.int (1 : Int32))]) (rest := []) (lenOf pd_7 rfl) rfl rfl (Nat.le_refl _) (hb hby d_rm_hang1_96)
    obtain ⟨rfl, n_264, K_264, Bq_264⟩ := q_264
    have N_264 := Fr.app N_242 n_264
    have f_265 := f_243.keep K_264 (allS o_ch all0)
    have f_266 := f_244.keep K_264
    have f_267 := f_245.keep K_264
    have f_268 := f_246.keep K_264 (ninS (f_245.neBar f_257 (wdOf hw 66 rfl)) nin0)
    have f_269 := f_247.keep K_264 (ninS (f_245.neBar f_257 (wdOf hw 66 rfl)) nin0)
    have f_270 := f_248.keep K_264 (ninS (f_245.neBar f_257 (wdOf hw 66 rfl)) nin0)
    have f_271 := f_249.keep K_264 (ninS (f_245.neBar f_257 (wdOf hw 66 rfl)) nin0)
    have f_272 := f_250.keep K_264 (ninS (f_245.neBar f_257 (wdOf hw 66 rfl)) nin0)
    have f_273 := f_251.keep K_264 (ninS (f_245.neBar f_257 (wdOf hw 66 rfl)) nin0)
    have f_274 := f_252.keep K_264 (ninS (f_245.neBar f_257 (wdOf hw 66 rfl)) nin0)
    have f_275 := f_253.keep K_264 (ninS (f_245.neBar f_257 (wdOf hw 66 rfl)) nin0)
    have f_276 := f_254.keep K_264 (ninS (f_245.neBar f_257 (wdOf hw 66 rfl)) nin0)
    have f_277 := f_255.keep K_264 (ninS (f_245.neBar f_257 (wdOf hw 66 rfl)) nin0)
    have f_278 := f_256.keep K_264 (ninS (f_245.neBar f_257 (wdOf hw 66 rfl)) nin0)
    have f_280 := f_258.keep K_264 (ninS (f_258.neBar f_257 nofun) nin0)
    have f_281 := f_259.keep K_264 (ninS (f_259.neT f_257 nofun) nin0)
    have f_282 := f_260.keep K_264 (ninS n_ns_ch nin0)
    have f_283 := f_261.keep K_264 (ninS n_ps_ch nin0)
    have f_284 := f_262.keep K_264 (ninS n_fc_ch nin0)
    have y_285 : n0 ≤ T_264.heap.size := Nat.le_trans (Nat.le_of_eq f_265.1.symm) f_265.2.1
    refine Goes.go (U' := (T_264.setTop (mkF m 99 #[sR_ tx, sR_ ax, sI_ (2 : Int32), sI_ tl] []))) st_264 ?_
    refine Goes.go (U' := (T_264.setTop (mkF m 100 #[sR_ tx, sR_ ax, sI_ (2 : Int32), sI_ tl] [(.ref tx)]))) (fun t kt => ?_) ?_
    · skip
      refine XS.aloadN X_264.here hx rfl (hb hby d_rm_hang1_99) rfl rfl ?_
      exact kt
    obtain ⟨T_286, X_286, e_286, st_286⟩ := getF X_264 hx hZ hown (host := "") (Or.inl (wdOf hw 219 rfl)) Via.refl (rfl : T_264.heap = T_264.heap) f_278 (g := (mkF m 100 #[sR_ tx, sR_ ax, sI_ (2 : Int32), sI_ tl] [(.ref tx)])) rfl rfl (hb hby d_rm_hang1_100)
    refine Goes.go (U' := (T_286.setTop (mkF m 103 #[sR_ tx, sR_ ax, sI_ (2 : Int32), sI_ tl] [.null]))) st_286 ?_
    refine Goes.go (U' := (T_286.setTop (mkF m 119 #[sR_ tx, sR_ ax, sI_ (2 : Int32), sI_ tl] []))) (fun t kt => ?_) ?_
    · skip
      refine XS.ifnullYes X_286.here hx rfl (pc0 := 103) (pc' := 119) rfl (hb hby d_rm_hang1_103) rfl (by decide) (by decide) ?_
      exact kt
    refine Goes.retV X_286 hx hlk hret (hb hby d_rm_hang1_119) (by decide) (by decide) ?_
    try rw [e_286]
    exact ⟨rfl, N_264, f_265, ⟨_, _, _, _, _, _, _, _, _, f_267, f_268, f_269, f_270, f_271, f_272, f_273, f_274, f_275, f_276, f_277, f_278, f_280, f_281, f_282, f_284, f_283, Bq_264, Ov, ⟨o_tx, o_ho, o_ch, o_fc, o_ns, o_ps, o_tu⟩, ⟨n_fc_ns, n_fc_ps, n_fc_ch, n_ns_ps, n_ns_ch, n_ps_ch⟩⟩⟩
set_option maxHeartbeats 4000000 in
theorem ef_rm_hang3 (m : MethodId) (x0 : Addr) (x1 : Addr)  : entryFrame m #[(.ref x0), (.ref x1)] 4 = mkF m 0 #[.val (.ref x0), .val (.ref x1), .unset, .unset] [] := by first | (simp [entryFrame, mkF, argsToLocals, catR, catN, catI, catJ]; done) | rfl
set_option maxRecDepth 65536 in
set_option maxHeartbeats 40000000 in
theorem rm_hang3 (l : Launch) (Z : State) (a0 : Array Value) (hw : ∀ d ∈ tables_1, d.before a0 Z = true) (ws : List Jvm.Cond) (tx ax la : Addr) (cK : ClassId) (r tl : Int32) (v0 v1 v2 v3 v4 : Value) (h0 : Heap) (n0 : Nat) (Z0 : n0 ≤ h0.size) (O : Old Z n0 h0) (FL : HLam.Lam Z cK la) (T0 : HTr Z h0 n0 tx la r v0 v1 v2 v3 v4) (Ea : Exa Z h0 ax "com/example/copse/copse/Arc") (Fh : Fld Z h0 ax "com/example/copse/copse/Arc" "head" "I" (.int (3 : Int32))) (Ft : Fld Z h0 ax "com/example/copse/copse/Arc" "tail" "I" (.int tl)) (htl : ¬ tl < 0 ∧ tl < 5) :
    Pays l Z (⟨"com/example/copse/copse/HangingTree", "hang", "(Lcom/example/copse/copse/Arc;)V"⟩ : MethodName) prog_20_method_4_code 4 none ws ({ frames := 2, cells := 0, slots := 0, locals := 27 } : Room) #[(.ref tx), (.ref ax)] h0 (fun v h L => v = none ∧ Fr n0 L ∧ Old Z n0 h ∧ HTr Z h n0 tx la r v0 v1 v2 (.ref ax) v4) := by
  refine Pays.of (plainFor_of_name (by first | (simp [plainName, overriddenIn]; done) | decide +kernel)) ?_
  intro p e s m below meth c s₁ hx hby hml hown hnm hret hlk hZ e0 X0
  have N0 := Fr.nil n0
  have K0 : Keep h0 h0 [] := Keep.refl _ _
  refine Goes.go (U' := (s₁.setTop (mkF m 0 #[sR_ tx, sR_ ax, sU_, sU_] []))) (fun t kt => castTop (ef_rm_hang3 m tx ax) kt) ?_
  obtain ⟨ho, ch, fc, ns, ps, tu, kh, sz, cg, Et, Ft_size, Ft_root, Ft_hangsOn, Ft_children, Ft_firstChild, Ft_nextSibling, Ft_previousSibling, Ft_twinned, Ft_turns, Ft_changes, Ft_forest, Vh, Btu, Bns, Bfc, Bps, Bch, Ov, ⟨o_tx, o_ho, o_ch, o_fc, o_ns, o_ps, o_tu⟩, ⟨n_fc_ns, n_fc_ps, n_fc_ch, n_ns_ps, n_ns_ch, n_ps_ch⟩⟩ := id T0
  refine Goes.go (U' := (s₁.setTop (mkF m 1 #[sR_ tx, sR_ ax, sU_, sU_] [(.ref ax)]))) (fun t kt => ?_) ?_
  · skip
    refine XS.aloadN X0.here hx rfl (hb hby d_rm_hang1_0) rfl rfl ?_
    exact kt
  obtain ⟨v_1, T_1, L_1, X_1, q_1, st_1⟩ := callVirtual X0 hx hZ (y := (⟨"com/example/copse/copse/Arc", "head", "()I"⟩ : MethodName)) (z := (⟨"com/example/copse/copse/Arc", "head", "()I"⟩ : MethodName)) (W := 0) hown (wdOf hw 197 rfl) (wdOf hw 198 rfl) (notFace_of_selects (args := #[]) (mvT hZ (wdOf hw 200 rfl))) (wdOf hw 200 rfl) (wdOf hw 199 rfl) (wdOf hw 176 rfl) (wdOf hw 201 rfl) (by decide) (rm_head l Z a0 hw [] ax (3 : Int32) h0 n0 Z0 Fh) (by decide) (by decide) (by decide) (by decide) e0 Ea (g := (mkF m 1 #[sR_ tx, sR_ ax, sU_, sU_] [(.ref ax)])) rfl (by rw [hml]; rfl) (argsL := []) (rest := []) (lenOf pd_6 rfl) rfl rfl (Nat.le_refl _) (hb hby d_rm_hang1_1)
  obtain ⟨rfl, n_1, K_1⟩ := q_1
  have N_1 := Fr.app N0 n_1
  refine Goes.go (U' := (T_1.setTop (mkF m 4 #[sR_ tx, sR_ ax, sU_, sU_] [(.int (3 : Int32))]))) st_1 ?_
  refine Goes.go (U' := (T_1.setTop (mkF m 6 #[sR_ tx, sR_ ax, sI_ (3 : Int32), sU_] [(.ref ax)]))) (fun t kt => ?_) ?_
  · skip
    refine XS.istoreN X_1.here hx rfl (hb hby d_rm_hang1_4) rfl (l' := #[sR_ tx, sR_ ax, sI_ (3 : Int32), sU_]) rfl ?_
    refine XS.aloadN X_1.here hx rfl (hb hby d_rm_hang1_5) rfl rfl ?_
    exact kt
  obtain ⟨v_2, T_2, L_2, X_2, q_2, st_2⟩ := callVirtual X_1 hx hZ (y := (⟨"com/example/copse/copse/Arc", "tail", "()I"⟩ : MethodName)) (z := (⟨"com/example/copse/copse/Arc", "tail", "()I"⟩ : MethodName)) (W := 0) hown (wdOf hw 202 rfl) (wdOf hw 203 rfl) (notFace_of_selects (args := #[]) (mvT hZ (wdOf hw 205 rfl))) (wdOf hw 205 rfl) (wdOf hw 204 rfl) (wdOf hw 176 rfl) (wdOf hw 206 rfl) (by decide) (rm_tail l Z a0 hw [] ax tl h0 n0 Z0 Ft) (by decide) (by decide) (by decide) (by decide) K_1 Ea (g := (mkF m 6 #[sR_ tx, sR_ ax, sI_ (3 : Int32), sU_] [(.ref ax)])) rfl (by rw [hml]; rfl) (argsL := []) (rest := []) (lenOf pd_6 rfl) rfl rfl (Nat.le_refl _) (hb hby d_rm_hang1_6)
  obtain ⟨rfl, n_2, K_2⟩ := q_2
  have N_2 := Fr.app N_1 n_2
  refine Goes.go (U' := (T_2.setTop (mkF m 9 #[sR_ tx, sR_ ax, sI_ (3 : Int32), sU_] [(.int tl)]))) st_2 ?_
  refine Goes.go (U' := (T_2.setTop (mkF m 11 #[sR_ tx, sR_ ax, sI_ (3 : Int32), sI_ tl] [(.ref tx)]))) (fun t kt => ?_) ?_
  · skip
    refine XS.istoreN X_2.here hx rfl (hb hby d_rm_hang1_9) rfl (l' := #[sR_ tx, sR_ ax, sI_ (3 : Int32), sI_ tl]) rfl ?_
    refine XS.aloadN X_2.here hx rfl (hb hby d_rm_hang1_10) rfl rfl ?_
    exact kt
  obtain ⟨T_3, X_3, e_3, st_3⟩ := getF X_2 hx hZ hown (host := "") (Or.inl (wdOf hw 84 rfl)) Via.refl K_2 Ft_hangsOn (g := (mkF m 11 #[sR_ tx, sR_ ax, sI_ (3 : Int32), sI_ tl] [(.ref tx)])) rfl rfl (hb hby d_rm_hang1_11)
  refine Goes.go (U' := (T_3.setTop (mkF m 14 #[sR_ tx, sR_ ax, sI_ (3 : Int32), sI_ tl] [(.ref ho)]))) st_3 ?_
  refine Goes.go (U' := (T_3.setTop (mkF m 16 #[sR_ tx, sR_ ax, sI_ (3 : Int32), sI_ tl] [(.ref ax), (.int (3 : Int32)), (.ref ho)]))) (fun t kt => ?_) ?_
  · skip
    refine XS.iloadN X_3.here hx rfl (hb hby d_rm_hang1_14) rfl ?_
    refine XS.aloadN X_3.here hx rfl (hb hby d_rm_hang1_15) rfl rfl ?_
    exact kt
  obtain ⟨cl_4, Ar_4, q_4, S_4, M_4, H_4, G_4⟩ := id Vh
  have hin_4 : ¬ ((3 : Int32) < 0 ∨ cl_4.slots.size ≤ ((3 : Int32)).toNatClampNeg) := inb_of S_4 ⟨by decide, by decide⟩
  obtain ⟨T_4, h_4, X_4, e_4, W_4, st_4⟩ := stR X_3 hx hZ e_3 Ar_4 (j := (3 : Int32)) hin_4 rfl (Sto.of Ar_4 (q_4 ▸ Ov) (Ins.self Ea)) (g := (mkF m 16 #[sR_ tx, sR_ ax, sI_ (3 : Int32), sI_ tl] [(.ref ax), (.int (3 : Int32)), (.ref ho)])) rfl rfl (hb hby d_rm_hang1_16)
  have V_4 : Arv Z h_4 ho kh (.object "com/example/copse/copse/Arc") (5 : Int32) [v0, v1, v2, (.ref ax), v4] .null := Arv.set Ar_4 q_4 S_4 M_4 H_4 G_4 rfl W_4 3 rfl (Nat.le_of_ble_eq_true rfl)
  have N_4 := Fr.snoc X_4 N_2 o_ho
  have f_5 := O.wr W_4 o_ho
  have f_6 := Ea.wr W_4
  have f_7 := Et.wr W_4
  have f_8 := Ft_size.other W_4 (Or.inl (Et.neArv Vh (wdOf hw 66 rfl)))
  have f_9 := Ft_root.other W_4 (Or.inl (Et.neArv Vh (wdOf hw 66 rfl)))
  have f_10 := Ft_hangsOn.other W_4 (Or.inl (Et.neArv Vh (wdOf hw 66 rfl)))
  have f_11 := Ft_children.other W_4 (Or.inl (Et.neArv Vh (wdOf hw 66 rfl)))
  have f_12 := Ft_firstChild.other W_4 (Or.inl (Et.neArv Vh (wdOf hw 66 rfl)))
  have f_13 := Ft_nextSibling.other W_4 (Or.inl (Et.neArv Vh (wdOf hw 66 rfl)))
  have f_14 := Ft_previousSibling.other W_4 (Or.inl (Et.neArv Vh (wdOf hw 66 rfl)))
  have f_15 := Ft_twinned.other W_4 (Or.inl (Et.neArv Vh (wdOf hw 66 rfl)))
  have f_16 := Ft_turns.other W_4 (Or.inl (Et.neArv Vh (wdOf hw 66 rfl)))
  have f_17 := Ft_changes.other W_4 (Or.inl (Et.neArv Vh (wdOf hw 66 rfl)))
  have f_18 := Ft_forest.other W_4 (Or.inl (Et.neArv Vh (wdOf hw 66 rfl)))
  have f_20 := Btu.other W_4 (Ne.symm (Vh.neBar Btu nofun))
  have f_21 := Bns.other W_4 (Ne.symm (Vh.neBar Bns nofun))
  have f_22 := Bfc.other W_4 (Ne.symm (Vh.neBar Bfc nofun))
  have f_23 := Bps.other W_4 (Ne.symm (Vh.neBar Bps nofun))
  have f_24 := Bch.other W_4 (Ne.symm (Vh.neBar Bch nofun))
  have y_25 : n0 ≤ h_4.size := Nat.le_trans (Nat.le_of_eq f_5.1.symm) f_5.2.1
  refine Goes.go (U' := (T_4.setTop (mkF m 17 #[sR_ tx, sR_ ax, sI_ (3 : Int32), sI_ tl] []))) st_4 ?_
  refine Goes.go (U' := (T_4.setTop (mkF m 18 #[sR_ tx, sR_ ax, sI_ (3 : Int32), sI_ tl] [(.ref tx)]))) (fun t kt => ?_) ?_
  · skip
    refine XS.aloadN X_4.here hx rfl (hb hby d_rm_hang1_17) rfl rfl ?_
    exact kt
  obtain ⟨T_26, X_26, e_26, st_26⟩ := getF X_4 hx hZ hown (host := "") (Or.inl (wdOf hw 100 rfl)) Via.refl e_4 f_16 (g := (mkF m 18 #[sR_ tx, sR_ ax, sI_ (3 : Int32), sI_ tl] [(.ref tx)])) rfl rfl (hb hby d_rm_hang1_18)
  refine Goes.go (U' := (T_26.setTop (mkF m 21 #[sR_ tx, sR_ ax, sI_ (3 : Int32), sI_ tl] [(.ref tu)]))) st_26 ?_
  refine Goes.go (U' := (T_26.setTop (mkF m 23 #[sR_ tx, sR_ ax, sI_ (3 : Int32), sI_ tl] [(.ref tx), (.int (3 : Int32)), (.ref tu)]))) (fun t kt => ?_) ?_
  · skip
    refine XS.iloadN X_26.here hx rfl (hb hby d_rm_hang1_21) rfl ?_
    refine XS.aloadN X_26.here hx rfl (hb hby d_rm_hang1_22) rfl rfl ?_
    exact kt
  obtain ⟨T_27, X_27, e_27, st_27⟩ := getF X_26 hx hZ hown (host := "") (Or.inl (wdOf hw 98 rfl)) Via.refl e_26 f_15 (g := (mkF m 23 #[sR_ tx, sR_ ax, sI_ (3 : Int32), sI_ tl] [(.ref tx), (.int (3 : Int32)), (.ref tu)])) rfl rfl (hb hby d_rm_hang1_23)
  refine Goes.go (U' := (T_27.setTop (mkF m 26 #[sR_ tx, sR_ ax, sI_ (3 : Int32), sI_ tl] [(.ref la), (.int (3 : Int32)), (.ref tu)]))) st_27 ?_
  refine Goes.go (U' := (T_27.setTop (mkF m 27 #[sR_ tx, sR_ ax, sI_ (3 : Int32), sI_ tl] [(.ref ax), (.ref la), (.int (3 : Int32)), (.ref tu)]))) (fun t kt => ?_) ?_
  · skip
    refine XS.aloadN X_27.here hx rfl (hb hby d_rm_hang1_26) rfl rfl ?_
    exact kt
  obtain ⟨T_28, X_28, e_28, st_28⟩ := HLam.Lam.call FL X_27 hx hZ hown (wdOf hw 208 rfl) (wdOf hw 209 rfl) (wdOf hw 210 rfl) (wdOf hw 212 rfl) (wdOf hw 211 rfl) (wdOf hw 67 rfl) (wdOf hw 207 rfl) (z := 0) rfl (rm_lb l Z a0 hw [] ax h_4 n0 y_25) f_6 e_27 f_5.2 (g := (mkF m 27 #[sR_ tx, sR_ ax, sI_ (3 : Int32), sI_ tl] [(.ref ax), (.ref la), (.int (3 : Int32)), (.ref tu)])) rfl (by rw [hml]; rfl) (rest := [(.int (3 : Int32)), (.ref tu)]) rfl (W := 2) (Nat.le_refl _) (hb hby d_rm_hang1_27) (by decide) (by decide) (by decide) (by decide)
  refine Goes.go (U' := (T_28.setTop (mkF m 32 #[sR_ tx, sR_ ax, sI_ (3 : Int32), sI_ tl] [(.int (0 : Int32)), (.int (3 : Int32)), (.ref tu)]))) st_28 ?_
  obtain ⟨cl_29, Ar_29, S_29, H_29⟩ := id f_20
  have hin_29 : ¬ ((3 : Int32) < 0 ∨ cl_29.slots.size ≤ ((3 : Int32)).toNatClampNeg) := inb_of S_29 ⟨by decide, by decide⟩
  obtain ⟨T_29, h_29, X_29, e_29, W_29, st_29⟩ := stZ X_28 hx hZ e_28 Ar_29 (j := (3 : Int32)) hin_29 (g := (mkF m 32 #[sR_ tx, sR_ ax, sI_ (3 : Int32), sI_ tl] [(.int (0 : Int32)), (.int (3 : Int32)), (.ref tu)])) rfl rfl (hb hby d_rm_hang1_32)
  have B_29 : Bar Z h_29 tu .boolean IntP := Bar.set Ar_29 S_29 H_29 W_29 (IntP.mk _)
  have N_29 := Fr.snoc X_29 N_4 o_tu
  have f_30 := f_5.wr W_29 o_tu
  have f_31 := f_6.wr W_29
  have f_32 := f_7.wr W_29
  have f_33 := f_8.other W_29 (Or.inl (f_7.neBar f_20 (wdOf hw 66 rfl)))
  have f_34 := f_9.other W_29 (Or.inl (f_7.neBar f_20 (wdOf hw 66 rfl)))
  have f_35 := f_10.other W_29 (Or.inl (f_7.neBar f_20 (wdOf hw 66 rfl)))
  have f_36 := f_11.other W_29 (Or.inl (f_7.neBar f_20 (wdOf hw 66 rfl)))
  have f_37 := f_12.other W_29 (Or.inl (f_7.neBar f_20 (wdOf hw 66 rfl)))
  have f_38 := f_13.other W_29 (Or.inl (f_7.neBar f_20 (wdOf hw 66 rfl)))
  have f_39 := f_14.other W_29 (Or.inl (f_7.neBar f_20 (wdOf hw 66 rfl)))
  have f_40 := f_15.other W_29 (Or.inl (f_7.neBar f_20 (wdOf hw 66 rfl)))
  have f_41 := f_16.other W_29 (Or.inl (f_7.neBar f_20 (wdOf hw 66 rfl)))
  have f_42 := f_17.other W_29 (Or.inl (f_7.neBar f_20 (wdOf hw 66 rfl)))
  have f_43 := f_18.other W_29 (Or.inl (f_7.neBar f_20 (wdOf hw 66 rfl)))
  have f_45 := f_21.other W_29 (f_21.neT f_20 nofun)
  have f_46 := f_22.other W_29 (f_22.neT f_20 nofun)
  have f_47 := f_23.other W_29 (f_23.neT f_20 nofun)
  have f_48 := f_24.other W_29 (f_24.neT f_20 nofun)
  have f_49 := V_4.other W_29 (V_4.neBar f_20 nofun)
  have y_50 : n0 ≤ h_29.size := Nat.le_trans (Nat.le_of_eq f_30.1.symm) f_30.2.1
  refine Goes.go (U' := (T_29.setTop (mkF m 33 #[sR_ tx, sR_ ax, sI_ (3 : Int32), sI_ tl] []))) st_29 ?_
  refine Goes.go (U' := (T_29.setTop (mkF m 34 #[sR_ tx, sR_ ax, sI_ (3 : Int32), sI_ tl] [(.ref tx)]))) (fun t kt => ?_) ?_
  · skip
    refine XS.aloadN X_29.here hx rfl (hb hby d_rm_hang1_33) rfl rfl ?_
    exact kt
  obtain ⟨T_51, X_51, e_51, st_51⟩ := getF X_29 hx hZ hown (host := "") (Or.inl (wdOf hw 94 rfl)) Via.refl e_29 f_38 (g := (mkF m 34 #[sR_ tx, sR_ ax, sI_ (3 : Int32), sI_ tl] [(.ref tx)])) rfl rfl (hb hby d_rm_hang1_34)
  refine Goes.go (U' := (T_51.setTop (mkF m 37 #[sR_ tx, sR_ ax, sI_ (3 : Int32), sI_ tl] [(.ref ns)]))) st_51 ?_
  refine Goes.go (U' := (T_51.setTop (mkF m 39 #[sR_ tx, sR_ ax, sI_ (3 : Int32), sI_ tl] [(.ref tx), (.int (3 : Int32)), (.ref ns)]))) (fun t kt => ?_) ?_
  · skip
    refine XS.iloadN X_51.here hx rfl (hb hby d_rm_hang1_37) rfl ?_
    refine XS.aloadN X_51.here hx rfl (hb hby d_rm_hang1_38) rfl rfl ?_
    exact kt
  obtain ⟨T_52, X_52, e_52, st_52⟩ := getF X_51 hx hZ hown (host := "") (Or.inl (wdOf hw 92 rfl)) Via.refl e_51 f_37 (g := (mkF m 39 #[sR_ tx, sR_ ax, sI_ (3 : Int32), sI_ tl] [(.ref tx), (.int (3 : Int32)), (.ref ns)])) rfl rfl (hb hby d_rm_hang1_39)
  refine Goes.go (U' := (T_52.setTop (mkF m 42 #[sR_ tx, sR_ ax, sI_ (3 : Int32), sI_ tl] [(.ref fc), (.int (3 : Int32)), (.ref ns)]))) st_52 ?_
  refine Goes.go (U' := (T_52.setTop (mkF m 43 #[sR_ tx, sR_ ax, sI_ (3 : Int32), sI_ tl] [(.int tl), (.ref fc), (.int (3 : Int32)), (.ref ns)]))) (fun t kt => ?_) ?_
  · skip
    refine XS.iloadN X_52.here hx rfl (hb hby d_rm_hang1_42) rfl ?_
    exact kt
  obtain ⟨cl_53, Ar_53, S_53, H_53⟩ := id f_46
  have hin_53 : ¬ (tl < 0 ∨ cl_53.slots.size ≤ (tl).toNatClampNeg) := inb_of S_53 htl
  obtain ⟨_, hat_53, i_53, rfl, bd_53⟩ := Bar.at H_53 hin_53
  refine Goes.go (U' := (T_52.setTop (mkF m 44 #[sR_ tx, sR_ ax, sI_ (3 : Int32), sI_ tl] [(.int i_53), (.int (3 : Int32)), (.ref ns)]))) (fun t kt => ?_) ?_
  · skip
    refine X_52.iaload hx (j := tl) (v := (.int i_53)) (by rw [e_52]; exact Ar_53.1) (State.isArrayOf_alike hZ.alike Ar_53.2.1) Ar_53.2.2 hin_53 hat_53 (g := (mkF m 43 #[sR_ tx, sR_ ax, sI_ (3 : Int32), sI_ tl] [(.int tl), (.ref fc), (.int (3 : Int32)), (.ref ns)])) rfl rfl (hb hby d_rm_hang1_43) _ ?_
    exact kt
  obtain ⟨cl_54, Ar_54, S_54, H_54⟩ := id f_45
  have hin_54 : ¬ ((3 : Int32) < 0 ∨ cl_54.slots.size ≤ ((3 : Int32)).toNatClampNeg) := inb_of S_54 ⟨by decide, by decide⟩
  obtain ⟨T_54, h_54, X_54, e_54, W_54, st_54⟩ := stI X_52 hx hZ e_52 Ar_54 (j := (3 : Int32)) hin_54 (g := (mkF m 44 #[sR_ tx, sR_ ax, sI_ (3 : Int32), sI_ tl] [(.int i_53), (.int (3 : Int32)), (.ref ns)])) rfl rfl (hb hby d_rm_hang1_44)
  have B_54 : Bar Z h_54 ns .int IntP := Bar.set Ar_54 S_54 H_54 W_54 (IntP.mk _)
  have N_54 := Fr.snoc X_54 N_29 o_ns
  have f_55 := f_30.wr W_54 o_ns
  have f_56 := f_31.wr W_54
  have f_57 := f_32.wr W_54
  have f_58 := f_33.other W_54 (Or.inl (f_32.neBar f_45 (wdOf hw 66 rfl)))
  have f_59 := f_34.other W_54 (Or.inl (f_32.neBar f_45 (wdOf hw 66 rfl)))
  have f_60 := f_35.other W_54 (Or.inl (f_32.neBar f_45 (wdOf hw 66 rfl)))
  have f_61 := f_36.other W_54 (Or.inl (f_32.neBar f_45 (wdOf hw 66 rfl)))
  have f_62 := f_37.other W_54 (Or.inl (f_32.neBar f_45 (wdOf hw 66 rfl)))
  have f_63 := f_38.other W_54 (Or.inl (f_32.neBar f_45 (wdOf hw 66 rfl)))
  have f_64 := f_39.other W_54 (Or.inl (f_32.neBar f_45 (wdOf hw 66 rfl)))
  have f_65 := f_40.other W_54 (Or.inl (f_32.neBar f_45 (wdOf hw 66 rfl)))
  have f_66 := f_41.other W_54 (Or.inl (f_32.neBar f_45 (wdOf hw 66 rfl)))
  have f_67 := f_42.other W_54 (Or.inl (f_32.neBar f_45 (wdOf hw 66 rfl)))
  have f_68 := f_43.other W_54 (Or.inl (f_32.neBar f_45 (wdOf hw 66 rfl)))
  have f_70 := f_46.other W_54 n_fc_ns
  have f_71 := f_47.other W_54 (Ne.symm n_ns_ps)
  have f_72 := f_48.other W_54 (Ne.symm n_ns_ch)
  have f_73 := f_49.other W_54 (f_49.neBar f_45 nofun)
  have f_74 := B_29.other W_54 (B_29.neT f_45 nofun)
  have y_75 : n0 ≤ h_54.size := Nat.le_trans (Nat.le_of_eq f_55.1.symm) f_55.2.1
  refine Goes.go (U' := (T_54.setTop (mkF m 45 #[sR_ tx, sR_ ax, sI_ (3 : Int32), sI_ tl] []))) st_54 ?_
  refine Goes.go (U' := (T_54.setTop (mkF m 46 #[sR_ tx, sR_ ax, sI_ (3 : Int32), sI_ tl] [(.ref tx)]))) (fun t kt => ?_) ?_
  · skip
    refine XS.aloadN X_54.here hx rfl (hb hby d_rm_hang1_45) rfl rfl ?_
    exact kt
  obtain ⟨T_76, X_76, e_76, st_76⟩ := getF X_54 hx hZ hown (host := "") (Or.inl (wdOf hw 92 rfl)) Via.refl e_54 f_62 (g := (mkF m 46 #[sR_ tx, sR_ ax, sI_ (3 : Int32), sI_ tl] [(.ref tx)])) rfl rfl (hb hby d_rm_hang1_46)
  refine Goes.go (U' := (T_76.setTop (mkF m 49 #[sR_ tx, sR_ ax, sI_ (3 : Int32), sI_ tl] [(.ref fc)]))) st_76 ?_
  refine Goes.go (U' := (T_76.setTop (mkF m 50 #[sR_ tx, sR_ ax, sI_ (3 : Int32), sI_ tl] [(.int tl), (.ref fc)]))) (fun t kt => ?_) ?_
  · skip
    refine XS.iloadN X_76.here hx rfl (hb hby d_rm_hang1_49) rfl ?_
    exact kt
  obtain ⟨cl_77, Ar_77, S_77, H_77⟩ := id f_70
  have hin_77 : ¬ (tl < 0 ∨ cl_77.slots.size ≤ (tl).toNatClampNeg) := inb_of S_77 htl
  obtain ⟨_, hat_77, i_77, rfl, bd_77⟩ := Bar.at H_77 hin_77
  refine Goes.go (U' := (T_76.setTop (mkF m 51 #[sR_ tx, sR_ ax, sI_ (3 : Int32), sI_ tl] [(.int i_77)]))) (fun t kt => ?_) ?_
  · skip
    refine X_76.iaload hx (j := tl) (v := (.int i_77)) (by rw [e_76]; exact Ar_77.1) (State.isArrayOf_alike hZ.alike Ar_77.2.1) Ar_77.2.2 hin_77 hat_77 (g := (mkF m 50 #[sR_ tx, sR_ ax, sI_ (3 : Int32), sI_ tl] [(.int tl), (.ref fc)])) rfl rfl (hb hby d_rm_hang1_50) _ ?_
    exact kt
  by_cases cf : i_77 = 0
  · -- i_77 = 0
    refine Goes.go (U' := (T_76.setTop (mkF m 67 #[sR_ tx, sR_ ax, sI_ (3 : Int32), sI_ tl] [(.ref tx)]))) (fun t kt => ?_) ?_
    · skip
      refine XS.ifYes X_76.here hx rfl (pc0 := 51) (pc' := 66) rfl (hb hby d_rm_hang1_51) rfl (XT.i0_eq_t cf) (by decide) (by decide) ?_
      refine XS.aloadN X_76.here hx rfl (hb hby d_rm_hang1_66) rfl rfl ?_
      exact kt
    obtain ⟨T_78, X_78, e_78, st_78⟩ := getF X_76 hx hZ hown (host := "") (Or.inl (wdOf hw 92 rfl)) Via.refl e_76 f_62 (g := (mkF m 67 #[sR_ tx, sR_ ax, sI_ (3 : Int32), sI_ tl] [(.ref tx)])) rfl rfl (hb hby d_rm_hang1_67)
    refine Goes.go (U' := (T_78.setTop (mkF m 70 #[sR_ tx, sR_ ax, sI_ (3 : Int32), sI_ tl] [(.ref fc)]))) st_78 ?_
    refine Goes.go (U' := (T_78.setTop (mkF m 72 #[sR_ tx, sR_ ax, sI_ (3 : Int32), sI_ tl] [(.int (3 : Int32)), (.int tl), (.ref fc)]))) (fun t kt => ?_) ?_
    · skip
      refine XS.iloadN X_78.here hx rfl (hb hby d_rm_hang1_70) rfl ?_
      refine XS.iloadN X_78.here hx rfl (hb hby d_rm_hang1_71) rfl ?_
      exact kt
    obtain ⟨cl_79, Ar_79, S_79, H_79⟩ := id f_70
    have hin_79 : ¬ (tl < 0 ∨ cl_79.slots.size ≤ (tl).toNatClampNeg) := inb_of S_79 htl
    obtain ⟨T_79, h_79, X_79, e_79, W_79, st_79⟩ := stI X_78 hx hZ e_78 Ar_79 (j := tl) hin_79 (g := (mkF m 72 #[sR_ tx, sR_ ax, sI_ (3 : Int32), sI_ tl] [(.int (3 : Int32)), (.int tl), (.ref fc)])) rfl rfl (hb hby d_rm_hang1_72)
    have B_79 : Bar Z h_79 fc .int IxP := Bar.set Ar_79 S_79 H_79 W_79 ⟨_, rfl, by decide, by decide⟩
    have N_79 := Fr.snoc X_79 N_54 o_fc
    have f_80 := f_55.wr W_79 o_fc
    have f_81 := f_56.wr W_79
    have f_82 := f_57.wr W_79
    have f_83 := f_58.other W_79 (Or.inl (f_57.neBar f_70 (wdOf hw 66 rfl)))
    have f_84 := f_59.other W_79 (Or.inl (f_57.neBar f_70 (wdOf hw 66 rfl)))
    have f_85 := f_60.other W_79 (Or.inl (f_57.neBar f_70 (wdOf hw 66 rfl)))
    have f_86 := f_61.other W_79 (Or.inl (f_57.neBar f_70 (wdOf hw 66 rfl)))
    have f_87 := f_62.other W_79 (Or.inl (f_57.neBar f_70 (wdOf hw 66 rfl)))
    have f_88 := f_63.other W_79 (Or.inl (f_57.neBar f_70 (wdOf hw 66 rfl)))
    have f_89 := f_64.other W_79 (Or.inl (f_57.neBar f_70 (wdOf hw 66 rfl)))
    have f_90 := f_65.other W_79 (Or.inl (f_57.neBar f_70 (wdOf hw 66 rfl)))
    have f_91 := f_66.other W_79 (Or.inl (f_57.neBar f_70 (wdOf hw 66 rfl)))
    have f_92 := f_67.other W_79 (Or.inl (f_57.neBar f_70 (wdOf hw 66 rfl)))
    have f_93 := f_68.other W_79 (Or.inl (f_57.neBar f_70 (wdOf hw 66 rfl)))
    have f_95 := f_71.other W_79 (Ne.symm n_fc_ps)
    have f_96 := f_72.other W_79 (Ne.symm n_fc_ch)
    have f_97 := f_73.other W_79 (f_73.neBar f_70 nofun)
    have f_98 := f_74.other W_79 (f_74.neT f_70 nofun)
    have f_99 := B_54.other W_79 (Ne.symm n_fc_ns)
    have y_100 : n0 ≤ h_79.size := Nat.le_trans (Nat.le_of_eq f_80.1.symm) f_80.2.1
    refine Goes.go (U' := (T_79.setTop (mkF m 73 #[sR_ tx, sR_ ax, sI_ (3 : Int32), sI_ tl] []))) st_79 ?_
    refine Goes.go (U' := (T_79.setTop (mkF m 75 #[sR_ tx, sR_ ax, sI_ (3 : Int32), sI_ tl] [(.ref tx), (.ref tx)]))) (fun t kt => ?_) ?_
    · skip
      refine XS.aloadN X_79.here hx rfl (hb hby d_rm_hang1_73) rfl rfl ?_
      refine XS.dup X_79.here hx rfl (hb hby d_rm_hang1_74) rfl rfl ?_
      exact kt
    obtain ⟨T_101, X_101, e_101, st_101⟩ := getF X_79 hx hZ hown (host := "") (Or.inl (wdOf hw 78 rfl)) Via.refl e_79 f_83 (g := (mkF m 75 #[sR_ tx, sR_ ax, sI_ (3 : Int32), sI_ tl] [(.ref tx), (.ref tx)])) rfl rfl (hb hby d_rm_hang1_75)
    refine Goes.go (U' := (T_101.setTop (mkF m 78 #[sR_ tx, sR_ ax, sI_ (3 : Int32), sI_ tl] [(.int sz), (.ref tx)]))) st_101 ?_
    refine Goes.go (U' := (T_101.setTop (mkF m 80 #[sR_ tx, sR_ ax, sI_ (3 : Int32), sI_ tl] [(.int (sz + (1 : Int32))), (.ref tx)]))) (fun t kt => ?_) ?_
    · skip
      refine XS.iconst X_101.here hx rfl (hb hby d_rm_hang1_78) ?_
      refine XS.iadd X_101.here hx rfl (hb hby d_rm_hang1_79) rfl ?_
      exact kt
    obtain ⟨T_102, h_102, X_102, e_102, W_102, st_102⟩ := putF X_101 hx hZ hown (host := "") (Or.inl (wdOf hw 78 rfl)) Via.refl e_101 f_83 f_82 (Or.inl (wdOf hw 79 rfl)) (wdOf hw 66 rfl) (ty := .int) (by decide) rfl rfl (g := (mkF m 80 #[sR_ tx, sR_ ax, sI_ (3 : Int32), sI_ tl] [(.int (sz + (1 : Int32))), (.ref tx)])) rfl rfl (hb hby d_rm_hang1_80)
    have N_102 := Fr.snoc X_102 N_79 o_tx
    have f_103 := f_80.wr W_102 o_tx
    have f_104 := f_81.wr W_102
    have f_105 := f_82.wr W_102
    have f_106 := f_83.same W_102
    have f_107 := f_84.other W_102 (Or.inr (slot_ne (Or.inr (wdOf hw 81 rfl)) (Or.inl (wdOf hw 79 rfl)) (by decide) (t := .int) (t' := .int) (by decide) (by decide)))
    have f_108 := f_85.other W_102 (Or.inr (slot_ne (Or.inr (wdOf hw 85 rfl)) (Or.inl (wdOf hw 79 rfl)) (by decide) (t := (.array (.object "com/example/copse/copse/Arc"))) (t' := .int) (by decide) (by decide)))
    have f_109 := f_86.other W_102 (Or.inr (slot_ne (Or.inr (wdOf hw 88 rfl)) (Or.inl (wdOf hw 79 rfl)) (by decide) (t := (.array .int)) (t' := .int) (by decide) (by decide)))
    have f_110 := f_87.other W_102 (Or.inr (slot_ne (Or.inr (wdOf hw 93 rfl)) (Or.inl (wdOf hw 79 rfl)) (by decide) (t := (.array .int)) (t' := .int) (by decide) (by decide)))
    have f_111 := f_88.other W_102 (Or.inr (slot_ne (Or.inr (wdOf hw 95 rfl)) (Or.inl (wdOf hw 79 rfl)) (by decide) (t := (.array .int)) (t' := .int) (by decide) (by decide)))
    have f_112 := f_89.other W_102 (Or.inr (slot_ne (Or.inr (wdOf hw 97 rfl)) (Or.inl (wdOf hw 79 rfl)) (by decide) (t := (.array .int)) (t' := .int) (by decide) (by decide)))
    have f_113 := f_90.other W_102 (Or.inr (slot_ne (Or.inr (wdOf hw 99 rfl)) (Or.inl (wdOf hw 79 rfl)) (by decide) (t := (.object "java/util/function/Predicate")) (t' := .int) (by decide) (by decide)))
    have f_114 := f_91.other W_102 (Or.inr (slot_ne (Or.inr (wdOf hw 101 rfl)) (Or.inl (wdOf hw 79 rfl)) (by decide) (t := (.array .boolean)) (t' := .int) (by decide) (by decide)))
    have f_115 := f_92.other W_102 (Or.inr (slot_ne (Or.inl (wdOf hw 214 rfl)) (Or.inl (wdOf hw 79 rfl)) (by decide) (t := .long) (t' := .int) (by decide) (by decide)))
    have f_116 := f_93.other W_102 (Or.inr (slot_ne (Or.inl (wdOf hw 220 rfl)) (Or.inl (wdOf hw 79 rfl)) (by decide) (t := (.object "com/example/copse/copse/LinkCutForest")) (t' := .int) (by decide) (by decide)))
    have f_117 := f_95.other W_102 (Ne.symm (f_82.neBar f_95 (wdOf hw 66 rfl)))
    have f_118 := f_96.other W_102 (Ne.symm (f_82.neBar f_96 (wdOf hw 66 rfl)))
    have f_119 := f_97.other W_102 (Ne.symm (f_82.neArv f_97 (wdOf hw 66 rfl)))
    have f_120 := f_98.other W_102 (Ne.symm (f_82.neBar f_98 (wdOf hw 66 rfl)))
    have f_121 := f_99.other W_102 (Ne.symm (f_82.neBar f_99 (wdOf hw 66 rfl)))
    have f_122 := B_79.other W_102 (Ne.symm (f_82.neBar B_79 (wdOf hw 66 rfl)))
    have y_123 : n0 ≤ h_102.size := Nat.le_trans (Nat.le_of_eq f_103.1.symm) f_103.2.1
    refine Goes.go (U' := (T_102.setTop (mkF m 83 #[sR_ tx, sR_ ax, sI_ (3 : Int32), sI_ tl] []))) st_102 ?_
    refine Goes.go (U' := (T_102.setTop (mkF m 85 #[sR_ tx, sR_ ax, sI_ (3 : Int32), sI_ tl] [(.ref tx), (.ref tx)]))) (fun t kt => ?_) ?_
    · skip
      refine XS.aloadN X_102.here hx rfl (hb hby d_rm_hang1_83) rfl rfl ?_
      refine XS.dup X_102.here hx rfl (hb hby d_rm_hang1_84) rfl rfl ?_
      exact kt
    obtain ⟨T_124, X_124, e_124, st_124⟩ := getF X_102 hx hZ hown (host := "") (Or.inl (wdOf hw 213 rfl)) Via.refl e_102 f_115 (g := (mkF m 85 #[sR_ tx, sR_ ax, sI_ (3 : Int32), sI_ tl] [(.ref tx), (.ref tx)])) rfl rfl (hb hby d_rm_hang1_85)
    refine Goes.go (U' := (T_124.setTop (mkF m 88 #[sR_ tx, sR_ ax, sI_ (3 : Int32), sI_ tl] [(.long cg), (.ref tx)]))) st_124 ?_
    refine Goes.go (U' := (T_124.setTop (mkF m 90 #[sR_ tx, sR_ ax, sI_ (3 : Int32), sI_ tl] [(.long (cg + (1 : Int64))), (.ref tx)]))) (fun t kt => ?_) ?_
    · skip
      refine XS.lconst X_124.here hx rfl (hb hby d_rm_hang1_88) ?_
      refine XS.ladd X_124.here hx rfl (hb hby d_rm_hang1_89) rfl ?_
      exact kt
    obtain ⟨T_125, h_125, X_125, e_125, W_125, st_125⟩ := putF X_124 hx hZ hown (host := "") (Or.inl (wdOf hw 213 rfl)) Via.refl e_124 f_115 f_105 (Or.inl (wdOf hw 214 rfl)) (wdOf hw 66 rfl) (ty := .long) (by decide) rfl rfl (g := (mkF m 90 #[sR_ tx, sR_ ax, sI_ (3 : Int32), sI_ tl] [(.long (cg + (1 : Int64))), (.ref tx)])) rfl rfl (hb hby d_rm_hang1_90)
    have N_125 := Fr.snoc X_125 N_102 o_tx
    have f_126 := f_103.wr W_125 o_tx
    have f_127 := f_104.wr W_125
    have f_128 := f_105.wr W_125
    have f_129 := f_106.other W_125 (Or.inr (slot_ne (Or.inl (wdOf hw 79 rfl)) (Or.inl (wdOf hw 214 rfl)) (by decide) (t := .int) (t' := .long) (by decide) (by decide)))
    have f_130 := f_107.other W_125 (Or.inr (slot_ne (Or.inr (wdOf hw 81 rfl)) (Or.inl (wdOf hw 214 rfl)) (by decide) (t := .int) (t' := .long) (by decide) (by decide)))
    have f_131 := f_108.other W_125 (Or.inr (slot_ne (Or.inr (wdOf hw 85 rfl)) (Or.inl (wdOf hw 214 rfl)) (by decide) (t := (.array (.object "com/example/copse/copse/Arc"))) (t' := .long) (by decide) (by decide)))
    have f_132 := f_109.other W_125 (Or.inr (slot_ne (Or.inr (wdOf hw 88 rfl)) (Or.inl (wdOf hw 214 rfl)) (by decide) (t := (.array .int)) (t' := .long) (by decide) (by decide)))
    have f_133 := f_110.other W_125 (Or.inr (slot_ne (Or.inr (wdOf hw 93 rfl)) (Or.inl (wdOf hw 214 rfl)) (by decide) (t := (.array .int)) (t' := .long) (by decide) (by decide)))
    have f_134 := f_111.other W_125 (Or.inr (slot_ne (Or.inr (wdOf hw 95 rfl)) (Or.inl (wdOf hw 214 rfl)) (by decide) (t := (.array .int)) (t' := .long) (by decide) (by decide)))
    have f_135 := f_112.other W_125 (Or.inr (slot_ne (Or.inr (wdOf hw 97 rfl)) (Or.inl (wdOf hw 214 rfl)) (by decide) (t := (.array .int)) (t' := .long) (by decide) (by decide)))
    have f_136 := f_113.other W_125 (Or.inr (slot_ne (Or.inr (wdOf hw 99 rfl)) (Or.inl (wdOf hw 214 rfl)) (by decide) (t := (.object "java/util/function/Predicate")) (t' := .long) (by decide) (by decide)))
    have f_137 := f_114.other W_125 (Or.inr (slot_ne (Or.inr (wdOf hw 101 rfl)) (Or.inl (wdOf hw 214 rfl)) (by decide) (t := (.array .boolean)) (t' := .long) (by decide) (by decide)))
    have f_138 := f_115.same W_125
    have f_139 := f_116.other W_125 (Or.inr (slot_ne (Or.inl (wdOf hw 220 rfl)) (Or.inl (wdOf hw 214 rfl)) (by decide) (t := (.object "com/example/copse/copse/LinkCutForest")) (t' := .long) (by decide) (by decide)))
    have f_140 := f_117.other W_125 (Ne.symm (f_105.neBar f_117 (wdOf hw 66 rfl)))
    have f_141 := f_118.other W_125 (Ne.symm (f_105.neBar f_118 (wdOf hw 66 rfl)))
    have f_142 := f_119.other W_125 (Ne.symm (f_105.neArv f_119 (wdOf hw 66 rfl)))
    have f_143 := f_120.other W_125 (Ne.symm (f_105.neBar f_120 (wdOf hw 66 rfl)))
    have f_144 := f_121.other W_125 (Ne.symm (f_105.neBar f_121 (wdOf hw 66 rfl)))
    have f_145 := f_122.other W_125 (Ne.symm (f_105.neBar f_122 (wdOf hw 66 rfl)))
    have y_146 : n0 ≤ h_125.size := Nat.le_trans (Nat.le_of_eq f_126.1.symm) f_126.2.1
    refine Goes.go (U' := (T_125.setTop (mkF m 93 #[sR_ tx, sR_ ax, sI_ (3 : Int32), sI_ tl] []))) st_125 ?_
    refine Goes.go (U' := (T_125.setTop (mkF m 96 #[sR_ tx, sR_ ax, sI_ (3 : Int32), sI_ tl] [(.int (1 : Int32)), (.int tl), (.ref tx)]))) (fun t kt => ?_) ?_
    · skip
      refine XS.aloadN X_125.here hx rfl (hb hby d_rm_hang1_93) rfl rfl ?_
      refine XS.iloadN X_125.here hx rfl (hb hby d_rm_hang1_94) rfl ?_
      refine XS.iconst X_125.here hx rfl (hb hby d_rm_hang1_95) ?_
      exact kt
    obtain ⟨v_147, T_147, L_147, X_147, q_147, st_147⟩ := callPrivate X_125 hx hZ (y := (⟨"com/example/copse/copse/HangingTree", "countChildren", "(II)V"⟩ : MethodName)) (W := 0) hown (wdOf hw 215 rfl) (wdOf hw 216 rfl) (wdOf hw 217 rfl) (wdOf hw 66 rfl) (wdOf hw 67 rfl) (wdOf hw 218 rfl) (by decide) (rm_cc l Z a0 hw [] tx ch tl h_125 n0 y_146 o_ch htl (f_128.neBar f_141 (wdOf hw 66 rfl)) f_132 f_139 f_141) (by decide) (by decide) (by decide) (by decide) e_125 f_128 (g := (mkF m 96 #[sR_ tx, sR_ ax, sI_ (3 : Int32), sI_ tl] [(.int (1 : Int32)), (.int tl), (.ref tx)])) rfl (by rw [hml]; rfl) (argsL := [(.int tl), (.int (1 : Int32))]) (rest := []) (lenOf pd_7 rfl) rfl rfl (Nat.le_refl _) (hb hby d_rm_hang1_96)
    obtain ⟨rfl, n_147, K_147, Bq_147⟩ := q_147
    have N_147 := Fr.app N_125 n_147
    have f_148 := f_126.keep K_147 (allS o_ch all0)
    have f_149 := f_127.keep K_147
    have f_150 := f_128.keep K_147
    have f_151 := f_129.keep K_147 (ninS (f_128.neBar f_141 (wdOf hw 66 rfl)) nin0)
    have f_152 := f_130.keep K_147 (ninS (f_128.neBar f_141 (wdOf hw 66 rfl)) nin0)
    have f_153 := f_131.keep K_147 (ninS (f_128.neBar f_141 (wdOf hw 66 rfl)) nin0)
    have f_154 := f_132.keep K_147 (ninS (f_128.neBar f_141 (wdOf hw 66 rfl)) nin0)
    have f_155 := f_133.keep K_147 (ninS (f_128.neBar f_141 (wdOf hw 66 rfl)) nin0)
    have f_156 := f_134.keep K_147 (ninS (f_128.neBar f_141 (wdOf hw 66 rfl)) nin0)
    have f_157 := f_135.keep K_147 (ninS (f_128.neBar f_141 (wdOf hw 66 rfl)) nin0)
    have f_158 := f_136.keep K_147 (ninS (f_128.neBar f_141 (wdOf hw 66 rfl)) nin0)
    have f_159 := f_137.keep K_147 (ninS (f_128.neBar f_141 (wdOf hw 66 rfl)) nin0)
    have f_160 := f_138.keep K_147 (ninS (f_128.neBar f_141 (wdOf hw 66 rfl)) nin0)
    have f_161 := f_139.keep K_147 (ninS (f_128.neBar f_141 (wdOf hw 66 rfl)) nin0)
    have f_162 := f_140.keep K_147 (ninS n_ps_ch nin0)
    have f_164 := f_142.keep K_147 (ninS (f_142.neBar f_141 nofun) nin0)
    have f_165 := f_143.keep K_147 (ninS (f_143.neT f_141 nofun) nin0)
    have f_166 := f_144.keep K_147 (ninS n_ns_ch nin0)
    have f_167 := f_145.keep K_147 (ninS n_fc_ch nin0)
    have y_168 : n0 ≤ T_147.heap.size := Nat.le_trans (Nat.le_of_eq f_148.1.symm) f_148.2.1
    refine Goes.go (U' := (T_147.setTop (mkF m 99 #[sR_ tx, sR_ ax, sI_ (3 : Int32), sI_ tl] []))) st_147 ?_
    refine Goes.go (U' := (T_147.setTop (mkF m 100 #[sR_ tx, sR_ ax, sI_ (3 : Int32), sI_ tl] [(.ref tx)]))) (fun t kt => ?_) ?_
    · skip
      refine XS.aloadN X_147.here hx rfl (hb hby d_rm_hang1_99) rfl rfl ?_
      exact kt
    obtain ⟨T_169, X_169, e_169, st_169⟩ := getF X_147 hx hZ hown (host := "") (Or.inl (wdOf hw 219 rfl)) Via.refl (rfl : T_147.heap = T_147.heap) f_161 (g := (mkF m 100 #[sR_ tx, sR_ ax, sI_ (3 : Int32), sI_ tl] [(.ref tx)])) rfl rfl (hb hby d_rm_hang1_100)
    refine Goes.go (U' := (T_169.setTop (mkF m 103 #[sR_ tx, sR_ ax, sI_ (3 : Int32), sI_ tl] [.null]))) st_169 ?_
    refine Goes.go (U' := (T_169.setTop (mkF m 119 #[sR_ tx, sR_ ax, sI_ (3 : Int32), sI_ tl] []))) (fun t kt => ?_) ?_
    · skip
      refine XS.ifnullYes X_169.here hx rfl (pc0 := 103) (pc' := 119) rfl (hb hby d_rm_hang1_103) rfl (by decide) (by decide) ?_
      exact kt
    refine Goes.retV X_169 hx hlk hret (hb hby d_rm_hang1_119) (by decide) (by decide) ?_
    try rw [e_169]
    exact ⟨rfl, N_147, f_148, ⟨_, _, _, _, _, _, _, _, _, f_150, f_151, f_152, f_153, f_154, f_155, f_156, f_157, f_158, f_159, f_160, f_161, f_164, f_165, f_166, f_167, f_162, Bq_147, Ov, ⟨o_tx, o_ho, o_ch, o_fc, o_ns, o_ps, o_tu⟩, ⟨n_fc_ns, n_fc_ps, n_fc_ch, n_ns_ps, n_ns_ch, n_ps_ch⟩⟩⟩
  · -- not i_77 = 0
    refine Goes.go (U' := (T_76.setTop (mkF m 55 #[sR_ tx, sR_ ax, sI_ (3 : Int32), sI_ tl] [(.ref tx)]))) (fun t kt => ?_) ?_
    · skip
      refine XS.ifNo X_76.here hx rfl (hb hby d_rm_hang1_51) rfl (XT.i0_eq_f cf) ?_
      refine XS.aloadN X_76.here hx rfl (hb hby d_rm_hang1_54) rfl rfl ?_
      exact kt
    obtain ⟨T_170, X_170, e_170, st_170⟩ := getF X_76 hx hZ hown (host := "") (Or.inl (wdOf hw 96 rfl)) Via.refl e_76 f_64 (g := (mkF m 55 #[sR_ tx, sR_ ax, sI_ (3 : Int32), sI_ tl] [(.ref tx)])) rfl rfl (hb hby d_rm_hang1_55)
    refine Goes.go (U' := (T_170.setTop (mkF m 58 #[sR_ tx, sR_ ax, sI_ (3 : Int32), sI_ tl] [(.ref ps)]))) st_170 ?_
    refine Goes.go (U' := (T_170.setTop (mkF m 59 #[sR_ tx, sR_ ax, sI_ (3 : Int32), sI_ tl] [(.ref tx), (.ref ps)]))) (fun t kt => ?_) ?_
    · skip
      refine XS.aloadN X_170.here hx rfl (hb hby d_rm_hang1_58) rfl rfl ?_
      exact kt
    obtain ⟨T_171, X_171, e_171, st_171⟩ := getF X_170 hx hZ hown (host := "") (Or.inl (wdOf hw 92 rfl)) Via.refl e_170 f_62 (g := (mkF m 59 #[sR_ tx, sR_ ax, sI_ (3 : Int32), sI_ tl] [(.ref tx), (.ref ps)])) rfl rfl (hb hby d_rm_hang1_59)
    refine Goes.go (U' := (T_171.setTop (mkF m 62 #[sR_ tx, sR_ ax, sI_ (3 : Int32), sI_ tl] [(.ref fc), (.ref ps)]))) st_171 ?_
    refine Goes.go (U' := (T_171.setTop (mkF m 63 #[sR_ tx, sR_ ax, sI_ (3 : Int32), sI_ tl] [(.int tl), (.ref fc), (.ref ps)]))) (fun t kt => ?_) ?_
    · skip
      refine XS.iloadN X_171.here hx rfl (hb hby d_rm_hang1_62) rfl ?_
      exact kt
    obtain ⟨cl_172, Ar_172, S_172, H_172⟩ := id f_70
    have hin_172 : ¬ (tl < 0 ∨ cl_172.slots.size ≤ (tl).toNatClampNeg) := inb_of S_172 htl
    obtain ⟨_, hat_172, i_172, rfl, bd_172⟩ := Bar.at H_172 hin_172
    refine Goes.go (U' := (T_171.setTop (mkF m 64 #[sR_ tx, sR_ ax, sI_ (3 : Int32), sI_ tl] [(.int i_172), (.ref ps)]))) (fun t kt => ?_) ?_
    · skip
      refine X_171.iaload hx (j := tl) (v := (.int i_172)) (by rw [e_171]; exact Ar_172.1) (State.isArrayOf_alike hZ.alike Ar_172.2.1) Ar_172.2.2 hin_172 hat_172 (g := (mkF m 63 #[sR_ tx, sR_ ax, sI_ (3 : Int32), sI_ tl] [(.int tl), (.ref fc), (.ref ps)])) rfl rfl (hb hby d_rm_hang1_63) _ ?_
      exact kt
    refine Goes.go (U' := (T_171.setTop (mkF m 65 #[sR_ tx, sR_ ax, sI_ (3 : Int32), sI_ tl] [(.int (3 : Int32)), (.int i_172), (.ref ps)]))) (fun t kt => ?_) ?_
    · skip
      refine XS.iloadN X_171.here hx rfl (hb hby d_rm_hang1_64) rfl ?_
      exact kt
    obtain ⟨cl_173, Ar_173, S_173, H_173⟩ := id f_71
    have hin_173 : ¬ (i_172 < 0 ∨ cl_173.slots.size ≤ (i_172).toNatClampNeg) := inb_of S_173 bd_172
    obtain ⟨T_173, h_173, X_173, e_173, W_173, st_173⟩ := stI X_171 hx hZ e_171 Ar_173 (j := i_172) hin_173 (g := (mkF m 65 #[sR_ tx, sR_ ax, sI_ (3 : Int32), sI_ tl] [(.int (3 : Int32)), (.int i_172), (.ref ps)])) rfl rfl (hb hby d_rm_hang1_65)
    have B_173 : Bar Z h_173 ps .int IntP := Bar.set Ar_173 S_173 H_173 W_173 (IntP.mk _)
    have N_173 := Fr.snoc X_173 N_54 o_ps
    have f_174 := f_55.wr W_173 o_ps
    have f_175 := f_56.wr W_173
    have f_176 := f_57.wr W_173
    have f_177 := f_58.other W_173 (Or.inl (f_57.neBar f_71 (wdOf hw 66 rfl)))
    have f_178 := f_59.other W_173 (Or.inl (f_57.neBar f_71 (wdOf hw 66 rfl)))
    have f_179 := f_60.other W_173 (Or.inl (f_57.neBar f_71 (wdOf hw 66 rfl)))
    have f_180 := f_61.other W_173 (Or.inl (f_57.neBar f_71 (wdOf hw 66 rfl)))
    have f_181 := f_62.other W_173 (Or.inl (f_57.neBar f_71 (wdOf hw 66 rfl)))
    have f_182 := f_63.other W_173 (Or.inl (f_57.neBar f_71 (wdOf hw 66 rfl)))
    have f_183 := f_64.other W_173 (Or.inl (f_57.neBar f_71 (wdOf hw 66 rfl)))
    have f_184 := f_65.other W_173 (Or.inl (f_57.neBar f_71 (wdOf hw 66 rfl)))
    have f_185 := f_66.other W_173 (Or.inl (f_57.neBar f_71 (wdOf hw 66 rfl)))
    have f_186 := f_67.other W_173 (Or.inl (f_57.neBar f_71 (wdOf hw 66 rfl)))
    have f_187 := f_68.other W_173 (Or.inl (f_57.neBar f_71 (wdOf hw 66 rfl)))
    have f_188 := f_70.other W_173 n_fc_ps
    have f_190 := f_72.other W_173 (Ne.symm n_ps_ch)
    have f_191 := f_73.other W_173 (f_73.neBar f_71 nofun)
    have f_192 := f_74.other W_173 (f_74.neT f_71 nofun)
    have f_193 := B_54.other W_173 n_ns_ps
    have y_194 : n0 ≤ h_173.size := Nat.le_trans (Nat.le_of_eq f_174.1.symm) f_174.2.1
    refine Goes.go (U' := (T_173.setTop (mkF m 66 #[sR_ tx, sR_ ax, sI_ (3 : Int32), sI_ tl] []))) st_173 ?_
    refine Goes.go (U' := (T_173.setTop (mkF m 67 #[sR_ tx, sR_ ax, sI_ (3 : Int32), sI_ tl] [(.ref tx)]))) (fun t kt => ?_) ?_
    · skip
      refine XS.aloadN X_173.here hx rfl (hb hby d_rm_hang1_66) rfl rfl ?_
      exact kt
    obtain ⟨T_195, X_195, e_195, st_195⟩ := getF X_173 hx hZ hown (host := "") (Or.inl (wdOf hw 92 rfl)) Via.refl e_173 f_181 (g := (mkF m 67 #[sR_ tx, sR_ ax, sI_ (3 : Int32), sI_ tl] [(.ref tx)])) rfl rfl (hb hby d_rm_hang1_67)
    refine Goes.go (U' := (T_195.setTop (mkF m 70 #[sR_ tx, sR_ ax, sI_ (3 : Int32), sI_ tl] [(.ref fc)]))) st_195 ?_
    refine Goes.go (U' := (T_195.setTop (mkF m 72 #[sR_ tx, sR_ ax, sI_ (3 : Int32), sI_ tl] [(.int (3 : Int32)), (.int tl), (.ref fc)]))) (fun t kt => ?_) ?_
    · skip
      refine XS.iloadN X_195.here hx rfl (hb hby d_rm_hang1_70) rfl ?_
      refine XS.iloadN X_195.here hx rfl (hb hby d_rm_hang1_71) rfl ?_
      exact kt
    obtain ⟨cl_196, Ar_196, S_196, H_196⟩ := id f_188
    have hin_196 : ¬ (tl < 0 ∨ cl_196.slots.size ≤ (tl).toNatClampNeg) := inb_of S_196 htl
    obtain ⟨T_196, h_196, X_196, e_196, W_196, st_196⟩ := stI X_195 hx hZ e_195 Ar_196 (j := tl) hin_196 (g := (mkF m 72 #[sR_ tx, sR_ ax, sI_ (3 : Int32), sI_ tl] [(.int (3 : Int32)), (.int tl), (.ref fc)])) rfl rfl (hb hby d_rm_hang1_72)
    have B_196 : Bar Z h_196 fc .int IxP := Bar.set Ar_196 S_196 H_196 W_196 ⟨_, rfl, by decide, by decide⟩
    have N_196 := Fr.snoc X_196 N_173 o_fc
    have f_197 := f_174.wr W_196 o_fc
    have f_198 := f_175.wr W_196
    have f_199 := f_176.wr W_196
    have f_200 := f_177.other W_196 (Or.inl (f_176.neBar f_188 (wdOf hw 66 rfl)))
    have f_201 := f_178.other W_196 (Or.inl (f_176.neBar f_188 (wdOf hw 66 rfl)))
    have f_202 := f_179.other W_196 (Or.inl (f_176.neBar f_188 (wdOf hw 66 rfl)))
    have f_203 := f_180.other W_196 (Or.inl (f_176.neBar f_188 (wdOf hw 66 rfl)))
    have f_204 := f_181.other W_196 (Or.inl (f_176.neBar f_188 (wdOf hw 66 rfl)))
    have f_205 := f_182.other W_196 (Or.inl (f_176.neBar f_188 (wdOf hw 66 rfl)))
    have f_206 := f_183.other W_196 (Or.inl (f_176.neBar f_188 (wdOf hw 66 rfl)))
    have f_207 := f_184.other W_196 (Or.inl (f_176.neBar f_188 (wdOf hw 66 rfl)))
    have f_208 := f_185.other W_196 (Or.inl (f_176.neBar f_188 (wdOf hw 66 rfl)))
    have f_209 := f_186.other W_196 (Or.inl (f_176.neBar f_188 (wdOf hw 66 rfl)))
    have f_210 := f_187.other W_196 (Or.inl (f_176.neBar f_188 (wdOf hw 66 rfl)))
    have f_212 := f_190.other W_196 (Ne.symm n_fc_ch)
    have f_213 := f_191.other W_196 (f_191.neBar f_188 nofun)
    have f_214 := f_192.other W_196 (f_192.neT f_188 nofun)
    have f_215 := f_193.other W_196 (Ne.symm n_fc_ns)
    have f_216 := B_173.other W_196 (Ne.symm n_fc_ps)
    have y_217 : n0 ≤ h_196.size := Nat.le_trans (Nat.le_of_eq f_197.1.symm) f_197.2.1
    refine Goes.go (U' := (T_196.setTop (mkF m 73 #[sR_ tx, sR_ ax, sI_ (3 : Int32), sI_ tl] []))) st_196 ?_
    refine Goes.go (U' := (T_196.setTop (mkF m 75 #[sR_ tx, sR_ ax, sI_ (3 : Int32), sI_ tl] [(.ref tx), (.ref tx)]))) (fun t kt => ?_) ?_
    · skip
      refine XS.aloadN X_196.here hx rfl (hb hby d_rm_hang1_73) rfl rfl ?_
      refine XS.dup X_196.here hx rfl (hb hby d_rm_hang1_74) rfl rfl ?_
      exact kt
    obtain ⟨T_218, X_218, e_218, st_218⟩ := getF X_196 hx hZ hown (host := "") (Or.inl (wdOf hw 78 rfl)) Via.refl e_196 f_200 (g := (mkF m 75 #[sR_ tx, sR_ ax, sI_ (3 : Int32), sI_ tl] [(.ref tx), (.ref tx)])) rfl rfl (hb hby d_rm_hang1_75)
    refine Goes.go (U' := (T_218.setTop (mkF m 78 #[sR_ tx, sR_ ax, sI_ (3 : Int32), sI_ tl] [(.int sz), (.ref tx)]))) st_218 ?_
    refine Goes.go (U' := (T_218.setTop (mkF m 80 #[sR_ tx, sR_ ax, sI_ (3 : Int32), sI_ tl] [(.int (sz + (1 : Int32))), (.ref tx)]))) (fun t kt => ?_) ?_
    · skip
      refine XS.iconst X_218.here hx rfl (hb hby d_rm_hang1_78) ?_
      refine XS.iadd X_218.here hx rfl (hb hby d_rm_hang1_79) rfl ?_
      exact kt
    obtain ⟨T_219, h_219, X_219, e_219, W_219, st_219⟩ := putF X_218 hx hZ hown (host := "") (Or.inl (wdOf hw 78 rfl)) Via.refl e_218 f_200 f_199 (Or.inl (wdOf hw 79 rfl)) (wdOf hw 66 rfl) (ty := .int) (by decide) rfl rfl (g := (mkF m 80 #[sR_ tx, sR_ ax, sI_ (3 : Int32), sI_ tl] [(.int (sz + (1 : Int32))), (.ref tx)])) rfl rfl (hb hby d_rm_hang1_80)
    have N_219 := Fr.snoc X_219 N_196 o_tx
    have f_220 := f_197.wr W_219 o_tx
    have f_221 := f_198.wr W_219
    have f_222 := f_199.wr W_219
    have f_223 := f_200.same W_219
    have f_224 := f_201.other W_219 (Or.inr (slot_ne (Or.inr (wdOf hw 81 rfl)) (Or.inl (wdOf hw 79 rfl)) (by decide) (t := .int) (t' := .int) (by decide) (by decide)))
    have f_225 := f_202.other W_219 (Or.inr (slot_ne (Or.inr (wdOf hw 85 rfl)) (Or.inl (wdOf hw 79 rfl)) (by decide) (t := (.array (.object "com/example/copse/copse/Arc"))) (t' := .int) (by decide) (by decide)))
    have f_226 := f_203.other W_219 (Or.inr (slot_ne (Or.inr (wdOf hw 88 rfl)) (Or.inl (wdOf hw 79 rfl)) (by decide) (t := (.array .int)) (t' := .int) (by decide) (by decide)))
    have f_227 := f_204.other W_219 (Or.inr (slot_ne (Or.inr (wdOf hw 93 rfl)) (Or.inl (wdOf hw 79 rfl)) (by decide) (t := (.array .int)) (t' := .int) (by decide) (by decide)))
    have f_228 := f_205.other W_219 (Or.inr (slot_ne (Or.inr (wdOf hw 95 rfl)) (Or.inl (wdOf hw 79 rfl)) (by decide) (t := (.array .int)) (t' := .int) (by decide) (by decide)))
    have f_229 := f_206.other W_219 (Or.inr (slot_ne (Or.inr (wdOf hw 97 rfl)) (Or.inl (wdOf hw 79 rfl)) (by decide) (t := (.array .int)) (t' := .int) (by decide) (by decide)))
    have f_230 := f_207.other W_219 (Or.inr (slot_ne (Or.inr (wdOf hw 99 rfl)) (Or.inl (wdOf hw 79 rfl)) (by decide) (t := (.object "java/util/function/Predicate")) (t' := .int) (by decide) (by decide)))
    have f_231 := f_208.other W_219 (Or.inr (slot_ne (Or.inr (wdOf hw 101 rfl)) (Or.inl (wdOf hw 79 rfl)) (by decide) (t := (.array .boolean)) (t' := .int) (by decide) (by decide)))
    have f_232 := f_209.other W_219 (Or.inr (slot_ne (Or.inl (wdOf hw 214 rfl)) (Or.inl (wdOf hw 79 rfl)) (by decide) (t := .long) (t' := .int) (by decide) (by decide)))
    have f_233 := f_210.other W_219 (Or.inr (slot_ne (Or.inl (wdOf hw 220 rfl)) (Or.inl (wdOf hw 79 rfl)) (by decide) (t := (.object "com/example/copse/copse/LinkCutForest")) (t' := .int) (by decide) (by decide)))
    have f_234 := f_212.other W_219 (Ne.symm (f_199.neBar f_212 (wdOf hw 66 rfl)))
    have f_235 := f_213.other W_219 (Ne.symm (f_199.neArv f_213 (wdOf hw 66 rfl)))
    have f_236 := f_214.other W_219 (Ne.symm (f_199.neBar f_214 (wdOf hw 66 rfl)))
    have f_237 := f_215.other W_219 (Ne.symm (f_199.neBar f_215 (wdOf hw 66 rfl)))
    have f_238 := f_216.other W_219 (Ne.symm (f_199.neBar f_216 (wdOf hw 66 rfl)))
    have f_239 := B_196.other W_219 (Ne.symm (f_199.neBar B_196 (wdOf hw 66 rfl)))
    have y_240 : n0 ≤ h_219.size := Nat.le_trans (Nat.le_of_eq f_220.1.symm) f_220.2.1
    refine Goes.go (U' := (T_219.setTop (mkF m 83 #[sR_ tx, sR_ ax, sI_ (3 : Int32), sI_ tl] []))) st_219 ?_
    refine Goes.go (U' := (T_219.setTop (mkF m 85 #[sR_ tx, sR_ ax, sI_ (3 : Int32), sI_ tl] [(.ref tx), (.ref tx)]))) (fun t kt => ?_) ?_
    · skip
      refine XS.aloadN X_219.here hx rfl (hb hby d_rm_hang1_83) rfl rfl ?_
      refine XS.dup X_219.here hx rfl (hb hby d_rm_hang1_84) rfl rfl ?_
      exact kt
    obtain ⟨T_241, X_241, e_241, st_241⟩ := getF X_219 hx hZ hown (host := "") (Or.inl (wdOf hw 213 rfl)) Via.refl e_219 f_232 (g := (mkF m 85 #[sR_ tx, sR_ ax, sI_ (3 : Int32), sI_ tl] [(.ref tx), (.ref tx)])) rfl rfl (hb hby d_rm_hang1_85)
    refine Goes.go (U' := (T_241.setTop (mkF m 88 #[sR_ tx, sR_ ax, sI_ (3 : Int32), sI_ tl] [(.long cg), (.ref tx)]))) st_241 ?_
    refine Goes.go (U' := (T_241.setTop (mkF m 90 #[sR_ tx, sR_ ax, sI_ (3 : Int32), sI_ tl] [(.long (cg + (1 : Int64))), (.ref tx)]))) (fun t kt => ?_) ?_
    · skip
      refine XS.lconst X_241.here hx rfl (hb hby d_rm_hang1_88) ?_
      refine XS.ladd X_241.here hx rfl (hb hby d_rm_hang1_89) rfl ?_
      exact kt
    obtain ⟨T_242, h_242, X_242, e_242, W_242, st_242⟩ := putF X_241 hx hZ hown (host := "") (Or.inl (wdOf hw 213 rfl)) Via.refl e_241 f_232 f_222 (Or.inl (wdOf hw 214 rfl)) (wdOf hw 66 rfl) (ty := .long) (by decide) rfl rfl (g := (mkF m 90 #[sR_ tx, sR_ ax, sI_ (3 : Int32), sI_ tl] [(.long (cg + (1 : Int64))), (.ref tx)])) rfl rfl (hb hby d_rm_hang1_90)
    have N_242 := Fr.snoc X_242 N_219 o_tx
    have f_243 := f_220.wr W_242 o_tx
    have f_244 := f_221.wr W_242
    have f_245 := f_222.wr W_242
    have f_246 := f_223.other W_242 (Or.inr (slot_ne (Or.inl (wdOf hw 79 rfl)) (Or.inl (wdOf hw 214 rfl)) (by decide) (t := .int) (t' := .long) (by decide) (by decide)))
    have f_247 := f_224.other W_242 (Or.inr (slot_ne (Or.inr (wdOf hw 81 rfl)) (Or.inl (wdOf hw 214 rfl)) (by decide) (t := .int) (t' := .long) (by decide) (by decide)))
    have f_248 := f_225.other W_242 (Or.inr (slot_ne (Or.inr (wdOf hw 85 rfl)) (Or.inl (wdOf hw 214 rfl)) (by decide) (t := (.array (.object "com/example/copse/copse/Arc"))) (t' := .long) (by decide) (by decide)))
    have f_249 := f_226.other W_242 (Or.inr (slot_ne (Or.inr (wdOf hw 88 rfl)) (Or.inl (wdOf hw 214 rfl)) (by decide) (t := (.array .int)) (t' := .long) (by decide) (by decide)))
    have f_250 := f_227.other W_242 (Or.inr (slot_ne (Or.inr (wdOf hw 93 rfl)) (Or.inl (wdOf hw 214 rfl)) (by decide) (t := (.array .int)) (t' := .long) (by decide) (by decide)))
    have f_251 := f_228.other W_242 (Or.inr (slot_ne (Or.inr (wdOf hw 95 rfl)) (Or.inl (wdOf hw 214 rfl)) (by decide) (t := (.array .int)) (t' := .long) (by decide) (by decide)))
    have f_252 := f_229.other W_242 (Or.inr (slot_ne (Or.inr (wdOf hw 97 rfl)) (Or.inl (wdOf hw 214 rfl)) (by decide) (t := (.array .int)) (t' := .long) (by decide) (by decide)))
    have f_253 := f_230.other W_242 (Or.inr (slot_ne (Or.inr (wdOf hw 99 rfl)) (Or.inl (wdOf hw 214 rfl)) (by decide) (t := (.object "java/util/function/Predicate")) (t' := .long) (by decide) (by decide)))
    have f_254 := f_231.other W_242 (Or.inr (slot_ne (Or.inr (wdOf hw 101 rfl)) (Or.inl (wdOf hw 214 rfl)) (by decide) (t := (.array .boolean)) (t' := .long) (by decide) (by decide)))
    have f_255 := f_232.same W_242
    have f_256 := f_233.other W_242 (Or.inr (slot_ne (Or.inl (wdOf hw 220 rfl)) (Or.inl (wdOf hw 214 rfl)) (by decide) (t := (.object "com/example/copse/copse/LinkCutForest")) (t' := .long) (by decide) (by decide)))
    have f_257 := f_234.other W_242 (Ne.symm (f_222.neBar f_234 (wdOf hw 66 rfl)))
    have f_258 := f_235.other W_242 (Ne.symm (f_222.neArv f_235 (wdOf hw 66 rfl)))
    have f_259 := f_236.other W_242 (Ne.symm (f_222.neBar f_236 (wdOf hw 66 rfl)))
    have f_260 := f_237.other W_242 (Ne.symm (f_222.neBar f_237 (wdOf hw 66 rfl)))
    have f_261 := f_238.other W_242 (Ne.symm (f_222.neBar f_238 (wdOf hw 66 rfl)))
    have f_262 := f_239.other W_242 (Ne.symm (f_222.neBar f_239 (wdOf hw 66 rfl)))
    have y_263 : n0 ≤ h_242.size := Nat.le_trans (Nat.le_of_eq f_243.1.symm) f_243.2.1
    refine Goes.go (U' := (T_242.setTop (mkF m 93 #[sR_ tx, sR_ ax, sI_ (3 : Int32), sI_ tl] []))) st_242 ?_
    refine Goes.go (U' := (T_242.setTop (mkF m 96 #[sR_ tx, sR_ ax, sI_ (3 : Int32), sI_ tl] [(.int (1 : Int32)), (.int tl), (.ref tx)]))) (fun t kt => ?_) ?_
    · skip
      refine XS.aloadN X_242.here hx rfl (hb hby d_rm_hang1_93) rfl rfl ?_
      refine XS.iloadN X_242.here hx rfl (hb hby d_rm_hang1_94) rfl ?_
      refine XS.iconst X_242.here hx rfl (hb hby d_rm_hang1_95) ?_
      exact kt
    obtain ⟨v_264, T_264, L_264, X_264, q_264, st_264⟩ := callPrivate X_242 hx hZ (y := (⟨"com/example/copse/copse/HangingTree", "countChildren", "(II)V"⟩ : MethodName)) (W := 0) hown (wdOf hw 215 rfl) (wdOf hw 216 rfl) (wdOf hw 217 rfl) (wdOf hw 66 rfl) (wdOf hw 67 rfl) (wdOf hw 218 rfl) (by decide) (rm_cc l Z a0 hw [] tx ch tl h_242 n0 y_263 o_ch htl (f_245.neBar f_257 (wdOf hw 66 rfl)) f_249 f_256 f_257) (by decide) (by decide) (by decide) (by decide) e_242 f_245 (g := (mkF m 96 #[sR_ tx, sR_ ax, sI_ (3 : Int32), sI_ tl] [(.int (1 : Int32)), (.int tl), (.ref tx)])) rfl (by rw [hml]; rfl) (argsL := [(.int tl), (.int (1 : Int32))]) (rest := []) (lenOf pd_7 rfl) rfl rfl (Nat.le_refl _) (hb hby d_rm_hang1_96)
    obtain ⟨rfl, n_264, K_264, Bq_264⟩ := q_264
    have N_264 := Fr.app N_242 n_264
    have f_265 := f_243.keep K_264 (allS o_ch all0)
    have f_266 := f_244.keep K_264
    have f_267 := f_245.keep K_264
    have f_268 := f_246.keep K_264 (ninS (f_245.neBar f_257 (wdOf hw 66 rfl)) nin0)
    have f_269 := f_247.keep K_264 (ninS (f_245.neBar f_257 (wdOf hw 66 rfl)) nin0)
    have f_270 := f_248.keep K_264 (ninS (f_245.neBar f_257 (wdOf hw 66 rfl)) nin0)
    have f_271 := f_249.keep K_264 (ninS (f_245.neBar f_257 (wdOf hw 66 rfl)) nin0)
    have f_272 := f_250.keep K_264 (ninS (f_245.neBar f_257 (wdOf hw 66 rfl)) nin0)
    have f_273 := f_251.keep K_264 (ninS (f_245.neBar f_257 (wdOf hw 66 rfl)) nin0)
    have f_274 := f_252.keep K_264 (ninS (f_245.neBar f_257 (wdOf hw 66 rfl)) nin0)
    have f_275 := f_253.keep K_264 (ninS (f_245.neBar f_257 (wdOf hw 66 rfl)) nin0)
    have f_276 := f_254.keep K_264 (ninS (f_245.neBar f_257 (wdOf hw 66 rfl)) nin0)
    have f_277 := f_255.keep K_264 (ninS (f_245.neBar f_257 (wdOf hw 66 rfl)) nin0)
    have f_278 := f_256.keep K_264 (ninS (f_245.neBar f_257 (wdOf hw 66 rfl)) nin0)
    have f_280 := f_258.keep K_264 (ninS (f_258.neBar f_257 nofun) nin0)
    have f_281 := f_259.keep K_264 (ninS (f_259.neT f_257 nofun) nin0)
    have f_282 := f_260.keep K_264 (ninS n_ns_ch nin0)
    have f_283 := f_261.keep K_264 (ninS n_ps_ch nin0)
    have f_284 := f_262.keep K_264 (ninS n_fc_ch nin0)
    have y_285 : n0 ≤ T_264.heap.size := Nat.le_trans (Nat.le_of_eq f_265.1.symm) f_265.2.1
    refine Goes.go (U' := (T_264.setTop (mkF m 99 #[sR_ tx, sR_ ax, sI_ (3 : Int32), sI_ tl] []))) st_264 ?_
    refine Goes.go (U' := (T_264.setTop (mkF m 100 #[sR_ tx, sR_ ax, sI_ (3 : Int32), sI_ tl] [(.ref tx)]))) (fun t kt => ?_) ?_
    · skip
      refine XS.aloadN X_264.here hx rfl (hb hby d_rm_hang1_99) rfl rfl ?_
      exact kt
    obtain ⟨T_286, X_286, e_286, st_286⟩ := getF X_264 hx hZ hown (host := "") (Or.inl (wdOf hw 219 rfl)) Via.refl (rfl : T_264.heap = T_264.heap) f_278 (g := (mkF m 100 #[sR_ tx, sR_ ax, sI_ (3 : Int32), sI_ tl] [(.ref tx)])) rfl rfl (hb hby d_rm_hang1_100)
    refine Goes.go (U' := (T_286.setTop (mkF m 103 #[sR_ tx, sR_ ax, sI_ (3 : Int32), sI_ tl] [.null]))) st_286 ?_
    refine Goes.go (U' := (T_286.setTop (mkF m 119 #[sR_ tx, sR_ ax, sI_ (3 : Int32), sI_ tl] []))) (fun t kt => ?_) ?_
    · skip
      refine XS.ifnullYes X_286.here hx rfl (pc0 := 103) (pc' := 119) rfl (hb hby d_rm_hang1_103) rfl (by decide) (by decide) ?_
      exact kt
    refine Goes.retV X_286 hx hlk hret (hb hby d_rm_hang1_119) (by decide) (by decide) ?_
    try rw [e_286]
    exact ⟨rfl, N_264, f_265, ⟨_, _, _, _, _, _, _, _, _, f_267, f_268, f_269, f_270, f_271, f_272, f_273, f_274, f_275, f_276, f_277, f_278, f_280, f_281, f_282, f_284, f_283, Bq_264, Ov, ⟨o_tx, o_ho, o_ch, o_fc, o_ns, o_ps, o_tu⟩, ⟨n_fc_ns, n_fc_ps, n_fc_ch, n_ns_ps, n_ns_ch, n_ps_ch⟩⟩⟩
set_option maxHeartbeats 4000000 in
theorem ef_rm_hang4 (m : MethodId) (x0 : Addr) (x1 : Addr)  : entryFrame m #[(.ref x0), (.ref x1)] 4 = mkF m 0 #[.val (.ref x0), .val (.ref x1), .unset, .unset] [] := by first | (simp [entryFrame, mkF, argsToLocals, catR, catN, catI, catJ]; done) | rfl
set_option maxRecDepth 65536 in
set_option maxHeartbeats 40000000 in
theorem rm_hang4 (l : Launch) (Z : State) (a0 : Array Value) (hw : ∀ d ∈ tables_1, d.before a0 Z = true) (ws : List Jvm.Cond) (tx ax la : Addr) (cK : ClassId) (r tl : Int32) (v0 v1 v2 v3 v4 : Value) (h0 : Heap) (n0 : Nat) (Z0 : n0 ≤ h0.size) (O : Old Z n0 h0) (FL : HLam.Lam Z cK la) (T0 : HTr Z h0 n0 tx la r v0 v1 v2 v3 v4) (Ea : Exa Z h0 ax "com/example/copse/copse/Arc") (Fh : Fld Z h0 ax "com/example/copse/copse/Arc" "head" "I" (.int (4 : Int32))) (Ft : Fld Z h0 ax "com/example/copse/copse/Arc" "tail" "I" (.int tl)) (htl : ¬ tl < 0 ∧ tl < 5) :
    Pays l Z (⟨"com/example/copse/copse/HangingTree", "hang", "(Lcom/example/copse/copse/Arc;)V"⟩ : MethodName) prog_20_method_4_code 4 none ws ({ frames := 2, cells := 0, slots := 0, locals := 27 } : Room) #[(.ref tx), (.ref ax)] h0 (fun v h L => v = none ∧ Fr n0 L ∧ Old Z n0 h ∧ HTr Z h n0 tx la r v0 v1 v2 v3 (.ref ax)) := by
  refine Pays.of (plainFor_of_name (by first | (simp [plainName, overriddenIn]; done) | decide +kernel)) ?_
  intro p e s m below meth c s₁ hx hby hml hown hnm hret hlk hZ e0 X0
  have N0 := Fr.nil n0
  have K0 : Keep h0 h0 [] := Keep.refl _ _
  refine Goes.go (U' := (s₁.setTop (mkF m 0 #[sR_ tx, sR_ ax, sU_, sU_] []))) (fun t kt => castTop (ef_rm_hang4 m tx ax) kt) ?_
  obtain ⟨ho, ch, fc, ns, ps, tu, kh, sz, cg, Et, Ft_size, Ft_root, Ft_hangsOn, Ft_children, Ft_firstChild, Ft_nextSibling, Ft_previousSibling, Ft_twinned, Ft_turns, Ft_changes, Ft_forest, Vh, Btu, Bns, Bfc, Bps, Bch, Ov, ⟨o_tx, o_ho, o_ch, o_fc, o_ns, o_ps, o_tu⟩, ⟨n_fc_ns, n_fc_ps, n_fc_ch, n_ns_ps, n_ns_ch, n_ps_ch⟩⟩ := id T0
  refine Goes.go (U' := (s₁.setTop (mkF m 1 #[sR_ tx, sR_ ax, sU_, sU_] [(.ref ax)]))) (fun t kt => ?_) ?_
  · skip
    refine XS.aloadN X0.here hx rfl (hb hby d_rm_hang1_0) rfl rfl ?_
    exact kt
  obtain ⟨v_1, T_1, L_1, X_1, q_1, st_1⟩ := callVirtual X0 hx hZ (y := (⟨"com/example/copse/copse/Arc", "head", "()I"⟩ : MethodName)) (z := (⟨"com/example/copse/copse/Arc", "head", "()I"⟩ : MethodName)) (W := 0) hown (wdOf hw 197 rfl) (wdOf hw 198 rfl) (notFace_of_selects (args := #[]) (mvT hZ (wdOf hw 200 rfl))) (wdOf hw 200 rfl) (wdOf hw 199 rfl) (wdOf hw 176 rfl) (wdOf hw 201 rfl) (by decide) (rm_head l Z a0 hw [] ax (4 : Int32) h0 n0 Z0 Fh) (by decide) (by decide) (by decide) (by decide) e0 Ea (g := (mkF m 1 #[sR_ tx, sR_ ax, sU_, sU_] [(.ref ax)])) rfl (by rw [hml]; rfl) (argsL := []) (rest := []) (lenOf pd_6 rfl) rfl rfl (Nat.le_refl _) (hb hby d_rm_hang1_1)
  obtain ⟨rfl, n_1, K_1⟩ := q_1
  have N_1 := Fr.app N0 n_1
  refine Goes.go (U' := (T_1.setTop (mkF m 4 #[sR_ tx, sR_ ax, sU_, sU_] [(.int (4 : Int32))]))) st_1 ?_
  refine Goes.go (U' := (T_1.setTop (mkF m 6 #[sR_ tx, sR_ ax, sI_ (4 : Int32), sU_] [(.ref ax)]))) (fun t kt => ?_) ?_
  · skip
    refine XS.istoreN X_1.here hx rfl (hb hby d_rm_hang1_4) rfl (l' := #[sR_ tx, sR_ ax, sI_ (4 : Int32), sU_]) rfl ?_
    refine XS.aloadN X_1.here hx rfl (hb hby d_rm_hang1_5) rfl rfl ?_
    exact kt
  obtain ⟨v_2, T_2, L_2, X_2, q_2, st_2⟩ := callVirtual X_1 hx hZ (y := (⟨"com/example/copse/copse/Arc", "tail", "()I"⟩ : MethodName)) (z := (⟨"com/example/copse/copse/Arc", "tail", "()I"⟩ : MethodName)) (W := 0) hown (wdOf hw 202 rfl) (wdOf hw 203 rfl) (notFace_of_selects (args := #[]) (mvT hZ (wdOf hw 205 rfl))) (wdOf hw 205 rfl) (wdOf hw 204 rfl) (wdOf hw 176 rfl) (wdOf hw 206 rfl) (by decide) (rm_tail l Z a0 hw [] ax tl h0 n0 Z0 Ft) (by decide) (by decide) (by decide) (by decide) K_1 Ea (g := (mkF m 6 #[sR_ tx, sR_ ax, sI_ (4 : Int32), sU_] [(.ref ax)])) rfl (by rw [hml]; rfl) (argsL := []) (rest := []) (lenOf pd_6 rfl) rfl rfl (Nat.le_refl _) (hb hby d_rm_hang1_6)
  obtain ⟨rfl, n_2, K_2⟩ := q_2
  have N_2 := Fr.app N_1 n_2
  refine Goes.go (U' := (T_2.setTop (mkF m 9 #[sR_ tx, sR_ ax, sI_ (4 : Int32), sU_] [(.int tl)]))) st_2 ?_
  refine Goes.go (U' := (T_2.setTop (mkF m 11 #[sR_ tx, sR_ ax, sI_ (4 : Int32), sI_ tl] [(.ref tx)]))) (fun t kt => ?_) ?_
  · skip
    refine XS.istoreN X_2.here hx rfl (hb hby d_rm_hang1_9) rfl (l' := #[sR_ tx, sR_ ax, sI_ (4 : Int32), sI_ tl]) rfl ?_
    refine XS.aloadN X_2.here hx rfl (hb hby d_rm_hang1_10) rfl rfl ?_
    exact kt
  obtain ⟨T_3, X_3, e_3, st_3⟩ := getF X_2 hx hZ hown (host := "") (Or.inl (wdOf hw 84 rfl)) Via.refl K_2 Ft_hangsOn (g := (mkF m 11 #[sR_ tx, sR_ ax, sI_ (4 : Int32), sI_ tl] [(.ref tx)])) rfl rfl (hb hby d_rm_hang1_11)
  refine Goes.go (U' := (T_3.setTop (mkF m 14 #[sR_ tx, sR_ ax, sI_ (4 : Int32), sI_ tl] [(.ref ho)]))) st_3 ?_
  refine Goes.go (U' := (T_3.setTop (mkF m 16 #[sR_ tx, sR_ ax, sI_ (4 : Int32), sI_ tl] [(.ref ax), (.int (4 : Int32)), (.ref ho)]))) (fun t kt => ?_) ?_
  · skip
    refine XS.iloadN X_3.here hx rfl (hb hby d_rm_hang1_14) rfl ?_
    refine XS.aloadN X_3.here hx rfl (hb hby d_rm_hang1_15) rfl rfl ?_
    exact kt
  obtain ⟨cl_4, Ar_4, q_4, S_4, M_4, H_4, G_4⟩ := id Vh
  have hin_4 : ¬ ((4 : Int32) < 0 ∨ cl_4.slots.size ≤ ((4 : Int32)).toNatClampNeg) := inb_of S_4 ⟨by decide, by decide⟩
  obtain ⟨T_4, h_4, X_4, e_4, W_4, st_4⟩ := stR X_3 hx hZ e_3 Ar_4 (j := (4 : Int32)) hin_4 rfl (Sto.of Ar_4 (q_4 ▸ Ov) (Ins.self Ea)) (g := (mkF m 16 #[sR_ tx, sR_ ax, sI_ (4 : Int32), sI_ tl] [(.ref ax), (.int (4 : Int32)), (.ref ho)])) rfl rfl (hb hby d_rm_hang1_16)
  have V_4 : Arv Z h_4 ho kh (.object "com/example/copse/copse/Arc") (5 : Int32) [v0, v1, v2, v3, (.ref ax)] .null := Arv.set Ar_4 q_4 S_4 M_4 H_4 G_4 rfl W_4 4 rfl (Nat.le_of_ble_eq_true rfl)
  have N_4 := Fr.snoc X_4 N_2 o_ho
  have f_5 := O.wr W_4 o_ho
  have f_6 := Ea.wr W_4
  have f_7 := Et.wr W_4
  have f_8 := Ft_size.other W_4 (Or.inl (Et.neArv Vh (wdOf hw 66 rfl)))
  have f_9 := Ft_root.other W_4 (Or.inl (Et.neArv Vh (wdOf hw 66 rfl)))
  have f_10 := Ft_hangsOn.other W_4 (Or.inl (Et.neArv Vh (wdOf hw 66 rfl)))
  have f_11 := Ft_children.other W_4 (Or.inl (Et.neArv Vh (wdOf hw 66 rfl)))
  have f_12 := Ft_firstChild.other W_4 (Or.inl (Et.neArv Vh (wdOf hw 66 rfl)))
  have f_13 := Ft_nextSibling.other W_4 (Or.inl (Et.neArv Vh (wdOf hw 66 rfl)))
  have f_14 := Ft_previousSibling.other W_4 (Or.inl (Et.neArv Vh (wdOf hw 66 rfl)))
  have f_15 := Ft_twinned.other W_4 (Or.inl (Et.neArv Vh (wdOf hw 66 rfl)))
  have f_16 := Ft_turns.other W_4 (Or.inl (Et.neArv Vh (wdOf hw 66 rfl)))
  have f_17 := Ft_changes.other W_4 (Or.inl (Et.neArv Vh (wdOf hw 66 rfl)))
  have f_18 := Ft_forest.other W_4 (Or.inl (Et.neArv Vh (wdOf hw 66 rfl)))
  have f_20 := Btu.other W_4 (Ne.symm (Vh.neBar Btu nofun))
  have f_21 := Bns.other W_4 (Ne.symm (Vh.neBar Bns nofun))
  have f_22 := Bfc.other W_4 (Ne.symm (Vh.neBar Bfc nofun))
  have f_23 := Bps.other W_4 (Ne.symm (Vh.neBar Bps nofun))
  have f_24 := Bch.other W_4 (Ne.symm (Vh.neBar Bch nofun))
  have y_25 : n0 ≤ h_4.size := Nat.le_trans (Nat.le_of_eq f_5.1.symm) f_5.2.1
  refine Goes.go (U' := (T_4.setTop (mkF m 17 #[sR_ tx, sR_ ax, sI_ (4 : Int32), sI_ tl] []))) st_4 ?_
  refine Goes.go (U' := (T_4.setTop (mkF m 18 #[sR_ tx, sR_ ax, sI_ (4 : Int32), sI_ tl] [(.ref tx)]))) (fun t kt => ?_) ?_
  · skip
    refine XS.aloadN X_4.here hx rfl (hb hby d_rm_hang1_17) rfl rfl ?_
    exact kt
  obtain ⟨T_26, X_26, e_26, st_26⟩ := getF X_4 hx hZ hown (host := "") (Or.inl (wdOf hw 100 rfl)) Via.refl e_4 f_16 (g := (mkF m 18 #[sR_ tx, sR_ ax, sI_ (4 : Int32), sI_ tl] [(.ref tx)])) rfl rfl (hb hby d_rm_hang1_18)
  refine Goes.go (U' := (T_26.setTop (mkF m 21 #[sR_ tx, sR_ ax, sI_ (4 : Int32), sI_ tl] [(.ref tu)]))) st_26 ?_
  refine Goes.go (U' := (T_26.setTop (mkF m 23 #[sR_ tx, sR_ ax, sI_ (4 : Int32), sI_ tl] [(.ref tx), (.int (4 : Int32)), (.ref tu)]))) (fun t kt => ?_) ?_
  · skip
    refine XS.iloadN X_26.here hx rfl (hb hby d_rm_hang1_21) rfl ?_
    refine XS.aloadN X_26.here hx rfl (hb hby d_rm_hang1_22) rfl rfl ?_
    exact kt
  obtain ⟨T_27, X_27, e_27, st_27⟩ := getF X_26 hx hZ hown (host := "") (Or.inl (wdOf hw 98 rfl)) Via.refl e_26 f_15 (g := (mkF m 23 #[sR_ tx, sR_ ax, sI_ (4 : Int32), sI_ tl] [(.ref tx), (.int (4 : Int32)), (.ref tu)])) rfl rfl (hb hby d_rm_hang1_23)
  refine Goes.go (U' := (T_27.setTop (mkF m 26 #[sR_ tx, sR_ ax, sI_ (4 : Int32), sI_ tl] [(.ref la), (.int (4 : Int32)), (.ref tu)]))) st_27 ?_
  refine Goes.go (U' := (T_27.setTop (mkF m 27 #[sR_ tx, sR_ ax, sI_ (4 : Int32), sI_ tl] [(.ref ax), (.ref la), (.int (4 : Int32)), (.ref tu)]))) (fun t kt => ?_) ?_
  · skip
    refine XS.aloadN X_27.here hx rfl (hb hby d_rm_hang1_26) rfl rfl ?_
    exact kt
  obtain ⟨T_28, X_28, e_28, st_28⟩ := HLam.Lam.call FL X_27 hx hZ hown (wdOf hw 208 rfl) (wdOf hw 209 rfl) (wdOf hw 210 rfl) (wdOf hw 212 rfl) (wdOf hw 211 rfl) (wdOf hw 67 rfl) (wdOf hw 207 rfl) (z := 0) rfl (rm_lb l Z a0 hw [] ax h_4 n0 y_25) f_6 e_27 f_5.2 (g := (mkF m 27 #[sR_ tx, sR_ ax, sI_ (4 : Int32), sI_ tl] [(.ref ax), (.ref la), (.int (4 : Int32)), (.ref tu)])) rfl (by rw [hml]; rfl) (rest := [(.int (4 : Int32)), (.ref tu)]) rfl (W := 2) (Nat.le_refl _) (hb hby d_rm_hang1_27) (by decide) (by decide) (by decide) (by decide)
  refine Goes.go (U' := (T_28.setTop (mkF m 32 #[sR_ tx, sR_ ax, sI_ (4 : Int32), sI_ tl] [(.int (0 : Int32)), (.int (4 : Int32)), (.ref tu)]))) st_28 ?_
  obtain ⟨cl_29, Ar_29, S_29, H_29⟩ := id f_20
  have hin_29 : ¬ ((4 : Int32) < 0 ∨ cl_29.slots.size ≤ ((4 : Int32)).toNatClampNeg) := inb_of S_29 ⟨by decide, by decide⟩
  obtain ⟨T_29, h_29, X_29, e_29, W_29, st_29⟩ := stZ X_28 hx hZ e_28 Ar_29 (j := (4 : Int32)) hin_29 (g := (mkF m 32 #[sR_ tx, sR_ ax, sI_ (4 : Int32), sI_ tl] [(.int (0 : Int32)), (.int (4 : Int32)), (.ref tu)])) rfl rfl (hb hby d_rm_hang1_32)
  have B_29 : Bar Z h_29 tu .boolean IntP := Bar.set Ar_29 S_29 H_29 W_29 (IntP.mk _)
  have N_29 := Fr.snoc X_29 N_4 o_tu
  have f_30 := f_5.wr W_29 o_tu
  have f_31 := f_6.wr W_29
  have f_32 := f_7.wr W_29
  have f_33 := f_8.other W_29 (Or.inl (f_7.neBar f_20 (wdOf hw 66 rfl)))
  have f_34 := f_9.other W_29 (Or.inl (f_7.neBar f_20 (wdOf hw 66 rfl)))
  have f_35 := f_10.other W_29 (Or.inl (f_7.neBar f_20 (wdOf hw 66 rfl)))
  have f_36 := f_11.other W_29 (Or.inl (f_7.neBar f_20 (wdOf hw 66 rfl)))
  have f_37 := f_12.other W_29 (Or.inl (f_7.neBar f_20 (wdOf hw 66 rfl)))
  have f_38 := f_13.other W_29 (Or.inl (f_7.neBar f_20 (wdOf hw 66 rfl)))
  have f_39 := f_14.other W_29 (Or.inl (f_7.neBar f_20 (wdOf hw 66 rfl)))
  have f_40 := f_15.other W_29 (Or.inl (f_7.neBar f_20 (wdOf hw 66 rfl)))
  have f_41 := f_16.other W_29 (Or.inl (f_7.neBar f_20 (wdOf hw 66 rfl)))
  have f_42 := f_17.other W_29 (Or.inl (f_7.neBar f_20 (wdOf hw 66 rfl)))
  have f_43 := f_18.other W_29 (Or.inl (f_7.neBar f_20 (wdOf hw 66 rfl)))
  have f_45 := f_21.other W_29 (f_21.neT f_20 nofun)
  have f_46 := f_22.other W_29 (f_22.neT f_20 nofun)
  have f_47 := f_23.other W_29 (f_23.neT f_20 nofun)
  have f_48 := f_24.other W_29 (f_24.neT f_20 nofun)
  have f_49 := V_4.other W_29 (V_4.neBar f_20 nofun)
  have y_50 : n0 ≤ h_29.size := Nat.le_trans (Nat.le_of_eq f_30.1.symm) f_30.2.1
  refine Goes.go (U' := (T_29.setTop (mkF m 33 #[sR_ tx, sR_ ax, sI_ (4 : Int32), sI_ tl] []))) st_29 ?_
  refine Goes.go (U' := (T_29.setTop (mkF m 34 #[sR_ tx, sR_ ax, sI_ (4 : Int32), sI_ tl] [(.ref tx)]))) (fun t kt => ?_) ?_
  · skip
    refine XS.aloadN X_29.here hx rfl (hb hby d_rm_hang1_33) rfl rfl ?_
    exact kt
  obtain ⟨T_51, X_51, e_51, st_51⟩ := getF X_29 hx hZ hown (host := "") (Or.inl (wdOf hw 94 rfl)) Via.refl e_29 f_38 (g := (mkF m 34 #[sR_ tx, sR_ ax, sI_ (4 : Int32), sI_ tl] [(.ref tx)])) rfl rfl (hb hby d_rm_hang1_34)
  refine Goes.go (U' := (T_51.setTop (mkF m 37 #[sR_ tx, sR_ ax, sI_ (4 : Int32), sI_ tl] [(.ref ns)]))) st_51 ?_
  refine Goes.go (U' := (T_51.setTop (mkF m 39 #[sR_ tx, sR_ ax, sI_ (4 : Int32), sI_ tl] [(.ref tx), (.int (4 : Int32)), (.ref ns)]))) (fun t kt => ?_) ?_
  · skip
    refine XS.iloadN X_51.here hx rfl (hb hby d_rm_hang1_37) rfl ?_
    refine XS.aloadN X_51.here hx rfl (hb hby d_rm_hang1_38) rfl rfl ?_
    exact kt
  obtain ⟨T_52, X_52, e_52, st_52⟩ := getF X_51 hx hZ hown (host := "") (Or.inl (wdOf hw 92 rfl)) Via.refl e_51 f_37 (g := (mkF m 39 #[sR_ tx, sR_ ax, sI_ (4 : Int32), sI_ tl] [(.ref tx), (.int (4 : Int32)), (.ref ns)])) rfl rfl (hb hby d_rm_hang1_39)
  refine Goes.go (U' := (T_52.setTop (mkF m 42 #[sR_ tx, sR_ ax, sI_ (4 : Int32), sI_ tl] [(.ref fc), (.int (4 : Int32)), (.ref ns)]))) st_52 ?_
  refine Goes.go (U' := (T_52.setTop (mkF m 43 #[sR_ tx, sR_ ax, sI_ (4 : Int32), sI_ tl] [(.int tl), (.ref fc), (.int (4 : Int32)), (.ref ns)]))) (fun t kt => ?_) ?_
  · skip
    refine XS.iloadN X_52.here hx rfl (hb hby d_rm_hang1_42) rfl ?_
    exact kt
  obtain ⟨cl_53, Ar_53, S_53, H_53⟩ := id f_46
  have hin_53 : ¬ (tl < 0 ∨ cl_53.slots.size ≤ (tl).toNatClampNeg) := inb_of S_53 htl
  obtain ⟨_, hat_53, i_53, rfl, bd_53⟩ := Bar.at H_53 hin_53
  refine Goes.go (U' := (T_52.setTop (mkF m 44 #[sR_ tx, sR_ ax, sI_ (4 : Int32), sI_ tl] [(.int i_53), (.int (4 : Int32)), (.ref ns)]))) (fun t kt => ?_) ?_
  · skip
    refine X_52.iaload hx (j := tl) (v := (.int i_53)) (by rw [e_52]; exact Ar_53.1) (State.isArrayOf_alike hZ.alike Ar_53.2.1) Ar_53.2.2 hin_53 hat_53 (g := (mkF m 43 #[sR_ tx, sR_ ax, sI_ (4 : Int32), sI_ tl] [(.int tl), (.ref fc), (.int (4 : Int32)), (.ref ns)])) rfl rfl (hb hby d_rm_hang1_43) _ ?_
    exact kt
  obtain ⟨cl_54, Ar_54, S_54, H_54⟩ := id f_45
  have hin_54 : ¬ ((4 : Int32) < 0 ∨ cl_54.slots.size ≤ ((4 : Int32)).toNatClampNeg) := inb_of S_54 ⟨by decide, by decide⟩
  obtain ⟨T_54, h_54, X_54, e_54, W_54, st_54⟩ := stI X_52 hx hZ e_52 Ar_54 (j := (4 : Int32)) hin_54 (g := (mkF m 44 #[sR_ tx, sR_ ax, sI_ (4 : Int32), sI_ tl] [(.int i_53), (.int (4 : Int32)), (.ref ns)])) rfl rfl (hb hby d_rm_hang1_44)
  have B_54 : Bar Z h_54 ns .int IntP := Bar.set Ar_54 S_54 H_54 W_54 (IntP.mk _)
  have N_54 := Fr.snoc X_54 N_29 o_ns
  have f_55 := f_30.wr W_54 o_ns
  have f_56 := f_31.wr W_54
  have f_57 := f_32.wr W_54
  have f_58 := f_33.other W_54 (Or.inl (f_32.neBar f_45 (wdOf hw 66 rfl)))
  have f_59 := f_34.other W_54 (Or.inl (f_32.neBar f_45 (wdOf hw 66 rfl)))
  have f_60 := f_35.other W_54 (Or.inl (f_32.neBar f_45 (wdOf hw 66 rfl)))
  have f_61 := f_36.other W_54 (Or.inl (f_32.neBar f_45 (wdOf hw 66 rfl)))
  have f_62 := f_37.other W_54 (Or.inl (f_32.neBar f_45 (wdOf hw 66 rfl)))
  have f_63 := f_38.other W_54 (Or.inl (f_32.neBar f_45 (wdOf hw 66 rfl)))
  have f_64 := f_39.other W_54 (Or.inl (f_32.neBar f_45 (wdOf hw 66 rfl)))
  have f_65 := f_40.other W_54 (Or.inl (f_32.neBar f_45 (wdOf hw 66 rfl)))
  have f_66 := f_41.other W_54 (Or.inl (f_32.neBar f_45 (wdOf hw 66 rfl)))
  have f_67 := f_42.other W_54 (Or.inl (f_32.neBar f_45 (wdOf hw 66 rfl)))
  have f_68 := f_43.other W_54 (Or.inl (f_32.neBar f_45 (wdOf hw 66 rfl)))
  have f_70 := f_46.other W_54 n_fc_ns
  have f_71 := f_47.other W_54 (Ne.symm n_ns_ps)
  have f_72 := f_48.other W_54 (Ne.symm n_ns_ch)
  have f_73 := f_49.other W_54 (f_49.neBar f_45 nofun)
  have f_74 := B_29.other W_54 (B_29.neT f_45 nofun)
  have y_75 : n0 ≤ h_54.size := Nat.le_trans (Nat.le_of_eq f_55.1.symm) f_55.2.1
  refine Goes.go (U' := (T_54.setTop (mkF m 45 #[sR_ tx, sR_ ax, sI_ (4 : Int32), sI_ tl] []))) st_54 ?_
  refine Goes.go (U' := (T_54.setTop (mkF m 46 #[sR_ tx, sR_ ax, sI_ (4 : Int32), sI_ tl] [(.ref tx)]))) (fun t kt => ?_) ?_
  · skip
    refine XS.aloadN X_54.here hx rfl (hb hby d_rm_hang1_45) rfl rfl ?_
    exact kt
  obtain ⟨T_76, X_76, e_76, st_76⟩ := getF X_54 hx hZ hown (host := "") (Or.inl (wdOf hw 92 rfl)) Via.refl e_54 f_62 (g := (mkF m 46 #[sR_ tx, sR_ ax, sI_ (4 : Int32), sI_ tl] [(.ref tx)])) rfl rfl (hb hby d_rm_hang1_46)
  refine Goes.go (U' := (T_76.setTop (mkF m 49 #[sR_ tx, sR_ ax, sI_ (4 : Int32), sI_ tl] [(.ref fc)]))) st_76 ?_
  refine Goes.go (U' := (T_76.setTop (mkF m 50 #[sR_ tx, sR_ ax, sI_ (4 : Int32), sI_ tl] [(.int tl), (.ref fc)]))) (fun t kt => ?_) ?_
  · skip
    refine XS.iloadN X_76.here hx rfl (hb hby d_rm_hang1_49) rfl ?_
    exact kt
  obtain ⟨cl_77, Ar_77, S_77, H_77⟩ := id f_70
  have hin_77 : ¬ (tl < 0 ∨ cl_77.slots.size ≤ (tl).toNatClampNeg) := inb_of S_77 htl
  obtain ⟨_, hat_77, i_77, rfl, bd_77⟩ := Bar.at H_77 hin_77
  refine Goes.go (U' := (T_76.setTop (mkF m 51 #[sR_ tx, sR_ ax, sI_ (4 : Int32), sI_ tl] [(.int i_77)]))) (fun t kt => ?_) ?_
  · skip
    refine X_76.iaload hx (j := tl) (v := (.int i_77)) (by rw [e_76]; exact Ar_77.1) (State.isArrayOf_alike hZ.alike Ar_77.2.1) Ar_77.2.2 hin_77 hat_77 (g := (mkF m 50 #[sR_ tx, sR_ ax, sI_ (4 : Int32), sI_ tl] [(.int tl), (.ref fc)])) rfl rfl (hb hby d_rm_hang1_50) _ ?_
    exact kt
  by_cases cf : i_77 = 0
  · -- i_77 = 0
    refine Goes.go (U' := (T_76.setTop (mkF m 67 #[sR_ tx, sR_ ax, sI_ (4 : Int32), sI_ tl] [(.ref tx)]))) (fun t kt => ?_) ?_
    · skip
      refine XS.ifYes X_76.here hx rfl (pc0 := 51) (pc' := 66) rfl (hb hby d_rm_hang1_51) rfl (XT.i0_eq_t cf) (by decide) (by decide) ?_
      refine XS.aloadN X_76.here hx rfl (hb hby d_rm_hang1_66) rfl rfl ?_
      exact kt
    obtain ⟨T_78, X_78, e_78, st_78⟩ := getF X_76 hx hZ hown (host := "") (Or.inl (wdOf hw 92 rfl)) Via.refl e_76 f_62 (g := (mkF m 67 #[sR_ tx, sR_ ax, sI_ (4 : Int32), sI_ tl] [(.ref tx)])) rfl rfl (hb hby d_rm_hang1_67)
    refine Goes.go (U' := (T_78.setTop (mkF m 70 #[sR_ tx, sR_ ax, sI_ (4 : Int32), sI_ tl] [(.ref fc)]))) st_78 ?_
    refine Goes.go (U' := (T_78.setTop (mkF m 72 #[sR_ tx, sR_ ax, sI_ (4 : Int32), sI_ tl] [(.int (4 : Int32)), (.int tl), (.ref fc)]))) (fun t kt => ?_) ?_
    · skip
      refine XS.iloadN X_78.here hx rfl (hb hby d_rm_hang1_70) rfl ?_
      refine XS.iloadN X_78.here hx rfl (hb hby d_rm_hang1_71) rfl ?_
      exact kt
    obtain ⟨cl_79, Ar_79, S_79, H_79⟩ := id f_70
    have hin_79 : ¬ (tl < 0 ∨ cl_79.slots.size ≤ (tl).toNatClampNeg) := inb_of S_79 htl
    obtain ⟨T_79, h_79, X_79, e_79, W_79, st_79⟩ := stI X_78 hx hZ e_78 Ar_79 (j := tl) hin_79 (g := (mkF m 72 #[sR_ tx, sR_ ax, sI_ (4 : Int32), sI_ tl] [(.int (4 : Int32)), (.int tl), (.ref fc)])) rfl rfl (hb hby d_rm_hang1_72)
    have B_79 : Bar Z h_79 fc .int IxP := Bar.set Ar_79 S_79 H_79 W_79 ⟨_, rfl, by decide, by decide⟩
    have N_79 := Fr.snoc X_79 N_54 o_fc
    have f_80 := f_55.wr W_79 o_fc
    have f_81 := f_56.wr W_79
    have f_82 := f_57.wr W_79
    have f_83 := f_58.other W_79 (Or.inl (f_57.neBar f_70 (wdOf hw 66 rfl)))
    have f_84 := f_59.other W_79 (Or.inl (f_57.neBar f_70 (wdOf hw 66 rfl)))
    have f_85 := f_60.other W_79 (Or.inl (f_57.neBar f_70 (wdOf hw 66 rfl)))
    have f_86 := f_61.other W_79 (Or.inl (f_57.neBar f_70 (wdOf hw 66 rfl)))
    have f_87 := f_62.other W_79 (Or.inl (f_57.neBar f_70 (wdOf hw 66 rfl)))
    have f_88 := f_63.other W_79 (Or.inl (f_57.neBar f_70 (wdOf hw 66 rfl)))
    have f_89 := f_64.other W_79 (Or.inl (f_57.neBar f_70 (wdOf hw 66 rfl)))
    have f_90 := f_65.other W_79 (Or.inl (f_57.neBar f_70 (wdOf hw 66 rfl)))
    have f_91 := f_66.other W_79 (Or.inl (f_57.neBar f_70 (wdOf hw 66 rfl)))
    have f_92 := f_67.other W_79 (Or.inl (f_57.neBar f_70 (wdOf hw 66 rfl)))
    have f_93 := f_68.other W_79 (Or.inl (f_57.neBar f_70 (wdOf hw 66 rfl)))
    have f_95 := f_71.other W_79 (Ne.symm n_fc_ps)
    have f_96 := f_72.other W_79 (Ne.symm n_fc_ch)
    have f_97 := f_73.other W_79 (f_73.neBar f_70 nofun)
    have f_98 := f_74.other W_79 (f_74.neT f_70 nofun)
    have f_99 := B_54.other W_79 (Ne.symm n_fc_ns)
    have y_100 : n0 ≤ h_79.size := Nat.le_trans (Nat.le_of_eq f_80.1.symm) f_80.2.1
    refine Goes.go (U' := (T_79.setTop (mkF m 73 #[sR_ tx, sR_ ax, sI_ (4 : Int32), sI_ tl] []))) st_79 ?_
    refine Goes.go (U' := (T_79.setTop (mkF m 75 #[sR_ tx, sR_ ax, sI_ (4 : Int32), sI_ tl] [(.ref tx), (.ref tx)]))) (fun t kt => ?_) ?_
    · skip
      refine XS.aloadN X_79.here hx rfl (hb hby d_rm_hang1_73) rfl rfl ?_
      refine XS.dup X_79.here hx rfl (hb hby d_rm_hang1_74) rfl rfl ?_
      exact kt
    obtain ⟨T_101, X_101, e_101, st_101⟩ := getF X_79 hx hZ hown (host := "") (Or.inl (wdOf hw 78 rfl)) Via.refl e_79 f_83 (g := (mkF m 75 #[sR_ tx, sR_ ax, sI_ (4 : Int32), sI_ tl] [(.ref tx), (.ref tx)])) rfl rfl (hb hby d_rm_hang1_75)
    refine Goes.go (U' := (T_101.setTop (mkF m 78 #[sR_ tx, sR_ ax, sI_ (4 : Int32), sI_ tl] [(.int sz), (.ref tx)]))) st_101 ?_
    refine Goes.go (U' := (T_101.setTop (mkF m 80 #[sR_ tx, sR_ ax, sI_ (4 : Int32), sI_ tl] [(.int (sz + (1 : Int32))), (.ref tx)]))) (fun t kt => ?_) ?_
    · skip
      refine XS.iconst X_101.here hx rfl (hb hby d_rm_hang1_78) ?_
      refine XS.iadd X_101.here hx rfl (hb hby d_rm_hang1_79) rfl ?_
      exact kt
    obtain ⟨T_102, h_102, X_102, e_102, W_102, st_102⟩ := putF X_101 hx hZ hown (host := "") (Or.inl (wdOf hw 78 rfl)) Via.refl e_101 f_83 f_82 (Or.inl (wdOf hw 79 rfl)) (wdOf hw 66 rfl) (ty := .int) (by decide) rfl rfl (g := (mkF m 80 #[sR_ tx, sR_ ax, sI_ (4 : Int32), sI_ tl] [(.int (sz + (1 : Int32))), (.ref tx)])) rfl rfl (hb hby d_rm_hang1_80)
    have N_102 := Fr.snoc X_102 N_79 o_tx
    have f_103 := f_80.wr W_102 o_tx
    have f_104 := f_81.wr W_102
    have f_105 := f_82.wr W_102
    have f_106 := f_83.same W_102
    have f_107 := f_84.other W_102 (Or.inr (slot_ne (Or.inr (wdOf hw 81 rfl)) (Or.inl (wdOf hw 79 rfl)) (by decide) (t := .int) (t' := .int) (by decide) (by decide)))
    have f_108 := f_85.other W_102 (Or.inr (slot_ne (Or.inr (wdOf hw 85 rfl)) (Or.inl (wdOf hw 79 rfl)) (by decide) (t := (.array (.object "com/example/copse/copse/Arc"))) (t' := .int) (by decide) (by decide)))
    have f_109 := f_86.other W_102 (Or.inr (slot_ne (Or.inr (wdOf hw 88 rfl)) (Or.inl (wdOf hw 79 rfl)) (by decide) (t := (.array .int)) (t' := .int) (by decide) (by decide)))
    have f_110 := f_87.other W_102 (Or.inr (slot_ne (Or.inr (wdOf hw 93 rfl)) (Or.inl (wdOf hw 79 rfl)) (by decide) (t := (.array .int)) (t' := .int) (by decide) (by decide)))
    have f_111 := f_88.other W_102 (Or.inr (slot_ne (Or.inr (wdOf hw 95 rfl)) (Or.inl (wdOf hw 79 rfl)) (by decide) (t := (.array .int)) (t' := .int) (by decide) (by decide)))
    have f_112 := f_89.other W_102 (Or.inr (slot_ne (Or.inr (wdOf hw 97 rfl)) (Or.inl (wdOf hw 79 rfl)) (by decide) (t := (.array .int)) (t' := .int) (by decide) (by decide)))
    have f_113 := f_90.other W_102 (Or.inr (slot_ne (Or.inr (wdOf hw 99 rfl)) (Or.inl (wdOf hw 79 rfl)) (by decide) (t := (.object "java/util/function/Predicate")) (t' := .int) (by decide) (by decide)))
    have f_114 := f_91.other W_102 (Or.inr (slot_ne (Or.inr (wdOf hw 101 rfl)) (Or.inl (wdOf hw 79 rfl)) (by decide) (t := (.array .boolean)) (t' := .int) (by decide) (by decide)))
    have f_115 := f_92.other W_102 (Or.inr (slot_ne (Or.inl (wdOf hw 214 rfl)) (Or.inl (wdOf hw 79 rfl)) (by decide) (t := .long) (t' := .int) (by decide) (by decide)))
    have f_116 := f_93.other W_102 (Or.inr (slot_ne (Or.inl (wdOf hw 220 rfl)) (Or.inl (wdOf hw 79 rfl)) (by decide) (t := (.object "com/example/copse/copse/LinkCutForest")) (t' := .int) (by decide) (by decide)))
    have f_117 := f_95.other W_102 (Ne.symm (f_82.neBar f_95 (wdOf hw 66 rfl)))
    have f_118 := f_96.other W_102 (Ne.symm (f_82.neBar f_96 (wdOf hw 66 rfl)))
    have f_119 := f_97.other W_102 (Ne.symm (f_82.neArv f_97 (wdOf hw 66 rfl)))
    have f_120 := f_98.other W_102 (Ne.symm (f_82.neBar f_98 (wdOf hw 66 rfl)))
    have f_121 := f_99.other W_102 (Ne.symm (f_82.neBar f_99 (wdOf hw 66 rfl)))
    have f_122 := B_79.other W_102 (Ne.symm (f_82.neBar B_79 (wdOf hw 66 rfl)))
    have y_123 : n0 ≤ h_102.size := Nat.le_trans (Nat.le_of_eq f_103.1.symm) f_103.2.1
    refine Goes.go (U' := (T_102.setTop (mkF m 83 #[sR_ tx, sR_ ax, sI_ (4 : Int32), sI_ tl] []))) st_102 ?_
    refine Goes.go (U' := (T_102.setTop (mkF m 85 #[sR_ tx, sR_ ax, sI_ (4 : Int32), sI_ tl] [(.ref tx), (.ref tx)]))) (fun t kt => ?_) ?_
    · skip
      refine XS.aloadN X_102.here hx rfl (hb hby d_rm_hang1_83) rfl rfl ?_
      refine XS.dup X_102.here hx rfl (hb hby d_rm_hang1_84) rfl rfl ?_
      exact kt
    obtain ⟨T_124, X_124, e_124, st_124⟩ := getF X_102 hx hZ hown (host := "") (Or.inl (wdOf hw 213 rfl)) Via.refl e_102 f_115 (g := (mkF m 85 #[sR_ tx, sR_ ax, sI_ (4 : Int32), sI_ tl] [(.ref tx), (.ref tx)])) rfl rfl (hb hby d_rm_hang1_85)
    refine Goes.go (U' := (T_124.setTop (mkF m 88 #[sR_ tx, sR_ ax, sI_ (4 : Int32), sI_ tl] [(.long cg), (.ref tx)]))) st_124 ?_
    refine Goes.go (U' := (T_124.setTop (mkF m 90 #[sR_ tx, sR_ ax, sI_ (4 : Int32), sI_ tl] [(.long (cg + (1 : Int64))), (.ref tx)]))) (fun t kt => ?_) ?_
    · skip
      refine XS.lconst X_124.here hx rfl (hb hby d_rm_hang1_88) ?_
      refine XS.ladd X_124.here hx rfl (hb hby d_rm_hang1_89) rfl ?_
      exact kt
    obtain ⟨T_125, h_125, X_125, e_125, W_125, st_125⟩ := putF X_124 hx hZ hown (host := "") (Or.inl (wdOf hw 213 rfl)) Via.refl e_124 f_115 f_105 (Or.inl (wdOf hw 214 rfl)) (wdOf hw 66 rfl) (ty := .long) (by decide) rfl rfl (g := (mkF m 90 #[sR_ tx, sR_ ax, sI_ (4 : Int32), sI_ tl] [(.long (cg + (1 : Int64))), (.ref tx)])) rfl rfl (hb hby d_rm_hang1_90)
    have N_125 := Fr.snoc X_125 N_102 o_tx
    have f_126 := f_103.wr W_125 o_tx
    have f_127 := f_104.wr W_125
    have f_128 := f_105.wr W_125
    have f_129 := f_106.other W_125 (Or.inr (slot_ne (Or.inl (wdOf hw 79 rfl)) (Or.inl (wdOf hw 214 rfl)) (by decide) (t := .int) (t' := .long) (by decide) (by decide)))
    have f_130 := f_107.other W_125 (Or.inr (slot_ne (Or.inr (wdOf hw 81 rfl)) (Or.inl (wdOf hw 214 rfl)) (by decide) (t := .int) (t' := .long) (by decide) (by decide)))
    have f_131 := f_108.other W_125 (Or.inr (slot_ne (Or.inr (wdOf hw 85 rfl)) (Or.inl (wdOf hw 214 rfl)) (by decide) (t := (.array (.object "com/example/copse/copse/Arc"))) (t' := .long) (by decide) (by decide)))
    have f_132 := f_109.other W_125 (Or.inr (slot_ne (Or.inr (wdOf hw 88 rfl)) (Or.inl (wdOf hw 214 rfl)) (by decide) (t := (.array .int)) (t' := .long) (by decide) (by decide)))
    have f_133 := f_110.other W_125 (Or.inr (slot_ne (Or.inr (wdOf hw 93 rfl)) (Or.inl (wdOf hw 214 rfl)) (by decide) (t := (.array .int)) (t' := .long) (by decide) (by decide)))
    have f_134 := f_111.other W_125 (Or.inr (slot_ne (Or.inr (wdOf hw 95 rfl)) (Or.inl (wdOf hw 214 rfl)) (by decide) (t := (.array .int)) (t' := .long) (by decide) (by decide)))
    have f_135 := f_112.other W_125 (Or.inr (slot_ne (Or.inr (wdOf hw 97 rfl)) (Or.inl (wdOf hw 214 rfl)) (by decide) (t := (.array .int)) (t' := .long) (by decide) (by decide)))
    have f_136 := f_113.other W_125 (Or.inr (slot_ne (Or.inr (wdOf hw 99 rfl)) (Or.inl (wdOf hw 214 rfl)) (by decide) (t := (.object "java/util/function/Predicate")) (t' := .long) (by decide) (by decide)))
    have f_137 := f_114.other W_125 (Or.inr (slot_ne (Or.inr (wdOf hw 101 rfl)) (Or.inl (wdOf hw 214 rfl)) (by decide) (t := (.array .boolean)) (t' := .long) (by decide) (by decide)))
    have f_138 := f_115.same W_125
    have f_139 := f_116.other W_125 (Or.inr (slot_ne (Or.inl (wdOf hw 220 rfl)) (Or.inl (wdOf hw 214 rfl)) (by decide) (t := (.object "com/example/copse/copse/LinkCutForest")) (t' := .long) (by decide) (by decide)))
    have f_140 := f_117.other W_125 (Ne.symm (f_105.neBar f_117 (wdOf hw 66 rfl)))
    have f_141 := f_118.other W_125 (Ne.symm (f_105.neBar f_118 (wdOf hw 66 rfl)))
    have f_142 := f_119.other W_125 (Ne.symm (f_105.neArv f_119 (wdOf hw 66 rfl)))
    have f_143 := f_120.other W_125 (Ne.symm (f_105.neBar f_120 (wdOf hw 66 rfl)))
    have f_144 := f_121.other W_125 (Ne.symm (f_105.neBar f_121 (wdOf hw 66 rfl)))
    have f_145 := f_122.other W_125 (Ne.symm (f_105.neBar f_122 (wdOf hw 66 rfl)))
    have y_146 : n0 ≤ h_125.size := Nat.le_trans (Nat.le_of_eq f_126.1.symm) f_126.2.1
    refine Goes.go (U' := (T_125.setTop (mkF m 93 #[sR_ tx, sR_ ax, sI_ (4 : Int32), sI_ tl] []))) st_125 ?_
    refine Goes.go (U' := (T_125.setTop (mkF m 96 #[sR_ tx, sR_ ax, sI_ (4 : Int32), sI_ tl] [(.int (1 : Int32)), (.int tl), (.ref tx)]))) (fun t kt => ?_) ?_
    · skip
      refine XS.aloadN X_125.here hx rfl (hb hby d_rm_hang1_93) rfl rfl ?_
      refine XS.iloadN X_125.here hx rfl (hb hby d_rm_hang1_94) rfl ?_
      refine XS.iconst X_125.here hx rfl (hb hby d_rm_hang1_95) ?_
      exact kt
    obtain ⟨v_147, T_147, L_147, X_147, q_147, st_147⟩ := callPrivate X_125 hx hZ (y := (⟨"com/example/copse/copse/HangingTree", "countChildren", "(II)V"⟩ : MethodName)) (W := 0) hown (wdOf hw 215 rfl) (wdOf hw 216 rfl) (wdOf hw 217 rfl) (wdOf hw 66 rfl) (wdOf hw 67 rfl) (wdOf hw 218 rfl) (by decide) (rm_cc l Z a0 hw [] tx ch tl h_125 n0 y_146 o_ch htl (f_128.neBar f_141 (wdOf hw 66 rfl)) f_132 f_139 f_141) (by decide) (by decide) (by decide) (by decide) e_125 f_128 (g := (mkF m 96 #[sR_ tx, sR_ ax, sI_ (4 : Int32), sI_ tl] [(.int (1 : Int32)), (.int tl), (.ref tx)])) rfl (by rw [hml]; rfl) (argsL := [(.int tl), (.int (1 : Int32))]) (rest := []) (lenOf pd_7 rfl) rfl rfl (Nat.le_refl _) (hb hby d_rm_hang1_96)
    obtain ⟨rfl, n_147, K_147, Bq_147⟩ := q_147
    have N_147 := Fr.app N_125 n_147
    have f_148 := f_126.keep K_147 (allS o_ch all0)
    have f_149 := f_127.keep K_147
    have f_150 := f_128.keep K_147
    have f_151 := f_129.keep K_147 (ninS (f_128.neBar f_141 (wdOf hw 66 rfl)) nin0)
    have f_152 := f_130.keep K_147 (ninS (f_128.neBar f_141 (wdOf hw 66 rfl)) nin0)
    have f_153 := f_131.keep K_147 (ninS (f_128.neBar f_141 (wdOf hw 66 rfl)) nin0)
    have f_154 := f_132.keep K_147 (ninS (f_128.neBar f_141 (wdOf hw 66 rfl)) nin0)
    have f_155 := f_133.keep K_147 (ninS (f_128.neBar f_141 (wdOf hw 66 rfl)) nin0)
    have f_156 := f_134.keep K_147 (ninS (f_128.neBar f_141 (wdOf hw 66 rfl)) nin0)
    have f_157 := f_135.keep K_147 (ninS (f_128.neBar f_141 (wdOf hw 66 rfl)) nin0)
    have f_158 := f_136.keep K_147 (ninS (f_128.neBar f_141 (wdOf hw 66 rfl)) nin0)
    have f_159 := f_137.keep K_147 (ninS (f_128.neBar f_141 (wdOf hw 66 rfl)) nin0)
    have f_160 := f_138.keep K_147 (ninS (f_128.neBar f_141 (wdOf hw 66 rfl)) nin0)
    have f_161 := f_139.keep K_147 (ninS (f_128.neBar f_141 (wdOf hw 66 rfl)) nin0)
    have f_162 := f_140.keep K_147 (ninS n_ps_ch nin0)
    have f_164 := f_142.keep K_147 (ninS (f_142.neBar f_141 nofun) nin0)
    have f_165 := f_143.keep K_147 (ninS (f_143.neT f_141 nofun) nin0)
    have f_166 := f_144.keep K_147 (ninS n_ns_ch nin0)
    have f_167 := f_145.keep K_147 (ninS n_fc_ch nin0)
    have y_168 : n0 ≤ T_147.heap.size := Nat.le_trans (Nat.le_of_eq f_148.1.symm) f_148.2.1
    refine Goes.go (U' := (T_147.setTop (mkF m 99 #[sR_ tx, sR_ ax, sI_ (4 : Int32), sI_ tl] []))) st_147 ?_
    refine Goes.go (U' := (T_147.setTop (mkF m 100 #[sR_ tx, sR_ ax, sI_ (4 : Int32), sI_ tl] [(.ref tx)]))) (fun t kt => ?_) ?_
    · skip
      refine XS.aloadN X_147.here hx rfl (hb hby d_rm_hang1_99) rfl rfl ?_
      exact kt
    obtain ⟨T_169, X_169, e_169, st_169⟩ := getF X_147 hx hZ hown (host := "") (Or.inl (wdOf hw 219 rfl)) Via.refl (rfl : T_147.heap = T_147.heap) f_161 (g := (mkF m 100 #[sR_ tx, sR_ ax, sI_ (4 : Int32), sI_ tl] [(.ref tx)])) rfl rfl (hb hby d_rm_hang1_100)
    refine Goes.go (U' := (T_169.setTop (mkF m 103 #[sR_ tx, sR_ ax, sI_ (4 : Int32), sI_ tl] [.null]))) st_169 ?_
    refine Goes.go (U' := (T_169.setTop (mkF m 119 #[sR_ tx, sR_ ax, sI_ (4 : Int32), sI_ tl] []))) (fun t kt => ?_) ?_
    · skip
      refine XS.ifnullYes X_169.here hx rfl (pc0 := 103) (pc' := 119) rfl (hb hby d_rm_hang1_103) rfl (by decide) (by decide) ?_
      exact kt
    refine Goes.retV X_169 hx hlk hret (hb hby d_rm_hang1_119) (by decide) (by decide) ?_
    try rw [e_169]
    exact ⟨rfl, N_147, f_148, ⟨_, _, _, _, _, _, _, _, _, f_150, f_151, f_152, f_153, f_154, f_155, f_156, f_157, f_158, f_159, f_160, f_161, f_164, f_165, f_166, f_167, f_162, Bq_147, Ov, ⟨o_tx, o_ho, o_ch, o_fc, o_ns, o_ps, o_tu⟩, ⟨n_fc_ns, n_fc_ps, n_fc_ch, n_ns_ps, n_ns_ch, n_ps_ch⟩⟩⟩
  · -- not i_77 = 0
    refine Goes.go (U' := (T_76.setTop (mkF m 55 #[sR_ tx, sR_ ax, sI_ (4 : Int32), sI_ tl] [(.ref tx)]))) (fun t kt => ?_) ?_
    · skip
      refine XS.ifNo X_76.here hx rfl (hb hby d_rm_hang1_51) rfl (XT.i0_eq_f cf) ?_
      refine XS.aloadN X_76.here hx rfl (hb hby d_rm_hang1_54) rfl rfl ?_
      exact kt
    obtain ⟨T_170, X_170, e_170, st_170⟩ := getF X_76 hx hZ hown (host := "") (Or.inl (wdOf hw 96 rfl)) Via.refl e_76 f_64 (g := (mkF m 55 #[sR_ tx, sR_ ax, sI_ (4 : Int32), sI_ tl] [(.ref tx)])) rfl rfl (hb hby d_rm_hang1_55)
    refine Goes.go (U' := (T_170.setTop (mkF m 58 #[sR_ tx, sR_ ax, sI_ (4 : Int32), sI_ tl] [(.ref ps)]))) st_170 ?_
    refine Goes.go (U' := (T_170.setTop (mkF m 59 #[sR_ tx, sR_ ax, sI_ (4 : Int32), sI_ tl] [(.ref tx), (.ref ps)]))) (fun t kt => ?_) ?_
    · skip
      refine XS.aloadN X_170.here hx rfl (hb hby d_rm_hang1_58) rfl rfl ?_
      exact kt
    obtain ⟨T_171, X_171, e_171, st_171⟩ := getF X_170 hx hZ hown (host := "") (Or.inl (wdOf hw 92 rfl)) Via.refl e_170 f_62 (g := (mkF m 59 #[sR_ tx, sR_ ax, sI_ (4 : Int32), sI_ tl] [(.ref tx), (.ref ps)])) rfl rfl (hb hby d_rm_hang1_59)
    refine Goes.go (U' := (T_171.setTop (mkF m 62 #[sR_ tx, sR_ ax, sI_ (4 : Int32), sI_ tl] [(.ref fc), (.ref ps)]))) st_171 ?_
    refine Goes.go (U' := (T_171.setTop (mkF m 63 #[sR_ tx, sR_ ax, sI_ (4 : Int32), sI_ tl] [(.int tl), (.ref fc), (.ref ps)]))) (fun t kt => ?_) ?_
    · skip
      refine XS.iloadN X_171.here hx rfl (hb hby d_rm_hang1_62) rfl ?_
      exact kt
    obtain ⟨cl_172, Ar_172, S_172, H_172⟩ := id f_70
    have hin_172 : ¬ (tl < 0 ∨ cl_172.slots.size ≤ (tl).toNatClampNeg) := inb_of S_172 htl
    obtain ⟨_, hat_172, i_172, rfl, bd_172⟩ := Bar.at H_172 hin_172
    refine Goes.go (U' := (T_171.setTop (mkF m 64 #[sR_ tx, sR_ ax, sI_ (4 : Int32), sI_ tl] [(.int i_172), (.ref ps)]))) (fun t kt => ?_) ?_
    · skip
      refine X_171.iaload hx (j := tl) (v := (.int i_172)) (by rw [e_171]; exact Ar_172.1) (State.isArrayOf_alike hZ.alike Ar_172.2.1) Ar_172.2.2 hin_172 hat_172 (g := (mkF m 63 #[sR_ tx, sR_ ax, sI_ (4 : Int32), sI_ tl] [(.int tl), (.ref fc), (.ref ps)])) rfl rfl (hb hby d_rm_hang1_63) _ ?_
      exact kt
    refine Goes.go (U' := (T_171.setTop (mkF m 65 #[sR_ tx, sR_ ax, sI_ (4 : Int32), sI_ tl] [(.int (4 : Int32)), (.int i_172), (.ref ps)]))) (fun t kt => ?_) ?_
    · skip
      refine XS.iloadN X_171.here hx rfl (hb hby d_rm_hang1_64) rfl ?_
      exact kt
    obtain ⟨cl_173, Ar_173, S_173, H_173⟩ := id f_71
    have hin_173 : ¬ (i_172 < 0 ∨ cl_173.slots.size ≤ (i_172).toNatClampNeg) := inb_of S_173 bd_172
    obtain ⟨T_173, h_173, X_173, e_173, W_173, st_173⟩ := stI X_171 hx hZ e_171 Ar_173 (j := i_172) hin_173 (g := (mkF m 65 #[sR_ tx, sR_ ax, sI_ (4 : Int32), sI_ tl] [(.int (4 : Int32)), (.int i_172), (.ref ps)])) rfl rfl (hb hby d_rm_hang1_65)
    have B_173 : Bar Z h_173 ps .int IntP := Bar.set Ar_173 S_173 H_173 W_173 (IntP.mk _)
    have N_173 := Fr.snoc X_173 N_54 o_ps
    have f_174 := f_55.wr W_173 o_ps
    have f_175 := f_56.wr W_173
    have f_176 := f_57.wr W_173
    have f_177 := f_58.other W_173 (Or.inl (f_57.neBar f_71 (wdOf hw 66 rfl)))
    have f_178 := f_59.other W_173 (Or.inl (f_57.neBar f_71 (wdOf hw 66 rfl)))
    have f_179 := f_60.other W_173 (Or.inl (f_57.neBar f_71 (wdOf hw 66 rfl)))
    have f_180 := f_61.other W_173 (Or.inl (f_57.neBar f_71 (wdOf hw 66 rfl)))
    have f_181 := f_62.other W_173 (Or.inl (f_57.neBar f_71 (wdOf hw 66 rfl)))
    have f_182 := f_63.other W_173 (Or.inl (f_57.neBar f_71 (wdOf hw 66 rfl)))
    have f_183 := f_64.other W_173 (Or.inl (f_57.neBar f_71 (wdOf hw 66 rfl)))
    have f_184 := f_65.other W_173 (Or.inl (f_57.neBar f_71 (wdOf hw 66 rfl)))
    have f_185 := f_66.other W_173 (Or.inl (f_57.neBar f_71 (wdOf hw 66 rfl)))
    have f_186 := f_67.other W_173 (Or.inl (f_57.neBar f_71 (wdOf hw 66 rfl)))
    have f_187 := f_68.other W_173 (Or.inl (f_57.neBar f_71 (wdOf hw 66 rfl)))
    have f_188 := f_70.other W_173 n_fc_ps
    have f_190 := f_72.other W_173 (Ne.symm n_ps_ch)
    have f_191 := f_73.other W_173 (f_73.neBar f_71 nofun)
    have f_192 := f_74.other W_173 (f_74.neT f_71 nofun)
    have f_193 := B_54.other W_173 n_ns_ps
    have y_194 : n0 ≤ h_173.size := Nat.le_trans (Nat.le_of_eq f_174.1.symm) f_174.2.1
    refine Goes.go (U' := (T_173.setTop (mkF m 66 #[sR_ tx, sR_ ax, sI_ (4 : Int32), sI_ tl] []))) st_173 ?_
    refine Goes.go (U' := (T_173.setTop (mkF m 67 #[sR_ tx, sR_ ax, sI_ (4 : Int32), sI_ tl] [(.ref tx)]))) (fun t kt => ?_) ?_
    · skip
      refine XS.aloadN X_173.here hx rfl (hb hby d_rm_hang1_66) rfl rfl ?_
      exact kt
    obtain ⟨T_195, X_195, e_195, st_195⟩ := getF X_173 hx hZ hown (host := "") (Or.inl (wdOf hw 92 rfl)) Via.refl e_173 f_181 (g := (mkF m 67 #[sR_ tx, sR_ ax, sI_ (4 : Int32), sI_ tl] [(.ref tx)])) rfl rfl (hb hby d_rm_hang1_67)
    refine Goes.go (U' := (T_195.setTop (mkF m 70 #[sR_ tx, sR_ ax, sI_ (4 : Int32), sI_ tl] [(.ref fc)]))) st_195 ?_
    refine Goes.go (U' := (T_195.setTop (mkF m 72 #[sR_ tx, sR_ ax, sI_ (4 : Int32), sI_ tl] [(.int (4 : Int32)), (.int tl), (.ref fc)]))) (fun t kt => ?_) ?_
    · skip
      refine XS.iloadN X_195.here hx rfl (hb hby d_rm_hang1_70) rfl ?_
      refine XS.iloadN X_195.here hx rfl (hb hby d_rm_hang1_71) rfl ?_
      exact kt
    obtain ⟨cl_196, Ar_196, S_196, H_196⟩ := id f_188
    have hin_196 : ¬ (tl < 0 ∨ cl_196.slots.size ≤ (tl).toNatClampNeg) := inb_of S_196 htl
    obtain ⟨T_196, h_196, X_196, e_196, W_196, st_196⟩ := stI X_195 hx hZ e_195 Ar_196 (j := tl) hin_196 (g := (mkF m 72 #[sR_ tx, sR_ ax, sI_ (4 : Int32), sI_ tl] [(.int (4 : Int32)), (.int tl), (.ref fc)])) rfl rfl (hb hby d_rm_hang1_72)
    have B_196 : Bar Z h_196 fc .int IxP := Bar.set Ar_196 S_196 H_196 W_196 ⟨_, rfl, by decide, by decide⟩
    have N_196 := Fr.snoc X_196 N_173 o_fc
    have f_197 := f_174.wr W_196 o_fc
    have f_198 := f_175.wr W_196
    have f_199 := f_176.wr W_196
    have f_200 := f_177.other W_196 (Or.inl (f_176.neBar f_188 (wdOf hw 66 rfl)))
    have f_201 := f_178.other W_196 (Or.inl (f_176.neBar f_188 (wdOf hw 66 rfl)))
    have f_202 := f_179.other W_196 (Or.inl (f_176.neBar f_188 (wdOf hw 66 rfl)))
    have f_203 := f_180.other W_196 (Or.inl (f_176.neBar f_188 (wdOf hw 66 rfl)))
    have f_204 := f_181.other W_196 (Or.inl (f_176.neBar f_188 (wdOf hw 66 rfl)))
    have f_205 := f_182.other W_196 (Or.inl (f_176.neBar f_188 (wdOf hw 66 rfl)))
    have f_206 := f_183.other W_196 (Or.inl (f_176.neBar f_188 (wdOf hw 66 rfl)))
    have f_207 := f_184.other W_196 (Or.inl (f_176.neBar f_188 (wdOf hw 66 rfl)))
    have f_208 := f_185.other W_196 (Or.inl (f_176.neBar f_188 (wdOf hw 66 rfl)))
    have f_209 := f_186.other W_196 (Or.inl (f_176.neBar f_188 (wdOf hw 66 rfl)))
    have f_210 := f_187.other W_196 (Or.inl (f_176.neBar f_188 (wdOf hw 66 rfl)))
    have f_212 := f_190.other W_196 (Ne.symm n_fc_ch)
    have f_213 := f_191.other W_196 (f_191.neBar f_188 nofun)
    have f_214 := f_192.other W_196 (f_192.neT f_188 nofun)
    have f_215 := f_193.other W_196 (Ne.symm n_fc_ns)
    have f_216 := B_173.other W_196 (Ne.symm n_fc_ps)
    have y_217 : n0 ≤ h_196.size := Nat.le_trans (Nat.le_of_eq f_197.1.symm) f_197.2.1
    refine Goes.go (U' := (T_196.setTop (mkF m 73 #[sR_ tx, sR_ ax, sI_ (4 : Int32), sI_ tl] []))) st_196 ?_
    refine Goes.go (U' := (T_196.setTop (mkF m 75 #[sR_ tx, sR_ ax, sI_ (4 : Int32), sI_ tl] [(.ref tx), (.ref tx)]))) (fun t kt => ?_) ?_
    · skip
      refine XS.aloadN X_196.here hx rfl (hb hby d_rm_hang1_73) rfl rfl ?_
      refine XS.dup X_196.here hx rfl (hb hby d_rm_hang1_74) rfl rfl ?_
      exact kt
    obtain ⟨T_218, X_218, e_218, st_218⟩ := getF X_196 hx hZ hown (host := "") (Or.inl (wdOf hw 78 rfl)) Via.refl e_196 f_200 (g := (mkF m 75 #[sR_ tx, sR_ ax, sI_ (4 : Int32), sI_ tl] [(.ref tx), (.ref tx)])) rfl rfl (hb hby d_rm_hang1_75)
    refine Goes.go (U' := (T_218.setTop (mkF m 78 #[sR_ tx, sR_ ax, sI_ (4 : Int32), sI_ tl] [(.int sz), (.ref tx)]))) st_218 ?_
    refine Goes.go (U' := (T_218.setTop (mkF m 80 #[sR_ tx, sR_ ax, sI_ (4 : Int32), sI_ tl] [(.int (sz + (1 : Int32))), (.ref tx)]))) (fun t kt => ?_) ?_
    · skip
      refine XS.iconst X_218.here hx rfl (hb hby d_rm_hang1_78) ?_
      refine XS.iadd X_218.here hx rfl (hb hby d_rm_hang1_79) rfl ?_
      exact kt
    obtain ⟨T_219, h_219, X_219, e_219, W_219, st_219⟩ := putF X_218 hx hZ hown (host := "") (Or.inl (wdOf hw 78 rfl)) Via.refl e_218 f_200 f_199 (Or.inl (wdOf hw 79 rfl)) (wdOf hw 66 rfl) (ty := .int) (by decide) rfl rfl (g := (mkF m 80 #[sR_ tx, sR_ ax, sI_ (4 : Int32), sI_ tl] [(.int (sz + (1 : Int32))), (.ref tx)])) rfl rfl (hb hby d_rm_hang1_80)
    have N_219 := Fr.snoc X_219 N_196 o_tx
    have f_220 := f_197.wr W_219 o_tx
    have f_221 := f_198.wr W_219
    have f_222 := f_199.wr W_219
    have f_223 := f_200.same W_219
    have f_224 := f_201.other W_219 (Or.inr (slot_ne (Or.inr (wdOf hw 81 rfl)) (Or.inl (wdOf hw 79 rfl)) (by decide) (t := .int) (t' := .int) (by decide) (by decide)))
    have f_225 := f_202.other W_219 (Or.inr (slot_ne (Or.inr (wdOf hw 85 rfl)) (Or.inl (wdOf hw 79 rfl)) (by decide) (t := (.array (.object "com/example/copse/copse/Arc"))) (t' := .int) (by decide) (by decide)))
    have f_226 := f_203.other W_219 (Or.inr (slot_ne (Or.inr (wdOf hw 88 rfl)) (Or.inl (wdOf hw 79 rfl)) (by decide) (t := (.array .int)) (t' := .int) (by decide) (by decide)))
    have f_227 := f_204.other W_219 (Or.inr (slot_ne (Or.inr (wdOf hw 93 rfl)) (Or.inl (wdOf hw 79 rfl)) (by decide) (t := (.array .int)) (t' := .int) (by decide) (by decide)))
    have f_228 := f_205.other W_219 (Or.inr (slot_ne (Or.inr (wdOf hw 95 rfl)) (Or.inl (wdOf hw 79 rfl)) (by decide) (t := (.array .int)) (t' := .int) (by decide) (by decide)))
    have f_229 := f_206.other W_219 (Or.inr (slot_ne (Or.inr (wdOf hw 97 rfl)) (Or.inl (wdOf hw 79 rfl)) (by decide) (t := (.array .int)) (t' := .int) (by decide) (by decide)))
    have f_230 := f_207.other W_219 (Or.inr (slot_ne (Or.inr (wdOf hw 99 rfl)) (Or.inl (wdOf hw 79 rfl)) (by decide) (t := (.object "java/util/function/Predicate")) (t' := .int) (by decide) (by decide)))
    have f_231 := f_208.other W_219 (Or.inr (slot_ne (Or.inr (wdOf hw 101 rfl)) (Or.inl (wdOf hw 79 rfl)) (by decide) (t := (.array .boolean)) (t' := .int) (by decide) (by decide)))
    have f_232 := f_209.other W_219 (Or.inr (slot_ne (Or.inl (wdOf hw 214 rfl)) (Or.inl (wdOf hw 79 rfl)) (by decide) (t := .long) (t' := .int) (by decide) (by decide)))
    have f_233 := f_210.other W_219 (Or.inr (slot_ne (Or.inl (wdOf hw 220 rfl)) (Or.inl (wdOf hw 79 rfl)) (by decide) (t := (.object "com/example/copse/copse/LinkCutForest")) (t' := .int) (by decide) (by decide)))
    have f_234 := f_212.other W_219 (Ne.symm (f_199.neBar f_212 (wdOf hw 66 rfl)))
    have f_235 := f_213.other W_219 (Ne.symm (f_199.neArv f_213 (wdOf hw 66 rfl)))
    have f_236 := f_214.other W_219 (Ne.symm (f_199.neBar f_214 (wdOf hw 66 rfl)))
    have f_237 := f_215.other W_219 (Ne.symm (f_199.neBar f_215 (wdOf hw 66 rfl)))
    have f_238 := f_216.other W_219 (Ne.symm (f_199.neBar f_216 (wdOf hw 66 rfl)))
    have f_239 := B_196.other W_219 (Ne.symm (f_199.neBar B_196 (wdOf hw 66 rfl)))
    have y_240 : n0 ≤ h_219.size := Nat.le_trans (Nat.le_of_eq f_220.1.symm) f_220.2.1
    refine Goes.go (U' := (T_219.setTop (mkF m 83 #[sR_ tx, sR_ ax, sI_ (4 : Int32), sI_ tl] []))) st_219 ?_
    refine Goes.go (U' := (T_219.setTop (mkF m 85 #[sR_ tx, sR_ ax, sI_ (4 : Int32), sI_ tl] [(.ref tx), (.ref tx)]))) (fun t kt => ?_) ?_
    · skip
      refine XS.aloadN X_219.here hx rfl (hb hby d_rm_hang1_83) rfl rfl ?_
      refine XS.dup X_219.here hx rfl (hb hby d_rm_hang1_84) rfl rfl ?_
      exact kt
    obtain ⟨T_241, X_241, e_241, st_241⟩ := getF X_219 hx hZ hown (host := "") (Or.inl (wdOf hw 213 rfl)) Via.refl e_219 f_232 (g := (mkF m 85 #[sR_ tx, sR_ ax, sI_ (4 : Int32), sI_ tl] [(.ref tx), (.ref tx)])) rfl rfl (hb hby d_rm_hang1_85)
    refine Goes.go (U' := (T_241.setTop (mkF m 88 #[sR_ tx, sR_ ax, sI_ (4 : Int32), sI_ tl] [(.long cg), (.ref tx)]))) st_241 ?_
    refine Goes.go (U' := (T_241.setTop (mkF m 90 #[sR_ tx, sR_ ax, sI_ (4 : Int32), sI_ tl] [(.long (cg + (1 : Int64))), (.ref tx)]))) (fun t kt => ?_) ?_
    · skip
      refine XS.lconst X_241.here hx rfl (hb hby d_rm_hang1_88) ?_
      refine XS.ladd X_241.here hx rfl (hb hby d_rm_hang1_89) rfl ?_
      exact kt
    obtain ⟨T_242, h_242, X_242, e_242, W_242, st_242⟩ := putF X_241 hx hZ hown (host := "") (Or.inl (wdOf hw 213 rfl)) Via.refl e_241 f_232 f_222 (Or.inl (wdOf hw 214 rfl)) (wdOf hw 66 rfl) (ty := .long) (by decide) rfl rfl (g := (mkF m 90 #[sR_ tx, sR_ ax, sI_ (4 : Int32), sI_ tl] [(.long (cg + (1 : Int64))), (.ref tx)])) rfl rfl (hb hby d_rm_hang1_90)
    have N_242 := Fr.snoc X_242 N_219 o_tx
    have f_243 := f_220.wr W_242 o_tx
    have f_244 := f_221.wr W_242
    have f_245 := f_222.wr W_242
    have f_246 := f_223.other W_242 (Or.inr (slot_ne (Or.inl (wdOf hw 79 rfl)) (Or.inl (wdOf hw 214 rfl)) (by decide) (t := .int) (t' := .long) (by decide) (by decide)))
    have f_247 := f_224.other W_242 (Or.inr (slot_ne (Or.inr (wdOf hw 81 rfl)) (Or.inl (wdOf hw 214 rfl)) (by decide) (t := .int) (t' := .long) (by decide) (by decide)))
    have f_248 := f_225.other W_242 (Or.inr (slot_ne (Or.inr (wdOf hw 85 rfl)) (Or.inl (wdOf hw 214 rfl)) (by decide) (t := (.array (.object "com/example/copse/copse/Arc"))) (t' := .long) (by decide) (by decide)))
    have f_249 := f_226.other W_242 (Or.inr (slot_ne (Or.inr (wdOf hw 88 rfl)) (Or.inl (wdOf hw 214 rfl)) (by decide) (t := (.array .int)) (t' := .long) (by decide) (by decide)))
    have f_250 := f_227.other W_242 (Or.inr (slot_ne (Or.inr (wdOf hw 93 rfl)) (Or.inl (wdOf hw 214 rfl)) (by decide) (t := (.array .int)) (t' := .long) (by decide) (by decide)))
    have f_251 := f_228.other W_242 (Or.inr (slot_ne (Or.inr (wdOf hw 95 rfl)) (Or.inl (wdOf hw 214 rfl)) (by decide) (t := (.array .int)) (t' := .long) (by decide) (by decide)))
    have f_252 := f_229.other W_242 (Or.inr (slot_ne (Or.inr (wdOf hw 97 rfl)) (Or.inl (wdOf hw 214 rfl)) (by decide) (t := (.array .int)) (t' := .long) (by decide) (by decide)))
    have f_253 := f_230.other W_242 (Or.inr (slot_ne (Or.inr (wdOf hw 99 rfl)) (Or.inl (wdOf hw 214 rfl)) (by decide) (t := (.object "java/util/function/Predicate")) (t' := .long) (by decide) (by decide)))
    have f_254 := f_231.other W_242 (Or.inr (slot_ne (Or.inr (wdOf hw 101 rfl)) (Or.inl (wdOf hw 214 rfl)) (by decide) (t := (.array .boolean)) (t' := .long) (by decide) (by decide)))
    have f_255 := f_232.same W_242
    have f_256 := f_233.other W_242 (Or.inr (slot_ne (Or.inl (wdOf hw 220 rfl)) (Or.inl (wdOf hw 214 rfl)) (by decide) (t := (.object "com/example/copse/copse/LinkCutForest")) (t' := .long) (by decide) (by decide)))
    have f_257 := f_234.other W_242 (Ne.symm (f_222.neBar f_234 (wdOf hw 66 rfl)))
    have f_258 := f_235.other W_242 (Ne.symm (f_222.neArv f_235 (wdOf hw 66 rfl)))
    have f_259 := f_236.other W_242 (Ne.symm (f_222.neBar f_236 (wdOf hw 66 rfl)))
    have f_260 := f_237.other W_242 (Ne.symm (f_222.neBar f_237 (wdOf hw 66 rfl)))
    have f_261 := f_238.other W_242 (Ne.symm (f_222.neBar f_238 (wdOf hw 66 rfl)))
    have f_262 := f_239.other W_242 (Ne.symm (f_222.neBar f_239 (wdOf hw 66 rfl)))
    have y_263 : n0 ≤ h_242.size := Nat.le_trans (Nat.le_of_eq f_243.1.symm) f_243.2.1
    refine Goes.go (U' := (T_242.setTop (mkF m 93 #[sR_ tx, sR_ ax, sI_ (4 : Int32), sI_ tl] []))) st_242 ?_
    refine Goes.go (U' := (T_242.setTop (mkF m 96 #[sR_ tx, sR_ ax, sI_ (4 : Int32), sI_ tl] [(.int (1 : Int32)), (.int tl), (.ref tx)]))) (fun t kt => ?_) ?_
    · skip
      refine XS.aloadN X_242.here hx rfl (hb hby d_rm_hang1_93) rfl rfl ?_
      refine XS.iloadN X_242.here hx rfl (hb hby d_rm_hang1_94) rfl ?_
      refine XS.iconst X_242.here hx rfl (hb hby d_rm_hang1_95) ?_
      exact kt
    obtain ⟨v_264, T_264, L_264, X_264, q_264, st_264⟩ := callPrivate X_242 hx hZ (y := (⟨"com/example/copse/copse/HangingTree", "countChildren", "(II)V"⟩ : MethodName)) (W := 0) hown (wdOf hw 215 rfl) (wdOf hw 216 rfl) (wdOf hw 217 rfl) (wdOf hw 66 rfl) (wdOf hw 67 rfl) (wdOf hw 218 rfl) (by decide) (rm_cc l Z a0 hw [] tx ch tl h_242 n0 y_263 o_ch htl (f_245.neBar f_257 (wdOf hw 66 rfl)) f_249 f_256 f_257) (by decide) (by decide) (by decide) (by decide) e_242 f_245 (g := (mkF m 96 #[sR_ tx, sR_ ax, sI_ (4 : Int32), sI_ tl] [(.int (1 : Int32)), (.int tl), (.ref tx)])) rfl (by rw [hml]; rfl) (argsL := [(.int tl), (.int (1 : Int32))]) (rest := []) (lenOf pd_7 rfl) rfl rfl (Nat.le_refl _) (hb hby d_rm_hang1_96)
    obtain ⟨rfl, n_264, K_264, Bq_264⟩ := q_264
    have N_264 := Fr.app N_242 n_264
    have f_265 := f_243.keep K_264 (allS o_ch all0)
    have f_266 := f_244.keep K_264
    have f_267 := f_245.keep K_264
    have f_268 := f_246.keep K_264 (ninS (f_245.neBar f_257 (wdOf hw 66 rfl)) nin0)
    have f_269 := f_247.keep K_264 (ninS (f_245.neBar f_257 (wdOf hw 66 rfl)) nin0)
    have f_270 := f_248.keep K_264 (ninS (f_245.neBar f_257 (wdOf hw 66 rfl)) nin0)
    have f_271 := f_249.keep K_264 (ninS (f_245.neBar f_257 (wdOf hw 66 rfl)) nin0)
    have f_272 := f_250.keep K_264 (ninS (f_245.neBar f_257 (wdOf hw 66 rfl)) nin0)
    have f_273 := f_251.keep K_264 (ninS (f_245.neBar f_257 (wdOf hw 66 rfl)) nin0)
    have f_274 := f_252.keep K_264 (ninS (f_245.neBar f_257 (wdOf hw 66 rfl)) nin0)
    have f_275 := f_253.keep K_264 (ninS (f_245.neBar f_257 (wdOf hw 66 rfl)) nin0)
    have f_276 := f_254.keep K_264 (ninS (f_245.neBar f_257 (wdOf hw 66 rfl)) nin0)
    have f_277 := f_255.keep K_264 (ninS (f_245.neBar f_257 (wdOf hw 66 rfl)) nin0)
    have f_278 := f_256.keep K_264 (ninS (f_245.neBar f_257 (wdOf hw 66 rfl)) nin0)
    have f_280 := f_258.keep K_264 (ninS (f_258.neBar f_257 nofun) nin0)
    have f_281 := f_259.keep K_264 (ninS (f_259.neT f_257 nofun) nin0)
    have f_282 := f_260.keep K_264 (ninS n_ns_ch nin0)
    have f_283 := f_261.keep K_264 (ninS n_ps_ch nin0)
    have f_284 := f_262.keep K_264 (ninS n_fc_ch nin0)
    have y_285 : n0 ≤ T_264.heap.size := Nat.le_trans (Nat.le_of_eq f_265.1.symm) f_265.2.1
    refine Goes.go (U' := (T_264.setTop (mkF m 99 #[sR_ tx, sR_ ax, sI_ (4 : Int32), sI_ tl] []))) st_264 ?_
    refine Goes.go (U' := (T_264.setTop (mkF m 100 #[sR_ tx, sR_ ax, sI_ (4 : Int32), sI_ tl] [(.ref tx)]))) (fun t kt => ?_) ?_
    · skip
      refine XS.aloadN X_264.here hx rfl (hb hby d_rm_hang1_99) rfl rfl ?_
      exact kt
    obtain ⟨T_286, X_286, e_286, st_286⟩ := getF X_264 hx hZ hown (host := "") (Or.inl (wdOf hw 219 rfl)) Via.refl (rfl : T_264.heap = T_264.heap) f_278 (g := (mkF m 100 #[sR_ tx, sR_ ax, sI_ (4 : Int32), sI_ tl] [(.ref tx)])) rfl rfl (hb hby d_rm_hang1_100)
    refine Goes.go (U' := (T_286.setTop (mkF m 103 #[sR_ tx, sR_ ax, sI_ (4 : Int32), sI_ tl] [.null]))) st_286 ?_
    refine Goes.go (U' := (T_286.setTop (mkF m 119 #[sR_ tx, sR_ ax, sI_ (4 : Int32), sI_ tl] []))) (fun t kt => ?_) ?_
    · skip
      refine XS.ifnullYes X_286.here hx rfl (pc0 := 103) (pc' := 119) rfl (hb hby d_rm_hang1_103) rfl (by decide) (by decide) ?_
      exact kt
    refine Goes.retV X_286 hx hlk hret (hb hby d_rm_hang1_119) (by decide) (by decide) ?_
    try rw [e_286]
    exact ⟨rfl, N_264, f_265, ⟨_, _, _, _, _, _, _, _, _, f_267, f_268, f_269, f_270, f_271, f_272, f_273, f_274, f_275, f_276, f_277, f_278, f_280, f_281, f_282, f_284, f_283, Bq_264, Ov, ⟨o_tx, o_ho, o_ch, o_fc, o_ns, o_ps, o_tu⟩, ⟨n_fc_ns, n_fc_ps, n_fc_ch, n_ns_ps, n_ns_ch, n_ps_ch⟩⟩⟩
theorem d_rm_ct0_0 : decode prog_20_method_3_code 0 = .ok (.iload_n 1, 1) := by decide +kernel
theorem d_rm_ct0_1 : decode prog_20_method_3_code 1 = .ok (.aload_n 0, 1) := by decide +kernel
theorem d_rm_ct0_2 : decode prog_20_method_3_code 2 = .ok (.getfield 20, 3) := by decide +kernel
theorem d_rm_ct0_5 : decode prog_20_method_3_code 5 = .ok (.if_icmp .eq 12, 3) := by decide +kernel
theorem d_rm_ct0_8 : decode prog_20_method_3_code 8 = .ok (.aload_n 0, 1) := by decide +kernel
theorem d_rm_ct0_9 : decode prog_20_method_3_code 9 = .ok (.getfield 25, 3) := by decide +kernel
theorem d_rm_ct0_12 : decode prog_20_method_3_code 12 = .ok (.iload_n 1, 1) := by decide +kernel
theorem d_rm_ct0_13 : decode prog_20_method_3_code 13 = .ok (.aaload, 1) := by decide +kernel
theorem d_rm_ct0_14 : decode prog_20_method_3_code 14 = .ok (.ifnull 7, 3) := by decide +kernel
theorem d_rm_ct0_17 : decode prog_20_method_3_code 17 = .ok (.iconst 1, 1) := by decide +kernel
theorem d_rm_ct0_18 : decode prog_20_method_3_code 18 = .ok (.goto 4, 3) := by decide +kernel
theorem d_rm_ct0_21 : decode prog_20_method_3_code 21 = .ok (.iconst 0, 1) := by decide +kernel
theorem d_rm_ct0_22 : decode prog_20_method_3_code 22 = .ok (.ireturn, 1) := by decide +kernel
set_option maxHeartbeats 4000000 in
theorem ef_rm_ct0 (m : MethodId) (x0 : Addr) (x1 : Int32)  : entryFrame m #[(.ref x0), (.int x1)] 2 = mkF m 0 #[.val (.ref x0), .val (.int x1)] [] := by first | (simp [entryFrame, mkF, argsToLocals, catR, catN, catI, catJ]; done) | rfl
set_option maxRecDepth 65536 in
set_option maxHeartbeats 40000000 in
theorem rm_ct0 (l : Launch) (Z : State) (a0 : Array Value) (hw : ∀ d ∈ tables_1, d.before a0 Z = true) (ws : List Jvm.Cond) (tx la : Addr) (r : Int32) (v0 v1 v2 v3 v4 : Value) (h0 : Heap) (n0 : Nat) (Z0 : n0 ≤ h0.size) (T0 : HTr Z h0 n0 tx la r v0 v1 v2 v3 v4) (hv : v0.isRef = true) :
    Pays l Z (⟨"com/example/copse/copse/HangingTree", "contains", "(I)Z"⟩ : MethodName) prog_20_method_3_code 2 (some .boolean) ws ({ frames := 0, cells := 0, slots := 0, locals := 0 } : Room) #[(.ref tx), (.int (0 : Int32))] h0 (fun v h L => ∃ z : Int32, v = some (.int z) ∧ Fr n0 L ∧ h = h0 ∧ (z = 1 ∧ ((0 : Int32) = r ∨ ¬ v0 = .null) ∨ z = 0 ∧ ¬ (0 : Int32) = r ∧ v0 = .null)) := by
  refine Pays.of (plainFor_of_name (by first | (simp [plainName, overriddenIn]; done) | decide +kernel)) ?_
  intro p e s m below meth c s₁ hx hby hml hown hnm hret hlk hZ e0 X0
  have N0 := Fr.nil n0
  have K0 : Keep h0 h0 [] := Keep.refl _ _
  refine Goes.go (U' := (s₁.setTop (mkF m 0 #[sR_ tx, sI_ (0 : Int32)] []))) (fun t kt => castTop (ef_rm_ct0 m tx (0 : Int32)) kt) ?_
  obtain ⟨ho, ch, fc, ns, ps, tu, kh, sz, cg, Et, Ft_size, Ft_root, Ft_hangsOn, Ft_children, Ft_firstChild, Ft_nextSibling, Ft_previousSibling, Ft_twinned, Ft_turns, Ft_changes, Ft_forest, Vh, Btu, Bns, Bfc, Bps, Bch, Ov, ⟨o_tx, o_ho, o_ch, o_fc, o_ns, o_ps, o_tu⟩, ⟨n_fc_ns, n_fc_ps, n_fc_ch, n_ns_ps, n_ns_ch, n_ps_ch⟩⟩ := id T0
  refine Goes.go (U' := (s₁.setTop (mkF m 2 #[sR_ tx, sI_ (0 : Int32)] [(.ref tx), (.int (0 : Int32))]))) (fun t kt => ?_) ?_
  · skip
    refine XS.iloadN X0.here hx rfl (hb hby d_rm_ct0_0) rfl ?_
    refine XS.aloadN X0.here hx rfl (hb hby d_rm_ct0_1) rfl rfl ?_
    exact kt
  obtain ⟨T_1, X_1, e_1, st_1⟩ := getF X0 hx hZ hown (host := "") (Or.inl (wdOf hw 80 rfl)) Via.refl e0 Ft_root (g := (mkF m 2 #[sR_ tx, sI_ (0 : Int32)] [(.ref tx), (.int (0 : Int32))])) rfl rfl (hb hby d_rm_ct0_2)
  refine Goes.go (U' := (T_1.setTop (mkF m 5 #[sR_ tx, sI_ (0 : Int32)] [(.int r), (.int (0 : Int32))]))) st_1 ?_
  by_cases cr : (0 : Int32) = r
  · -- (0 : Int32) = r
    refine Goes.go (U' := (T_1.setTop (mkF m 22 #[sR_ tx, sI_ (0 : Int32)] [(.int (1 : Int32))]))) (fun t kt => ?_) ?_
    · skip
      refine XS.icmpYes X_1.here hx rfl (pc0 := 5) (pc' := 17) rfl (hb hby d_rm_ct0_5) rfl (XT.ii_eq_t cr) (by decide) (by decide) ?_
      refine XS.iconst X_1.here hx rfl (hb hby d_rm_ct0_17) ?_
      refine XS.goto X_1.here hx rfl (pc0 := 18) (pc' := 22) rfl (hb hby d_rm_ct0_18) (by decide) (by decide) ?_
      exact kt
    refine Goes.retB X_1 hx hlk hret (hb hby d_rm_ct0_22) (by decide) (by decide) ?_
    try rw [e_1]
    exact ⟨_, rfl, N0, rfl, Or.inl ⟨rfl, Or.inl cr⟩⟩
  · -- not (0 : Int32) = r
    refine Goes.go (U' := (T_1.setTop (mkF m 9 #[sR_ tx, sI_ (0 : Int32)] [(.ref tx)]))) (fun t kt => ?_) ?_
    · skip
      refine XS.icmpNo X_1.here hx rfl (hb hby d_rm_ct0_5) rfl (XT.ii_eq_f cr) ?_
      refine XS.aloadN X_1.here hx rfl (hb hby d_rm_ct0_8) rfl rfl ?_
      exact kt
    obtain ⟨T_2, X_2, e_2, st_2⟩ := getF X_1 hx hZ hown (host := "") (Or.inl (wdOf hw 84 rfl)) Via.refl e_1 Ft_hangsOn (g := (mkF m 9 #[sR_ tx, sI_ (0 : Int32)] [(.ref tx)])) rfl rfl (hb hby d_rm_ct0_9)
    refine Goes.go (U' := (T_2.setTop (mkF m 12 #[sR_ tx, sI_ (0 : Int32)] [(.ref ho)]))) st_2 ?_
    refine Goes.go (U' := (T_2.setTop (mkF m 13 #[sR_ tx, sI_ (0 : Int32)] [(.int (0 : Int32)), (.ref ho)]))) (fun t kt => ?_) ?_
    · skip
      refine XS.iloadN X_2.here hx rfl (hb hby d_rm_ct0_12) rfl ?_
      exact kt
    obtain ⟨cl_3, Ar_3, q_3, S_3, M_3, H_3, G_3⟩ := id Vh
    have hin_3 : ¬ ((0 : Int32) < 0 ∨ cl_3.slots.size ≤ ((0 : Int32)).toNatClampNeg) := inb_of S_3 ⟨by decide, by decide⟩
    have hat_3 : cl_3.slots[((0 : Int32)).toNatClampNeg]? = some v0 := H_3.at hin_3 rfl
    refine Goes.go (U' := (T_2.setTop (mkF m 14 #[sR_ tx, sI_ (0 : Int32)] [v0]))) (fun t kt => ?_) ?_
    · skip
      refine X_2.aaload hx (j := (0 : Int32)) (v := v0) (by rw [e_2]; exact Ar_3.1) (State.isArrayOf_alike hZ.alike Ar_3.2.1) rfl Ar_3.2.2 hin_3 hat_3 (g := (mkF m 13 #[sR_ tx, sI_ (0 : Int32)] [(.int (0 : Int32)), (.ref ho)])) rfl rfl (hb hby d_rm_ct0_13) _ ?_
      exact kt
    by_cases cn : v0 = Value.null
    · -- v0 = Value.null
      refine Goes.go (U' := (T_2.setTop (mkF m 22 #[sR_ tx, sI_ (0 : Int32)] [(.int (0 : Int32))]))) (fun t kt => ?_) ?_
      · skip
        refine XT.nullYes X_2.here hx rfl (pc0 := 14) (pc' := 21) rfl (hb hby d_rm_ct0_14) rfl  cn (by decide) (by decide) ?_
        refine XS.iconst X_2.here hx rfl (hb hby d_rm_ct0_21) ?_
        exact kt
      refine Goes.retB X_2 hx hlk hret (hb hby d_rm_ct0_22) (by decide) (by decide) ?_
      try rw [e_2]
      exact ⟨_, rfl, N0, rfl, Or.inr ⟨rfl, cr, cn⟩⟩
    · -- not v0 = Value.null
      refine Goes.go (U' := (T_2.setTop (mkF m 22 #[sR_ tx, sI_ (0 : Int32)] [(.int (1 : Int32))]))) (fun t kt => ?_) ?_
      · skip
        refine XT.nullNo X_2.here hx rfl (hb hby d_rm_ct0_14) rfl hv  cn ?_
        refine XS.iconst X_2.here hx rfl (hb hby d_rm_ct0_17) ?_
        refine XS.goto X_2.here hx rfl (pc0 := 18) (pc' := 22) rfl (hb hby d_rm_ct0_18) (by decide) (by decide) ?_
        exact kt
      refine Goes.retB X_2 hx hlk hret (hb hby d_rm_ct0_22) (by decide) (by decide) ?_
      try rw [e_2]
      exact ⟨_, rfl, N0, rfl, Or.inl ⟨rfl, Or.inr cn⟩⟩
set_option maxHeartbeats 4000000 in
theorem ef_rm_ct1 (m : MethodId) (x0 : Addr) (x1 : Int32)  : entryFrame m #[(.ref x0), (.int x1)] 2 = mkF m 0 #[.val (.ref x0), .val (.int x1)] [] := by first | (simp [entryFrame, mkF, argsToLocals, catR, catN, catI, catJ]; done) | rfl
set_option maxRecDepth 65536 in
set_option maxHeartbeats 40000000 in
theorem rm_ct1 (l : Launch) (Z : State) (a0 : Array Value) (hw : ∀ d ∈ tables_1, d.before a0 Z = true) (ws : List Jvm.Cond) (tx la : Addr) (r : Int32) (v0 v1 v2 v3 v4 : Value) (h0 : Heap) (n0 : Nat) (Z0 : n0 ≤ h0.size) (T0 : HTr Z h0 n0 tx la r v0 v1 v2 v3 v4) (hv : v1.isRef = true) :
    Pays l Z (⟨"com/example/copse/copse/HangingTree", "contains", "(I)Z"⟩ : MethodName) prog_20_method_3_code 2 (some .boolean) ws ({ frames := 0, cells := 0, slots := 0, locals := 0 } : Room) #[(.ref tx), (.int (1 : Int32))] h0 (fun v h L => ∃ z : Int32, v = some (.int z) ∧ Fr n0 L ∧ h = h0 ∧ (z = 1 ∧ ((1 : Int32) = r ∨ ¬ v1 = .null) ∨ z = 0 ∧ ¬ (1 : Int32) = r ∧ v1 = .null)) := by
  refine Pays.of (plainFor_of_name (by first | (simp [plainName, overriddenIn]; done) | decide +kernel)) ?_
  intro p e s m below meth c s₁ hx hby hml hown hnm hret hlk hZ e0 X0
  have N0 := Fr.nil n0
  have K0 : Keep h0 h0 [] := Keep.refl _ _
  refine Goes.go (U' := (s₁.setTop (mkF m 0 #[sR_ tx, sI_ (1 : Int32)] []))) (fun t kt => castTop (ef_rm_ct1 m tx (1 : Int32)) kt) ?_
  obtain ⟨ho, ch, fc, ns, ps, tu, kh, sz, cg, Et, Ft_size, Ft_root, Ft_hangsOn, Ft_children, Ft_firstChild, Ft_nextSibling, Ft_previousSibling, Ft_twinned, Ft_turns, Ft_changes, Ft_forest, Vh, Btu, Bns, Bfc, Bps, Bch, Ov, ⟨o_tx, o_ho, o_ch, o_fc, o_ns, o_ps, o_tu⟩, ⟨n_fc_ns, n_fc_ps, n_fc_ch, n_ns_ps, n_ns_ch, n_ps_ch⟩⟩ := id T0
  refine Goes.go (U' := (s₁.setTop (mkF m 2 #[sR_ tx, sI_ (1 : Int32)] [(.ref tx), (.int (1 : Int32))]))) (fun t kt => ?_) ?_
  · skip
    refine XS.iloadN X0.here hx rfl (hb hby d_rm_ct0_0) rfl ?_
    refine XS.aloadN X0.here hx rfl (hb hby d_rm_ct0_1) rfl rfl ?_
    exact kt
  obtain ⟨T_1, X_1, e_1, st_1⟩ := getF X0 hx hZ hown (host := "") (Or.inl (wdOf hw 80 rfl)) Via.refl e0 Ft_root (g := (mkF m 2 #[sR_ tx, sI_ (1 : Int32)] [(.ref tx), (.int (1 : Int32))])) rfl rfl (hb hby d_rm_ct0_2)
  refine Goes.go (U' := (T_1.setTop (mkF m 5 #[sR_ tx, sI_ (1 : Int32)] [(.int r), (.int (1 : Int32))]))) st_1 ?_
  by_cases cr : (1 : Int32) = r
  · -- (1 : Int32) = r
    refine Goes.go (U' := (T_1.setTop (mkF m 22 #[sR_ tx, sI_ (1 : Int32)] [(.int (1 : Int32))]))) (fun t kt => ?_) ?_
    · skip
      refine XS.icmpYes X_1.here hx rfl (pc0 := 5) (pc' := 17) rfl (hb hby d_rm_ct0_5) rfl (XT.ii_eq_t cr) (by decide) (by decide) ?_
      refine XS.iconst X_1.here hx rfl (hb hby d_rm_ct0_17) ?_
      refine XS.goto X_1.here hx rfl (pc0 := 18) (pc' := 22) rfl (hb hby d_rm_ct0_18) (by decide) (by decide) ?_
      exact kt
    refine Goes.retB X_1 hx hlk hret (hb hby d_rm_ct0_22) (by decide) (by decide) ?_
    try rw [e_1]
    exact ⟨_, rfl, N0, rfl, Or.inl ⟨rfl, Or.inl cr⟩⟩
  · -- not (1 : Int32) = r
    refine Goes.go (U' := (T_1.setTop (mkF m 9 #[sR_ tx, sI_ (1 : Int32)] [(.ref tx)]))) (fun t kt => ?_) ?_
    · skip
      refine XS.icmpNo X_1.here hx rfl (hb hby d_rm_ct0_5) rfl (XT.ii_eq_f cr) ?_
      refine XS.aloadN X_1.here hx rfl (hb hby d_rm_ct0_8) rfl rfl ?_
      exact kt
    obtain ⟨T_2, X_2, e_2, st_2⟩ := getF X_1 hx hZ hown (host := "") (Or.inl (wdOf hw 84 rfl)) Via.refl e_1 Ft_hangsOn (g := (mkF m 9 #[sR_ tx, sI_ (1 : Int32)] [(.ref tx)])) rfl rfl (hb hby d_rm_ct0_9)
    refine Goes.go (U' := (T_2.setTop (mkF m 12 #[sR_ tx, sI_ (1 : Int32)] [(.ref ho)]))) st_2 ?_
    refine Goes.go (U' := (T_2.setTop (mkF m 13 #[sR_ tx, sI_ (1 : Int32)] [(.int (1 : Int32)), (.ref ho)]))) (fun t kt => ?_) ?_
    · skip
      refine XS.iloadN X_2.here hx rfl (hb hby d_rm_ct0_12) rfl ?_
      exact kt
    obtain ⟨cl_3, Ar_3, q_3, S_3, M_3, H_3, G_3⟩ := id Vh
    have hin_3 : ¬ ((1 : Int32) < 0 ∨ cl_3.slots.size ≤ ((1 : Int32)).toNatClampNeg) := inb_of S_3 ⟨by decide, by decide⟩
    have hat_3 : cl_3.slots[((1 : Int32)).toNatClampNeg]? = some v1 := H_3.at hin_3 rfl
    refine Goes.go (U' := (T_2.setTop (mkF m 14 #[sR_ tx, sI_ (1 : Int32)] [v1]))) (fun t kt => ?_) ?_
    · skip
      refine X_2.aaload hx (j := (1 : Int32)) (v := v1) (by rw [e_2]; exact Ar_3.1) (State.isArrayOf_alike hZ.alike Ar_3.2.1) rfl Ar_3.2.2 hin_3 hat_3 (g := (mkF m 13 #[sR_ tx, sI_ (1 : Int32)] [(.int (1 : Int32)), (.ref ho)])) rfl rfl (hb hby d_rm_ct0_13) _ ?_
      exact kt
    by_cases cn : v1 = Value.null
    · -- v1 = Value.null
      refine Goes.go (U' := (T_2.setTop (mkF m 22 #[sR_ tx, sI_ (1 : Int32)] [(.int (0 : Int32))]))) (fun t kt => ?_) ?_
      · skip
        refine XT.nullYes X_2.here hx rfl (pc0 := 14) (pc' := 21) rfl (hb hby d_rm_ct0_14) rfl  cn (by decide) (by decide) ?_
        refine XS.iconst X_2.here hx rfl (hb hby d_rm_ct0_21) ?_
        exact kt
      refine Goes.retB X_2 hx hlk hret (hb hby d_rm_ct0_22) (by decide) (by decide) ?_
      try rw [e_2]
      exact ⟨_, rfl, N0, rfl, Or.inr ⟨rfl, cr, cn⟩⟩
    · -- not v1 = Value.null
      refine Goes.go (U' := (T_2.setTop (mkF m 22 #[sR_ tx, sI_ (1 : Int32)] [(.int (1 : Int32))]))) (fun t kt => ?_) ?_
      · skip
        refine XT.nullNo X_2.here hx rfl (hb hby d_rm_ct0_14) rfl hv  cn ?_
        refine XS.iconst X_2.here hx rfl (hb hby d_rm_ct0_17) ?_
        refine XS.goto X_2.here hx rfl (pc0 := 18) (pc' := 22) rfl (hb hby d_rm_ct0_18) (by decide) (by decide) ?_
        exact kt
      refine Goes.retB X_2 hx hlk hret (hb hby d_rm_ct0_22) (by decide) (by decide) ?_
      try rw [e_2]
      exact ⟨_, rfl, N0, rfl, Or.inl ⟨rfl, Or.inr cn⟩⟩
set_option maxHeartbeats 4000000 in
theorem ef_rm_ct2 (m : MethodId) (x0 : Addr) (x1 : Int32)  : entryFrame m #[(.ref x0), (.int x1)] 2 = mkF m 0 #[.val (.ref x0), .val (.int x1)] [] := by first | (simp [entryFrame, mkF, argsToLocals, catR, catN, catI, catJ]; done) | rfl
set_option maxRecDepth 65536 in
set_option maxHeartbeats 40000000 in
theorem rm_ct2 (l : Launch) (Z : State) (a0 : Array Value) (hw : ∀ d ∈ tables_1, d.before a0 Z = true) (ws : List Jvm.Cond) (tx la : Addr) (r : Int32) (v0 v1 v2 v3 v4 : Value) (h0 : Heap) (n0 : Nat) (Z0 : n0 ≤ h0.size) (T0 : HTr Z h0 n0 tx la r v0 v1 v2 v3 v4) (hv : v2.isRef = true) :
    Pays l Z (⟨"com/example/copse/copse/HangingTree", "contains", "(I)Z"⟩ : MethodName) prog_20_method_3_code 2 (some .boolean) ws ({ frames := 0, cells := 0, slots := 0, locals := 0 } : Room) #[(.ref tx), (.int (2 : Int32))] h0 (fun v h L => ∃ z : Int32, v = some (.int z) ∧ Fr n0 L ∧ h = h0 ∧ (z = 1 ∧ ((2 : Int32) = r ∨ ¬ v2 = .null) ∨ z = 0 ∧ ¬ (2 : Int32) = r ∧ v2 = .null)) := by
  refine Pays.of (plainFor_of_name (by first | (simp [plainName, overriddenIn]; done) | decide +kernel)) ?_
  intro p e s m below meth c s₁ hx hby hml hown hnm hret hlk hZ e0 X0
  have N0 := Fr.nil n0
  have K0 : Keep h0 h0 [] := Keep.refl _ _
  refine Goes.go (U' := (s₁.setTop (mkF m 0 #[sR_ tx, sI_ (2 : Int32)] []))) (fun t kt => castTop (ef_rm_ct2 m tx (2 : Int32)) kt) ?_
  obtain ⟨ho, ch, fc, ns, ps, tu, kh, sz, cg, Et, Ft_size, Ft_root, Ft_hangsOn, Ft_children, Ft_firstChild, Ft_nextSibling, Ft_previousSibling, Ft_twinned, Ft_turns, Ft_changes, Ft_forest, Vh, Btu, Bns, Bfc, Bps, Bch, Ov, ⟨o_tx, o_ho, o_ch, o_fc, o_ns, o_ps, o_tu⟩, ⟨n_fc_ns, n_fc_ps, n_fc_ch, n_ns_ps, n_ns_ch, n_ps_ch⟩⟩ := id T0
  refine Goes.go (U' := (s₁.setTop (mkF m 2 #[sR_ tx, sI_ (2 : Int32)] [(.ref tx), (.int (2 : Int32))]))) (fun t kt => ?_) ?_
  · skip
    refine XS.iloadN X0.here hx rfl (hb hby d_rm_ct0_0) rfl ?_
    refine XS.aloadN X0.here hx rfl (hb hby d_rm_ct0_1) rfl rfl ?_
    exact kt
  obtain ⟨T_1, X_1, e_1, st_1⟩ := getF X0 hx hZ hown (host := "") (Or.inl (wdOf hw 80 rfl)) Via.refl e0 Ft_root (g := (mkF m 2 #[sR_ tx, sI_ (2 : Int32)] [(.ref tx), (.int (2 : Int32))])) rfl rfl (hb hby d_rm_ct0_2)
  refine Goes.go (U' := (T_1.setTop (mkF m 5 #[sR_ tx, sI_ (2 : Int32)] [(.int r), (.int (2 : Int32))]))) st_1 ?_
  by_cases cr : (2 : Int32) = r
  · -- (2 : Int32) = r
    refine Goes.go (U' := (T_1.setTop (mkF m 22 #[sR_ tx, sI_ (2 : Int32)] [(.int (1 : Int32))]))) (fun t kt => ?_) ?_
    · skip
      refine XS.icmpYes X_1.here hx rfl (pc0 := 5) (pc' := 17) rfl (hb hby d_rm_ct0_5) rfl (XT.ii_eq_t cr) (by decide) (by decide) ?_
      refine XS.iconst X_1.here hx rfl (hb hby d_rm_ct0_17) ?_
      refine XS.goto X_1.here hx rfl (pc0 := 18) (pc' := 22) rfl (hb hby d_rm_ct0_18) (by decide) (by decide) ?_
      exact kt
    refine Goes.retB X_1 hx hlk hret (hb hby d_rm_ct0_22) (by decide) (by decide) ?_
    try rw [e_1]
    exact ⟨_, rfl, N0, rfl, Or.inl ⟨rfl, Or.inl cr⟩⟩
  · -- not (2 : Int32) = r
    refine Goes.go (U' := (T_1.setTop (mkF m 9 #[sR_ tx, sI_ (2 : Int32)] [(.ref tx)]))) (fun t kt => ?_) ?_
    · skip
      refine XS.icmpNo X_1.here hx rfl (hb hby d_rm_ct0_5) rfl (XT.ii_eq_f cr) ?_
      refine XS.aloadN X_1.here hx rfl (hb hby d_rm_ct0_8) rfl rfl ?_
      exact kt
    obtain ⟨T_2, X_2, e_2, st_2⟩ := getF X_1 hx hZ hown (host := "") (Or.inl (wdOf hw 84 rfl)) Via.refl e_1 Ft_hangsOn (g := (mkF m 9 #[sR_ tx, sI_ (2 : Int32)] [(.ref tx)])) rfl rfl (hb hby d_rm_ct0_9)
    refine Goes.go (U' := (T_2.setTop (mkF m 12 #[sR_ tx, sI_ (2 : Int32)] [(.ref ho)]))) st_2 ?_
    refine Goes.go (U' := (T_2.setTop (mkF m 13 #[sR_ tx, sI_ (2 : Int32)] [(.int (2 : Int32)), (.ref ho)]))) (fun t kt => ?_) ?_
    · skip
      refine XS.iloadN X_2.here hx rfl (hb hby d_rm_ct0_12) rfl ?_
      exact kt
    obtain ⟨cl_3, Ar_3, q_3, S_3, M_3, H_3, G_3⟩ := id Vh
    have hin_3 : ¬ ((2 : Int32) < 0 ∨ cl_3.slots.size ≤ ((2 : Int32)).toNatClampNeg) := inb_of S_3 ⟨by decide, by decide⟩
    have hat_3 : cl_3.slots[((2 : Int32)).toNatClampNeg]? = some v2 := H_3.at hin_3 rfl
    refine Goes.go (U' := (T_2.setTop (mkF m 14 #[sR_ tx, sI_ (2 : Int32)] [v2]))) (fun t kt => ?_) ?_
    · skip
      refine X_2.aaload hx (j := (2 : Int32)) (v := v2) (by rw [e_2]; exact Ar_3.1) (State.isArrayOf_alike hZ.alike Ar_3.2.1) rfl Ar_3.2.2 hin_3 hat_3 (g := (mkF m 13 #[sR_ tx, sI_ (2 : Int32)] [(.int (2 : Int32)), (.ref ho)])) rfl rfl (hb hby d_rm_ct0_13) _ ?_
      exact kt
    by_cases cn : v2 = Value.null
    · -- v2 = Value.null
      refine Goes.go (U' := (T_2.setTop (mkF m 22 #[sR_ tx, sI_ (2 : Int32)] [(.int (0 : Int32))]))) (fun t kt => ?_) ?_
      · skip
        refine XT.nullYes X_2.here hx rfl (pc0 := 14) (pc' := 21) rfl (hb hby d_rm_ct0_14) rfl  cn (by decide) (by decide) ?_
        refine XS.iconst X_2.here hx rfl (hb hby d_rm_ct0_21) ?_
        exact kt
      refine Goes.retB X_2 hx hlk hret (hb hby d_rm_ct0_22) (by decide) (by decide) ?_
      try rw [e_2]
      exact ⟨_, rfl, N0, rfl, Or.inr ⟨rfl, cr, cn⟩⟩
    · -- not v2 = Value.null
      refine Goes.go (U' := (T_2.setTop (mkF m 22 #[sR_ tx, sI_ (2 : Int32)] [(.int (1 : Int32))]))) (fun t kt => ?_) ?_
      · skip
        refine XT.nullNo X_2.here hx rfl (hb hby d_rm_ct0_14) rfl hv  cn ?_
        refine XS.iconst X_2.here hx rfl (hb hby d_rm_ct0_17) ?_
        refine XS.goto X_2.here hx rfl (pc0 := 18) (pc' := 22) rfl (hb hby d_rm_ct0_18) (by decide) (by decide) ?_
        exact kt
      refine Goes.retB X_2 hx hlk hret (hb hby d_rm_ct0_22) (by decide) (by decide) ?_
      try rw [e_2]
      exact ⟨_, rfl, N0, rfl, Or.inl ⟨rfl, Or.inr cn⟩⟩
set_option maxHeartbeats 4000000 in
theorem ef_rm_ct3 (m : MethodId) (x0 : Addr) (x1 : Int32)  : entryFrame m #[(.ref x0), (.int x1)] 2 = mkF m 0 #[.val (.ref x0), .val (.int x1)] [] := by first | (simp [entryFrame, mkF, argsToLocals, catR, catN, catI, catJ]; done) | rfl
set_option maxRecDepth 65536 in
set_option maxHeartbeats 40000000 in
theorem rm_ct3 (l : Launch) (Z : State) (a0 : Array Value) (hw : ∀ d ∈ tables_1, d.before a0 Z = true) (ws : List Jvm.Cond) (tx la : Addr) (r : Int32) (v0 v1 v2 v3 v4 : Value) (h0 : Heap) (n0 : Nat) (Z0 : n0 ≤ h0.size) (T0 : HTr Z h0 n0 tx la r v0 v1 v2 v3 v4) (hv : v3.isRef = true) :
    Pays l Z (⟨"com/example/copse/copse/HangingTree", "contains", "(I)Z"⟩ : MethodName) prog_20_method_3_code 2 (some .boolean) ws ({ frames := 0, cells := 0, slots := 0, locals := 0 } : Room) #[(.ref tx), (.int (3 : Int32))] h0 (fun v h L => ∃ z : Int32, v = some (.int z) ∧ Fr n0 L ∧ h = h0 ∧ (z = 1 ∧ ((3 : Int32) = r ∨ ¬ v3 = .null) ∨ z = 0 ∧ ¬ (3 : Int32) = r ∧ v3 = .null)) := by
  refine Pays.of (plainFor_of_name (by first | (simp [plainName, overriddenIn]; done) | decide +kernel)) ?_
  intro p e s m below meth c s₁ hx hby hml hown hnm hret hlk hZ e0 X0
  have N0 := Fr.nil n0
  have K0 : Keep h0 h0 [] := Keep.refl _ _
  refine Goes.go (U' := (s₁.setTop (mkF m 0 #[sR_ tx, sI_ (3 : Int32)] []))) (fun t kt => castTop (ef_rm_ct3 m tx (3 : Int32)) kt) ?_
  obtain ⟨ho, ch, fc, ns, ps, tu, kh, sz, cg, Et, Ft_size, Ft_root, Ft_hangsOn, Ft_children, Ft_firstChild, Ft_nextSibling, Ft_previousSibling, Ft_twinned, Ft_turns, Ft_changes, Ft_forest, Vh, Btu, Bns, Bfc, Bps, Bch, Ov, ⟨o_tx, o_ho, o_ch, o_fc, o_ns, o_ps, o_tu⟩, ⟨n_fc_ns, n_fc_ps, n_fc_ch, n_ns_ps, n_ns_ch, n_ps_ch⟩⟩ := id T0
  refine Goes.go (U' := (s₁.setTop (mkF m 2 #[sR_ tx, sI_ (3 : Int32)] [(.ref tx), (.int (3 : Int32))]))) (fun t kt => ?_) ?_
  · skip
    refine XS.iloadN X0.here hx rfl (hb hby d_rm_ct0_0) rfl ?_
    refine XS.aloadN X0.here hx rfl (hb hby d_rm_ct0_1) rfl rfl ?_
    exact kt
  obtain ⟨T_1, X_1, e_1, st_1⟩ := getF X0 hx hZ hown (host := "") (Or.inl (wdOf hw 80 rfl)) Via.refl e0 Ft_root (g := (mkF m 2 #[sR_ tx, sI_ (3 : Int32)] [(.ref tx), (.int (3 : Int32))])) rfl rfl (hb hby d_rm_ct0_2)
  refine Goes.go (U' := (T_1.setTop (mkF m 5 #[sR_ tx, sI_ (3 : Int32)] [(.int r), (.int (3 : Int32))]))) st_1 ?_
  by_cases cr : (3 : Int32) = r
  · -- (3 : Int32) = r
    refine Goes.go (U' := (T_1.setTop (mkF m 22 #[sR_ tx, sI_ (3 : Int32)] [(.int (1 : Int32))]))) (fun t kt => ?_) ?_
    · skip
      refine XS.icmpYes X_1.here hx rfl (pc0 := 5) (pc' := 17) rfl (hb hby d_rm_ct0_5) rfl (XT.ii_eq_t cr) (by decide) (by decide) ?_
      refine XS.iconst X_1.here hx rfl (hb hby d_rm_ct0_17) ?_
      refine XS.goto X_1.here hx rfl (pc0 := 18) (pc' := 22) rfl (hb hby d_rm_ct0_18) (by decide) (by decide) ?_
      exact kt
    refine Goes.retB X_1 hx hlk hret (hb hby d_rm_ct0_22) (by decide) (by decide) ?_
    try rw [e_1]
    exact ⟨_, rfl, N0, rfl, Or.inl ⟨rfl, Or.inl cr⟩⟩
  · -- not (3 : Int32) = r
    refine Goes.go (U' := (T_1.setTop (mkF m 9 #[sR_ tx, sI_ (3 : Int32)] [(.ref tx)]))) (fun t kt => ?_) ?_
    · skip
      refine XS.icmpNo X_1.here hx rfl (hb hby d_rm_ct0_5) rfl (XT.ii_eq_f cr) ?_
      refine XS.aloadN X_1.here hx rfl (hb hby d_rm_ct0_8) rfl rfl ?_
      exact kt
    obtain ⟨T_2, X_2, e_2, st_2⟩ := getF X_1 hx hZ hown (host := "") (Or.inl (wdOf hw 84 rfl)) Via.refl e_1 Ft_hangsOn (g := (mkF m 9 #[sR_ tx, sI_ (3 : Int32)] [(.ref tx)])) rfl rfl (hb hby d_rm_ct0_9)
    refine Goes.go (U' := (T_2.setTop (mkF m 12 #[sR_ tx, sI_ (3 : Int32)] [(.ref ho)]))) st_2 ?_
    refine Goes.go (U' := (T_2.setTop (mkF m 13 #[sR_ tx, sI_ (3 : Int32)] [(.int (3 : Int32)), (.ref ho)]))) (fun t kt => ?_) ?_
    · skip
      refine XS.iloadN X_2.here hx rfl (hb hby d_rm_ct0_12) rfl ?_
      exact kt
    obtain ⟨cl_3, Ar_3, q_3, S_3, M_3, H_3, G_3⟩ := id Vh
    have hin_3 : ¬ ((3 : Int32) < 0 ∨ cl_3.slots.size ≤ ((3 : Int32)).toNatClampNeg) := inb_of S_3 ⟨by decide, by decide⟩
    have hat_3 : cl_3.slots[((3 : Int32)).toNatClampNeg]? = some v3 := H_3.at hin_3 rfl
    refine Goes.go (U' := (T_2.setTop (mkF m 14 #[sR_ tx, sI_ (3 : Int32)] [v3]))) (fun t kt => ?_) ?_
    · skip
      refine X_2.aaload hx (j := (3 : Int32)) (v := v3) (by rw [e_2]; exact Ar_3.1) (State.isArrayOf_alike hZ.alike Ar_3.2.1) rfl Ar_3.2.2 hin_3 hat_3 (g := (mkF m 13 #[sR_ tx, sI_ (3 : Int32)] [(.int (3 : Int32)), (.ref ho)])) rfl rfl (hb hby d_rm_ct0_13) _ ?_
      exact kt
    by_cases cn : v3 = Value.null
    · -- v3 = Value.null
      refine Goes.go (U' := (T_2.setTop (mkF m 22 #[sR_ tx, sI_ (3 : Int32)] [(.int (0 : Int32))]))) (fun t kt => ?_) ?_
      · skip
        refine XT.nullYes X_2.here hx rfl (pc0 := 14) (pc' := 21) rfl (hb hby d_rm_ct0_14) rfl  cn (by decide) (by decide) ?_
        refine XS.iconst X_2.here hx rfl (hb hby d_rm_ct0_21) ?_
        exact kt
      refine Goes.retB X_2 hx hlk hret (hb hby d_rm_ct0_22) (by decide) (by decide) ?_
      try rw [e_2]
      exact ⟨_, rfl, N0, rfl, Or.inr ⟨rfl, cr, cn⟩⟩
    · -- not v3 = Value.null
      refine Goes.go (U' := (T_2.setTop (mkF m 22 #[sR_ tx, sI_ (3 : Int32)] [(.int (1 : Int32))]))) (fun t kt => ?_) ?_
      · skip
        refine XT.nullNo X_2.here hx rfl (hb hby d_rm_ct0_14) rfl hv  cn ?_
        refine XS.iconst X_2.here hx rfl (hb hby d_rm_ct0_17) ?_
        refine XS.goto X_2.here hx rfl (pc0 := 18) (pc' := 22) rfl (hb hby d_rm_ct0_18) (by decide) (by decide) ?_
        exact kt
      refine Goes.retB X_2 hx hlk hret (hb hby d_rm_ct0_22) (by decide) (by decide) ?_
      try rw [e_2]
      exact ⟨_, rfl, N0, rfl, Or.inl ⟨rfl, Or.inr cn⟩⟩
set_option maxHeartbeats 4000000 in
theorem ef_rm_ct4 (m : MethodId) (x0 : Addr) (x1 : Int32)  : entryFrame m #[(.ref x0), (.int x1)] 2 = mkF m 0 #[.val (.ref x0), .val (.int x1)] [] := by first | (simp [entryFrame, mkF, argsToLocals, catR, catN, catI, catJ]; done) | rfl
set_option maxRecDepth 65536 in
set_option maxHeartbeats 40000000 in
theorem rm_ct4 (l : Launch) (Z : State) (a0 : Array Value) (hw : ∀ d ∈ tables_1, d.before a0 Z = true) (ws : List Jvm.Cond) (tx la : Addr) (r : Int32) (v0 v1 v2 v3 v4 : Value) (h0 : Heap) (n0 : Nat) (Z0 : n0 ≤ h0.size) (T0 : HTr Z h0 n0 tx la r v0 v1 v2 v3 v4) (hv : v4.isRef = true) :
    Pays l Z (⟨"com/example/copse/copse/HangingTree", "contains", "(I)Z"⟩ : MethodName) prog_20_method_3_code 2 (some .boolean) ws ({ frames := 0, cells := 0, slots := 0, locals := 0 } : Room) #[(.ref tx), (.int (4 : Int32))] h0 (fun v h L => ∃ z : Int32, v = some (.int z) ∧ Fr n0 L ∧ h = h0 ∧ (z = 1 ∧ ((4 : Int32) = r ∨ ¬ v4 = .null) ∨ z = 0 ∧ ¬ (4 : Int32) = r ∧ v4 = .null)) := by
  refine Pays.of (plainFor_of_name (by first | (simp [plainName, overriddenIn]; done) | decide +kernel)) ?_
  intro p e s m below meth c s₁ hx hby hml hown hnm hret hlk hZ e0 X0
  have N0 := Fr.nil n0
  have K0 : Keep h0 h0 [] := Keep.refl _ _
  refine Goes.go (U' := (s₁.setTop (mkF m 0 #[sR_ tx, sI_ (4 : Int32)] []))) (fun t kt => castTop (ef_rm_ct4 m tx (4 : Int32)) kt) ?_
  obtain ⟨ho, ch, fc, ns, ps, tu, kh, sz, cg, Et, Ft_size, Ft_root, Ft_hangsOn, Ft_children, Ft_firstChild, Ft_nextSibling, Ft_previousSibling, Ft_twinned, Ft_turns, Ft_changes, Ft_forest, Vh, Btu, Bns, Bfc, Bps, Bch, Ov, ⟨o_tx, o_ho, o_ch, o_fc, o_ns, o_ps, o_tu⟩, ⟨n_fc_ns, n_fc_ps, n_fc_ch, n_ns_ps, n_ns_ch, n_ps_ch⟩⟩ := id T0
  refine Goes.go (U' := (s₁.setTop (mkF m 2 #[sR_ tx, sI_ (4 : Int32)] [(.ref tx), (.int (4 : Int32))]))) (fun t kt => ?_) ?_
  · skip
    refine XS.iloadN X0.here hx rfl (hb hby d_rm_ct0_0) rfl ?_
    refine XS.aloadN X0.here hx rfl (hb hby d_rm_ct0_1) rfl rfl ?_
    exact kt
  obtain ⟨T_1, X_1, e_1, st_1⟩ := getF X0 hx hZ hown (host := "") (Or.inl (wdOf hw 80 rfl)) Via.refl e0 Ft_root (g := (mkF m 2 #[sR_ tx, sI_ (4 : Int32)] [(.ref tx), (.int (4 : Int32))])) rfl rfl (hb hby d_rm_ct0_2)
  refine Goes.go (U' := (T_1.setTop (mkF m 5 #[sR_ tx, sI_ (4 : Int32)] [(.int r), (.int (4 : Int32))]))) st_1 ?_
  by_cases cr : (4 : Int32) = r
  · -- (4 : Int32) = r
    refine Goes.go (U' := (T_1.setTop (mkF m 22 #[sR_ tx, sI_ (4 : Int32)] [(.int (1 : Int32))]))) (fun t kt => ?_) ?_
    · skip
      refine XS.icmpYes X_1.here hx rfl (pc0 := 5) (pc' := 17) rfl (hb hby d_rm_ct0_5) rfl (XT.ii_eq_t cr) (by decide) (by decide) ?_
      refine XS.iconst X_1.here hx rfl (hb hby d_rm_ct0_17) ?_
      refine XS.goto X_1.here hx rfl (pc0 := 18) (pc' := 22) rfl (hb hby d_rm_ct0_18) (by decide) (by decide) ?_
      exact kt
    refine Goes.retB X_1 hx hlk hret (hb hby d_rm_ct0_22) (by decide) (by decide) ?_
    try rw [e_1]
    exact ⟨_, rfl, N0, rfl, Or.inl ⟨rfl, Or.inl cr⟩⟩
  · -- not (4 : Int32) = r
    refine Goes.go (U' := (T_1.setTop (mkF m 9 #[sR_ tx, sI_ (4 : Int32)] [(.ref tx)]))) (fun t kt => ?_) ?_
    · skip
      refine XS.icmpNo X_1.here hx rfl (hb hby d_rm_ct0_5) rfl (XT.ii_eq_f cr) ?_
      refine XS.aloadN X_1.here hx rfl (hb hby d_rm_ct0_8) rfl rfl ?_
      exact kt
    obtain ⟨T_2, X_2, e_2, st_2⟩ := getF X_1 hx hZ hown (host := "") (Or.inl (wdOf hw 84 rfl)) Via.refl e_1 Ft_hangsOn (g := (mkF m 9 #[sR_ tx, sI_ (4 : Int32)] [(.ref tx)])) rfl rfl (hb hby d_rm_ct0_9)
    refine Goes.go (U' := (T_2.setTop (mkF m 12 #[sR_ tx, sI_ (4 : Int32)] [(.ref ho)]))) st_2 ?_
    refine Goes.go (U' := (T_2.setTop (mkF m 13 #[sR_ tx, sI_ (4 : Int32)] [(.int (4 : Int32)), (.ref ho)]))) (fun t kt => ?_) ?_
    · skip
      refine XS.iloadN X_2.here hx rfl (hb hby d_rm_ct0_12) rfl ?_
      exact kt
    obtain ⟨cl_3, Ar_3, q_3, S_3, M_3, H_3, G_3⟩ := id Vh
    have hin_3 : ¬ ((4 : Int32) < 0 ∨ cl_3.slots.size ≤ ((4 : Int32)).toNatClampNeg) := inb_of S_3 ⟨by decide, by decide⟩
    have hat_3 : cl_3.slots[((4 : Int32)).toNatClampNeg]? = some v4 := H_3.at hin_3 rfl
    refine Goes.go (U' := (T_2.setTop (mkF m 14 #[sR_ tx, sI_ (4 : Int32)] [v4]))) (fun t kt => ?_) ?_
    · skip
      refine X_2.aaload hx (j := (4 : Int32)) (v := v4) (by rw [e_2]; exact Ar_3.1) (State.isArrayOf_alike hZ.alike Ar_3.2.1) rfl Ar_3.2.2 hin_3 hat_3 (g := (mkF m 13 #[sR_ tx, sI_ (4 : Int32)] [(.int (4 : Int32)), (.ref ho)])) rfl rfl (hb hby d_rm_ct0_13) _ ?_
      exact kt
    by_cases cn : v4 = Value.null
    · -- v4 = Value.null
      refine Goes.go (U' := (T_2.setTop (mkF m 22 #[sR_ tx, sI_ (4 : Int32)] [(.int (0 : Int32))]))) (fun t kt => ?_) ?_
      · skip
        refine XT.nullYes X_2.here hx rfl (pc0 := 14) (pc' := 21) rfl (hb hby d_rm_ct0_14) rfl  cn (by decide) (by decide) ?_
        refine XS.iconst X_2.here hx rfl (hb hby d_rm_ct0_21) ?_
        exact kt
      refine Goes.retB X_2 hx hlk hret (hb hby d_rm_ct0_22) (by decide) (by decide) ?_
      try rw [e_2]
      exact ⟨_, rfl, N0, rfl, Or.inr ⟨rfl, cr, cn⟩⟩
    · -- not v4 = Value.null
      refine Goes.go (U' := (T_2.setTop (mkF m 22 #[sR_ tx, sI_ (4 : Int32)] [(.int (1 : Int32))]))) (fun t kt => ?_) ?_
      · skip
        refine XT.nullNo X_2.here hx rfl (hb hby d_rm_ct0_14) rfl hv  cn ?_
        refine XS.iconst X_2.here hx rfl (hb hby d_rm_ct0_17) ?_
        refine XS.goto X_2.here hx rfl (pc0 := 18) (pc' := 22) rfl (hb hby d_rm_ct0_18) (by decide) (by decide) ?_
        exact kt
      refine Goes.retB X_2 hx hlk hret (hb hby d_rm_ct0_22) (by decide) (by decide) ?_
      try rw [e_2]
      exact ⟨_, rfl, N0, rfl, Or.inl ⟨rfl, Or.inr cn⟩⟩
theorem d_rm_ti2_0 : decode prog_20_method_2_code 0 = .ok (.aload_n 0, 1) := by decide +kernel
theorem d_rm_ti2_1 : decode prog_20_method_2_code 1 = .ok (.invokespecial 11, 3) := by decide +kernel
theorem d_rm_ti2_4 : decode prog_20_method_2_code 4 = .ok (.aload_n 0, 1) := by decide +kernel
theorem d_rm_ti2_5 : decode prog_20_method_2_code 5 = .ok (.iconst 1, 1) := by decide +kernel
theorem d_rm_ti2_6 : decode prog_20_method_2_code 6 = .ok (.putfield 16, 3) := by decide +kernel
theorem d_rm_ti2_9 : decode prog_20_method_2_code 9 = .ok (.aload_n 0, 1) := by decide +kernel
theorem d_rm_ti2_10 : decode prog_20_method_2_code 10 = .ok (.iload_n 2, 1) := by decide +kernel
theorem d_rm_ti2_11 : decode prog_20_method_2_code 11 = .ok (.putfield 20, 3) := by decide +kernel
theorem d_rm_ti2_14 : decode prog_20_method_2_code 14 = .ok (.aload_n 0, 1) := by decide +kernel
theorem d_rm_ti2_15 : decode prog_20_method_2_code 15 = .ok (.iload_n 1, 1) := by decide +kernel
theorem d_rm_ti2_16 : decode prog_20_method_2_code 16 = .ok (.iconst 1, 1) := by decide +kernel
theorem d_rm_ti2_17 : decode prog_20_method_2_code 17 = .ok (.iadd, 1) := by decide +kernel
theorem d_rm_ti2_18 : decode prog_20_method_2_code 18 = .ok (.anewarray 23, 3) := by decide +kernel
theorem d_rm_ti2_21 : decode prog_20_method_2_code 21 = .ok (.putfield 25, 3) := by decide +kernel
theorem d_rm_ti2_24 : decode prog_20_method_2_code 24 = .ok (.aload_n 0, 1) := by decide +kernel
theorem d_rm_ti2_25 : decode prog_20_method_2_code 25 = .ok (.iload_n 1, 1) := by decide +kernel
theorem d_rm_ti2_26 : decode prog_20_method_2_code 26 = .ok (.iconst 1, 1) := by decide +kernel
theorem d_rm_ti2_27 : decode prog_20_method_2_code 27 = .ok (.iadd, 1) := by decide +kernel
theorem d_rm_ti2_28 : decode prog_20_method_2_code 28 = .ok (.newarray .int, 2) := by decide +kernel
theorem d_rm_ti2_30 : decode prog_20_method_2_code 30 = .ok (.putfield 29, 3) := by decide +kernel
theorem d_rm_ti2_33 : decode prog_20_method_2_code 33 = .ok (.aload_n 0, 1) := by decide +kernel
theorem d_rm_ti2_34 : decode prog_20_method_2_code 34 = .ok (.iload_n 1, 1) := by decide +kernel
theorem d_rm_ti2_35 : decode prog_20_method_2_code 35 = .ok (.iconst 1, 1) := by decide +kernel
theorem d_rm_ti2_36 : decode prog_20_method_2_code 36 = .ok (.iadd, 1) := by decide +kernel
theorem d_rm_ti2_37 : decode prog_20_method_2_code 37 = .ok (.newarray .boolean, 2) := by decide +kernel
theorem d_rm_ti2_39 : decode prog_20_method_2_code 39 = .ok (.putfield 33, 3) := by decide +kernel
theorem d_rm_ti2_42 : decode prog_20_method_2_code 42 = .ok (.aload_n 0, 1) := by decide +kernel
theorem d_rm_ti2_43 : decode prog_20_method_2_code 43 = .ok (.iload_n 1, 1) := by decide +kernel
theorem d_rm_ti2_44 : decode prog_20_method_2_code 44 = .ok (.iconst 1, 1) := by decide +kernel
theorem d_rm_ti2_45 : decode prog_20_method_2_code 45 = .ok (.iadd, 1) := by decide +kernel
theorem d_rm_ti2_46 : decode prog_20_method_2_code 46 = .ok (.newarray .int, 2) := by decide +kernel
theorem d_rm_ti2_48 : decode prog_20_method_2_code 48 = .ok (.putfield 37, 3) := by decide +kernel
theorem d_rm_ti2_51 : decode prog_20_method_2_code 51 = .ok (.aload_n 0, 1) := by decide +kernel
theorem d_rm_ti2_52 : decode prog_20_method_2_code 52 = .ok (.iload_n 1, 1) := by decide +kernel
theorem d_rm_ti2_53 : decode prog_20_method_2_code 53 = .ok (.iconst 1, 1) := by decide +kernel
theorem d_rm_ti2_54 : decode prog_20_method_2_code 54 = .ok (.iadd, 1) := by decide +kernel
theorem d_rm_ti2_55 : decode prog_20_method_2_code 55 = .ok (.newarray .int, 2) := by decide +kernel
theorem d_rm_ti2_57 : decode prog_20_method_2_code 57 = .ok (.putfield 40, 3) := by decide +kernel
theorem d_rm_ti2_60 : decode prog_20_method_2_code 60 = .ok (.aload_n 0, 1) := by decide +kernel
theorem d_rm_ti2_61 : decode prog_20_method_2_code 61 = .ok (.iload_n 1, 1) := by decide +kernel
theorem d_rm_ti2_62 : decode prog_20_method_2_code 62 = .ok (.iconst 1, 1) := by decide +kernel
theorem d_rm_ti2_63 : decode prog_20_method_2_code 63 = .ok (.iadd, 1) := by decide +kernel
theorem d_rm_ti2_64 : decode prog_20_method_2_code 64 = .ok (.newarray .int, 2) := by decide +kernel
theorem d_rm_ti2_66 : decode prog_20_method_2_code 66 = .ok (.putfield 43, 3) := by decide +kernel
theorem d_rm_ti2_69 : decode prog_20_method_2_code 69 = .ok (.aload_n 0, 1) := by decide +kernel
theorem d_rm_ti2_70 : decode prog_20_method_2_code 70 = .ok (.aload 4, 2) := by decide +kernel
theorem d_rm_ti2_72 : decode prog_20_method_2_code 72 = .ok (.putfield 46, 3) := by decide +kernel
theorem d_rm_ti2_75 : decode prog_20_method_2_code 75 = .ok (.aload_n 0, 1) := by decide +kernel
theorem d_rm_ti2_76 : decode prog_20_method_2_code 76 = .ok (.iload_n 1, 1) := by decide +kernel
theorem d_rm_ti2_77 : decode prog_20_method_2_code 77 = .ok (.iconst 1, 1) := by decide +kernel
theorem d_rm_ti2_78 : decode prog_20_method_2_code 78 = .ok (.iadd, 1) := by decide +kernel
theorem d_rm_ti2_79 : decode prog_20_method_2_code 79 = .ok (.newarray .boolean, 2) := by decide +kernel
theorem d_rm_ti2_81 : decode prog_20_method_2_code 81 = .ok (.putfield 50, 3) := by decide +kernel
theorem d_rm_ti2_84 : decode prog_20_method_2_code 84 = .ok (.aload_n 0, 1) := by decide +kernel
theorem d_rm_ti2_85 : decode prog_20_method_2_code 85 = .ok (.iload_n 1, 1) := by decide +kernel
theorem d_rm_ti2_86 : decode prog_20_method_2_code 86 = .ok (.iconst 1, 1) := by decide +kernel
theorem d_rm_ti2_87 : decode prog_20_method_2_code 87 = .ok (.iadd, 1) := by decide +kernel
theorem d_rm_ti2_88 : decode prog_20_method_2_code 88 = .ok (.newarray .boolean, 2) := by decide +kernel
theorem d_rm_ti2_90 : decode prog_20_method_2_code 90 = .ok (.putfield 53, 3) := by decide +kernel
theorem d_rm_ti2_93 : decode prog_20_method_2_code 93 = .ok (.aload_n 0, 1) := by decide +kernel
theorem d_rm_ti2_94 : decode prog_20_method_2_code 94 = .ok (.iload_n 1, 1) := by decide +kernel
theorem d_rm_ti2_95 : decode prog_20_method_2_code 95 = .ok (.iconst 1, 1) := by decide +kernel
theorem d_rm_ti2_96 : decode prog_20_method_2_code 96 = .ok (.iadd, 1) := by decide +kernel
theorem d_rm_ti2_97 : decode prog_20_method_2_code 97 = .ok (.newarray .int, 2) := by decide +kernel
theorem d_rm_ti2_99 : decode prog_20_method_2_code 99 = .ok (.putfield 56, 3) := by decide +kernel
theorem d_rm_ti2_102 : decode prog_20_method_2_code 102 = .ok (.aload_n 0, 1) := by decide +kernel
theorem d_rm_ti2_103 : decode prog_20_method_2_code 103 = .ok (.iload_n 1, 1) := by decide +kernel
theorem d_rm_ti2_104 : decode prog_20_method_2_code 104 = .ok (.iconst 1, 1) := by decide +kernel
theorem d_rm_ti2_105 : decode prog_20_method_2_code 105 = .ok (.iadd, 1) := by decide +kernel
theorem d_rm_ti2_106 : decode prog_20_method_2_code 106 = .ok (.newarray .boolean, 2) := by decide +kernel
theorem d_rm_ti2_108 : decode prog_20_method_2_code 108 = .ok (.putfield 59, 3) := by decide +kernel
theorem d_rm_ti2_111 : decode prog_20_method_2_code 111 = .ok (.aload_n 0, 1) := by decide +kernel
theorem d_rm_ti2_112 : decode prog_20_method_2_code 112 = .ok (.iload_n 1, 1) := by decide +kernel
theorem d_rm_ti2_113 : decode prog_20_method_2_code 113 = .ok (.iconst 1, 1) := by decide +kernel
theorem d_rm_ti2_114 : decode prog_20_method_2_code 114 = .ok (.iadd, 1) := by decide +kernel
theorem d_rm_ti2_115 : decode prog_20_method_2_code 115 = .ok (.newarray .int, 2) := by decide +kernel
theorem d_rm_ti2_117 : decode prog_20_method_2_code 117 = .ok (.putfield 62, 3) := by decide +kernel
theorem d_rm_ti2_120 : decode prog_20_method_2_code 120 = .ok (.aload_n 0, 1) := by decide +kernel
theorem d_rm_ti2_121 : decode prog_20_method_2_code 121 = .ok (.iload_n 1, 1) := by decide +kernel
theorem d_rm_ti2_122 : decode prog_20_method_2_code 122 = .ok (.iconst 1, 1) := by decide +kernel
theorem d_rm_ti2_123 : decode prog_20_method_2_code 123 = .ok (.iadd, 1) := by decide +kernel
theorem d_rm_ti2_124 : decode prog_20_method_2_code 124 = .ok (.newarray .boolean, 2) := by decide +kernel
theorem d_rm_ti2_126 : decode prog_20_method_2_code 126 = .ok (.putfield 65, 3) := by decide +kernel
theorem d_rm_ti2_129 : decode prog_20_method_2_code 129 = .ok (.aload_n 0, 1) := by decide +kernel
theorem d_rm_ti2_130 : decode prog_20_method_2_code 130 = .ok (.iload_n 1, 1) := by decide +kernel
theorem d_rm_ti2_131 : decode prog_20_method_2_code 131 = .ok (.iconst 1, 1) := by decide +kernel
theorem d_rm_ti2_132 : decode prog_20_method_2_code 132 = .ok (.iadd, 1) := by decide +kernel
theorem d_rm_ti2_133 : decode prog_20_method_2_code 133 = .ok (.newarray .long, 2) := by decide +kernel
theorem d_rm_ti2_135 : decode prog_20_method_2_code 135 = .ok (.putfield 68, 3) := by decide +kernel
theorem d_rm_ti2_138 : decode prog_20_method_2_code 138 = .ok (.aload_n 0, 1) := by decide +kernel
theorem d_rm_ti2_139 : decode prog_20_method_2_code 139 = .ok (.getfield 33, 3) := by decide +kernel
theorem d_rm_ti2_142 : decode prog_20_method_2_code 142 = .ok (.iload_n 2, 1) := by decide +kernel
theorem d_rm_ti2_143 : decode prog_20_method_2_code 143 = .ok (.iconst 1, 1) := by decide +kernel
theorem d_rm_ti2_144 : decode prog_20_method_2_code 144 = .ok (.bastore, 1) := by decide +kernel
theorem d_rm_ti2_145 : decode prog_20_method_2_code 145 = .ok (.aload_n 3, 1) := by decide +kernel
theorem d_rm_ti2_146 : decode prog_20_method_2_code 146 = .ok (.invokeinterface 72 1, 5) := by decide +kernel
theorem d_rm_ti2_151 : decode prog_20_method_2_code 151 = .ok (.astore 5, 2) := by decide +kernel
theorem d_rm_ti2_153 : decode prog_20_method_2_code 153 = .ok (.aload 5, 2) := by decide +kernel
theorem d_rm_ti2_155 : decode prog_20_method_2_code 155 = .ok (.invokeinterface 78 1, 5) := by decide +kernel
theorem d_rm_ti2_160 : decode prog_20_method_2_code 160 = .ok (.ifCond .eq 29, 3) := by decide +kernel
theorem d_rm_ti2_163 : decode prog_20_method_2_code 163 = .ok (.aload 5, 2) := by decide +kernel
theorem d_rm_ti2_165 : decode prog_20_method_2_code 165 = .ok (.invokeinterface 84 1, 5) := by decide +kernel
theorem d_rm_ti2_170 : decode prog_20_method_2_code 170 = .ok (.checkcast 88, 3) := by decide +kernel
theorem d_rm_ti2_173 : decode prog_20_method_2_code 173 = .ok (.invokevirtual 90, 3) := by decide +kernel
theorem d_rm_ti2_176 : decode prog_20_method_2_code 176 = .ok (.istore 6, 2) := by decide +kernel
theorem d_rm_ti2_178 : decode prog_20_method_2_code 178 = .ok (.aload_n 0, 1) := by decide +kernel
theorem d_rm_ti2_179 : decode prog_20_method_2_code 179 = .ok (.getfield 33, 3) := by decide +kernel
theorem d_rm_ti2_182 : decode prog_20_method_2_code 182 = .ok (.iload 6, 2) := by decide +kernel
theorem d_rm_ti2_184 : decode prog_20_method_2_code 184 = .ok (.iconst 1, 1) := by decide +kernel
theorem d_rm_ti2_185 : decode prog_20_method_2_code 185 = .ok (.bastore, 1) := by decide +kernel
theorem d_rm_ti2_186 : decode prog_20_method_2_code 186 = .ok (.goto (-33), 3) := by decide +kernel
theorem d_rm_ti2_189 : decode prog_20_method_2_code 189 = .ok (.return_, 1) := by decide +kernel
set_option maxHeartbeats 4000000 in
theorem ef_rm_ti2 (m : MethodId) (x0 : Addr) (x1 : Int32) (x2 : Int32) (x3 : Addr) (x4 : Addr)  : entryFrame m #[(.ref x0), (.int x1), (.int x2), (.ref x3), (.ref x4)] 7 = mkF m 0 #[.val (.ref x0), .val (.int x1), .val (.int x2), .val (.ref x3), .val (.ref x4), .unset, .unset] [] := by first | (simp [entryFrame, mkF, argsToLocals, catR, catN, catI, catJ]; done) | rfl
set_option maxRecDepth 65536 in
set_option maxHeartbeats 40000000 in
theorem rm_ti2 (l : Launch) (Z : State) (a0 : Array Value) (hw : ∀ d ∈ tables_1, d.before a0 Z = true) (ws : List Jvm.Cond) (tx ax ea ob la : Addr) (ke : ClassId) (r xv : Int32) (h0 : Heap) (n0 : Nat) (Z0 : n0 ≤ h0.size) (O : Old Z n0 h0) (o0 : n0 ≤ tx) (hr : ¬ r < 0 ∧ r < 5) (hxv : ¬ xv < 0 ∧ xv < 5) (Et : Exa Z h0 tx "com/example/copse/copse/HangingTree") (Ft_size : Fld Z h0 tx "com/example/copse/copse/HangingTree" "size" "I" (.int (0 : Int32))) (Ft_root : Fld Z h0 tx "com/example/copse/copse/HangingTree" "root" "I" (.int (0 : Int32))) (Ft_hangsOn : Fld Z h0 tx "com/example/copse/copse/HangingTree" "hangsOn" "[Lcom/example/copse/copse/Arc;" .null) (Ft_children : Fld Z h0 tx "com/example/copse/copse/HangingTree" "children" "[I" .null) (Ft_kept : Fld Z h0 tx "com/example/copse/copse/HangingTree" "kept" "[Z" .null) (Ft_firstChild : Fld Z h0 tx "com/example/copse/copse/HangingTree" "firstChild" "[I" .null) (Ft_nextSibling : Fld Z h0 tx "com/example/copse/copse/HangingTree" "nextSibling" "[I" .null) (Ft_previousSibling : Fld Z h0 tx "com/example/copse/copse/HangingTree" "previousSibling" "[I" .null) (Ft_twinned : Fld Z h0 tx "com/example/copse/copse/HangingTree" "twinned" "Ljava/util/function/Predicate;" .null) (Ft_turns : Fld Z h0 tx "com/example/copse/copse/HangingTree" "turns" "[Z" .null) (Ft_inside : Fld Z h0 tx "com/example/copse/copse/HangingTree" "inside" "[Z" .null) (Ft_joinable : Fld Z h0 tx "com/example/copse/copse/HangingTree" "joinable" "[I" .null) (Ft_isJoinable : Fld Z h0 tx "com/example/copse/copse/HangingTree" "isJoinable" "[Z" .null) (Ft_rest : Fld Z h0 tx "com/example/copse/copse/HangingTree" "rest" "[I" .null) (Ft_isRest : Fld Z h0 tx "com/example/copse/copse/HangingTree" "isRest" "[Z" .null) (Ft_noCheaperPathAt : Fld Z h0 tx "com/example/copse/copse/HangingTree" "noCheaperPathAt" "[J" .null) (Ft_changes : Fld Z h0 tx "com/example/copse/copse/HangingTree" "changes" "J" (.long (0 : Int64))) (Ft_forest : Fld Z h0 tx "com/example/copse/copse/HangingTree" "forest" "Lcom/example/copse/copse/LinkCutForest;" .null) (El : Exa Z h0 ax "java/util/ArrayList") (Fl_modCount : Fld Z h0 ax "java/util/AbstractList" "modCount" "I" (.int (1 : Int32))) (Fl_elementData : Fld Z h0 ax "java/util/ArrayList" "elementData" "[Ljava/lang/Object;" (.ref ea)) (Fl_size : Fld Z h0 ax "java/util/ArrayList" "size" "I" (.int (1 : Int32))) (Va : Arv Z h0 ea ke (.object "java/lang/Object") (10 : Int32) [(.ref ob), .null, .null, .null, .null, .null, .null, .null, .null, .null] .null) (Eo : Exa Z h0 ob "java/lang/Integer") (Fo : Fld Z h0 ob "java/lang/Integer" "value" "I" (.int xv)) :
    Pays l Z (⟨"com/example/copse/copse/HangingTree", "<init>", "(IILjava/util/Collection;Ljava/util/function/Predicate;)V"⟩ : MethodName) prog_20_method_2_code 7 none ws ({ frames := 3, cells := 14, slots := 69, locals := 38 } : Room) #[(.ref tx), (.int (4 : Int32)), (.int r), (.ref ax), (.ref la)] h0 (fun v h L => v = none ∧ Fr n0 L ∧ Old Z n0 h ∧ HTr Z h n0 tx la r Value.null Value.null Value.null Value.null Value.null) := by
  refine Pays.of (plainFor_of_name (by first | (simp [plainName, overriddenIn]; done) | decide +kernel)) ?_
  intro p e s m below meth c s₁ hx hby hml hown hnm hret hlk hZ e0 X0
  have N0 := Fr.nil n0
  have K0 : Keep h0 h0 [] := Keep.refl _ _
  refine Goes.go (U' := (s₁.setTop (mkF m 0 #[sR_ tx, sI_ (4 : Int32), sI_ r, sR_ ax, sR_ la, sU_, sU_] []))) (fun t kt => castTop (ef_rm_ti2 m tx (4 : Int32) r ax la) kt) ?_
  refine Goes.go (U' := (s₁.setTop (mkF m 1 #[sR_ tx, sI_ (4 : Int32), sI_ r, sR_ ax, sR_ la, sU_, sU_] [(.ref tx)]))) (fun t kt => ?_) ?_
  · skip
    refine XS.aloadN X0.here hx rfl (hb hby d_rm_ti2_0) rfl rfl ?_
    exact kt
  obtain ⟨T_1, X_1, e_1, st_1⟩ := initO X0 hx hZ hown (wdOf hw 77 rfl) (wdOf hw 20 rfl) (wdOf hw 21 rfl) e0 (g := (mkF m 1 #[sR_ tx, sI_ (4 : Int32), sI_ r, sR_ ax, sR_ la, sU_, sU_] [(.ref tx)])) rfl (by rw [hml]; rfl) rfl (hb hby d_rm_ti2_1) (by decide) (W := 0) (Nat.le_refl _) (by decide)
  refine Goes.go (U' := (T_1.setTop (mkF m 4 #[sR_ tx, sI_ (4 : Int32), sI_ r, sR_ ax, sR_ la, sU_, sU_] []))) st_1 ?_
  refine Goes.go (U' := (T_1.setTop (mkF m 6 #[sR_ tx, sI_ (4 : Int32), sI_ r, sR_ ax, sR_ la, sU_, sU_] [(.int (1 : Int32)), (.ref tx)]))) (fun t kt => ?_) ?_
  · skip
    refine XS.aloadN X_1.here hx rfl (hb hby d_rm_ti2_4) rfl rfl ?_
    refine XS.iconst X_1.here hx rfl (hb hby d_rm_ti2_5) ?_
    exact kt
  obtain ⟨T_2, h_2, X_2, e_2, W_2, st_2⟩ := putF X_1 hx hZ hown (host := "") (Or.inl (wdOf hw 78 rfl)) Via.refl e_1 Ft_size Et (Or.inl (wdOf hw 79 rfl)) (wdOf hw 66 rfl) (ty := .int) (by decide) rfl rfl (g := (mkF m 6 #[sR_ tx, sI_ (4 : Int32), sI_ r, sR_ ax, sR_ la, sU_, sU_] [(.int (1 : Int32)), (.ref tx)])) rfl rfl (hb hby d_rm_ti2_6)
  have N_2 := Fr.snoc X_2 N0 o0
  have f_3 := O.wr W_2 o0
  have f_4 := Et.wr W_2
  have f_5 := Ft_size.same W_2
  have f_6 := Ft_root.other W_2 (Or.inr (slot_ne (Or.inr (wdOf hw 81 rfl)) (Or.inl (wdOf hw 79 rfl)) (by decide) (t := .int) (t' := .int) (by decide) (by decide)))
  have f_7 := Ft_hangsOn.other W_2 (Or.inr (slot_ne (Or.inr (wdOf hw 85 rfl)) (Or.inl (wdOf hw 79 rfl)) (by decide) (t := (.array (.object "com/example/copse/copse/Arc"))) (t' := .int) (by decide) (by decide)))
  have f_8 := Ft_children.other W_2 (Or.inr (slot_ne (Or.inr (wdOf hw 88 rfl)) (Or.inl (wdOf hw 79 rfl)) (by decide) (t := (.array .int)) (t' := .int) (by decide) (by decide)))
  have f_9 := Ft_kept.other W_2 (Or.inr (slot_ne (Or.inr (wdOf hw 91 rfl)) (Or.inl (wdOf hw 79 rfl)) (by decide) (t := (.array .boolean)) (t' := .int) (by decide) (by decide)))
  have f_10 := Ft_firstChild.other W_2 (Or.inr (slot_ne (Or.inr (wdOf hw 93 rfl)) (Or.inl (wdOf hw 79 rfl)) (by decide) (t := (.array .int)) (t' := .int) (by decide) (by decide)))
  have f_11 := Ft_nextSibling.other W_2 (Or.inr (slot_ne (Or.inr (wdOf hw 95 rfl)) (Or.inl (wdOf hw 79 rfl)) (by decide) (t := (.array .int)) (t' := .int) (by decide) (by decide)))
  have f_12 := Ft_previousSibling.other W_2 (Or.inr (slot_ne (Or.inr (wdOf hw 97 rfl)) (Or.inl (wdOf hw 79 rfl)) (by decide) (t := (.array .int)) (t' := .int) (by decide) (by decide)))
  have f_13 := Ft_twinned.other W_2 (Or.inr (slot_ne (Or.inr (wdOf hw 99 rfl)) (Or.inl (wdOf hw 79 rfl)) (by decide) (t := (.object "java/util/function/Predicate")) (t' := .int) (by decide) (by decide)))
  have f_14 := Ft_turns.other W_2 (Or.inr (slot_ne (Or.inr (wdOf hw 101 rfl)) (Or.inl (wdOf hw 79 rfl)) (by decide) (t := (.array .boolean)) (t' := .int) (by decide) (by decide)))
  have f_15 := Ft_inside.other W_2 (Or.inr (slot_ne (Or.inr (wdOf hw 103 rfl)) (Or.inl (wdOf hw 79 rfl)) (by decide) (t := (.array .boolean)) (t' := .int) (by decide) (by decide)))
  have f_16 := Ft_joinable.other W_2 (Or.inr (slot_ne (Or.inr (wdOf hw 105 rfl)) (Or.inl (wdOf hw 79 rfl)) (by decide) (t := (.array .int)) (t' := .int) (by decide) (by decide)))
  have f_17 := Ft_isJoinable.other W_2 (Or.inr (slot_ne (Or.inr (wdOf hw 107 rfl)) (Or.inl (wdOf hw 79 rfl)) (by decide) (t := (.array .boolean)) (t' := .int) (by decide) (by decide)))
  have f_18 := Ft_rest.other W_2 (Or.inr (slot_ne (Or.inr (wdOf hw 109 rfl)) (Or.inl (wdOf hw 79 rfl)) (by decide) (t := (.array .int)) (t' := .int) (by decide) (by decide)))
  have f_19 := Ft_isRest.other W_2 (Or.inr (slot_ne (Or.inr (wdOf hw 111 rfl)) (Or.inl (wdOf hw 79 rfl)) (by decide) (t := (.array .boolean)) (t' := .int) (by decide) (by decide)))
  have f_20 := Ft_noCheaperPathAt.other W_2 (Or.inr (slot_ne (Or.inr (wdOf hw 114 rfl)) (Or.inl (wdOf hw 79 rfl)) (by decide) (t := (.array .long)) (t' := .int) (by decide) (by decide)))
  have f_21 := Ft_changes.other W_2 (Or.inr (slot_ne (Or.inl (wdOf hw 214 rfl)) (Or.inl (wdOf hw 79 rfl)) (by decide) (t := .long) (t' := .int) (by decide) (by decide)))
  have f_22 := Ft_forest.other W_2 (Or.inr (slot_ne (Or.inl (wdOf hw 220 rfl)) (Or.inl (wdOf hw 79 rfl)) (by decide) (t := (.object "com/example/copse/copse/LinkCutForest")) (t' := .int) (by decide) (by decide)))
  have f_23 := El.wr W_2
  have f_24 := Fl_modCount.other W_2 (Or.inl (ne_exa El Et (by decide)))
  have f_25 := Fl_elementData.other W_2 (Or.inl (ne_exa El Et (by decide)))
  have f_26 := Fl_size.other W_2 (Or.inl (ne_exa El Et (by decide)))
  have f_27 := Va.other W_2 (Ne.symm (Et.neArv Va (wdOf hw 66 rfl)))
  have f_28 := Eo.wr W_2
  have f_29 := Fo.other W_2 (Or.inl (ne_exa Eo Et (by decide)))
  have y_30 : n0 ≤ h_2.size := Nat.le_trans (Nat.le_of_eq f_3.1.symm) f_3.2.1
  refine Goes.go (U' := (T_2.setTop (mkF m 9 #[sR_ tx, sI_ (4 : Int32), sI_ r, sR_ ax, sR_ la, sU_, sU_] []))) st_2 ?_
  refine Goes.go (U' := (T_2.setTop (mkF m 11 #[sR_ tx, sI_ (4 : Int32), sI_ r, sR_ ax, sR_ la, sU_, sU_] [(.int r), (.ref tx)]))) (fun t kt => ?_) ?_
  · skip
    refine XS.aloadN X_2.here hx rfl (hb hby d_rm_ti2_9) rfl rfl ?_
    refine XS.iloadN X_2.here hx rfl (hb hby d_rm_ti2_10) rfl ?_
    exact kt
  obtain ⟨T_31, h_31, X_31, e_31, W_31, st_31⟩ := putF X_2 hx hZ hown (host := "") (Or.inl (wdOf hw 80 rfl)) Via.refl e_2 f_6 f_4 (Or.inr ⟨wdOf hw 81 rfl, rfl, hnm⟩) (wdOf hw 66 rfl) (ty := .int) (by decide) rfl rfl (g := (mkF m 11 #[sR_ tx, sI_ (4 : Int32), sI_ r, sR_ ax, sR_ la, sU_, sU_] [(.int r), (.ref tx)])) rfl rfl (hb hby d_rm_ti2_11)
  have N_31 := Fr.snoc X_31 N_2 o0
  have f_32 := f_3.wr W_31 o0
  have f_33 := f_4.wr W_31
  have f_34 := f_5.other W_31 (Or.inr (slot_ne (Or.inl (wdOf hw 79 rfl)) (Or.inr (wdOf hw 81 rfl)) (by decide) (t := .int) (t' := .int) (by decide) (by decide)))
  have f_35 := f_6.same W_31
  have f_36 := f_7.other W_31 (Or.inr (slot_ne (Or.inr (wdOf hw 85 rfl)) (Or.inr (wdOf hw 81 rfl)) (by decide) (t := (.array (.object "com/example/copse/copse/Arc"))) (t' := .int) (by decide) (by decide)))
  have f_37 := f_8.other W_31 (Or.inr (slot_ne (Or.inr (wdOf hw 88 rfl)) (Or.inr (wdOf hw 81 rfl)) (by decide) (t := (.array .int)) (t' := .int) (by decide) (by decide)))
  have f_38 := f_9.other W_31 (Or.inr (slot_ne (Or.inr (wdOf hw 91 rfl)) (Or.inr (wdOf hw 81 rfl)) (by decide) (t := (.array .boolean)) (t' := .int) (by decide) (by decide)))
  have f_39 := f_10.other W_31 (Or.inr (slot_ne (Or.inr (wdOf hw 93 rfl)) (Or.inr (wdOf hw 81 rfl)) (by decide) (t := (.array .int)) (t' := .int) (by decide) (by decide)))
  have f_40 := f_11.other W_31 (Or.inr (slot_ne (Or.inr (wdOf hw 95 rfl)) (Or.inr (wdOf hw 81 rfl)) (by decide) (t := (.array .int)) (t' := .int) (by decide) (by decide)))
  have f_41 := f_12.other W_31 (Or.inr (slot_ne (Or.inr (wdOf hw 97 rfl)) (Or.inr (wdOf hw 81 rfl)) (by decide) (t := (.array .int)) (t' := .int) (by decide) (by decide)))
  have f_42 := f_13.other W_31 (Or.inr (slot_ne (Or.inr (wdOf hw 99 rfl)) (Or.inr (wdOf hw 81 rfl)) (by decide) (t := (.object "java/util/function/Predicate")) (t' := .int) (by decide) (by decide)))
  have f_43 := f_14.other W_31 (Or.inr (slot_ne (Or.inr (wdOf hw 101 rfl)) (Or.inr (wdOf hw 81 rfl)) (by decide) (t := (.array .boolean)) (t' := .int) (by decide) (by decide)))
  have f_44 := f_15.other W_31 (Or.inr (slot_ne (Or.inr (wdOf hw 103 rfl)) (Or.inr (wdOf hw 81 rfl)) (by decide) (t := (.array .boolean)) (t' := .int) (by decide) (by decide)))
  have f_45 := f_16.other W_31 (Or.inr (slot_ne (Or.inr (wdOf hw 105 rfl)) (Or.inr (wdOf hw 81 rfl)) (by decide) (t := (.array .int)) (t' := .int) (by decide) (by decide)))
  have f_46 := f_17.other W_31 (Or.inr (slot_ne (Or.inr (wdOf hw 107 rfl)) (Or.inr (wdOf hw 81 rfl)) (by decide) (t := (.array .boolean)) (t' := .int) (by decide) (by decide)))
  have f_47 := f_18.other W_31 (Or.inr (slot_ne (Or.inr (wdOf hw 109 rfl)) (Or.inr (wdOf hw 81 rfl)) (by decide) (t := (.array .int)) (t' := .int) (by decide) (by decide)))
  have f_48 := f_19.other W_31 (Or.inr (slot_ne (Or.inr (wdOf hw 111 rfl)) (Or.inr (wdOf hw 81 rfl)) (by decide) (t := (.array .boolean)) (t' := .int) (by decide) (by decide)))
  have f_49 := f_20.other W_31 (Or.inr (slot_ne (Or.inr (wdOf hw 114 rfl)) (Or.inr (wdOf hw 81 rfl)) (by decide) (t := (.array .long)) (t' := .int) (by decide) (by decide)))
  have f_50 := f_21.other W_31 (Or.inr (slot_ne (Or.inl (wdOf hw 214 rfl)) (Or.inr (wdOf hw 81 rfl)) (by decide) (t := .long) (t' := .int) (by decide) (by decide)))
  have f_51 := f_22.other W_31 (Or.inr (slot_ne (Or.inl (wdOf hw 220 rfl)) (Or.inr (wdOf hw 81 rfl)) (by decide) (t := (.object "com/example/copse/copse/LinkCutForest")) (t' := .int) (by decide) (by decide)))
  have f_52 := f_23.wr W_31
  have f_53 := f_24.other W_31 (Or.inl (ne_exa f_23 f_4 (by decide)))
  have f_54 := f_25.other W_31 (Or.inl (ne_exa f_23 f_4 (by decide)))
  have f_55 := f_26.other W_31 (Or.inl (ne_exa f_23 f_4 (by decide)))
  have f_56 := f_27.other W_31 (Ne.symm (f_4.neArv f_27 (wdOf hw 66 rfl)))
  have f_57 := f_28.wr W_31
  have f_58 := f_29.other W_31 (Or.inl (ne_exa f_28 f_4 (by decide)))
  have y_59 : n0 ≤ h_31.size := Nat.le_trans (Nat.le_of_eq f_32.1.symm) f_32.2.1
  refine Goes.go (U' := (T_31.setTop (mkF m 14 #[sR_ tx, sI_ (4 : Int32), sI_ r, sR_ ax, sR_ la, sU_, sU_] []))) st_31 ?_
  refine Goes.go (U' := (T_31.setTop (mkF m 18 #[sR_ tx, sI_ (4 : Int32), sI_ r, sR_ ax, sR_ la, sU_, sU_] [(.int (5 : Int32)), (.ref tx)]))) (fun t kt => ?_) ?_
  · skip
    refine XS.aloadN X_31.here hx rfl (hb hby d_rm_ti2_14) rfl rfl ?_
    refine XS.iloadN X_31.here hx rfl (hb hby d_rm_ti2_15) rfl ?_
    refine XS.iconst X_31.here hx rfl (hb hby d_rm_ti2_16) ?_
    refine XS.iadd X_31.here hx rfl (hb hby d_rm_ti2_17) rfl ?_
    exact kt
  obtain ⟨T_60, h_60, k_60, X_60, e_60, E_60, A_60, O_60, st_60⟩ := newR X_31 hx hZ hown (wdOf hw 82 rfl) (wdOf hw 83 rfl) e_31 (g := (mkF m 18 #[sR_ tx, sI_ (4 : Int32), sI_ r, sR_ ax, sR_ la, sU_, sU_] [(.int (5 : Int32)), (.ref tx)])) rfl (hb hby d_rm_ti2_18) rfl (by decide) (cap := 5) (by decide) (by decide) (by decide) (by decide)
  obtain ⟨b_60, g_60⟩ : ∃ z, z = h_31.size := ⟨_, rfl⟩
  rw [← g_60] at A_60 st_60
  have ne_61 : tx ≠ b_60 := Nat.ne_of_lt (Nat.lt_of_lt_of_le f_33.lt (Nat.le_of_eq g_60.symm))
  have ne_62 : ax ≠ b_60 := Nat.ne_of_lt (Nat.lt_of_lt_of_le f_52.lt (Nat.le_of_eq g_60.symm))
  have ne_63 : ea ≠ b_60 := Nat.ne_of_lt (Nat.lt_of_lt_of_le f_56.lt (Nat.le_of_eq g_60.symm))
  have ne_64 : ob ≠ b_60 := Nat.ne_of_lt (Nat.lt_of_lt_of_le f_57.lt (Nat.le_of_eq g_60.symm))
  have o_60 : n0 ≤ b_60 := Nat.le_trans y_59 (Nat.le_of_eq g_60.symm)
  have f_65 := f_32.ext E_60
  have f_66 := f_33.ext E_60
  have f_67 := f_34.ext E_60
  have f_68 := f_35.ext E_60
  have f_69 := f_36.ext E_60
  have f_70 := f_37.ext E_60
  have f_71 := f_38.ext E_60
  have f_72 := f_39.ext E_60
  have f_73 := f_40.ext E_60
  have f_74 := f_41.ext E_60
  have f_75 := f_42.ext E_60
  have f_76 := f_43.ext E_60
  have f_77 := f_44.ext E_60
  have f_78 := f_45.ext E_60
  have f_79 := f_46.ext E_60
  have f_80 := f_47.ext E_60
  have f_81 := f_48.ext E_60
  have f_82 := f_49.ext E_60
  have f_83 := f_50.ext E_60
  have f_84 := f_51.ext E_60
  have f_85 := f_52.ext E_60
  have f_86 := f_53.ext E_60
  have f_87 := f_54.ext E_60
  have f_88 := f_55.ext E_60
  have f_89 := f_56.ext E_60
  have f_90 := f_57.ext E_60
  have f_91 := f_58.ext E_60
  have V_60 : Arv Z h_60 b_60 k_60 (.object "com/example/copse/copse/Arc") (5 : Int32) [.null, .null, .null, .null, .null] .null := (Arv.new A_60 (by decide)).pad (pad_rep [] .null 5)
  have y_92 : n0 ≤ h_60.size := Nat.le_trans (Nat.le_of_eq f_65.1.symm) f_65.2.1
  refine Goes.go (U' := (T_60.setTop (mkF m 21 #[sR_ tx, sI_ (4 : Int32), sI_ r, sR_ ax, sR_ la, sU_, sU_] [(.ref b_60), (.ref tx)]))) st_60 ?_
  obtain ⟨T_93, h_93, X_93, e_93, W_93, st_93⟩ := putF X_60 hx hZ hown (host := "") (Or.inl (wdOf hw 84 rfl)) Via.refl e_60 f_69 f_66 (Or.inr ⟨wdOf hw 85 rfl, rfl, hnm⟩) (wdOf hw 66 rfl) (ty := (.array (.object "com/example/copse/copse/Arc"))) (by decide) rfl rfl (g := (mkF m 21 #[sR_ tx, sI_ (4 : Int32), sI_ r, sR_ ax, sR_ la, sU_, sU_] [(.ref b_60), (.ref tx)])) rfl rfl (hb hby d_rm_ti2_21)
  have N_93 := Fr.snoc X_93 N_31 o0
  have f_94 := f_65.wr W_93 o0
  have f_95 := f_66.wr W_93
  have f_96 := f_67.other W_93 (Or.inr (slot_ne (Or.inl (wdOf hw 79 rfl)) (Or.inr (wdOf hw 85 rfl)) (by decide) (t := .int) (t' := (.array (.object "com/example/copse/copse/Arc"))) (by decide) (by decide)))
  have f_97 := f_68.other W_93 (Or.inr (slot_ne (Or.inr (wdOf hw 81 rfl)) (Or.inr (wdOf hw 85 rfl)) (by decide) (t := .int) (t' := (.array (.object "com/example/copse/copse/Arc"))) (by decide) (by decide)))
  have f_98 := f_69.same W_93
  have f_99 := f_70.other W_93 (Or.inr (slot_ne (Or.inr (wdOf hw 88 rfl)) (Or.inr (wdOf hw 85 rfl)) (by decide) (t := (.array .int)) (t' := (.array (.object "com/example/copse/copse/Arc"))) (by decide) (by decide)))
  have f_100 := f_71.other W_93 (Or.inr (slot_ne (Or.inr (wdOf hw 91 rfl)) (Or.inr (wdOf hw 85 rfl)) (by decide) (t := (.array .boolean)) (t' := (.array (.object "com/example/copse/copse/Arc"))) (by decide) (by decide)))
  have f_101 := f_72.other W_93 (Or.inr (slot_ne (Or.inr (wdOf hw 93 rfl)) (Or.inr (wdOf hw 85 rfl)) (by decide) (t := (.array .int)) (t' := (.array (.object "com/example/copse/copse/Arc"))) (by decide) (by decide)))
  have f_102 := f_73.other W_93 (Or.inr (slot_ne (Or.inr (wdOf hw 95 rfl)) (Or.inr (wdOf hw 85 rfl)) (by decide) (t := (.array .int)) (t' := (.array (.object "com/example/copse/copse/Arc"))) (by decide) (by decide)))
  have f_103 := f_74.other W_93 (Or.inr (slot_ne (Or.inr (wdOf hw 97 rfl)) (Or.inr (wdOf hw 85 rfl)) (by decide) (t := (.array .int)) (t' := (.array (.object "com/example/copse/copse/Arc"))) (by decide) (by decide)))
  have f_104 := f_75.other W_93 (Or.inr (slot_ne (Or.inr (wdOf hw 99 rfl)) (Or.inr (wdOf hw 85 rfl)) (by decide) (t := (.object "java/util/function/Predicate")) (t' := (.array (.object "com/example/copse/copse/Arc"))) (by decide) (by decide)))
  have f_105 := f_76.other W_93 (Or.inr (slot_ne (Or.inr (wdOf hw 101 rfl)) (Or.inr (wdOf hw 85 rfl)) (by decide) (t := (.array .boolean)) (t' := (.array (.object "com/example/copse/copse/Arc"))) (by decide) (by decide)))
  have f_106 := f_77.other W_93 (Or.inr (slot_ne (Or.inr (wdOf hw 103 rfl)) (Or.inr (wdOf hw 85 rfl)) (by decide) (t := (.array .boolean)) (t' := (.array (.object "com/example/copse/copse/Arc"))) (by decide) (by decide)))
  have f_107 := f_78.other W_93 (Or.inr (slot_ne (Or.inr (wdOf hw 105 rfl)) (Or.inr (wdOf hw 85 rfl)) (by decide) (t := (.array .int)) (t' := (.array (.object "com/example/copse/copse/Arc"))) (by decide) (by decide)))
  have f_108 := f_79.other W_93 (Or.inr (slot_ne (Or.inr (wdOf hw 107 rfl)) (Or.inr (wdOf hw 85 rfl)) (by decide) (t := (.array .boolean)) (t' := (.array (.object "com/example/copse/copse/Arc"))) (by decide) (by decide)))
  have f_109 := f_80.other W_93 (Or.inr (slot_ne (Or.inr (wdOf hw 109 rfl)) (Or.inr (wdOf hw 85 rfl)) (by decide) (t := (.array .int)) (t' := (.array (.object "com/example/copse/copse/Arc"))) (by decide) (by decide)))
  have f_110 := f_81.other W_93 (Or.inr (slot_ne (Or.inr (wdOf hw 111 rfl)) (Or.inr (wdOf hw 85 rfl)) (by decide) (t := (.array .boolean)) (t' := (.array (.object "com/example/copse/copse/Arc"))) (by decide) (by decide)))
  have f_111 := f_82.other W_93 (Or.inr (slot_ne (Or.inr (wdOf hw 114 rfl)) (Or.inr (wdOf hw 85 rfl)) (by decide) (t := (.array .long)) (t' := (.array (.object "com/example/copse/copse/Arc"))) (by decide) (by decide)))
  have f_112 := f_83.other W_93 (Or.inr (slot_ne (Or.inl (wdOf hw 214 rfl)) (Or.inr (wdOf hw 85 rfl)) (by decide) (t := .long) (t' := (.array (.object "com/example/copse/copse/Arc"))) (by decide) (by decide)))
  have f_113 := f_84.other W_93 (Or.inr (slot_ne (Or.inl (wdOf hw 220 rfl)) (Or.inr (wdOf hw 85 rfl)) (by decide) (t := (.object "com/example/copse/copse/LinkCutForest")) (t' := (.array (.object "com/example/copse/copse/Arc"))) (by decide) (by decide)))
  have f_114 := f_85.wr W_93
  have f_115 := f_86.other W_93 (Or.inl (ne_exa f_85 f_66 (by decide)))
  have f_116 := f_87.other W_93 (Or.inl (ne_exa f_85 f_66 (by decide)))
  have f_117 := f_88.other W_93 (Or.inl (ne_exa f_85 f_66 (by decide)))
  have f_118 := f_89.other W_93 (Ne.symm (f_66.neArv f_89 (wdOf hw 66 rfl)))
  have f_119 := f_90.wr W_93
  have f_120 := f_91.other W_93 (Or.inl (ne_exa f_90 f_66 (by decide)))
  have f_121 := V_60.other W_93 (Ne.symm ne_61)
  have y_122 : n0 ≤ h_93.size := Nat.le_trans (Nat.le_of_eq f_94.1.symm) f_94.2.1
  refine Goes.go (U' := (T_93.setTop (mkF m 24 #[sR_ tx, sI_ (4 : Int32), sI_ r, sR_ ax, sR_ la, sU_, sU_] []))) st_93 ?_
  refine Goes.go (U' := (T_93.setTop (mkF m 28 #[sR_ tx, sI_ (4 : Int32), sI_ r, sR_ ax, sR_ la, sU_, sU_] [(.int (5 : Int32)), (.ref tx)]))) (fun t kt => ?_) ?_
  · skip
    refine XS.aloadN X_93.here hx rfl (hb hby d_rm_ti2_24) rfl rfl ?_
    refine XS.iloadN X_93.here hx rfl (hb hby d_rm_ti2_25) rfl ?_
    refine XS.iconst X_93.here hx rfl (hb hby d_rm_ti2_26) ?_
    refine XS.iadd X_93.here hx rfl (hb hby d_rm_ti2_27) rfl ?_
    exact kt
  obtain ⟨T_123, h_123, k_123, X_123, e_123, E_123, A_123, st_123⟩ := newP X_93 hx hZ (wdOf hw 86 rfl) e_93 (g := (mkF m 28 #[sR_ tx, sI_ (4 : Int32), sI_ r, sR_ ax, sR_ la, sU_, sU_] [(.int (5 : Int32)), (.ref tx)])) rfl (hb hby d_rm_ti2_28) rfl (by decide) (cap := 5) (by decide) (by decide) (by decide) (by decide)
  obtain ⟨b_123, g_123⟩ : ∃ z, z = h_93.size := ⟨_, rfl⟩
  rw [← g_123] at A_123 st_123
  have ne_124 : tx ≠ b_123 := Nat.ne_of_lt (Nat.lt_of_lt_of_le f_95.lt (Nat.le_of_eq g_123.symm))
  have ne_125 : ax ≠ b_123 := Nat.ne_of_lt (Nat.lt_of_lt_of_le f_114.lt (Nat.le_of_eq g_123.symm))
  have ne_126 : ea ≠ b_123 := Nat.ne_of_lt (Nat.lt_of_lt_of_le f_118.lt (Nat.le_of_eq g_123.symm))
  have ne_127 : ob ≠ b_123 := Nat.ne_of_lt (Nat.lt_of_lt_of_le f_119.lt (Nat.le_of_eq g_123.symm))
  have ne_128 : b_60 ≠ b_123 := Nat.ne_of_lt (Nat.lt_of_lt_of_le f_121.lt (Nat.le_of_eq g_123.symm))
  have o_123 : n0 ≤ b_123 := Nat.le_trans y_122 (Nat.le_of_eq g_123.symm)
  have f_129 := f_94.ext E_123
  have f_130 := f_95.ext E_123
  have f_131 := f_96.ext E_123
  have f_132 := f_97.ext E_123
  have f_133 := f_98.ext E_123
  have f_134 := f_99.ext E_123
  have f_135 := f_100.ext E_123
  have f_136 := f_101.ext E_123
  have f_137 := f_102.ext E_123
  have f_138 := f_103.ext E_123
  have f_139 := f_104.ext E_123
  have f_140 := f_105.ext E_123
  have f_141 := f_106.ext E_123
  have f_142 := f_107.ext E_123
  have f_143 := f_108.ext E_123
  have f_144 := f_109.ext E_123
  have f_145 := f_110.ext E_123
  have f_146 := f_111.ext E_123
  have f_147 := f_112.ext E_123
  have f_148 := f_113.ext E_123
  have f_149 := f_114.ext E_123
  have f_150 := f_115.ext E_123
  have f_151 := f_116.ext E_123
  have f_152 := f_117.ext E_123
  have f_153 := f_118.ext E_123
  have f_154 := f_119.ext E_123
  have f_155 := f_120.ext E_123
  have f_156 := f_121.ext E_123
  have V_123 : Arv Z h_123 b_123 k_123 .int (5 : Int32) [(.int (0 : Int32)), (.int (0 : Int32)), (.int (0 : Int32)), (.int (0 : Int32)), (.int (0 : Int32))] (.int (0 : Int32)) := (Arv.new A_123 (by decide)).pad (pad_rep [] (.int (0 : Int32)) 5)
  have y_157 : n0 ≤ h_123.size := Nat.le_trans (Nat.le_of_eq f_129.1.symm) f_129.2.1
  refine Goes.go (U' := (T_123.setTop (mkF m 30 #[sR_ tx, sI_ (4 : Int32), sI_ r, sR_ ax, sR_ la, sU_, sU_] [(.ref b_123), (.ref tx)]))) st_123 ?_
  obtain ⟨T_158, h_158, X_158, e_158, W_158, st_158⟩ := putF X_123 hx hZ hown (host := "") (Or.inl (wdOf hw 87 rfl)) Via.refl e_123 f_134 f_130 (Or.inr ⟨wdOf hw 88 rfl, rfl, hnm⟩) (wdOf hw 66 rfl) (ty := (.array .int)) (by decide) rfl rfl (g := (mkF m 30 #[sR_ tx, sI_ (4 : Int32), sI_ r, sR_ ax, sR_ la, sU_, sU_] [(.ref b_123), (.ref tx)])) rfl rfl (hb hby d_rm_ti2_30)
  have N_158 := Fr.snoc X_158 N_93 o0
  have f_159 := f_129.wr W_158 o0
  have f_160 := f_130.wr W_158
  have f_161 := f_131.other W_158 (Or.inr (slot_ne (Or.inl (wdOf hw 79 rfl)) (Or.inr (wdOf hw 88 rfl)) (by decide) (t := .int) (t' := (.array .int)) (by decide) (by decide)))
  have f_162 := f_132.other W_158 (Or.inr (slot_ne (Or.inr (wdOf hw 81 rfl)) (Or.inr (wdOf hw 88 rfl)) (by decide) (t := .int) (t' := (.array .int)) (by decide) (by decide)))
  have f_163 := f_133.other W_158 (Or.inr (slot_ne (Or.inr (wdOf hw 85 rfl)) (Or.inr (wdOf hw 88 rfl)) (by decide) (t := (.array (.object "com/example/copse/copse/Arc"))) (t' := (.array .int)) (by decide) (by decide)))
  have f_164 := f_134.same W_158
  have f_165 := f_135.other W_158 (Or.inr (slot_ne (Or.inr (wdOf hw 91 rfl)) (Or.inr (wdOf hw 88 rfl)) (by decide) (t := (.array .boolean)) (t' := (.array .int)) (by decide) (by decide)))
  have f_166 := f_136.other W_158 (Or.inr (slot_ne (Or.inr (wdOf hw 93 rfl)) (Or.inr (wdOf hw 88 rfl)) (by decide) (t := (.array .int)) (t' := (.array .int)) (by decide) (by decide)))
  have f_167 := f_137.other W_158 (Or.inr (slot_ne (Or.inr (wdOf hw 95 rfl)) (Or.inr (wdOf hw 88 rfl)) (by decide) (t := (.array .int)) (t' := (.array .int)) (by decide) (by decide)))
  have f_168 := f_138.other W_158 (Or.inr (slot_ne (Or.inr (wdOf hw 97 rfl)) (Or.inr (wdOf hw 88 rfl)) (by decide) (t := (.array .int)) (t' := (.array .int)) (by decide) (by decide)))
  have f_169 := f_139.other W_158 (Or.inr (slot_ne (Or.inr (wdOf hw 99 rfl)) (Or.inr (wdOf hw 88 rfl)) (by decide) (t := (.object "java/util/function/Predicate")) (t' := (.array .int)) (by decide) (by decide)))
  have f_170 := f_140.other W_158 (Or.inr (slot_ne (Or.inr (wdOf hw 101 rfl)) (Or.inr (wdOf hw 88 rfl)) (by decide) (t := (.array .boolean)) (t' := (.array .int)) (by decide) (by decide)))
  have f_171 := f_141.other W_158 (Or.inr (slot_ne (Or.inr (wdOf hw 103 rfl)) (Or.inr (wdOf hw 88 rfl)) (by decide) (t := (.array .boolean)) (t' := (.array .int)) (by decide) (by decide)))
  have f_172 := f_142.other W_158 (Or.inr (slot_ne (Or.inr (wdOf hw 105 rfl)) (Or.inr (wdOf hw 88 rfl)) (by decide) (t := (.array .int)) (t' := (.array .int)) (by decide) (by decide)))
  have f_173 := f_143.other W_158 (Or.inr (slot_ne (Or.inr (wdOf hw 107 rfl)) (Or.inr (wdOf hw 88 rfl)) (by decide) (t := (.array .boolean)) (t' := (.array .int)) (by decide) (by decide)))
  have f_174 := f_144.other W_158 (Or.inr (slot_ne (Or.inr (wdOf hw 109 rfl)) (Or.inr (wdOf hw 88 rfl)) (by decide) (t := (.array .int)) (t' := (.array .int)) (by decide) (by decide)))
  have f_175 := f_145.other W_158 (Or.inr (slot_ne (Or.inr (wdOf hw 111 rfl)) (Or.inr (wdOf hw 88 rfl)) (by decide) (t := (.array .boolean)) (t' := (.array .int)) (by decide) (by decide)))
  have f_176 := f_146.other W_158 (Or.inr (slot_ne (Or.inr (wdOf hw 114 rfl)) (Or.inr (wdOf hw 88 rfl)) (by decide) (t := (.array .long)) (t' := (.array .int)) (by decide) (by decide)))
  have f_177 := f_147.other W_158 (Or.inr (slot_ne (Or.inl (wdOf hw 214 rfl)) (Or.inr (wdOf hw 88 rfl)) (by decide) (t := .long) (t' := (.array .int)) (by decide) (by decide)))
  have f_178 := f_148.other W_158 (Or.inr (slot_ne (Or.inl (wdOf hw 220 rfl)) (Or.inr (wdOf hw 88 rfl)) (by decide) (t := (.object "com/example/copse/copse/LinkCutForest")) (t' := (.array .int)) (by decide) (by decide)))
  have f_179 := f_149.wr W_158
  have f_180 := f_150.other W_158 (Or.inl (ne_exa f_149 f_130 (by decide)))
  have f_181 := f_151.other W_158 (Or.inl (ne_exa f_149 f_130 (by decide)))
  have f_182 := f_152.other W_158 (Or.inl (ne_exa f_149 f_130 (by decide)))
  have f_183 := f_153.other W_158 (Ne.symm (f_130.neArv f_153 (wdOf hw 66 rfl)))
  have f_184 := f_154.wr W_158
  have f_185 := f_155.other W_158 (Or.inl (ne_exa f_154 f_130 (by decide)))
  have f_186 := f_156.other W_158 (Ne.symm ne_61)
  have f_187 := V_123.other W_158 (Ne.symm ne_124)
  have y_188 : n0 ≤ h_158.size := Nat.le_trans (Nat.le_of_eq f_159.1.symm) f_159.2.1
  refine Goes.go (U' := (T_158.setTop (mkF m 33 #[sR_ tx, sI_ (4 : Int32), sI_ r, sR_ ax, sR_ la, sU_, sU_] []))) st_158 ?_
  have Bb_123 : Bar Z h_158 b_123 .int IntP := Bar.of_arv f_187 IntP.zeros (IntP.mk 0)
  refine Goes.go (U' := (T_158.setTop (mkF m 37 #[sR_ tx, sI_ (4 : Int32), sI_ r, sR_ ax, sR_ la, sU_, sU_] [(.int (5 : Int32)), (.ref tx)]))) (fun t kt => ?_) ?_
  · skip
    refine XS.aloadN X_158.here hx rfl (hb hby d_rm_ti2_33) rfl rfl ?_
    refine XS.iloadN X_158.here hx rfl (hb hby d_rm_ti2_34) rfl ?_
    refine XS.iconst X_158.here hx rfl (hb hby d_rm_ti2_35) ?_
    refine XS.iadd X_158.here hx rfl (hb hby d_rm_ti2_36) rfl ?_
    exact kt
  obtain ⟨T_189, h_189, k_189, X_189, e_189, E_189, A_189, st_189⟩ := newP X_158 hx hZ (wdOf hw 89 rfl) e_158 (g := (mkF m 37 #[sR_ tx, sI_ (4 : Int32), sI_ r, sR_ ax, sR_ la, sU_, sU_] [(.int (5 : Int32)), (.ref tx)])) rfl (hb hby d_rm_ti2_37) rfl (by decide) (cap := 5) (by decide) (by decide) (by decide) (by decide)
  obtain ⟨b_189, g_189⟩ : ∃ z, z = h_158.size := ⟨_, rfl⟩
  rw [← g_189] at A_189 st_189
  have ne_190 : tx ≠ b_189 := Nat.ne_of_lt (Nat.lt_of_lt_of_le f_160.lt (Nat.le_of_eq g_189.symm))
  have ne_191 : ax ≠ b_189 := Nat.ne_of_lt (Nat.lt_of_lt_of_le f_179.lt (Nat.le_of_eq g_189.symm))
  have ne_192 : ea ≠ b_189 := Nat.ne_of_lt (Nat.lt_of_lt_of_le f_183.lt (Nat.le_of_eq g_189.symm))
  have ne_193 : ob ≠ b_189 := Nat.ne_of_lt (Nat.lt_of_lt_of_le f_184.lt (Nat.le_of_eq g_189.symm))
  have ne_194 : b_60 ≠ b_189 := Nat.ne_of_lt (Nat.lt_of_lt_of_le f_186.lt (Nat.le_of_eq g_189.symm))
  have ne_195 : b_123 ≠ b_189 := Nat.ne_of_lt (Nat.lt_of_lt_of_le Bb_123.lt (Nat.le_of_eq g_189.symm))
  have o_189 : n0 ≤ b_189 := Nat.le_trans y_188 (Nat.le_of_eq g_189.symm)
  have f_196 := f_159.ext E_189
  have f_197 := f_160.ext E_189
  have f_198 := f_161.ext E_189
  have f_199 := f_162.ext E_189
  have f_200 := f_163.ext E_189
  have f_201 := f_164.ext E_189
  have f_202 := f_165.ext E_189
  have f_203 := f_166.ext E_189
  have f_204 := f_167.ext E_189
  have f_205 := f_168.ext E_189
  have f_206 := f_169.ext E_189
  have f_207 := f_170.ext E_189
  have f_208 := f_171.ext E_189
  have f_209 := f_172.ext E_189
  have f_210 := f_173.ext E_189
  have f_211 := f_174.ext E_189
  have f_212 := f_175.ext E_189
  have f_213 := f_176.ext E_189
  have f_214 := f_177.ext E_189
  have f_215 := f_178.ext E_189
  have f_216 := f_179.ext E_189
  have f_217 := f_180.ext E_189
  have f_218 := f_181.ext E_189
  have f_219 := f_182.ext E_189
  have f_220 := f_183.ext E_189
  have f_221 := f_184.ext E_189
  have f_222 := f_185.ext E_189
  have f_223 := f_186.ext E_189
  have f_224 := Bb_123.ext E_189
  have V_189 : Arv Z h_189 b_189 k_189 .boolean (5 : Int32) [(.int (0 : Int32)), (.int (0 : Int32)), (.int (0 : Int32)), (.int (0 : Int32)), (.int (0 : Int32))] (.int (0 : Int32)) := (Arv.new A_189 (by decide)).pad (pad_rep [] (.int (0 : Int32)) 5)
  have y_225 : n0 ≤ h_189.size := Nat.le_trans (Nat.le_of_eq f_196.1.symm) f_196.2.1
  refine Goes.go (U' := (T_189.setTop (mkF m 39 #[sR_ tx, sI_ (4 : Int32), sI_ r, sR_ ax, sR_ la, sU_, sU_] [(.ref b_189), (.ref tx)]))) st_189 ?_
  obtain ⟨T_226, h_226, X_226, e_226, W_226, st_226⟩ := putF X_189 hx hZ hown (host := "") (Or.inl (wdOf hw 90 rfl)) Via.refl e_189 f_202 f_197 (Or.inr ⟨wdOf hw 91 rfl, rfl, hnm⟩) (wdOf hw 66 rfl) (ty := (.array .boolean)) (by decide) rfl rfl (g := (mkF m 39 #[sR_ tx, sI_ (4 : Int32), sI_ r, sR_ ax, sR_ la, sU_, sU_] [(.ref b_189), (.ref tx)])) rfl rfl (hb hby d_rm_ti2_39)
  have N_226 := Fr.snoc X_226 N_158 o0
  have f_227 := f_196.wr W_226 o0
  have f_228 := f_197.wr W_226
  have f_229 := f_198.other W_226 (Or.inr (slot_ne (Or.inl (wdOf hw 79 rfl)) (Or.inr (wdOf hw 91 rfl)) (by decide) (t := .int) (t' := (.array .boolean)) (by decide) (by decide)))
  have f_230 := f_199.other W_226 (Or.inr (slot_ne (Or.inr (wdOf hw 81 rfl)) (Or.inr (wdOf hw 91 rfl)) (by decide) (t := .int) (t' := (.array .boolean)) (by decide) (by decide)))
  have f_231 := f_200.other W_226 (Or.inr (slot_ne (Or.inr (wdOf hw 85 rfl)) (Or.inr (wdOf hw 91 rfl)) (by decide) (t := (.array (.object "com/example/copse/copse/Arc"))) (t' := (.array .boolean)) (by decide) (by decide)))
  have f_232 := f_201.other W_226 (Or.inr (slot_ne (Or.inr (wdOf hw 88 rfl)) (Or.inr (wdOf hw 91 rfl)) (by decide) (t := (.array .int)) (t' := (.array .boolean)) (by decide) (by decide)))
  have f_233 := f_202.same W_226
  have f_234 := f_203.other W_226 (Or.inr (slot_ne (Or.inr (wdOf hw 93 rfl)) (Or.inr (wdOf hw 91 rfl)) (by decide) (t := (.array .int)) (t' := (.array .boolean)) (by decide) (by decide)))
  have f_235 := f_204.other W_226 (Or.inr (slot_ne (Or.inr (wdOf hw 95 rfl)) (Or.inr (wdOf hw 91 rfl)) (by decide) (t := (.array .int)) (t' := (.array .boolean)) (by decide) (by decide)))
  have f_236 := f_205.other W_226 (Or.inr (slot_ne (Or.inr (wdOf hw 97 rfl)) (Or.inr (wdOf hw 91 rfl)) (by decide) (t := (.array .int)) (t' := (.array .boolean)) (by decide) (by decide)))
  have f_237 := f_206.other W_226 (Or.inr (slot_ne (Or.inr (wdOf hw 99 rfl)) (Or.inr (wdOf hw 91 rfl)) (by decide) (t := (.object "java/util/function/Predicate")) (t' := (.array .boolean)) (by decide) (by decide)))
  have f_238 := f_207.other W_226 (Or.inr (slot_ne (Or.inr (wdOf hw 101 rfl)) (Or.inr (wdOf hw 91 rfl)) (by decide) (t := (.array .boolean)) (t' := (.array .boolean)) (by decide) (by decide)))
  have f_239 := f_208.other W_226 (Or.inr (slot_ne (Or.inr (wdOf hw 103 rfl)) (Or.inr (wdOf hw 91 rfl)) (by decide) (t := (.array .boolean)) (t' := (.array .boolean)) (by decide) (by decide)))
  have f_240 := f_209.other W_226 (Or.inr (slot_ne (Or.inr (wdOf hw 105 rfl)) (Or.inr (wdOf hw 91 rfl)) (by decide) (t := (.array .int)) (t' := (.array .boolean)) (by decide) (by decide)))
  have f_241 := f_210.other W_226 (Or.inr (slot_ne (Or.inr (wdOf hw 107 rfl)) (Or.inr (wdOf hw 91 rfl)) (by decide) (t := (.array .boolean)) (t' := (.array .boolean)) (by decide) (by decide)))
  have f_242 := f_211.other W_226 (Or.inr (slot_ne (Or.inr (wdOf hw 109 rfl)) (Or.inr (wdOf hw 91 rfl)) (by decide) (t := (.array .int)) (t' := (.array .boolean)) (by decide) (by decide)))
  have f_243 := f_212.other W_226 (Or.inr (slot_ne (Or.inr (wdOf hw 111 rfl)) (Or.inr (wdOf hw 91 rfl)) (by decide) (t := (.array .boolean)) (t' := (.array .boolean)) (by decide) (by decide)))
  have f_244 := f_213.other W_226 (Or.inr (slot_ne (Or.inr (wdOf hw 114 rfl)) (Or.inr (wdOf hw 91 rfl)) (by decide) (t := (.array .long)) (t' := (.array .boolean)) (by decide) (by decide)))
  have f_245 := f_214.other W_226 (Or.inr (slot_ne (Or.inl (wdOf hw 214 rfl)) (Or.inr (wdOf hw 91 rfl)) (by decide) (t := .long) (t' := (.array .boolean)) (by decide) (by decide)))
  have f_246 := f_215.other W_226 (Or.inr (slot_ne (Or.inl (wdOf hw 220 rfl)) (Or.inr (wdOf hw 91 rfl)) (by decide) (t := (.object "com/example/copse/copse/LinkCutForest")) (t' := (.array .boolean)) (by decide) (by decide)))
  have f_247 := f_216.wr W_226
  have f_248 := f_217.other W_226 (Or.inl (ne_exa f_216 f_197 (by decide)))
  have f_249 := f_218.other W_226 (Or.inl (ne_exa f_216 f_197 (by decide)))
  have f_250 := f_219.other W_226 (Or.inl (ne_exa f_216 f_197 (by decide)))
  have f_251 := f_220.other W_226 (Ne.symm (f_197.neArv f_220 (wdOf hw 66 rfl)))
  have f_252 := f_221.wr W_226
  have f_253 := f_222.other W_226 (Or.inl (ne_exa f_221 f_197 (by decide)))
  have f_254 := f_223.other W_226 (Ne.symm ne_61)
  have f_255 := f_224.other W_226 (Ne.symm ne_124)
  have f_256 := V_189.other W_226 (Ne.symm ne_190)
  have y_257 : n0 ≤ h_226.size := Nat.le_trans (Nat.le_of_eq f_227.1.symm) f_227.2.1
  refine Goes.go (U' := (T_226.setTop (mkF m 42 #[sR_ tx, sI_ (4 : Int32), sI_ r, sR_ ax, sR_ la, sU_, sU_] []))) st_226 ?_
  have Bb_189 : Bar Z h_226 b_189 .boolean IntP := Bar.of_arv f_256 IntP.zeros (IntP.mk 0)
  refine Goes.go (U' := (T_226.setTop (mkF m 46 #[sR_ tx, sI_ (4 : Int32), sI_ r, sR_ ax, sR_ la, sU_, sU_] [(.int (5 : Int32)), (.ref tx)]))) (fun t kt => ?_) ?_
  · skip
    refine XS.aloadN X_226.here hx rfl (hb hby d_rm_ti2_42) rfl rfl ?_
    refine XS.iloadN X_226.here hx rfl (hb hby d_rm_ti2_43) rfl ?_
    refine XS.iconst X_226.here hx rfl (hb hby d_rm_ti2_44) ?_
    refine XS.iadd X_226.here hx rfl (hb hby d_rm_ti2_45) rfl ?_
    exact kt
  obtain ⟨T_258, h_258, k_258, X_258, e_258, E_258, A_258, st_258⟩ := newP X_226 hx hZ (wdOf hw 86 rfl) e_226 (g := (mkF m 46 #[sR_ tx, sI_ (4 : Int32), sI_ r, sR_ ax, sR_ la, sU_, sU_] [(.int (5 : Int32)), (.ref tx)])) rfl (hb hby d_rm_ti2_46) rfl (by decide) (cap := 5) (by decide) (by decide) (by decide) (by decide)
  obtain ⟨b_258, g_258⟩ : ∃ z, z = h_226.size := ⟨_, rfl⟩
  rw [← g_258] at A_258 st_258
  have ne_259 : tx ≠ b_258 := Nat.ne_of_lt (Nat.lt_of_lt_of_le f_228.lt (Nat.le_of_eq g_258.symm))
  have ne_260 : ax ≠ b_258 := Nat.ne_of_lt (Nat.lt_of_lt_of_le f_247.lt (Nat.le_of_eq g_258.symm))
  have ne_261 : ea ≠ b_258 := Nat.ne_of_lt (Nat.lt_of_lt_of_le f_251.lt (Nat.le_of_eq g_258.symm))
  have ne_262 : ob ≠ b_258 := Nat.ne_of_lt (Nat.lt_of_lt_of_le f_252.lt (Nat.le_of_eq g_258.symm))
  have ne_263 : b_60 ≠ b_258 := Nat.ne_of_lt (Nat.lt_of_lt_of_le f_254.lt (Nat.le_of_eq g_258.symm))
  have ne_264 : b_123 ≠ b_258 := Nat.ne_of_lt (Nat.lt_of_lt_of_le f_255.lt (Nat.le_of_eq g_258.symm))
  have ne_265 : b_189 ≠ b_258 := Nat.ne_of_lt (Nat.lt_of_lt_of_le Bb_189.lt (Nat.le_of_eq g_258.symm))
  have o_258 : n0 ≤ b_258 := Nat.le_trans y_257 (Nat.le_of_eq g_258.symm)
  have f_266 := f_227.ext E_258
  have f_267 := f_228.ext E_258
  have f_268 := f_229.ext E_258
  have f_269 := f_230.ext E_258
  have f_270 := f_231.ext E_258
  have f_271 := f_232.ext E_258
  have f_272 := f_233.ext E_258
  have f_273 := f_234.ext E_258
  have f_274 := f_235.ext E_258
  have f_275 := f_236.ext E_258
  have f_276 := f_237.ext E_258
  have f_277 := f_238.ext E_258
  have f_278 := f_239.ext E_258
  have f_279 := f_240.ext E_258
  have f_280 := f_241.ext E_258
  have f_281 := f_242.ext E_258
  have f_282 := f_243.ext E_258
  have f_283 := f_244.ext E_258
  have f_284 := f_245.ext E_258
  have f_285 := f_246.ext E_258
  have f_286 := f_247.ext E_258
  have f_287 := f_248.ext E_258
  have f_288 := f_249.ext E_258
  have f_289 := f_250.ext E_258
  have f_290 := f_251.ext E_258
  have f_291 := f_252.ext E_258
  have f_292 := f_253.ext E_258
  have f_293 := f_254.ext E_258
  have f_294 := f_255.ext E_258
  have f_295 := Bb_189.ext E_258
  have V_258 : Arv Z h_258 b_258 k_258 .int (5 : Int32) [(.int (0 : Int32)), (.int (0 : Int32)), (.int (0 : Int32)), (.int (0 : Int32)), (.int (0 : Int32))] (.int (0 : Int32)) := (Arv.new A_258 (by decide)).pad (pad_rep [] (.int (0 : Int32)) 5)
  have y_296 : n0 ≤ h_258.size := Nat.le_trans (Nat.le_of_eq f_266.1.symm) f_266.2.1
  refine Goes.go (U' := (T_258.setTop (mkF m 48 #[sR_ tx, sI_ (4 : Int32), sI_ r, sR_ ax, sR_ la, sU_, sU_] [(.ref b_258), (.ref tx)]))) st_258 ?_
  obtain ⟨T_297, h_297, X_297, e_297, W_297, st_297⟩ := putF X_258 hx hZ hown (host := "") (Or.inl (wdOf hw 92 rfl)) Via.refl e_258 f_273 f_267 (Or.inr ⟨wdOf hw 93 rfl, rfl, hnm⟩) (wdOf hw 66 rfl) (ty := (.array .int)) (by decide) rfl rfl (g := (mkF m 48 #[sR_ tx, sI_ (4 : Int32), sI_ r, sR_ ax, sR_ la, sU_, sU_] [(.ref b_258), (.ref tx)])) rfl rfl (hb hby d_rm_ti2_48)
  have N_297 := Fr.snoc X_297 N_226 o0
  have f_298 := f_266.wr W_297 o0
  have f_299 := f_267.wr W_297
  have f_300 := f_268.other W_297 (Or.inr (slot_ne (Or.inl (wdOf hw 79 rfl)) (Or.inr (wdOf hw 93 rfl)) (by decide) (t := .int) (t' := (.array .int)) (by decide) (by decide)))
  have f_301 := f_269.other W_297 (Or.inr (slot_ne (Or.inr (wdOf hw 81 rfl)) (Or.inr (wdOf hw 93 rfl)) (by decide) (t := .int) (t' := (.array .int)) (by decide) (by decide)))
  have f_302 := f_270.other W_297 (Or.inr (slot_ne (Or.inr (wdOf hw 85 rfl)) (Or.inr (wdOf hw 93 rfl)) (by decide) (t := (.array (.object "com/example/copse/copse/Arc"))) (t' := (.array .int)) (by decide) (by decide)))
  have f_303 := f_271.other W_297 (Or.inr (slot_ne (Or.inr (wdOf hw 88 rfl)) (Or.inr (wdOf hw 93 rfl)) (by decide) (t := (.array .int)) (t' := (.array .int)) (by decide) (by decide)))
  have f_304 := f_272.other W_297 (Or.inr (slot_ne (Or.inr (wdOf hw 91 rfl)) (Or.inr (wdOf hw 93 rfl)) (by decide) (t := (.array .boolean)) (t' := (.array .int)) (by decide) (by decide)))
  have f_305 := f_273.same W_297
  have f_306 := f_274.other W_297 (Or.inr (slot_ne (Or.inr (wdOf hw 95 rfl)) (Or.inr (wdOf hw 93 rfl)) (by decide) (t := (.array .int)) (t' := (.array .int)) (by decide) (by decide)))
  have f_307 := f_275.other W_297 (Or.inr (slot_ne (Or.inr (wdOf hw 97 rfl)) (Or.inr (wdOf hw 93 rfl)) (by decide) (t := (.array .int)) (t' := (.array .int)) (by decide) (by decide)))
  have f_308 := f_276.other W_297 (Or.inr (slot_ne (Or.inr (wdOf hw 99 rfl)) (Or.inr (wdOf hw 93 rfl)) (by decide) (t := (.object "java/util/function/Predicate")) (t' := (.array .int)) (by decide) (by decide)))
  have f_309 := f_277.other W_297 (Or.inr (slot_ne (Or.inr (wdOf hw 101 rfl)) (Or.inr (wdOf hw 93 rfl)) (by decide) (t := (.array .boolean)) (t' := (.array .int)) (by decide) (by decide)))
  have f_310 := f_278.other W_297 (Or.inr (slot_ne (Or.inr (wdOf hw 103 rfl)) (Or.inr (wdOf hw 93 rfl)) (by decide) (t := (.array .boolean)) (t' := (.array .int)) (by decide) (by decide)))
  have f_311 := f_279.other W_297 (Or.inr (slot_ne (Or.inr (wdOf hw 105 rfl)) (Or.inr (wdOf hw 93 rfl)) (by decide) (t := (.array .int)) (t' := (.array .int)) (by decide) (by decide)))
  have f_312 := f_280.other W_297 (Or.inr (slot_ne (Or.inr (wdOf hw 107 rfl)) (Or.inr (wdOf hw 93 rfl)) (by decide) (t := (.array .boolean)) (t' := (.array .int)) (by decide) (by decide)))
  have f_313 := f_281.other W_297 (Or.inr (slot_ne (Or.inr (wdOf hw 109 rfl)) (Or.inr (wdOf hw 93 rfl)) (by decide) (t := (.array .int)) (t' := (.array .int)) (by decide) (by decide)))
  have f_314 := f_282.other W_297 (Or.inr (slot_ne (Or.inr (wdOf hw 111 rfl)) (Or.inr (wdOf hw 93 rfl)) (by decide) (t := (.array .boolean)) (t' := (.array .int)) (by decide) (by decide)))
  have f_315 := f_283.other W_297 (Or.inr (slot_ne (Or.inr (wdOf hw 114 rfl)) (Or.inr (wdOf hw 93 rfl)) (by decide) (t := (.array .long)) (t' := (.array .int)) (by decide) (by decide)))
  have f_316 := f_284.other W_297 (Or.inr (slot_ne (Or.inl (wdOf hw 214 rfl)) (Or.inr (wdOf hw 93 rfl)) (by decide) (t := .long) (t' := (.array .int)) (by decide) (by decide)))
  have f_317 := f_285.other W_297 (Or.inr (slot_ne (Or.inl (wdOf hw 220 rfl)) (Or.inr (wdOf hw 93 rfl)) (by decide) (t := (.object "com/example/copse/copse/LinkCutForest")) (t' := (.array .int)) (by decide) (by decide)))
  have f_318 := f_286.wr W_297
  have f_319 := f_287.other W_297 (Or.inl (ne_exa f_286 f_267 (by decide)))
  have f_320 := f_288.other W_297 (Or.inl (ne_exa f_286 f_267 (by decide)))
  have f_321 := f_289.other W_297 (Or.inl (ne_exa f_286 f_267 (by decide)))
  have f_322 := f_290.other W_297 (Ne.symm (f_267.neArv f_290 (wdOf hw 66 rfl)))
  have f_323 := f_291.wr W_297
  have f_324 := f_292.other W_297 (Or.inl (ne_exa f_291 f_267 (by decide)))
  have f_325 := f_293.other W_297 (Ne.symm ne_61)
  have f_326 := f_294.other W_297 (Ne.symm ne_124)
  have f_327 := f_295.other W_297 (Ne.symm ne_190)
  have f_328 := V_258.other W_297 (Ne.symm ne_259)
  have y_329 : n0 ≤ h_297.size := Nat.le_trans (Nat.le_of_eq f_298.1.symm) f_298.2.1
  refine Goes.go (U' := (T_297.setTop (mkF m 51 #[sR_ tx, sI_ (4 : Int32), sI_ r, sR_ ax, sR_ la, sU_, sU_] []))) st_297 ?_
  have Bb_258 : Bar Z h_297 b_258 .int IxP := Bar.of_arv f_328 IxP.zeros ⟨0, rfl, by decide, by decide⟩
  refine Goes.go (U' := (T_297.setTop (mkF m 55 #[sR_ tx, sI_ (4 : Int32), sI_ r, sR_ ax, sR_ la, sU_, sU_] [(.int (5 : Int32)), (.ref tx)]))) (fun t kt => ?_) ?_
  · skip
    refine XS.aloadN X_297.here hx rfl (hb hby d_rm_ti2_51) rfl rfl ?_
    refine XS.iloadN X_297.here hx rfl (hb hby d_rm_ti2_52) rfl ?_
    refine XS.iconst X_297.here hx rfl (hb hby d_rm_ti2_53) ?_
    refine XS.iadd X_297.here hx rfl (hb hby d_rm_ti2_54) rfl ?_
    exact kt
  obtain ⟨T_330, h_330, k_330, X_330, e_330, E_330, A_330, st_330⟩ := newP X_297 hx hZ (wdOf hw 86 rfl) e_297 (g := (mkF m 55 #[sR_ tx, sI_ (4 : Int32), sI_ r, sR_ ax, sR_ la, sU_, sU_] [(.int (5 : Int32)), (.ref tx)])) rfl (hb hby d_rm_ti2_55) rfl (by decide) (cap := 5) (by decide) (by decide) (by decide) (by decide)
  obtain ⟨b_330, g_330⟩ : ∃ z, z = h_297.size := ⟨_, rfl⟩
  rw [← g_330] at A_330 st_330
  have ne_331 : tx ≠ b_330 := Nat.ne_of_lt (Nat.lt_of_lt_of_le f_299.lt (Nat.le_of_eq g_330.symm))
  have ne_332 : ax ≠ b_330 := Nat.ne_of_lt (Nat.lt_of_lt_of_le f_318.lt (Nat.le_of_eq g_330.symm))
  have ne_333 : ea ≠ b_330 := Nat.ne_of_lt (Nat.lt_of_lt_of_le f_322.lt (Nat.le_of_eq g_330.symm))
  have ne_334 : ob ≠ b_330 := Nat.ne_of_lt (Nat.lt_of_lt_of_le f_323.lt (Nat.le_of_eq g_330.symm))
  have ne_335 : b_60 ≠ b_330 := Nat.ne_of_lt (Nat.lt_of_lt_of_le f_325.lt (Nat.le_of_eq g_330.symm))
  have ne_336 : b_123 ≠ b_330 := Nat.ne_of_lt (Nat.lt_of_lt_of_le f_326.lt (Nat.le_of_eq g_330.symm))
  have ne_337 : b_189 ≠ b_330 := Nat.ne_of_lt (Nat.lt_of_lt_of_le f_327.lt (Nat.le_of_eq g_330.symm))
  have ne_338 : b_258 ≠ b_330 := Nat.ne_of_lt (Nat.lt_of_lt_of_le Bb_258.lt (Nat.le_of_eq g_330.symm))
  have o_330 : n0 ≤ b_330 := Nat.le_trans y_329 (Nat.le_of_eq g_330.symm)
  have f_339 := f_298.ext E_330
  have f_340 := f_299.ext E_330
  have f_341 := f_300.ext E_330
  have f_342 := f_301.ext E_330
  have f_343 := f_302.ext E_330
  have f_344 := f_303.ext E_330
  have f_345 := f_304.ext E_330
  have f_346 := f_305.ext E_330
  have f_347 := f_306.ext E_330
  have f_348 := f_307.ext E_330
  have f_349 := f_308.ext E_330
  have f_350 := f_309.ext E_330
  have f_351 := f_310.ext E_330
  have f_352 := f_311.ext E_330
  have f_353 := f_312.ext E_330
  have f_354 := f_313.ext E_330
  have f_355 := f_314.ext E_330
  have f_356 := f_315.ext E_330
  have f_357 := f_316.ext E_330
  have f_358 := f_317.ext E_330
  have f_359 := f_318.ext E_330
  have f_360 := f_319.ext E_330
  have f_361 := f_320.ext E_330
  have f_362 := f_321.ext E_330
  have f_363 := f_322.ext E_330
  have f_364 := f_323.ext E_330
  have f_365 := f_324.ext E_330
  have f_366 := f_325.ext E_330
  have f_367 := f_326.ext E_330
  have f_368 := f_327.ext E_330
  have f_369 := Bb_258.ext E_330
  have V_330 : Arv Z h_330 b_330 k_330 .int (5 : Int32) [(.int (0 : Int32)), (.int (0 : Int32)), (.int (0 : Int32)), (.int (0 : Int32)), (.int (0 : Int32))] (.int (0 : Int32)) := (Arv.new A_330 (by decide)).pad (pad_rep [] (.int (0 : Int32)) 5)
  have y_370 : n0 ≤ h_330.size := Nat.le_trans (Nat.le_of_eq f_339.1.symm) f_339.2.1
  refine Goes.go (U' := (T_330.setTop (mkF m 57 #[sR_ tx, sI_ (4 : Int32), sI_ r, sR_ ax, sR_ la, sU_, sU_] [(.ref b_330), (.ref tx)]))) st_330 ?_
  obtain ⟨T_371, h_371, X_371, e_371, W_371, st_371⟩ := putF X_330 hx hZ hown (host := "") (Or.inl (wdOf hw 94 rfl)) Via.refl e_330 f_347 f_340 (Or.inr ⟨wdOf hw 95 rfl, rfl, hnm⟩) (wdOf hw 66 rfl) (ty := (.array .int)) (by decide) rfl rfl (g := (mkF m 57 #[sR_ tx, sI_ (4 : Int32), sI_ r, sR_ ax, sR_ la, sU_, sU_] [(.ref b_330), (.ref tx)])) rfl rfl (hb hby d_rm_ti2_57)
  have N_371 := Fr.snoc X_371 N_297 o0
  have f_372 := f_339.wr W_371 o0
  have f_373 := f_340.wr W_371
  have f_374 := f_341.other W_371 (Or.inr (slot_ne (Or.inl (wdOf hw 79 rfl)) (Or.inr (wdOf hw 95 rfl)) (by decide) (t := .int) (t' := (.array .int)) (by decide) (by decide)))
  have f_375 := f_342.other W_371 (Or.inr (slot_ne (Or.inr (wdOf hw 81 rfl)) (Or.inr (wdOf hw 95 rfl)) (by decide) (t := .int) (t' := (.array .int)) (by decide) (by decide)))
  have f_376 := f_343.other W_371 (Or.inr (slot_ne (Or.inr (wdOf hw 85 rfl)) (Or.inr (wdOf hw 95 rfl)) (by decide) (t := (.array (.object "com/example/copse/copse/Arc"))) (t' := (.array .int)) (by decide) (by decide)))
  have f_377 := f_344.other W_371 (Or.inr (slot_ne (Or.inr (wdOf hw 88 rfl)) (Or.inr (wdOf hw 95 rfl)) (by decide) (t := (.array .int)) (t' := (.array .int)) (by decide) (by decide)))
  have f_378 := f_345.other W_371 (Or.inr (slot_ne (Or.inr (wdOf hw 91 rfl)) (Or.inr (wdOf hw 95 rfl)) (by decide) (t := (.array .boolean)) (t' := (.array .int)) (by decide) (by decide)))
  have f_379 := f_346.other W_371 (Or.inr (slot_ne (Or.inr (wdOf hw 93 rfl)) (Or.inr (wdOf hw 95 rfl)) (by decide) (t := (.array .int)) (t' := (.array .int)) (by decide) (by decide)))
  have f_380 := f_347.same W_371
  have f_381 := f_348.other W_371 (Or.inr (slot_ne (Or.inr (wdOf hw 97 rfl)) (Or.inr (wdOf hw 95 rfl)) (by decide) (t := (.array .int)) (t' := (.array .int)) (by decide) (by decide)))
  have f_382 := f_349.other W_371 (Or.inr (slot_ne (Or.inr (wdOf hw 99 rfl)) (Or.inr (wdOf hw 95 rfl)) (by decide) (t := (.object "java/util/function/Predicate")) (t' := (.array .int)) (by decide) (by decide)))
  have f_383 := f_350.other W_371 (Or.inr (slot_ne (Or.inr (wdOf hw 101 rfl)) (Or.inr (wdOf hw 95 rfl)) (by decide) (t := (.array .boolean)) (t' := (.array .int)) (by decide) (by decide)))
  have f_384 := f_351.other W_371 (Or.inr (slot_ne (Or.inr (wdOf hw 103 rfl)) (Or.inr (wdOf hw 95 rfl)) (by decide) (t := (.array .boolean)) (t' := (.array .int)) (by decide) (by decide)))
  have f_385 := f_352.other W_371 (Or.inr (slot_ne (Or.inr (wdOf hw 105 rfl)) (Or.inr (wdOf hw 95 rfl)) (by decide) (t := (.array .int)) (t' := (.array .int)) (by decide) (by decide)))
  have f_386 := f_353.other W_371 (Or.inr (slot_ne (Or.inr (wdOf hw 107 rfl)) (Or.inr (wdOf hw 95 rfl)) (by decide) (t := (.array .boolean)) (t' := (.array .int)) (by decide) (by decide)))
  have f_387 := f_354.other W_371 (Or.inr (slot_ne (Or.inr (wdOf hw 109 rfl)) (Or.inr (wdOf hw 95 rfl)) (by decide) (t := (.array .int)) (t' := (.array .int)) (by decide) (by decide)))
  have f_388 := f_355.other W_371 (Or.inr (slot_ne (Or.inr (wdOf hw 111 rfl)) (Or.inr (wdOf hw 95 rfl)) (by decide) (t := (.array .boolean)) (t' := (.array .int)) (by decide) (by decide)))
  have f_389 := f_356.other W_371 (Or.inr (slot_ne (Or.inr (wdOf hw 114 rfl)) (Or.inr (wdOf hw 95 rfl)) (by decide) (t := (.array .long)) (t' := (.array .int)) (by decide) (by decide)))
  have f_390 := f_357.other W_371 (Or.inr (slot_ne (Or.inl (wdOf hw 214 rfl)) (Or.inr (wdOf hw 95 rfl)) (by decide) (t := .long) (t' := (.array .int)) (by decide) (by decide)))
  have f_391 := f_358.other W_371 (Or.inr (slot_ne (Or.inl (wdOf hw 220 rfl)) (Or.inr (wdOf hw 95 rfl)) (by decide) (t := (.object "com/example/copse/copse/LinkCutForest")) (t' := (.array .int)) (by decide) (by decide)))
  have f_392 := f_359.wr W_371
  have f_393 := f_360.other W_371 (Or.inl (ne_exa f_359 f_340 (by decide)))
  have f_394 := f_361.other W_371 (Or.inl (ne_exa f_359 f_340 (by decide)))
  have f_395 := f_362.other W_371 (Or.inl (ne_exa f_359 f_340 (by decide)))
  have f_396 := f_363.other W_371 (Ne.symm (f_340.neArv f_363 (wdOf hw 66 rfl)))
  have f_397 := f_364.wr W_371
  have f_398 := f_365.other W_371 (Or.inl (ne_exa f_364 f_340 (by decide)))
  have f_399 := f_366.other W_371 (Ne.symm ne_61)
  have f_400 := f_367.other W_371 (Ne.symm ne_124)
  have f_401 := f_368.other W_371 (Ne.symm ne_190)
  have f_402 := f_369.other W_371 (Ne.symm ne_259)
  have f_403 := V_330.other W_371 (Ne.symm ne_331)
  have y_404 : n0 ≤ h_371.size := Nat.le_trans (Nat.le_of_eq f_372.1.symm) f_372.2.1
  refine Goes.go (U' := (T_371.setTop (mkF m 60 #[sR_ tx, sI_ (4 : Int32), sI_ r, sR_ ax, sR_ la, sU_, sU_] []))) st_371 ?_
  have Bb_330 : Bar Z h_371 b_330 .int IntP := Bar.of_arv f_403 IntP.zeros (IntP.mk 0)
  refine Goes.go (U' := (T_371.setTop (mkF m 64 #[sR_ tx, sI_ (4 : Int32), sI_ r, sR_ ax, sR_ la, sU_, sU_] [(.int (5 : Int32)), (.ref tx)]))) (fun t kt => ?_) ?_
  · skip
    refine XS.aloadN X_371.here hx rfl (hb hby d_rm_ti2_60) rfl rfl ?_
    refine XS.iloadN X_371.here hx rfl (hb hby d_rm_ti2_61) rfl ?_
    refine XS.iconst X_371.here hx rfl (hb hby d_rm_ti2_62) ?_
    refine XS.iadd X_371.here hx rfl (hb hby d_rm_ti2_63) rfl ?_
    exact kt
  obtain ⟨T_405, h_405, k_405, X_405, e_405, E_405, A_405, st_405⟩ := newP X_371 hx hZ (wdOf hw 86 rfl) e_371 (g := (mkF m 64 #[sR_ tx, sI_ (4 : Int32), sI_ r, sR_ ax, sR_ la, sU_, sU_] [(.int (5 : Int32)), (.ref tx)])) rfl (hb hby d_rm_ti2_64) rfl (by decide) (cap := 5) (by decide) (by decide) (by decide) (by decide)
  obtain ⟨b_405, g_405⟩ : ∃ z, z = h_371.size := ⟨_, rfl⟩
  rw [← g_405] at A_405 st_405
  have ne_406 : tx ≠ b_405 := Nat.ne_of_lt (Nat.lt_of_lt_of_le f_373.lt (Nat.le_of_eq g_405.symm))
  have ne_407 : ax ≠ b_405 := Nat.ne_of_lt (Nat.lt_of_lt_of_le f_392.lt (Nat.le_of_eq g_405.symm))
  have ne_408 : ea ≠ b_405 := Nat.ne_of_lt (Nat.lt_of_lt_of_le f_396.lt (Nat.le_of_eq g_405.symm))
  have ne_409 : ob ≠ b_405 := Nat.ne_of_lt (Nat.lt_of_lt_of_le f_397.lt (Nat.le_of_eq g_405.symm))
  have ne_410 : b_60 ≠ b_405 := Nat.ne_of_lt (Nat.lt_of_lt_of_le f_399.lt (Nat.le_of_eq g_405.symm))
  have ne_411 : b_123 ≠ b_405 := Nat.ne_of_lt (Nat.lt_of_lt_of_le f_400.lt (Nat.le_of_eq g_405.symm))
  have ne_412 : b_189 ≠ b_405 := Nat.ne_of_lt (Nat.lt_of_lt_of_le f_401.lt (Nat.le_of_eq g_405.symm))
  have ne_413 : b_258 ≠ b_405 := Nat.ne_of_lt (Nat.lt_of_lt_of_le f_402.lt (Nat.le_of_eq g_405.symm))
  have ne_414 : b_330 ≠ b_405 := Nat.ne_of_lt (Nat.lt_of_lt_of_le Bb_330.lt (Nat.le_of_eq g_405.symm))
  have o_405 : n0 ≤ b_405 := Nat.le_trans y_404 (Nat.le_of_eq g_405.symm)
  have f_415 := f_372.ext E_405
  have f_416 := f_373.ext E_405
  have f_417 := f_374.ext E_405
  have f_418 := f_375.ext E_405
  have f_419 := f_376.ext E_405
  have f_420 := f_377.ext E_405
  have f_421 := f_378.ext E_405
  have f_422 := f_379.ext E_405
  have f_423 := f_380.ext E_405
  have f_424 := f_381.ext E_405
  have f_425 := f_382.ext E_405
  have f_426 := f_383.ext E_405
  have f_427 := f_384.ext E_405
  have f_428 := f_385.ext E_405
  have f_429 := f_386.ext E_405
  have f_430 := f_387.ext E_405
  have f_431 := f_388.ext E_405
  have f_432 := f_389.ext E_405
  have f_433 := f_390.ext E_405
  have f_434 := f_391.ext E_405
  have f_435 := f_392.ext E_405
  have f_436 := f_393.ext E_405
  have f_437 := f_394.ext E_405
  have f_438 := f_395.ext E_405
  have f_439 := f_396.ext E_405
  have f_440 := f_397.ext E_405
  have f_441 := f_398.ext E_405
  have f_442 := f_399.ext E_405
  have f_443 := f_400.ext E_405
  have f_444 := f_401.ext E_405
  have f_445 := f_402.ext E_405
  have f_446 := Bb_330.ext E_405
  have V_405 : Arv Z h_405 b_405 k_405 .int (5 : Int32) [(.int (0 : Int32)), (.int (0 : Int32)), (.int (0 : Int32)), (.int (0 : Int32)), (.int (0 : Int32))] (.int (0 : Int32)) := (Arv.new A_405 (by decide)).pad (pad_rep [] (.int (0 : Int32)) 5)
  have y_447 : n0 ≤ h_405.size := Nat.le_trans (Nat.le_of_eq f_415.1.symm) f_415.2.1
  refine Goes.go (U' := (T_405.setTop (mkF m 66 #[sR_ tx, sI_ (4 : Int32), sI_ r, sR_ ax, sR_ la, sU_, sU_] [(.ref b_405), (.ref tx)]))) st_405 ?_
  obtain ⟨T_448, h_448, X_448, e_448, W_448, st_448⟩ := putF X_405 hx hZ hown (host := "") (Or.inl (wdOf hw 96 rfl)) Via.refl e_405 f_424 f_416 (Or.inr ⟨wdOf hw 97 rfl, rfl, hnm⟩) (wdOf hw 66 rfl) (ty := (.array .int)) (by decide) rfl rfl (g := (mkF m 66 #[sR_ tx, sI_ (4 : Int32), sI_ r, sR_ ax, sR_ la, sU_, sU_] [(.ref b_405), (.ref tx)])) rfl rfl (hb hby d_rm_ti2_66)
  have N_448 := Fr.snoc X_448 N_371 o0
  have f_449 := f_415.wr W_448 o0
  have f_450 := f_416.wr W_448
  have f_451 := f_417.other W_448 (Or.inr (slot_ne (Or.inl (wdOf hw 79 rfl)) (Or.inr (wdOf hw 97 rfl)) (by decide) (t := .int) (t' := (.array .int)) (by decide) (by decide)))
  have f_452 := f_418.other W_448 (Or.inr (slot_ne (Or.inr (wdOf hw 81 rfl)) (Or.inr (wdOf hw 97 rfl)) (by decide) (t := .int) (t' := (.array .int)) (by decide) (by decide)))
  have f_453 := f_419.other W_448 (Or.inr (slot_ne (Or.inr (wdOf hw 85 rfl)) (Or.inr (wdOf hw 97 rfl)) (by decide) (t := (.array (.object "com/example/copse/copse/Arc"))) (t' := (.array .int)) (by decide) (by decide)))
  have f_454 := f_420.other W_448 (Or.inr (slot_ne (Or.inr (wdOf hw 88 rfl)) (Or.inr (wdOf hw 97 rfl)) (by decide) (t := (.array .int)) (t' := (.array .int)) (by decide) (by decide)))
  have f_455 := f_421.other W_448 (Or.inr (slot_ne (Or.inr (wdOf hw 91 rfl)) (Or.inr (wdOf hw 97 rfl)) (by decide) (t := (.array .boolean)) (t' := (.array .int)) (by decide) (by decide)))
  have f_456 := f_422.other W_448 (Or.inr (slot_ne (Or.inr (wdOf hw 93 rfl)) (Or.inr (wdOf hw 97 rfl)) (by decide) (t := (.array .int)) (t' := (.array .int)) (by decide) (by decide)))
  have f_457 := f_423.other W_448 (Or.inr (slot_ne (Or.inr (wdOf hw 95 rfl)) (Or.inr (wdOf hw 97 rfl)) (by decide) (t := (.array .int)) (t' := (.array .int)) (by decide) (by decide)))
  have f_458 := f_424.same W_448
  have f_459 := f_425.other W_448 (Or.inr (slot_ne (Or.inr (wdOf hw 99 rfl)) (Or.inr (wdOf hw 97 rfl)) (by decide) (t := (.object "java/util/function/Predicate")) (t' := (.array .int)) (by decide) (by decide)))
  have f_460 := f_426.other W_448 (Or.inr (slot_ne (Or.inr (wdOf hw 101 rfl)) (Or.inr (wdOf hw 97 rfl)) (by decide) (t := (.array .boolean)) (t' := (.array .int)) (by decide) (by decide)))
  have f_461 := f_427.other W_448 (Or.inr (slot_ne (Or.inr (wdOf hw 103 rfl)) (Or.inr (wdOf hw 97 rfl)) (by decide) (t := (.array .boolean)) (t' := (.array .int)) (by decide) (by decide)))
  have f_462 := f_428.other W_448 (Or.inr (slot_ne (Or.inr (wdOf hw 105 rfl)) (Or.inr (wdOf hw 97 rfl)) (by decide) (t := (.array .int)) (t' := (.array .int)) (by decide) (by decide)))
  have f_463 := f_429.other W_448 (Or.inr (slot_ne (Or.inr (wdOf hw 107 rfl)) (Or.inr (wdOf hw 97 rfl)) (by decide) (t := (.array .boolean)) (t' := (.array .int)) (by decide) (by decide)))
  have f_464 := f_430.other W_448 (Or.inr (slot_ne (Or.inr (wdOf hw 109 rfl)) (Or.inr (wdOf hw 97 rfl)) (by decide) (t := (.array .int)) (t' := (.array .int)) (by decide) (by decide)))
  have f_465 := f_431.other W_448 (Or.inr (slot_ne (Or.inr (wdOf hw 111 rfl)) (Or.inr (wdOf hw 97 rfl)) (by decide) (t := (.array .boolean)) (t' := (.array .int)) (by decide) (by decide)))
  have f_466 := f_432.other W_448 (Or.inr (slot_ne (Or.inr (wdOf hw 114 rfl)) (Or.inr (wdOf hw 97 rfl)) (by decide) (t := (.array .long)) (t' := (.array .int)) (by decide) (by decide)))
  have f_467 := f_433.other W_448 (Or.inr (slot_ne (Or.inl (wdOf hw 214 rfl)) (Or.inr (wdOf hw 97 rfl)) (by decide) (t := .long) (t' := (.array .int)) (by decide) (by decide)))
  have f_468 := f_434.other W_448 (Or.inr (slot_ne (Or.inl (wdOf hw 220 rfl)) (Or.inr (wdOf hw 97 rfl)) (by decide) (t := (.object "com/example/copse/copse/LinkCutForest")) (t' := (.array .int)) (by decide) (by decide)))
  have f_469 := f_435.wr W_448
  have f_470 := f_436.other W_448 (Or.inl (ne_exa f_435 f_416 (by decide)))
  have f_471 := f_437.other W_448 (Or.inl (ne_exa f_435 f_416 (by decide)))
  have f_472 := f_438.other W_448 (Or.inl (ne_exa f_435 f_416 (by decide)))
  have f_473 := f_439.other W_448 (Ne.symm (f_416.neArv f_439 (wdOf hw 66 rfl)))
  have f_474 := f_440.wr W_448
  have f_475 := f_441.other W_448 (Or.inl (ne_exa f_440 f_416 (by decide)))
  have f_476 := f_442.other W_448 (Ne.symm ne_61)
  have f_477 := f_443.other W_448 (Ne.symm ne_124)
  have f_478 := f_444.other W_448 (Ne.symm ne_190)
  have f_479 := f_445.other W_448 (Ne.symm ne_259)
  have f_480 := f_446.other W_448 (Ne.symm ne_331)
  have f_481 := V_405.other W_448 (Ne.symm ne_406)
  have y_482 : n0 ≤ h_448.size := Nat.le_trans (Nat.le_of_eq f_449.1.symm) f_449.2.1
  refine Goes.go (U' := (T_448.setTop (mkF m 69 #[sR_ tx, sI_ (4 : Int32), sI_ r, sR_ ax, sR_ la, sU_, sU_] []))) st_448 ?_
  have Bb_405 : Bar Z h_448 b_405 .int IntP := Bar.of_arv f_481 IntP.zeros (IntP.mk 0)
  refine Goes.go (U' := (T_448.setTop (mkF m 72 #[sR_ tx, sI_ (4 : Int32), sI_ r, sR_ ax, sR_ la, sU_, sU_] [(.ref la), (.ref tx)]))) (fun t kt => ?_) ?_
  · skip
    refine XS.aloadN X_448.here hx rfl (hb hby d_rm_ti2_69) rfl rfl ?_
    refine XS.aload X_448.here hx rfl (hb hby d_rm_ti2_70) rfl rfl ?_
    exact kt
  obtain ⟨T_483, h_483, X_483, e_483, W_483, st_483⟩ := putF X_448 hx hZ hown (host := "") (Or.inl (wdOf hw 98 rfl)) Via.refl e_448 f_459 f_450 (Or.inr ⟨wdOf hw 99 rfl, rfl, hnm⟩) (wdOf hw 66 rfl) (ty := (.object "java/util/function/Predicate")) (by decide) rfl rfl (g := (mkF m 72 #[sR_ tx, sI_ (4 : Int32), sI_ r, sR_ ax, sR_ la, sU_, sU_] [(.ref la), (.ref tx)])) rfl rfl (hb hby d_rm_ti2_72)
  have N_483 := Fr.snoc X_483 N_448 o0
  have f_484 := f_449.wr W_483 o0
  have f_485 := f_450.wr W_483
  have f_486 := f_451.other W_483 (Or.inr (slot_ne (Or.inl (wdOf hw 79 rfl)) (Or.inr (wdOf hw 99 rfl)) (by decide) (t := .int) (t' := (.object "java/util/function/Predicate")) (by decide) (by decide)))
  have f_487 := f_452.other W_483 (Or.inr (slot_ne (Or.inr (wdOf hw 81 rfl)) (Or.inr (wdOf hw 99 rfl)) (by decide) (t := .int) (t' := (.object "java/util/function/Predicate")) (by decide) (by decide)))
  have f_488 := f_453.other W_483 (Or.inr (slot_ne (Or.inr (wdOf hw 85 rfl)) (Or.inr (wdOf hw 99 rfl)) (by decide) (t := (.array (.object "com/example/copse/copse/Arc"))) (t' := (.object "java/util/function/Predicate")) (by decide) (by decide)))
  have f_489 := f_454.other W_483 (Or.inr (slot_ne (Or.inr (wdOf hw 88 rfl)) (Or.inr (wdOf hw 99 rfl)) (by decide) (t := (.array .int)) (t' := (.object "java/util/function/Predicate")) (by decide) (by decide)))
  have f_490 := f_455.other W_483 (Or.inr (slot_ne (Or.inr (wdOf hw 91 rfl)) (Or.inr (wdOf hw 99 rfl)) (by decide) (t := (.array .boolean)) (t' := (.object "java/util/function/Predicate")) (by decide) (by decide)))
  have f_491 := f_456.other W_483 (Or.inr (slot_ne (Or.inr (wdOf hw 93 rfl)) (Or.inr (wdOf hw 99 rfl)) (by decide) (t := (.array .int)) (t' := (.object "java/util/function/Predicate")) (by decide) (by decide)))
  have f_492 := f_457.other W_483 (Or.inr (slot_ne (Or.inr (wdOf hw 95 rfl)) (Or.inr (wdOf hw 99 rfl)) (by decide) (t := (.array .int)) (t' := (.object "java/util/function/Predicate")) (by decide) (by decide)))
  have f_493 := f_458.other W_483 (Or.inr (slot_ne (Or.inr (wdOf hw 97 rfl)) (Or.inr (wdOf hw 99 rfl)) (by decide) (t := (.array .int)) (t' := (.object "java/util/function/Predicate")) (by decide) (by decide)))
  have f_494 := f_459.same W_483
  have f_495 := f_460.other W_483 (Or.inr (slot_ne (Or.inr (wdOf hw 101 rfl)) (Or.inr (wdOf hw 99 rfl)) (by decide) (t := (.array .boolean)) (t' := (.object "java/util/function/Predicate")) (by decide) (by decide)))
  have f_496 := f_461.other W_483 (Or.inr (slot_ne (Or.inr (wdOf hw 103 rfl)) (Or.inr (wdOf hw 99 rfl)) (by decide) (t := (.array .boolean)) (t' := (.object "java/util/function/Predicate")) (by decide) (by decide)))
  have f_497 := f_462.other W_483 (Or.inr (slot_ne (Or.inr (wdOf hw 105 rfl)) (Or.inr (wdOf hw 99 rfl)) (by decide) (t := (.array .int)) (t' := (.object "java/util/function/Predicate")) (by decide) (by decide)))
  have f_498 := f_463.other W_483 (Or.inr (slot_ne (Or.inr (wdOf hw 107 rfl)) (Or.inr (wdOf hw 99 rfl)) (by decide) (t := (.array .boolean)) (t' := (.object "java/util/function/Predicate")) (by decide) (by decide)))
  have f_499 := f_464.other W_483 (Or.inr (slot_ne (Or.inr (wdOf hw 109 rfl)) (Or.inr (wdOf hw 99 rfl)) (by decide) (t := (.array .int)) (t' := (.object "java/util/function/Predicate")) (by decide) (by decide)))
  have f_500 := f_465.other W_483 (Or.inr (slot_ne (Or.inr (wdOf hw 111 rfl)) (Or.inr (wdOf hw 99 rfl)) (by decide) (t := (.array .boolean)) (t' := (.object "java/util/function/Predicate")) (by decide) (by decide)))
  have f_501 := f_466.other W_483 (Or.inr (slot_ne (Or.inr (wdOf hw 114 rfl)) (Or.inr (wdOf hw 99 rfl)) (by decide) (t := (.array .long)) (t' := (.object "java/util/function/Predicate")) (by decide) (by decide)))
  have f_502 := f_467.other W_483 (Or.inr (slot_ne (Or.inl (wdOf hw 214 rfl)) (Or.inr (wdOf hw 99 rfl)) (by decide) (t := .long) (t' := (.object "java/util/function/Predicate")) (by decide) (by decide)))
  have f_503 := f_468.other W_483 (Or.inr (slot_ne (Or.inl (wdOf hw 220 rfl)) (Or.inr (wdOf hw 99 rfl)) (by decide) (t := (.object "com/example/copse/copse/LinkCutForest")) (t' := (.object "java/util/function/Predicate")) (by decide) (by decide)))
  have f_504 := f_469.wr W_483
  have f_505 := f_470.other W_483 (Or.inl (ne_exa f_469 f_450 (by decide)))
  have f_506 := f_471.other W_483 (Or.inl (ne_exa f_469 f_450 (by decide)))
  have f_507 := f_472.other W_483 (Or.inl (ne_exa f_469 f_450 (by decide)))
  have f_508 := f_473.other W_483 (Ne.symm (f_450.neArv f_473 (wdOf hw 66 rfl)))
  have f_509 := f_474.wr W_483
  have f_510 := f_475.other W_483 (Or.inl (ne_exa f_474 f_450 (by decide)))
  have f_511 := f_476.other W_483 (Ne.symm ne_61)
  have f_512 := f_477.other W_483 (Ne.symm ne_124)
  have f_513 := f_478.other W_483 (Ne.symm ne_190)
  have f_514 := f_479.other W_483 (Ne.symm ne_259)
  have f_515 := f_480.other W_483 (Ne.symm ne_331)
  have f_516 := Bb_405.other W_483 (Ne.symm ne_406)
  have y_517 : n0 ≤ h_483.size := Nat.le_trans (Nat.le_of_eq f_484.1.symm) f_484.2.1
  refine Goes.go (U' := (T_483.setTop (mkF m 75 #[sR_ tx, sI_ (4 : Int32), sI_ r, sR_ ax, sR_ la, sU_, sU_] []))) st_483 ?_
  refine Goes.go (U' := (T_483.setTop (mkF m 79 #[sR_ tx, sI_ (4 : Int32), sI_ r, sR_ ax, sR_ la, sU_, sU_] [(.int (5 : Int32)), (.ref tx)]))) (fun t kt => ?_) ?_
  · skip
    refine XS.aloadN X_483.here hx rfl (hb hby d_rm_ti2_75) rfl rfl ?_
    refine XS.iloadN X_483.here hx rfl (hb hby d_rm_ti2_76) rfl ?_
    refine XS.iconst X_483.here hx rfl (hb hby d_rm_ti2_77) ?_
    refine XS.iadd X_483.here hx rfl (hb hby d_rm_ti2_78) rfl ?_
    exact kt
  obtain ⟨T_518, h_518, k_518, X_518, e_518, E_518, A_518, st_518⟩ := newP X_483 hx hZ (wdOf hw 89 rfl) e_483 (g := (mkF m 79 #[sR_ tx, sI_ (4 : Int32), sI_ r, sR_ ax, sR_ la, sU_, sU_] [(.int (5 : Int32)), (.ref tx)])) rfl (hb hby d_rm_ti2_79) rfl (by decide) (cap := 5) (by decide) (by decide) (by decide) (by decide)
  obtain ⟨b_518, g_518⟩ : ∃ z, z = h_483.size := ⟨_, rfl⟩
  rw [← g_518] at A_518 st_518
  have ne_519 : tx ≠ b_518 := Nat.ne_of_lt (Nat.lt_of_lt_of_le f_485.lt (Nat.le_of_eq g_518.symm))
  have ne_520 : ax ≠ b_518 := Nat.ne_of_lt (Nat.lt_of_lt_of_le f_504.lt (Nat.le_of_eq g_518.symm))
  have ne_521 : ea ≠ b_518 := Nat.ne_of_lt (Nat.lt_of_lt_of_le f_508.lt (Nat.le_of_eq g_518.symm))
  have ne_522 : ob ≠ b_518 := Nat.ne_of_lt (Nat.lt_of_lt_of_le f_509.lt (Nat.le_of_eq g_518.symm))
  have ne_523 : b_60 ≠ b_518 := Nat.ne_of_lt (Nat.lt_of_lt_of_le f_511.lt (Nat.le_of_eq g_518.symm))
  have ne_524 : b_123 ≠ b_518 := Nat.ne_of_lt (Nat.lt_of_lt_of_le f_512.lt (Nat.le_of_eq g_518.symm))
  have ne_525 : b_189 ≠ b_518 := Nat.ne_of_lt (Nat.lt_of_lt_of_le f_513.lt (Nat.le_of_eq g_518.symm))
  have ne_526 : b_258 ≠ b_518 := Nat.ne_of_lt (Nat.lt_of_lt_of_le f_514.lt (Nat.le_of_eq g_518.symm))
  have ne_527 : b_330 ≠ b_518 := Nat.ne_of_lt (Nat.lt_of_lt_of_le f_515.lt (Nat.le_of_eq g_518.symm))
  have ne_528 : b_405 ≠ b_518 := Nat.ne_of_lt (Nat.lt_of_lt_of_le f_516.lt (Nat.le_of_eq g_518.symm))
  have o_518 : n0 ≤ b_518 := Nat.le_trans y_517 (Nat.le_of_eq g_518.symm)
  have f_529 := f_484.ext E_518
  have f_530 := f_485.ext E_518
  have f_531 := f_486.ext E_518
  have f_532 := f_487.ext E_518
  have f_533 := f_488.ext E_518
  have f_534 := f_489.ext E_518
  have f_535 := f_490.ext E_518
  have f_536 := f_491.ext E_518
  have f_537 := f_492.ext E_518
  have f_538 := f_493.ext E_518
  have f_539 := f_494.ext E_518
  have f_540 := f_495.ext E_518
  have f_541 := f_496.ext E_518
  have f_542 := f_497.ext E_518
  have f_543 := f_498.ext E_518
  have f_544 := f_499.ext E_518
  have f_545 := f_500.ext E_518
  have f_546 := f_501.ext E_518
  have f_547 := f_502.ext E_518
  have f_548 := f_503.ext E_518
  have f_549 := f_504.ext E_518
  have f_550 := f_505.ext E_518
  have f_551 := f_506.ext E_518
  have f_552 := f_507.ext E_518
  have f_553 := f_508.ext E_518
  have f_554 := f_509.ext E_518
  have f_555 := f_510.ext E_518
  have f_556 := f_511.ext E_518
  have f_557 := f_512.ext E_518
  have f_558 := f_513.ext E_518
  have f_559 := f_514.ext E_518
  have f_560 := f_515.ext E_518
  have f_561 := f_516.ext E_518
  have V_518 : Arv Z h_518 b_518 k_518 .boolean (5 : Int32) [(.int (0 : Int32)), (.int (0 : Int32)), (.int (0 : Int32)), (.int (0 : Int32)), (.int (0 : Int32))] (.int (0 : Int32)) := (Arv.new A_518 (by decide)).pad (pad_rep [] (.int (0 : Int32)) 5)
  have y_562 : n0 ≤ h_518.size := Nat.le_trans (Nat.le_of_eq f_529.1.symm) f_529.2.1
  refine Goes.go (U' := (T_518.setTop (mkF m 81 #[sR_ tx, sI_ (4 : Int32), sI_ r, sR_ ax, sR_ la, sU_, sU_] [(.ref b_518), (.ref tx)]))) st_518 ?_
  obtain ⟨T_563, h_563, X_563, e_563, W_563, st_563⟩ := putF X_518 hx hZ hown (host := "") (Or.inl (wdOf hw 100 rfl)) Via.refl e_518 f_540 f_530 (Or.inr ⟨wdOf hw 101 rfl, rfl, hnm⟩) (wdOf hw 66 rfl) (ty := (.array .boolean)) (by decide) rfl rfl (g := (mkF m 81 #[sR_ tx, sI_ (4 : Int32), sI_ r, sR_ ax, sR_ la, sU_, sU_] [(.ref b_518), (.ref tx)])) rfl rfl (hb hby d_rm_ti2_81)
  have N_563 := Fr.snoc X_563 N_483 o0
  have f_564 := f_529.wr W_563 o0
  have f_565 := f_530.wr W_563
  have f_566 := f_531.other W_563 (Or.inr (slot_ne (Or.inl (wdOf hw 79 rfl)) (Or.inr (wdOf hw 101 rfl)) (by decide) (t := .int) (t' := (.array .boolean)) (by decide) (by decide)))
  have f_567 := f_532.other W_563 (Or.inr (slot_ne (Or.inr (wdOf hw 81 rfl)) (Or.inr (wdOf hw 101 rfl)) (by decide) (t := .int) (t' := (.array .boolean)) (by decide) (by decide)))
  have f_568 := f_533.other W_563 (Or.inr (slot_ne (Or.inr (wdOf hw 85 rfl)) (Or.inr (wdOf hw 101 rfl)) (by decide) (t := (.array (.object "com/example/copse/copse/Arc"))) (t' := (.array .boolean)) (by decide) (by decide)))
  have f_569 := f_534.other W_563 (Or.inr (slot_ne (Or.inr (wdOf hw 88 rfl)) (Or.inr (wdOf hw 101 rfl)) (by decide) (t := (.array .int)) (t' := (.array .boolean)) (by decide) (by decide)))
  have f_570 := f_535.other W_563 (Or.inr (slot_ne (Or.inr (wdOf hw 91 rfl)) (Or.inr (wdOf hw 101 rfl)) (by decide) (t := (.array .boolean)) (t' := (.array .boolean)) (by decide) (by decide)))
  have f_571 := f_536.other W_563 (Or.inr (slot_ne (Or.inr (wdOf hw 93 rfl)) (Or.inr (wdOf hw 101 rfl)) (by decide) (t := (.array .int)) (t' := (.array .boolean)) (by decide) (by decide)))
  have f_572 := f_537.other W_563 (Or.inr (slot_ne (Or.inr (wdOf hw 95 rfl)) (Or.inr (wdOf hw 101 rfl)) (by decide) (t := (.array .int)) (t' := (.array .boolean)) (by decide) (by decide)))
  have f_573 := f_538.other W_563 (Or.inr (slot_ne (Or.inr (wdOf hw 97 rfl)) (Or.inr (wdOf hw 101 rfl)) (by decide) (t := (.array .int)) (t' := (.array .boolean)) (by decide) (by decide)))
  have f_574 := f_539.other W_563 (Or.inr (slot_ne (Or.inr (wdOf hw 99 rfl)) (Or.inr (wdOf hw 101 rfl)) (by decide) (t := (.object "java/util/function/Predicate")) (t' := (.array .boolean)) (by decide) (by decide)))
  have f_575 := f_540.same W_563
  have f_576 := f_541.other W_563 (Or.inr (slot_ne (Or.inr (wdOf hw 103 rfl)) (Or.inr (wdOf hw 101 rfl)) (by decide) (t := (.array .boolean)) (t' := (.array .boolean)) (by decide) (by decide)))
  have f_577 := f_542.other W_563 (Or.inr (slot_ne (Or.inr (wdOf hw 105 rfl)) (Or.inr (wdOf hw 101 rfl)) (by decide) (t := (.array .int)) (t' := (.array .boolean)) (by decide) (by decide)))
  have f_578 := f_543.other W_563 (Or.inr (slot_ne (Or.inr (wdOf hw 107 rfl)) (Or.inr (wdOf hw 101 rfl)) (by decide) (t := (.array .boolean)) (t' := (.array .boolean)) (by decide) (by decide)))
  have f_579 := f_544.other W_563 (Or.inr (slot_ne (Or.inr (wdOf hw 109 rfl)) (Or.inr (wdOf hw 101 rfl)) (by decide) (t := (.array .int)) (t' := (.array .boolean)) (by decide) (by decide)))
  have f_580 := f_545.other W_563 (Or.inr (slot_ne (Or.inr (wdOf hw 111 rfl)) (Or.inr (wdOf hw 101 rfl)) (by decide) (t := (.array .boolean)) (t' := (.array .boolean)) (by decide) (by decide)))
  have f_581 := f_546.other W_563 (Or.inr (slot_ne (Or.inr (wdOf hw 114 rfl)) (Or.inr (wdOf hw 101 rfl)) (by decide) (t := (.array .long)) (t' := (.array .boolean)) (by decide) (by decide)))
  have f_582 := f_547.other W_563 (Or.inr (slot_ne (Or.inl (wdOf hw 214 rfl)) (Or.inr (wdOf hw 101 rfl)) (by decide) (t := .long) (t' := (.array .boolean)) (by decide) (by decide)))
  have f_583 := f_548.other W_563 (Or.inr (slot_ne (Or.inl (wdOf hw 220 rfl)) (Or.inr (wdOf hw 101 rfl)) (by decide) (t := (.object "com/example/copse/copse/LinkCutForest")) (t' := (.array .boolean)) (by decide) (by decide)))
  have f_584 := f_549.wr W_563
  have f_585 := f_550.other W_563 (Or.inl (ne_exa f_549 f_530 (by decide)))
  have f_586 := f_551.other W_563 (Or.inl (ne_exa f_549 f_530 (by decide)))
  have f_587 := f_552.other W_563 (Or.inl (ne_exa f_549 f_530 (by decide)))
  have f_588 := f_553.other W_563 (Ne.symm (f_530.neArv f_553 (wdOf hw 66 rfl)))
  have f_589 := f_554.wr W_563
  have f_590 := f_555.other W_563 (Or.inl (ne_exa f_554 f_530 (by decide)))
  have f_591 := f_556.other W_563 (Ne.symm ne_61)
  have f_592 := f_557.other W_563 (Ne.symm ne_124)
  have f_593 := f_558.other W_563 (Ne.symm ne_190)
  have f_594 := f_559.other W_563 (Ne.symm ne_259)
  have f_595 := f_560.other W_563 (Ne.symm ne_331)
  have f_596 := f_561.other W_563 (Ne.symm ne_406)
  have f_597 := V_518.other W_563 (Ne.symm ne_519)
  have y_598 : n0 ≤ h_563.size := Nat.le_trans (Nat.le_of_eq f_564.1.symm) f_564.2.1
  refine Goes.go (U' := (T_563.setTop (mkF m 84 #[sR_ tx, sI_ (4 : Int32), sI_ r, sR_ ax, sR_ la, sU_, sU_] []))) st_563 ?_
  have Bb_518 : Bar Z h_563 b_518 .boolean IntP := Bar.of_arv f_597 IntP.zeros (IntP.mk 0)
  refine Goes.go (U' := (T_563.setTop (mkF m 88 #[sR_ tx, sI_ (4 : Int32), sI_ r, sR_ ax, sR_ la, sU_, sU_] [(.int (5 : Int32)), (.ref tx)]))) (fun t kt => ?_) ?_
  · skip
    refine XS.aloadN X_563.here hx rfl (hb hby d_rm_ti2_84) rfl rfl ?_
    refine XS.iloadN X_563.here hx rfl (hb hby d_rm_ti2_85) rfl ?_
    refine XS.iconst X_563.here hx rfl (hb hby d_rm_ti2_86) ?_
    refine XS.iadd X_563.here hx rfl (hb hby d_rm_ti2_87) rfl ?_
    exact kt
  obtain ⟨T_599, h_599, k_599, X_599, e_599, E_599, A_599, st_599⟩ := newP X_563 hx hZ (wdOf hw 89 rfl) e_563 (g := (mkF m 88 #[sR_ tx, sI_ (4 : Int32), sI_ r, sR_ ax, sR_ la, sU_, sU_] [(.int (5 : Int32)), (.ref tx)])) rfl (hb hby d_rm_ti2_88) rfl (by decide) (cap := 5) (by decide) (by decide) (by decide) (by decide)
  obtain ⟨b_599, g_599⟩ : ∃ z, z = h_563.size := ⟨_, rfl⟩
  rw [← g_599] at A_599 st_599
  have ne_600 : tx ≠ b_599 := Nat.ne_of_lt (Nat.lt_of_lt_of_le f_565.lt (Nat.le_of_eq g_599.symm))
  have ne_601 : ax ≠ b_599 := Nat.ne_of_lt (Nat.lt_of_lt_of_le f_584.lt (Nat.le_of_eq g_599.symm))
  have ne_602 : ea ≠ b_599 := Nat.ne_of_lt (Nat.lt_of_lt_of_le f_588.lt (Nat.le_of_eq g_599.symm))
  have ne_603 : ob ≠ b_599 := Nat.ne_of_lt (Nat.lt_of_lt_of_le f_589.lt (Nat.le_of_eq g_599.symm))
  have ne_604 : b_60 ≠ b_599 := Nat.ne_of_lt (Nat.lt_of_lt_of_le f_591.lt (Nat.le_of_eq g_599.symm))
  have ne_605 : b_123 ≠ b_599 := Nat.ne_of_lt (Nat.lt_of_lt_of_le f_592.lt (Nat.le_of_eq g_599.symm))
  have ne_606 : b_189 ≠ b_599 := Nat.ne_of_lt (Nat.lt_of_lt_of_le f_593.lt (Nat.le_of_eq g_599.symm))
  have ne_607 : b_258 ≠ b_599 := Nat.ne_of_lt (Nat.lt_of_lt_of_le f_594.lt (Nat.le_of_eq g_599.symm))
  have ne_608 : b_330 ≠ b_599 := Nat.ne_of_lt (Nat.lt_of_lt_of_le f_595.lt (Nat.le_of_eq g_599.symm))
  have ne_609 : b_405 ≠ b_599 := Nat.ne_of_lt (Nat.lt_of_lt_of_le f_596.lt (Nat.le_of_eq g_599.symm))
  have ne_610 : b_518 ≠ b_599 := Nat.ne_of_lt (Nat.lt_of_lt_of_le Bb_518.lt (Nat.le_of_eq g_599.symm))
  have o_599 : n0 ≤ b_599 := Nat.le_trans y_598 (Nat.le_of_eq g_599.symm)
  have f_611 := f_564.ext E_599
  have f_612 := f_565.ext E_599
  have f_613 := f_566.ext E_599
  have f_614 := f_567.ext E_599
  have f_615 := f_568.ext E_599
  have f_616 := f_569.ext E_599
  have f_617 := f_570.ext E_599
  have f_618 := f_571.ext E_599
  have f_619 := f_572.ext E_599
  have f_620 := f_573.ext E_599
  have f_621 := f_574.ext E_599
  have f_622 := f_575.ext E_599
  have f_623 := f_576.ext E_599
  have f_624 := f_577.ext E_599
  have f_625 := f_578.ext E_599
  have f_626 := f_579.ext E_599
  have f_627 := f_580.ext E_599
  have f_628 := f_581.ext E_599
  have f_629 := f_582.ext E_599
  have f_630 := f_583.ext E_599
  have f_631 := f_584.ext E_599
  have f_632 := f_585.ext E_599
  have f_633 := f_586.ext E_599
  have f_634 := f_587.ext E_599
  have f_635 := f_588.ext E_599
  have f_636 := f_589.ext E_599
  have f_637 := f_590.ext E_599
  have f_638 := f_591.ext E_599
  have f_639 := f_592.ext E_599
  have f_640 := f_593.ext E_599
  have f_641 := f_594.ext E_599
  have f_642 := f_595.ext E_599
  have f_643 := f_596.ext E_599
  have f_644 := Bb_518.ext E_599
  have V_599 : Arv Z h_599 b_599 k_599 .boolean (5 : Int32) [(.int (0 : Int32)), (.int (0 : Int32)), (.int (0 : Int32)), (.int (0 : Int32)), (.int (0 : Int32))] (.int (0 : Int32)) := (Arv.new A_599 (by decide)).pad (pad_rep [] (.int (0 : Int32)) 5)
  have y_645 : n0 ≤ h_599.size := Nat.le_trans (Nat.le_of_eq f_611.1.symm) f_611.2.1
  refine Goes.go (U' := (T_599.setTop (mkF m 90 #[sR_ tx, sI_ (4 : Int32), sI_ r, sR_ ax, sR_ la, sU_, sU_] [(.ref b_599), (.ref tx)]))) st_599 ?_
  obtain ⟨T_646, h_646, X_646, e_646, W_646, st_646⟩ := putF X_599 hx hZ hown (host := "") (Or.inl (wdOf hw 102 rfl)) Via.refl e_599 f_623 f_612 (Or.inr ⟨wdOf hw 103 rfl, rfl, hnm⟩) (wdOf hw 66 rfl) (ty := (.array .boolean)) (by decide) rfl rfl (g := (mkF m 90 #[sR_ tx, sI_ (4 : Int32), sI_ r, sR_ ax, sR_ la, sU_, sU_] [(.ref b_599), (.ref tx)])) rfl rfl (hb hby d_rm_ti2_90)
  have N_646 := Fr.snoc X_646 N_563 o0
  have f_647 := f_611.wr W_646 o0
  have f_648 := f_612.wr W_646
  have f_649 := f_613.other W_646 (Or.inr (slot_ne (Or.inl (wdOf hw 79 rfl)) (Or.inr (wdOf hw 103 rfl)) (by decide) (t := .int) (t' := (.array .boolean)) (by decide) (by decide)))
  have f_650 := f_614.other W_646 (Or.inr (slot_ne (Or.inr (wdOf hw 81 rfl)) (Or.inr (wdOf hw 103 rfl)) (by decide) (t := .int) (t' := (.array .boolean)) (by decide) (by decide)))
  have f_651 := f_615.other W_646 (Or.inr (slot_ne (Or.inr (wdOf hw 85 rfl)) (Or.inr (wdOf hw 103 rfl)) (by decide) (t := (.array (.object "com/example/copse/copse/Arc"))) (t' := (.array .boolean)) (by decide) (by decide)))
  have f_652 := f_616.other W_646 (Or.inr (slot_ne (Or.inr (wdOf hw 88 rfl)) (Or.inr (wdOf hw 103 rfl)) (by decide) (t := (.array .int)) (t' := (.array .boolean)) (by decide) (by decide)))
  have f_653 := f_617.other W_646 (Or.inr (slot_ne (Or.inr (wdOf hw 91 rfl)) (Or.inr (wdOf hw 103 rfl)) (by decide) (t := (.array .boolean)) (t' := (.array .boolean)) (by decide) (by decide)))
  have f_654 := f_618.other W_646 (Or.inr (slot_ne (Or.inr (wdOf hw 93 rfl)) (Or.inr (wdOf hw 103 rfl)) (by decide) (t := (.array .int)) (t' := (.array .boolean)) (by decide) (by decide)))
  have f_655 := f_619.other W_646 (Or.inr (slot_ne (Or.inr (wdOf hw 95 rfl)) (Or.inr (wdOf hw 103 rfl)) (by decide) (t := (.array .int)) (t' := (.array .boolean)) (by decide) (by decide)))
  have f_656 := f_620.other W_646 (Or.inr (slot_ne (Or.inr (wdOf hw 97 rfl)) (Or.inr (wdOf hw 103 rfl)) (by decide) (t := (.array .int)) (t' := (.array .boolean)) (by decide) (by decide)))
  have f_657 := f_621.other W_646 (Or.inr (slot_ne (Or.inr (wdOf hw 99 rfl)) (Or.inr (wdOf hw 103 rfl)) (by decide) (t := (.object "java/util/function/Predicate")) (t' := (.array .boolean)) (by decide) (by decide)))
  have f_658 := f_622.other W_646 (Or.inr (slot_ne (Or.inr (wdOf hw 101 rfl)) (Or.inr (wdOf hw 103 rfl)) (by decide) (t := (.array .boolean)) (t' := (.array .boolean)) (by decide) (by decide)))
  have f_659 := f_623.same W_646
  have f_660 := f_624.other W_646 (Or.inr (slot_ne (Or.inr (wdOf hw 105 rfl)) (Or.inr (wdOf hw 103 rfl)) (by decide) (t := (.array .int)) (t' := (.array .boolean)) (by decide) (by decide)))
  have f_661 := f_625.other W_646 (Or.inr (slot_ne (Or.inr (wdOf hw 107 rfl)) (Or.inr (wdOf hw 103 rfl)) (by decide) (t := (.array .boolean)) (t' := (.array .boolean)) (by decide) (by decide)))
  have f_662 := f_626.other W_646 (Or.inr (slot_ne (Or.inr (wdOf hw 109 rfl)) (Or.inr (wdOf hw 103 rfl)) (by decide) (t := (.array .int)) (t' := (.array .boolean)) (by decide) (by decide)))
  have f_663 := f_627.other W_646 (Or.inr (slot_ne (Or.inr (wdOf hw 111 rfl)) (Or.inr (wdOf hw 103 rfl)) (by decide) (t := (.array .boolean)) (t' := (.array .boolean)) (by decide) (by decide)))
  have f_664 := f_628.other W_646 (Or.inr (slot_ne (Or.inr (wdOf hw 114 rfl)) (Or.inr (wdOf hw 103 rfl)) (by decide) (t := (.array .long)) (t' := (.array .boolean)) (by decide) (by decide)))
  have f_665 := f_629.other W_646 (Or.inr (slot_ne (Or.inl (wdOf hw 214 rfl)) (Or.inr (wdOf hw 103 rfl)) (by decide) (t := .long) (t' := (.array .boolean)) (by decide) (by decide)))
  have f_666 := f_630.other W_646 (Or.inr (slot_ne (Or.inl (wdOf hw 220 rfl)) (Or.inr (wdOf hw 103 rfl)) (by decide) (t := (.object "com/example/copse/copse/LinkCutForest")) (t' := (.array .boolean)) (by decide) (by decide)))
  have f_667 := f_631.wr W_646
  have f_668 := f_632.other W_646 (Or.inl (ne_exa f_631 f_612 (by decide)))
  have f_669 := f_633.other W_646 (Or.inl (ne_exa f_631 f_612 (by decide)))
  have f_670 := f_634.other W_646 (Or.inl (ne_exa f_631 f_612 (by decide)))
  have f_671 := f_635.other W_646 (Ne.symm (f_612.neArv f_635 (wdOf hw 66 rfl)))
  have f_672 := f_636.wr W_646
  have f_673 := f_637.other W_646 (Or.inl (ne_exa f_636 f_612 (by decide)))
  have f_674 := f_638.other W_646 (Ne.symm ne_61)
  have f_675 := f_639.other W_646 (Ne.symm ne_124)
  have f_676 := f_640.other W_646 (Ne.symm ne_190)
  have f_677 := f_641.other W_646 (Ne.symm ne_259)
  have f_678 := f_642.other W_646 (Ne.symm ne_331)
  have f_679 := f_643.other W_646 (Ne.symm ne_406)
  have f_680 := f_644.other W_646 (Ne.symm ne_519)
  have f_681 := V_599.other W_646 (Ne.symm ne_600)
  have y_682 : n0 ≤ h_646.size := Nat.le_trans (Nat.le_of_eq f_647.1.symm) f_647.2.1
  refine Goes.go (U' := (T_646.setTop (mkF m 93 #[sR_ tx, sI_ (4 : Int32), sI_ r, sR_ ax, sR_ la, sU_, sU_] []))) st_646 ?_
  refine Goes.go (U' := (T_646.setTop (mkF m 97 #[sR_ tx, sI_ (4 : Int32), sI_ r, sR_ ax, sR_ la, sU_, sU_] [(.int (5 : Int32)), (.ref tx)]))) (fun t kt => ?_) ?_
  · skip
    refine XS.aloadN X_646.here hx rfl (hb hby d_rm_ti2_93) rfl rfl ?_
    refine XS.iloadN X_646.here hx rfl (hb hby d_rm_ti2_94) rfl ?_
    refine XS.iconst X_646.here hx rfl (hb hby d_rm_ti2_95) ?_
    refine XS.iadd X_646.here hx rfl (hb hby d_rm_ti2_96) rfl ?_
    exact kt
  obtain ⟨T_683, h_683, k_683, X_683, e_683, E_683, A_683, st_683⟩ := newP X_646 hx hZ (wdOf hw 86 rfl) e_646 (g := (mkF m 97 #[sR_ tx, sI_ (4 : Int32), sI_ r, sR_ ax, sR_ la, sU_, sU_] [(.int (5 : Int32)), (.ref tx)])) rfl (hb hby d_rm_ti2_97) rfl (by decide) (cap := 5) (by decide) (by decide) (by decide) (by decide)
  obtain ⟨b_683, g_683⟩ : ∃ z, z = h_646.size := ⟨_, rfl⟩
  rw [← g_683] at A_683 st_683
  have ne_684 : tx ≠ b_683 := Nat.ne_of_lt (Nat.lt_of_lt_of_le f_648.lt (Nat.le_of_eq g_683.symm))
  have ne_685 : ax ≠ b_683 := Nat.ne_of_lt (Nat.lt_of_lt_of_le f_667.lt (Nat.le_of_eq g_683.symm))
  have ne_686 : ea ≠ b_683 := Nat.ne_of_lt (Nat.lt_of_lt_of_le f_671.lt (Nat.le_of_eq g_683.symm))
  have ne_687 : ob ≠ b_683 := Nat.ne_of_lt (Nat.lt_of_lt_of_le f_672.lt (Nat.le_of_eq g_683.symm))
  have ne_688 : b_60 ≠ b_683 := Nat.ne_of_lt (Nat.lt_of_lt_of_le f_674.lt (Nat.le_of_eq g_683.symm))
  have ne_689 : b_123 ≠ b_683 := Nat.ne_of_lt (Nat.lt_of_lt_of_le f_675.lt (Nat.le_of_eq g_683.symm))
  have ne_690 : b_189 ≠ b_683 := Nat.ne_of_lt (Nat.lt_of_lt_of_le f_676.lt (Nat.le_of_eq g_683.symm))
  have ne_691 : b_258 ≠ b_683 := Nat.ne_of_lt (Nat.lt_of_lt_of_le f_677.lt (Nat.le_of_eq g_683.symm))
  have ne_692 : b_330 ≠ b_683 := Nat.ne_of_lt (Nat.lt_of_lt_of_le f_678.lt (Nat.le_of_eq g_683.symm))
  have ne_693 : b_405 ≠ b_683 := Nat.ne_of_lt (Nat.lt_of_lt_of_le f_679.lt (Nat.le_of_eq g_683.symm))
  have ne_694 : b_518 ≠ b_683 := Nat.ne_of_lt (Nat.lt_of_lt_of_le f_680.lt (Nat.le_of_eq g_683.symm))
  have o_683 : n0 ≤ b_683 := Nat.le_trans y_682 (Nat.le_of_eq g_683.symm)
  have f_695 := f_647.ext E_683
  have f_696 := f_648.ext E_683
  have f_697 := f_649.ext E_683
  have f_698 := f_650.ext E_683
  have f_699 := f_651.ext E_683
  have f_700 := f_652.ext E_683
  have f_701 := f_653.ext E_683
  have f_702 := f_654.ext E_683
  have f_703 := f_655.ext E_683
  have f_704 := f_656.ext E_683
  have f_705 := f_657.ext E_683
  have f_706 := f_658.ext E_683
  have f_707 := f_660.ext E_683
  have f_708 := f_661.ext E_683
  have f_709 := f_662.ext E_683
  have f_710 := f_663.ext E_683
  have f_711 := f_664.ext E_683
  have f_712 := f_665.ext E_683
  have f_713 := f_666.ext E_683
  have f_714 := f_667.ext E_683
  have f_715 := f_668.ext E_683
  have f_716 := f_669.ext E_683
  have f_717 := f_670.ext E_683
  have f_718 := f_671.ext E_683
  have f_719 := f_672.ext E_683
  have f_720 := f_673.ext E_683
  have f_721 := f_674.ext E_683
  have f_722 := f_675.ext E_683
  have f_723 := f_676.ext E_683
  have f_724 := f_677.ext E_683
  have f_725 := f_678.ext E_683
  have f_726 := f_679.ext E_683
  have f_727 := f_680.ext E_683
  have V_683 : Arv Z h_683 b_683 k_683 .int (5 : Int32) [(.int (0 : Int32)), (.int (0 : Int32)), (.int (0 : Int32)), (.int (0 : Int32)), (.int (0 : Int32))] (.int (0 : Int32)) := (Arv.new A_683 (by decide)).pad (pad_rep [] (.int (0 : Int32)) 5)
  have y_728 : n0 ≤ h_683.size := Nat.le_trans (Nat.le_of_eq f_695.1.symm) f_695.2.1
  refine Goes.go (U' := (T_683.setTop (mkF m 99 #[sR_ tx, sI_ (4 : Int32), sI_ r, sR_ ax, sR_ la, sU_, sU_] [(.ref b_683), (.ref tx)]))) st_683 ?_
  obtain ⟨T_729, h_729, X_729, e_729, W_729, st_729⟩ := putF X_683 hx hZ hown (host := "") (Or.inl (wdOf hw 104 rfl)) Via.refl e_683 f_707 f_696 (Or.inr ⟨wdOf hw 105 rfl, rfl, hnm⟩) (wdOf hw 66 rfl) (ty := (.array .int)) (by decide) rfl rfl (g := (mkF m 99 #[sR_ tx, sI_ (4 : Int32), sI_ r, sR_ ax, sR_ la, sU_, sU_] [(.ref b_683), (.ref tx)])) rfl rfl (hb hby d_rm_ti2_99)
  have N_729 := Fr.snoc X_729 N_646 o0
  have f_730 := f_695.wr W_729 o0
  have f_731 := f_696.wr W_729
  have f_732 := f_697.other W_729 (Or.inr (slot_ne (Or.inl (wdOf hw 79 rfl)) (Or.inr (wdOf hw 105 rfl)) (by decide) (t := .int) (t' := (.array .int)) (by decide) (by decide)))
  have f_733 := f_698.other W_729 (Or.inr (slot_ne (Or.inr (wdOf hw 81 rfl)) (Or.inr (wdOf hw 105 rfl)) (by decide) (t := .int) (t' := (.array .int)) (by decide) (by decide)))
  have f_734 := f_699.other W_729 (Or.inr (slot_ne (Or.inr (wdOf hw 85 rfl)) (Or.inr (wdOf hw 105 rfl)) (by decide) (t := (.array (.object "com/example/copse/copse/Arc"))) (t' := (.array .int)) (by decide) (by decide)))
  have f_735 := f_700.other W_729 (Or.inr (slot_ne (Or.inr (wdOf hw 88 rfl)) (Or.inr (wdOf hw 105 rfl)) (by decide) (t := (.array .int)) (t' := (.array .int)) (by decide) (by decide)))
  have f_736 := f_701.other W_729 (Or.inr (slot_ne (Or.inr (wdOf hw 91 rfl)) (Or.inr (wdOf hw 105 rfl)) (by decide) (t := (.array .boolean)) (t' := (.array .int)) (by decide) (by decide)))
  have f_737 := f_702.other W_729 (Or.inr (slot_ne (Or.inr (wdOf hw 93 rfl)) (Or.inr (wdOf hw 105 rfl)) (by decide) (t := (.array .int)) (t' := (.array .int)) (by decide) (by decide)))
  have f_738 := f_703.other W_729 (Or.inr (slot_ne (Or.inr (wdOf hw 95 rfl)) (Or.inr (wdOf hw 105 rfl)) (by decide) (t := (.array .int)) (t' := (.array .int)) (by decide) (by decide)))
  have f_739 := f_704.other W_729 (Or.inr (slot_ne (Or.inr (wdOf hw 97 rfl)) (Or.inr (wdOf hw 105 rfl)) (by decide) (t := (.array .int)) (t' := (.array .int)) (by decide) (by decide)))
  have f_740 := f_705.other W_729 (Or.inr (slot_ne (Or.inr (wdOf hw 99 rfl)) (Or.inr (wdOf hw 105 rfl)) (by decide) (t := (.object "java/util/function/Predicate")) (t' := (.array .int)) (by decide) (by decide)))
  have f_741 := f_706.other W_729 (Or.inr (slot_ne (Or.inr (wdOf hw 101 rfl)) (Or.inr (wdOf hw 105 rfl)) (by decide) (t := (.array .boolean)) (t' := (.array .int)) (by decide) (by decide)))
  have f_742 := f_707.same W_729
  have f_743 := f_708.other W_729 (Or.inr (slot_ne (Or.inr (wdOf hw 107 rfl)) (Or.inr (wdOf hw 105 rfl)) (by decide) (t := (.array .boolean)) (t' := (.array .int)) (by decide) (by decide)))
  have f_744 := f_709.other W_729 (Or.inr (slot_ne (Or.inr (wdOf hw 109 rfl)) (Or.inr (wdOf hw 105 rfl)) (by decide) (t := (.array .int)) (t' := (.array .int)) (by decide) (by decide)))
  have f_745 := f_710.other W_729 (Or.inr (slot_ne (Or.inr (wdOf hw 111 rfl)) (Or.inr (wdOf hw 105 rfl)) (by decide) (t := (.array .boolean)) (t' := (.array .int)) (by decide) (by decide)))
  have f_746 := f_711.other W_729 (Or.inr (slot_ne (Or.inr (wdOf hw 114 rfl)) (Or.inr (wdOf hw 105 rfl)) (by decide) (t := (.array .long)) (t' := (.array .int)) (by decide) (by decide)))
  have f_747 := f_712.other W_729 (Or.inr (slot_ne (Or.inl (wdOf hw 214 rfl)) (Or.inr (wdOf hw 105 rfl)) (by decide) (t := .long) (t' := (.array .int)) (by decide) (by decide)))
  have f_748 := f_713.other W_729 (Or.inr (slot_ne (Or.inl (wdOf hw 220 rfl)) (Or.inr (wdOf hw 105 rfl)) (by decide) (t := (.object "com/example/copse/copse/LinkCutForest")) (t' := (.array .int)) (by decide) (by decide)))
  have f_749 := f_714.wr W_729
  have f_750 := f_715.other W_729 (Or.inl (ne_exa f_714 f_696 (by decide)))
  have f_751 := f_716.other W_729 (Or.inl (ne_exa f_714 f_696 (by decide)))
  have f_752 := f_717.other W_729 (Or.inl (ne_exa f_714 f_696 (by decide)))
  have f_753 := f_718.other W_729 (Ne.symm (f_696.neArv f_718 (wdOf hw 66 rfl)))
  have f_754 := f_719.wr W_729
  have f_755 := f_720.other W_729 (Or.inl (ne_exa f_719 f_696 (by decide)))
  have f_756 := f_721.other W_729 (Ne.symm ne_61)
  have f_757 := f_722.other W_729 (Ne.symm ne_124)
  have f_758 := f_723.other W_729 (Ne.symm ne_190)
  have f_759 := f_724.other W_729 (Ne.symm ne_259)
  have f_760 := f_725.other W_729 (Ne.symm ne_331)
  have f_761 := f_726.other W_729 (Ne.symm ne_406)
  have f_762 := f_727.other W_729 (Ne.symm ne_519)
  have f_763 := V_683.other W_729 (Ne.symm ne_684)
  have y_764 : n0 ≤ h_729.size := Nat.le_trans (Nat.le_of_eq f_730.1.symm) f_730.2.1
  refine Goes.go (U' := (T_729.setTop (mkF m 102 #[sR_ tx, sI_ (4 : Int32), sI_ r, sR_ ax, sR_ la, sU_, sU_] []))) st_729 ?_
  refine Goes.go (U' := (T_729.setTop (mkF m 106 #[sR_ tx, sI_ (4 : Int32), sI_ r, sR_ ax, sR_ la, sU_, sU_] [(.int (5 : Int32)), (.ref tx)]))) (fun t kt => ?_) ?_
  · skip
    refine XS.aloadN X_729.here hx rfl (hb hby d_rm_ti2_102) rfl rfl ?_
    refine XS.iloadN X_729.here hx rfl (hb hby d_rm_ti2_103) rfl ?_
    refine XS.iconst X_729.here hx rfl (hb hby d_rm_ti2_104) ?_
    refine XS.iadd X_729.here hx rfl (hb hby d_rm_ti2_105) rfl ?_
    exact kt
  obtain ⟨T_765, h_765, k_765, X_765, e_765, E_765, A_765, st_765⟩ := newP X_729 hx hZ (wdOf hw 89 rfl) e_729 (g := (mkF m 106 #[sR_ tx, sI_ (4 : Int32), sI_ r, sR_ ax, sR_ la, sU_, sU_] [(.int (5 : Int32)), (.ref tx)])) rfl (hb hby d_rm_ti2_106) rfl (by decide) (cap := 5) (by decide) (by decide) (by decide) (by decide)
  obtain ⟨b_765, g_765⟩ : ∃ z, z = h_729.size := ⟨_, rfl⟩
  rw [← g_765] at A_765 st_765
  have ne_766 : tx ≠ b_765 := Nat.ne_of_lt (Nat.lt_of_lt_of_le f_731.lt (Nat.le_of_eq g_765.symm))
  have ne_767 : ax ≠ b_765 := Nat.ne_of_lt (Nat.lt_of_lt_of_le f_749.lt (Nat.le_of_eq g_765.symm))
  have ne_768 : ea ≠ b_765 := Nat.ne_of_lt (Nat.lt_of_lt_of_le f_753.lt (Nat.le_of_eq g_765.symm))
  have ne_769 : ob ≠ b_765 := Nat.ne_of_lt (Nat.lt_of_lt_of_le f_754.lt (Nat.le_of_eq g_765.symm))
  have ne_770 : b_60 ≠ b_765 := Nat.ne_of_lt (Nat.lt_of_lt_of_le f_756.lt (Nat.le_of_eq g_765.symm))
  have ne_771 : b_123 ≠ b_765 := Nat.ne_of_lt (Nat.lt_of_lt_of_le f_757.lt (Nat.le_of_eq g_765.symm))
  have ne_772 : b_189 ≠ b_765 := Nat.ne_of_lt (Nat.lt_of_lt_of_le f_758.lt (Nat.le_of_eq g_765.symm))
  have ne_773 : b_258 ≠ b_765 := Nat.ne_of_lt (Nat.lt_of_lt_of_le f_759.lt (Nat.le_of_eq g_765.symm))
  have ne_774 : b_330 ≠ b_765 := Nat.ne_of_lt (Nat.lt_of_lt_of_le f_760.lt (Nat.le_of_eq g_765.symm))
  have ne_775 : b_405 ≠ b_765 := Nat.ne_of_lt (Nat.lt_of_lt_of_le f_761.lt (Nat.le_of_eq g_765.symm))
  have ne_776 : b_518 ≠ b_765 := Nat.ne_of_lt (Nat.lt_of_lt_of_le f_762.lt (Nat.le_of_eq g_765.symm))
  have o_765 : n0 ≤ b_765 := Nat.le_trans y_764 (Nat.le_of_eq g_765.symm)
  have f_777 := f_730.ext E_765
  have f_778 := f_731.ext E_765
  have f_779 := f_732.ext E_765
  have f_780 := f_733.ext E_765
  have f_781 := f_734.ext E_765
  have f_782 := f_735.ext E_765
  have f_783 := f_736.ext E_765
  have f_784 := f_737.ext E_765
  have f_785 := f_738.ext E_765
  have f_786 := f_739.ext E_765
  have f_787 := f_740.ext E_765
  have f_788 := f_741.ext E_765
  have f_789 := f_743.ext E_765
  have f_790 := f_744.ext E_765
  have f_791 := f_745.ext E_765
  have f_792 := f_746.ext E_765
  have f_793 := f_747.ext E_765
  have f_794 := f_748.ext E_765
  have f_795 := f_749.ext E_765
  have f_796 := f_750.ext E_765
  have f_797 := f_751.ext E_765
  have f_798 := f_752.ext E_765
  have f_799 := f_753.ext E_765
  have f_800 := f_754.ext E_765
  have f_801 := f_755.ext E_765
  have f_802 := f_756.ext E_765
  have f_803 := f_757.ext E_765
  have f_804 := f_758.ext E_765
  have f_805 := f_759.ext E_765
  have f_806 := f_760.ext E_765
  have f_807 := f_761.ext E_765
  have f_808 := f_762.ext E_765
  have V_765 : Arv Z h_765 b_765 k_765 .boolean (5 : Int32) [(.int (0 : Int32)), (.int (0 : Int32)), (.int (0 : Int32)), (.int (0 : Int32)), (.int (0 : Int32))] (.int (0 : Int32)) := (Arv.new A_765 (by decide)).pad (pad_rep [] (.int (0 : Int32)) 5)
  have y_809 : n0 ≤ h_765.size := Nat.le_trans (Nat.le_of_eq f_777.1.symm) f_777.2.1
  refine Goes.go (U' := (T_765.setTop (mkF m 108 #[sR_ tx, sI_ (4 : Int32), sI_ r, sR_ ax, sR_ la, sU_, sU_] [(.ref b_765), (.ref tx)]))) st_765 ?_
  obtain ⟨T_810, h_810, X_810, e_810, W_810, st_810⟩ := putF X_765 hx hZ hown (host := "") (Or.inl (wdOf hw 106 rfl)) Via.refl e_765 f_789 f_778 (Or.inr ⟨wdOf hw 107 rfl, rfl, hnm⟩) (wdOf hw 66 rfl) (ty := (.array .boolean)) (by decide) rfl rfl (g := (mkF m 108 #[sR_ tx, sI_ (4 : Int32), sI_ r, sR_ ax, sR_ la, sU_, sU_] [(.ref b_765), (.ref tx)])) rfl rfl (hb hby d_rm_ti2_108)
  have N_810 := Fr.snoc X_810 N_729 o0
  have f_811 := f_777.wr W_810 o0
  have f_812 := f_778.wr W_810
  have f_813 := f_779.other W_810 (Or.inr (slot_ne (Or.inl (wdOf hw 79 rfl)) (Or.inr (wdOf hw 107 rfl)) (by decide) (t := .int) (t' := (.array .boolean)) (by decide) (by decide)))
  have f_814 := f_780.other W_810 (Or.inr (slot_ne (Or.inr (wdOf hw 81 rfl)) (Or.inr (wdOf hw 107 rfl)) (by decide) (t := .int) (t' := (.array .boolean)) (by decide) (by decide)))
  have f_815 := f_781.other W_810 (Or.inr (slot_ne (Or.inr (wdOf hw 85 rfl)) (Or.inr (wdOf hw 107 rfl)) (by decide) (t := (.array (.object "com/example/copse/copse/Arc"))) (t' := (.array .boolean)) (by decide) (by decide)))
  have f_816 := f_782.other W_810 (Or.inr (slot_ne (Or.inr (wdOf hw 88 rfl)) (Or.inr (wdOf hw 107 rfl)) (by decide) (t := (.array .int)) (t' := (.array .boolean)) (by decide) (by decide)))
  have f_817 := f_783.other W_810 (Or.inr (slot_ne (Or.inr (wdOf hw 91 rfl)) (Or.inr (wdOf hw 107 rfl)) (by decide) (t := (.array .boolean)) (t' := (.array .boolean)) (by decide) (by decide)))
  have f_818 := f_784.other W_810 (Or.inr (slot_ne (Or.inr (wdOf hw 93 rfl)) (Or.inr (wdOf hw 107 rfl)) (by decide) (t := (.array .int)) (t' := (.array .boolean)) (by decide) (by decide)))
  have f_819 := f_785.other W_810 (Or.inr (slot_ne (Or.inr (wdOf hw 95 rfl)) (Or.inr (wdOf hw 107 rfl)) (by decide) (t := (.array .int)) (t' := (.array .boolean)) (by decide) (by decide)))
  have f_820 := f_786.other W_810 (Or.inr (slot_ne (Or.inr (wdOf hw 97 rfl)) (Or.inr (wdOf hw 107 rfl)) (by decide) (t := (.array .int)) (t' := (.array .boolean)) (by decide) (by decide)))
  have f_821 := f_787.other W_810 (Or.inr (slot_ne (Or.inr (wdOf hw 99 rfl)) (Or.inr (wdOf hw 107 rfl)) (by decide) (t := (.object "java/util/function/Predicate")) (t' := (.array .boolean)) (by decide) (by decide)))
  have f_822 := f_788.other W_810 (Or.inr (slot_ne (Or.inr (wdOf hw 101 rfl)) (Or.inr (wdOf hw 107 rfl)) (by decide) (t := (.array .boolean)) (t' := (.array .boolean)) (by decide) (by decide)))
  have f_823 := f_789.same W_810
  have f_824 := f_790.other W_810 (Or.inr (slot_ne (Or.inr (wdOf hw 109 rfl)) (Or.inr (wdOf hw 107 rfl)) (by decide) (t := (.array .int)) (t' := (.array .boolean)) (by decide) (by decide)))
  have f_825 := f_791.other W_810 (Or.inr (slot_ne (Or.inr (wdOf hw 111 rfl)) (Or.inr (wdOf hw 107 rfl)) (by decide) (t := (.array .boolean)) (t' := (.array .boolean)) (by decide) (by decide)))
  have f_826 := f_792.other W_810 (Or.inr (slot_ne (Or.inr (wdOf hw 114 rfl)) (Or.inr (wdOf hw 107 rfl)) (by decide) (t := (.array .long)) (t' := (.array .boolean)) (by decide) (by decide)))
  have f_827 := f_793.other W_810 (Or.inr (slot_ne (Or.inl (wdOf hw 214 rfl)) (Or.inr (wdOf hw 107 rfl)) (by decide) (t := .long) (t' := (.array .boolean)) (by decide) (by decide)))
  have f_828 := f_794.other W_810 (Or.inr (slot_ne (Or.inl (wdOf hw 220 rfl)) (Or.inr (wdOf hw 107 rfl)) (by decide) (t := (.object "com/example/copse/copse/LinkCutForest")) (t' := (.array .boolean)) (by decide) (by decide)))
  have f_829 := f_795.wr W_810
  have f_830 := f_796.other W_810 (Or.inl (ne_exa f_795 f_778 (by decide)))
  have f_831 := f_797.other W_810 (Or.inl (ne_exa f_795 f_778 (by decide)))
  have f_832 := f_798.other W_810 (Or.inl (ne_exa f_795 f_778 (by decide)))
  have f_833 := f_799.other W_810 (Ne.symm (f_778.neArv f_799 (wdOf hw 66 rfl)))
  have f_834 := f_800.wr W_810
  have f_835 := f_801.other W_810 (Or.inl (ne_exa f_800 f_778 (by decide)))
  have f_836 := f_802.other W_810 (Ne.symm ne_61)
  have f_837 := f_803.other W_810 (Ne.symm ne_124)
  have f_838 := f_804.other W_810 (Ne.symm ne_190)
  have f_839 := f_805.other W_810 (Ne.symm ne_259)
  have f_840 := f_806.other W_810 (Ne.symm ne_331)
  have f_841 := f_807.other W_810 (Ne.symm ne_406)
  have f_842 := f_808.other W_810 (Ne.symm ne_519)
  have f_843 := V_765.other W_810 (Ne.symm ne_766)
  have y_844 : n0 ≤ h_810.size := Nat.le_trans (Nat.le_of_eq f_811.1.symm) f_811.2.1
  refine Goes.go (U' := (T_810.setTop (mkF m 111 #[sR_ tx, sI_ (4 : Int32), sI_ r, sR_ ax, sR_ la, sU_, sU_] []))) st_810 ?_
  refine Goes.go (U' := (T_810.setTop (mkF m 115 #[sR_ tx, sI_ (4 : Int32), sI_ r, sR_ ax, sR_ la, sU_, sU_] [(.int (5 : Int32)), (.ref tx)]))) (fun t kt => ?_) ?_
  · skip
    refine XS.aloadN X_810.here hx rfl (hb hby d_rm_ti2_111) rfl rfl ?_
    refine XS.iloadN X_810.here hx rfl (hb hby d_rm_ti2_112) rfl ?_
    refine XS.iconst X_810.here hx rfl (hb hby d_rm_ti2_113) ?_
    refine XS.iadd X_810.here hx rfl (hb hby d_rm_ti2_114) rfl ?_
    exact kt
  obtain ⟨T_845, h_845, k_845, X_845, e_845, E_845, A_845, st_845⟩ := newP X_810 hx hZ (wdOf hw 86 rfl) e_810 (g := (mkF m 115 #[sR_ tx, sI_ (4 : Int32), sI_ r, sR_ ax, sR_ la, sU_, sU_] [(.int (5 : Int32)), (.ref tx)])) rfl (hb hby d_rm_ti2_115) rfl (by decide) (cap := 5) (by decide) (by decide) (by decide) (by decide)
  obtain ⟨b_845, g_845⟩ : ∃ z, z = h_810.size := ⟨_, rfl⟩
  rw [← g_845] at A_845 st_845
  have ne_846 : tx ≠ b_845 := Nat.ne_of_lt (Nat.lt_of_lt_of_le f_812.lt (Nat.le_of_eq g_845.symm))
  have ne_847 : ax ≠ b_845 := Nat.ne_of_lt (Nat.lt_of_lt_of_le f_829.lt (Nat.le_of_eq g_845.symm))
  have ne_848 : ea ≠ b_845 := Nat.ne_of_lt (Nat.lt_of_lt_of_le f_833.lt (Nat.le_of_eq g_845.symm))
  have ne_849 : ob ≠ b_845 := Nat.ne_of_lt (Nat.lt_of_lt_of_le f_834.lt (Nat.le_of_eq g_845.symm))
  have ne_850 : b_60 ≠ b_845 := Nat.ne_of_lt (Nat.lt_of_lt_of_le f_836.lt (Nat.le_of_eq g_845.symm))
  have ne_851 : b_123 ≠ b_845 := Nat.ne_of_lt (Nat.lt_of_lt_of_le f_837.lt (Nat.le_of_eq g_845.symm))
  have ne_852 : b_189 ≠ b_845 := Nat.ne_of_lt (Nat.lt_of_lt_of_le f_838.lt (Nat.le_of_eq g_845.symm))
  have ne_853 : b_258 ≠ b_845 := Nat.ne_of_lt (Nat.lt_of_lt_of_le f_839.lt (Nat.le_of_eq g_845.symm))
  have ne_854 : b_330 ≠ b_845 := Nat.ne_of_lt (Nat.lt_of_lt_of_le f_840.lt (Nat.le_of_eq g_845.symm))
  have ne_855 : b_405 ≠ b_845 := Nat.ne_of_lt (Nat.lt_of_lt_of_le f_841.lt (Nat.le_of_eq g_845.symm))
  have ne_856 : b_518 ≠ b_845 := Nat.ne_of_lt (Nat.lt_of_lt_of_le f_842.lt (Nat.le_of_eq g_845.symm))
  have o_845 : n0 ≤ b_845 := Nat.le_trans y_844 (Nat.le_of_eq g_845.symm)
  have f_857 := f_811.ext E_845
  have f_858 := f_812.ext E_845
  have f_859 := f_813.ext E_845
  have f_860 := f_814.ext E_845
  have f_861 := f_815.ext E_845
  have f_862 := f_816.ext E_845
  have f_863 := f_817.ext E_845
  have f_864 := f_818.ext E_845
  have f_865 := f_819.ext E_845
  have f_866 := f_820.ext E_845
  have f_867 := f_821.ext E_845
  have f_868 := f_822.ext E_845
  have f_869 := f_824.ext E_845
  have f_870 := f_825.ext E_845
  have f_871 := f_826.ext E_845
  have f_872 := f_827.ext E_845
  have f_873 := f_828.ext E_845
  have f_874 := f_829.ext E_845
  have f_875 := f_830.ext E_845
  have f_876 := f_831.ext E_845
  have f_877 := f_832.ext E_845
  have f_878 := f_833.ext E_845
  have f_879 := f_834.ext E_845
  have f_880 := f_835.ext E_845
  have f_881 := f_836.ext E_845
  have f_882 := f_837.ext E_845
  have f_883 := f_838.ext E_845
  have f_884 := f_839.ext E_845
  have f_885 := f_840.ext E_845
  have f_886 := f_841.ext E_845
  have f_887 := f_842.ext E_845
  have V_845 : Arv Z h_845 b_845 k_845 .int (5 : Int32) [(.int (0 : Int32)), (.int (0 : Int32)), (.int (0 : Int32)), (.int (0 : Int32)), (.int (0 : Int32))] (.int (0 : Int32)) := (Arv.new A_845 (by decide)).pad (pad_rep [] (.int (0 : Int32)) 5)
  have y_888 : n0 ≤ h_845.size := Nat.le_trans (Nat.le_of_eq f_857.1.symm) f_857.2.1
  refine Goes.go (U' := (T_845.setTop (mkF m 117 #[sR_ tx, sI_ (4 : Int32), sI_ r, sR_ ax, sR_ la, sU_, sU_] [(.ref b_845), (.ref tx)]))) st_845 ?_
  obtain ⟨T_889, h_889, X_889, e_889, W_889, st_889⟩ := putF X_845 hx hZ hown (host := "") (Or.inl (wdOf hw 108 rfl)) Via.refl e_845 f_869 f_858 (Or.inr ⟨wdOf hw 109 rfl, rfl, hnm⟩) (wdOf hw 66 rfl) (ty := (.array .int)) (by decide) rfl rfl (g := (mkF m 117 #[sR_ tx, sI_ (4 : Int32), sI_ r, sR_ ax, sR_ la, sU_, sU_] [(.ref b_845), (.ref tx)])) rfl rfl (hb hby d_rm_ti2_117)
  have N_889 := Fr.snoc X_889 N_810 o0
  have f_890 := f_857.wr W_889 o0
  have f_891 := f_858.wr W_889
  have f_892 := f_859.other W_889 (Or.inr (slot_ne (Or.inl (wdOf hw 79 rfl)) (Or.inr (wdOf hw 109 rfl)) (by decide) (t := .int) (t' := (.array .int)) (by decide) (by decide)))
  have f_893 := f_860.other W_889 (Or.inr (slot_ne (Or.inr (wdOf hw 81 rfl)) (Or.inr (wdOf hw 109 rfl)) (by decide) (t := .int) (t' := (.array .int)) (by decide) (by decide)))
  have f_894 := f_861.other W_889 (Or.inr (slot_ne (Or.inr (wdOf hw 85 rfl)) (Or.inr (wdOf hw 109 rfl)) (by decide) (t := (.array (.object "com/example/copse/copse/Arc"))) (t' := (.array .int)) (by decide) (by decide)))
  have f_895 := f_862.other W_889 (Or.inr (slot_ne (Or.inr (wdOf hw 88 rfl)) (Or.inr (wdOf hw 109 rfl)) (by decide) (t := (.array .int)) (t' := (.array .int)) (by decide) (by decide)))
  have f_896 := f_863.other W_889 (Or.inr (slot_ne (Or.inr (wdOf hw 91 rfl)) (Or.inr (wdOf hw 109 rfl)) (by decide) (t := (.array .boolean)) (t' := (.array .int)) (by decide) (by decide)))
  have f_897 := f_864.other W_889 (Or.inr (slot_ne (Or.inr (wdOf hw 93 rfl)) (Or.inr (wdOf hw 109 rfl)) (by decide) (t := (.array .int)) (t' := (.array .int)) (by decide) (by decide)))
  have f_898 := f_865.other W_889 (Or.inr (slot_ne (Or.inr (wdOf hw 95 rfl)) (Or.inr (wdOf hw 109 rfl)) (by decide) (t := (.array .int)) (t' := (.array .int)) (by decide) (by decide)))
  have f_899 := f_866.other W_889 (Or.inr (slot_ne (Or.inr (wdOf hw 97 rfl)) (Or.inr (wdOf hw 109 rfl)) (by decide) (t := (.array .int)) (t' := (.array .int)) (by decide) (by decide)))
  have f_900 := f_867.other W_889 (Or.inr (slot_ne (Or.inr (wdOf hw 99 rfl)) (Or.inr (wdOf hw 109 rfl)) (by decide) (t := (.object "java/util/function/Predicate")) (t' := (.array .int)) (by decide) (by decide)))
  have f_901 := f_868.other W_889 (Or.inr (slot_ne (Or.inr (wdOf hw 101 rfl)) (Or.inr (wdOf hw 109 rfl)) (by decide) (t := (.array .boolean)) (t' := (.array .int)) (by decide) (by decide)))
  have f_902 := f_869.same W_889
  have f_903 := f_870.other W_889 (Or.inr (slot_ne (Or.inr (wdOf hw 111 rfl)) (Or.inr (wdOf hw 109 rfl)) (by decide) (t := (.array .boolean)) (t' := (.array .int)) (by decide) (by decide)))
  have f_904 := f_871.other W_889 (Or.inr (slot_ne (Or.inr (wdOf hw 114 rfl)) (Or.inr (wdOf hw 109 rfl)) (by decide) (t := (.array .long)) (t' := (.array .int)) (by decide) (by decide)))
  have f_905 := f_872.other W_889 (Or.inr (slot_ne (Or.inl (wdOf hw 214 rfl)) (Or.inr (wdOf hw 109 rfl)) (by decide) (t := .long) (t' := (.array .int)) (by decide) (by decide)))
  have f_906 := f_873.other W_889 (Or.inr (slot_ne (Or.inl (wdOf hw 220 rfl)) (Or.inr (wdOf hw 109 rfl)) (by decide) (t := (.object "com/example/copse/copse/LinkCutForest")) (t' := (.array .int)) (by decide) (by decide)))
  have f_907 := f_874.wr W_889
  have f_908 := f_875.other W_889 (Or.inl (ne_exa f_874 f_858 (by decide)))
  have f_909 := f_876.other W_889 (Or.inl (ne_exa f_874 f_858 (by decide)))
  have f_910 := f_877.other W_889 (Or.inl (ne_exa f_874 f_858 (by decide)))
  have f_911 := f_878.other W_889 (Ne.symm (f_858.neArv f_878 (wdOf hw 66 rfl)))
  have f_912 := f_879.wr W_889
  have f_913 := f_880.other W_889 (Or.inl (ne_exa f_879 f_858 (by decide)))
  have f_914 := f_881.other W_889 (Ne.symm ne_61)
  have f_915 := f_882.other W_889 (Ne.symm ne_124)
  have f_916 := f_883.other W_889 (Ne.symm ne_190)
  have f_917 := f_884.other W_889 (Ne.symm ne_259)
  have f_918 := f_885.other W_889 (Ne.symm ne_331)
  have f_919 := f_886.other W_889 (Ne.symm ne_406)
  have f_920 := f_887.other W_889 (Ne.symm ne_519)
  have f_921 := V_845.other W_889 (Ne.symm ne_846)
  have y_922 : n0 ≤ h_889.size := Nat.le_trans (Nat.le_of_eq f_890.1.symm) f_890.2.1
  refine Goes.go (U' := (T_889.setTop (mkF m 120 #[sR_ tx, sI_ (4 : Int32), sI_ r, sR_ ax, sR_ la, sU_, sU_] []))) st_889 ?_
  refine Goes.go (U' := (T_889.setTop (mkF m 124 #[sR_ tx, sI_ (4 : Int32), sI_ r, sR_ ax, sR_ la, sU_, sU_] [(.int (5 : Int32)), (.ref tx)]))) (fun t kt => ?_) ?_
  · skip
    refine XS.aloadN X_889.here hx rfl (hb hby d_rm_ti2_120) rfl rfl ?_
    refine XS.iloadN X_889.here hx rfl (hb hby d_rm_ti2_121) rfl ?_
    refine XS.iconst X_889.here hx rfl (hb hby d_rm_ti2_122) ?_
    refine XS.iadd X_889.here hx rfl (hb hby d_rm_ti2_123) rfl ?_
    exact kt
  obtain ⟨T_923, h_923, k_923, X_923, e_923, E_923, A_923, st_923⟩ := newP X_889 hx hZ (wdOf hw 89 rfl) e_889 (g := (mkF m 124 #[sR_ tx, sI_ (4 : Int32), sI_ r, sR_ ax, sR_ la, sU_, sU_] [(.int (5 : Int32)), (.ref tx)])) rfl (hb hby d_rm_ti2_124) rfl (by decide) (cap := 5) (by decide) (by decide) (by decide) (by decide)
  obtain ⟨b_923, g_923⟩ : ∃ z, z = h_889.size := ⟨_, rfl⟩
  rw [← g_923] at A_923 st_923
  have ne_924 : tx ≠ b_923 := Nat.ne_of_lt (Nat.lt_of_lt_of_le f_891.lt (Nat.le_of_eq g_923.symm))
  have ne_925 : ax ≠ b_923 := Nat.ne_of_lt (Nat.lt_of_lt_of_le f_907.lt (Nat.le_of_eq g_923.symm))
  have ne_926 : ea ≠ b_923 := Nat.ne_of_lt (Nat.lt_of_lt_of_le f_911.lt (Nat.le_of_eq g_923.symm))
  have ne_927 : ob ≠ b_923 := Nat.ne_of_lt (Nat.lt_of_lt_of_le f_912.lt (Nat.le_of_eq g_923.symm))
  have ne_928 : b_60 ≠ b_923 := Nat.ne_of_lt (Nat.lt_of_lt_of_le f_914.lt (Nat.le_of_eq g_923.symm))
  have ne_929 : b_123 ≠ b_923 := Nat.ne_of_lt (Nat.lt_of_lt_of_le f_915.lt (Nat.le_of_eq g_923.symm))
  have ne_930 : b_189 ≠ b_923 := Nat.ne_of_lt (Nat.lt_of_lt_of_le f_916.lt (Nat.le_of_eq g_923.symm))
  have ne_931 : b_258 ≠ b_923 := Nat.ne_of_lt (Nat.lt_of_lt_of_le f_917.lt (Nat.le_of_eq g_923.symm))
  have ne_932 : b_330 ≠ b_923 := Nat.ne_of_lt (Nat.lt_of_lt_of_le f_918.lt (Nat.le_of_eq g_923.symm))
  have ne_933 : b_405 ≠ b_923 := Nat.ne_of_lt (Nat.lt_of_lt_of_le f_919.lt (Nat.le_of_eq g_923.symm))
  have ne_934 : b_518 ≠ b_923 := Nat.ne_of_lt (Nat.lt_of_lt_of_le f_920.lt (Nat.le_of_eq g_923.symm))
  have o_923 : n0 ≤ b_923 := Nat.le_trans y_922 (Nat.le_of_eq g_923.symm)
  have f_935 := f_890.ext E_923
  have f_936 := f_891.ext E_923
  have f_937 := f_892.ext E_923
  have f_938 := f_893.ext E_923
  have f_939 := f_894.ext E_923
  have f_940 := f_895.ext E_923
  have f_941 := f_896.ext E_923
  have f_942 := f_897.ext E_923
  have f_943 := f_898.ext E_923
  have f_944 := f_899.ext E_923
  have f_945 := f_900.ext E_923
  have f_946 := f_901.ext E_923
  have f_947 := f_903.ext E_923
  have f_948 := f_904.ext E_923
  have f_949 := f_905.ext E_923
  have f_950 := f_906.ext E_923
  have f_951 := f_907.ext E_923
  have f_952 := f_908.ext E_923
  have f_953 := f_909.ext E_923
  have f_954 := f_910.ext E_923
  have f_955 := f_911.ext E_923
  have f_956 := f_912.ext E_923
  have f_957 := f_913.ext E_923
  have f_958 := f_914.ext E_923
  have f_959 := f_915.ext E_923
  have f_960 := f_916.ext E_923
  have f_961 := f_917.ext E_923
  have f_962 := f_918.ext E_923
  have f_963 := f_919.ext E_923
  have f_964 := f_920.ext E_923
  have V_923 : Arv Z h_923 b_923 k_923 .boolean (5 : Int32) [(.int (0 : Int32)), (.int (0 : Int32)), (.int (0 : Int32)), (.int (0 : Int32)), (.int (0 : Int32))] (.int (0 : Int32)) := (Arv.new A_923 (by decide)).pad (pad_rep [] (.int (0 : Int32)) 5)
  have y_965 : n0 ≤ h_923.size := Nat.le_trans (Nat.le_of_eq f_935.1.symm) f_935.2.1
  refine Goes.go (U' := (T_923.setTop (mkF m 126 #[sR_ tx, sI_ (4 : Int32), sI_ r, sR_ ax, sR_ la, sU_, sU_] [(.ref b_923), (.ref tx)]))) st_923 ?_
  obtain ⟨T_966, h_966, X_966, e_966, W_966, st_966⟩ := putF X_923 hx hZ hown (host := "") (Or.inl (wdOf hw 110 rfl)) Via.refl e_923 f_947 f_936 (Or.inr ⟨wdOf hw 111 rfl, rfl, hnm⟩) (wdOf hw 66 rfl) (ty := (.array .boolean)) (by decide) rfl rfl (g := (mkF m 126 #[sR_ tx, sI_ (4 : Int32), sI_ r, sR_ ax, sR_ la, sU_, sU_] [(.ref b_923), (.ref tx)])) rfl rfl (hb hby d_rm_ti2_126)
  have N_966 := Fr.snoc X_966 N_889 o0
  have f_967 := f_935.wr W_966 o0
  have f_968 := f_936.wr W_966
  have f_969 := f_937.other W_966 (Or.inr (slot_ne (Or.inl (wdOf hw 79 rfl)) (Or.inr (wdOf hw 111 rfl)) (by decide) (t := .int) (t' := (.array .boolean)) (by decide) (by decide)))
  have f_970 := f_938.other W_966 (Or.inr (slot_ne (Or.inr (wdOf hw 81 rfl)) (Or.inr (wdOf hw 111 rfl)) (by decide) (t := .int) (t' := (.array .boolean)) (by decide) (by decide)))
  have f_971 := f_939.other W_966 (Or.inr (slot_ne (Or.inr (wdOf hw 85 rfl)) (Or.inr (wdOf hw 111 rfl)) (by decide) (t := (.array (.object "com/example/copse/copse/Arc"))) (t' := (.array .boolean)) (by decide) (by decide)))
  have f_972 := f_940.other W_966 (Or.inr (slot_ne (Or.inr (wdOf hw 88 rfl)) (Or.inr (wdOf hw 111 rfl)) (by decide) (t := (.array .int)) (t' := (.array .boolean)) (by decide) (by decide)))
  have f_973 := f_941.other W_966 (Or.inr (slot_ne (Or.inr (wdOf hw 91 rfl)) (Or.inr (wdOf hw 111 rfl)) (by decide) (t := (.array .boolean)) (t' := (.array .boolean)) (by decide) (by decide)))
  have f_974 := f_942.other W_966 (Or.inr (slot_ne (Or.inr (wdOf hw 93 rfl)) (Or.inr (wdOf hw 111 rfl)) (by decide) (t := (.array .int)) (t' := (.array .boolean)) (by decide) (by decide)))
  have f_975 := f_943.other W_966 (Or.inr (slot_ne (Or.inr (wdOf hw 95 rfl)) (Or.inr (wdOf hw 111 rfl)) (by decide) (t := (.array .int)) (t' := (.array .boolean)) (by decide) (by decide)))
  have f_976 := f_944.other W_966 (Or.inr (slot_ne (Or.inr (wdOf hw 97 rfl)) (Or.inr (wdOf hw 111 rfl)) (by decide) (t := (.array .int)) (t' := (.array .boolean)) (by decide) (by decide)))
  have f_977 := f_945.other W_966 (Or.inr (slot_ne (Or.inr (wdOf hw 99 rfl)) (Or.inr (wdOf hw 111 rfl)) (by decide) (t := (.object "java/util/function/Predicate")) (t' := (.array .boolean)) (by decide) (by decide)))
  have f_978 := f_946.other W_966 (Or.inr (slot_ne (Or.inr (wdOf hw 101 rfl)) (Or.inr (wdOf hw 111 rfl)) (by decide) (t := (.array .boolean)) (t' := (.array .boolean)) (by decide) (by decide)))
  have f_979 := f_947.same W_966
  have f_980 := f_948.other W_966 (Or.inr (slot_ne (Or.inr (wdOf hw 114 rfl)) (Or.inr (wdOf hw 111 rfl)) (by decide) (t := (.array .long)) (t' := (.array .boolean)) (by decide) (by decide)))
  have f_981 := f_949.other W_966 (Or.inr (slot_ne (Or.inl (wdOf hw 214 rfl)) (Or.inr (wdOf hw 111 rfl)) (by decide) (t := .long) (t' := (.array .boolean)) (by decide) (by decide)))
  have f_982 := f_950.other W_966 (Or.inr (slot_ne (Or.inl (wdOf hw 220 rfl)) (Or.inr (wdOf hw 111 rfl)) (by decide) (t := (.object "com/example/copse/copse/LinkCutForest")) (t' := (.array .boolean)) (by decide) (by decide)))
  have f_983 := f_951.wr W_966
  have f_984 := f_952.other W_966 (Or.inl (ne_exa f_951 f_936 (by decide)))
  have f_985 := f_953.other W_966 (Or.inl (ne_exa f_951 f_936 (by decide)))
  have f_986 := f_954.other W_966 (Or.inl (ne_exa f_951 f_936 (by decide)))
  have f_987 := f_955.other W_966 (Ne.symm (f_936.neArv f_955 (wdOf hw 66 rfl)))
  have f_988 := f_956.wr W_966
  have f_989 := f_957.other W_966 (Or.inl (ne_exa f_956 f_936 (by decide)))
  have f_990 := f_958.other W_966 (Ne.symm ne_61)
  have f_991 := f_959.other W_966 (Ne.symm ne_124)
  have f_992 := f_960.other W_966 (Ne.symm ne_190)
  have f_993 := f_961.other W_966 (Ne.symm ne_259)
  have f_994 := f_962.other W_966 (Ne.symm ne_331)
  have f_995 := f_963.other W_966 (Ne.symm ne_406)
  have f_996 := f_964.other W_966 (Ne.symm ne_519)
  have f_997 := V_923.other W_966 (Ne.symm ne_924)
  have y_998 : n0 ≤ h_966.size := Nat.le_trans (Nat.le_of_eq f_967.1.symm) f_967.2.1
  refine Goes.go (U' := (T_966.setTop (mkF m 129 #[sR_ tx, sI_ (4 : Int32), sI_ r, sR_ ax, sR_ la, sU_, sU_] []))) st_966 ?_
  refine Goes.go (U' := (T_966.setTop (mkF m 133 #[sR_ tx, sI_ (4 : Int32), sI_ r, sR_ ax, sR_ la, sU_, sU_] [(.int (5 : Int32)), (.ref tx)]))) (fun t kt => ?_) ?_
  · skip
    refine XS.aloadN X_966.here hx rfl (hb hby d_rm_ti2_129) rfl rfl ?_
    refine XS.iloadN X_966.here hx rfl (hb hby d_rm_ti2_130) rfl ?_
    refine XS.iconst X_966.here hx rfl (hb hby d_rm_ti2_131) ?_
    refine XS.iadd X_966.here hx rfl (hb hby d_rm_ti2_132) rfl ?_
    exact kt
  obtain ⟨T_999, h_999, k_999, X_999, e_999, E_999, A_999, st_999⟩ := newP X_966 hx hZ (wdOf hw 112 rfl) e_966 (g := (mkF m 133 #[sR_ tx, sI_ (4 : Int32), sI_ r, sR_ ax, sR_ la, sU_, sU_] [(.int (5 : Int32)), (.ref tx)])) rfl (hb hby d_rm_ti2_133) rfl (by decide) (cap := 5) (by decide) (by decide) (by decide) (by decide)
  obtain ⟨b_999, g_999⟩ : ∃ z, z = h_966.size := ⟨_, rfl⟩
  rw [← g_999] at A_999 st_999
  have ne_1000 : tx ≠ b_999 := Nat.ne_of_lt (Nat.lt_of_lt_of_le f_968.lt (Nat.le_of_eq g_999.symm))
  have ne_1001 : ax ≠ b_999 := Nat.ne_of_lt (Nat.lt_of_lt_of_le f_983.lt (Nat.le_of_eq g_999.symm))
  have ne_1002 : ea ≠ b_999 := Nat.ne_of_lt (Nat.lt_of_lt_of_le f_987.lt (Nat.le_of_eq g_999.symm))
  have ne_1003 : ob ≠ b_999 := Nat.ne_of_lt (Nat.lt_of_lt_of_le f_988.lt (Nat.le_of_eq g_999.symm))
  have ne_1004 : b_60 ≠ b_999 := Nat.ne_of_lt (Nat.lt_of_lt_of_le f_990.lt (Nat.le_of_eq g_999.symm))
  have ne_1005 : b_123 ≠ b_999 := Nat.ne_of_lt (Nat.lt_of_lt_of_le f_991.lt (Nat.le_of_eq g_999.symm))
  have ne_1006 : b_189 ≠ b_999 := Nat.ne_of_lt (Nat.lt_of_lt_of_le f_992.lt (Nat.le_of_eq g_999.symm))
  have ne_1007 : b_258 ≠ b_999 := Nat.ne_of_lt (Nat.lt_of_lt_of_le f_993.lt (Nat.le_of_eq g_999.symm))
  have ne_1008 : b_330 ≠ b_999 := Nat.ne_of_lt (Nat.lt_of_lt_of_le f_994.lt (Nat.le_of_eq g_999.symm))
  have ne_1009 : b_405 ≠ b_999 := Nat.ne_of_lt (Nat.lt_of_lt_of_le f_995.lt (Nat.le_of_eq g_999.symm))
  have ne_1010 : b_518 ≠ b_999 := Nat.ne_of_lt (Nat.lt_of_lt_of_le f_996.lt (Nat.le_of_eq g_999.symm))
  have o_999 : n0 ≤ b_999 := Nat.le_trans y_998 (Nat.le_of_eq g_999.symm)
  have f_1011 := f_967.ext E_999
  have f_1012 := f_968.ext E_999
  have f_1013 := f_969.ext E_999
  have f_1014 := f_970.ext E_999
  have f_1015 := f_971.ext E_999
  have f_1016 := f_972.ext E_999
  have f_1017 := f_973.ext E_999
  have f_1018 := f_974.ext E_999
  have f_1019 := f_975.ext E_999
  have f_1020 := f_976.ext E_999
  have f_1021 := f_977.ext E_999
  have f_1022 := f_978.ext E_999
  have f_1023 := f_980.ext E_999
  have f_1024 := f_981.ext E_999
  have f_1025 := f_982.ext E_999
  have f_1026 := f_983.ext E_999
  have f_1027 := f_984.ext E_999
  have f_1028 := f_985.ext E_999
  have f_1029 := f_986.ext E_999
  have f_1030 := f_987.ext E_999
  have f_1031 := f_988.ext E_999
  have f_1032 := f_989.ext E_999
  have f_1033 := f_990.ext E_999
  have f_1034 := f_991.ext E_999
  have f_1035 := f_992.ext E_999
  have f_1036 := f_993.ext E_999
  have f_1037 := f_994.ext E_999
  have f_1038 := f_995.ext E_999
  have f_1039 := f_996.ext E_999
  have V_999 : Arv Z h_999 b_999 k_999 .long (5 : Int32) [(.long (0 : Int64)), (.long (0 : Int64)), (.long (0 : Int64)), (.long (0 : Int64)), (.long (0 : Int64))] (.long (0 : Int64)) := (Arv.new A_999 (by decide)).pad (pad_rep [] (.long (0 : Int64)) 5)
  have y_1040 : n0 ≤ h_999.size := Nat.le_trans (Nat.le_of_eq f_1011.1.symm) f_1011.2.1
  refine Goes.go (U' := (T_999.setTop (mkF m 135 #[sR_ tx, sI_ (4 : Int32), sI_ r, sR_ ax, sR_ la, sU_, sU_] [(.ref b_999), (.ref tx)]))) st_999 ?_
  obtain ⟨T_1041, h_1041, X_1041, e_1041, W_1041, st_1041⟩ := putF X_999 hx hZ hown (host := "") (Or.inl (wdOf hw 113 rfl)) Via.refl e_999 f_1023 f_1012 (Or.inr ⟨wdOf hw 114 rfl, rfl, hnm⟩) (wdOf hw 66 rfl) (ty := (.array .long)) (by decide) rfl rfl (g := (mkF m 135 #[sR_ tx, sI_ (4 : Int32), sI_ r, sR_ ax, sR_ la, sU_, sU_] [(.ref b_999), (.ref tx)])) rfl rfl (hb hby d_rm_ti2_135)
  have N_1041 := Fr.snoc X_1041 N_966 o0
  have f_1042 := f_1011.wr W_1041 o0
  have f_1043 := f_1012.wr W_1041
  have f_1044 := f_1013.other W_1041 (Or.inr (slot_ne (Or.inl (wdOf hw 79 rfl)) (Or.inr (wdOf hw 114 rfl)) (by decide) (t := .int) (t' := (.array .long)) (by decide) (by decide)))
  have f_1045 := f_1014.other W_1041 (Or.inr (slot_ne (Or.inr (wdOf hw 81 rfl)) (Or.inr (wdOf hw 114 rfl)) (by decide) (t := .int) (t' := (.array .long)) (by decide) (by decide)))
  have f_1046 := f_1015.other W_1041 (Or.inr (slot_ne (Or.inr (wdOf hw 85 rfl)) (Or.inr (wdOf hw 114 rfl)) (by decide) (t := (.array (.object "com/example/copse/copse/Arc"))) (t' := (.array .long)) (by decide) (by decide)))
  have f_1047 := f_1016.other W_1041 (Or.inr (slot_ne (Or.inr (wdOf hw 88 rfl)) (Or.inr (wdOf hw 114 rfl)) (by decide) (t := (.array .int)) (t' := (.array .long)) (by decide) (by decide)))
  have f_1048 := f_1017.other W_1041 (Or.inr (slot_ne (Or.inr (wdOf hw 91 rfl)) (Or.inr (wdOf hw 114 rfl)) (by decide) (t := (.array .boolean)) (t' := (.array .long)) (by decide) (by decide)))
  have f_1049 := f_1018.other W_1041 (Or.inr (slot_ne (Or.inr (wdOf hw 93 rfl)) (Or.inr (wdOf hw 114 rfl)) (by decide) (t := (.array .int)) (t' := (.array .long)) (by decide) (by decide)))
  have f_1050 := f_1019.other W_1041 (Or.inr (slot_ne (Or.inr (wdOf hw 95 rfl)) (Or.inr (wdOf hw 114 rfl)) (by decide) (t := (.array .int)) (t' := (.array .long)) (by decide) (by decide)))
  have f_1051 := f_1020.other W_1041 (Or.inr (slot_ne (Or.inr (wdOf hw 97 rfl)) (Or.inr (wdOf hw 114 rfl)) (by decide) (t := (.array .int)) (t' := (.array .long)) (by decide) (by decide)))
  have f_1052 := f_1021.other W_1041 (Or.inr (slot_ne (Or.inr (wdOf hw 99 rfl)) (Or.inr (wdOf hw 114 rfl)) (by decide) (t := (.object "java/util/function/Predicate")) (t' := (.array .long)) (by decide) (by decide)))
  have f_1053 := f_1022.other W_1041 (Or.inr (slot_ne (Or.inr (wdOf hw 101 rfl)) (Or.inr (wdOf hw 114 rfl)) (by decide) (t := (.array .boolean)) (t' := (.array .long)) (by decide) (by decide)))
  have f_1054 := f_1023.same W_1041
  have f_1055 := f_1024.other W_1041 (Or.inr (slot_ne (Or.inl (wdOf hw 214 rfl)) (Or.inr (wdOf hw 114 rfl)) (by decide) (t := .long) (t' := (.array .long)) (by decide) (by decide)))
  have f_1056 := f_1025.other W_1041 (Or.inr (slot_ne (Or.inl (wdOf hw 220 rfl)) (Or.inr (wdOf hw 114 rfl)) (by decide) (t := (.object "com/example/copse/copse/LinkCutForest")) (t' := (.array .long)) (by decide) (by decide)))
  have f_1057 := f_1026.wr W_1041
  have f_1058 := f_1027.other W_1041 (Or.inl (ne_exa f_1026 f_1012 (by decide)))
  have f_1059 := f_1028.other W_1041 (Or.inl (ne_exa f_1026 f_1012 (by decide)))
  have f_1060 := f_1029.other W_1041 (Or.inl (ne_exa f_1026 f_1012 (by decide)))
  have f_1061 := f_1030.other W_1041 (Ne.symm (f_1012.neArv f_1030 (wdOf hw 66 rfl)))
  have f_1062 := f_1031.wr W_1041
  have f_1063 := f_1032.other W_1041 (Or.inl (ne_exa f_1031 f_1012 (by decide)))
  have f_1064 := f_1033.other W_1041 (Ne.symm ne_61)
  have f_1065 := f_1034.other W_1041 (Ne.symm ne_124)
  have f_1066 := f_1035.other W_1041 (Ne.symm ne_190)
  have f_1067 := f_1036.other W_1041 (Ne.symm ne_259)
  have f_1068 := f_1037.other W_1041 (Ne.symm ne_331)
  have f_1069 := f_1038.other W_1041 (Ne.symm ne_406)
  have f_1070 := f_1039.other W_1041 (Ne.symm ne_519)
  have f_1071 := V_999.other W_1041 (Ne.symm ne_1000)
  have y_1072 : n0 ≤ h_1041.size := Nat.le_trans (Nat.le_of_eq f_1042.1.symm) f_1042.2.1
  refine Goes.go (U' := (T_1041.setTop (mkF m 138 #[sR_ tx, sI_ (4 : Int32), sI_ r, sR_ ax, sR_ la, sU_, sU_] []))) st_1041 ?_
  refine Goes.go (U' := (T_1041.setTop (mkF m 139 #[sR_ tx, sI_ (4 : Int32), sI_ r, sR_ ax, sR_ la, sU_, sU_] [(.ref tx)]))) (fun t kt => ?_) ?_
  · skip
    refine XS.aloadN X_1041.here hx rfl (hb hby d_rm_ti2_138) rfl rfl ?_
    exact kt
  obtain ⟨T_1073, X_1073, e_1073, st_1073⟩ := getF X_1041 hx hZ hown (host := "") (Or.inl (wdOf hw 90 rfl)) Via.refl e_1041 f_1048 (g := (mkF m 139 #[sR_ tx, sI_ (4 : Int32), sI_ r, sR_ ax, sR_ la, sU_, sU_] [(.ref tx)])) rfl rfl (hb hby d_rm_ti2_139)
  refine Goes.go (U' := (T_1073.setTop (mkF m 142 #[sR_ tx, sI_ (4 : Int32), sI_ r, sR_ ax, sR_ la, sU_, sU_] [(.ref b_189)]))) st_1073 ?_
  refine Goes.go (U' := (T_1073.setTop (mkF m 144 #[sR_ tx, sI_ (4 : Int32), sI_ r, sR_ ax, sR_ la, sU_, sU_] [(.int (1 : Int32)), (.int r), (.ref b_189)]))) (fun t kt => ?_) ?_
  · skip
    refine XS.iloadN X_1073.here hx rfl (hb hby d_rm_ti2_142) rfl ?_
    refine XS.iconst X_1073.here hx rfl (hb hby d_rm_ti2_143) ?_
    exact kt
  obtain ⟨cl_1074, Ar_1074, S_1074, H_1074⟩ := id f_1066
  have hin_1074 : ¬ (r < 0 ∨ cl_1074.slots.size ≤ (r).toNatClampNeg) := inb_of S_1074 hr
  obtain ⟨T_1074, h_1074, X_1074, e_1074, W_1074, st_1074⟩ := stZ X_1073 hx hZ e_1073 Ar_1074 (j := r) hin_1074 (g := (mkF m 144 #[sR_ tx, sI_ (4 : Int32), sI_ r, sR_ ax, sR_ la, sU_, sU_] [(.int (1 : Int32)), (.int r), (.ref b_189)])) rfl rfl (hb hby d_rm_ti2_144)
  have B_1074 : Bar Z h_1074 b_189 .boolean IntP := Bar.set Ar_1074 S_1074 H_1074 W_1074 (IntP.mk _)
  have N_1074 := Fr.snoc X_1074 N_1041 o_189
  have f_1075 := f_1042.wr W_1074 o_189
  have f_1076 := f_1043.wr W_1074
  have f_1077 := f_1044.other W_1074 (Or.inl ne_190)
  have f_1078 := f_1045.other W_1074 (Or.inl ne_190)
  have f_1079 := f_1046.other W_1074 (Or.inl ne_190)
  have f_1080 := f_1047.other W_1074 (Or.inl ne_190)
  have f_1081 := f_1048.other W_1074 (Or.inl ne_190)
  have f_1082 := f_1049.other W_1074 (Or.inl ne_190)
  have f_1083 := f_1050.other W_1074 (Or.inl ne_190)
  have f_1084 := f_1051.other W_1074 (Or.inl ne_190)
  have f_1085 := f_1052.other W_1074 (Or.inl ne_190)
  have f_1086 := f_1053.other W_1074 (Or.inl ne_190)
  have f_1087 := f_1055.other W_1074 (Or.inl ne_190)
  have f_1088 := f_1056.other W_1074 (Or.inl ne_190)
  have f_1089 := f_1057.wr W_1074
  have f_1090 := f_1058.other W_1074 (Or.inl ne_191)
  have f_1091 := f_1059.other W_1074 (Or.inl ne_191)
  have f_1092 := f_1060.other W_1074 (Or.inl ne_191)
  have f_1093 := f_1061.other W_1074 ne_192
  have f_1094 := f_1062.wr W_1074
  have f_1095 := f_1063.other W_1074 (Or.inl ne_193)
  have f_1096 := f_1064.other W_1074 ne_194
  have f_1097 := f_1065.other W_1074 ne_195
  have f_1099 := f_1067.other W_1074 (Ne.symm ne_265)
  have f_1100 := f_1068.other W_1074 (Ne.symm ne_337)
  have f_1101 := f_1069.other W_1074 (Ne.symm ne_412)
  have f_1102 := f_1070.other W_1074 (Ne.symm ne_525)
  have y_1103 : n0 ≤ h_1074.size := Nat.le_trans (Nat.le_of_eq f_1075.1.symm) f_1075.2.1
  refine Goes.go (U' := (T_1074.setTop (mkF m 145 #[sR_ tx, sI_ (4 : Int32), sI_ r, sR_ ax, sR_ la, sU_, sU_] []))) st_1074 ?_
  refine Goes.go (U' := (T_1074.setTop (mkF m 146 #[sR_ tx, sI_ (4 : Int32), sI_ r, sR_ ax, sR_ la, sU_, sU_] [(.ref ax)]))) (fun t kt => ?_) ?_
  · skip
    refine XS.aloadN X_1074.here hx rfl (hb hby d_rm_ti2_145) rfl rfl ?_
    exact kt
  obtain ⟨v_1104, T_1104, L_1104, X_1104, q_1104, st_1104⟩ := callFace X_1074 hx hZ (y := (⟨"java/util/Collection", "iterator", "()Ljava/util/Iterator;"⟩ : MethodName)) (z := (⟨"java/util/ArrayList", "iterator", "()Ljava/util/Iterator;"⟩ : MethodName)) (W := 0) hown (wdOf hw 115 rfl) (wdOf hw 116 rfl) (mvT hZ (wdOf hw 117 rfl)) (wdOf hw 118 rfl) (wdOf hw 119 rfl) (wdOf hw 120 rfl) (wdOf hw 121 rfl) (wdOf hw 122 rfl) (wdOf hw 3 rfl) (wdOf hw 123 rfl) (by decide) (rm_it l Z a0 hw [] ax h_1074 n0 y_1103 f_1089 f_1090) (by decide) (by decide) (by decide) (by decide) e_1074 f_1089 (g := (mkF m 146 #[sR_ tx, sI_ (4 : Int32), sI_ r, sR_ ax, sR_ la, sU_, sU_] [(.ref ax)])) rfl (by rw [hml]; rfl) (argsL := []) (rest := []) (lenOf pd_8 rfl) rfl rfl (Nat.le_refl _) (hb hby d_rm_ti2_146)
  obtain ⟨r_1104, rfl, n_1104, K_1104, GE__1104, Gthis0__1104, Gcursor__1104, GlastRet__1104, GexpectedModCount__1104, Gl__1104⟩ := q_1104
  have N_1104 := Fr.app N_1074 n_1104
  have f_1105 := f_1075.ext K_1104
  have f_1106 := f_1076.ext K_1104
  have f_1107 := f_1077.ext K_1104
  have f_1108 := f_1078.ext K_1104
  have f_1109 := f_1079.ext K_1104
  have f_1110 := f_1080.ext K_1104
  have f_1111 := f_1081.ext K_1104
  have f_1112 := f_1082.ext K_1104
  have f_1113 := f_1083.ext K_1104
  have f_1114 := f_1084.ext K_1104
  have f_1115 := f_1085.ext K_1104
  have f_1116 := f_1086.ext K_1104
  have f_1117 := f_1087.ext K_1104
  have f_1118 := f_1088.ext K_1104
  have f_1119 := f_1089.ext K_1104
  have f_1120 := f_1090.ext K_1104
  have f_1121 := f_1091.ext K_1104
  have f_1122 := f_1092.ext K_1104
  have f_1123 := f_1093.ext K_1104
  have f_1124 := f_1094.ext K_1104
  have f_1125 := f_1095.ext K_1104
  have f_1126 := f_1096.ext K_1104
  have f_1127 := f_1097.ext K_1104
  have f_1128 := f_1099.ext K_1104
  have f_1129 := f_1100.ext K_1104
  have f_1130 := f_1101.ext K_1104
  have f_1131 := f_1102.ext K_1104
  have f_1132 := B_1074.ext K_1104
  have y_1133 : n0 ≤ T_1104.heap.size := Nat.le_trans (Nat.le_of_eq f_1105.1.symm) f_1105.2.1
  refine Goes.go (U' := (T_1104.setTop (mkF m 151 #[sR_ tx, sI_ (4 : Int32), sI_ r, sR_ ax, sR_ la, sU_, sU_] [(.ref r_1104)]))) st_1104 ?_
  refine Goes.go (U' := (T_1104.setTop (mkF m 155 #[sR_ tx, sI_ (4 : Int32), sI_ r, sR_ ax, sR_ la, sR_ r_1104, sU_] [(.ref r_1104)]))) (fun t kt => ?_) ?_
  · skip
    refine XS.astore X_1104.here hx rfl (hb hby d_rm_ti2_151) rfl rfl (l' := #[sR_ tx, sI_ (4 : Int32), sI_ r, sR_ ax, sR_ la, sR_ r_1104, sU_]) rfl ?_
    refine XS.aload X_1104.here hx rfl (hb hby d_rm_ti2_153) rfl rfl ?_
    exact kt
  obtain ⟨v_1134, T_1134, L_1134, X_1134, q_1134, st_1134⟩ := callFace X_1104 hx hZ (y := (⟨"java/util/Iterator", "hasNext", "()Z"⟩ : MethodName)) (z := (⟨"java/util/ArrayList$Itr", "hasNext", "()Z"⟩ : MethodName)) (W := 0) hown (wdOf hw 139 rfl) (wdOf hw 140 rfl) (mvT hZ (wdOf hw 141 rfl)) (wdOf hw 142 rfl) (wdOf hw 143 rfl) (wdOf hw 144 rfl) (wdOf hw 145 rfl) (wdOf hw 146 rfl) (wdOf hw 126 rfl) (wdOf hw 147 rfl) (by decide) (rm_hn0 l Z a0 hw [] r_1104 ax (-1 : Int32) T_1104.heap n0 y_1133 Gthis0__1104 Gcursor__1104 f_1119 f_1122) (by decide) (by decide) (by decide) (by decide) (rfl : T_1104.heap = T_1104.heap) GE__1104 (g := (mkF m 155 #[sR_ tx, sI_ (4 : Int32), sI_ r, sR_ ax, sR_ la, sR_ r_1104, sU_] [(.ref r_1104)])) rfl (by rw [hml]; rfl) (argsL := []) (rest := []) (lenOf pd_9 rfl) rfl rfl (Nat.le_refl _) (hb hby d_rm_ti2_155)
  obtain ⟨rfl, n_1134, K_1134⟩ := q_1134
  have N_1134 := Fr.app N_1104 n_1134
  refine Goes.go (U' := (T_1134.setTop (mkF m 160 #[sR_ tx, sI_ (4 : Int32), sI_ r, sR_ ax, sR_ la, sR_ r_1104, sU_] [(.int (1 : Int32))]))) st_1134 ?_
  refine Goes.go (U' := (T_1134.setTop (mkF m 165 #[sR_ tx, sI_ (4 : Int32), sI_ r, sR_ ax, sR_ la, sR_ r_1104, sU_] [(.ref r_1104)]))) (fun t kt => ?_) ?_
  · skip
    refine XS.ifNo X_1134.here hx rfl (hb hby d_rm_ti2_160) rfl (XT.i0_eq_f (by decide)) ?_
    refine XS.aload X_1134.here hx rfl (hb hby d_rm_ti2_163) rfl rfl ?_
    exact kt
  obtain ⟨v_1135, T_1135, L_1135, X_1135, q_1135, st_1135⟩ := callFace X_1134 hx hZ (y := (⟨"java/util/Iterator", "next", "()Ljava/lang/Object;"⟩ : MethodName)) (z := (⟨"java/util/ArrayList$Itr", "next", "()Ljava/lang/Object;"⟩ : MethodName)) (W := 0) hown (wdOf hw 151 rfl) (wdOf hw 152 rfl) (mvT hZ (wdOf hw 153 rfl)) (wdOf hw 154 rfl) (wdOf hw 155 rfl) (wdOf hw 156 rfl) (wdOf hw 157 rfl) (wdOf hw 146 rfl) (wdOf hw 126 rfl) (wdOf hw 158 rfl) (by decide) (rm_nx l Z a0 hw [] r_1104 ax ea ob ke T_1104.heap n0 y_1133 Gl__1104 (ne_exa f_1119 GE__1104 (by decide)) (Ne.symm (GE__1104.neArv f_1123 (wdOf hw 125 rfl))) GE__1104 Gthis0__1104 Gcursor__1104 GlastRet__1104 GexpectedModCount__1104 f_1119 f_1120 f_1121 f_1122 f_1123) (by decide) (by decide) (by decide) (by decide) K_1134 GE__1104 (g := (mkF m 165 #[sR_ tx, sI_ (4 : Int32), sI_ r, sR_ ax, sR_ la, sR_ r_1104, sU_] [(.ref r_1104)])) rfl (by rw [hml]; rfl) (argsL := []) (rest := []) (lenOf pd_10 rfl) rfl rfl (Nat.le_refl _) (hb hby d_rm_ti2_165)
  obtain ⟨rfl, n_1135, K_1135, GE__1135, Gthis0__1135, Gcursor__1135, GlastRet__1135, GexpectedModCount__1135⟩ := q_1135
  have N_1135 := Fr.app N_1134 n_1135
  have f_1136 := f_1105.keep K_1135 (allS Gl__1104 all0)
  have f_1137 := f_1106.keep K_1135
  have f_1138 := f_1107.keep K_1135 (ninS (ne_exa f_1106 GE__1104 (by decide)) nin0)
  have f_1139 := f_1108.keep K_1135 (ninS (ne_exa f_1106 GE__1104 (by decide)) nin0)
  have f_1140 := f_1109.keep K_1135 (ninS (ne_exa f_1106 GE__1104 (by decide)) nin0)
  have f_1141 := f_1110.keep K_1135 (ninS (ne_exa f_1106 GE__1104 (by decide)) nin0)
  have f_1142 := f_1111.keep K_1135 (ninS (ne_exa f_1106 GE__1104 (by decide)) nin0)
  have f_1143 := f_1112.keep K_1135 (ninS (ne_exa f_1106 GE__1104 (by decide)) nin0)
  have f_1144 := f_1113.keep K_1135 (ninS (ne_exa f_1106 GE__1104 (by decide)) nin0)
  have f_1145 := f_1114.keep K_1135 (ninS (ne_exa f_1106 GE__1104 (by decide)) nin0)
  have f_1146 := f_1115.keep K_1135 (ninS (ne_exa f_1106 GE__1104 (by decide)) nin0)
  have f_1147 := f_1116.keep K_1135 (ninS (ne_exa f_1106 GE__1104 (by decide)) nin0)
  have f_1148 := f_1117.keep K_1135 (ninS (ne_exa f_1106 GE__1104 (by decide)) nin0)
  have f_1149 := f_1118.keep K_1135 (ninS (ne_exa f_1106 GE__1104 (by decide)) nin0)
  have f_1150 := f_1119.keep K_1135
  have f_1151 := f_1120.keep K_1135 (ninS (ne_exa f_1119 GE__1104 (by decide)) nin0)
  have f_1152 := f_1121.keep K_1135 (ninS (ne_exa f_1119 GE__1104 (by decide)) nin0)
  have f_1153 := f_1122.keep K_1135 (ninS (ne_exa f_1119 GE__1104 (by decide)) nin0)
  have f_1154 := f_1123.keep K_1135 (ninS (Ne.symm (GE__1104.neArv f_1123 (wdOf hw 125 rfl))) nin0)
  have f_1155 := f_1124.keep K_1135
  have f_1156 := f_1125.keep K_1135 (ninS (ne_exa f_1124 GE__1104 (by decide)) nin0)
  have f_1157 := f_1126.keep K_1135 (ninS (Ne.symm (GE__1104.neArv f_1126 (wdOf hw 125 rfl))) nin0)
  have f_1158 := f_1127.keep K_1135 (ninS (Ne.symm (GE__1104.neBar f_1127 (wdOf hw 125 rfl))) nin0)
  have f_1159 := f_1128.keep K_1135 (ninS (Ne.symm (GE__1104.neBar f_1128 (wdOf hw 125 rfl))) nin0)
  have f_1160 := f_1129.keep K_1135 (ninS (Ne.symm (GE__1104.neBar f_1129 (wdOf hw 125 rfl))) nin0)
  have f_1161 := f_1130.keep K_1135 (ninS (Ne.symm (GE__1104.neBar f_1130 (wdOf hw 125 rfl))) nin0)
  have f_1162 := f_1131.keep K_1135 (ninS (Ne.symm (GE__1104.neBar f_1131 (wdOf hw 125 rfl))) nin0)
  have f_1163 := f_1132.keep K_1135 (ninS (Ne.symm (GE__1104.neBar f_1132 (wdOf hw 125 rfl))) nin0)
  have f_1164 := GE__1104.keep K_1135
  have y_1169 : n0 ≤ T_1135.heap.size := Nat.le_trans (Nat.le_of_eq f_1136.1.symm) f_1136.2.1
  refine Goes.go (U' := (T_1135.setTop (mkF m 170 #[sR_ tx, sI_ (4 : Int32), sI_ r, sR_ ax, sR_ la, sR_ r_1104, sU_] [(.ref ob)]))) st_1135 ?_
  obtain ⟨T_1170, X_1170, e_1170, st_1170⟩ := castY X_1135 hx hZ hown (wdOf hw 165 rfl) (rfl : T_1135.heap = T_1135.heap) (Ins.self f_1155) (g := (mkF m 170 #[sR_ tx, sI_ (4 : Int32), sI_ r, sR_ ax, sR_ la, sR_ r_1104, sU_] [(.ref ob)])) rfl rfl (hb hby d_rm_ti2_170)
  refine Goes.go (U' := (T_1170.setTop (mkF m 173 #[sR_ tx, sI_ (4 : Int32), sI_ r, sR_ ax, sR_ la, sR_ r_1104, sU_] [(.ref ob)]))) st_1170 ?_
  obtain ⟨v_1171, T_1171, L_1171, X_1171, q_1171, st_1171⟩ := callVirtual X_1170 hx hZ (y := (⟨"java/lang/Integer", "intValue", "()I"⟩ : MethodName)) (z := (⟨"java/lang/Integer", "intValue", "()I"⟩ : MethodName)) (W := 0) hown (wdOf hw 167 rfl) (wdOf hw 168 rfl) (notFace_of_selects (args := #[]) (mvT hZ (wdOf hw 170 rfl))) (wdOf hw 170 rfl) (wdOf hw 169 rfl) (wdOf hw 29 rfl) (wdOf hw 171 rfl) (by decide) (rm_iv l Z a0 hw [] ob xv T_1135.heap n0 y_1169 f_1156) (by decide) (by decide) (by decide) (by decide) e_1170 f_1155 (g := (mkF m 173 #[sR_ tx, sI_ (4 : Int32), sI_ r, sR_ ax, sR_ la, sR_ r_1104, sU_] [(.ref ob)])) rfl (by rw [hml]; rfl) (argsL := []) (rest := []) (lenOf pd_6 rfl) rfl rfl (Nat.le_refl _) (hb hby d_rm_ti2_173)
  obtain ⟨rfl, n_1171, K_1171⟩ := q_1171
  have N_1171 := Fr.app N_1135 n_1171
  refine Goes.go (U' := (T_1171.setTop (mkF m 176 #[sR_ tx, sI_ (4 : Int32), sI_ r, sR_ ax, sR_ la, sR_ r_1104, sU_] [(.int xv)]))) st_1171 ?_
  refine Goes.go (U' := (T_1171.setTop (mkF m 179 #[sR_ tx, sI_ (4 : Int32), sI_ r, sR_ ax, sR_ la, sR_ r_1104, sI_ xv] [(.ref tx)]))) (fun t kt => ?_) ?_
  · skip
    refine XS.istore X_1171.here hx rfl (hb hby d_rm_ti2_176) rfl (l' := #[sR_ tx, sI_ (4 : Int32), sI_ r, sR_ ax, sR_ la, sR_ r_1104, sI_ xv]) rfl ?_
    refine XS.aloadN X_1171.here hx rfl (hb hby d_rm_ti2_178) rfl rfl ?_
    exact kt
  obtain ⟨T_1172, X_1172, e_1172, st_1172⟩ := getF X_1171 hx hZ hown (host := "") (Or.inl (wdOf hw 90 rfl)) Via.refl K_1171 f_1142 (g := (mkF m 179 #[sR_ tx, sI_ (4 : Int32), sI_ r, sR_ ax, sR_ la, sR_ r_1104, sI_ xv] [(.ref tx)])) rfl rfl (hb hby d_rm_ti2_179)
  refine Goes.go (U' := (T_1172.setTop (mkF m 182 #[sR_ tx, sI_ (4 : Int32), sI_ r, sR_ ax, sR_ la, sR_ r_1104, sI_ xv] [(.ref b_189)]))) st_1172 ?_
  refine Goes.go (U' := (T_1172.setTop (mkF m 185 #[sR_ tx, sI_ (4 : Int32), sI_ r, sR_ ax, sR_ la, sR_ r_1104, sI_ xv] [(.int (1 : Int32)), (.int xv), (.ref b_189)]))) (fun t kt => ?_) ?_
  · skip
    refine XS.iload X_1172.here hx rfl (hb hby d_rm_ti2_182) rfl ?_
    refine XS.iconst X_1172.here hx rfl (hb hby d_rm_ti2_184) ?_
    exact kt
  obtain ⟨cl_1173, Ar_1173, S_1173, H_1173⟩ := id f_1163
  have hin_1173 : ¬ (xv < 0 ∨ cl_1173.slots.size ≤ (xv).toNatClampNeg) := inb_of S_1173 hxv
  obtain ⟨T_1173, h_1173, X_1173, e_1173, W_1173, st_1173⟩ := stZ X_1172 hx hZ e_1172 Ar_1173 (j := xv) hin_1173 (g := (mkF m 185 #[sR_ tx, sI_ (4 : Int32), sI_ r, sR_ ax, sR_ la, sR_ r_1104, sI_ xv] [(.int (1 : Int32)), (.int xv), (.ref b_189)])) rfl rfl (hb hby d_rm_ti2_185)
  have B_1173 : Bar Z h_1173 b_189 .boolean IntP := Bar.set Ar_1173 S_1173 H_1173 W_1173 (IntP.mk _)
  have N_1173 := Fr.snoc X_1173 N_1171 o_189
  have f_1174 := f_1136.wr W_1173 o_189
  have f_1175 := f_1137.wr W_1173
  have f_1176 := f_1138.other W_1173 (Or.inl ne_190)
  have f_1177 := f_1139.other W_1173 (Or.inl ne_190)
  have f_1178 := f_1140.other W_1173 (Or.inl ne_190)
  have f_1179 := f_1141.other W_1173 (Or.inl ne_190)
  have f_1180 := f_1142.other W_1173 (Or.inl ne_190)
  have f_1181 := f_1143.other W_1173 (Or.inl ne_190)
  have f_1182 := f_1144.other W_1173 (Or.inl ne_190)
  have f_1183 := f_1145.other W_1173 (Or.inl ne_190)
  have f_1184 := f_1146.other W_1173 (Or.inl ne_190)
  have f_1185 := f_1147.other W_1173 (Or.inl ne_190)
  have f_1186 := f_1148.other W_1173 (Or.inl ne_190)
  have f_1187 := f_1149.other W_1173 (Or.inl ne_190)
  have f_1188 := f_1150.wr W_1173
  have f_1189 := f_1151.other W_1173 (Or.inl ne_191)
  have f_1190 := f_1152.other W_1173 (Or.inl ne_191)
  have f_1191 := f_1153.other W_1173 (Or.inl ne_191)
  have f_1192 := f_1154.other W_1173 ne_192
  have f_1193 := f_1155.wr W_1173
  have f_1194 := f_1156.other W_1173 (Or.inl ne_193)
  have f_1195 := f_1157.other W_1173 ne_194
  have f_1196 := f_1158.other W_1173 ne_195
  have f_1197 := f_1159.other W_1173 (Ne.symm ne_265)
  have f_1198 := f_1160.other W_1173 (Ne.symm ne_337)
  have f_1199 := f_1161.other W_1173 (Ne.symm ne_412)
  have f_1200 := f_1162.other W_1173 (Ne.symm ne_525)
  have f_1202 := f_1164.wr W_1173
  have f_1203 := Gthis0__1135.other W_1173 (Or.inl (f_1164.neBar f_1163 (wdOf hw 125 rfl)))
  have f_1204 := Gcursor__1135.other W_1173 (Or.inl (f_1164.neBar f_1163 (wdOf hw 125 rfl)))
  have f_1205 := GlastRet__1135.other W_1173 (Or.inl (f_1164.neBar f_1163 (wdOf hw 125 rfl)))
  have f_1206 := GexpectedModCount__1135.other W_1173 (Or.inl (f_1164.neBar f_1163 (wdOf hw 125 rfl)))
  have y_1207 : n0 ≤ h_1173.size := Nat.le_trans (Nat.le_of_eq f_1174.1.symm) f_1174.2.1
  refine Goes.go (U' := (T_1173.setTop (mkF m 186 #[sR_ tx, sI_ (4 : Int32), sI_ r, sR_ ax, sR_ la, sR_ r_1104, sI_ xv] []))) st_1173 ?_
  refine Goes.go (U' := (T_1173.setTop (mkF m 155 #[sR_ tx, sI_ (4 : Int32), sI_ r, sR_ ax, sR_ la, sR_ r_1104, sI_ xv] [(.ref r_1104)]))) (fun t kt => ?_) ?_
  · skip
    refine XS.goto X_1173.here hx rfl (pc0 := 186) (pc' := 153) rfl (hb hby d_rm_ti2_186) (by decide) (by decide) ?_
    refine XS.aload X_1173.here hx rfl (hb hby d_rm_ti2_153) rfl rfl ?_
    exact kt
  obtain ⟨v_1208, T_1208, L_1208, X_1208, q_1208, st_1208⟩ := callFace X_1173 hx hZ (y := (⟨"java/util/Iterator", "hasNext", "()Z"⟩ : MethodName)) (z := (⟨"java/util/ArrayList$Itr", "hasNext", "()Z"⟩ : MethodName)) (W := 0) hown (wdOf hw 139 rfl) (wdOf hw 140 rfl) (mvT hZ (wdOf hw 141 rfl)) (wdOf hw 142 rfl) (wdOf hw 143 rfl) (wdOf hw 144 rfl) (wdOf hw 145 rfl) (wdOf hw 146 rfl) (wdOf hw 126 rfl) (wdOf hw 147 rfl) (by decide) (rm_hn1 l Z a0 hw [] r_1104 ax (0 : Int32) h_1173 n0 y_1207 f_1203 f_1204 f_1188 f_1191) (by decide) (by decide) (by decide) (by decide) e_1173 f_1202 (g := (mkF m 155 #[sR_ tx, sI_ (4 : Int32), sI_ r, sR_ ax, sR_ la, sR_ r_1104, sI_ xv] [(.ref r_1104)])) rfl (by rw [hml]; rfl) (argsL := []) (rest := []) (lenOf pd_9 rfl) rfl rfl (Nat.le_refl _) (hb hby d_rm_ti2_155)
  obtain ⟨rfl, n_1208, K_1208⟩ := q_1208
  have N_1208 := Fr.app N_1173 n_1208
  refine Goes.go (U' := (T_1208.setTop (mkF m 160 #[sR_ tx, sI_ (4 : Int32), sI_ r, sR_ ax, sR_ la, sR_ r_1104, sI_ xv] [(.int (0 : Int32))]))) st_1208 ?_
  refine Goes.go (U' := (T_1208.setTop (mkF m 189 #[sR_ tx, sI_ (4 : Int32), sI_ r, sR_ ax, sR_ la, sR_ r_1104, sI_ xv] []))) (fun t kt => ?_) ?_
  · skip
    refine XS.ifYes X_1208.here hx rfl (pc0 := 160) (pc' := 189) rfl (hb hby d_rm_ti2_160) rfl (XT.i0_eq_t (by decide)) (by decide) (by decide) ?_
    exact kt
  refine Goes.retV X_1208 hx hlk hret (hb hby d_rm_ti2_189) (by decide) (by decide) ?_
  try rw [K_1208]
  exact ⟨rfl, N_1208, f_1174, ⟨_, _, _, _, _, _, _, _, _, f_1175, f_1176, f_1177, f_1178, f_1179, f_1181, f_1182, f_1183, f_1184, f_1185, f_1186, f_1187, f_1195, f_1200, f_1198, f_1197, f_1199, f_1196, O_60, ⟨o0, o_60, o_123, o_258, o_330, o_405, o_518⟩, ⟨ne_338, ne_413, (Ne.symm ne_264), ne_414, (Ne.symm ne_336), (Ne.symm ne_411)⟩⟩⟩
theorem d_rm_ti1_0 : decode prog_20_method_1_code 0 = .ok (.aload_n 0, 1) := by decide +kernel
theorem d_rm_ti1_1 : decode prog_20_method_1_code 1 = .ok (.iload_n 1, 1) := by decide +kernel
theorem d_rm_ti1_2 : decode prog_20_method_1_code 2 = .ok (.iload_n 2, 1) := by decide +kernel
theorem d_rm_ti1_3 : decode prog_20_method_1_code 3 = .ok (.aload_n 3, 1) := by decide +kernel
theorem d_rm_ti1_4 : decode prog_20_method_1_code 4 = .ok (.invokedynamic 1, 5) := by decide +kernel
theorem d_rm_ti1_9 : decode prog_20_method_1_code 9 = .ok (.invokespecial 5, 3) := by decide +kernel
theorem d_rm_ti1_12 : decode prog_20_method_1_code 12 = .ok (.return_, 1) := by decide +kernel
set_option maxHeartbeats 4000000 in
theorem ef_rm_ti1 (m : MethodId) (x0 : Addr) (x1 : Int32) (x2 : Int32) (x3 : Addr)  : entryFrame m #[(.ref x0), (.int x1), (.int x2), (.ref x3)] 4 = mkF m 0 #[.val (.ref x0), .val (.int x1), .val (.int x2), .val (.ref x3)] [] := by first | (simp [entryFrame, mkF, argsToLocals, catR, catN, catI, catJ]; done) | rfl
set_option maxRecDepth 65536 in
set_option maxHeartbeats 40000000 in
theorem rm_ti1 (l : Launch) (Z : State) (a0 : Array Value) (hw : ∀ d ∈ tables_1, d.before a0 Z = true) (ws : List Jvm.Cond) (tx ax ea ob la : Addr) (ke : ClassId) (r xv : Int32) (cK : ClassId) (h0 : Heap) (n0 : Nat) (Z0 : n0 ≤ h0.size) (FL : HLam.Lam Z cK la) (O : Old Z n0 h0) (o0 : n0 ≤ tx) (hr : ¬ r < 0 ∧ r < 5) (hxv : ¬ xv < 0 ∧ xv < 5) (Et : Exa Z h0 tx "com/example/copse/copse/HangingTree") (Ft_size : Fld Z h0 tx "com/example/copse/copse/HangingTree" "size" "I" (.int (0 : Int32))) (Ft_root : Fld Z h0 tx "com/example/copse/copse/HangingTree" "root" "I" (.int (0 : Int32))) (Ft_hangsOn : Fld Z h0 tx "com/example/copse/copse/HangingTree" "hangsOn" "[Lcom/example/copse/copse/Arc;" .null) (Ft_children : Fld Z h0 tx "com/example/copse/copse/HangingTree" "children" "[I" .null) (Ft_kept : Fld Z h0 tx "com/example/copse/copse/HangingTree" "kept" "[Z" .null) (Ft_firstChild : Fld Z h0 tx "com/example/copse/copse/HangingTree" "firstChild" "[I" .null) (Ft_nextSibling : Fld Z h0 tx "com/example/copse/copse/HangingTree" "nextSibling" "[I" .null) (Ft_previousSibling : Fld Z h0 tx "com/example/copse/copse/HangingTree" "previousSibling" "[I" .null) (Ft_twinned : Fld Z h0 tx "com/example/copse/copse/HangingTree" "twinned" "Ljava/util/function/Predicate;" .null) (Ft_turns : Fld Z h0 tx "com/example/copse/copse/HangingTree" "turns" "[Z" .null) (Ft_inside : Fld Z h0 tx "com/example/copse/copse/HangingTree" "inside" "[Z" .null) (Ft_joinable : Fld Z h0 tx "com/example/copse/copse/HangingTree" "joinable" "[I" .null) (Ft_isJoinable : Fld Z h0 tx "com/example/copse/copse/HangingTree" "isJoinable" "[Z" .null) (Ft_rest : Fld Z h0 tx "com/example/copse/copse/HangingTree" "rest" "[I" .null) (Ft_isRest : Fld Z h0 tx "com/example/copse/copse/HangingTree" "isRest" "[Z" .null) (Ft_noCheaperPathAt : Fld Z h0 tx "com/example/copse/copse/HangingTree" "noCheaperPathAt" "[J" .null) (Ft_changes : Fld Z h0 tx "com/example/copse/copse/HangingTree" "changes" "J" (.long (0 : Int64))) (Ft_forest : Fld Z h0 tx "com/example/copse/copse/HangingTree" "forest" "Lcom/example/copse/copse/LinkCutForest;" .null) (El : Exa Z h0 ax "java/util/ArrayList") (Fl_modCount : Fld Z h0 ax "java/util/AbstractList" "modCount" "I" (.int (1 : Int32))) (Fl_elementData : Fld Z h0 ax "java/util/ArrayList" "elementData" "[Ljava/lang/Object;" (.ref ea)) (Fl_size : Fld Z h0 ax "java/util/ArrayList" "size" "I" (.int (1 : Int32))) (Va : Arv Z h0 ea ke (.object "java/lang/Object") (10 : Int32) [(.ref ob), .null, .null, .null, .null, .null, .null, .null, .null, .null] .null) (Eo : Exa Z h0 ob "java/lang/Integer") (Fo : Fld Z h0 ob "java/lang/Integer" "value" "I" (.int xv)) :
    Pays l Z (⟨"com/example/copse/copse/HangingTree", "<init>", "(IILjava/util/Collection;)V"⟩ : MethodName) prog_20_method_1_code 4 none ws ({ frames := 4, cells := 14, slots := 69, locals := 3076 } : Room) #[(.ref tx), (.int (4 : Int32)), (.int r), (.ref ax)] h0 (fun v h L => v = none ∧ Fr n0 L ∧ Old Z n0 h ∧ HTr Z h n0 tx la r Value.null Value.null Value.null Value.null Value.null) := by
  refine Pays.ofN (plainFor_of_name (by first | (simp [plainName, overriddenIn]; done) | decide +kernel)) ?_
  intro p e s m below meth c s₁ hx hby hml hown hnamed hnm hret hlk hZ e0 X0
  have N0 := Fr.nil n0
  have K0 : Keep h0 h0 [] := Keep.refl _ _
  refine Goes.go (U' := (s₁.setTop (mkF m 0 #[sR_ tx, sI_ (4 : Int32), sI_ r, sR_ ax] []))) (fun t kt => castTop (ef_rm_ti1 m tx (4 : Int32) r ax) kt) ?_
  refine Goes.go (U' := (s₁.setTop (mkF m 4 #[sR_ tx, sI_ (4 : Int32), sI_ r, sR_ ax] [(.ref ax), (.int r), (.int (4 : Int32)), (.ref tx)]))) (fun t kt => ?_) ?_
  · skip
    refine XS.aloadN X0.here hx rfl (hb hby d_rm_ti1_0) rfl rfl ?_
    refine XS.iloadN X0.here hx rfl (hb hby d_rm_ti1_1) rfl ?_
    refine XS.iloadN X0.here hx rfl (hb hby d_rm_ti1_2) rfl ?_
    refine XS.aloadN X0.here hx rfl (hb hby d_rm_ti1_3) rfl rfl ?_
    exact kt
  have st_1 := HLam.Lam.site FL X0 hx hZ hnamed (g := (mkF m 4 #[sR_ tx, sI_ (4 : Int32), sI_ r, sR_ ax] [(.ref ax), (.int r), (.int (4 : Int32)), (.ref tx)])) rfl (by rw [hml]; rfl) rfl (hb hby d_rm_ti1_4) (W := 4) (Nat.le_refl _) (by decide)
  refine Goes.go (U' := (s₁.setTop (mkF m 9 #[sR_ tx, sI_ (4 : Int32), sI_ r, sR_ ax] [(.ref la), (.ref ax), (.int r), (.int (4 : Int32)), (.ref tx)]))) st_1 ?_
  obtain ⟨v_2, T_2, L_2, X_2, q_2, st_2⟩ := callInit X0 hx hZ (y := (⟨"com/example/copse/copse/HangingTree", "<init>", "(IILjava/util/Collection;Ljava/util/function/Predicate;)V"⟩ : MethodName)) (W := 0) rfl hown (wdOf hw 74 rfl) (wdOf hw 75 rfl) (wdOf hw 67 rfl) (wdOf hw 76 rfl) (by decide) (rm_ti2 l Z a0 hw [] tx ax ea ob la ke r xv h0 n0 Z0 O o0 hr hxv Et Ft_size Ft_root Ft_hangsOn Ft_children Ft_kept Ft_firstChild Ft_nextSibling Ft_previousSibling Ft_twinned Ft_turns Ft_inside Ft_joinable Ft_isJoinable Ft_rest Ft_isRest Ft_noCheaperPathAt Ft_changes Ft_forest El Fl_modCount Fl_elementData Fl_size Va Eo Fo) (by decide) (by decide) (by decide) (by decide) e0 (b := tx) (g := (mkF m 9 #[sR_ tx, sI_ (4 : Int32), sI_ r, sR_ ax] [(.ref la), (.ref ax), (.int r), (.int (4 : Int32)), (.ref tx)])) rfl (by rw [hml]; rfl) (argsL := [(.int (4 : Int32)), (.int r), (.ref ax), (.ref la)]) (rest := []) (lenOf pd_11 rfl) rfl rfl (Nat.le_refl _) (hb hby d_rm_ti1_9)
  obtain ⟨rfl, n_2, O_2, H_2⟩ := q_2
  have N_2 := Fr.app N0 n_2
  have y_2 : n0 ≤ T_2.heap.size := Nat.le_trans (Nat.le_of_eq O_2.1.symm) O_2.2.1
  refine Goes.go (U' := (T_2.setTop (mkF m 12 #[sR_ tx, sI_ (4 : Int32), sI_ r, sR_ ax] []))) st_2 ?_
  refine Goes.retV X_2 hx hlk hret (hb hby d_rm_ti1_12) (by decide) (by decide) ?_
  try rw [(rfl : T_2.heap = T_2.heap)]
  exact ⟨rfl, N_2, O_2, H_2⟩
def RTs (r o1 o2 o3 : Int32) : Prop := (r = 1 ∧ o1 = 2 ∧ o2 = 3 ∧ o3 = 4) ∨ (r = 2 ∧ o1 = 1 ∧ o2 = 3 ∧ o3 = 4) ∨ (r = 3 ∧ o1 = 1 ∧ o2 = 2 ∧ o3 = 4) ∨ (r = 4 ∧ o1 = 1 ∧ o2 = 2 ∧ o3 = 3)
theorem own_RT1 {r : Int32} (h : r = 1) : RTs r 2 3 4 := Or.inl ⟨h, rfl, rfl, rfl⟩
theorem own_RT2 {r : Int32} (h : r = 2) : RTs r 1 3 4 := Or.inr (Or.inl ⟨h, rfl, rfl, rfl⟩)
theorem own_RT3 {r : Int32} (h : r = 3) : RTs r 1 2 4 := Or.inr (Or.inr (Or.inl ⟨h, rfl, rfl, rfl⟩))
theorem own_RT4 {r : Int32} (h : r = 4) : RTs r 1 2 3 := Or.inr (Or.inr (Or.inr ⟨h, rfl, rfl, rfl⟩))
theorem RTs.in5 {r o1 o2 o3 : Int32} (h : RTs r o1 o2 o3) : ¬ r < 0 ∧ r < 5 := by
  rcases h with ⟨rfl, -⟩ | ⟨rfl, -⟩ | ⟨rfl, -⟩ | ⟨rfl, -⟩ <;> decide
theorem own_rI (x : Int32) : ((1 : Int32) + (x &&& (3 : Int32))).toInt = 1 + x.toInt % 4 := by
  have h1 := c_mask x 3 2 (by decide) (by decide)
  have h2 := c_iadd 1 (x &&& 3)
  have e1 : (1 : Int32).toInt = 1 := rfl
  have r := rng32 ((1 : Int32) + (x &&& 3))
  omega
theorem own_r (x : Int32) : ((1 : Int32) + (x &&& (3 : Int32))) = 1 ∨ ((1 : Int32) + (x &&& (3 : Int32))) = 2 ∨ ((1 : Int32) + (x &&& (3 : Int32))) = 3 ∨ ((1 : Int32) + (x &&& (3 : Int32))) = 4 := by
  have h := own_rI x
  have hh : x.toInt % 4 = 0 ∨ x.toInt % 4 = 1 ∨ x.toInt % 4 = 2 ∨ x.toInt % 4 = 3 := by omega
  rcases hh with q | q | q | q <;> rw [q] at h
  · exact Or.inl (ofInt 1 h)
  · exact Or.inr (Or.inl (ofInt 2 h))
  · exact Or.inr (Or.inr (Or.inl (ofInt 3 h)))
  · exact Or.inr (Or.inr (Or.inr (ofInt 4 h)))
theorem own_rb (x : Int32) : ¬ ((1 : Int32) + (x &&& (3 : Int32))) < (-128 : Int32) ∧ ¬ (127 : Int32) < ((1 : Int32) + (x &&& (3 : Int32))) ∧ ¬ ((1 : Int32) + (x &&& (3 : Int32))) < 0 ∧ ((1 : Int32) + (x &&& (3 : Int32))) < 5 := by
  rcases own_r x with q | q | q | q <;> rw [q] <;> decide
theorem own_q (x : Int32) : ((x &&& (7 : Int32)) % (5 : Int32)) = 0 ∨ ((x &&& (7 : Int32)) % (5 : Int32)) = 1 ∨ ((x &&& (7 : Int32)) % (5 : Int32)) = 2 ∨ ((x &&& (7 : Int32)) % (5 : Int32)) = 3 ∨ ((x &&& (7 : Int32)) % (5 : Int32)) = 4 := by
  have h1 := c_mask x 7 3 (by decide) (by decide)
  have hh : (x &&& 7) = 0 ∨ (x &&& 7) = 1 ∨ (x &&& 7) = 2 ∨ (x &&& 7) = 3 ∨ (x &&& 7) = 4 ∨ (x &&& 7) = 5 ∨ (x &&& 7) = 6 ∨ (x &&& 7) = 7 := by
    have q : x.toInt % 8 = 0 ∨ x.toInt % 8 = 1 ∨ x.toInt % 8 = 2 ∨ x.toInt % 8 = 3 ∨ x.toInt % 8 = 4 ∨ x.toInt % 8 = 5 ∨ x.toInt % 8 = 6 ∨ x.toInt % 8 = 7 := by omega
    have e : (x &&& 7).toInt = x.toInt % 8 := by omega
    rcases q with q | q | q | q | q | q | q | q <;> rw [q] at e
    · exact Or.inl (ofInt 0 e)
    · exact Or.inr (Or.inl (ofInt 1 e))
    · exact Or.inr (Or.inr (Or.inl (ofInt 2 e)))
    · exact Or.inr (Or.inr (Or.inr (Or.inl (ofInt 3 e))))
    · exact Or.inr (Or.inr (Or.inr (Or.inr (Or.inl (ofInt 4 e)))))
    · exact Or.inr (Or.inr (Or.inr (Or.inr (Or.inr (Or.inl (ofInt 5 e))))))
    · exact Or.inr (Or.inr (Or.inr (Or.inr (Or.inr (Or.inr (Or.inl (ofInt 6 e)))))))
    · exact Or.inr (Or.inr (Or.inr (Or.inr (Or.inr (Or.inr (Or.inr (ofInt 7 e)))))))
  rcases hh with q | q | q | q | q | q | q | q <;> rw [q] <;> decide
theorem own_land (x : Int64) : ¬ (x &&& (9223372036854775807 : Int64)) < (0 : Int64) := by
  rw [Int64.lt_iff_toInt_lt, c_maskL x 9223372036854775807 63 (by decide) (by decide)]
  show ¬ _ < (0 : Int)
  omega
set_option maxRecDepth 65536 in
set_option maxHeartbeats 40000000 in
theorem law_219 (l : Launch) (Z : State) (a0 : Array Value) (hw : ∀ d ∈ tables_1, d.before a0 Z = true) (q0 q1 q2 q3 : Int32) (qw : Int64) (dx la : Addr) (kd cK : ClassId) (r o1 o2 o3 : Int32) (h1 h2 h3 : Int32) (wt : Int64) (lx tx : Addr) (v0 v1 v2 v3 v4 : Value) (h0 : Heap) (n0 : Nat) (Z0 : n0 ≤ h0.size) (p : Program) (e : Env) (s : State) (m : MethodId) (below : List Frame) (meth : Method) (c : Code) (hx : p.tables.exec = Jvm.exec) (hby : c.code = code) (hml : c.maxLocals = maxLocals) (hown : s.vm.findClass "com/example/copse/copse/HangingTreeContainsPinLaw" = some m.cls) (hnm : meth.name = "law") (hret : meth.sig.returnType = ret) (hlk : meth.locks = false) (hZ : Z.Warmed39 s.vm) (h : Heap) (T : State) (locs : List Loc) (X : Stand p l e room_1 s m #[(.int q0), (.int q1), (.int q2), (.int q3), (.long qw)] below meth c T locs 20 109) (eT : T.heap = h) (N : Fr n0 locs) (O : Old Z n0 h) (BC : BoxC Z "java/lang/Integer$IntegerCache" "[Ljava/lang/Integer;" "java/lang/Integer" "I" (fun i => .int (i.toInt32 - 128))) (SH : Sta Z Z.heap "java/lang/Integer$IntegerCache" "high" "I" (.int (127 : Int32))) (SD : Sta Z Z.heap "java/util/ArrayList" "DEFAULTCAPACITY_EMPTY_ELEMENTDATA" "[Ljava/lang/Object;" (.ref dx)) (VD : Arv Z Z.heap dx kd (.object "java/lang/Object") (0 : Int32) [] .null) (FL : HLam.Lam Z cK la) (RT : RTs r o1 o2 o3) (hwt : ¬ wt < (0 : Int64)) (HT0 : HTr Z h n0 tx la r v0 v1 v2 v3 v4) (A0 : v0 = Value.null ↔ ¬ ((o1 = (0 : Int32) ∧ ¬ h1 = 0) ∨ (o2 = (0 : Int32) ∧ ¬ h2 = 0) ∨ (o3 = (0 : Int32) ∧ ¬ h3 = 0))) (R0 : v0.isRef = true) (A1 : v1 = Value.null ↔ ¬ ((o1 = (1 : Int32) ∧ ¬ h1 = 0) ∨ (o2 = (1 : Int32) ∧ ¬ h2 = 0) ∨ (o3 = (1 : Int32) ∧ ¬ h3 = 0))) (R1 : v1.isRef = true) (A2 : v2 = Value.null ↔ ¬ ((o1 = (2 : Int32) ∧ ¬ h1 = 0) ∨ (o2 = (2 : Int32) ∧ ¬ h2 = 0) ∨ (o3 = (2 : Int32) ∧ ¬ h3 = 0))) (R2 : v2.isRef = true) (A3 : v3 = Value.null ↔ ¬ ((o1 = (3 : Int32) ∧ ¬ h1 = 0) ∨ (o2 = (3 : Int32) ∧ ¬ h2 = 0) ∨ (o3 = (3 : Int32) ∧ ¬ h3 = 0))) (R3 : v3.isRef = true) (A4 : v4 = Value.null ↔ ¬ ((o1 = (4 : Int32) ∧ ¬ h1 = 0) ∨ (o2 = (4 : Int32) ∧ ¬ h2 = 0) ∨ (o3 = (4 : Int32) ∧ ¬ h3 = 0))) (R4 : v4.isRef = true) :
    Goes p e s below (fun v h L => v = some (.int 1) ∧ Fr n0 L) room_1.cells room_1.slots (T.setTop (mkF m 219 #[sI_ q0, sI_ q1, sI_ q2, sI_ q3, sJ_ qw, sS_, sI_ r, sI_ o1, sI_ o2, sI_ o3, sI_ h1, sI_ h2, sI_ h3, sJ_ wt, sS_, sR_ lx, sR_ tx, sU_, sU_] [])) := by
  have sz0 : n0 ≤ h.size := Nat.le_trans (Nat.le_of_eq O.1.symm) O.2.1
  refine Goes.go (U' := (T.setTop (mkF m 227 #[sI_ q0, sI_ q1, sI_ q2, sI_ q3, sJ_ qw, sS_, sI_ r, sI_ o1, sI_ o2, sI_ o3, sI_ h1, sI_ h2, sI_ h3, sJ_ wt, sS_, sR_ lx, sR_ tx, sI_ ((q2 &&& (7 : Int32)) % (5 : Int32)), sU_] []))) (fun t kt => ?_) ?_
  · skip
    refine XS.iloadN X.here hx rfl (hb hby at_219) rfl ?_
    refine XS.bipush X.here hx rfl (hb hby at_220) ?_
    refine XS.iand X.here hx rfl (hb hby at_222) rfl ?_
    refine XS.iconst X.here hx rfl (hb hby at_223) ?_
    refine iremM X hx rfl (hb hby at_224) rfl (by decide) ?_
    refine XS.istore X.here hx rfl (hb hby at_225) rfl (l' := #[sI_ q0, sI_ q1, sI_ q2, sI_ q3, sJ_ qw, sS_, sI_ r, sI_ o1, sI_ o2, sI_ o3, sI_ h1, sI_ h2, sI_ h3, sJ_ wt, sS_, sR_ lx, sR_ tx, sI_ ((q2 &&& (7 : Int32)) % (5 : Int32)), sU_]) rfl ?_
    exact kt
  rcases own_q q2 with hq | hq | hq | hq | hq
  · -- q = 0
    rw [hq]
    rcases RT with ⟨rfl, rfl, rfl, rfl⟩ | ⟨rfl, rfl, rfl, rfl⟩ | ⟨rfl, rfl, rfl, rfl⟩ | ⟨rfl, rfl, rfl, rfl⟩
    · -- r = 1
      refine Goes.go (U' := (T.setTop (mkF m 281 #[sI_ q0, sI_ q1, sI_ q2, sI_ q3, sJ_ qw, sS_, sI_ (1 : Int32), sI_ (2 : Int32), sI_ (3 : Int32), sI_ (4 : Int32), sI_ h1, sI_ h2, sI_ h3, sJ_ wt, sS_, sR_ lx, sR_ tx, sI_ (0 : Int32), sI_ (0 : Int32)] [(.int (0 : Int32)), (.ref tx)]))) (fun t kt => ?_) ?_
      · skip
        refine XS.iload X.here hx rfl (hb hby at_227) rfl ?_
        refine XS.iload X.here hx rfl (hb hby at_229) rfl ?_
        refine XS.icmpNo X.here hx rfl (hb hby at_231) rfl (XT.ii_eq_f (by decide)) ?_
        refine XS.iload X.here hx rfl (hb hby at_234) rfl ?_
        refine XS.iload X.here hx rfl (hb hby at_236) rfl ?_
        refine XS.icmpYes X.here hx rfl (pc0 := 238) (pc' := 246) rfl (hb hby at_238) rfl (XT.ii_ne_t (by decide)) (by decide) (by decide) ?_
        refine XS.iload X.here hx rfl (hb hby at_246) rfl ?_
        refine XS.iload X.here hx rfl (hb hby at_248) rfl ?_
        show Steps p.tables e below (T.setTop (mkF m 250 #[sI_ q0, sI_ q1, sI_ q2, sI_ q3, sJ_ qw, sS_, sI_ (1 : Int32), sI_ (2 : Int32), sI_ (3 : Int32), sI_ (4 : Int32), sI_ h1, sI_ h2, sI_ h3, sJ_ wt, sS_, sR_ lx, sR_ tx, sI_ (0 : Int32), sU_] [(.int (3 : Int32)), (.int (0 : Int32))])) t
        refine XS.icmpYes X.here hx rfl (pc0 := 250) (pc' := 258) rfl (hb hby at_250) rfl (XT.ii_ne_t (by decide)) (by decide) (by decide) ?_
        refine XS.iload X.here hx rfl (hb hby at_258) rfl ?_
        refine XS.iload X.here hx rfl (hb hby at_260) rfl ?_
        refine XS.icmpYes X.here hx rfl (pc0 := 262) (pc' := 274) rfl (hb hby at_262) rfl (XT.ii_ne_t (by decide)) (by decide) (by decide) ?_
        refine XS.iconst X.here hx rfl (hb hby at_274) ?_
        refine XS.istore X.here hx rfl (hb hby at_275) rfl (l' := #[sI_ q0, sI_ q1, sI_ q2, sI_ q3, sJ_ qw, sS_, sI_ (1 : Int32), sI_ (2 : Int32), sI_ (3 : Int32), sI_ (4 : Int32), sI_ h1, sI_ h2, sI_ h3, sJ_ wt, sS_, sR_ lx, sR_ tx, sI_ (0 : Int32), sI_ (0 : Int32)]) rfl ?_
        refine XS.aload X.here hx rfl (hb hby at_277) rfl rfl ?_
        refine XS.iload X.here hx rfl (hb hby at_279) rfl ?_
        exact kt
      obtain ⟨v_1, T_1, L_1, X_1, q_1, st_1⟩ := callVirtual X hx hZ (y := (⟨"com/example/copse/copse/HangingTree", "contains", "(I)Z"⟩ : MethodName)) (z := (⟨"com/example/copse/copse/HangingTree", "contains", "(I)Z"⟩ : MethodName)) (W := 0) hown (wdOf hw 221 rfl) (wdOf hw 222 rfl) (notFace_of_selects (args := #[]) (mvT hZ (wdOf hw 224 rfl))) (wdOf hw 224 rfl) (wdOf hw 223 rfl) (wdOf hw 67 rfl) (wdOf hw 225 rfl) (by decide) (rm_ct0 l Z a0 hw [] tx la (1 : Int32) v0 v1 v2 v3 v4 h n0 sz0 HT0 R0) (by decide) (by decide) (by decide) (by decide) eT (HTr.exa HT0) (g := (mkF m 281 #[sI_ q0, sI_ q1, sI_ q2, sI_ q3, sJ_ qw, sS_, sI_ (1 : Int32), sI_ (2 : Int32), sI_ (3 : Int32), sI_ (4 : Int32), sI_ h1, sI_ h2, sI_ h3, sJ_ wt, sS_, sR_ lx, sR_ tx, sI_ (0 : Int32), sI_ (0 : Int32)] [(.int (0 : Int32)), (.ref tx)])) rfl (by rw [hml]; rfl) (argsL := [(.int (0 : Int32))]) (rest := []) (lenOf pd_12 rfl) rfl rfl (Nat.le_refl _) (hb hby at_281)
      obtain ⟨z_1, rfl, n_1, K_1, hz_1⟩ := q_1
      have N_1 := Fr.app N n_1
      refine Goes.go (U' := (T_1.setTop (mkF m 284 #[sI_ q0, sI_ q1, sI_ q2, sI_ q3, sJ_ qw, sS_, sI_ (1 : Int32), sI_ (2 : Int32), sI_ (3 : Int32), sI_ (4 : Int32), sI_ h1, sI_ h2, sI_ h3, sJ_ wt, sS_, sR_ lx, sR_ tx, sI_ (0 : Int32), sI_ (0 : Int32)] [(.int z_1)]))) st_1 ?_
      obtain rfl : z_1 = (0 : Int32) := by
        rcases hz_1 with ⟨ez, hz⟩ | ⟨ez, hz⟩
        · exact absurd hz (by rw [A0]; simp)
        · exact ez
      refine Goes.go (U' := (T_1.setTop (mkF m 294 #[sI_ q0, sI_ q1, sI_ q2, sI_ q3, sJ_ qw, sS_, sI_ (1 : Int32), sI_ (2 : Int32), sI_ (3 : Int32), sI_ (4 : Int32), sI_ h1, sI_ h2, sI_ h3, sJ_ wt, sS_, sR_ lx, sR_ tx, sI_ (0 : Int32), sI_ (0 : Int32)] [(.int (1 : Int32))]))) (fun t kt => ?_) ?_
      · skip
        refine XS.iload X_1.here hx rfl (hb hby at_284) rfl ?_
        refine XS.icmpNo X_1.here hx rfl (hb hby at_286) rfl (XT.ii_ne_f (by decide)) ?_
        refine XS.iconst X_1.here hx rfl (hb hby at_289) ?_
        refine XS.goto X_1.here hx rfl (pc0 := 290) (pc' := 294) rfl (hb hby at_290) (by decide) (by decide) ?_
        exact kt
      refine Goes.retB X_1 hx hlk hret (hb hby at_294) (by decide) (by decide) ?_
      try rw [K_1]
      exact ⟨rfl, N_1⟩
    · -- r = 2
      refine Goes.go (U' := (T.setTop (mkF m 281 #[sI_ q0, sI_ q1, sI_ q2, sI_ q3, sJ_ qw, sS_, sI_ (2 : Int32), sI_ (1 : Int32), sI_ (3 : Int32), sI_ (4 : Int32), sI_ h1, sI_ h2, sI_ h3, sJ_ wt, sS_, sR_ lx, sR_ tx, sI_ (0 : Int32), sI_ (0 : Int32)] [(.int (0 : Int32)), (.ref tx)]))) (fun t kt => ?_) ?_
      · skip
        refine XS.iload X.here hx rfl (hb hby at_227) rfl ?_
        refine XS.iload X.here hx rfl (hb hby at_229) rfl ?_
        refine XS.icmpNo X.here hx rfl (hb hby at_231) rfl (XT.ii_eq_f (by decide)) ?_
        refine XS.iload X.here hx rfl (hb hby at_234) rfl ?_
        refine XS.iload X.here hx rfl (hb hby at_236) rfl ?_
        refine XS.icmpYes X.here hx rfl (pc0 := 238) (pc' := 246) rfl (hb hby at_238) rfl (XT.ii_ne_t (by decide)) (by decide) (by decide) ?_
        refine XS.iload X.here hx rfl (hb hby at_246) rfl ?_
        refine XS.iload X.here hx rfl (hb hby at_248) rfl ?_
        show Steps p.tables e below (T.setTop (mkF m 250 #[sI_ q0, sI_ q1, sI_ q2, sI_ q3, sJ_ qw, sS_, sI_ (2 : Int32), sI_ (1 : Int32), sI_ (3 : Int32), sI_ (4 : Int32), sI_ h1, sI_ h2, sI_ h3, sJ_ wt, sS_, sR_ lx, sR_ tx, sI_ (0 : Int32), sU_] [(.int (3 : Int32)), (.int (0 : Int32))])) t
        refine XS.icmpYes X.here hx rfl (pc0 := 250) (pc' := 258) rfl (hb hby at_250) rfl (XT.ii_ne_t (by decide)) (by decide) (by decide) ?_
        refine XS.iload X.here hx rfl (hb hby at_258) rfl ?_
        refine XS.iload X.here hx rfl (hb hby at_260) rfl ?_
        refine XS.icmpYes X.here hx rfl (pc0 := 262) (pc' := 274) rfl (hb hby at_262) rfl (XT.ii_ne_t (by decide)) (by decide) (by decide) ?_
        refine XS.iconst X.here hx rfl (hb hby at_274) ?_
        refine XS.istore X.here hx rfl (hb hby at_275) rfl (l' := #[sI_ q0, sI_ q1, sI_ q2, sI_ q3, sJ_ qw, sS_, sI_ (2 : Int32), sI_ (1 : Int32), sI_ (3 : Int32), sI_ (4 : Int32), sI_ h1, sI_ h2, sI_ h3, sJ_ wt, sS_, sR_ lx, sR_ tx, sI_ (0 : Int32), sI_ (0 : Int32)]) rfl ?_
        refine XS.aload X.here hx rfl (hb hby at_277) rfl rfl ?_
        refine XS.iload X.here hx rfl (hb hby at_279) rfl ?_
        exact kt
      obtain ⟨v_2, T_2, L_2, X_2, q_2, st_2⟩ := callVirtual X hx hZ (y := (⟨"com/example/copse/copse/HangingTree", "contains", "(I)Z"⟩ : MethodName)) (z := (⟨"com/example/copse/copse/HangingTree", "contains", "(I)Z"⟩ : MethodName)) (W := 0) hown (wdOf hw 221 rfl) (wdOf hw 222 rfl) (notFace_of_selects (args := #[]) (mvT hZ (wdOf hw 224 rfl))) (wdOf hw 224 rfl) (wdOf hw 223 rfl) (wdOf hw 67 rfl) (wdOf hw 225 rfl) (by decide) (rm_ct0 l Z a0 hw [] tx la (2 : Int32) v0 v1 v2 v3 v4 h n0 sz0 HT0 R0) (by decide) (by decide) (by decide) (by decide) eT (HTr.exa HT0) (g := (mkF m 281 #[sI_ q0, sI_ q1, sI_ q2, sI_ q3, sJ_ qw, sS_, sI_ (2 : Int32), sI_ (1 : Int32), sI_ (3 : Int32), sI_ (4 : Int32), sI_ h1, sI_ h2, sI_ h3, sJ_ wt, sS_, sR_ lx, sR_ tx, sI_ (0 : Int32), sI_ (0 : Int32)] [(.int (0 : Int32)), (.ref tx)])) rfl (by rw [hml]; rfl) (argsL := [(.int (0 : Int32))]) (rest := []) (lenOf pd_12 rfl) rfl rfl (Nat.le_refl _) (hb hby at_281)
      obtain ⟨z_2, rfl, n_2, K_2, hz_2⟩ := q_2
      have N_2 := Fr.app N n_2
      refine Goes.go (U' := (T_2.setTop (mkF m 284 #[sI_ q0, sI_ q1, sI_ q2, sI_ q3, sJ_ qw, sS_, sI_ (2 : Int32), sI_ (1 : Int32), sI_ (3 : Int32), sI_ (4 : Int32), sI_ h1, sI_ h2, sI_ h3, sJ_ wt, sS_, sR_ lx, sR_ tx, sI_ (0 : Int32), sI_ (0 : Int32)] [(.int z_2)]))) st_2 ?_
      obtain rfl : z_2 = (0 : Int32) := by
        rcases hz_2 with ⟨ez, hz⟩ | ⟨ez, hz⟩
        · exact absurd hz (by rw [A0]; simp)
        · exact ez
      refine Goes.go (U' := (T_2.setTop (mkF m 294 #[sI_ q0, sI_ q1, sI_ q2, sI_ q3, sJ_ qw, sS_, sI_ (2 : Int32), sI_ (1 : Int32), sI_ (3 : Int32), sI_ (4 : Int32), sI_ h1, sI_ h2, sI_ h3, sJ_ wt, sS_, sR_ lx, sR_ tx, sI_ (0 : Int32), sI_ (0 : Int32)] [(.int (1 : Int32))]))) (fun t kt => ?_) ?_
      · skip
        refine XS.iload X_2.here hx rfl (hb hby at_284) rfl ?_
        refine XS.icmpNo X_2.here hx rfl (hb hby at_286) rfl (XT.ii_ne_f (by decide)) ?_
        refine XS.iconst X_2.here hx rfl (hb hby at_289) ?_
        refine XS.goto X_2.here hx rfl (pc0 := 290) (pc' := 294) rfl (hb hby at_290) (by decide) (by decide) ?_
        exact kt
      refine Goes.retB X_2 hx hlk hret (hb hby at_294) (by decide) (by decide) ?_
      try rw [K_2]
      exact ⟨rfl, N_2⟩
    · -- r = 3
      refine Goes.go (U' := (T.setTop (mkF m 281 #[sI_ q0, sI_ q1, sI_ q2, sI_ q3, sJ_ qw, sS_, sI_ (3 : Int32), sI_ (1 : Int32), sI_ (2 : Int32), sI_ (4 : Int32), sI_ h1, sI_ h2, sI_ h3, sJ_ wt, sS_, sR_ lx, sR_ tx, sI_ (0 : Int32), sI_ (0 : Int32)] [(.int (0 : Int32)), (.ref tx)]))) (fun t kt => ?_) ?_
      · skip
        refine XS.iload X.here hx rfl (hb hby at_227) rfl ?_
        refine XS.iload X.here hx rfl (hb hby at_229) rfl ?_
        refine XS.icmpNo X.here hx rfl (hb hby at_231) rfl (XT.ii_eq_f (by decide)) ?_
        refine XS.iload X.here hx rfl (hb hby at_234) rfl ?_
        refine XS.iload X.here hx rfl (hb hby at_236) rfl ?_
        refine XS.icmpYes X.here hx rfl (pc0 := 238) (pc' := 246) rfl (hb hby at_238) rfl (XT.ii_ne_t (by decide)) (by decide) (by decide) ?_
        refine XS.iload X.here hx rfl (hb hby at_246) rfl ?_
        refine XS.iload X.here hx rfl (hb hby at_248) rfl ?_
        show Steps p.tables e below (T.setTop (mkF m 250 #[sI_ q0, sI_ q1, sI_ q2, sI_ q3, sJ_ qw, sS_, sI_ (3 : Int32), sI_ (1 : Int32), sI_ (2 : Int32), sI_ (4 : Int32), sI_ h1, sI_ h2, sI_ h3, sJ_ wt, sS_, sR_ lx, sR_ tx, sI_ (0 : Int32), sU_] [(.int (2 : Int32)), (.int (0 : Int32))])) t
        refine XS.icmpYes X.here hx rfl (pc0 := 250) (pc' := 258) rfl (hb hby at_250) rfl (XT.ii_ne_t (by decide)) (by decide) (by decide) ?_
        refine XS.iload X.here hx rfl (hb hby at_258) rfl ?_
        refine XS.iload X.here hx rfl (hb hby at_260) rfl ?_
        refine XS.icmpYes X.here hx rfl (pc0 := 262) (pc' := 274) rfl (hb hby at_262) rfl (XT.ii_ne_t (by decide)) (by decide) (by decide) ?_
        refine XS.iconst X.here hx rfl (hb hby at_274) ?_
        refine XS.istore X.here hx rfl (hb hby at_275) rfl (l' := #[sI_ q0, sI_ q1, sI_ q2, sI_ q3, sJ_ qw, sS_, sI_ (3 : Int32), sI_ (1 : Int32), sI_ (2 : Int32), sI_ (4 : Int32), sI_ h1, sI_ h2, sI_ h3, sJ_ wt, sS_, sR_ lx, sR_ tx, sI_ (0 : Int32), sI_ (0 : Int32)]) rfl ?_
        refine XS.aload X.here hx rfl (hb hby at_277) rfl rfl ?_
        refine XS.iload X.here hx rfl (hb hby at_279) rfl ?_
        exact kt
      obtain ⟨v_3, T_3, L_3, X_3, q_3, st_3⟩ := callVirtual X hx hZ (y := (⟨"com/example/copse/copse/HangingTree", "contains", "(I)Z"⟩ : MethodName)) (z := (⟨"com/example/copse/copse/HangingTree", "contains", "(I)Z"⟩ : MethodName)) (W := 0) hown (wdOf hw 221 rfl) (wdOf hw 222 rfl) (notFace_of_selects (args := #[]) (mvT hZ (wdOf hw 224 rfl))) (wdOf hw 224 rfl) (wdOf hw 223 rfl) (wdOf hw 67 rfl) (wdOf hw 225 rfl) (by decide) (rm_ct0 l Z a0 hw [] tx la (3 : Int32) v0 v1 v2 v3 v4 h n0 sz0 HT0 R0) (by decide) (by decide) (by decide) (by decide) eT (HTr.exa HT0) (g := (mkF m 281 #[sI_ q0, sI_ q1, sI_ q2, sI_ q3, sJ_ qw, sS_, sI_ (3 : Int32), sI_ (1 : Int32), sI_ (2 : Int32), sI_ (4 : Int32), sI_ h1, sI_ h2, sI_ h3, sJ_ wt, sS_, sR_ lx, sR_ tx, sI_ (0 : Int32), sI_ (0 : Int32)] [(.int (0 : Int32)), (.ref tx)])) rfl (by rw [hml]; rfl) (argsL := [(.int (0 : Int32))]) (rest := []) (lenOf pd_12 rfl) rfl rfl (Nat.le_refl _) (hb hby at_281)
      obtain ⟨z_3, rfl, n_3, K_3, hz_3⟩ := q_3
      have N_3 := Fr.app N n_3
      refine Goes.go (U' := (T_3.setTop (mkF m 284 #[sI_ q0, sI_ q1, sI_ q2, sI_ q3, sJ_ qw, sS_, sI_ (3 : Int32), sI_ (1 : Int32), sI_ (2 : Int32), sI_ (4 : Int32), sI_ h1, sI_ h2, sI_ h3, sJ_ wt, sS_, sR_ lx, sR_ tx, sI_ (0 : Int32), sI_ (0 : Int32)] [(.int z_3)]))) st_3 ?_
      obtain rfl : z_3 = (0 : Int32) := by
        rcases hz_3 with ⟨ez, hz⟩ | ⟨ez, hz⟩
        · exact absurd hz (by rw [A0]; simp)
        · exact ez
      refine Goes.go (U' := (T_3.setTop (mkF m 294 #[sI_ q0, sI_ q1, sI_ q2, sI_ q3, sJ_ qw, sS_, sI_ (3 : Int32), sI_ (1 : Int32), sI_ (2 : Int32), sI_ (4 : Int32), sI_ h1, sI_ h2, sI_ h3, sJ_ wt, sS_, sR_ lx, sR_ tx, sI_ (0 : Int32), sI_ (0 : Int32)] [(.int (1 : Int32))]))) (fun t kt => ?_) ?_
      · skip
        refine XS.iload X_3.here hx rfl (hb hby at_284) rfl ?_
        refine XS.icmpNo X_3.here hx rfl (hb hby at_286) rfl (XT.ii_ne_f (by decide)) ?_
        refine XS.iconst X_3.here hx rfl (hb hby at_289) ?_
        refine XS.goto X_3.here hx rfl (pc0 := 290) (pc' := 294) rfl (hb hby at_290) (by decide) (by decide) ?_
        exact kt
      refine Goes.retB X_3 hx hlk hret (hb hby at_294) (by decide) (by decide) ?_
      try rw [K_3]
      exact ⟨rfl, N_3⟩
    · -- r = 4
      refine Goes.go (U' := (T.setTop (mkF m 281 #[sI_ q0, sI_ q1, sI_ q2, sI_ q3, sJ_ qw, sS_, sI_ (4 : Int32), sI_ (1 : Int32), sI_ (2 : Int32), sI_ (3 : Int32), sI_ h1, sI_ h2, sI_ h3, sJ_ wt, sS_, sR_ lx, sR_ tx, sI_ (0 : Int32), sI_ (0 : Int32)] [(.int (0 : Int32)), (.ref tx)]))) (fun t kt => ?_) ?_
      · skip
        refine XS.iload X.here hx rfl (hb hby at_227) rfl ?_
        refine XS.iload X.here hx rfl (hb hby at_229) rfl ?_
        refine XS.icmpNo X.here hx rfl (hb hby at_231) rfl (XT.ii_eq_f (by decide)) ?_
        refine XS.iload X.here hx rfl (hb hby at_234) rfl ?_
        refine XS.iload X.here hx rfl (hb hby at_236) rfl ?_
        refine XS.icmpYes X.here hx rfl (pc0 := 238) (pc' := 246) rfl (hb hby at_238) rfl (XT.ii_ne_t (by decide)) (by decide) (by decide) ?_
        refine XS.iload X.here hx rfl (hb hby at_246) rfl ?_
        refine XS.iload X.here hx rfl (hb hby at_248) rfl ?_
        show Steps p.tables e below (T.setTop (mkF m 250 #[sI_ q0, sI_ q1, sI_ q2, sI_ q3, sJ_ qw, sS_, sI_ (4 : Int32), sI_ (1 : Int32), sI_ (2 : Int32), sI_ (3 : Int32), sI_ h1, sI_ h2, sI_ h3, sJ_ wt, sS_, sR_ lx, sR_ tx, sI_ (0 : Int32), sU_] [(.int (2 : Int32)), (.int (0 : Int32))])) t
        refine XS.icmpYes X.here hx rfl (pc0 := 250) (pc' := 258) rfl (hb hby at_250) rfl (XT.ii_ne_t (by decide)) (by decide) (by decide) ?_
        refine XS.iload X.here hx rfl (hb hby at_258) rfl ?_
        refine XS.iload X.here hx rfl (hb hby at_260) rfl ?_
        refine XS.icmpYes X.here hx rfl (pc0 := 262) (pc' := 274) rfl (hb hby at_262) rfl (XT.ii_ne_t (by decide)) (by decide) (by decide) ?_
        refine XS.iconst X.here hx rfl (hb hby at_274) ?_
        refine XS.istore X.here hx rfl (hb hby at_275) rfl (l' := #[sI_ q0, sI_ q1, sI_ q2, sI_ q3, sJ_ qw, sS_, sI_ (4 : Int32), sI_ (1 : Int32), sI_ (2 : Int32), sI_ (3 : Int32), sI_ h1, sI_ h2, sI_ h3, sJ_ wt, sS_, sR_ lx, sR_ tx, sI_ (0 : Int32), sI_ (0 : Int32)]) rfl ?_
        refine XS.aload X.here hx rfl (hb hby at_277) rfl rfl ?_
        refine XS.iload X.here hx rfl (hb hby at_279) rfl ?_
        exact kt
      obtain ⟨v_4, T_4, L_4, X_4, q_4, st_4⟩ := callVirtual X hx hZ (y := (⟨"com/example/copse/copse/HangingTree", "contains", "(I)Z"⟩ : MethodName)) (z := (⟨"com/example/copse/copse/HangingTree", "contains", "(I)Z"⟩ : MethodName)) (W := 0) hown (wdOf hw 221 rfl) (wdOf hw 222 rfl) (notFace_of_selects (args := #[]) (mvT hZ (wdOf hw 224 rfl))) (wdOf hw 224 rfl) (wdOf hw 223 rfl) (wdOf hw 67 rfl) (wdOf hw 225 rfl) (by decide) (rm_ct0 l Z a0 hw [] tx la (4 : Int32) v0 v1 v2 v3 v4 h n0 sz0 HT0 R0) (by decide) (by decide) (by decide) (by decide) eT (HTr.exa HT0) (g := (mkF m 281 #[sI_ q0, sI_ q1, sI_ q2, sI_ q3, sJ_ qw, sS_, sI_ (4 : Int32), sI_ (1 : Int32), sI_ (2 : Int32), sI_ (3 : Int32), sI_ h1, sI_ h2, sI_ h3, sJ_ wt, sS_, sR_ lx, sR_ tx, sI_ (0 : Int32), sI_ (0 : Int32)] [(.int (0 : Int32)), (.ref tx)])) rfl (by rw [hml]; rfl) (argsL := [(.int (0 : Int32))]) (rest := []) (lenOf pd_12 rfl) rfl rfl (Nat.le_refl _) (hb hby at_281)
      obtain ⟨z_4, rfl, n_4, K_4, hz_4⟩ := q_4
      have N_4 := Fr.app N n_4
      refine Goes.go (U' := (T_4.setTop (mkF m 284 #[sI_ q0, sI_ q1, sI_ q2, sI_ q3, sJ_ qw, sS_, sI_ (4 : Int32), sI_ (1 : Int32), sI_ (2 : Int32), sI_ (3 : Int32), sI_ h1, sI_ h2, sI_ h3, sJ_ wt, sS_, sR_ lx, sR_ tx, sI_ (0 : Int32), sI_ (0 : Int32)] [(.int z_4)]))) st_4 ?_
      obtain rfl : z_4 = (0 : Int32) := by
        rcases hz_4 with ⟨ez, hz⟩ | ⟨ez, hz⟩
        · exact absurd hz (by rw [A0]; simp)
        · exact ez
      refine Goes.go (U' := (T_4.setTop (mkF m 294 #[sI_ q0, sI_ q1, sI_ q2, sI_ q3, sJ_ qw, sS_, sI_ (4 : Int32), sI_ (1 : Int32), sI_ (2 : Int32), sI_ (3 : Int32), sI_ h1, sI_ h2, sI_ h3, sJ_ wt, sS_, sR_ lx, sR_ tx, sI_ (0 : Int32), sI_ (0 : Int32)] [(.int (1 : Int32))]))) (fun t kt => ?_) ?_
      · skip
        refine XS.iload X_4.here hx rfl (hb hby at_284) rfl ?_
        refine XS.icmpNo X_4.here hx rfl (hb hby at_286) rfl (XT.ii_ne_f (by decide)) ?_
        refine XS.iconst X_4.here hx rfl (hb hby at_289) ?_
        refine XS.goto X_4.here hx rfl (pc0 := 290) (pc' := 294) rfl (hb hby at_290) (by decide) (by decide) ?_
        exact kt
      refine Goes.retB X_4 hx hlk hret (hb hby at_294) (by decide) (by decide) ?_
      try rw [K_4]
      exact ⟨rfl, N_4⟩
  · -- q = 1
    rw [hq]
    rcases RT with ⟨rfl, rfl, rfl, rfl⟩ | ⟨rfl, rfl, rfl, rfl⟩ | ⟨rfl, rfl, rfl, rfl⟩ | ⟨rfl, rfl, rfl, rfl⟩
    · -- r = 1
      refine Goes.go (U' := (T.setTop (mkF m 281 #[sI_ q0, sI_ q1, sI_ q2, sI_ q3, sJ_ qw, sS_, sI_ (1 : Int32), sI_ (2 : Int32), sI_ (3 : Int32), sI_ (4 : Int32), sI_ h1, sI_ h2, sI_ h3, sJ_ wt, sS_, sR_ lx, sR_ tx, sI_ (1 : Int32), sI_ (1 : Int32)] [(.int (1 : Int32)), (.ref tx)]))) (fun t kt => ?_) ?_
      · skip
        refine XS.iload X.here hx rfl (hb hby at_227) rfl ?_
        refine XS.iload X.here hx rfl (hb hby at_229) rfl ?_
        refine XS.icmpYes X.here hx rfl (pc0 := 231) (pc' := 270) rfl (hb hby at_231) rfl (XT.ii_eq_t (by decide)) (by decide) (by decide) ?_
        refine XS.iconst X.here hx rfl (hb hby at_270) ?_
        refine XS.goto X.here hx rfl (pc0 := 271) (pc' := 275) rfl (hb hby at_271) (by decide) (by decide) ?_
        refine XS.istore X.here hx rfl (hb hby at_275) rfl (l' := #[sI_ q0, sI_ q1, sI_ q2, sI_ q3, sJ_ qw, sS_, sI_ (1 : Int32), sI_ (2 : Int32), sI_ (3 : Int32), sI_ (4 : Int32), sI_ h1, sI_ h2, sI_ h3, sJ_ wt, sS_, sR_ lx, sR_ tx, sI_ (1 : Int32), sI_ (1 : Int32)]) rfl ?_
        refine XS.aload X.here hx rfl (hb hby at_277) rfl rfl ?_
        refine XS.iload X.here hx rfl (hb hby at_279) rfl ?_
        exact kt
      obtain ⟨v_5, T_5, L_5, X_5, q_5, st_5⟩ := callVirtual X hx hZ (y := (⟨"com/example/copse/copse/HangingTree", "contains", "(I)Z"⟩ : MethodName)) (z := (⟨"com/example/copse/copse/HangingTree", "contains", "(I)Z"⟩ : MethodName)) (W := 0) hown (wdOf hw 221 rfl) (wdOf hw 222 rfl) (notFace_of_selects (args := #[]) (mvT hZ (wdOf hw 224 rfl))) (wdOf hw 224 rfl) (wdOf hw 223 rfl) (wdOf hw 67 rfl) (wdOf hw 225 rfl) (by decide) (rm_ct1 l Z a0 hw [] tx la (1 : Int32) v0 v1 v2 v3 v4 h n0 sz0 HT0 R1) (by decide) (by decide) (by decide) (by decide) eT (HTr.exa HT0) (g := (mkF m 281 #[sI_ q0, sI_ q1, sI_ q2, sI_ q3, sJ_ qw, sS_, sI_ (1 : Int32), sI_ (2 : Int32), sI_ (3 : Int32), sI_ (4 : Int32), sI_ h1, sI_ h2, sI_ h3, sJ_ wt, sS_, sR_ lx, sR_ tx, sI_ (1 : Int32), sI_ (1 : Int32)] [(.int (1 : Int32)), (.ref tx)])) rfl (by rw [hml]; rfl) (argsL := [(.int (1 : Int32))]) (rest := []) (lenOf pd_12 rfl) rfl rfl (Nat.le_refl _) (hb hby at_281)
      obtain ⟨z_5, rfl, n_5, K_5, hz_5⟩ := q_5
      have N_5 := Fr.app N n_5
      refine Goes.go (U' := (T_5.setTop (mkF m 284 #[sI_ q0, sI_ q1, sI_ q2, sI_ q3, sJ_ qw, sS_, sI_ (1 : Int32), sI_ (2 : Int32), sI_ (3 : Int32), sI_ (4 : Int32), sI_ h1, sI_ h2, sI_ h3, sJ_ wt, sS_, sR_ lx, sR_ tx, sI_ (1 : Int32), sI_ (1 : Int32)] [(.int z_5)]))) st_5 ?_
      obtain rfl : z_5 = (1 : Int32) := by
        rcases hz_5 with ⟨ez, hz⟩ | ⟨ez, hz⟩
        · exact ez
        · exact absurd hz (by rw [A1]; simp)
      refine Goes.go (U' := (T_5.setTop (mkF m 294 #[sI_ q0, sI_ q1, sI_ q2, sI_ q3, sJ_ qw, sS_, sI_ (1 : Int32), sI_ (2 : Int32), sI_ (3 : Int32), sI_ (4 : Int32), sI_ h1, sI_ h2, sI_ h3, sJ_ wt, sS_, sR_ lx, sR_ tx, sI_ (1 : Int32), sI_ (1 : Int32)] [(.int (1 : Int32))]))) (fun t kt => ?_) ?_
      · skip
        refine XS.iload X_5.here hx rfl (hb hby at_284) rfl ?_
        refine XS.icmpNo X_5.here hx rfl (hb hby at_286) rfl (XT.ii_ne_f (by decide)) ?_
        refine XS.iconst X_5.here hx rfl (hb hby at_289) ?_
        refine XS.goto X_5.here hx rfl (pc0 := 290) (pc' := 294) rfl (hb hby at_290) (by decide) (by decide) ?_
        exact kt
      refine Goes.retB X_5 hx hlk hret (hb hby at_294) (by decide) (by decide) ?_
      try rw [K_5]
      exact ⟨rfl, N_5⟩
    · -- r = 2
      refine Goes.go (U' := (T.setTop (mkF m 243 #[sI_ q0, sI_ q1, sI_ q2, sI_ q3, sJ_ qw, sS_, sI_ (2 : Int32), sI_ (1 : Int32), sI_ (3 : Int32), sI_ (4 : Int32), sI_ h1, sI_ h2, sI_ h3, sJ_ wt, sS_, sR_ lx, sR_ tx, sI_ (1 : Int32), sU_] [(.int h1)]))) (fun t kt => ?_) ?_
      · skip
        refine XS.iload X.here hx rfl (hb hby at_227) rfl ?_
        refine XS.iload X.here hx rfl (hb hby at_229) rfl ?_
        refine XS.icmpNo X.here hx rfl (hb hby at_231) rfl (XT.ii_eq_f (by decide)) ?_
        refine XS.iload X.here hx rfl (hb hby at_234) rfl ?_
        refine XS.iload X.here hx rfl (hb hby at_236) rfl ?_
        refine XS.icmpNo X.here hx rfl (hb hby at_238) rfl (XT.ii_ne_f (by decide)) ?_
        refine XS.iload X.here hx rfl (hb hby at_241) rfl ?_
        exact kt
      by_cases cc0 : h1 = 0
      · -- h1 = 0
        refine Goes.go (U' := (T.setTop (mkF m 281 #[sI_ q0, sI_ q1, sI_ q2, sI_ q3, sJ_ qw, sS_, sI_ (2 : Int32), sI_ (1 : Int32), sI_ (3 : Int32), sI_ (4 : Int32), sI_ h1, sI_ h2, sI_ h3, sJ_ wt, sS_, sR_ lx, sR_ tx, sI_ (1 : Int32), sI_ (0 : Int32)] [(.int (1 : Int32)), (.ref tx)]))) (fun t kt => ?_) ?_
        · skip
          refine XS.ifNo X.here hx rfl (hb hby at_243) rfl (XT.i0_ne_f cc0) ?_
          refine XS.iload X.here hx rfl (hb hby at_246) rfl ?_
          refine XS.iload X.here hx rfl (hb hby at_248) rfl ?_
          refine XS.icmpYes X.here hx rfl (pc0 := 250) (pc' := 258) rfl (hb hby at_250) rfl (XT.ii_ne_t (by decide)) (by decide) (by decide) ?_
          refine XS.iload X.here hx rfl (hb hby at_258) rfl ?_
          refine XS.iload X.here hx rfl (hb hby at_260) rfl ?_
          refine XS.icmpYes X.here hx rfl (pc0 := 262) (pc' := 274) rfl (hb hby at_262) rfl (XT.ii_ne_t (by decide)) (by decide) (by decide) ?_
          refine XS.iconst X.here hx rfl (hb hby at_274) ?_
          show Steps p.tables e below (T.setTop (mkF m 275 #[sI_ q0, sI_ q1, sI_ q2, sI_ q3, sJ_ qw, sS_, sI_ (2 : Int32), sI_ (1 : Int32), sI_ (3 : Int32), sI_ (4 : Int32), sI_ h1, sI_ h2, sI_ h3, sJ_ wt, sS_, sR_ lx, sR_ tx, sI_ (1 : Int32), sU_] [(.int (0 : Int32))])) t
          refine XS.istore X.here hx rfl (hb hby at_275) rfl (l' := #[sI_ q0, sI_ q1, sI_ q2, sI_ q3, sJ_ qw, sS_, sI_ (2 : Int32), sI_ (1 : Int32), sI_ (3 : Int32), sI_ (4 : Int32), sI_ h1, sI_ h2, sI_ h3, sJ_ wt, sS_, sR_ lx, sR_ tx, sI_ (1 : Int32), sI_ (0 : Int32)]) rfl ?_
          refine XS.aload X.here hx rfl (hb hby at_277) rfl rfl ?_
          refine XS.iload X.here hx rfl (hb hby at_279) rfl ?_
          exact kt
        obtain ⟨v_6, T_6, L_6, X_6, q_6, st_6⟩ := callVirtual X hx hZ (y := (⟨"com/example/copse/copse/HangingTree", "contains", "(I)Z"⟩ : MethodName)) (z := (⟨"com/example/copse/copse/HangingTree", "contains", "(I)Z"⟩ : MethodName)) (W := 0) hown (wdOf hw 221 rfl) (wdOf hw 222 rfl) (notFace_of_selects (args := #[]) (mvT hZ (wdOf hw 224 rfl))) (wdOf hw 224 rfl) (wdOf hw 223 rfl) (wdOf hw 67 rfl) (wdOf hw 225 rfl) (by decide) (rm_ct1 l Z a0 hw [] tx la (2 : Int32) v0 v1 v2 v3 v4 h n0 sz0 HT0 R1) (by decide) (by decide) (by decide) (by decide) eT (HTr.exa HT0) (g := (mkF m 281 #[sI_ q0, sI_ q1, sI_ q2, sI_ q3, sJ_ qw, sS_, sI_ (2 : Int32), sI_ (1 : Int32), sI_ (3 : Int32), sI_ (4 : Int32), sI_ h1, sI_ h2, sI_ h3, sJ_ wt, sS_, sR_ lx, sR_ tx, sI_ (1 : Int32), sI_ (0 : Int32)] [(.int (1 : Int32)), (.ref tx)])) rfl (by rw [hml]; rfl) (argsL := [(.int (1 : Int32))]) (rest := []) (lenOf pd_12 rfl) rfl rfl (Nat.le_refl _) (hb hby at_281)
        obtain ⟨z_6, rfl, n_6, K_6, hz_6⟩ := q_6
        have N_6 := Fr.app N n_6
        refine Goes.go (U' := (T_6.setTop (mkF m 284 #[sI_ q0, sI_ q1, sI_ q2, sI_ q3, sJ_ qw, sS_, sI_ (2 : Int32), sI_ (1 : Int32), sI_ (3 : Int32), sI_ (4 : Int32), sI_ h1, sI_ h2, sI_ h3, sJ_ wt, sS_, sR_ lx, sR_ tx, sI_ (1 : Int32), sI_ (0 : Int32)] [(.int z_6)]))) st_6 ?_
        obtain rfl : z_6 = (0 : Int32) := by
          rcases hz_6 with ⟨ez, hz⟩ | ⟨ez, hz⟩
          · exact absurd hz (by rw [A1]; simp [cc0])
          · exact ez
        refine Goes.go (U' := (T_6.setTop (mkF m 294 #[sI_ q0, sI_ q1, sI_ q2, sI_ q3, sJ_ qw, sS_, sI_ (2 : Int32), sI_ (1 : Int32), sI_ (3 : Int32), sI_ (4 : Int32), sI_ h1, sI_ h2, sI_ h3, sJ_ wt, sS_, sR_ lx, sR_ tx, sI_ (1 : Int32), sI_ (0 : Int32)] [(.int (1 : Int32))]))) (fun t kt => ?_) ?_
        · skip
          refine XS.iload X_6.here hx rfl (hb hby at_284) rfl ?_
          refine XS.icmpNo X_6.here hx rfl (hb hby at_286) rfl (XT.ii_ne_f (by decide)) ?_
          refine XS.iconst X_6.here hx rfl (hb hby at_289) ?_
          refine XS.goto X_6.here hx rfl (pc0 := 290) (pc' := 294) rfl (hb hby at_290) (by decide) (by decide) ?_
          exact kt
        refine Goes.retB X_6 hx hlk hret (hb hby at_294) (by decide) (by decide) ?_
        try rw [K_6]
        exact ⟨rfl, N_6⟩
      · -- not h1 = 0
        refine Goes.go (U' := (T.setTop (mkF m 281 #[sI_ q0, sI_ q1, sI_ q2, sI_ q3, sJ_ qw, sS_, sI_ (2 : Int32), sI_ (1 : Int32), sI_ (3 : Int32), sI_ (4 : Int32), sI_ h1, sI_ h2, sI_ h3, sJ_ wt, sS_, sR_ lx, sR_ tx, sI_ (1 : Int32), sI_ (1 : Int32)] [(.int (1 : Int32)), (.ref tx)]))) (fun t kt => ?_) ?_
        · skip
          refine XS.ifYes X.here hx rfl (pc0 := 243) (pc' := 270) rfl (hb hby at_243) rfl (XT.i0_ne_t cc0) (by decide) (by decide) ?_
          refine XS.iconst X.here hx rfl (hb hby at_270) ?_
          refine XS.goto X.here hx rfl (pc0 := 271) (pc' := 275) rfl (hb hby at_271) (by decide) (by decide) ?_
          refine XS.istore X.here hx rfl (hb hby at_275) rfl (l' := #[sI_ q0, sI_ q1, sI_ q2, sI_ q3, sJ_ qw, sS_, sI_ (2 : Int32), sI_ (1 : Int32), sI_ (3 : Int32), sI_ (4 : Int32), sI_ h1, sI_ h2, sI_ h3, sJ_ wt, sS_, sR_ lx, sR_ tx, sI_ (1 : Int32), sI_ (1 : Int32)]) rfl ?_
          refine XS.aload X.here hx rfl (hb hby at_277) rfl rfl ?_
          refine XS.iload X.here hx rfl (hb hby at_279) rfl ?_
          exact kt
        obtain ⟨v_7, T_7, L_7, X_7, q_7, st_7⟩ := callVirtual X hx hZ (y := (⟨"com/example/copse/copse/HangingTree", "contains", "(I)Z"⟩ : MethodName)) (z := (⟨"com/example/copse/copse/HangingTree", "contains", "(I)Z"⟩ : MethodName)) (W := 0) hown (wdOf hw 221 rfl) (wdOf hw 222 rfl) (notFace_of_selects (args := #[]) (mvT hZ (wdOf hw 224 rfl))) (wdOf hw 224 rfl) (wdOf hw 223 rfl) (wdOf hw 67 rfl) (wdOf hw 225 rfl) (by decide) (rm_ct1 l Z a0 hw [] tx la (2 : Int32) v0 v1 v2 v3 v4 h n0 sz0 HT0 R1) (by decide) (by decide) (by decide) (by decide) eT (HTr.exa HT0) (g := (mkF m 281 #[sI_ q0, sI_ q1, sI_ q2, sI_ q3, sJ_ qw, sS_, sI_ (2 : Int32), sI_ (1 : Int32), sI_ (3 : Int32), sI_ (4 : Int32), sI_ h1, sI_ h2, sI_ h3, sJ_ wt, sS_, sR_ lx, sR_ tx, sI_ (1 : Int32), sI_ (1 : Int32)] [(.int (1 : Int32)), (.ref tx)])) rfl (by rw [hml]; rfl) (argsL := [(.int (1 : Int32))]) (rest := []) (lenOf pd_12 rfl) rfl rfl (Nat.le_refl _) (hb hby at_281)
        obtain ⟨z_7, rfl, n_7, K_7, hz_7⟩ := q_7
        have N_7 := Fr.app N n_7
        refine Goes.go (U' := (T_7.setTop (mkF m 284 #[sI_ q0, sI_ q1, sI_ q2, sI_ q3, sJ_ qw, sS_, sI_ (2 : Int32), sI_ (1 : Int32), sI_ (3 : Int32), sI_ (4 : Int32), sI_ h1, sI_ h2, sI_ h3, sJ_ wt, sS_, sR_ lx, sR_ tx, sI_ (1 : Int32), sI_ (1 : Int32)] [(.int z_7)]))) st_7 ?_
        obtain rfl : z_7 = (1 : Int32) := by
          rcases hz_7 with ⟨ez, hz⟩ | ⟨ez, hz⟩
          · exact ez
          · exact absurd hz (by rw [A1]; simp [cc0])
        refine Goes.go (U' := (T_7.setTop (mkF m 294 #[sI_ q0, sI_ q1, sI_ q2, sI_ q3, sJ_ qw, sS_, sI_ (2 : Int32), sI_ (1 : Int32), sI_ (3 : Int32), sI_ (4 : Int32), sI_ h1, sI_ h2, sI_ h3, sJ_ wt, sS_, sR_ lx, sR_ tx, sI_ (1 : Int32), sI_ (1 : Int32)] [(.int (1 : Int32))]))) (fun t kt => ?_) ?_
        · skip
          refine XS.iload X_7.here hx rfl (hb hby at_284) rfl ?_
          refine XS.icmpNo X_7.here hx rfl (hb hby at_286) rfl (XT.ii_ne_f (by decide)) ?_
          refine XS.iconst X_7.here hx rfl (hb hby at_289) ?_
          refine XS.goto X_7.here hx rfl (pc0 := 290) (pc' := 294) rfl (hb hby at_290) (by decide) (by decide) ?_
          exact kt
        refine Goes.retB X_7 hx hlk hret (hb hby at_294) (by decide) (by decide) ?_
        try rw [K_7]
        exact ⟨rfl, N_7⟩
    · -- r = 3
      refine Goes.go (U' := (T.setTop (mkF m 243 #[sI_ q0, sI_ q1, sI_ q2, sI_ q3, sJ_ qw, sS_, sI_ (3 : Int32), sI_ (1 : Int32), sI_ (2 : Int32), sI_ (4 : Int32), sI_ h1, sI_ h2, sI_ h3, sJ_ wt, sS_, sR_ lx, sR_ tx, sI_ (1 : Int32), sU_] [(.int h1)]))) (fun t kt => ?_) ?_
      · skip
        refine XS.iload X.here hx rfl (hb hby at_227) rfl ?_
        refine XS.iload X.here hx rfl (hb hby at_229) rfl ?_
        refine XS.icmpNo X.here hx rfl (hb hby at_231) rfl (XT.ii_eq_f (by decide)) ?_
        refine XS.iload X.here hx rfl (hb hby at_234) rfl ?_
        refine XS.iload X.here hx rfl (hb hby at_236) rfl ?_
        refine XS.icmpNo X.here hx rfl (hb hby at_238) rfl (XT.ii_ne_f (by decide)) ?_
        refine XS.iload X.here hx rfl (hb hby at_241) rfl ?_
        exact kt
      by_cases cc0 : h1 = 0
      · -- h1 = 0
        refine Goes.go (U' := (T.setTop (mkF m 281 #[sI_ q0, sI_ q1, sI_ q2, sI_ q3, sJ_ qw, sS_, sI_ (3 : Int32), sI_ (1 : Int32), sI_ (2 : Int32), sI_ (4 : Int32), sI_ h1, sI_ h2, sI_ h3, sJ_ wt, sS_, sR_ lx, sR_ tx, sI_ (1 : Int32), sI_ (0 : Int32)] [(.int (1 : Int32)), (.ref tx)]))) (fun t kt => ?_) ?_
        · skip
          refine XS.ifNo X.here hx rfl (hb hby at_243) rfl (XT.i0_ne_f cc0) ?_
          refine XS.iload X.here hx rfl (hb hby at_246) rfl ?_
          refine XS.iload X.here hx rfl (hb hby at_248) rfl ?_
          refine XS.icmpYes X.here hx rfl (pc0 := 250) (pc' := 258) rfl (hb hby at_250) rfl (XT.ii_ne_t (by decide)) (by decide) (by decide) ?_
          refine XS.iload X.here hx rfl (hb hby at_258) rfl ?_
          refine XS.iload X.here hx rfl (hb hby at_260) rfl ?_
          refine XS.icmpYes X.here hx rfl (pc0 := 262) (pc' := 274) rfl (hb hby at_262) rfl (XT.ii_ne_t (by decide)) (by decide) (by decide) ?_
          refine XS.iconst X.here hx rfl (hb hby at_274) ?_
          show Steps p.tables e below (T.setTop (mkF m 275 #[sI_ q0, sI_ q1, sI_ q2, sI_ q3, sJ_ qw, sS_, sI_ (3 : Int32), sI_ (1 : Int32), sI_ (2 : Int32), sI_ (4 : Int32), sI_ h1, sI_ h2, sI_ h3, sJ_ wt, sS_, sR_ lx, sR_ tx, sI_ (1 : Int32), sU_] [(.int (0 : Int32))])) t
          refine XS.istore X.here hx rfl (hb hby at_275) rfl (l' := #[sI_ q0, sI_ q1, sI_ q2, sI_ q3, sJ_ qw, sS_, sI_ (3 : Int32), sI_ (1 : Int32), sI_ (2 : Int32), sI_ (4 : Int32), sI_ h1, sI_ h2, sI_ h3, sJ_ wt, sS_, sR_ lx, sR_ tx, sI_ (1 : Int32), sI_ (0 : Int32)]) rfl ?_
          refine XS.aload X.here hx rfl (hb hby at_277) rfl rfl ?_
          refine XS.iload X.here hx rfl (hb hby at_279) rfl ?_
          exact kt
        obtain ⟨v_8, T_8, L_8, X_8, q_8, st_8⟩ := callVirtual X hx hZ (y := (⟨"com/example/copse/copse/HangingTree", "contains", "(I)Z"⟩ : MethodName)) (z := (⟨"com/example/copse/copse/HangingTree", "contains", "(I)Z"⟩ : MethodName)) (W := 0) hown (wdOf hw 221 rfl) (wdOf hw 222 rfl) (notFace_of_selects (args := #[]) (mvT hZ (wdOf hw 224 rfl))) (wdOf hw 224 rfl) (wdOf hw 223 rfl) (wdOf hw 67 rfl) (wdOf hw 225 rfl) (by decide) (rm_ct1 l Z a0 hw [] tx la (3 : Int32) v0 v1 v2 v3 v4 h n0 sz0 HT0 R1) (by decide) (by decide) (by decide) (by decide) eT (HTr.exa HT0) (g := (mkF m 281 #[sI_ q0, sI_ q1, sI_ q2, sI_ q3, sJ_ qw, sS_, sI_ (3 : Int32), sI_ (1 : Int32), sI_ (2 : Int32), sI_ (4 : Int32), sI_ h1, sI_ h2, sI_ h3, sJ_ wt, sS_, sR_ lx, sR_ tx, sI_ (1 : Int32), sI_ (0 : Int32)] [(.int (1 : Int32)), (.ref tx)])) rfl (by rw [hml]; rfl) (argsL := [(.int (1 : Int32))]) (rest := []) (lenOf pd_12 rfl) rfl rfl (Nat.le_refl _) (hb hby at_281)
        obtain ⟨z_8, rfl, n_8, K_8, hz_8⟩ := q_8
        have N_8 := Fr.app N n_8
        refine Goes.go (U' := (T_8.setTop (mkF m 284 #[sI_ q0, sI_ q1, sI_ q2, sI_ q3, sJ_ qw, sS_, sI_ (3 : Int32), sI_ (1 : Int32), sI_ (2 : Int32), sI_ (4 : Int32), sI_ h1, sI_ h2, sI_ h3, sJ_ wt, sS_, sR_ lx, sR_ tx, sI_ (1 : Int32), sI_ (0 : Int32)] [(.int z_8)]))) st_8 ?_
        obtain rfl : z_8 = (0 : Int32) := by
          rcases hz_8 with ⟨ez, hz⟩ | ⟨ez, hz⟩
          · exact absurd hz (by rw [A1]; simp [cc0])
          · exact ez
        refine Goes.go (U' := (T_8.setTop (mkF m 294 #[sI_ q0, sI_ q1, sI_ q2, sI_ q3, sJ_ qw, sS_, sI_ (3 : Int32), sI_ (1 : Int32), sI_ (2 : Int32), sI_ (4 : Int32), sI_ h1, sI_ h2, sI_ h3, sJ_ wt, sS_, sR_ lx, sR_ tx, sI_ (1 : Int32), sI_ (0 : Int32)] [(.int (1 : Int32))]))) (fun t kt => ?_) ?_
        · skip
          refine XS.iload X_8.here hx rfl (hb hby at_284) rfl ?_
          refine XS.icmpNo X_8.here hx rfl (hb hby at_286) rfl (XT.ii_ne_f (by decide)) ?_
          refine XS.iconst X_8.here hx rfl (hb hby at_289) ?_
          refine XS.goto X_8.here hx rfl (pc0 := 290) (pc' := 294) rfl (hb hby at_290) (by decide) (by decide) ?_
          exact kt
        refine Goes.retB X_8 hx hlk hret (hb hby at_294) (by decide) (by decide) ?_
        try rw [K_8]
        exact ⟨rfl, N_8⟩
      · -- not h1 = 0
        refine Goes.go (U' := (T.setTop (mkF m 281 #[sI_ q0, sI_ q1, sI_ q2, sI_ q3, sJ_ qw, sS_, sI_ (3 : Int32), sI_ (1 : Int32), sI_ (2 : Int32), sI_ (4 : Int32), sI_ h1, sI_ h2, sI_ h3, sJ_ wt, sS_, sR_ lx, sR_ tx, sI_ (1 : Int32), sI_ (1 : Int32)] [(.int (1 : Int32)), (.ref tx)]))) (fun t kt => ?_) ?_
        · skip
          refine XS.ifYes X.here hx rfl (pc0 := 243) (pc' := 270) rfl (hb hby at_243) rfl (XT.i0_ne_t cc0) (by decide) (by decide) ?_
          refine XS.iconst X.here hx rfl (hb hby at_270) ?_
          refine XS.goto X.here hx rfl (pc0 := 271) (pc' := 275) rfl (hb hby at_271) (by decide) (by decide) ?_
          refine XS.istore X.here hx rfl (hb hby at_275) rfl (l' := #[sI_ q0, sI_ q1, sI_ q2, sI_ q3, sJ_ qw, sS_, sI_ (3 : Int32), sI_ (1 : Int32), sI_ (2 : Int32), sI_ (4 : Int32), sI_ h1, sI_ h2, sI_ h3, sJ_ wt, sS_, sR_ lx, sR_ tx, sI_ (1 : Int32), sI_ (1 : Int32)]) rfl ?_
          refine XS.aload X.here hx rfl (hb hby at_277) rfl rfl ?_
          refine XS.iload X.here hx rfl (hb hby at_279) rfl ?_
          exact kt
        obtain ⟨v_9, T_9, L_9, X_9, q_9, st_9⟩ := callVirtual X hx hZ (y := (⟨"com/example/copse/copse/HangingTree", "contains", "(I)Z"⟩ : MethodName)) (z := (⟨"com/example/copse/copse/HangingTree", "contains", "(I)Z"⟩ : MethodName)) (W := 0) hown (wdOf hw 221 rfl) (wdOf hw 222 rfl) (notFace_of_selects (args := #[]) (mvT hZ (wdOf hw 224 rfl))) (wdOf hw 224 rfl) (wdOf hw 223 rfl) (wdOf hw 67 rfl) (wdOf hw 225 rfl) (by decide) (rm_ct1 l Z a0 hw [] tx la (3 : Int32) v0 v1 v2 v3 v4 h n0 sz0 HT0 R1) (by decide) (by decide) (by decide) (by decide) eT (HTr.exa HT0) (g := (mkF m 281 #[sI_ q0, sI_ q1, sI_ q2, sI_ q3, sJ_ qw, sS_, sI_ (3 : Int32), sI_ (1 : Int32), sI_ (2 : Int32), sI_ (4 : Int32), sI_ h1, sI_ h2, sI_ h3, sJ_ wt, sS_, sR_ lx, sR_ tx, sI_ (1 : Int32), sI_ (1 : Int32)] [(.int (1 : Int32)), (.ref tx)])) rfl (by rw [hml]; rfl) (argsL := [(.int (1 : Int32))]) (rest := []) (lenOf pd_12 rfl) rfl rfl (Nat.le_refl _) (hb hby at_281)
        obtain ⟨z_9, rfl, n_9, K_9, hz_9⟩ := q_9
        have N_9 := Fr.app N n_9
        refine Goes.go (U' := (T_9.setTop (mkF m 284 #[sI_ q0, sI_ q1, sI_ q2, sI_ q3, sJ_ qw, sS_, sI_ (3 : Int32), sI_ (1 : Int32), sI_ (2 : Int32), sI_ (4 : Int32), sI_ h1, sI_ h2, sI_ h3, sJ_ wt, sS_, sR_ lx, sR_ tx, sI_ (1 : Int32), sI_ (1 : Int32)] [(.int z_9)]))) st_9 ?_
        obtain rfl : z_9 = (1 : Int32) := by
          rcases hz_9 with ⟨ez, hz⟩ | ⟨ez, hz⟩
          · exact ez
          · exact absurd hz (by rw [A1]; simp [cc0])
        refine Goes.go (U' := (T_9.setTop (mkF m 294 #[sI_ q0, sI_ q1, sI_ q2, sI_ q3, sJ_ qw, sS_, sI_ (3 : Int32), sI_ (1 : Int32), sI_ (2 : Int32), sI_ (4 : Int32), sI_ h1, sI_ h2, sI_ h3, sJ_ wt, sS_, sR_ lx, sR_ tx, sI_ (1 : Int32), sI_ (1 : Int32)] [(.int (1 : Int32))]))) (fun t kt => ?_) ?_
        · skip
          refine XS.iload X_9.here hx rfl (hb hby at_284) rfl ?_
          refine XS.icmpNo X_9.here hx rfl (hb hby at_286) rfl (XT.ii_ne_f (by decide)) ?_
          refine XS.iconst X_9.here hx rfl (hb hby at_289) ?_
          refine XS.goto X_9.here hx rfl (pc0 := 290) (pc' := 294) rfl (hb hby at_290) (by decide) (by decide) ?_
          exact kt
        refine Goes.retB X_9 hx hlk hret (hb hby at_294) (by decide) (by decide) ?_
        try rw [K_9]
        exact ⟨rfl, N_9⟩
    · -- r = 4
      refine Goes.go (U' := (T.setTop (mkF m 243 #[sI_ q0, sI_ q1, sI_ q2, sI_ q3, sJ_ qw, sS_, sI_ (4 : Int32), sI_ (1 : Int32), sI_ (2 : Int32), sI_ (3 : Int32), sI_ h1, sI_ h2, sI_ h3, sJ_ wt, sS_, sR_ lx, sR_ tx, sI_ (1 : Int32), sU_] [(.int h1)]))) (fun t kt => ?_) ?_
      · skip
        refine XS.iload X.here hx rfl (hb hby at_227) rfl ?_
        refine XS.iload X.here hx rfl (hb hby at_229) rfl ?_
        refine XS.icmpNo X.here hx rfl (hb hby at_231) rfl (XT.ii_eq_f (by decide)) ?_
        refine XS.iload X.here hx rfl (hb hby at_234) rfl ?_
        refine XS.iload X.here hx rfl (hb hby at_236) rfl ?_
        refine XS.icmpNo X.here hx rfl (hb hby at_238) rfl (XT.ii_ne_f (by decide)) ?_
        refine XS.iload X.here hx rfl (hb hby at_241) rfl ?_
        exact kt
      by_cases cc0 : h1 = 0
      · -- h1 = 0
        refine Goes.go (U' := (T.setTop (mkF m 281 #[sI_ q0, sI_ q1, sI_ q2, sI_ q3, sJ_ qw, sS_, sI_ (4 : Int32), sI_ (1 : Int32), sI_ (2 : Int32), sI_ (3 : Int32), sI_ h1, sI_ h2, sI_ h3, sJ_ wt, sS_, sR_ lx, sR_ tx, sI_ (1 : Int32), sI_ (0 : Int32)] [(.int (1 : Int32)), (.ref tx)]))) (fun t kt => ?_) ?_
        · skip
          refine XS.ifNo X.here hx rfl (hb hby at_243) rfl (XT.i0_ne_f cc0) ?_
          refine XS.iload X.here hx rfl (hb hby at_246) rfl ?_
          refine XS.iload X.here hx rfl (hb hby at_248) rfl ?_
          refine XS.icmpYes X.here hx rfl (pc0 := 250) (pc' := 258) rfl (hb hby at_250) rfl (XT.ii_ne_t (by decide)) (by decide) (by decide) ?_
          refine XS.iload X.here hx rfl (hb hby at_258) rfl ?_
          refine XS.iload X.here hx rfl (hb hby at_260) rfl ?_
          refine XS.icmpYes X.here hx rfl (pc0 := 262) (pc' := 274) rfl (hb hby at_262) rfl (XT.ii_ne_t (by decide)) (by decide) (by decide) ?_
          refine XS.iconst X.here hx rfl (hb hby at_274) ?_
          show Steps p.tables e below (T.setTop (mkF m 275 #[sI_ q0, sI_ q1, sI_ q2, sI_ q3, sJ_ qw, sS_, sI_ (4 : Int32), sI_ (1 : Int32), sI_ (2 : Int32), sI_ (3 : Int32), sI_ h1, sI_ h2, sI_ h3, sJ_ wt, sS_, sR_ lx, sR_ tx, sI_ (1 : Int32), sU_] [(.int (0 : Int32))])) t
          refine XS.istore X.here hx rfl (hb hby at_275) rfl (l' := #[sI_ q0, sI_ q1, sI_ q2, sI_ q3, sJ_ qw, sS_, sI_ (4 : Int32), sI_ (1 : Int32), sI_ (2 : Int32), sI_ (3 : Int32), sI_ h1, sI_ h2, sI_ h3, sJ_ wt, sS_, sR_ lx, sR_ tx, sI_ (1 : Int32), sI_ (0 : Int32)]) rfl ?_
          refine XS.aload X.here hx rfl (hb hby at_277) rfl rfl ?_
          refine XS.iload X.here hx rfl (hb hby at_279) rfl ?_
          exact kt
        obtain ⟨v_10, T_10, L_10, X_10, q_10, st_10⟩ := callVirtual X hx hZ (y := (⟨"com/example/copse/copse/HangingTree", "contains", "(I)Z"⟩ : MethodName)) (z := (⟨"com/example/copse/copse/HangingTree", "contains", "(I)Z"⟩ : MethodName)) (W := 0) hown (wdOf hw 221 rfl) (wdOf hw 222 rfl) (notFace_of_selects (args := #[]) (mvT hZ (wdOf hw 224 rfl))) (wdOf hw 224 rfl) (wdOf hw 223 rfl) (wdOf hw 67 rfl) (wdOf hw 225 rfl) (by decide) (rm_ct1 l Z a0 hw [] tx la (4 : Int32) v0 v1 v2 v3 v4 h n0 sz0 HT0 R1) (by decide) (by decide) (by decide) (by decide) eT (HTr.exa HT0) (g := (mkF m 281 #[sI_ q0, sI_ q1, sI_ q2, sI_ q3, sJ_ qw, sS_, sI_ (4 : Int32), sI_ (1 : Int32), sI_ (2 : Int32), sI_ (3 : Int32), sI_ h1, sI_ h2, sI_ h3, sJ_ wt, sS_, sR_ lx, sR_ tx, sI_ (1 : Int32), sI_ (0 : Int32)] [(.int (1 : Int32)), (.ref tx)])) rfl (by rw [hml]; rfl) (argsL := [(.int (1 : Int32))]) (rest := []) (lenOf pd_12 rfl) rfl rfl (Nat.le_refl _) (hb hby at_281)
        obtain ⟨z_10, rfl, n_10, K_10, hz_10⟩ := q_10
        have N_10 := Fr.app N n_10
        refine Goes.go (U' := (T_10.setTop (mkF m 284 #[sI_ q0, sI_ q1, sI_ q2, sI_ q3, sJ_ qw, sS_, sI_ (4 : Int32), sI_ (1 : Int32), sI_ (2 : Int32), sI_ (3 : Int32), sI_ h1, sI_ h2, sI_ h3, sJ_ wt, sS_, sR_ lx, sR_ tx, sI_ (1 : Int32), sI_ (0 : Int32)] [(.int z_10)]))) st_10 ?_
        obtain rfl : z_10 = (0 : Int32) := by
          rcases hz_10 with ⟨ez, hz⟩ | ⟨ez, hz⟩
          · exact absurd hz (by rw [A1]; simp [cc0])
          · exact ez
        refine Goes.go (U' := (T_10.setTop (mkF m 294 #[sI_ q0, sI_ q1, sI_ q2, sI_ q3, sJ_ qw, sS_, sI_ (4 : Int32), sI_ (1 : Int32), sI_ (2 : Int32), sI_ (3 : Int32), sI_ h1, sI_ h2, sI_ h3, sJ_ wt, sS_, sR_ lx, sR_ tx, sI_ (1 : Int32), sI_ (0 : Int32)] [(.int (1 : Int32))]))) (fun t kt => ?_) ?_
        · skip
          refine XS.iload X_10.here hx rfl (hb hby at_284) rfl ?_
          refine XS.icmpNo X_10.here hx rfl (hb hby at_286) rfl (XT.ii_ne_f (by decide)) ?_
          refine XS.iconst X_10.here hx rfl (hb hby at_289) ?_
          refine XS.goto X_10.here hx rfl (pc0 := 290) (pc' := 294) rfl (hb hby at_290) (by decide) (by decide) ?_
          exact kt
        refine Goes.retB X_10 hx hlk hret (hb hby at_294) (by decide) (by decide) ?_
        try rw [K_10]
        exact ⟨rfl, N_10⟩
      · -- not h1 = 0
        refine Goes.go (U' := (T.setTop (mkF m 281 #[sI_ q0, sI_ q1, sI_ q2, sI_ q3, sJ_ qw, sS_, sI_ (4 : Int32), sI_ (1 : Int32), sI_ (2 : Int32), sI_ (3 : Int32), sI_ h1, sI_ h2, sI_ h3, sJ_ wt, sS_, sR_ lx, sR_ tx, sI_ (1 : Int32), sI_ (1 : Int32)] [(.int (1 : Int32)), (.ref tx)]))) (fun t kt => ?_) ?_
        · skip
          refine XS.ifYes X.here hx rfl (pc0 := 243) (pc' := 270) rfl (hb hby at_243) rfl (XT.i0_ne_t cc0) (by decide) (by decide) ?_
          refine XS.iconst X.here hx rfl (hb hby at_270) ?_
          refine XS.goto X.here hx rfl (pc0 := 271) (pc' := 275) rfl (hb hby at_271) (by decide) (by decide) ?_
          refine XS.istore X.here hx rfl (hb hby at_275) rfl (l' := #[sI_ q0, sI_ q1, sI_ q2, sI_ q3, sJ_ qw, sS_, sI_ (4 : Int32), sI_ (1 : Int32), sI_ (2 : Int32), sI_ (3 : Int32), sI_ h1, sI_ h2, sI_ h3, sJ_ wt, sS_, sR_ lx, sR_ tx, sI_ (1 : Int32), sI_ (1 : Int32)]) rfl ?_
          refine XS.aload X.here hx rfl (hb hby at_277) rfl rfl ?_
          refine XS.iload X.here hx rfl (hb hby at_279) rfl ?_
          exact kt
        obtain ⟨v_11, T_11, L_11, X_11, q_11, st_11⟩ := callVirtual X hx hZ (y := (⟨"com/example/copse/copse/HangingTree", "contains", "(I)Z"⟩ : MethodName)) (z := (⟨"com/example/copse/copse/HangingTree", "contains", "(I)Z"⟩ : MethodName)) (W := 0) hown (wdOf hw 221 rfl) (wdOf hw 222 rfl) (notFace_of_selects (args := #[]) (mvT hZ (wdOf hw 224 rfl))) (wdOf hw 224 rfl) (wdOf hw 223 rfl) (wdOf hw 67 rfl) (wdOf hw 225 rfl) (by decide) (rm_ct1 l Z a0 hw [] tx la (4 : Int32) v0 v1 v2 v3 v4 h n0 sz0 HT0 R1) (by decide) (by decide) (by decide) (by decide) eT (HTr.exa HT0) (g := (mkF m 281 #[sI_ q0, sI_ q1, sI_ q2, sI_ q3, sJ_ qw, sS_, sI_ (4 : Int32), sI_ (1 : Int32), sI_ (2 : Int32), sI_ (3 : Int32), sI_ h1, sI_ h2, sI_ h3, sJ_ wt, sS_, sR_ lx, sR_ tx, sI_ (1 : Int32), sI_ (1 : Int32)] [(.int (1 : Int32)), (.ref tx)])) rfl (by rw [hml]; rfl) (argsL := [(.int (1 : Int32))]) (rest := []) (lenOf pd_12 rfl) rfl rfl (Nat.le_refl _) (hb hby at_281)
        obtain ⟨z_11, rfl, n_11, K_11, hz_11⟩ := q_11
        have N_11 := Fr.app N n_11
        refine Goes.go (U' := (T_11.setTop (mkF m 284 #[sI_ q0, sI_ q1, sI_ q2, sI_ q3, sJ_ qw, sS_, sI_ (4 : Int32), sI_ (1 : Int32), sI_ (2 : Int32), sI_ (3 : Int32), sI_ h1, sI_ h2, sI_ h3, sJ_ wt, sS_, sR_ lx, sR_ tx, sI_ (1 : Int32), sI_ (1 : Int32)] [(.int z_11)]))) st_11 ?_
        obtain rfl : z_11 = (1 : Int32) := by
          rcases hz_11 with ⟨ez, hz⟩ | ⟨ez, hz⟩
          · exact ez
          · exact absurd hz (by rw [A1]; simp [cc0])
        refine Goes.go (U' := (T_11.setTop (mkF m 294 #[sI_ q0, sI_ q1, sI_ q2, sI_ q3, sJ_ qw, sS_, sI_ (4 : Int32), sI_ (1 : Int32), sI_ (2 : Int32), sI_ (3 : Int32), sI_ h1, sI_ h2, sI_ h3, sJ_ wt, sS_, sR_ lx, sR_ tx, sI_ (1 : Int32), sI_ (1 : Int32)] [(.int (1 : Int32))]))) (fun t kt => ?_) ?_
        · skip
          refine XS.iload X_11.here hx rfl (hb hby at_284) rfl ?_
          refine XS.icmpNo X_11.here hx rfl (hb hby at_286) rfl (XT.ii_ne_f (by decide)) ?_
          refine XS.iconst X_11.here hx rfl (hb hby at_289) ?_
          refine XS.goto X_11.here hx rfl (pc0 := 290) (pc' := 294) rfl (hb hby at_290) (by decide) (by decide) ?_
          exact kt
        refine Goes.retB X_11 hx hlk hret (hb hby at_294) (by decide) (by decide) ?_
        try rw [K_11]
        exact ⟨rfl, N_11⟩
  · -- q = 2
    rw [hq]
    rcases RT with ⟨rfl, rfl, rfl, rfl⟩ | ⟨rfl, rfl, rfl, rfl⟩ | ⟨rfl, rfl, rfl, rfl⟩ | ⟨rfl, rfl, rfl, rfl⟩
    · -- r = 1
      refine Goes.go (U' := (T.setTop (mkF m 243 #[sI_ q0, sI_ q1, sI_ q2, sI_ q3, sJ_ qw, sS_, sI_ (1 : Int32), sI_ (2 : Int32), sI_ (3 : Int32), sI_ (4 : Int32), sI_ h1, sI_ h2, sI_ h3, sJ_ wt, sS_, sR_ lx, sR_ tx, sI_ (2 : Int32), sU_] [(.int h1)]))) (fun t kt => ?_) ?_
      · skip
        refine XS.iload X.here hx rfl (hb hby at_227) rfl ?_
        refine XS.iload X.here hx rfl (hb hby at_229) rfl ?_
        refine XS.icmpNo X.here hx rfl (hb hby at_231) rfl (XT.ii_eq_f (by decide)) ?_
        refine XS.iload X.here hx rfl (hb hby at_234) rfl ?_
        refine XS.iload X.here hx rfl (hb hby at_236) rfl ?_
        refine XS.icmpNo X.here hx rfl (hb hby at_238) rfl (XT.ii_ne_f (by decide)) ?_
        refine XS.iload X.here hx rfl (hb hby at_241) rfl ?_
        exact kt
      by_cases cc0 : h1 = 0
      · -- h1 = 0
        refine Goes.go (U' := (T.setTop (mkF m 281 #[sI_ q0, sI_ q1, sI_ q2, sI_ q3, sJ_ qw, sS_, sI_ (1 : Int32), sI_ (2 : Int32), sI_ (3 : Int32), sI_ (4 : Int32), sI_ h1, sI_ h2, sI_ h3, sJ_ wt, sS_, sR_ lx, sR_ tx, sI_ (2 : Int32), sI_ (0 : Int32)] [(.int (2 : Int32)), (.ref tx)]))) (fun t kt => ?_) ?_
        · skip
          refine XS.ifNo X.here hx rfl (hb hby at_243) rfl (XT.i0_ne_f cc0) ?_
          refine XS.iload X.here hx rfl (hb hby at_246) rfl ?_
          refine XS.iload X.here hx rfl (hb hby at_248) rfl ?_
          refine XS.icmpYes X.here hx rfl (pc0 := 250) (pc' := 258) rfl (hb hby at_250) rfl (XT.ii_ne_t (by decide)) (by decide) (by decide) ?_
          refine XS.iload X.here hx rfl (hb hby at_258) rfl ?_
          refine XS.iload X.here hx rfl (hb hby at_260) rfl ?_
          refine XS.icmpYes X.here hx rfl (pc0 := 262) (pc' := 274) rfl (hb hby at_262) rfl (XT.ii_ne_t (by decide)) (by decide) (by decide) ?_
          refine XS.iconst X.here hx rfl (hb hby at_274) ?_
          show Steps p.tables e below (T.setTop (mkF m 275 #[sI_ q0, sI_ q1, sI_ q2, sI_ q3, sJ_ qw, sS_, sI_ (1 : Int32), sI_ (2 : Int32), sI_ (3 : Int32), sI_ (4 : Int32), sI_ h1, sI_ h2, sI_ h3, sJ_ wt, sS_, sR_ lx, sR_ tx, sI_ (2 : Int32), sU_] [(.int (0 : Int32))])) t
          refine XS.istore X.here hx rfl (hb hby at_275) rfl (l' := #[sI_ q0, sI_ q1, sI_ q2, sI_ q3, sJ_ qw, sS_, sI_ (1 : Int32), sI_ (2 : Int32), sI_ (3 : Int32), sI_ (4 : Int32), sI_ h1, sI_ h2, sI_ h3, sJ_ wt, sS_, sR_ lx, sR_ tx, sI_ (2 : Int32), sI_ (0 : Int32)]) rfl ?_
          refine XS.aload X.here hx rfl (hb hby at_277) rfl rfl ?_
          refine XS.iload X.here hx rfl (hb hby at_279) rfl ?_
          exact kt
        obtain ⟨v_12, T_12, L_12, X_12, q_12, st_12⟩ := callVirtual X hx hZ (y := (⟨"com/example/copse/copse/HangingTree", "contains", "(I)Z"⟩ : MethodName)) (z := (⟨"com/example/copse/copse/HangingTree", "contains", "(I)Z"⟩ : MethodName)) (W := 0) hown (wdOf hw 221 rfl) (wdOf hw 222 rfl) (notFace_of_selects (args := #[]) (mvT hZ (wdOf hw 224 rfl))) (wdOf hw 224 rfl) (wdOf hw 223 rfl) (wdOf hw 67 rfl) (wdOf hw 225 rfl) (by decide) (rm_ct2 l Z a0 hw [] tx la (1 : Int32) v0 v1 v2 v3 v4 h n0 sz0 HT0 R2) (by decide) (by decide) (by decide) (by decide) eT (HTr.exa HT0) (g := (mkF m 281 #[sI_ q0, sI_ q1, sI_ q2, sI_ q3, sJ_ qw, sS_, sI_ (1 : Int32), sI_ (2 : Int32), sI_ (3 : Int32), sI_ (4 : Int32), sI_ h1, sI_ h2, sI_ h3, sJ_ wt, sS_, sR_ lx, sR_ tx, sI_ (2 : Int32), sI_ (0 : Int32)] [(.int (2 : Int32)), (.ref tx)])) rfl (by rw [hml]; rfl) (argsL := [(.int (2 : Int32))]) (rest := []) (lenOf pd_12 rfl) rfl rfl (Nat.le_refl _) (hb hby at_281)
        obtain ⟨z_12, rfl, n_12, K_12, hz_12⟩ := q_12
        have N_12 := Fr.app N n_12
        refine Goes.go (U' := (T_12.setTop (mkF m 284 #[sI_ q0, sI_ q1, sI_ q2, sI_ q3, sJ_ qw, sS_, sI_ (1 : Int32), sI_ (2 : Int32), sI_ (3 : Int32), sI_ (4 : Int32), sI_ h1, sI_ h2, sI_ h3, sJ_ wt, sS_, sR_ lx, sR_ tx, sI_ (2 : Int32), sI_ (0 : Int32)] [(.int z_12)]))) st_12 ?_
        obtain rfl : z_12 = (0 : Int32) := by
          rcases hz_12 with ⟨ez, hz⟩ | ⟨ez, hz⟩
          · exact absurd hz (by rw [A2]; simp [cc0])
          · exact ez
        refine Goes.go (U' := (T_12.setTop (mkF m 294 #[sI_ q0, sI_ q1, sI_ q2, sI_ q3, sJ_ qw, sS_, sI_ (1 : Int32), sI_ (2 : Int32), sI_ (3 : Int32), sI_ (4 : Int32), sI_ h1, sI_ h2, sI_ h3, sJ_ wt, sS_, sR_ lx, sR_ tx, sI_ (2 : Int32), sI_ (0 : Int32)] [(.int (1 : Int32))]))) (fun t kt => ?_) ?_
        · skip
          refine XS.iload X_12.here hx rfl (hb hby at_284) rfl ?_
          refine XS.icmpNo X_12.here hx rfl (hb hby at_286) rfl (XT.ii_ne_f (by decide)) ?_
          refine XS.iconst X_12.here hx rfl (hb hby at_289) ?_
          refine XS.goto X_12.here hx rfl (pc0 := 290) (pc' := 294) rfl (hb hby at_290) (by decide) (by decide) ?_
          exact kt
        refine Goes.retB X_12 hx hlk hret (hb hby at_294) (by decide) (by decide) ?_
        try rw [K_12]
        exact ⟨rfl, N_12⟩
      · -- not h1 = 0
        refine Goes.go (U' := (T.setTop (mkF m 281 #[sI_ q0, sI_ q1, sI_ q2, sI_ q3, sJ_ qw, sS_, sI_ (1 : Int32), sI_ (2 : Int32), sI_ (3 : Int32), sI_ (4 : Int32), sI_ h1, sI_ h2, sI_ h3, sJ_ wt, sS_, sR_ lx, sR_ tx, sI_ (2 : Int32), sI_ (1 : Int32)] [(.int (2 : Int32)), (.ref tx)]))) (fun t kt => ?_) ?_
        · skip
          refine XS.ifYes X.here hx rfl (pc0 := 243) (pc' := 270) rfl (hb hby at_243) rfl (XT.i0_ne_t cc0) (by decide) (by decide) ?_
          refine XS.iconst X.here hx rfl (hb hby at_270) ?_
          refine XS.goto X.here hx rfl (pc0 := 271) (pc' := 275) rfl (hb hby at_271) (by decide) (by decide) ?_
          refine XS.istore X.here hx rfl (hb hby at_275) rfl (l' := #[sI_ q0, sI_ q1, sI_ q2, sI_ q3, sJ_ qw, sS_, sI_ (1 : Int32), sI_ (2 : Int32), sI_ (3 : Int32), sI_ (4 : Int32), sI_ h1, sI_ h2, sI_ h3, sJ_ wt, sS_, sR_ lx, sR_ tx, sI_ (2 : Int32), sI_ (1 : Int32)]) rfl ?_
          refine XS.aload X.here hx rfl (hb hby at_277) rfl rfl ?_
          refine XS.iload X.here hx rfl (hb hby at_279) rfl ?_
          exact kt
        obtain ⟨v_13, T_13, L_13, X_13, q_13, st_13⟩ := callVirtual X hx hZ (y := (⟨"com/example/copse/copse/HangingTree", "contains", "(I)Z"⟩ : MethodName)) (z := (⟨"com/example/copse/copse/HangingTree", "contains", "(I)Z"⟩ : MethodName)) (W := 0) hown (wdOf hw 221 rfl) (wdOf hw 222 rfl) (notFace_of_selects (args := #[]) (mvT hZ (wdOf hw 224 rfl))) (wdOf hw 224 rfl) (wdOf hw 223 rfl) (wdOf hw 67 rfl) (wdOf hw 225 rfl) (by decide) (rm_ct2 l Z a0 hw [] tx la (1 : Int32) v0 v1 v2 v3 v4 h n0 sz0 HT0 R2) (by decide) (by decide) (by decide) (by decide) eT (HTr.exa HT0) (g := (mkF m 281 #[sI_ q0, sI_ q1, sI_ q2, sI_ q3, sJ_ qw, sS_, sI_ (1 : Int32), sI_ (2 : Int32), sI_ (3 : Int32), sI_ (4 : Int32), sI_ h1, sI_ h2, sI_ h3, sJ_ wt, sS_, sR_ lx, sR_ tx, sI_ (2 : Int32), sI_ (1 : Int32)] [(.int (2 : Int32)), (.ref tx)])) rfl (by rw [hml]; rfl) (argsL := [(.int (2 : Int32))]) (rest := []) (lenOf pd_12 rfl) rfl rfl (Nat.le_refl _) (hb hby at_281)
        obtain ⟨z_13, rfl, n_13, K_13, hz_13⟩ := q_13
        have N_13 := Fr.app N n_13
        refine Goes.go (U' := (T_13.setTop (mkF m 284 #[sI_ q0, sI_ q1, sI_ q2, sI_ q3, sJ_ qw, sS_, sI_ (1 : Int32), sI_ (2 : Int32), sI_ (3 : Int32), sI_ (4 : Int32), sI_ h1, sI_ h2, sI_ h3, sJ_ wt, sS_, sR_ lx, sR_ tx, sI_ (2 : Int32), sI_ (1 : Int32)] [(.int z_13)]))) st_13 ?_
        obtain rfl : z_13 = (1 : Int32) := by
          rcases hz_13 with ⟨ez, hz⟩ | ⟨ez, hz⟩
          · exact ez
          · exact absurd hz (by rw [A2]; simp [cc0])
        refine Goes.go (U' := (T_13.setTop (mkF m 294 #[sI_ q0, sI_ q1, sI_ q2, sI_ q3, sJ_ qw, sS_, sI_ (1 : Int32), sI_ (2 : Int32), sI_ (3 : Int32), sI_ (4 : Int32), sI_ h1, sI_ h2, sI_ h3, sJ_ wt, sS_, sR_ lx, sR_ tx, sI_ (2 : Int32), sI_ (1 : Int32)] [(.int (1 : Int32))]))) (fun t kt => ?_) ?_
        · skip
          refine XS.iload X_13.here hx rfl (hb hby at_284) rfl ?_
          refine XS.icmpNo X_13.here hx rfl (hb hby at_286) rfl (XT.ii_ne_f (by decide)) ?_
          refine XS.iconst X_13.here hx rfl (hb hby at_289) ?_
          refine XS.goto X_13.here hx rfl (pc0 := 290) (pc' := 294) rfl (hb hby at_290) (by decide) (by decide) ?_
          exact kt
        refine Goes.retB X_13 hx hlk hret (hb hby at_294) (by decide) (by decide) ?_
        try rw [K_13]
        exact ⟨rfl, N_13⟩
    · -- r = 2
      refine Goes.go (U' := (T.setTop (mkF m 281 #[sI_ q0, sI_ q1, sI_ q2, sI_ q3, sJ_ qw, sS_, sI_ (2 : Int32), sI_ (1 : Int32), sI_ (3 : Int32), sI_ (4 : Int32), sI_ h1, sI_ h2, sI_ h3, sJ_ wt, sS_, sR_ lx, sR_ tx, sI_ (2 : Int32), sI_ (1 : Int32)] [(.int (2 : Int32)), (.ref tx)]))) (fun t kt => ?_) ?_
      · skip
        refine XS.iload X.here hx rfl (hb hby at_227) rfl ?_
        refine XS.iload X.here hx rfl (hb hby at_229) rfl ?_
        refine XS.icmpYes X.here hx rfl (pc0 := 231) (pc' := 270) rfl (hb hby at_231) rfl (XT.ii_eq_t (by decide)) (by decide) (by decide) ?_
        refine XS.iconst X.here hx rfl (hb hby at_270) ?_
        refine XS.goto X.here hx rfl (pc0 := 271) (pc' := 275) rfl (hb hby at_271) (by decide) (by decide) ?_
        refine XS.istore X.here hx rfl (hb hby at_275) rfl (l' := #[sI_ q0, sI_ q1, sI_ q2, sI_ q3, sJ_ qw, sS_, sI_ (2 : Int32), sI_ (1 : Int32), sI_ (3 : Int32), sI_ (4 : Int32), sI_ h1, sI_ h2, sI_ h3, sJ_ wt, sS_, sR_ lx, sR_ tx, sI_ (2 : Int32), sI_ (1 : Int32)]) rfl ?_
        refine XS.aload X.here hx rfl (hb hby at_277) rfl rfl ?_
        refine XS.iload X.here hx rfl (hb hby at_279) rfl ?_
        exact kt
      obtain ⟨v_14, T_14, L_14, X_14, q_14, st_14⟩ := callVirtual X hx hZ (y := (⟨"com/example/copse/copse/HangingTree", "contains", "(I)Z"⟩ : MethodName)) (z := (⟨"com/example/copse/copse/HangingTree", "contains", "(I)Z"⟩ : MethodName)) (W := 0) hown (wdOf hw 221 rfl) (wdOf hw 222 rfl) (notFace_of_selects (args := #[]) (mvT hZ (wdOf hw 224 rfl))) (wdOf hw 224 rfl) (wdOf hw 223 rfl) (wdOf hw 67 rfl) (wdOf hw 225 rfl) (by decide) (rm_ct2 l Z a0 hw [] tx la (2 : Int32) v0 v1 v2 v3 v4 h n0 sz0 HT0 R2) (by decide) (by decide) (by decide) (by decide) eT (HTr.exa HT0) (g := (mkF m 281 #[sI_ q0, sI_ q1, sI_ q2, sI_ q3, sJ_ qw, sS_, sI_ (2 : Int32), sI_ (1 : Int32), sI_ (3 : Int32), sI_ (4 : Int32), sI_ h1, sI_ h2, sI_ h3, sJ_ wt, sS_, sR_ lx, sR_ tx, sI_ (2 : Int32), sI_ (1 : Int32)] [(.int (2 : Int32)), (.ref tx)])) rfl (by rw [hml]; rfl) (argsL := [(.int (2 : Int32))]) (rest := []) (lenOf pd_12 rfl) rfl rfl (Nat.le_refl _) (hb hby at_281)
      obtain ⟨z_14, rfl, n_14, K_14, hz_14⟩ := q_14
      have N_14 := Fr.app N n_14
      refine Goes.go (U' := (T_14.setTop (mkF m 284 #[sI_ q0, sI_ q1, sI_ q2, sI_ q3, sJ_ qw, sS_, sI_ (2 : Int32), sI_ (1 : Int32), sI_ (3 : Int32), sI_ (4 : Int32), sI_ h1, sI_ h2, sI_ h3, sJ_ wt, sS_, sR_ lx, sR_ tx, sI_ (2 : Int32), sI_ (1 : Int32)] [(.int z_14)]))) st_14 ?_
      obtain rfl : z_14 = (1 : Int32) := by
        rcases hz_14 with ⟨ez, hz⟩ | ⟨ez, hz⟩
        · exact ez
        · exact absurd hz (by rw [A2]; simp)
      refine Goes.go (U' := (T_14.setTop (mkF m 294 #[sI_ q0, sI_ q1, sI_ q2, sI_ q3, sJ_ qw, sS_, sI_ (2 : Int32), sI_ (1 : Int32), sI_ (3 : Int32), sI_ (4 : Int32), sI_ h1, sI_ h2, sI_ h3, sJ_ wt, sS_, sR_ lx, sR_ tx, sI_ (2 : Int32), sI_ (1 : Int32)] [(.int (1 : Int32))]))) (fun t kt => ?_) ?_
      · skip
        refine XS.iload X_14.here hx rfl (hb hby at_284) rfl ?_
        refine XS.icmpNo X_14.here hx rfl (hb hby at_286) rfl (XT.ii_ne_f (by decide)) ?_
        refine XS.iconst X_14.here hx rfl (hb hby at_289) ?_
        refine XS.goto X_14.here hx rfl (pc0 := 290) (pc' := 294) rfl (hb hby at_290) (by decide) (by decide) ?_
        exact kt
      refine Goes.retB X_14 hx hlk hret (hb hby at_294) (by decide) (by decide) ?_
      try rw [K_14]
      exact ⟨rfl, N_14⟩
    · -- r = 3
      refine Goes.go (U' := (T.setTop (mkF m 255 #[sI_ q0, sI_ q1, sI_ q2, sI_ q3, sJ_ qw, sS_, sI_ (3 : Int32), sI_ (1 : Int32), sI_ (2 : Int32), sI_ (4 : Int32), sI_ h1, sI_ h2, sI_ h3, sJ_ wt, sS_, sR_ lx, sR_ tx, sI_ (2 : Int32), sU_] [(.int h2)]))) (fun t kt => ?_) ?_
      · skip
        refine XS.iload X.here hx rfl (hb hby at_227) rfl ?_
        refine XS.iload X.here hx rfl (hb hby at_229) rfl ?_
        refine XS.icmpNo X.here hx rfl (hb hby at_231) rfl (XT.ii_eq_f (by decide)) ?_
        refine XS.iload X.here hx rfl (hb hby at_234) rfl ?_
        refine XS.iload X.here hx rfl (hb hby at_236) rfl ?_
        refine XS.icmpYes X.here hx rfl (pc0 := 238) (pc' := 246) rfl (hb hby at_238) rfl (XT.ii_ne_t (by decide)) (by decide) (by decide) ?_
        refine XS.iload X.here hx rfl (hb hby at_246) rfl ?_
        refine XS.iload X.here hx rfl (hb hby at_248) rfl ?_
        show Steps p.tables e below (T.setTop (mkF m 250 #[sI_ q0, sI_ q1, sI_ q2, sI_ q3, sJ_ qw, sS_, sI_ (3 : Int32), sI_ (1 : Int32), sI_ (2 : Int32), sI_ (4 : Int32), sI_ h1, sI_ h2, sI_ h3, sJ_ wt, sS_, sR_ lx, sR_ tx, sI_ (2 : Int32), sU_] [(.int (2 : Int32)), (.int (2 : Int32))])) t
        refine XS.icmpNo X.here hx rfl (hb hby at_250) rfl (XT.ii_ne_f (by decide)) ?_
        refine XS.iload X.here hx rfl (hb hby at_253) rfl ?_
        exact kt
      by_cases cc0 : h2 = 0
      · -- h2 = 0
        refine Goes.go (U' := (T.setTop (mkF m 281 #[sI_ q0, sI_ q1, sI_ q2, sI_ q3, sJ_ qw, sS_, sI_ (3 : Int32), sI_ (1 : Int32), sI_ (2 : Int32), sI_ (4 : Int32), sI_ h1, sI_ h2, sI_ h3, sJ_ wt, sS_, sR_ lx, sR_ tx, sI_ (2 : Int32), sI_ (0 : Int32)] [(.int (2 : Int32)), (.ref tx)]))) (fun t kt => ?_) ?_
        · skip
          refine XS.ifNo X.here hx rfl (hb hby at_255) rfl (XT.i0_ne_f cc0) ?_
          refine XS.iload X.here hx rfl (hb hby at_258) rfl ?_
          refine XS.iload X.here hx rfl (hb hby at_260) rfl ?_
          refine XS.icmpYes X.here hx rfl (pc0 := 262) (pc' := 274) rfl (hb hby at_262) rfl (XT.ii_ne_t (by decide)) (by decide) (by decide) ?_
          refine XS.iconst X.here hx rfl (hb hby at_274) ?_
          refine XS.istore X.here hx rfl (hb hby at_275) rfl (l' := #[sI_ q0, sI_ q1, sI_ q2, sI_ q3, sJ_ qw, sS_, sI_ (3 : Int32), sI_ (1 : Int32), sI_ (2 : Int32), sI_ (4 : Int32), sI_ h1, sI_ h2, sI_ h3, sJ_ wt, sS_, sR_ lx, sR_ tx, sI_ (2 : Int32), sI_ (0 : Int32)]) rfl ?_
          refine XS.aload X.here hx rfl (hb hby at_277) rfl rfl ?_
          refine XS.iload X.here hx rfl (hb hby at_279) rfl ?_
          exact kt
        obtain ⟨v_15, T_15, L_15, X_15, q_15, st_15⟩ := callVirtual X hx hZ (y := (⟨"com/example/copse/copse/HangingTree", "contains", "(I)Z"⟩ : MethodName)) (z := (⟨"com/example/copse/copse/HangingTree", "contains", "(I)Z"⟩ : MethodName)) (W := 0) hown (wdOf hw 221 rfl) (wdOf hw 222 rfl) (notFace_of_selects (args := #[]) (mvT hZ (wdOf hw 224 rfl))) (wdOf hw 224 rfl) (wdOf hw 223 rfl) (wdOf hw 67 rfl) (wdOf hw 225 rfl) (by decide) (rm_ct2 l Z a0 hw [] tx la (3 : Int32) v0 v1 v2 v3 v4 h n0 sz0 HT0 R2) (by decide) (by decide) (by decide) (by decide) eT (HTr.exa HT0) (g := (mkF m 281 #[sI_ q0, sI_ q1, sI_ q2, sI_ q3, sJ_ qw, sS_, sI_ (3 : Int32), sI_ (1 : Int32), sI_ (2 : Int32), sI_ (4 : Int32), sI_ h1, sI_ h2, sI_ h3, sJ_ wt, sS_, sR_ lx, sR_ tx, sI_ (2 : Int32), sI_ (0 : Int32)] [(.int (2 : Int32)), (.ref tx)])) rfl (by rw [hml]; rfl) (argsL := [(.int (2 : Int32))]) (rest := []) (lenOf pd_12 rfl) rfl rfl (Nat.le_refl _) (hb hby at_281)
        obtain ⟨z_15, rfl, n_15, K_15, hz_15⟩ := q_15
        have N_15 := Fr.app N n_15
        refine Goes.go (U' := (T_15.setTop (mkF m 284 #[sI_ q0, sI_ q1, sI_ q2, sI_ q3, sJ_ qw, sS_, sI_ (3 : Int32), sI_ (1 : Int32), sI_ (2 : Int32), sI_ (4 : Int32), sI_ h1, sI_ h2, sI_ h3, sJ_ wt, sS_, sR_ lx, sR_ tx, sI_ (2 : Int32), sI_ (0 : Int32)] [(.int z_15)]))) st_15 ?_
        obtain rfl : z_15 = (0 : Int32) := by
          rcases hz_15 with ⟨ez, hz⟩ | ⟨ez, hz⟩
          · exact absurd hz (by rw [A2]; simp [cc0])
          · exact ez
        refine Goes.go (U' := (T_15.setTop (mkF m 294 #[sI_ q0, sI_ q1, sI_ q2, sI_ q3, sJ_ qw, sS_, sI_ (3 : Int32), sI_ (1 : Int32), sI_ (2 : Int32), sI_ (4 : Int32), sI_ h1, sI_ h2, sI_ h3, sJ_ wt, sS_, sR_ lx, sR_ tx, sI_ (2 : Int32), sI_ (0 : Int32)] [(.int (1 : Int32))]))) (fun t kt => ?_) ?_
        · skip
          refine XS.iload X_15.here hx rfl (hb hby at_284) rfl ?_
          refine XS.icmpNo X_15.here hx rfl (hb hby at_286) rfl (XT.ii_ne_f (by decide)) ?_
          refine XS.iconst X_15.here hx rfl (hb hby at_289) ?_
          refine XS.goto X_15.here hx rfl (pc0 := 290) (pc' := 294) rfl (hb hby at_290) (by decide) (by decide) ?_
          exact kt
        refine Goes.retB X_15 hx hlk hret (hb hby at_294) (by decide) (by decide) ?_
        try rw [K_15]
        exact ⟨rfl, N_15⟩
      · -- not h2 = 0
        refine Goes.go (U' := (T.setTop (mkF m 281 #[sI_ q0, sI_ q1, sI_ q2, sI_ q3, sJ_ qw, sS_, sI_ (3 : Int32), sI_ (1 : Int32), sI_ (2 : Int32), sI_ (4 : Int32), sI_ h1, sI_ h2, sI_ h3, sJ_ wt, sS_, sR_ lx, sR_ tx, sI_ (2 : Int32), sI_ (1 : Int32)] [(.int (2 : Int32)), (.ref tx)]))) (fun t kt => ?_) ?_
        · skip
          refine XS.ifYes X.here hx rfl (pc0 := 255) (pc' := 270) rfl (hb hby at_255) rfl (XT.i0_ne_t cc0) (by decide) (by decide) ?_
          refine XS.iconst X.here hx rfl (hb hby at_270) ?_
          refine XS.goto X.here hx rfl (pc0 := 271) (pc' := 275) rfl (hb hby at_271) (by decide) (by decide) ?_
          refine XS.istore X.here hx rfl (hb hby at_275) rfl (l' := #[sI_ q0, sI_ q1, sI_ q2, sI_ q3, sJ_ qw, sS_, sI_ (3 : Int32), sI_ (1 : Int32), sI_ (2 : Int32), sI_ (4 : Int32), sI_ h1, sI_ h2, sI_ h3, sJ_ wt, sS_, sR_ lx, sR_ tx, sI_ (2 : Int32), sI_ (1 : Int32)]) rfl ?_
          refine XS.aload X.here hx rfl (hb hby at_277) rfl rfl ?_
          refine XS.iload X.here hx rfl (hb hby at_279) rfl ?_
          exact kt
        obtain ⟨v_16, T_16, L_16, X_16, q_16, st_16⟩ := callVirtual X hx hZ (y := (⟨"com/example/copse/copse/HangingTree", "contains", "(I)Z"⟩ : MethodName)) (z := (⟨"com/example/copse/copse/HangingTree", "contains", "(I)Z"⟩ : MethodName)) (W := 0) hown (wdOf hw 221 rfl) (wdOf hw 222 rfl) (notFace_of_selects (args := #[]) (mvT hZ (wdOf hw 224 rfl))) (wdOf hw 224 rfl) (wdOf hw 223 rfl) (wdOf hw 67 rfl) (wdOf hw 225 rfl) (by decide) (rm_ct2 l Z a0 hw [] tx la (3 : Int32) v0 v1 v2 v3 v4 h n0 sz0 HT0 R2) (by decide) (by decide) (by decide) (by decide) eT (HTr.exa HT0) (g := (mkF m 281 #[sI_ q0, sI_ q1, sI_ q2, sI_ q3, sJ_ qw, sS_, sI_ (3 : Int32), sI_ (1 : Int32), sI_ (2 : Int32), sI_ (4 : Int32), sI_ h1, sI_ h2, sI_ h3, sJ_ wt, sS_, sR_ lx, sR_ tx, sI_ (2 : Int32), sI_ (1 : Int32)] [(.int (2 : Int32)), (.ref tx)])) rfl (by rw [hml]; rfl) (argsL := [(.int (2 : Int32))]) (rest := []) (lenOf pd_12 rfl) rfl rfl (Nat.le_refl _) (hb hby at_281)
        obtain ⟨z_16, rfl, n_16, K_16, hz_16⟩ := q_16
        have N_16 := Fr.app N n_16
        refine Goes.go (U' := (T_16.setTop (mkF m 284 #[sI_ q0, sI_ q1, sI_ q2, sI_ q3, sJ_ qw, sS_, sI_ (3 : Int32), sI_ (1 : Int32), sI_ (2 : Int32), sI_ (4 : Int32), sI_ h1, sI_ h2, sI_ h3, sJ_ wt, sS_, sR_ lx, sR_ tx, sI_ (2 : Int32), sI_ (1 : Int32)] [(.int z_16)]))) st_16 ?_
        obtain rfl : z_16 = (1 : Int32) := by
          rcases hz_16 with ⟨ez, hz⟩ | ⟨ez, hz⟩
          · exact ez
          · exact absurd hz (by rw [A2]; simp [cc0])
        refine Goes.go (U' := (T_16.setTop (mkF m 294 #[sI_ q0, sI_ q1, sI_ q2, sI_ q3, sJ_ qw, sS_, sI_ (3 : Int32), sI_ (1 : Int32), sI_ (2 : Int32), sI_ (4 : Int32), sI_ h1, sI_ h2, sI_ h3, sJ_ wt, sS_, sR_ lx, sR_ tx, sI_ (2 : Int32), sI_ (1 : Int32)] [(.int (1 : Int32))]))) (fun t kt => ?_) ?_
        · skip
          refine XS.iload X_16.here hx rfl (hb hby at_284) rfl ?_
          refine XS.icmpNo X_16.here hx rfl (hb hby at_286) rfl (XT.ii_ne_f (by decide)) ?_
          refine XS.iconst X_16.here hx rfl (hb hby at_289) ?_
          refine XS.goto X_16.here hx rfl (pc0 := 290) (pc' := 294) rfl (hb hby at_290) (by decide) (by decide) ?_
          exact kt
        refine Goes.retB X_16 hx hlk hret (hb hby at_294) (by decide) (by decide) ?_
        try rw [K_16]
        exact ⟨rfl, N_16⟩
    · -- r = 4
      refine Goes.go (U' := (T.setTop (mkF m 255 #[sI_ q0, sI_ q1, sI_ q2, sI_ q3, sJ_ qw, sS_, sI_ (4 : Int32), sI_ (1 : Int32), sI_ (2 : Int32), sI_ (3 : Int32), sI_ h1, sI_ h2, sI_ h3, sJ_ wt, sS_, sR_ lx, sR_ tx, sI_ (2 : Int32), sU_] [(.int h2)]))) (fun t kt => ?_) ?_
      · skip
        refine XS.iload X.here hx rfl (hb hby at_227) rfl ?_
        refine XS.iload X.here hx rfl (hb hby at_229) rfl ?_
        refine XS.icmpNo X.here hx rfl (hb hby at_231) rfl (XT.ii_eq_f (by decide)) ?_
        refine XS.iload X.here hx rfl (hb hby at_234) rfl ?_
        refine XS.iload X.here hx rfl (hb hby at_236) rfl ?_
        refine XS.icmpYes X.here hx rfl (pc0 := 238) (pc' := 246) rfl (hb hby at_238) rfl (XT.ii_ne_t (by decide)) (by decide) (by decide) ?_
        refine XS.iload X.here hx rfl (hb hby at_246) rfl ?_
        refine XS.iload X.here hx rfl (hb hby at_248) rfl ?_
        show Steps p.tables e below (T.setTop (mkF m 250 #[sI_ q0, sI_ q1, sI_ q2, sI_ q3, sJ_ qw, sS_, sI_ (4 : Int32), sI_ (1 : Int32), sI_ (2 : Int32), sI_ (3 : Int32), sI_ h1, sI_ h2, sI_ h3, sJ_ wt, sS_, sR_ lx, sR_ tx, sI_ (2 : Int32), sU_] [(.int (2 : Int32)), (.int (2 : Int32))])) t
        refine XS.icmpNo X.here hx rfl (hb hby at_250) rfl (XT.ii_ne_f (by decide)) ?_
        refine XS.iload X.here hx rfl (hb hby at_253) rfl ?_
        exact kt
      by_cases cc0 : h2 = 0
      · -- h2 = 0
        refine Goes.go (U' := (T.setTop (mkF m 281 #[sI_ q0, sI_ q1, sI_ q2, sI_ q3, sJ_ qw, sS_, sI_ (4 : Int32), sI_ (1 : Int32), sI_ (2 : Int32), sI_ (3 : Int32), sI_ h1, sI_ h2, sI_ h3, sJ_ wt, sS_, sR_ lx, sR_ tx, sI_ (2 : Int32), sI_ (0 : Int32)] [(.int (2 : Int32)), (.ref tx)]))) (fun t kt => ?_) ?_
        · skip
          refine XS.ifNo X.here hx rfl (hb hby at_255) rfl (XT.i0_ne_f cc0) ?_
          refine XS.iload X.here hx rfl (hb hby at_258) rfl ?_
          refine XS.iload X.here hx rfl (hb hby at_260) rfl ?_
          refine XS.icmpYes X.here hx rfl (pc0 := 262) (pc' := 274) rfl (hb hby at_262) rfl (XT.ii_ne_t (by decide)) (by decide) (by decide) ?_
          refine XS.iconst X.here hx rfl (hb hby at_274) ?_
          refine XS.istore X.here hx rfl (hb hby at_275) rfl (l' := #[sI_ q0, sI_ q1, sI_ q2, sI_ q3, sJ_ qw, sS_, sI_ (4 : Int32), sI_ (1 : Int32), sI_ (2 : Int32), sI_ (3 : Int32), sI_ h1, sI_ h2, sI_ h3, sJ_ wt, sS_, sR_ lx, sR_ tx, sI_ (2 : Int32), sI_ (0 : Int32)]) rfl ?_
          refine XS.aload X.here hx rfl (hb hby at_277) rfl rfl ?_
          refine XS.iload X.here hx rfl (hb hby at_279) rfl ?_
          exact kt
        obtain ⟨v_17, T_17, L_17, X_17, q_17, st_17⟩ := callVirtual X hx hZ (y := (⟨"com/example/copse/copse/HangingTree", "contains", "(I)Z"⟩ : MethodName)) (z := (⟨"com/example/copse/copse/HangingTree", "contains", "(I)Z"⟩ : MethodName)) (W := 0) hown (wdOf hw 221 rfl) (wdOf hw 222 rfl) (notFace_of_selects (args := #[]) (mvT hZ (wdOf hw 224 rfl))) (wdOf hw 224 rfl) (wdOf hw 223 rfl) (wdOf hw 67 rfl) (wdOf hw 225 rfl) (by decide) (rm_ct2 l Z a0 hw [] tx la (4 : Int32) v0 v1 v2 v3 v4 h n0 sz0 HT0 R2) (by decide) (by decide) (by decide) (by decide) eT (HTr.exa HT0) (g := (mkF m 281 #[sI_ q0, sI_ q1, sI_ q2, sI_ q3, sJ_ qw, sS_, sI_ (4 : Int32), sI_ (1 : Int32), sI_ (2 : Int32), sI_ (3 : Int32), sI_ h1, sI_ h2, sI_ h3, sJ_ wt, sS_, sR_ lx, sR_ tx, sI_ (2 : Int32), sI_ (0 : Int32)] [(.int (2 : Int32)), (.ref tx)])) rfl (by rw [hml]; rfl) (argsL := [(.int (2 : Int32))]) (rest := []) (lenOf pd_12 rfl) rfl rfl (Nat.le_refl _) (hb hby at_281)
        obtain ⟨z_17, rfl, n_17, K_17, hz_17⟩ := q_17
        have N_17 := Fr.app N n_17
        refine Goes.go (U' := (T_17.setTop (mkF m 284 #[sI_ q0, sI_ q1, sI_ q2, sI_ q3, sJ_ qw, sS_, sI_ (4 : Int32), sI_ (1 : Int32), sI_ (2 : Int32), sI_ (3 : Int32), sI_ h1, sI_ h2, sI_ h3, sJ_ wt, sS_, sR_ lx, sR_ tx, sI_ (2 : Int32), sI_ (0 : Int32)] [(.int z_17)]))) st_17 ?_
        obtain rfl : z_17 = (0 : Int32) := by
          rcases hz_17 with ⟨ez, hz⟩ | ⟨ez, hz⟩
          · exact absurd hz (by rw [A2]; simp [cc0])
          · exact ez
        refine Goes.go (U' := (T_17.setTop (mkF m 294 #[sI_ q0, sI_ q1, sI_ q2, sI_ q3, sJ_ qw, sS_, sI_ (4 : Int32), sI_ (1 : Int32), sI_ (2 : Int32), sI_ (3 : Int32), sI_ h1, sI_ h2, sI_ h3, sJ_ wt, sS_, sR_ lx, sR_ tx, sI_ (2 : Int32), sI_ (0 : Int32)] [(.int (1 : Int32))]))) (fun t kt => ?_) ?_
        · skip
          refine XS.iload X_17.here hx rfl (hb hby at_284) rfl ?_
          refine XS.icmpNo X_17.here hx rfl (hb hby at_286) rfl (XT.ii_ne_f (by decide)) ?_
          refine XS.iconst X_17.here hx rfl (hb hby at_289) ?_
          refine XS.goto X_17.here hx rfl (pc0 := 290) (pc' := 294) rfl (hb hby at_290) (by decide) (by decide) ?_
          exact kt
        refine Goes.retB X_17 hx hlk hret (hb hby at_294) (by decide) (by decide) ?_
        try rw [K_17]
        exact ⟨rfl, N_17⟩
      · -- not h2 = 0
        refine Goes.go (U' := (T.setTop (mkF m 281 #[sI_ q0, sI_ q1, sI_ q2, sI_ q3, sJ_ qw, sS_, sI_ (4 : Int32), sI_ (1 : Int32), sI_ (2 : Int32), sI_ (3 : Int32), sI_ h1, sI_ h2, sI_ h3, sJ_ wt, sS_, sR_ lx, sR_ tx, sI_ (2 : Int32), sI_ (1 : Int32)] [(.int (2 : Int32)), (.ref tx)]))) (fun t kt => ?_) ?_
        · skip
          refine XS.ifYes X.here hx rfl (pc0 := 255) (pc' := 270) rfl (hb hby at_255) rfl (XT.i0_ne_t cc0) (by decide) (by decide) ?_
          refine XS.iconst X.here hx rfl (hb hby at_270) ?_
          refine XS.goto X.here hx rfl (pc0 := 271) (pc' := 275) rfl (hb hby at_271) (by decide) (by decide) ?_
          refine XS.istore X.here hx rfl (hb hby at_275) rfl (l' := #[sI_ q0, sI_ q1, sI_ q2, sI_ q3, sJ_ qw, sS_, sI_ (4 : Int32), sI_ (1 : Int32), sI_ (2 : Int32), sI_ (3 : Int32), sI_ h1, sI_ h2, sI_ h3, sJ_ wt, sS_, sR_ lx, sR_ tx, sI_ (2 : Int32), sI_ (1 : Int32)]) rfl ?_
          refine XS.aload X.here hx rfl (hb hby at_277) rfl rfl ?_
          refine XS.iload X.here hx rfl (hb hby at_279) rfl ?_
          exact kt
        obtain ⟨v_18, T_18, L_18, X_18, q_18, st_18⟩ := callVirtual X hx hZ (y := (⟨"com/example/copse/copse/HangingTree", "contains", "(I)Z"⟩ : MethodName)) (z := (⟨"com/example/copse/copse/HangingTree", "contains", "(I)Z"⟩ : MethodName)) (W := 0) hown (wdOf hw 221 rfl) (wdOf hw 222 rfl) (notFace_of_selects (args := #[]) (mvT hZ (wdOf hw 224 rfl))) (wdOf hw 224 rfl) (wdOf hw 223 rfl) (wdOf hw 67 rfl) (wdOf hw 225 rfl) (by decide) (rm_ct2 l Z a0 hw [] tx la (4 : Int32) v0 v1 v2 v3 v4 h n0 sz0 HT0 R2) (by decide) (by decide) (by decide) (by decide) eT (HTr.exa HT0) (g := (mkF m 281 #[sI_ q0, sI_ q1, sI_ q2, sI_ q3, sJ_ qw, sS_, sI_ (4 : Int32), sI_ (1 : Int32), sI_ (2 : Int32), sI_ (3 : Int32), sI_ h1, sI_ h2, sI_ h3, sJ_ wt, sS_, sR_ lx, sR_ tx, sI_ (2 : Int32), sI_ (1 : Int32)] [(.int (2 : Int32)), (.ref tx)])) rfl (by rw [hml]; rfl) (argsL := [(.int (2 : Int32))]) (rest := []) (lenOf pd_12 rfl) rfl rfl (Nat.le_refl _) (hb hby at_281)
        obtain ⟨z_18, rfl, n_18, K_18, hz_18⟩ := q_18
        have N_18 := Fr.app N n_18
        refine Goes.go (U' := (T_18.setTop (mkF m 284 #[sI_ q0, sI_ q1, sI_ q2, sI_ q3, sJ_ qw, sS_, sI_ (4 : Int32), sI_ (1 : Int32), sI_ (2 : Int32), sI_ (3 : Int32), sI_ h1, sI_ h2, sI_ h3, sJ_ wt, sS_, sR_ lx, sR_ tx, sI_ (2 : Int32), sI_ (1 : Int32)] [(.int z_18)]))) st_18 ?_
        obtain rfl : z_18 = (1 : Int32) := by
          rcases hz_18 with ⟨ez, hz⟩ | ⟨ez, hz⟩
          · exact ez
          · exact absurd hz (by rw [A2]; simp [cc0])
        refine Goes.go (U' := (T_18.setTop (mkF m 294 #[sI_ q0, sI_ q1, sI_ q2, sI_ q3, sJ_ qw, sS_, sI_ (4 : Int32), sI_ (1 : Int32), sI_ (2 : Int32), sI_ (3 : Int32), sI_ h1, sI_ h2, sI_ h3, sJ_ wt, sS_, sR_ lx, sR_ tx, sI_ (2 : Int32), sI_ (1 : Int32)] [(.int (1 : Int32))]))) (fun t kt => ?_) ?_
        · skip
          refine XS.iload X_18.here hx rfl (hb hby at_284) rfl ?_
          refine XS.icmpNo X_18.here hx rfl (hb hby at_286) rfl (XT.ii_ne_f (by decide)) ?_
          refine XS.iconst X_18.here hx rfl (hb hby at_289) ?_
          refine XS.goto X_18.here hx rfl (pc0 := 290) (pc' := 294) rfl (hb hby at_290) (by decide) (by decide) ?_
          exact kt
        refine Goes.retB X_18 hx hlk hret (hb hby at_294) (by decide) (by decide) ?_
        try rw [K_18]
        exact ⟨rfl, N_18⟩
  · -- q = 3
    rw [hq]
    rcases RT with ⟨rfl, rfl, rfl, rfl⟩ | ⟨rfl, rfl, rfl, rfl⟩ | ⟨rfl, rfl, rfl, rfl⟩ | ⟨rfl, rfl, rfl, rfl⟩
    · -- r = 1
      refine Goes.go (U' := (T.setTop (mkF m 255 #[sI_ q0, sI_ q1, sI_ q2, sI_ q3, sJ_ qw, sS_, sI_ (1 : Int32), sI_ (2 : Int32), sI_ (3 : Int32), sI_ (4 : Int32), sI_ h1, sI_ h2, sI_ h3, sJ_ wt, sS_, sR_ lx, sR_ tx, sI_ (3 : Int32), sU_] [(.int h2)]))) (fun t kt => ?_) ?_
      · skip
        refine XS.iload X.here hx rfl (hb hby at_227) rfl ?_
        refine XS.iload X.here hx rfl (hb hby at_229) rfl ?_
        refine XS.icmpNo X.here hx rfl (hb hby at_231) rfl (XT.ii_eq_f (by decide)) ?_
        refine XS.iload X.here hx rfl (hb hby at_234) rfl ?_
        refine XS.iload X.here hx rfl (hb hby at_236) rfl ?_
        refine XS.icmpYes X.here hx rfl (pc0 := 238) (pc' := 246) rfl (hb hby at_238) rfl (XT.ii_ne_t (by decide)) (by decide) (by decide) ?_
        refine XS.iload X.here hx rfl (hb hby at_246) rfl ?_
        refine XS.iload X.here hx rfl (hb hby at_248) rfl ?_
        show Steps p.tables e below (T.setTop (mkF m 250 #[sI_ q0, sI_ q1, sI_ q2, sI_ q3, sJ_ qw, sS_, sI_ (1 : Int32), sI_ (2 : Int32), sI_ (3 : Int32), sI_ (4 : Int32), sI_ h1, sI_ h2, sI_ h3, sJ_ wt, sS_, sR_ lx, sR_ tx, sI_ (3 : Int32), sU_] [(.int (3 : Int32)), (.int (3 : Int32))])) t
        refine XS.icmpNo X.here hx rfl (hb hby at_250) rfl (XT.ii_ne_f (by decide)) ?_
        refine XS.iload X.here hx rfl (hb hby at_253) rfl ?_
        exact kt
      by_cases cc0 : h2 = 0
      · -- h2 = 0
        refine Goes.go (U' := (T.setTop (mkF m 281 #[sI_ q0, sI_ q1, sI_ q2, sI_ q3, sJ_ qw, sS_, sI_ (1 : Int32), sI_ (2 : Int32), sI_ (3 : Int32), sI_ (4 : Int32), sI_ h1, sI_ h2, sI_ h3, sJ_ wt, sS_, sR_ lx, sR_ tx, sI_ (3 : Int32), sI_ (0 : Int32)] [(.int (3 : Int32)), (.ref tx)]))) (fun t kt => ?_) ?_
        · skip
          refine XS.ifNo X.here hx rfl (hb hby at_255) rfl (XT.i0_ne_f cc0) ?_
          refine XS.iload X.here hx rfl (hb hby at_258) rfl ?_
          refine XS.iload X.here hx rfl (hb hby at_260) rfl ?_
          refine XS.icmpYes X.here hx rfl (pc0 := 262) (pc' := 274) rfl (hb hby at_262) rfl (XT.ii_ne_t (by decide)) (by decide) (by decide) ?_
          refine XS.iconst X.here hx rfl (hb hby at_274) ?_
          refine XS.istore X.here hx rfl (hb hby at_275) rfl (l' := #[sI_ q0, sI_ q1, sI_ q2, sI_ q3, sJ_ qw, sS_, sI_ (1 : Int32), sI_ (2 : Int32), sI_ (3 : Int32), sI_ (4 : Int32), sI_ h1, sI_ h2, sI_ h3, sJ_ wt, sS_, sR_ lx, sR_ tx, sI_ (3 : Int32), sI_ (0 : Int32)]) rfl ?_
          refine XS.aload X.here hx rfl (hb hby at_277) rfl rfl ?_
          refine XS.iload X.here hx rfl (hb hby at_279) rfl ?_
          exact kt
        obtain ⟨v_19, T_19, L_19, X_19, q_19, st_19⟩ := callVirtual X hx hZ (y := (⟨"com/example/copse/copse/HangingTree", "contains", "(I)Z"⟩ : MethodName)) (z := (⟨"com/example/copse/copse/HangingTree", "contains", "(I)Z"⟩ : MethodName)) (W := 0) hown (wdOf hw 221 rfl) (wdOf hw 222 rfl) (notFace_of_selects (args := #[]) (mvT hZ (wdOf hw 224 rfl))) (wdOf hw 224 rfl) (wdOf hw 223 rfl) (wdOf hw 67 rfl) (wdOf hw 225 rfl) (by decide) (rm_ct3 l Z a0 hw [] tx la (1 : Int32) v0 v1 v2 v3 v4 h n0 sz0 HT0 R3) (by decide) (by decide) (by decide) (by decide) eT (HTr.exa HT0) (g := (mkF m 281 #[sI_ q0, sI_ q1, sI_ q2, sI_ q3, sJ_ qw, sS_, sI_ (1 : Int32), sI_ (2 : Int32), sI_ (3 : Int32), sI_ (4 : Int32), sI_ h1, sI_ h2, sI_ h3, sJ_ wt, sS_, sR_ lx, sR_ tx, sI_ (3 : Int32), sI_ (0 : Int32)] [(.int (3 : Int32)), (.ref tx)])) rfl (by rw [hml]; rfl) (argsL := [(.int (3 : Int32))]) (rest := []) (lenOf pd_12 rfl) rfl rfl (Nat.le_refl _) (hb hby at_281)
        obtain ⟨z_19, rfl, n_19, K_19, hz_19⟩ := q_19
        have N_19 := Fr.app N n_19
        refine Goes.go (U' := (T_19.setTop (mkF m 284 #[sI_ q0, sI_ q1, sI_ q2, sI_ q3, sJ_ qw, sS_, sI_ (1 : Int32), sI_ (2 : Int32), sI_ (3 : Int32), sI_ (4 : Int32), sI_ h1, sI_ h2, sI_ h3, sJ_ wt, sS_, sR_ lx, sR_ tx, sI_ (3 : Int32), sI_ (0 : Int32)] [(.int z_19)]))) st_19 ?_
        obtain rfl : z_19 = (0 : Int32) := by
          rcases hz_19 with ⟨ez, hz⟩ | ⟨ez, hz⟩
          · exact absurd hz (by rw [A3]; simp [cc0])
          · exact ez
        refine Goes.go (U' := (T_19.setTop (mkF m 294 #[sI_ q0, sI_ q1, sI_ q2, sI_ q3, sJ_ qw, sS_, sI_ (1 : Int32), sI_ (2 : Int32), sI_ (3 : Int32), sI_ (4 : Int32), sI_ h1, sI_ h2, sI_ h3, sJ_ wt, sS_, sR_ lx, sR_ tx, sI_ (3 : Int32), sI_ (0 : Int32)] [(.int (1 : Int32))]))) (fun t kt => ?_) ?_
        · skip
          refine XS.iload X_19.here hx rfl (hb hby at_284) rfl ?_
          refine XS.icmpNo X_19.here hx rfl (hb hby at_286) rfl (XT.ii_ne_f (by decide)) ?_
          refine XS.iconst X_19.here hx rfl (hb hby at_289) ?_
          refine XS.goto X_19.here hx rfl (pc0 := 290) (pc' := 294) rfl (hb hby at_290) (by decide) (by decide) ?_
          exact kt
        refine Goes.retB X_19 hx hlk hret (hb hby at_294) (by decide) (by decide) ?_
        try rw [K_19]
        exact ⟨rfl, N_19⟩
      · -- not h2 = 0
        refine Goes.go (U' := (T.setTop (mkF m 281 #[sI_ q0, sI_ q1, sI_ q2, sI_ q3, sJ_ qw, sS_, sI_ (1 : Int32), sI_ (2 : Int32), sI_ (3 : Int32), sI_ (4 : Int32), sI_ h1, sI_ h2, sI_ h3, sJ_ wt, sS_, sR_ lx, sR_ tx, sI_ (3 : Int32), sI_ (1 : Int32)] [(.int (3 : Int32)), (.ref tx)]))) (fun t kt => ?_) ?_
        · skip
          refine XS.ifYes X.here hx rfl (pc0 := 255) (pc' := 270) rfl (hb hby at_255) rfl (XT.i0_ne_t cc0) (by decide) (by decide) ?_
          refine XS.iconst X.here hx rfl (hb hby at_270) ?_
          refine XS.goto X.here hx rfl (pc0 := 271) (pc' := 275) rfl (hb hby at_271) (by decide) (by decide) ?_
          refine XS.istore X.here hx rfl (hb hby at_275) rfl (l' := #[sI_ q0, sI_ q1, sI_ q2, sI_ q3, sJ_ qw, sS_, sI_ (1 : Int32), sI_ (2 : Int32), sI_ (3 : Int32), sI_ (4 : Int32), sI_ h1, sI_ h2, sI_ h3, sJ_ wt, sS_, sR_ lx, sR_ tx, sI_ (3 : Int32), sI_ (1 : Int32)]) rfl ?_
          refine XS.aload X.here hx rfl (hb hby at_277) rfl rfl ?_
          refine XS.iload X.here hx rfl (hb hby at_279) rfl ?_
          exact kt
        obtain ⟨v_20, T_20, L_20, X_20, q_20, st_20⟩ := callVirtual X hx hZ (y := (⟨"com/example/copse/copse/HangingTree", "contains", "(I)Z"⟩ : MethodName)) (z := (⟨"com/example/copse/copse/HangingTree", "contains", "(I)Z"⟩ : MethodName)) (W := 0) hown (wdOf hw 221 rfl) (wdOf hw 222 rfl) (notFace_of_selects (args := #[]) (mvT hZ (wdOf hw 224 rfl))) (wdOf hw 224 rfl) (wdOf hw 223 rfl) (wdOf hw 67 rfl) (wdOf hw 225 rfl) (by decide) (rm_ct3 l Z a0 hw [] tx la (1 : Int32) v0 v1 v2 v3 v4 h n0 sz0 HT0 R3) (by decide) (by decide) (by decide) (by decide) eT (HTr.exa HT0) (g := (mkF m 281 #[sI_ q0, sI_ q1, sI_ q2, sI_ q3, sJ_ qw, sS_, sI_ (1 : Int32), sI_ (2 : Int32), sI_ (3 : Int32), sI_ (4 : Int32), sI_ h1, sI_ h2, sI_ h3, sJ_ wt, sS_, sR_ lx, sR_ tx, sI_ (3 : Int32), sI_ (1 : Int32)] [(.int (3 : Int32)), (.ref tx)])) rfl (by rw [hml]; rfl) (argsL := [(.int (3 : Int32))]) (rest := []) (lenOf pd_12 rfl) rfl rfl (Nat.le_refl _) (hb hby at_281)
        obtain ⟨z_20, rfl, n_20, K_20, hz_20⟩ := q_20
        have N_20 := Fr.app N n_20
        refine Goes.go (U' := (T_20.setTop (mkF m 284 #[sI_ q0, sI_ q1, sI_ q2, sI_ q3, sJ_ qw, sS_, sI_ (1 : Int32), sI_ (2 : Int32), sI_ (3 : Int32), sI_ (4 : Int32), sI_ h1, sI_ h2, sI_ h3, sJ_ wt, sS_, sR_ lx, sR_ tx, sI_ (3 : Int32), sI_ (1 : Int32)] [(.int z_20)]))) st_20 ?_
        obtain rfl : z_20 = (1 : Int32) := by
          rcases hz_20 with ⟨ez, hz⟩ | ⟨ez, hz⟩
          · exact ez
          · exact absurd hz (by rw [A3]; simp [cc0])
        refine Goes.go (U' := (T_20.setTop (mkF m 294 #[sI_ q0, sI_ q1, sI_ q2, sI_ q3, sJ_ qw, sS_, sI_ (1 : Int32), sI_ (2 : Int32), sI_ (3 : Int32), sI_ (4 : Int32), sI_ h1, sI_ h2, sI_ h3, sJ_ wt, sS_, sR_ lx, sR_ tx, sI_ (3 : Int32), sI_ (1 : Int32)] [(.int (1 : Int32))]))) (fun t kt => ?_) ?_
        · skip
          refine XS.iload X_20.here hx rfl (hb hby at_284) rfl ?_
          refine XS.icmpNo X_20.here hx rfl (hb hby at_286) rfl (XT.ii_ne_f (by decide)) ?_
          refine XS.iconst X_20.here hx rfl (hb hby at_289) ?_
          refine XS.goto X_20.here hx rfl (pc0 := 290) (pc' := 294) rfl (hb hby at_290) (by decide) (by decide) ?_
          exact kt
        refine Goes.retB X_20 hx hlk hret (hb hby at_294) (by decide) (by decide) ?_
        try rw [K_20]
        exact ⟨rfl, N_20⟩
    · -- r = 2
      refine Goes.go (U' := (T.setTop (mkF m 255 #[sI_ q0, sI_ q1, sI_ q2, sI_ q3, sJ_ qw, sS_, sI_ (2 : Int32), sI_ (1 : Int32), sI_ (3 : Int32), sI_ (4 : Int32), sI_ h1, sI_ h2, sI_ h3, sJ_ wt, sS_, sR_ lx, sR_ tx, sI_ (3 : Int32), sU_] [(.int h2)]))) (fun t kt => ?_) ?_
      · skip
        refine XS.iload X.here hx rfl (hb hby at_227) rfl ?_
        refine XS.iload X.here hx rfl (hb hby at_229) rfl ?_
        refine XS.icmpNo X.here hx rfl (hb hby at_231) rfl (XT.ii_eq_f (by decide)) ?_
        refine XS.iload X.here hx rfl (hb hby at_234) rfl ?_
        refine XS.iload X.here hx rfl (hb hby at_236) rfl ?_
        refine XS.icmpYes X.here hx rfl (pc0 := 238) (pc' := 246) rfl (hb hby at_238) rfl (XT.ii_ne_t (by decide)) (by decide) (by decide) ?_
        refine XS.iload X.here hx rfl (hb hby at_246) rfl ?_
        refine XS.iload X.here hx rfl (hb hby at_248) rfl ?_
        show Steps p.tables e below (T.setTop (mkF m 250 #[sI_ q0, sI_ q1, sI_ q2, sI_ q3, sJ_ qw, sS_, sI_ (2 : Int32), sI_ (1 : Int32), sI_ (3 : Int32), sI_ (4 : Int32), sI_ h1, sI_ h2, sI_ h3, sJ_ wt, sS_, sR_ lx, sR_ tx, sI_ (3 : Int32), sU_] [(.int (3 : Int32)), (.int (3 : Int32))])) t
        refine XS.icmpNo X.here hx rfl (hb hby at_250) rfl (XT.ii_ne_f (by decide)) ?_
        refine XS.iload X.here hx rfl (hb hby at_253) rfl ?_
        exact kt
      by_cases cc0 : h2 = 0
      · -- h2 = 0
        refine Goes.go (U' := (T.setTop (mkF m 281 #[sI_ q0, sI_ q1, sI_ q2, sI_ q3, sJ_ qw, sS_, sI_ (2 : Int32), sI_ (1 : Int32), sI_ (3 : Int32), sI_ (4 : Int32), sI_ h1, sI_ h2, sI_ h3, sJ_ wt, sS_, sR_ lx, sR_ tx, sI_ (3 : Int32), sI_ (0 : Int32)] [(.int (3 : Int32)), (.ref tx)]))) (fun t kt => ?_) ?_
        · skip
          refine XS.ifNo X.here hx rfl (hb hby at_255) rfl (XT.i0_ne_f cc0) ?_
          refine XS.iload X.here hx rfl (hb hby at_258) rfl ?_
          refine XS.iload X.here hx rfl (hb hby at_260) rfl ?_
          refine XS.icmpYes X.here hx rfl (pc0 := 262) (pc' := 274) rfl (hb hby at_262) rfl (XT.ii_ne_t (by decide)) (by decide) (by decide) ?_
          refine XS.iconst X.here hx rfl (hb hby at_274) ?_
          refine XS.istore X.here hx rfl (hb hby at_275) rfl (l' := #[sI_ q0, sI_ q1, sI_ q2, sI_ q3, sJ_ qw, sS_, sI_ (2 : Int32), sI_ (1 : Int32), sI_ (3 : Int32), sI_ (4 : Int32), sI_ h1, sI_ h2, sI_ h3, sJ_ wt, sS_, sR_ lx, sR_ tx, sI_ (3 : Int32), sI_ (0 : Int32)]) rfl ?_
          refine XS.aload X.here hx rfl (hb hby at_277) rfl rfl ?_
          refine XS.iload X.here hx rfl (hb hby at_279) rfl ?_
          exact kt
        obtain ⟨v_21, T_21, L_21, X_21, q_21, st_21⟩ := callVirtual X hx hZ (y := (⟨"com/example/copse/copse/HangingTree", "contains", "(I)Z"⟩ : MethodName)) (z := (⟨"com/example/copse/copse/HangingTree", "contains", "(I)Z"⟩ : MethodName)) (W := 0) hown (wdOf hw 221 rfl) (wdOf hw 222 rfl) (notFace_of_selects (args := #[]) (mvT hZ (wdOf hw 224 rfl))) (wdOf hw 224 rfl) (wdOf hw 223 rfl) (wdOf hw 67 rfl) (wdOf hw 225 rfl) (by decide) (rm_ct3 l Z a0 hw [] tx la (2 : Int32) v0 v1 v2 v3 v4 h n0 sz0 HT0 R3) (by decide) (by decide) (by decide) (by decide) eT (HTr.exa HT0) (g := (mkF m 281 #[sI_ q0, sI_ q1, sI_ q2, sI_ q3, sJ_ qw, sS_, sI_ (2 : Int32), sI_ (1 : Int32), sI_ (3 : Int32), sI_ (4 : Int32), sI_ h1, sI_ h2, sI_ h3, sJ_ wt, sS_, sR_ lx, sR_ tx, sI_ (3 : Int32), sI_ (0 : Int32)] [(.int (3 : Int32)), (.ref tx)])) rfl (by rw [hml]; rfl) (argsL := [(.int (3 : Int32))]) (rest := []) (lenOf pd_12 rfl) rfl rfl (Nat.le_refl _) (hb hby at_281)
        obtain ⟨z_21, rfl, n_21, K_21, hz_21⟩ := q_21
        have N_21 := Fr.app N n_21
        refine Goes.go (U' := (T_21.setTop (mkF m 284 #[sI_ q0, sI_ q1, sI_ q2, sI_ q3, sJ_ qw, sS_, sI_ (2 : Int32), sI_ (1 : Int32), sI_ (3 : Int32), sI_ (4 : Int32), sI_ h1, sI_ h2, sI_ h3, sJ_ wt, sS_, sR_ lx, sR_ tx, sI_ (3 : Int32), sI_ (0 : Int32)] [(.int z_21)]))) st_21 ?_
        obtain rfl : z_21 = (0 : Int32) := by
          rcases hz_21 with ⟨ez, hz⟩ | ⟨ez, hz⟩
          · exact absurd hz (by rw [A3]; simp [cc0])
          · exact ez
        refine Goes.go (U' := (T_21.setTop (mkF m 294 #[sI_ q0, sI_ q1, sI_ q2, sI_ q3, sJ_ qw, sS_, sI_ (2 : Int32), sI_ (1 : Int32), sI_ (3 : Int32), sI_ (4 : Int32), sI_ h1, sI_ h2, sI_ h3, sJ_ wt, sS_, sR_ lx, sR_ tx, sI_ (3 : Int32), sI_ (0 : Int32)] [(.int (1 : Int32))]))) (fun t kt => ?_) ?_
        · skip
          refine XS.iload X_21.here hx rfl (hb hby at_284) rfl ?_
          refine XS.icmpNo X_21.here hx rfl (hb hby at_286) rfl (XT.ii_ne_f (by decide)) ?_
          refine XS.iconst X_21.here hx rfl (hb hby at_289) ?_
          refine XS.goto X_21.here hx rfl (pc0 := 290) (pc' := 294) rfl (hb hby at_290) (by decide) (by decide) ?_
          exact kt
        refine Goes.retB X_21 hx hlk hret (hb hby at_294) (by decide) (by decide) ?_
        try rw [K_21]
        exact ⟨rfl, N_21⟩
      · -- not h2 = 0
        refine Goes.go (U' := (T.setTop (mkF m 281 #[sI_ q0, sI_ q1, sI_ q2, sI_ q3, sJ_ qw, sS_, sI_ (2 : Int32), sI_ (1 : Int32), sI_ (3 : Int32), sI_ (4 : Int32), sI_ h1, sI_ h2, sI_ h3, sJ_ wt, sS_, sR_ lx, sR_ tx, sI_ (3 : Int32), sI_ (1 : Int32)] [(.int (3 : Int32)), (.ref tx)]))) (fun t kt => ?_) ?_
        · skip
          refine XS.ifYes X.here hx rfl (pc0 := 255) (pc' := 270) rfl (hb hby at_255) rfl (XT.i0_ne_t cc0) (by decide) (by decide) ?_
          refine XS.iconst X.here hx rfl (hb hby at_270) ?_
          refine XS.goto X.here hx rfl (pc0 := 271) (pc' := 275) rfl (hb hby at_271) (by decide) (by decide) ?_
          refine XS.istore X.here hx rfl (hb hby at_275) rfl (l' := #[sI_ q0, sI_ q1, sI_ q2, sI_ q3, sJ_ qw, sS_, sI_ (2 : Int32), sI_ (1 : Int32), sI_ (3 : Int32), sI_ (4 : Int32), sI_ h1, sI_ h2, sI_ h3, sJ_ wt, sS_, sR_ lx, sR_ tx, sI_ (3 : Int32), sI_ (1 : Int32)]) rfl ?_
          refine XS.aload X.here hx rfl (hb hby at_277) rfl rfl ?_
          refine XS.iload X.here hx rfl (hb hby at_279) rfl ?_
          exact kt
        obtain ⟨v_22, T_22, L_22, X_22, q_22, st_22⟩ := callVirtual X hx hZ (y := (⟨"com/example/copse/copse/HangingTree", "contains", "(I)Z"⟩ : MethodName)) (z := (⟨"com/example/copse/copse/HangingTree", "contains", "(I)Z"⟩ : MethodName)) (W := 0) hown (wdOf hw 221 rfl) (wdOf hw 222 rfl) (notFace_of_selects (args := #[]) (mvT hZ (wdOf hw 224 rfl))) (wdOf hw 224 rfl) (wdOf hw 223 rfl) (wdOf hw 67 rfl) (wdOf hw 225 rfl) (by decide) (rm_ct3 l Z a0 hw [] tx la (2 : Int32) v0 v1 v2 v3 v4 h n0 sz0 HT0 R3) (by decide) (by decide) (by decide) (by decide) eT (HTr.exa HT0) (g := (mkF m 281 #[sI_ q0, sI_ q1, sI_ q2, sI_ q3, sJ_ qw, sS_, sI_ (2 : Int32), sI_ (1 : Int32), sI_ (3 : Int32), sI_ (4 : Int32), sI_ h1, sI_ h2, sI_ h3, sJ_ wt, sS_, sR_ lx, sR_ tx, sI_ (3 : Int32), sI_ (1 : Int32)] [(.int (3 : Int32)), (.ref tx)])) rfl (by rw [hml]; rfl) (argsL := [(.int (3 : Int32))]) (rest := []) (lenOf pd_12 rfl) rfl rfl (Nat.le_refl _) (hb hby at_281)
        obtain ⟨z_22, rfl, n_22, K_22, hz_22⟩ := q_22
        have N_22 := Fr.app N n_22
        refine Goes.go (U' := (T_22.setTop (mkF m 284 #[sI_ q0, sI_ q1, sI_ q2, sI_ q3, sJ_ qw, sS_, sI_ (2 : Int32), sI_ (1 : Int32), sI_ (3 : Int32), sI_ (4 : Int32), sI_ h1, sI_ h2, sI_ h3, sJ_ wt, sS_, sR_ lx, sR_ tx, sI_ (3 : Int32), sI_ (1 : Int32)] [(.int z_22)]))) st_22 ?_
        obtain rfl : z_22 = (1 : Int32) := by
          rcases hz_22 with ⟨ez, hz⟩ | ⟨ez, hz⟩
          · exact ez
          · exact absurd hz (by rw [A3]; simp [cc0])
        refine Goes.go (U' := (T_22.setTop (mkF m 294 #[sI_ q0, sI_ q1, sI_ q2, sI_ q3, sJ_ qw, sS_, sI_ (2 : Int32), sI_ (1 : Int32), sI_ (3 : Int32), sI_ (4 : Int32), sI_ h1, sI_ h2, sI_ h3, sJ_ wt, sS_, sR_ lx, sR_ tx, sI_ (3 : Int32), sI_ (1 : Int32)] [(.int (1 : Int32))]))) (fun t kt => ?_) ?_
        · skip
          refine XS.iload X_22.here hx rfl (hb hby at_284) rfl ?_
          refine XS.icmpNo X_22.here hx rfl (hb hby at_286) rfl (XT.ii_ne_f (by decide)) ?_
          refine XS.iconst X_22.here hx rfl (hb hby at_289) ?_
          refine XS.goto X_22.here hx rfl (pc0 := 290) (pc' := 294) rfl (hb hby at_290) (by decide) (by decide) ?_
          exact kt
        refine Goes.retB X_22 hx hlk hret (hb hby at_294) (by decide) (by decide) ?_
        try rw [K_22]
        exact ⟨rfl, N_22⟩
    · -- r = 3
      refine Goes.go (U' := (T.setTop (mkF m 281 #[sI_ q0, sI_ q1, sI_ q2, sI_ q3, sJ_ qw, sS_, sI_ (3 : Int32), sI_ (1 : Int32), sI_ (2 : Int32), sI_ (4 : Int32), sI_ h1, sI_ h2, sI_ h3, sJ_ wt, sS_, sR_ lx, sR_ tx, sI_ (3 : Int32), sI_ (1 : Int32)] [(.int (3 : Int32)), (.ref tx)]))) (fun t kt => ?_) ?_
      · skip
        refine XS.iload X.here hx rfl (hb hby at_227) rfl ?_
        refine XS.iload X.here hx rfl (hb hby at_229) rfl ?_
        refine XS.icmpYes X.here hx rfl (pc0 := 231) (pc' := 270) rfl (hb hby at_231) rfl (XT.ii_eq_t (by decide)) (by decide) (by decide) ?_
        refine XS.iconst X.here hx rfl (hb hby at_270) ?_
        refine XS.goto X.here hx rfl (pc0 := 271) (pc' := 275) rfl (hb hby at_271) (by decide) (by decide) ?_
        refine XS.istore X.here hx rfl (hb hby at_275) rfl (l' := #[sI_ q0, sI_ q1, sI_ q2, sI_ q3, sJ_ qw, sS_, sI_ (3 : Int32), sI_ (1 : Int32), sI_ (2 : Int32), sI_ (4 : Int32), sI_ h1, sI_ h2, sI_ h3, sJ_ wt, sS_, sR_ lx, sR_ tx, sI_ (3 : Int32), sI_ (1 : Int32)]) rfl ?_
        refine XS.aload X.here hx rfl (hb hby at_277) rfl rfl ?_
        refine XS.iload X.here hx rfl (hb hby at_279) rfl ?_
        exact kt
      obtain ⟨v_23, T_23, L_23, X_23, q_23, st_23⟩ := callVirtual X hx hZ (y := (⟨"com/example/copse/copse/HangingTree", "contains", "(I)Z"⟩ : MethodName)) (z := (⟨"com/example/copse/copse/HangingTree", "contains", "(I)Z"⟩ : MethodName)) (W := 0) hown (wdOf hw 221 rfl) (wdOf hw 222 rfl) (notFace_of_selects (args := #[]) (mvT hZ (wdOf hw 224 rfl))) (wdOf hw 224 rfl) (wdOf hw 223 rfl) (wdOf hw 67 rfl) (wdOf hw 225 rfl) (by decide) (rm_ct3 l Z a0 hw [] tx la (3 : Int32) v0 v1 v2 v3 v4 h n0 sz0 HT0 R3) (by decide) (by decide) (by decide) (by decide) eT (HTr.exa HT0) (g := (mkF m 281 #[sI_ q0, sI_ q1, sI_ q2, sI_ q3, sJ_ qw, sS_, sI_ (3 : Int32), sI_ (1 : Int32), sI_ (2 : Int32), sI_ (4 : Int32), sI_ h1, sI_ h2, sI_ h3, sJ_ wt, sS_, sR_ lx, sR_ tx, sI_ (3 : Int32), sI_ (1 : Int32)] [(.int (3 : Int32)), (.ref tx)])) rfl (by rw [hml]; rfl) (argsL := [(.int (3 : Int32))]) (rest := []) (lenOf pd_12 rfl) rfl rfl (Nat.le_refl _) (hb hby at_281)
      obtain ⟨z_23, rfl, n_23, K_23, hz_23⟩ := q_23
      have N_23 := Fr.app N n_23
      refine Goes.go (U' := (T_23.setTop (mkF m 284 #[sI_ q0, sI_ q1, sI_ q2, sI_ q3, sJ_ qw, sS_, sI_ (3 : Int32), sI_ (1 : Int32), sI_ (2 : Int32), sI_ (4 : Int32), sI_ h1, sI_ h2, sI_ h3, sJ_ wt, sS_, sR_ lx, sR_ tx, sI_ (3 : Int32), sI_ (1 : Int32)] [(.int z_23)]))) st_23 ?_
      obtain rfl : z_23 = (1 : Int32) := by
        rcases hz_23 with ⟨ez, hz⟩ | ⟨ez, hz⟩
        · exact ez
        · exact absurd hz (by rw [A3]; simp)
      refine Goes.go (U' := (T_23.setTop (mkF m 294 #[sI_ q0, sI_ q1, sI_ q2, sI_ q3, sJ_ qw, sS_, sI_ (3 : Int32), sI_ (1 : Int32), sI_ (2 : Int32), sI_ (4 : Int32), sI_ h1, sI_ h2, sI_ h3, sJ_ wt, sS_, sR_ lx, sR_ tx, sI_ (3 : Int32), sI_ (1 : Int32)] [(.int (1 : Int32))]))) (fun t kt => ?_) ?_
      · skip
        refine XS.iload X_23.here hx rfl (hb hby at_284) rfl ?_
        refine XS.icmpNo X_23.here hx rfl (hb hby at_286) rfl (XT.ii_ne_f (by decide)) ?_
        refine XS.iconst X_23.here hx rfl (hb hby at_289) ?_
        refine XS.goto X_23.here hx rfl (pc0 := 290) (pc' := 294) rfl (hb hby at_290) (by decide) (by decide) ?_
        exact kt
      refine Goes.retB X_23 hx hlk hret (hb hby at_294) (by decide) (by decide) ?_
      try rw [K_23]
      exact ⟨rfl, N_23⟩
    · -- r = 4
      refine Goes.go (U' := (T.setTop (mkF m 267 #[sI_ q0, sI_ q1, sI_ q2, sI_ q3, sJ_ qw, sS_, sI_ (4 : Int32), sI_ (1 : Int32), sI_ (2 : Int32), sI_ (3 : Int32), sI_ h1, sI_ h2, sI_ h3, sJ_ wt, sS_, sR_ lx, sR_ tx, sI_ (3 : Int32), sU_] [(.int h3)]))) (fun t kt => ?_) ?_
      · skip
        refine XS.iload X.here hx rfl (hb hby at_227) rfl ?_
        refine XS.iload X.here hx rfl (hb hby at_229) rfl ?_
        refine XS.icmpNo X.here hx rfl (hb hby at_231) rfl (XT.ii_eq_f (by decide)) ?_
        refine XS.iload X.here hx rfl (hb hby at_234) rfl ?_
        refine XS.iload X.here hx rfl (hb hby at_236) rfl ?_
        refine XS.icmpYes X.here hx rfl (pc0 := 238) (pc' := 246) rfl (hb hby at_238) rfl (XT.ii_ne_t (by decide)) (by decide) (by decide) ?_
        refine XS.iload X.here hx rfl (hb hby at_246) rfl ?_
        refine XS.iload X.here hx rfl (hb hby at_248) rfl ?_
        show Steps p.tables e below (T.setTop (mkF m 250 #[sI_ q0, sI_ q1, sI_ q2, sI_ q3, sJ_ qw, sS_, sI_ (4 : Int32), sI_ (1 : Int32), sI_ (2 : Int32), sI_ (3 : Int32), sI_ h1, sI_ h2, sI_ h3, sJ_ wt, sS_, sR_ lx, sR_ tx, sI_ (3 : Int32), sU_] [(.int (2 : Int32)), (.int (3 : Int32))])) t
        refine XS.icmpYes X.here hx rfl (pc0 := 250) (pc' := 258) rfl (hb hby at_250) rfl (XT.ii_ne_t (by decide)) (by decide) (by decide) ?_
        refine XS.iload X.here hx rfl (hb hby at_258) rfl ?_
        refine XS.iload X.here hx rfl (hb hby at_260) rfl ?_
        refine XS.icmpNo X.here hx rfl (hb hby at_262) rfl (XT.ii_ne_f (by decide)) ?_
        refine XS.iload X.here hx rfl (hb hby at_265) rfl ?_
        exact kt
      by_cases cc0 : h3 = 0
      · -- h3 = 0
        refine Goes.go (U' := (T.setTop (mkF m 281 #[sI_ q0, sI_ q1, sI_ q2, sI_ q3, sJ_ qw, sS_, sI_ (4 : Int32), sI_ (1 : Int32), sI_ (2 : Int32), sI_ (3 : Int32), sI_ h1, sI_ h2, sI_ h3, sJ_ wt, sS_, sR_ lx, sR_ tx, sI_ (3 : Int32), sI_ (0 : Int32)] [(.int (3 : Int32)), (.ref tx)]))) (fun t kt => ?_) ?_
        · skip
          refine XS.ifYes X.here hx rfl (pc0 := 267) (pc' := 274) rfl (hb hby at_267) rfl (XT.i0_eq_t cc0) (by decide) (by decide) ?_
          refine XS.iconst X.here hx rfl (hb hby at_274) ?_
          refine XS.istore X.here hx rfl (hb hby at_275) rfl (l' := #[sI_ q0, sI_ q1, sI_ q2, sI_ q3, sJ_ qw, sS_, sI_ (4 : Int32), sI_ (1 : Int32), sI_ (2 : Int32), sI_ (3 : Int32), sI_ h1, sI_ h2, sI_ h3, sJ_ wt, sS_, sR_ lx, sR_ tx, sI_ (3 : Int32), sI_ (0 : Int32)]) rfl ?_
          refine XS.aload X.here hx rfl (hb hby at_277) rfl rfl ?_
          refine XS.iload X.here hx rfl (hb hby at_279) rfl ?_
          exact kt
        obtain ⟨v_24, T_24, L_24, X_24, q_24, st_24⟩ := callVirtual X hx hZ (y := (⟨"com/example/copse/copse/HangingTree", "contains", "(I)Z"⟩ : MethodName)) (z := (⟨"com/example/copse/copse/HangingTree", "contains", "(I)Z"⟩ : MethodName)) (W := 0) hown (wdOf hw 221 rfl) (wdOf hw 222 rfl) (notFace_of_selects (args := #[]) (mvT hZ (wdOf hw 224 rfl))) (wdOf hw 224 rfl) (wdOf hw 223 rfl) (wdOf hw 67 rfl) (wdOf hw 225 rfl) (by decide) (rm_ct3 l Z a0 hw [] tx la (4 : Int32) v0 v1 v2 v3 v4 h n0 sz0 HT0 R3) (by decide) (by decide) (by decide) (by decide) eT (HTr.exa HT0) (g := (mkF m 281 #[sI_ q0, sI_ q1, sI_ q2, sI_ q3, sJ_ qw, sS_, sI_ (4 : Int32), sI_ (1 : Int32), sI_ (2 : Int32), sI_ (3 : Int32), sI_ h1, sI_ h2, sI_ h3, sJ_ wt, sS_, sR_ lx, sR_ tx, sI_ (3 : Int32), sI_ (0 : Int32)] [(.int (3 : Int32)), (.ref tx)])) rfl (by rw [hml]; rfl) (argsL := [(.int (3 : Int32))]) (rest := []) (lenOf pd_12 rfl) rfl rfl (Nat.le_refl _) (hb hby at_281)
        obtain ⟨z_24, rfl, n_24, K_24, hz_24⟩ := q_24
        have N_24 := Fr.app N n_24
        refine Goes.go (U' := (T_24.setTop (mkF m 284 #[sI_ q0, sI_ q1, sI_ q2, sI_ q3, sJ_ qw, sS_, sI_ (4 : Int32), sI_ (1 : Int32), sI_ (2 : Int32), sI_ (3 : Int32), sI_ h1, sI_ h2, sI_ h3, sJ_ wt, sS_, sR_ lx, sR_ tx, sI_ (3 : Int32), sI_ (0 : Int32)] [(.int z_24)]))) st_24 ?_
        obtain rfl : z_24 = (0 : Int32) := by
          rcases hz_24 with ⟨ez, hz⟩ | ⟨ez, hz⟩
          · exact absurd hz (by rw [A3]; simp [cc0])
          · exact ez
        refine Goes.go (U' := (T_24.setTop (mkF m 294 #[sI_ q0, sI_ q1, sI_ q2, sI_ q3, sJ_ qw, sS_, sI_ (4 : Int32), sI_ (1 : Int32), sI_ (2 : Int32), sI_ (3 : Int32), sI_ h1, sI_ h2, sI_ h3, sJ_ wt, sS_, sR_ lx, sR_ tx, sI_ (3 : Int32), sI_ (0 : Int32)] [(.int (1 : Int32))]))) (fun t kt => ?_) ?_
        · skip
          refine XS.iload X_24.here hx rfl (hb hby at_284) rfl ?_
          refine XS.icmpNo X_24.here hx rfl (hb hby at_286) rfl (XT.ii_ne_f (by decide)) ?_
          refine XS.iconst X_24.here hx rfl (hb hby at_289) ?_
          refine XS.goto X_24.here hx rfl (pc0 := 290) (pc' := 294) rfl (hb hby at_290) (by decide) (by decide) ?_
          exact kt
        refine Goes.retB X_24 hx hlk hret (hb hby at_294) (by decide) (by decide) ?_
        try rw [K_24]
        exact ⟨rfl, N_24⟩
      · -- not h3 = 0
        refine Goes.go (U' := (T.setTop (mkF m 281 #[sI_ q0, sI_ q1, sI_ q2, sI_ q3, sJ_ qw, sS_, sI_ (4 : Int32), sI_ (1 : Int32), sI_ (2 : Int32), sI_ (3 : Int32), sI_ h1, sI_ h2, sI_ h3, sJ_ wt, sS_, sR_ lx, sR_ tx, sI_ (3 : Int32), sI_ (1 : Int32)] [(.int (3 : Int32)), (.ref tx)]))) (fun t kt => ?_) ?_
        · skip
          refine XS.ifNo X.here hx rfl (hb hby at_267) rfl (XT.i0_eq_f cc0) ?_
          refine XS.iconst X.here hx rfl (hb hby at_270) ?_
          refine XS.goto X.here hx rfl (pc0 := 271) (pc' := 275) rfl (hb hby at_271) (by decide) (by decide) ?_
          refine XS.istore X.here hx rfl (hb hby at_275) rfl (l' := #[sI_ q0, sI_ q1, sI_ q2, sI_ q3, sJ_ qw, sS_, sI_ (4 : Int32), sI_ (1 : Int32), sI_ (2 : Int32), sI_ (3 : Int32), sI_ h1, sI_ h2, sI_ h3, sJ_ wt, sS_, sR_ lx, sR_ tx, sI_ (3 : Int32), sI_ (1 : Int32)]) rfl ?_
          refine XS.aload X.here hx rfl (hb hby at_277) rfl rfl ?_
          refine XS.iload X.here hx rfl (hb hby at_279) rfl ?_
          exact kt
        obtain ⟨v_25, T_25, L_25, X_25, q_25, st_25⟩ := callVirtual X hx hZ (y := (⟨"com/example/copse/copse/HangingTree", "contains", "(I)Z"⟩ : MethodName)) (z := (⟨"com/example/copse/copse/HangingTree", "contains", "(I)Z"⟩ : MethodName)) (W := 0) hown (wdOf hw 221 rfl) (wdOf hw 222 rfl) (notFace_of_selects (args := #[]) (mvT hZ (wdOf hw 224 rfl))) (wdOf hw 224 rfl) (wdOf hw 223 rfl) (wdOf hw 67 rfl) (wdOf hw 225 rfl) (by decide) (rm_ct3 l Z a0 hw [] tx la (4 : Int32) v0 v1 v2 v3 v4 h n0 sz0 HT0 R3) (by decide) (by decide) (by decide) (by decide) eT (HTr.exa HT0) (g := (mkF m 281 #[sI_ q0, sI_ q1, sI_ q2, sI_ q3, sJ_ qw, sS_, sI_ (4 : Int32), sI_ (1 : Int32), sI_ (2 : Int32), sI_ (3 : Int32), sI_ h1, sI_ h2, sI_ h3, sJ_ wt, sS_, sR_ lx, sR_ tx, sI_ (3 : Int32), sI_ (1 : Int32)] [(.int (3 : Int32)), (.ref tx)])) rfl (by rw [hml]; rfl) (argsL := [(.int (3 : Int32))]) (rest := []) (lenOf pd_12 rfl) rfl rfl (Nat.le_refl _) (hb hby at_281)
        obtain ⟨z_25, rfl, n_25, K_25, hz_25⟩ := q_25
        have N_25 := Fr.app N n_25
        refine Goes.go (U' := (T_25.setTop (mkF m 284 #[sI_ q0, sI_ q1, sI_ q2, sI_ q3, sJ_ qw, sS_, sI_ (4 : Int32), sI_ (1 : Int32), sI_ (2 : Int32), sI_ (3 : Int32), sI_ h1, sI_ h2, sI_ h3, sJ_ wt, sS_, sR_ lx, sR_ tx, sI_ (3 : Int32), sI_ (1 : Int32)] [(.int z_25)]))) st_25 ?_
        obtain rfl : z_25 = (1 : Int32) := by
          rcases hz_25 with ⟨ez, hz⟩ | ⟨ez, hz⟩
          · exact ez
          · exact absurd hz (by rw [A3]; simp [cc0])
        refine Goes.go (U' := (T_25.setTop (mkF m 294 #[sI_ q0, sI_ q1, sI_ q2, sI_ q3, sJ_ qw, sS_, sI_ (4 : Int32), sI_ (1 : Int32), sI_ (2 : Int32), sI_ (3 : Int32), sI_ h1, sI_ h2, sI_ h3, sJ_ wt, sS_, sR_ lx, sR_ tx, sI_ (3 : Int32), sI_ (1 : Int32)] [(.int (1 : Int32))]))) (fun t kt => ?_) ?_
        · skip
          refine XS.iload X_25.here hx rfl (hb hby at_284) rfl ?_
          refine XS.icmpNo X_25.here hx rfl (hb hby at_286) rfl (XT.ii_ne_f (by decide)) ?_
          refine XS.iconst X_25.here hx rfl (hb hby at_289) ?_
          refine XS.goto X_25.here hx rfl (pc0 := 290) (pc' := 294) rfl (hb hby at_290) (by decide) (by decide) ?_
          exact kt
        refine Goes.retB X_25 hx hlk hret (hb hby at_294) (by decide) (by decide) ?_
        try rw [K_25]
        exact ⟨rfl, N_25⟩
  · -- q = 4
    rw [hq]
    rcases RT with ⟨rfl, rfl, rfl, rfl⟩ | ⟨rfl, rfl, rfl, rfl⟩ | ⟨rfl, rfl, rfl, rfl⟩ | ⟨rfl, rfl, rfl, rfl⟩
    · -- r = 1
      refine Goes.go (U' := (T.setTop (mkF m 267 #[sI_ q0, sI_ q1, sI_ q2, sI_ q3, sJ_ qw, sS_, sI_ (1 : Int32), sI_ (2 : Int32), sI_ (3 : Int32), sI_ (4 : Int32), sI_ h1, sI_ h2, sI_ h3, sJ_ wt, sS_, sR_ lx, sR_ tx, sI_ (4 : Int32), sU_] [(.int h3)]))) (fun t kt => ?_) ?_
      · skip
        refine XS.iload X.here hx rfl (hb hby at_227) rfl ?_
        refine XS.iload X.here hx rfl (hb hby at_229) rfl ?_
        refine XS.icmpNo X.here hx rfl (hb hby at_231) rfl (XT.ii_eq_f (by decide)) ?_
        refine XS.iload X.here hx rfl (hb hby at_234) rfl ?_
        refine XS.iload X.here hx rfl (hb hby at_236) rfl ?_
        refine XS.icmpYes X.here hx rfl (pc0 := 238) (pc' := 246) rfl (hb hby at_238) rfl (XT.ii_ne_t (by decide)) (by decide) (by decide) ?_
        refine XS.iload X.here hx rfl (hb hby at_246) rfl ?_
        refine XS.iload X.here hx rfl (hb hby at_248) rfl ?_
        show Steps p.tables e below (T.setTop (mkF m 250 #[sI_ q0, sI_ q1, sI_ q2, sI_ q3, sJ_ qw, sS_, sI_ (1 : Int32), sI_ (2 : Int32), sI_ (3 : Int32), sI_ (4 : Int32), sI_ h1, sI_ h2, sI_ h3, sJ_ wt, sS_, sR_ lx, sR_ tx, sI_ (4 : Int32), sU_] [(.int (3 : Int32)), (.int (4 : Int32))])) t
        refine XS.icmpYes X.here hx rfl (pc0 := 250) (pc' := 258) rfl (hb hby at_250) rfl (XT.ii_ne_t (by decide)) (by decide) (by decide) ?_
        refine XS.iload X.here hx rfl (hb hby at_258) rfl ?_
        refine XS.iload X.here hx rfl (hb hby at_260) rfl ?_
        refine XS.icmpNo X.here hx rfl (hb hby at_262) rfl (XT.ii_ne_f (by decide)) ?_
        refine XS.iload X.here hx rfl (hb hby at_265) rfl ?_
        exact kt
      by_cases cc0 : h3 = 0
      · -- h3 = 0
        refine Goes.go (U' := (T.setTop (mkF m 281 #[sI_ q0, sI_ q1, sI_ q2, sI_ q3, sJ_ qw, sS_, sI_ (1 : Int32), sI_ (2 : Int32), sI_ (3 : Int32), sI_ (4 : Int32), sI_ h1, sI_ h2, sI_ h3, sJ_ wt, sS_, sR_ lx, sR_ tx, sI_ (4 : Int32), sI_ (0 : Int32)] [(.int (4 : Int32)), (.ref tx)]))) (fun t kt => ?_) ?_
        · skip
          refine XS.ifYes X.here hx rfl (pc0 := 267) (pc' := 274) rfl (hb hby at_267) rfl (XT.i0_eq_t cc0) (by decide) (by decide) ?_
          refine XS.iconst X.here hx rfl (hb hby at_274) ?_
          refine XS.istore X.here hx rfl (hb hby at_275) rfl (l' := #[sI_ q0, sI_ q1, sI_ q2, sI_ q3, sJ_ qw, sS_, sI_ (1 : Int32), sI_ (2 : Int32), sI_ (3 : Int32), sI_ (4 : Int32), sI_ h1, sI_ h2, sI_ h3, sJ_ wt, sS_, sR_ lx, sR_ tx, sI_ (4 : Int32), sI_ (0 : Int32)]) rfl ?_
          refine XS.aload X.here hx rfl (hb hby at_277) rfl rfl ?_
          refine XS.iload X.here hx rfl (hb hby at_279) rfl ?_
          exact kt
        obtain ⟨v_26, T_26, L_26, X_26, q_26, st_26⟩ := callVirtual X hx hZ (y := (⟨"com/example/copse/copse/HangingTree", "contains", "(I)Z"⟩ : MethodName)) (z := (⟨"com/example/copse/copse/HangingTree", "contains", "(I)Z"⟩ : MethodName)) (W := 0) hown (wdOf hw 221 rfl) (wdOf hw 222 rfl) (notFace_of_selects (args := #[]) (mvT hZ (wdOf hw 224 rfl))) (wdOf hw 224 rfl) (wdOf hw 223 rfl) (wdOf hw 67 rfl) (wdOf hw 225 rfl) (by decide) (rm_ct4 l Z a0 hw [] tx la (1 : Int32) v0 v1 v2 v3 v4 h n0 sz0 HT0 R4) (by decide) (by decide) (by decide) (by decide) eT (HTr.exa HT0) (g := (mkF m 281 #[sI_ q0, sI_ q1, sI_ q2, sI_ q3, sJ_ qw, sS_, sI_ (1 : Int32), sI_ (2 : Int32), sI_ (3 : Int32), sI_ (4 : Int32), sI_ h1, sI_ h2, sI_ h3, sJ_ wt, sS_, sR_ lx, sR_ tx, sI_ (4 : Int32), sI_ (0 : Int32)] [(.int (4 : Int32)), (.ref tx)])) rfl (by rw [hml]; rfl) (argsL := [(.int (4 : Int32))]) (rest := []) (lenOf pd_12 rfl) rfl rfl (Nat.le_refl _) (hb hby at_281)
        obtain ⟨z_26, rfl, n_26, K_26, hz_26⟩ := q_26
        have N_26 := Fr.app N n_26
        refine Goes.go (U' := (T_26.setTop (mkF m 284 #[sI_ q0, sI_ q1, sI_ q2, sI_ q3, sJ_ qw, sS_, sI_ (1 : Int32), sI_ (2 : Int32), sI_ (3 : Int32), sI_ (4 : Int32), sI_ h1, sI_ h2, sI_ h3, sJ_ wt, sS_, sR_ lx, sR_ tx, sI_ (4 : Int32), sI_ (0 : Int32)] [(.int z_26)]))) st_26 ?_
        obtain rfl : z_26 = (0 : Int32) := by
          rcases hz_26 with ⟨ez, hz⟩ | ⟨ez, hz⟩
          · exact absurd hz (by rw [A4]; simp [cc0])
          · exact ez
        refine Goes.go (U' := (T_26.setTop (mkF m 294 #[sI_ q0, sI_ q1, sI_ q2, sI_ q3, sJ_ qw, sS_, sI_ (1 : Int32), sI_ (2 : Int32), sI_ (3 : Int32), sI_ (4 : Int32), sI_ h1, sI_ h2, sI_ h3, sJ_ wt, sS_, sR_ lx, sR_ tx, sI_ (4 : Int32), sI_ (0 : Int32)] [(.int (1 : Int32))]))) (fun t kt => ?_) ?_
        · skip
          refine XS.iload X_26.here hx rfl (hb hby at_284) rfl ?_
          refine XS.icmpNo X_26.here hx rfl (hb hby at_286) rfl (XT.ii_ne_f (by decide)) ?_
          refine XS.iconst X_26.here hx rfl (hb hby at_289) ?_
          refine XS.goto X_26.here hx rfl (pc0 := 290) (pc' := 294) rfl (hb hby at_290) (by decide) (by decide) ?_
          exact kt
        refine Goes.retB X_26 hx hlk hret (hb hby at_294) (by decide) (by decide) ?_
        try rw [K_26]
        exact ⟨rfl, N_26⟩
      · -- not h3 = 0
        refine Goes.go (U' := (T.setTop (mkF m 281 #[sI_ q0, sI_ q1, sI_ q2, sI_ q3, sJ_ qw, sS_, sI_ (1 : Int32), sI_ (2 : Int32), sI_ (3 : Int32), sI_ (4 : Int32), sI_ h1, sI_ h2, sI_ h3, sJ_ wt, sS_, sR_ lx, sR_ tx, sI_ (4 : Int32), sI_ (1 : Int32)] [(.int (4 : Int32)), (.ref tx)]))) (fun t kt => ?_) ?_
        · skip
          refine XS.ifNo X.here hx rfl (hb hby at_267) rfl (XT.i0_eq_f cc0) ?_
          refine XS.iconst X.here hx rfl (hb hby at_270) ?_
          refine XS.goto X.here hx rfl (pc0 := 271) (pc' := 275) rfl (hb hby at_271) (by decide) (by decide) ?_
          refine XS.istore X.here hx rfl (hb hby at_275) rfl (l' := #[sI_ q0, sI_ q1, sI_ q2, sI_ q3, sJ_ qw, sS_, sI_ (1 : Int32), sI_ (2 : Int32), sI_ (3 : Int32), sI_ (4 : Int32), sI_ h1, sI_ h2, sI_ h3, sJ_ wt, sS_, sR_ lx, sR_ tx, sI_ (4 : Int32), sI_ (1 : Int32)]) rfl ?_
          refine XS.aload X.here hx rfl (hb hby at_277) rfl rfl ?_
          refine XS.iload X.here hx rfl (hb hby at_279) rfl ?_
          exact kt
        obtain ⟨v_27, T_27, L_27, X_27, q_27, st_27⟩ := callVirtual X hx hZ (y := (⟨"com/example/copse/copse/HangingTree", "contains", "(I)Z"⟩ : MethodName)) (z := (⟨"com/example/copse/copse/HangingTree", "contains", "(I)Z"⟩ : MethodName)) (W := 0) hown (wdOf hw 221 rfl) (wdOf hw 222 rfl) (notFace_of_selects (args := #[]) (mvT hZ (wdOf hw 224 rfl))) (wdOf hw 224 rfl) (wdOf hw 223 rfl) (wdOf hw 67 rfl) (wdOf hw 225 rfl) (by decide) (rm_ct4 l Z a0 hw [] tx la (1 : Int32) v0 v1 v2 v3 v4 h n0 sz0 HT0 R4) (by decide) (by decide) (by decide) (by decide) eT (HTr.exa HT0) (g := (mkF m 281 #[sI_ q0, sI_ q1, sI_ q2, sI_ q3, sJ_ qw, sS_, sI_ (1 : Int32), sI_ (2 : Int32), sI_ (3 : Int32), sI_ (4 : Int32), sI_ h1, sI_ h2, sI_ h3, sJ_ wt, sS_, sR_ lx, sR_ tx, sI_ (4 : Int32), sI_ (1 : Int32)] [(.int (4 : Int32)), (.ref tx)])) rfl (by rw [hml]; rfl) (argsL := [(.int (4 : Int32))]) (rest := []) (lenOf pd_12 rfl) rfl rfl (Nat.le_refl _) (hb hby at_281)
        obtain ⟨z_27, rfl, n_27, K_27, hz_27⟩ := q_27
        have N_27 := Fr.app N n_27
        refine Goes.go (U' := (T_27.setTop (mkF m 284 #[sI_ q0, sI_ q1, sI_ q2, sI_ q3, sJ_ qw, sS_, sI_ (1 : Int32), sI_ (2 : Int32), sI_ (3 : Int32), sI_ (4 : Int32), sI_ h1, sI_ h2, sI_ h3, sJ_ wt, sS_, sR_ lx, sR_ tx, sI_ (4 : Int32), sI_ (1 : Int32)] [(.int z_27)]))) st_27 ?_
        obtain rfl : z_27 = (1 : Int32) := by
          rcases hz_27 with ⟨ez, hz⟩ | ⟨ez, hz⟩
          · exact ez
          · exact absurd hz (by rw [A4]; simp [cc0])
        refine Goes.go (U' := (T_27.setTop (mkF m 294 #[sI_ q0, sI_ q1, sI_ q2, sI_ q3, sJ_ qw, sS_, sI_ (1 : Int32), sI_ (2 : Int32), sI_ (3 : Int32), sI_ (4 : Int32), sI_ h1, sI_ h2, sI_ h3, sJ_ wt, sS_, sR_ lx, sR_ tx, sI_ (4 : Int32), sI_ (1 : Int32)] [(.int (1 : Int32))]))) (fun t kt => ?_) ?_
        · skip
          refine XS.iload X_27.here hx rfl (hb hby at_284) rfl ?_
          refine XS.icmpNo X_27.here hx rfl (hb hby at_286) rfl (XT.ii_ne_f (by decide)) ?_
          refine XS.iconst X_27.here hx rfl (hb hby at_289) ?_
          refine XS.goto X_27.here hx rfl (pc0 := 290) (pc' := 294) rfl (hb hby at_290) (by decide) (by decide) ?_
          exact kt
        refine Goes.retB X_27 hx hlk hret (hb hby at_294) (by decide) (by decide) ?_
        try rw [K_27]
        exact ⟨rfl, N_27⟩
    · -- r = 2
      refine Goes.go (U' := (T.setTop (mkF m 267 #[sI_ q0, sI_ q1, sI_ q2, sI_ q3, sJ_ qw, sS_, sI_ (2 : Int32), sI_ (1 : Int32), sI_ (3 : Int32), sI_ (4 : Int32), sI_ h1, sI_ h2, sI_ h3, sJ_ wt, sS_, sR_ lx, sR_ tx, sI_ (4 : Int32), sU_] [(.int h3)]))) (fun t kt => ?_) ?_
      · skip
        refine XS.iload X.here hx rfl (hb hby at_227) rfl ?_
        refine XS.iload X.here hx rfl (hb hby at_229) rfl ?_
        refine XS.icmpNo X.here hx rfl (hb hby at_231) rfl (XT.ii_eq_f (by decide)) ?_
        refine XS.iload X.here hx rfl (hb hby at_234) rfl ?_
        refine XS.iload X.here hx rfl (hb hby at_236) rfl ?_
        refine XS.icmpYes X.here hx rfl (pc0 := 238) (pc' := 246) rfl (hb hby at_238) rfl (XT.ii_ne_t (by decide)) (by decide) (by decide) ?_
        refine XS.iload X.here hx rfl (hb hby at_246) rfl ?_
        refine XS.iload X.here hx rfl (hb hby at_248) rfl ?_
        show Steps p.tables e below (T.setTop (mkF m 250 #[sI_ q0, sI_ q1, sI_ q2, sI_ q3, sJ_ qw, sS_, sI_ (2 : Int32), sI_ (1 : Int32), sI_ (3 : Int32), sI_ (4 : Int32), sI_ h1, sI_ h2, sI_ h3, sJ_ wt, sS_, sR_ lx, sR_ tx, sI_ (4 : Int32), sU_] [(.int (3 : Int32)), (.int (4 : Int32))])) t
        refine XS.icmpYes X.here hx rfl (pc0 := 250) (pc' := 258) rfl (hb hby at_250) rfl (XT.ii_ne_t (by decide)) (by decide) (by decide) ?_
        refine XS.iload X.here hx rfl (hb hby at_258) rfl ?_
        refine XS.iload X.here hx rfl (hb hby at_260) rfl ?_
        refine XS.icmpNo X.here hx rfl (hb hby at_262) rfl (XT.ii_ne_f (by decide)) ?_
        refine XS.iload X.here hx rfl (hb hby at_265) rfl ?_
        exact kt
      by_cases cc0 : h3 = 0
      · -- h3 = 0
        refine Goes.go (U' := (T.setTop (mkF m 281 #[sI_ q0, sI_ q1, sI_ q2, sI_ q3, sJ_ qw, sS_, sI_ (2 : Int32), sI_ (1 : Int32), sI_ (3 : Int32), sI_ (4 : Int32), sI_ h1, sI_ h2, sI_ h3, sJ_ wt, sS_, sR_ lx, sR_ tx, sI_ (4 : Int32), sI_ (0 : Int32)] [(.int (4 : Int32)), (.ref tx)]))) (fun t kt => ?_) ?_
        · skip
          refine XS.ifYes X.here hx rfl (pc0 := 267) (pc' := 274) rfl (hb hby at_267) rfl (XT.i0_eq_t cc0) (by decide) (by decide) ?_
          refine XS.iconst X.here hx rfl (hb hby at_274) ?_
          refine XS.istore X.here hx rfl (hb hby at_275) rfl (l' := #[sI_ q0, sI_ q1, sI_ q2, sI_ q3, sJ_ qw, sS_, sI_ (2 : Int32), sI_ (1 : Int32), sI_ (3 : Int32), sI_ (4 : Int32), sI_ h1, sI_ h2, sI_ h3, sJ_ wt, sS_, sR_ lx, sR_ tx, sI_ (4 : Int32), sI_ (0 : Int32)]) rfl ?_
          refine XS.aload X.here hx rfl (hb hby at_277) rfl rfl ?_
          refine XS.iload X.here hx rfl (hb hby at_279) rfl ?_
          exact kt
        obtain ⟨v_28, T_28, L_28, X_28, q_28, st_28⟩ := callVirtual X hx hZ (y := (⟨"com/example/copse/copse/HangingTree", "contains", "(I)Z"⟩ : MethodName)) (z := (⟨"com/example/copse/copse/HangingTree", "contains", "(I)Z"⟩ : MethodName)) (W := 0) hown (wdOf hw 221 rfl) (wdOf hw 222 rfl) (notFace_of_selects (args := #[]) (mvT hZ (wdOf hw 224 rfl))) (wdOf hw 224 rfl) (wdOf hw 223 rfl) (wdOf hw 67 rfl) (wdOf hw 225 rfl) (by decide) (rm_ct4 l Z a0 hw [] tx la (2 : Int32) v0 v1 v2 v3 v4 h n0 sz0 HT0 R4) (by decide) (by decide) (by decide) (by decide) eT (HTr.exa HT0) (g := (mkF m 281 #[sI_ q0, sI_ q1, sI_ q2, sI_ q3, sJ_ qw, sS_, sI_ (2 : Int32), sI_ (1 : Int32), sI_ (3 : Int32), sI_ (4 : Int32), sI_ h1, sI_ h2, sI_ h3, sJ_ wt, sS_, sR_ lx, sR_ tx, sI_ (4 : Int32), sI_ (0 : Int32)] [(.int (4 : Int32)), (.ref tx)])) rfl (by rw [hml]; rfl) (argsL := [(.int (4 : Int32))]) (rest := []) (lenOf pd_12 rfl) rfl rfl (Nat.le_refl _) (hb hby at_281)
        obtain ⟨z_28, rfl, n_28, K_28, hz_28⟩ := q_28
        have N_28 := Fr.app N n_28
        refine Goes.go (U' := (T_28.setTop (mkF m 284 #[sI_ q0, sI_ q1, sI_ q2, sI_ q3, sJ_ qw, sS_, sI_ (2 : Int32), sI_ (1 : Int32), sI_ (3 : Int32), sI_ (4 : Int32), sI_ h1, sI_ h2, sI_ h3, sJ_ wt, sS_, sR_ lx, sR_ tx, sI_ (4 : Int32), sI_ (0 : Int32)] [(.int z_28)]))) st_28 ?_
        obtain rfl : z_28 = (0 : Int32) := by
          rcases hz_28 with ⟨ez, hz⟩ | ⟨ez, hz⟩
          · exact absurd hz (by rw [A4]; simp [cc0])
          · exact ez
        refine Goes.go (U' := (T_28.setTop (mkF m 294 #[sI_ q0, sI_ q1, sI_ q2, sI_ q3, sJ_ qw, sS_, sI_ (2 : Int32), sI_ (1 : Int32), sI_ (3 : Int32), sI_ (4 : Int32), sI_ h1, sI_ h2, sI_ h3, sJ_ wt, sS_, sR_ lx, sR_ tx, sI_ (4 : Int32), sI_ (0 : Int32)] [(.int (1 : Int32))]))) (fun t kt => ?_) ?_
        · skip
          refine XS.iload X_28.here hx rfl (hb hby at_284) rfl ?_
          refine XS.icmpNo X_28.here hx rfl (hb hby at_286) rfl (XT.ii_ne_f (by decide)) ?_
          refine XS.iconst X_28.here hx rfl (hb hby at_289) ?_
          refine XS.goto X_28.here hx rfl (pc0 := 290) (pc' := 294) rfl (hb hby at_290) (by decide) (by decide) ?_
          exact kt
        refine Goes.retB X_28 hx hlk hret (hb hby at_294) (by decide) (by decide) ?_
        try rw [K_28]
        exact ⟨rfl, N_28⟩
      · -- not h3 = 0
        refine Goes.go (U' := (T.setTop (mkF m 281 #[sI_ q0, sI_ q1, sI_ q2, sI_ q3, sJ_ qw, sS_, sI_ (2 : Int32), sI_ (1 : Int32), sI_ (3 : Int32), sI_ (4 : Int32), sI_ h1, sI_ h2, sI_ h3, sJ_ wt, sS_, sR_ lx, sR_ tx, sI_ (4 : Int32), sI_ (1 : Int32)] [(.int (4 : Int32)), (.ref tx)]))) (fun t kt => ?_) ?_
        · skip
          refine XS.ifNo X.here hx rfl (hb hby at_267) rfl (XT.i0_eq_f cc0) ?_
          refine XS.iconst X.here hx rfl (hb hby at_270) ?_
          refine XS.goto X.here hx rfl (pc0 := 271) (pc' := 275) rfl (hb hby at_271) (by decide) (by decide) ?_
          refine XS.istore X.here hx rfl (hb hby at_275) rfl (l' := #[sI_ q0, sI_ q1, sI_ q2, sI_ q3, sJ_ qw, sS_, sI_ (2 : Int32), sI_ (1 : Int32), sI_ (3 : Int32), sI_ (4 : Int32), sI_ h1, sI_ h2, sI_ h3, sJ_ wt, sS_, sR_ lx, sR_ tx, sI_ (4 : Int32), sI_ (1 : Int32)]) rfl ?_
          refine XS.aload X.here hx rfl (hb hby at_277) rfl rfl ?_
          refine XS.iload X.here hx rfl (hb hby at_279) rfl ?_
          exact kt
        obtain ⟨v_29, T_29, L_29, X_29, q_29, st_29⟩ := callVirtual X hx hZ (y := (⟨"com/example/copse/copse/HangingTree", "contains", "(I)Z"⟩ : MethodName)) (z := (⟨"com/example/copse/copse/HangingTree", "contains", "(I)Z"⟩ : MethodName)) (W := 0) hown (wdOf hw 221 rfl) (wdOf hw 222 rfl) (notFace_of_selects (args := #[]) (mvT hZ (wdOf hw 224 rfl))) (wdOf hw 224 rfl) (wdOf hw 223 rfl) (wdOf hw 67 rfl) (wdOf hw 225 rfl) (by decide) (rm_ct4 l Z a0 hw [] tx la (2 : Int32) v0 v1 v2 v3 v4 h n0 sz0 HT0 R4) (by decide) (by decide) (by decide) (by decide) eT (HTr.exa HT0) (g := (mkF m 281 #[sI_ q0, sI_ q1, sI_ q2, sI_ q3, sJ_ qw, sS_, sI_ (2 : Int32), sI_ (1 : Int32), sI_ (3 : Int32), sI_ (4 : Int32), sI_ h1, sI_ h2, sI_ h3, sJ_ wt, sS_, sR_ lx, sR_ tx, sI_ (4 : Int32), sI_ (1 : Int32)] [(.int (4 : Int32)), (.ref tx)])) rfl (by rw [hml]; rfl) (argsL := [(.int (4 : Int32))]) (rest := []) (lenOf pd_12 rfl) rfl rfl (Nat.le_refl _) (hb hby at_281)
        obtain ⟨z_29, rfl, n_29, K_29, hz_29⟩ := q_29
        have N_29 := Fr.app N n_29
        refine Goes.go (U' := (T_29.setTop (mkF m 284 #[sI_ q0, sI_ q1, sI_ q2, sI_ q3, sJ_ qw, sS_, sI_ (2 : Int32), sI_ (1 : Int32), sI_ (3 : Int32), sI_ (4 : Int32), sI_ h1, sI_ h2, sI_ h3, sJ_ wt, sS_, sR_ lx, sR_ tx, sI_ (4 : Int32), sI_ (1 : Int32)] [(.int z_29)]))) st_29 ?_
        obtain rfl : z_29 = (1 : Int32) := by
          rcases hz_29 with ⟨ez, hz⟩ | ⟨ez, hz⟩
          · exact ez
          · exact absurd hz (by rw [A4]; simp [cc0])
        refine Goes.go (U' := (T_29.setTop (mkF m 294 #[sI_ q0, sI_ q1, sI_ q2, sI_ q3, sJ_ qw, sS_, sI_ (2 : Int32), sI_ (1 : Int32), sI_ (3 : Int32), sI_ (4 : Int32), sI_ h1, sI_ h2, sI_ h3, sJ_ wt, sS_, sR_ lx, sR_ tx, sI_ (4 : Int32), sI_ (1 : Int32)] [(.int (1 : Int32))]))) (fun t kt => ?_) ?_
        · skip
          refine XS.iload X_29.here hx rfl (hb hby at_284) rfl ?_
          refine XS.icmpNo X_29.here hx rfl (hb hby at_286) rfl (XT.ii_ne_f (by decide)) ?_
          refine XS.iconst X_29.here hx rfl (hb hby at_289) ?_
          refine XS.goto X_29.here hx rfl (pc0 := 290) (pc' := 294) rfl (hb hby at_290) (by decide) (by decide) ?_
          exact kt
        refine Goes.retB X_29 hx hlk hret (hb hby at_294) (by decide) (by decide) ?_
        try rw [K_29]
        exact ⟨rfl, N_29⟩
    · -- r = 3
      refine Goes.go (U' := (T.setTop (mkF m 267 #[sI_ q0, sI_ q1, sI_ q2, sI_ q3, sJ_ qw, sS_, sI_ (3 : Int32), sI_ (1 : Int32), sI_ (2 : Int32), sI_ (4 : Int32), sI_ h1, sI_ h2, sI_ h3, sJ_ wt, sS_, sR_ lx, sR_ tx, sI_ (4 : Int32), sU_] [(.int h3)]))) (fun t kt => ?_) ?_
      · skip
        refine XS.iload X.here hx rfl (hb hby at_227) rfl ?_
        refine XS.iload X.here hx rfl (hb hby at_229) rfl ?_
        refine XS.icmpNo X.here hx rfl (hb hby at_231) rfl (XT.ii_eq_f (by decide)) ?_
        refine XS.iload X.here hx rfl (hb hby at_234) rfl ?_
        refine XS.iload X.here hx rfl (hb hby at_236) rfl ?_
        refine XS.icmpYes X.here hx rfl (pc0 := 238) (pc' := 246) rfl (hb hby at_238) rfl (XT.ii_ne_t (by decide)) (by decide) (by decide) ?_
        refine XS.iload X.here hx rfl (hb hby at_246) rfl ?_
        refine XS.iload X.here hx rfl (hb hby at_248) rfl ?_
        show Steps p.tables e below (T.setTop (mkF m 250 #[sI_ q0, sI_ q1, sI_ q2, sI_ q3, sJ_ qw, sS_, sI_ (3 : Int32), sI_ (1 : Int32), sI_ (2 : Int32), sI_ (4 : Int32), sI_ h1, sI_ h2, sI_ h3, sJ_ wt, sS_, sR_ lx, sR_ tx, sI_ (4 : Int32), sU_] [(.int (2 : Int32)), (.int (4 : Int32))])) t
        refine XS.icmpYes X.here hx rfl (pc0 := 250) (pc' := 258) rfl (hb hby at_250) rfl (XT.ii_ne_t (by decide)) (by decide) (by decide) ?_
        refine XS.iload X.here hx rfl (hb hby at_258) rfl ?_
        refine XS.iload X.here hx rfl (hb hby at_260) rfl ?_
        refine XS.icmpNo X.here hx rfl (hb hby at_262) rfl (XT.ii_ne_f (by decide)) ?_
        refine XS.iload X.here hx rfl (hb hby at_265) rfl ?_
        exact kt
      by_cases cc0 : h3 = 0
      · -- h3 = 0
        refine Goes.go (U' := (T.setTop (mkF m 281 #[sI_ q0, sI_ q1, sI_ q2, sI_ q3, sJ_ qw, sS_, sI_ (3 : Int32), sI_ (1 : Int32), sI_ (2 : Int32), sI_ (4 : Int32), sI_ h1, sI_ h2, sI_ h3, sJ_ wt, sS_, sR_ lx, sR_ tx, sI_ (4 : Int32), sI_ (0 : Int32)] [(.int (4 : Int32)), (.ref tx)]))) (fun t kt => ?_) ?_
        · skip
          refine XS.ifYes X.here hx rfl (pc0 := 267) (pc' := 274) rfl (hb hby at_267) rfl (XT.i0_eq_t cc0) (by decide) (by decide) ?_
          refine XS.iconst X.here hx rfl (hb hby at_274) ?_
          refine XS.istore X.here hx rfl (hb hby at_275) rfl (l' := #[sI_ q0, sI_ q1, sI_ q2, sI_ q3, sJ_ qw, sS_, sI_ (3 : Int32), sI_ (1 : Int32), sI_ (2 : Int32), sI_ (4 : Int32), sI_ h1, sI_ h2, sI_ h3, sJ_ wt, sS_, sR_ lx, sR_ tx, sI_ (4 : Int32), sI_ (0 : Int32)]) rfl ?_
          refine XS.aload X.here hx rfl (hb hby at_277) rfl rfl ?_
          refine XS.iload X.here hx rfl (hb hby at_279) rfl ?_
          exact kt
        obtain ⟨v_30, T_30, L_30, X_30, q_30, st_30⟩ := callVirtual X hx hZ (y := (⟨"com/example/copse/copse/HangingTree", "contains", "(I)Z"⟩ : MethodName)) (z := (⟨"com/example/copse/copse/HangingTree", "contains", "(I)Z"⟩ : MethodName)) (W := 0) hown (wdOf hw 221 rfl) (wdOf hw 222 rfl) (notFace_of_selects (args := #[]) (mvT hZ (wdOf hw 224 rfl))) (wdOf hw 224 rfl) (wdOf hw 223 rfl) (wdOf hw 67 rfl) (wdOf hw 225 rfl) (by decide) (rm_ct4 l Z a0 hw [] tx la (3 : Int32) v0 v1 v2 v3 v4 h n0 sz0 HT0 R4) (by decide) (by decide) (by decide) (by decide) eT (HTr.exa HT0) (g := (mkF m 281 #[sI_ q0, sI_ q1, sI_ q2, sI_ q3, sJ_ qw, sS_, sI_ (3 : Int32), sI_ (1 : Int32), sI_ (2 : Int32), sI_ (4 : Int32), sI_ h1, sI_ h2, sI_ h3, sJ_ wt, sS_, sR_ lx, sR_ tx, sI_ (4 : Int32), sI_ (0 : Int32)] [(.int (4 : Int32)), (.ref tx)])) rfl (by rw [hml]; rfl) (argsL := [(.int (4 : Int32))]) (rest := []) (lenOf pd_12 rfl) rfl rfl (Nat.le_refl _) (hb hby at_281)
        obtain ⟨z_30, rfl, n_30, K_30, hz_30⟩ := q_30
        have N_30 := Fr.app N n_30
        refine Goes.go (U' := (T_30.setTop (mkF m 284 #[sI_ q0, sI_ q1, sI_ q2, sI_ q3, sJ_ qw, sS_, sI_ (3 : Int32), sI_ (1 : Int32), sI_ (2 : Int32), sI_ (4 : Int32), sI_ h1, sI_ h2, sI_ h3, sJ_ wt, sS_, sR_ lx, sR_ tx, sI_ (4 : Int32), sI_ (0 : Int32)] [(.int z_30)]))) st_30 ?_
        obtain rfl : z_30 = (0 : Int32) := by
          rcases hz_30 with ⟨ez, hz⟩ | ⟨ez, hz⟩
          · exact absurd hz (by rw [A4]; simp [cc0])
          · exact ez
        refine Goes.go (U' := (T_30.setTop (mkF m 294 #[sI_ q0, sI_ q1, sI_ q2, sI_ q3, sJ_ qw, sS_, sI_ (3 : Int32), sI_ (1 : Int32), sI_ (2 : Int32), sI_ (4 : Int32), sI_ h1, sI_ h2, sI_ h3, sJ_ wt, sS_, sR_ lx, sR_ tx, sI_ (4 : Int32), sI_ (0 : Int32)] [(.int (1 : Int32))]))) (fun t kt => ?_) ?_
        · skip
          refine XS.iload X_30.here hx rfl (hb hby at_284) rfl ?_
          refine XS.icmpNo X_30.here hx rfl (hb hby at_286) rfl (XT.ii_ne_f (by decide)) ?_
          refine XS.iconst X_30.here hx rfl (hb hby at_289) ?_
          refine XS.goto X_30.here hx rfl (pc0 := 290) (pc' := 294) rfl (hb hby at_290) (by decide) (by decide) ?_
          exact kt
        refine Goes.retB X_30 hx hlk hret (hb hby at_294) (by decide) (by decide) ?_
        try rw [K_30]
        exact ⟨rfl, N_30⟩
      · -- not h3 = 0
        refine Goes.go (U' := (T.setTop (mkF m 281 #[sI_ q0, sI_ q1, sI_ q2, sI_ q3, sJ_ qw, sS_, sI_ (3 : Int32), sI_ (1 : Int32), sI_ (2 : Int32), sI_ (4 : Int32), sI_ h1, sI_ h2, sI_ h3, sJ_ wt, sS_, sR_ lx, sR_ tx, sI_ (4 : Int32), sI_ (1 : Int32)] [(.int (4 : Int32)), (.ref tx)]))) (fun t kt => ?_) ?_
        · skip
          refine XS.ifNo X.here hx rfl (hb hby at_267) rfl (XT.i0_eq_f cc0) ?_
          refine XS.iconst X.here hx rfl (hb hby at_270) ?_
          refine XS.goto X.here hx rfl (pc0 := 271) (pc' := 275) rfl (hb hby at_271) (by decide) (by decide) ?_
          refine XS.istore X.here hx rfl (hb hby at_275) rfl (l' := #[sI_ q0, sI_ q1, sI_ q2, sI_ q3, sJ_ qw, sS_, sI_ (3 : Int32), sI_ (1 : Int32), sI_ (2 : Int32), sI_ (4 : Int32), sI_ h1, sI_ h2, sI_ h3, sJ_ wt, sS_, sR_ lx, sR_ tx, sI_ (4 : Int32), sI_ (1 : Int32)]) rfl ?_
          refine XS.aload X.here hx rfl (hb hby at_277) rfl rfl ?_
          refine XS.iload X.here hx rfl (hb hby at_279) rfl ?_
          exact kt
        obtain ⟨v_31, T_31, L_31, X_31, q_31, st_31⟩ := callVirtual X hx hZ (y := (⟨"com/example/copse/copse/HangingTree", "contains", "(I)Z"⟩ : MethodName)) (z := (⟨"com/example/copse/copse/HangingTree", "contains", "(I)Z"⟩ : MethodName)) (W := 0) hown (wdOf hw 221 rfl) (wdOf hw 222 rfl) (notFace_of_selects (args := #[]) (mvT hZ (wdOf hw 224 rfl))) (wdOf hw 224 rfl) (wdOf hw 223 rfl) (wdOf hw 67 rfl) (wdOf hw 225 rfl) (by decide) (rm_ct4 l Z a0 hw [] tx la (3 : Int32) v0 v1 v2 v3 v4 h n0 sz0 HT0 R4) (by decide) (by decide) (by decide) (by decide) eT (HTr.exa HT0) (g := (mkF m 281 #[sI_ q0, sI_ q1, sI_ q2, sI_ q3, sJ_ qw, sS_, sI_ (3 : Int32), sI_ (1 : Int32), sI_ (2 : Int32), sI_ (4 : Int32), sI_ h1, sI_ h2, sI_ h3, sJ_ wt, sS_, sR_ lx, sR_ tx, sI_ (4 : Int32), sI_ (1 : Int32)] [(.int (4 : Int32)), (.ref tx)])) rfl (by rw [hml]; rfl) (argsL := [(.int (4 : Int32))]) (rest := []) (lenOf pd_12 rfl) rfl rfl (Nat.le_refl _) (hb hby at_281)
        obtain ⟨z_31, rfl, n_31, K_31, hz_31⟩ := q_31
        have N_31 := Fr.app N n_31
        refine Goes.go (U' := (T_31.setTop (mkF m 284 #[sI_ q0, sI_ q1, sI_ q2, sI_ q3, sJ_ qw, sS_, sI_ (3 : Int32), sI_ (1 : Int32), sI_ (2 : Int32), sI_ (4 : Int32), sI_ h1, sI_ h2, sI_ h3, sJ_ wt, sS_, sR_ lx, sR_ tx, sI_ (4 : Int32), sI_ (1 : Int32)] [(.int z_31)]))) st_31 ?_
        obtain rfl : z_31 = (1 : Int32) := by
          rcases hz_31 with ⟨ez, hz⟩ | ⟨ez, hz⟩
          · exact ez
          · exact absurd hz (by rw [A4]; simp [cc0])
        refine Goes.go (U' := (T_31.setTop (mkF m 294 #[sI_ q0, sI_ q1, sI_ q2, sI_ q3, sJ_ qw, sS_, sI_ (3 : Int32), sI_ (1 : Int32), sI_ (2 : Int32), sI_ (4 : Int32), sI_ h1, sI_ h2, sI_ h3, sJ_ wt, sS_, sR_ lx, sR_ tx, sI_ (4 : Int32), sI_ (1 : Int32)] [(.int (1 : Int32))]))) (fun t kt => ?_) ?_
        · skip
          refine XS.iload X_31.here hx rfl (hb hby at_284) rfl ?_
          refine XS.icmpNo X_31.here hx rfl (hb hby at_286) rfl (XT.ii_ne_f (by decide)) ?_
          refine XS.iconst X_31.here hx rfl (hb hby at_289) ?_
          refine XS.goto X_31.here hx rfl (pc0 := 290) (pc' := 294) rfl (hb hby at_290) (by decide) (by decide) ?_
          exact kt
        refine Goes.retB X_31 hx hlk hret (hb hby at_294) (by decide) (by decide) ?_
        try rw [K_31]
        exact ⟨rfl, N_31⟩
    · -- r = 4
      refine Goes.go (U' := (T.setTop (mkF m 281 #[sI_ q0, sI_ q1, sI_ q2, sI_ q3, sJ_ qw, sS_, sI_ (4 : Int32), sI_ (1 : Int32), sI_ (2 : Int32), sI_ (3 : Int32), sI_ h1, sI_ h2, sI_ h3, sJ_ wt, sS_, sR_ lx, sR_ tx, sI_ (4 : Int32), sI_ (1 : Int32)] [(.int (4 : Int32)), (.ref tx)]))) (fun t kt => ?_) ?_
      · skip
        refine XS.iload X.here hx rfl (hb hby at_227) rfl ?_
        refine XS.iload X.here hx rfl (hb hby at_229) rfl ?_
        refine XS.icmpYes X.here hx rfl (pc0 := 231) (pc' := 270) rfl (hb hby at_231) rfl (XT.ii_eq_t (by decide)) (by decide) (by decide) ?_
        refine XS.iconst X.here hx rfl (hb hby at_270) ?_
        refine XS.goto X.here hx rfl (pc0 := 271) (pc' := 275) rfl (hb hby at_271) (by decide) (by decide) ?_
        refine XS.istore X.here hx rfl (hb hby at_275) rfl (l' := #[sI_ q0, sI_ q1, sI_ q2, sI_ q3, sJ_ qw, sS_, sI_ (4 : Int32), sI_ (1 : Int32), sI_ (2 : Int32), sI_ (3 : Int32), sI_ h1, sI_ h2, sI_ h3, sJ_ wt, sS_, sR_ lx, sR_ tx, sI_ (4 : Int32), sI_ (1 : Int32)]) rfl ?_
        refine XS.aload X.here hx rfl (hb hby at_277) rfl rfl ?_
        refine XS.iload X.here hx rfl (hb hby at_279) rfl ?_
        exact kt
      obtain ⟨v_32, T_32, L_32, X_32, q_32, st_32⟩ := callVirtual X hx hZ (y := (⟨"com/example/copse/copse/HangingTree", "contains", "(I)Z"⟩ : MethodName)) (z := (⟨"com/example/copse/copse/HangingTree", "contains", "(I)Z"⟩ : MethodName)) (W := 0) hown (wdOf hw 221 rfl) (wdOf hw 222 rfl) (notFace_of_selects (args := #[]) (mvT hZ (wdOf hw 224 rfl))) (wdOf hw 224 rfl) (wdOf hw 223 rfl) (wdOf hw 67 rfl) (wdOf hw 225 rfl) (by decide) (rm_ct4 l Z a0 hw [] tx la (4 : Int32) v0 v1 v2 v3 v4 h n0 sz0 HT0 R4) (by decide) (by decide) (by decide) (by decide) eT (HTr.exa HT0) (g := (mkF m 281 #[sI_ q0, sI_ q1, sI_ q2, sI_ q3, sJ_ qw, sS_, sI_ (4 : Int32), sI_ (1 : Int32), sI_ (2 : Int32), sI_ (3 : Int32), sI_ h1, sI_ h2, sI_ h3, sJ_ wt, sS_, sR_ lx, sR_ tx, sI_ (4 : Int32), sI_ (1 : Int32)] [(.int (4 : Int32)), (.ref tx)])) rfl (by rw [hml]; rfl) (argsL := [(.int (4 : Int32))]) (rest := []) (lenOf pd_12 rfl) rfl rfl (Nat.le_refl _) (hb hby at_281)
      obtain ⟨z_32, rfl, n_32, K_32, hz_32⟩ := q_32
      have N_32 := Fr.app N n_32
      refine Goes.go (U' := (T_32.setTop (mkF m 284 #[sI_ q0, sI_ q1, sI_ q2, sI_ q3, sJ_ qw, sS_, sI_ (4 : Int32), sI_ (1 : Int32), sI_ (2 : Int32), sI_ (3 : Int32), sI_ h1, sI_ h2, sI_ h3, sJ_ wt, sS_, sR_ lx, sR_ tx, sI_ (4 : Int32), sI_ (1 : Int32)] [(.int z_32)]))) st_32 ?_
      obtain rfl : z_32 = (1 : Int32) := by
        rcases hz_32 with ⟨ez, hz⟩ | ⟨ez, hz⟩
        · exact ez
        · exact absurd hz (by rw [A4]; simp)
      refine Goes.go (U' := (T_32.setTop (mkF m 294 #[sI_ q0, sI_ q1, sI_ q2, sI_ q3, sJ_ qw, sS_, sI_ (4 : Int32), sI_ (1 : Int32), sI_ (2 : Int32), sI_ (3 : Int32), sI_ h1, sI_ h2, sI_ h3, sJ_ wt, sS_, sR_ lx, sR_ tx, sI_ (4 : Int32), sI_ (1 : Int32)] [(.int (1 : Int32))]))) (fun t kt => ?_) ?_
      · skip
        refine XS.iload X_32.here hx rfl (hb hby at_284) rfl ?_
        refine XS.icmpNo X_32.here hx rfl (hb hby at_286) rfl (XT.ii_ne_f (by decide)) ?_
        refine XS.iconst X_32.here hx rfl (hb hby at_289) ?_
        refine XS.goto X_32.here hx rfl (pc0 := 290) (pc' := 294) rfl (hb hby at_290) (by decide) (by decide) ?_
        exact kt
      refine Goes.retB X_32 hx hlk hret (hb hby at_294) (by decide) (by decide) ?_
      try rw [K_32]
      exact ⟨rfl, N_32⟩
set_option maxRecDepth 65536 in
set_option maxHeartbeats 40000000 in
theorem law_186 (l : Launch) (Z : State) (a0 : Array Value) (hw : ∀ d ∈ tables_1, d.before a0 Z = true) (q0 q1 q2 q3 : Int32) (qw : Int64) (dx la : Addr) (kd cK : ClassId) (r o1 o2 o3 : Int32) (h1 h2 h3 : Int32) (wt : Int64) (lx tx : Addr) (v0 v1 v2 v3 v4 : Value) (h0 : Heap) (n0 : Nat) (Z0 : n0 ≤ h0.size) (p : Program) (e : Env) (s : State) (m : MethodId) (below : List Frame) (meth : Method) (c : Code) (hx : p.tables.exec = Jvm.exec) (hby : c.code = code) (hml : c.maxLocals = maxLocals) (hown : s.vm.findClass "com/example/copse/copse/HangingTreeContainsPinLaw" = some m.cls) (hnm : meth.name = "law") (hret : meth.sig.returnType = ret) (hlk : meth.locks = false) (hZ : Z.Warmed39 s.vm) (h : Heap) (T : State) (locs : List Loc) (X : Stand p l e room_1 s m #[(.int q0), (.int q1), (.int q2), (.int q3), (.long qw)] below meth c T locs 19 106) (eT : T.heap = h) (N : Fr n0 locs) (O : Old Z n0 h) (BC : BoxC Z "java/lang/Integer$IntegerCache" "[Ljava/lang/Integer;" "java/lang/Integer" "I" (fun i => .int (i.toInt32 - 128))) (SH : Sta Z Z.heap "java/lang/Integer$IntegerCache" "high" "I" (.int (127 : Int32))) (SD : Sta Z Z.heap "java/util/ArrayList" "DEFAULTCAPACITY_EMPTY_ELEMENTDATA" "[Ljava/lang/Object;" (.ref dx)) (VD : Arv Z Z.heap dx kd (.object "java/lang/Object") (0 : Int32) [] .null) (FL : HLam.Lam Z cK la) (RT : RTs r o1 o2 o3) (hwt : ¬ wt < (0 : Int64)) (HT0 : HTr Z h n0 tx la r v0 v1 v2 v3 v4) (A0 : v0 = Value.null ↔ ¬ ((o1 = (0 : Int32) ∧ ¬ h1 = 0) ∨ (o2 = (0 : Int32) ∧ ¬ h2 = 0))) (R0 : v0.isRef = true) (A1 : v1 = Value.null ↔ ¬ ((o1 = (1 : Int32) ∧ ¬ h1 = 0) ∨ (o2 = (1 : Int32) ∧ ¬ h2 = 0))) (R1 : v1.isRef = true) (A2 : v2 = Value.null ↔ ¬ ((o1 = (2 : Int32) ∧ ¬ h1 = 0) ∨ (o2 = (2 : Int32) ∧ ¬ h2 = 0))) (R2 : v2.isRef = true) (A3 : v3 = Value.null ↔ ¬ ((o1 = (3 : Int32) ∧ ¬ h1 = 0) ∨ (o2 = (3 : Int32) ∧ ¬ h2 = 0))) (R3 : v3.isRef = true) (A4 : v4 = Value.null ↔ ¬ ((o1 = (4 : Int32) ∧ ¬ h1 = 0) ∨ (o2 = (4 : Int32) ∧ ¬ h2 = 0))) (R4 : v4.isRef = true) :
    Goes p e s below (fun v h L => v = some (.int 1) ∧ Fr n0 L) room_1.cells room_1.slots (T.setTop (mkF m 186 #[sI_ q0, sI_ q1, sI_ q2, sI_ q3, sJ_ qw, sS_, sI_ r, sI_ o1, sI_ o2, sI_ o3, sI_ h1, sI_ h2, sI_ h3, sJ_ wt, sS_, sR_ lx, sR_ tx, sU_, sU_] [])) := by
  have sz0 : n0 ≤ h.size := Nat.le_trans (Nat.le_of_eq O.1.symm) O.2.1
  refine Goes.go (U' := (T.setTop (mkF m 188 #[sI_ q0, sI_ q1, sI_ q2, sI_ q3, sJ_ qw, sS_, sI_ r, sI_ o1, sI_ o2, sI_ o3, sI_ h1, sI_ h2, sI_ h3, sJ_ wt, sS_, sR_ lx, sR_ tx, sU_, sU_] [(.int h3)]))) (fun t kt => ?_) ?_
  · skip
    refine XS.iload X.here hx rfl (hb hby at_186) rfl ?_
    exact kt
  by_cases cz : h3 = 0
  · -- h3 = 0
    refine Goes.go (U' := (T.setTop (mkF m 219 #[sI_ q0, sI_ q1, sI_ q2, sI_ q3, sJ_ qw, sS_, sI_ r, sI_ o1, sI_ o2, sI_ o3, sI_ h1, sI_ h2, sI_ h3, sJ_ wt, sS_, sR_ lx, sR_ tx, sU_, sU_] []))) (fun t kt => ?_) ?_
    · skip
      refine XS.ifYes X.here hx rfl (pc0 := 188) (pc' := 219) rfl (hb hby at_188) rfl (XT.i0_eq_t cz) (by decide) (by decide) ?_
      exact kt
    exact law_219 l Z a0 hw q0 q1 q2 q3 qw dx la kd cK r o1 o2 o3 h1 h2 h3 wt lx tx v0 v1 v2 v3 v4 h0 n0 Z0 p e s m below meth c hx hby hml hown hnm hret hlk hZ _ _ _ (moreRoom (cells' := 20) (slots' := 109) X (by decide) (by decide)) eT N  O BC SH SD VD FL RT hwt HT0 (by rw [A0]; simp [cz]) (R0) (by rw [A1]; simp [cz]) (R1) (by rw [A2]; simp [cz]) (R2) (by rw [A3]; simp [cz]) (R3) (by rw [A4]; simp [cz]) (R4)
  · -- not h3 = 0
    refine Goes.go (U' := (T.setTop (mkF m 191 #[sI_ q0, sI_ q1, sI_ q2, sI_ q3, sJ_ qw, sS_, sI_ r, sI_ o1, sI_ o2, sI_ o3, sI_ h1, sI_ h2, sI_ h3, sJ_ wt, sS_, sR_ lx, sR_ tx, sU_, sU_] []))) (fun t kt => ?_) ?_
    · skip
      refine XS.ifNo X.here hx rfl (hb hby at_188) rfl (XT.i0_eq_f cz) ?_
      exact kt
    rcases RT with ⟨rfl, rfl, rfl, rfl⟩ | ⟨rfl, rfl, rfl, rfl⟩ | ⟨rfl, rfl, rfl, rfl⟩ | ⟨rfl, rfl, rfl, rfl⟩
    · -- r = 1
      refine Goes.go (U' := (T.setTop (mkF m 193 #[sI_ q0, sI_ q1, sI_ q2, sI_ q3, sJ_ qw, sS_, sI_ (1 : Int32), sI_ (2 : Int32), sI_ (3 : Int32), sI_ (4 : Int32), sI_ h1, sI_ h2, sI_ h3, sJ_ wt, sS_, sR_ lx, sR_ tx, sU_, sU_] [(.ref tx)]))) (fun t kt => ?_) ?_
      · skip
        refine XS.aload X.here hx rfl (hb hby at_191) rfl rfl ?_
        exact kt
      obtain ⟨T_1, h_1, X_1, e_1, E_1, A_1, D_1, -, st_1⟩ := newO X hx hZ hown (wdOf hw 174 rfl) (wdOf hw 175 rfl) (wdOf hw 176 rfl) eT (g := (mkF m 193 #[sI_ q0, sI_ q1, sI_ q2, sI_ q3, sJ_ qw, sS_, sI_ (1 : Int32), sI_ (2 : Int32), sI_ (3 : Int32), sI_ (4 : Int32), sI_ h1, sI_ h2, sI_ h3, sJ_ wt, sS_, sR_ lx, sR_ tx, sU_, sU_] [(.ref tx)])) rfl (hb hby at_193) (by decide) (by decide)
      obtain ⟨b_1, g_1⟩ : ∃ z, z = h.size := ⟨_, rfl⟩
      rw [← g_1] at A_1 D_1 st_1
      have ne_2 : tx ≠ b_1 := Nat.ne_of_lt (Nat.lt_of_lt_of_le (HTr.exa HT0).lt (Nat.le_of_eq g_1.symm))
      have o_1 : n0 ≤ b_1 := Nat.le_trans sz0 (Nat.le_of_eq g_1.symm)
      have f_3 := O.ext E_1
      have f_4 : HTr Z h_1 n0 tx la (1 : Int32) v0 v1 v2 v3 v4 := HT0.ext E_1
      have f_5 := (HTr.exa HT0).ext E_1
      have f_6 : Fld Z h_1 b_1 "com/example/copse/copse/Arc" "tail" "I" (.int (0 : Int32)) := D_1 (Or.inr (wdOf hw 187 rfl)) (ty := .int) (by decide)
      have f_7 : Fld Z h_1 b_1 "com/example/copse/copse/Arc" "head" "I" (.int (0 : Int32)) := D_1 (Or.inr (wdOf hw 189 rfl)) (ty := .int) (by decide)
      have f_8 : Fld Z h_1 b_1 "com/example/copse/copse/Arc" "weight" "J" (.long (0 : Int64)) := D_1 (Or.inr (wdOf hw 191 rfl)) (ty := .long) (by decide)
      have y_9 : n0 ≤ h_1.size := Nat.le_trans (Nat.le_of_eq f_3.1.symm) f_3.2.1
      refine Goes.go (U' := (T_1.setTop (mkF m 196 #[sI_ q0, sI_ q1, sI_ q2, sI_ q3, sJ_ qw, sS_, sI_ (1 : Int32), sI_ (2 : Int32), sI_ (3 : Int32), sI_ (4 : Int32), sI_ h1, sI_ h2, sI_ h3, sJ_ wt, sS_, sR_ lx, sR_ tx, sU_, sU_] [(.ref b_1), (.ref tx)]))) st_1 ?_
      refine Goes.go (U' := (T_1.setTop (mkF m 199 #[sI_ q0, sI_ q1, sI_ q2, sI_ q3, sJ_ qw, sS_, sI_ (1 : Int32), sI_ (2 : Int32), sI_ (3 : Int32), sI_ (4 : Int32), sI_ h1, sI_ h2, sI_ h3, sJ_ wt, sS_, sR_ lx, sR_ tx, sU_, sU_] [(.int h2), (.ref b_1), (.ref b_1), (.ref tx)]))) (fun t kt => ?_) ?_
      · skip
        refine XS.dup X_1.here hx rfl (hb hby at_196) rfl rfl ?_
        refine XS.iload X_1.here hx rfl (hb hby at_197) rfl ?_
        exact kt
      by_cases cy : h2 = 0
      · -- h2 = 0
        refine Goes.go (U' := (T_1.setTop (mkF m 213 #[sI_ q0, sI_ q1, sI_ q2, sI_ q3, sJ_ qw, sS_, sI_ (1 : Int32), sI_ (2 : Int32), sI_ (3 : Int32), sI_ (4 : Int32), sI_ h1, sI_ h2, sI_ h3, sJ_ wt, sS_, sR_ lx, sR_ tx, sU_, sU_] [(.long wt), (.int (4 : Int32)), (.int (1 : Int32)), (.ref b_1), (.ref b_1), (.ref tx)]))) (fun t kt => ?_) ?_
        · skip
          refine XS.ifYes X_1.here hx rfl (pc0 := 199) (pc' := 207) rfl (hb hby at_199) rfl (XT.i0_eq_t cy) (by decide) (by decide) ?_
          refine XS.iload X_1.here hx rfl (hb hby at_207) rfl ?_
          refine XS.iload X_1.here hx rfl (hb hby at_209) rfl ?_
          refine XS.lload X_1.here hx rfl (hb hby at_211) rfl ?_
          exact kt
        obtain ⟨v_10, T_10, L_10, X_10, q_10, st_10⟩ := callInit X_1 hx hZ (y := (⟨"com/example/copse/copse/Arc", "<init>", "(IIJ)V"⟩ : MethodName)) (W := 2) rfl hown (wdOf hw 177 rfl) (wdOf hw 178 rfl) (wdOf hw 176 rfl) (wdOf hw 179 rfl) (by decide) (rm_arc l Z a0 hw [] b_1 (1 : Int32) (4 : Int32) wt h_1 n0 y_9 o_1 A_1 f_6 f_7 f_8 (by decide) (by decide) hwt) (by decide) (by decide) (by decide) (by decide) e_1 (b := b_1) (g := (mkF m 213 #[sI_ q0, sI_ q1, sI_ q2, sI_ q3, sJ_ qw, sS_, sI_ (1 : Int32), sI_ (2 : Int32), sI_ (3 : Int32), sI_ (4 : Int32), sI_ h1, sI_ h2, sI_ h3, sJ_ wt, sS_, sR_ lx, sR_ tx, sU_, sU_] [(.long wt), (.int (4 : Int32)), (.int (1 : Int32)), (.ref b_1), (.ref b_1), (.ref tx)])) rfl (by rw [hml]; rfl) (argsL := [(.int (1 : Int32)), (.int (4 : Int32)), (.long wt)]) (rest := [(.ref b_1), (.ref tx)]) (lenOf pd_13 rfl) rfl rfl (Nat.le_refl _) (hb hby at_213)
        obtain ⟨rfl, n_10, K_10, E_10, Ft_10, Fh_10, Fw_10⟩ := q_10
        have N_10 := Fr.app N n_10
        have f_11 := f_3.keep K_10 (allS o_1 all0)
        have f_13 := f_5.keep K_10
        have f_14 := A_1.keep K_10
        have y_18 : n0 ≤ T_10.heap.size := Nat.le_trans (Nat.le_of_eq f_11.1.symm) f_11.2.1
        refine Goes.go (U' := (T_10.setTop (mkF m 216 #[sI_ q0, sI_ q1, sI_ q2, sI_ q3, sJ_ qw, sS_, sI_ (1 : Int32), sI_ (2 : Int32), sI_ (3 : Int32), sI_ (4 : Int32), sI_ h1, sI_ h2, sI_ h3, sJ_ wt, sS_, sR_ lx, sR_ tx, sU_, sU_] [(.ref b_1), (.ref tx)]))) st_10 ?_
        have KK_10 : Ext h T_10.heap := Ext.of_keep (((Keep.refl h []).ext E_1).trans K_10 (allS (P := fun x => x ∈ [] ∨ h.size ≤ x) (Or.inr (Nat.le_of_eq g_1.symm)) all0))
        have HH_10 := HT0.ext KK_10
        obtain ⟨v_19, T_19, L_19, X_19, q_19, st_19⟩ := callVirtual X_10 hx hZ (y := (⟨"com/example/copse/copse/HangingTree", "hang", "(Lcom/example/copse/copse/Arc;)V"⟩ : MethodName)) (z := (⟨"com/example/copse/copse/HangingTree", "hang", "(Lcom/example/copse/copse/Arc;)V"⟩ : MethodName)) (W := 0) hown (wdOf hw 192 rfl) (wdOf hw 193 rfl) (notFace_of_selects (args := #[]) (mvT hZ (wdOf hw 195 rfl))) (wdOf hw 195 rfl) (wdOf hw 194 rfl) (wdOf hw 67 rfl) (wdOf hw 196 rfl) (by decide) (rm_hang4 l Z a0 hw [] tx b_1 la cK (1 : Int32) (1 : Int32) v0 v1 v2 v3 v4 T_10.heap n0 y_18 f_11 FL HH_10 f_14 Fh_10 Ft_10 ⟨by decide, by decide⟩) (by decide) (by decide) (by decide) (by decide) (rfl : T_10.heap = T_10.heap) f_13 (g := (mkF m 216 #[sI_ q0, sI_ q1, sI_ q2, sI_ q3, sJ_ qw, sS_, sI_ (1 : Int32), sI_ (2 : Int32), sI_ (3 : Int32), sI_ (4 : Int32), sI_ h1, sI_ h2, sI_ h3, sJ_ wt, sS_, sR_ lx, sR_ tx, sU_, sU_] [(.ref b_1), (.ref tx)])) rfl (by rw [hml]; rfl) (argsL := [(.ref b_1)]) (rest := []) (lenOf pd_14 rfl) rfl rfl (Nat.le_refl _) (hb hby at_216)
        obtain ⟨rfl, n_19, O_19, H_19⟩ := q_19
        have N_19 := Fr.app N_10 n_19
        have y_19 : n0 ≤ T_19.heap.size := Nat.le_trans (Nat.le_of_eq O_19.1.symm) O_19.2.1
        refine Goes.go (U' := (T_19.setTop (mkF m 219 #[sI_ q0, sI_ q1, sI_ q2, sI_ q3, sJ_ qw, sS_, sI_ (1 : Int32), sI_ (2 : Int32), sI_ (3 : Int32), sI_ (4 : Int32), sI_ h1, sI_ h2, sI_ h3, sJ_ wt, sS_, sR_ lx, sR_ tx, sU_, sU_] []))) st_19 ?_
        exact law_219 l Z a0 hw q0 q1 q2 q3 qw dx la kd cK (1 : Int32) (2 : Int32) (3 : Int32) (4 : Int32) h1 h2 h3 wt lx tx v0 v1 v2 v3 (.ref b_1) h0 n0 Z0 p e s m below meth c hx hby hml hown hnm hret hlk hZ _ _ _ X_19 (rfl : T_19.heap = T_19.heap) N_19  O_19 BC SH SD VD FL (own_RT1 rfl) hwt H_19 (by rw [A0]; simp) (R0) (by rw [A1]; simp) (R1) (by rw [A2]; simp) (R2) (by rw [A3]; simp) (R3) (by simp [cz]) (rfl)
      · -- not h2 = 0
        refine Goes.go (U' := (T_1.setTop (mkF m 213 #[sI_ q0, sI_ q1, sI_ q2, sI_ q3, sJ_ qw, sS_, sI_ (1 : Int32), sI_ (2 : Int32), sI_ (3 : Int32), sI_ (4 : Int32), sI_ h1, sI_ h2, sI_ h3, sJ_ wt, sS_, sR_ lx, sR_ tx, sU_, sU_] [(.long wt), (.int (4 : Int32)), (.int (3 : Int32)), (.ref b_1), (.ref b_1), (.ref tx)]))) (fun t kt => ?_) ?_
        · skip
          refine XS.ifNo X_1.here hx rfl (hb hby at_199) rfl (XT.i0_eq_f cy) ?_
          refine XS.iload X_1.here hx rfl (hb hby at_202) rfl ?_
          refine XS.goto X_1.here hx rfl (pc0 := 204) (pc' := 209) rfl (hb hby at_204) (by decide) (by decide) ?_
          refine XS.iload X_1.here hx rfl (hb hby at_209) rfl ?_
          refine XS.lload X_1.here hx rfl (hb hby at_211) rfl ?_
          exact kt
        obtain ⟨v_20, T_20, L_20, X_20, q_20, st_20⟩ := callInit X_1 hx hZ (y := (⟨"com/example/copse/copse/Arc", "<init>", "(IIJ)V"⟩ : MethodName)) (W := 2) rfl hown (wdOf hw 177 rfl) (wdOf hw 178 rfl) (wdOf hw 176 rfl) (wdOf hw 179 rfl) (by decide) (rm_arc l Z a0 hw [] b_1 (3 : Int32) (4 : Int32) wt h_1 n0 y_9 o_1 A_1 f_6 f_7 f_8 (by decide) (by decide) hwt) (by decide) (by decide) (by decide) (by decide) e_1 (b := b_1) (g := (mkF m 213 #[sI_ q0, sI_ q1, sI_ q2, sI_ q3, sJ_ qw, sS_, sI_ (1 : Int32), sI_ (2 : Int32), sI_ (3 : Int32), sI_ (4 : Int32), sI_ h1, sI_ h2, sI_ h3, sJ_ wt, sS_, sR_ lx, sR_ tx, sU_, sU_] [(.long wt), (.int (4 : Int32)), (.int (3 : Int32)), (.ref b_1), (.ref b_1), (.ref tx)])) rfl (by rw [hml]; rfl) (argsL := [(.int (3 : Int32)), (.int (4 : Int32)), (.long wt)]) (rest := [(.ref b_1), (.ref tx)]) (lenOf pd_13 rfl) rfl rfl (Nat.le_refl _) (hb hby at_213)
        obtain ⟨rfl, n_20, K_20, E_20, Ft_20, Fh_20, Fw_20⟩ := q_20
        have N_20 := Fr.app N n_20
        have f_21 := f_3.keep K_20 (allS o_1 all0)
        have f_23 := f_5.keep K_20
        have f_24 := A_1.keep K_20
        have y_28 : n0 ≤ T_20.heap.size := Nat.le_trans (Nat.le_of_eq f_21.1.symm) f_21.2.1
        refine Goes.go (U' := (T_20.setTop (mkF m 216 #[sI_ q0, sI_ q1, sI_ q2, sI_ q3, sJ_ qw, sS_, sI_ (1 : Int32), sI_ (2 : Int32), sI_ (3 : Int32), sI_ (4 : Int32), sI_ h1, sI_ h2, sI_ h3, sJ_ wt, sS_, sR_ lx, sR_ tx, sU_, sU_] [(.ref b_1), (.ref tx)]))) st_20 ?_
        have KK_20 : Ext h T_20.heap := Ext.of_keep (((Keep.refl h []).ext E_1).trans K_20 (allS (P := fun x => x ∈ [] ∨ h.size ≤ x) (Or.inr (Nat.le_of_eq g_1.symm)) all0))
        have HH_20 := HT0.ext KK_20
        obtain ⟨v_29, T_29, L_29, X_29, q_29, st_29⟩ := callVirtual X_20 hx hZ (y := (⟨"com/example/copse/copse/HangingTree", "hang", "(Lcom/example/copse/copse/Arc;)V"⟩ : MethodName)) (z := (⟨"com/example/copse/copse/HangingTree", "hang", "(Lcom/example/copse/copse/Arc;)V"⟩ : MethodName)) (W := 0) hown (wdOf hw 192 rfl) (wdOf hw 193 rfl) (notFace_of_selects (args := #[]) (mvT hZ (wdOf hw 195 rfl))) (wdOf hw 195 rfl) (wdOf hw 194 rfl) (wdOf hw 67 rfl) (wdOf hw 196 rfl) (by decide) (rm_hang4 l Z a0 hw [] tx b_1 la cK (1 : Int32) (3 : Int32) v0 v1 v2 v3 v4 T_20.heap n0 y_28 f_21 FL HH_20 f_24 Fh_20 Ft_20 ⟨by decide, by decide⟩) (by decide) (by decide) (by decide) (by decide) (rfl : T_20.heap = T_20.heap) f_23 (g := (mkF m 216 #[sI_ q0, sI_ q1, sI_ q2, sI_ q3, sJ_ qw, sS_, sI_ (1 : Int32), sI_ (2 : Int32), sI_ (3 : Int32), sI_ (4 : Int32), sI_ h1, sI_ h2, sI_ h3, sJ_ wt, sS_, sR_ lx, sR_ tx, sU_, sU_] [(.ref b_1), (.ref tx)])) rfl (by rw [hml]; rfl) (argsL := [(.ref b_1)]) (rest := []) (lenOf pd_14 rfl) rfl rfl (Nat.le_refl _) (hb hby at_216)
        obtain ⟨rfl, n_29, O_29, H_29⟩ := q_29
        have N_29 := Fr.app N_20 n_29
        have y_29 : n0 ≤ T_29.heap.size := Nat.le_trans (Nat.le_of_eq O_29.1.symm) O_29.2.1
        refine Goes.go (U' := (T_29.setTop (mkF m 219 #[sI_ q0, sI_ q1, sI_ q2, sI_ q3, sJ_ qw, sS_, sI_ (1 : Int32), sI_ (2 : Int32), sI_ (3 : Int32), sI_ (4 : Int32), sI_ h1, sI_ h2, sI_ h3, sJ_ wt, sS_, sR_ lx, sR_ tx, sU_, sU_] []))) st_29 ?_
        exact law_219 l Z a0 hw q0 q1 q2 q3 qw dx la kd cK (1 : Int32) (2 : Int32) (3 : Int32) (4 : Int32) h1 h2 h3 wt lx tx v0 v1 v2 v3 (.ref b_1) h0 n0 Z0 p e s m below meth c hx hby hml hown hnm hret hlk hZ _ _ _ X_29 (rfl : T_29.heap = T_29.heap) N_29  O_29 BC SH SD VD FL (own_RT1 rfl) hwt H_29 (by rw [A0]; simp) (R0) (by rw [A1]; simp) (R1) (by rw [A2]; simp) (R2) (by rw [A3]; simp) (R3) (by simp [cz]) (rfl)
    · -- r = 2
      refine Goes.go (U' := (T.setTop (mkF m 193 #[sI_ q0, sI_ q1, sI_ q2, sI_ q3, sJ_ qw, sS_, sI_ (2 : Int32), sI_ (1 : Int32), sI_ (3 : Int32), sI_ (4 : Int32), sI_ h1, sI_ h2, sI_ h3, sJ_ wt, sS_, sR_ lx, sR_ tx, sU_, sU_] [(.ref tx)]))) (fun t kt => ?_) ?_
      · skip
        refine XS.aload X.here hx rfl (hb hby at_191) rfl rfl ?_
        exact kt
      obtain ⟨T_30, h_30, X_30, e_30, E_30, A_30, D_30, -, st_30⟩ := newO X hx hZ hown (wdOf hw 174 rfl) (wdOf hw 175 rfl) (wdOf hw 176 rfl) eT (g := (mkF m 193 #[sI_ q0, sI_ q1, sI_ q2, sI_ q3, sJ_ qw, sS_, sI_ (2 : Int32), sI_ (1 : Int32), sI_ (3 : Int32), sI_ (4 : Int32), sI_ h1, sI_ h2, sI_ h3, sJ_ wt, sS_, sR_ lx, sR_ tx, sU_, sU_] [(.ref tx)])) rfl (hb hby at_193) (by decide) (by decide)
      obtain ⟨b_30, g_30⟩ : ∃ z, z = h.size := ⟨_, rfl⟩
      rw [← g_30] at A_30 D_30 st_30
      have ne_31 : tx ≠ b_30 := Nat.ne_of_lt (Nat.lt_of_lt_of_le (HTr.exa HT0).lt (Nat.le_of_eq g_30.symm))
      have o_30 : n0 ≤ b_30 := Nat.le_trans sz0 (Nat.le_of_eq g_30.symm)
      have f_32 := O.ext E_30
      have f_33 : HTr Z h_30 n0 tx la (2 : Int32) v0 v1 v2 v3 v4 := HT0.ext E_30
      have f_34 := (HTr.exa HT0).ext E_30
      have f_35 : Fld Z h_30 b_30 "com/example/copse/copse/Arc" "tail" "I" (.int (0 : Int32)) := D_30 (Or.inr (wdOf hw 187 rfl)) (ty := .int) (by decide)
      have f_36 : Fld Z h_30 b_30 "com/example/copse/copse/Arc" "head" "I" (.int (0 : Int32)) := D_30 (Or.inr (wdOf hw 189 rfl)) (ty := .int) (by decide)
      have f_37 : Fld Z h_30 b_30 "com/example/copse/copse/Arc" "weight" "J" (.long (0 : Int64)) := D_30 (Or.inr (wdOf hw 191 rfl)) (ty := .long) (by decide)
      have y_38 : n0 ≤ h_30.size := Nat.le_trans (Nat.le_of_eq f_32.1.symm) f_32.2.1
      refine Goes.go (U' := (T_30.setTop (mkF m 196 #[sI_ q0, sI_ q1, sI_ q2, sI_ q3, sJ_ qw, sS_, sI_ (2 : Int32), sI_ (1 : Int32), sI_ (3 : Int32), sI_ (4 : Int32), sI_ h1, sI_ h2, sI_ h3, sJ_ wt, sS_, sR_ lx, sR_ tx, sU_, sU_] [(.ref b_30), (.ref tx)]))) st_30 ?_
      refine Goes.go (U' := (T_30.setTop (mkF m 199 #[sI_ q0, sI_ q1, sI_ q2, sI_ q3, sJ_ qw, sS_, sI_ (2 : Int32), sI_ (1 : Int32), sI_ (3 : Int32), sI_ (4 : Int32), sI_ h1, sI_ h2, sI_ h3, sJ_ wt, sS_, sR_ lx, sR_ tx, sU_, sU_] [(.int h2), (.ref b_30), (.ref b_30), (.ref tx)]))) (fun t kt => ?_) ?_
      · skip
        refine XS.dup X_30.here hx rfl (hb hby at_196) rfl rfl ?_
        refine XS.iload X_30.here hx rfl (hb hby at_197) rfl ?_
        exact kt
      by_cases cy : h2 = 0
      · -- h2 = 0
        refine Goes.go (U' := (T_30.setTop (mkF m 213 #[sI_ q0, sI_ q1, sI_ q2, sI_ q3, sJ_ qw, sS_, sI_ (2 : Int32), sI_ (1 : Int32), sI_ (3 : Int32), sI_ (4 : Int32), sI_ h1, sI_ h2, sI_ h3, sJ_ wt, sS_, sR_ lx, sR_ tx, sU_, sU_] [(.long wt), (.int (4 : Int32)), (.int (2 : Int32)), (.ref b_30), (.ref b_30), (.ref tx)]))) (fun t kt => ?_) ?_
        · skip
          refine XS.ifYes X_30.here hx rfl (pc0 := 199) (pc' := 207) rfl (hb hby at_199) rfl (XT.i0_eq_t cy) (by decide) (by decide) ?_
          refine XS.iload X_30.here hx rfl (hb hby at_207) rfl ?_
          refine XS.iload X_30.here hx rfl (hb hby at_209) rfl ?_
          refine XS.lload X_30.here hx rfl (hb hby at_211) rfl ?_
          exact kt
        obtain ⟨v_39, T_39, L_39, X_39, q_39, st_39⟩ := callInit X_30 hx hZ (y := (⟨"com/example/copse/copse/Arc", "<init>", "(IIJ)V"⟩ : MethodName)) (W := 2) rfl hown (wdOf hw 177 rfl) (wdOf hw 178 rfl) (wdOf hw 176 rfl) (wdOf hw 179 rfl) (by decide) (rm_arc l Z a0 hw [] b_30 (2 : Int32) (4 : Int32) wt h_30 n0 y_38 o_30 A_30 f_35 f_36 f_37 (by decide) (by decide) hwt) (by decide) (by decide) (by decide) (by decide) e_30 (b := b_30) (g := (mkF m 213 #[sI_ q0, sI_ q1, sI_ q2, sI_ q3, sJ_ qw, sS_, sI_ (2 : Int32), sI_ (1 : Int32), sI_ (3 : Int32), sI_ (4 : Int32), sI_ h1, sI_ h2, sI_ h3, sJ_ wt, sS_, sR_ lx, sR_ tx, sU_, sU_] [(.long wt), (.int (4 : Int32)), (.int (2 : Int32)), (.ref b_30), (.ref b_30), (.ref tx)])) rfl (by rw [hml]; rfl) (argsL := [(.int (2 : Int32)), (.int (4 : Int32)), (.long wt)]) (rest := [(.ref b_30), (.ref tx)]) (lenOf pd_13 rfl) rfl rfl (Nat.le_refl _) (hb hby at_213)
        obtain ⟨rfl, n_39, K_39, E_39, Ft_39, Fh_39, Fw_39⟩ := q_39
        have N_39 := Fr.app N n_39
        have f_40 := f_32.keep K_39 (allS o_30 all0)
        have f_42 := f_34.keep K_39
        have f_43 := A_30.keep K_39
        have y_47 : n0 ≤ T_39.heap.size := Nat.le_trans (Nat.le_of_eq f_40.1.symm) f_40.2.1
        refine Goes.go (U' := (T_39.setTop (mkF m 216 #[sI_ q0, sI_ q1, sI_ q2, sI_ q3, sJ_ qw, sS_, sI_ (2 : Int32), sI_ (1 : Int32), sI_ (3 : Int32), sI_ (4 : Int32), sI_ h1, sI_ h2, sI_ h3, sJ_ wt, sS_, sR_ lx, sR_ tx, sU_, sU_] [(.ref b_30), (.ref tx)]))) st_39 ?_
        have KK_39 : Ext h T_39.heap := Ext.of_keep (((Keep.refl h []).ext E_30).trans K_39 (allS (P := fun x => x ∈ [] ∨ h.size ≤ x) (Or.inr (Nat.le_of_eq g_30.symm)) all0))
        have HH_39 := HT0.ext KK_39
        obtain ⟨v_48, T_48, L_48, X_48, q_48, st_48⟩ := callVirtual X_39 hx hZ (y := (⟨"com/example/copse/copse/HangingTree", "hang", "(Lcom/example/copse/copse/Arc;)V"⟩ : MethodName)) (z := (⟨"com/example/copse/copse/HangingTree", "hang", "(Lcom/example/copse/copse/Arc;)V"⟩ : MethodName)) (W := 0) hown (wdOf hw 192 rfl) (wdOf hw 193 rfl) (notFace_of_selects (args := #[]) (mvT hZ (wdOf hw 195 rfl))) (wdOf hw 195 rfl) (wdOf hw 194 rfl) (wdOf hw 67 rfl) (wdOf hw 196 rfl) (by decide) (rm_hang4 l Z a0 hw [] tx b_30 la cK (2 : Int32) (2 : Int32) v0 v1 v2 v3 v4 T_39.heap n0 y_47 f_40 FL HH_39 f_43 Fh_39 Ft_39 ⟨by decide, by decide⟩) (by decide) (by decide) (by decide) (by decide) (rfl : T_39.heap = T_39.heap) f_42 (g := (mkF m 216 #[sI_ q0, sI_ q1, sI_ q2, sI_ q3, sJ_ qw, sS_, sI_ (2 : Int32), sI_ (1 : Int32), sI_ (3 : Int32), sI_ (4 : Int32), sI_ h1, sI_ h2, sI_ h3, sJ_ wt, sS_, sR_ lx, sR_ tx, sU_, sU_] [(.ref b_30), (.ref tx)])) rfl (by rw [hml]; rfl) (argsL := [(.ref b_30)]) (rest := []) (lenOf pd_14 rfl) rfl rfl (Nat.le_refl _) (hb hby at_216)
        obtain ⟨rfl, n_48, O_48, H_48⟩ := q_48
        have N_48 := Fr.app N_39 n_48
        have y_48 : n0 ≤ T_48.heap.size := Nat.le_trans (Nat.le_of_eq O_48.1.symm) O_48.2.1
        refine Goes.go (U' := (T_48.setTop (mkF m 219 #[sI_ q0, sI_ q1, sI_ q2, sI_ q3, sJ_ qw, sS_, sI_ (2 : Int32), sI_ (1 : Int32), sI_ (3 : Int32), sI_ (4 : Int32), sI_ h1, sI_ h2, sI_ h3, sJ_ wt, sS_, sR_ lx, sR_ tx, sU_, sU_] []))) st_48 ?_
        exact law_219 l Z a0 hw q0 q1 q2 q3 qw dx la kd cK (2 : Int32) (1 : Int32) (3 : Int32) (4 : Int32) h1 h2 h3 wt lx tx v0 v1 v2 v3 (.ref b_30) h0 n0 Z0 p e s m below meth c hx hby hml hown hnm hret hlk hZ _ _ _ X_48 (rfl : T_48.heap = T_48.heap) N_48  O_48 BC SH SD VD FL (own_RT2 rfl) hwt H_48 (by rw [A0]; simp) (R0) (by rw [A1]; simp) (R1) (by rw [A2]; simp) (R2) (by rw [A3]; simp) (R3) (by simp [cz]) (rfl)
      · -- not h2 = 0
        refine Goes.go (U' := (T_30.setTop (mkF m 213 #[sI_ q0, sI_ q1, sI_ q2, sI_ q3, sJ_ qw, sS_, sI_ (2 : Int32), sI_ (1 : Int32), sI_ (3 : Int32), sI_ (4 : Int32), sI_ h1, sI_ h2, sI_ h3, sJ_ wt, sS_, sR_ lx, sR_ tx, sU_, sU_] [(.long wt), (.int (4 : Int32)), (.int (3 : Int32)), (.ref b_30), (.ref b_30), (.ref tx)]))) (fun t kt => ?_) ?_
        · skip
          refine XS.ifNo X_30.here hx rfl (hb hby at_199) rfl (XT.i0_eq_f cy) ?_
          refine XS.iload X_30.here hx rfl (hb hby at_202) rfl ?_
          refine XS.goto X_30.here hx rfl (pc0 := 204) (pc' := 209) rfl (hb hby at_204) (by decide) (by decide) ?_
          refine XS.iload X_30.here hx rfl (hb hby at_209) rfl ?_
          refine XS.lload X_30.here hx rfl (hb hby at_211) rfl ?_
          exact kt
        obtain ⟨v_49, T_49, L_49, X_49, q_49, st_49⟩ := callInit X_30 hx hZ (y := (⟨"com/example/copse/copse/Arc", "<init>", "(IIJ)V"⟩ : MethodName)) (W := 2) rfl hown (wdOf hw 177 rfl) (wdOf hw 178 rfl) (wdOf hw 176 rfl) (wdOf hw 179 rfl) (by decide) (rm_arc l Z a0 hw [] b_30 (3 : Int32) (4 : Int32) wt h_30 n0 y_38 o_30 A_30 f_35 f_36 f_37 (by decide) (by decide) hwt) (by decide) (by decide) (by decide) (by decide) e_30 (b := b_30) (g := (mkF m 213 #[sI_ q0, sI_ q1, sI_ q2, sI_ q3, sJ_ qw, sS_, sI_ (2 : Int32), sI_ (1 : Int32), sI_ (3 : Int32), sI_ (4 : Int32), sI_ h1, sI_ h2, sI_ h3, sJ_ wt, sS_, sR_ lx, sR_ tx, sU_, sU_] [(.long wt), (.int (4 : Int32)), (.int (3 : Int32)), (.ref b_30), (.ref b_30), (.ref tx)])) rfl (by rw [hml]; rfl) (argsL := [(.int (3 : Int32)), (.int (4 : Int32)), (.long wt)]) (rest := [(.ref b_30), (.ref tx)]) (lenOf pd_13 rfl) rfl rfl (Nat.le_refl _) (hb hby at_213)
        obtain ⟨rfl, n_49, K_49, E_49, Ft_49, Fh_49, Fw_49⟩ := q_49
        have N_49 := Fr.app N n_49
        have f_50 := f_32.keep K_49 (allS o_30 all0)
        have f_52 := f_34.keep K_49
        have f_53 := A_30.keep K_49
        have y_57 : n0 ≤ T_49.heap.size := Nat.le_trans (Nat.le_of_eq f_50.1.symm) f_50.2.1
        refine Goes.go (U' := (T_49.setTop (mkF m 216 #[sI_ q0, sI_ q1, sI_ q2, sI_ q3, sJ_ qw, sS_, sI_ (2 : Int32), sI_ (1 : Int32), sI_ (3 : Int32), sI_ (4 : Int32), sI_ h1, sI_ h2, sI_ h3, sJ_ wt, sS_, sR_ lx, sR_ tx, sU_, sU_] [(.ref b_30), (.ref tx)]))) st_49 ?_
        have KK_49 : Ext h T_49.heap := Ext.of_keep (((Keep.refl h []).ext E_30).trans K_49 (allS (P := fun x => x ∈ [] ∨ h.size ≤ x) (Or.inr (Nat.le_of_eq g_30.symm)) all0))
        have HH_49 := HT0.ext KK_49
        obtain ⟨v_58, T_58, L_58, X_58, q_58, st_58⟩ := callVirtual X_49 hx hZ (y := (⟨"com/example/copse/copse/HangingTree", "hang", "(Lcom/example/copse/copse/Arc;)V"⟩ : MethodName)) (z := (⟨"com/example/copse/copse/HangingTree", "hang", "(Lcom/example/copse/copse/Arc;)V"⟩ : MethodName)) (W := 0) hown (wdOf hw 192 rfl) (wdOf hw 193 rfl) (notFace_of_selects (args := #[]) (mvT hZ (wdOf hw 195 rfl))) (wdOf hw 195 rfl) (wdOf hw 194 rfl) (wdOf hw 67 rfl) (wdOf hw 196 rfl) (by decide) (rm_hang4 l Z a0 hw [] tx b_30 la cK (2 : Int32) (3 : Int32) v0 v1 v2 v3 v4 T_49.heap n0 y_57 f_50 FL HH_49 f_53 Fh_49 Ft_49 ⟨by decide, by decide⟩) (by decide) (by decide) (by decide) (by decide) (rfl : T_49.heap = T_49.heap) f_52 (g := (mkF m 216 #[sI_ q0, sI_ q1, sI_ q2, sI_ q3, sJ_ qw, sS_, sI_ (2 : Int32), sI_ (1 : Int32), sI_ (3 : Int32), sI_ (4 : Int32), sI_ h1, sI_ h2, sI_ h3, sJ_ wt, sS_, sR_ lx, sR_ tx, sU_, sU_] [(.ref b_30), (.ref tx)])) rfl (by rw [hml]; rfl) (argsL := [(.ref b_30)]) (rest := []) (lenOf pd_14 rfl) rfl rfl (Nat.le_refl _) (hb hby at_216)
        obtain ⟨rfl, n_58, O_58, H_58⟩ := q_58
        have N_58 := Fr.app N_49 n_58
        have y_58 : n0 ≤ T_58.heap.size := Nat.le_trans (Nat.le_of_eq O_58.1.symm) O_58.2.1
        refine Goes.go (U' := (T_58.setTop (mkF m 219 #[sI_ q0, sI_ q1, sI_ q2, sI_ q3, sJ_ qw, sS_, sI_ (2 : Int32), sI_ (1 : Int32), sI_ (3 : Int32), sI_ (4 : Int32), sI_ h1, sI_ h2, sI_ h3, sJ_ wt, sS_, sR_ lx, sR_ tx, sU_, sU_] []))) st_58 ?_
        exact law_219 l Z a0 hw q0 q1 q2 q3 qw dx la kd cK (2 : Int32) (1 : Int32) (3 : Int32) (4 : Int32) h1 h2 h3 wt lx tx v0 v1 v2 v3 (.ref b_30) h0 n0 Z0 p e s m below meth c hx hby hml hown hnm hret hlk hZ _ _ _ X_58 (rfl : T_58.heap = T_58.heap) N_58  O_58 BC SH SD VD FL (own_RT2 rfl) hwt H_58 (by rw [A0]; simp) (R0) (by rw [A1]; simp) (R1) (by rw [A2]; simp) (R2) (by rw [A3]; simp) (R3) (by simp [cz]) (rfl)
    · -- r = 3
      refine Goes.go (U' := (T.setTop (mkF m 193 #[sI_ q0, sI_ q1, sI_ q2, sI_ q3, sJ_ qw, sS_, sI_ (3 : Int32), sI_ (1 : Int32), sI_ (2 : Int32), sI_ (4 : Int32), sI_ h1, sI_ h2, sI_ h3, sJ_ wt, sS_, sR_ lx, sR_ tx, sU_, sU_] [(.ref tx)]))) (fun t kt => ?_) ?_
      · skip
        refine XS.aload X.here hx rfl (hb hby at_191) rfl rfl ?_
        exact kt
      obtain ⟨T_59, h_59, X_59, e_59, E_59, A_59, D_59, -, st_59⟩ := newO X hx hZ hown (wdOf hw 174 rfl) (wdOf hw 175 rfl) (wdOf hw 176 rfl) eT (g := (mkF m 193 #[sI_ q0, sI_ q1, sI_ q2, sI_ q3, sJ_ qw, sS_, sI_ (3 : Int32), sI_ (1 : Int32), sI_ (2 : Int32), sI_ (4 : Int32), sI_ h1, sI_ h2, sI_ h3, sJ_ wt, sS_, sR_ lx, sR_ tx, sU_, sU_] [(.ref tx)])) rfl (hb hby at_193) (by decide) (by decide)
      obtain ⟨b_59, g_59⟩ : ∃ z, z = h.size := ⟨_, rfl⟩
      rw [← g_59] at A_59 D_59 st_59
      have ne_60 : tx ≠ b_59 := Nat.ne_of_lt (Nat.lt_of_lt_of_le (HTr.exa HT0).lt (Nat.le_of_eq g_59.symm))
      have o_59 : n0 ≤ b_59 := Nat.le_trans sz0 (Nat.le_of_eq g_59.symm)
      have f_61 := O.ext E_59
      have f_62 : HTr Z h_59 n0 tx la (3 : Int32) v0 v1 v2 v3 v4 := HT0.ext E_59
      have f_63 := (HTr.exa HT0).ext E_59
      have f_64 : Fld Z h_59 b_59 "com/example/copse/copse/Arc" "tail" "I" (.int (0 : Int32)) := D_59 (Or.inr (wdOf hw 187 rfl)) (ty := .int) (by decide)
      have f_65 : Fld Z h_59 b_59 "com/example/copse/copse/Arc" "head" "I" (.int (0 : Int32)) := D_59 (Or.inr (wdOf hw 189 rfl)) (ty := .int) (by decide)
      have f_66 : Fld Z h_59 b_59 "com/example/copse/copse/Arc" "weight" "J" (.long (0 : Int64)) := D_59 (Or.inr (wdOf hw 191 rfl)) (ty := .long) (by decide)
      have y_67 : n0 ≤ h_59.size := Nat.le_trans (Nat.le_of_eq f_61.1.symm) f_61.2.1
      refine Goes.go (U' := (T_59.setTop (mkF m 196 #[sI_ q0, sI_ q1, sI_ q2, sI_ q3, sJ_ qw, sS_, sI_ (3 : Int32), sI_ (1 : Int32), sI_ (2 : Int32), sI_ (4 : Int32), sI_ h1, sI_ h2, sI_ h3, sJ_ wt, sS_, sR_ lx, sR_ tx, sU_, sU_] [(.ref b_59), (.ref tx)]))) st_59 ?_
      refine Goes.go (U' := (T_59.setTop (mkF m 199 #[sI_ q0, sI_ q1, sI_ q2, sI_ q3, sJ_ qw, sS_, sI_ (3 : Int32), sI_ (1 : Int32), sI_ (2 : Int32), sI_ (4 : Int32), sI_ h1, sI_ h2, sI_ h3, sJ_ wt, sS_, sR_ lx, sR_ tx, sU_, sU_] [(.int h2), (.ref b_59), (.ref b_59), (.ref tx)]))) (fun t kt => ?_) ?_
      · skip
        refine XS.dup X_59.here hx rfl (hb hby at_196) rfl rfl ?_
        refine XS.iload X_59.here hx rfl (hb hby at_197) rfl ?_
        exact kt
      by_cases cy : h2 = 0
      · -- h2 = 0
        refine Goes.go (U' := (T_59.setTop (mkF m 213 #[sI_ q0, sI_ q1, sI_ q2, sI_ q3, sJ_ qw, sS_, sI_ (3 : Int32), sI_ (1 : Int32), sI_ (2 : Int32), sI_ (4 : Int32), sI_ h1, sI_ h2, sI_ h3, sJ_ wt, sS_, sR_ lx, sR_ tx, sU_, sU_] [(.long wt), (.int (4 : Int32)), (.int (3 : Int32)), (.ref b_59), (.ref b_59), (.ref tx)]))) (fun t kt => ?_) ?_
        · skip
          refine XS.ifYes X_59.here hx rfl (pc0 := 199) (pc' := 207) rfl (hb hby at_199) rfl (XT.i0_eq_t cy) (by decide) (by decide) ?_
          refine XS.iload X_59.here hx rfl (hb hby at_207) rfl ?_
          refine XS.iload X_59.here hx rfl (hb hby at_209) rfl ?_
          refine XS.lload X_59.here hx rfl (hb hby at_211) rfl ?_
          exact kt
        obtain ⟨v_68, T_68, L_68, X_68, q_68, st_68⟩ := callInit X_59 hx hZ (y := (⟨"com/example/copse/copse/Arc", "<init>", "(IIJ)V"⟩ : MethodName)) (W := 2) rfl hown (wdOf hw 177 rfl) (wdOf hw 178 rfl) (wdOf hw 176 rfl) (wdOf hw 179 rfl) (by decide) (rm_arc l Z a0 hw [] b_59 (3 : Int32) (4 : Int32) wt h_59 n0 y_67 o_59 A_59 f_64 f_65 f_66 (by decide) (by decide) hwt) (by decide) (by decide) (by decide) (by decide) e_59 (b := b_59) (g := (mkF m 213 #[sI_ q0, sI_ q1, sI_ q2, sI_ q3, sJ_ qw, sS_, sI_ (3 : Int32), sI_ (1 : Int32), sI_ (2 : Int32), sI_ (4 : Int32), sI_ h1, sI_ h2, sI_ h3, sJ_ wt, sS_, sR_ lx, sR_ tx, sU_, sU_] [(.long wt), (.int (4 : Int32)), (.int (3 : Int32)), (.ref b_59), (.ref b_59), (.ref tx)])) rfl (by rw [hml]; rfl) (argsL := [(.int (3 : Int32)), (.int (4 : Int32)), (.long wt)]) (rest := [(.ref b_59), (.ref tx)]) (lenOf pd_13 rfl) rfl rfl (Nat.le_refl _) (hb hby at_213)
        obtain ⟨rfl, n_68, K_68, E_68, Ft_68, Fh_68, Fw_68⟩ := q_68
        have N_68 := Fr.app N n_68
        have f_69 := f_61.keep K_68 (allS o_59 all0)
        have f_71 := f_63.keep K_68
        have f_72 := A_59.keep K_68
        have y_76 : n0 ≤ T_68.heap.size := Nat.le_trans (Nat.le_of_eq f_69.1.symm) f_69.2.1
        refine Goes.go (U' := (T_68.setTop (mkF m 216 #[sI_ q0, sI_ q1, sI_ q2, sI_ q3, sJ_ qw, sS_, sI_ (3 : Int32), sI_ (1 : Int32), sI_ (2 : Int32), sI_ (4 : Int32), sI_ h1, sI_ h2, sI_ h3, sJ_ wt, sS_, sR_ lx, sR_ tx, sU_, sU_] [(.ref b_59), (.ref tx)]))) st_68 ?_
        have KK_68 : Ext h T_68.heap := Ext.of_keep (((Keep.refl h []).ext E_59).trans K_68 (allS (P := fun x => x ∈ [] ∨ h.size ≤ x) (Or.inr (Nat.le_of_eq g_59.symm)) all0))
        have HH_68 := HT0.ext KK_68
        obtain ⟨v_77, T_77, L_77, X_77, q_77, st_77⟩ := callVirtual X_68 hx hZ (y := (⟨"com/example/copse/copse/HangingTree", "hang", "(Lcom/example/copse/copse/Arc;)V"⟩ : MethodName)) (z := (⟨"com/example/copse/copse/HangingTree", "hang", "(Lcom/example/copse/copse/Arc;)V"⟩ : MethodName)) (W := 0) hown (wdOf hw 192 rfl) (wdOf hw 193 rfl) (notFace_of_selects (args := #[]) (mvT hZ (wdOf hw 195 rfl))) (wdOf hw 195 rfl) (wdOf hw 194 rfl) (wdOf hw 67 rfl) (wdOf hw 196 rfl) (by decide) (rm_hang4 l Z a0 hw [] tx b_59 la cK (3 : Int32) (3 : Int32) v0 v1 v2 v3 v4 T_68.heap n0 y_76 f_69 FL HH_68 f_72 Fh_68 Ft_68 ⟨by decide, by decide⟩) (by decide) (by decide) (by decide) (by decide) (rfl : T_68.heap = T_68.heap) f_71 (g := (mkF m 216 #[sI_ q0, sI_ q1, sI_ q2, sI_ q3, sJ_ qw, sS_, sI_ (3 : Int32), sI_ (1 : Int32), sI_ (2 : Int32), sI_ (4 : Int32), sI_ h1, sI_ h2, sI_ h3, sJ_ wt, sS_, sR_ lx, sR_ tx, sU_, sU_] [(.ref b_59), (.ref tx)])) rfl (by rw [hml]; rfl) (argsL := [(.ref b_59)]) (rest := []) (lenOf pd_14 rfl) rfl rfl (Nat.le_refl _) (hb hby at_216)
        obtain ⟨rfl, n_77, O_77, H_77⟩ := q_77
        have N_77 := Fr.app N_68 n_77
        have y_77 : n0 ≤ T_77.heap.size := Nat.le_trans (Nat.le_of_eq O_77.1.symm) O_77.2.1
        refine Goes.go (U' := (T_77.setTop (mkF m 219 #[sI_ q0, sI_ q1, sI_ q2, sI_ q3, sJ_ qw, sS_, sI_ (3 : Int32), sI_ (1 : Int32), sI_ (2 : Int32), sI_ (4 : Int32), sI_ h1, sI_ h2, sI_ h3, sJ_ wt, sS_, sR_ lx, sR_ tx, sU_, sU_] []))) st_77 ?_
        exact law_219 l Z a0 hw q0 q1 q2 q3 qw dx la kd cK (3 : Int32) (1 : Int32) (2 : Int32) (4 : Int32) h1 h2 h3 wt lx tx v0 v1 v2 v3 (.ref b_59) h0 n0 Z0 p e s m below meth c hx hby hml hown hnm hret hlk hZ _ _ _ X_77 (rfl : T_77.heap = T_77.heap) N_77  O_77 BC SH SD VD FL (own_RT3 rfl) hwt H_77 (by rw [A0]; simp) (R0) (by rw [A1]; simp) (R1) (by rw [A2]; simp) (R2) (by rw [A3]; simp) (R3) (by simp [cz]) (rfl)
      · -- not h2 = 0
        refine Goes.go (U' := (T_59.setTop (mkF m 213 #[sI_ q0, sI_ q1, sI_ q2, sI_ q3, sJ_ qw, sS_, sI_ (3 : Int32), sI_ (1 : Int32), sI_ (2 : Int32), sI_ (4 : Int32), sI_ h1, sI_ h2, sI_ h3, sJ_ wt, sS_, sR_ lx, sR_ tx, sU_, sU_] [(.long wt), (.int (4 : Int32)), (.int (2 : Int32)), (.ref b_59), (.ref b_59), (.ref tx)]))) (fun t kt => ?_) ?_
        · skip
          refine XS.ifNo X_59.here hx rfl (hb hby at_199) rfl (XT.i0_eq_f cy) ?_
          refine XS.iload X_59.here hx rfl (hb hby at_202) rfl ?_
          refine XS.goto X_59.here hx rfl (pc0 := 204) (pc' := 209) rfl (hb hby at_204) (by decide) (by decide) ?_
          refine XS.iload X_59.here hx rfl (hb hby at_209) rfl ?_
          refine XS.lload X_59.here hx rfl (hb hby at_211) rfl ?_
          exact kt
        obtain ⟨v_78, T_78, L_78, X_78, q_78, st_78⟩ := callInit X_59 hx hZ (y := (⟨"com/example/copse/copse/Arc", "<init>", "(IIJ)V"⟩ : MethodName)) (W := 2) rfl hown (wdOf hw 177 rfl) (wdOf hw 178 rfl) (wdOf hw 176 rfl) (wdOf hw 179 rfl) (by decide) (rm_arc l Z a0 hw [] b_59 (2 : Int32) (4 : Int32) wt h_59 n0 y_67 o_59 A_59 f_64 f_65 f_66 (by decide) (by decide) hwt) (by decide) (by decide) (by decide) (by decide) e_59 (b := b_59) (g := (mkF m 213 #[sI_ q0, sI_ q1, sI_ q2, sI_ q3, sJ_ qw, sS_, sI_ (3 : Int32), sI_ (1 : Int32), sI_ (2 : Int32), sI_ (4 : Int32), sI_ h1, sI_ h2, sI_ h3, sJ_ wt, sS_, sR_ lx, sR_ tx, sU_, sU_] [(.long wt), (.int (4 : Int32)), (.int (2 : Int32)), (.ref b_59), (.ref b_59), (.ref tx)])) rfl (by rw [hml]; rfl) (argsL := [(.int (2 : Int32)), (.int (4 : Int32)), (.long wt)]) (rest := [(.ref b_59), (.ref tx)]) (lenOf pd_13 rfl) rfl rfl (Nat.le_refl _) (hb hby at_213)
        obtain ⟨rfl, n_78, K_78, E_78, Ft_78, Fh_78, Fw_78⟩ := q_78
        have N_78 := Fr.app N n_78
        have f_79 := f_61.keep K_78 (allS o_59 all0)
        have f_81 := f_63.keep K_78
        have f_82 := A_59.keep K_78
        have y_86 : n0 ≤ T_78.heap.size := Nat.le_trans (Nat.le_of_eq f_79.1.symm) f_79.2.1
        refine Goes.go (U' := (T_78.setTop (mkF m 216 #[sI_ q0, sI_ q1, sI_ q2, sI_ q3, sJ_ qw, sS_, sI_ (3 : Int32), sI_ (1 : Int32), sI_ (2 : Int32), sI_ (4 : Int32), sI_ h1, sI_ h2, sI_ h3, sJ_ wt, sS_, sR_ lx, sR_ tx, sU_, sU_] [(.ref b_59), (.ref tx)]))) st_78 ?_
        have KK_78 : Ext h T_78.heap := Ext.of_keep (((Keep.refl h []).ext E_59).trans K_78 (allS (P := fun x => x ∈ [] ∨ h.size ≤ x) (Or.inr (Nat.le_of_eq g_59.symm)) all0))
        have HH_78 := HT0.ext KK_78
        obtain ⟨v_87, T_87, L_87, X_87, q_87, st_87⟩ := callVirtual X_78 hx hZ (y := (⟨"com/example/copse/copse/HangingTree", "hang", "(Lcom/example/copse/copse/Arc;)V"⟩ : MethodName)) (z := (⟨"com/example/copse/copse/HangingTree", "hang", "(Lcom/example/copse/copse/Arc;)V"⟩ : MethodName)) (W := 0) hown (wdOf hw 192 rfl) (wdOf hw 193 rfl) (notFace_of_selects (args := #[]) (mvT hZ (wdOf hw 195 rfl))) (wdOf hw 195 rfl) (wdOf hw 194 rfl) (wdOf hw 67 rfl) (wdOf hw 196 rfl) (by decide) (rm_hang4 l Z a0 hw [] tx b_59 la cK (3 : Int32) (2 : Int32) v0 v1 v2 v3 v4 T_78.heap n0 y_86 f_79 FL HH_78 f_82 Fh_78 Ft_78 ⟨by decide, by decide⟩) (by decide) (by decide) (by decide) (by decide) (rfl : T_78.heap = T_78.heap) f_81 (g := (mkF m 216 #[sI_ q0, sI_ q1, sI_ q2, sI_ q3, sJ_ qw, sS_, sI_ (3 : Int32), sI_ (1 : Int32), sI_ (2 : Int32), sI_ (4 : Int32), sI_ h1, sI_ h2, sI_ h3, sJ_ wt, sS_, sR_ lx, sR_ tx, sU_, sU_] [(.ref b_59), (.ref tx)])) rfl (by rw [hml]; rfl) (argsL := [(.ref b_59)]) (rest := []) (lenOf pd_14 rfl) rfl rfl (Nat.le_refl _) (hb hby at_216)
        obtain ⟨rfl, n_87, O_87, H_87⟩ := q_87
        have N_87 := Fr.app N_78 n_87
        have y_87 : n0 ≤ T_87.heap.size := Nat.le_trans (Nat.le_of_eq O_87.1.symm) O_87.2.1
        refine Goes.go (U' := (T_87.setTop (mkF m 219 #[sI_ q0, sI_ q1, sI_ q2, sI_ q3, sJ_ qw, sS_, sI_ (3 : Int32), sI_ (1 : Int32), sI_ (2 : Int32), sI_ (4 : Int32), sI_ h1, sI_ h2, sI_ h3, sJ_ wt, sS_, sR_ lx, sR_ tx, sU_, sU_] []))) st_87 ?_
        exact law_219 l Z a0 hw q0 q1 q2 q3 qw dx la kd cK (3 : Int32) (1 : Int32) (2 : Int32) (4 : Int32) h1 h2 h3 wt lx tx v0 v1 v2 v3 (.ref b_59) h0 n0 Z0 p e s m below meth c hx hby hml hown hnm hret hlk hZ _ _ _ X_87 (rfl : T_87.heap = T_87.heap) N_87  O_87 BC SH SD VD FL (own_RT3 rfl) hwt H_87 (by rw [A0]; simp) (R0) (by rw [A1]; simp) (R1) (by rw [A2]; simp) (R2) (by rw [A3]; simp) (R3) (by simp [cz]) (rfl)
    · -- r = 4
      refine Goes.go (U' := (T.setTop (mkF m 193 #[sI_ q0, sI_ q1, sI_ q2, sI_ q3, sJ_ qw, sS_, sI_ (4 : Int32), sI_ (1 : Int32), sI_ (2 : Int32), sI_ (3 : Int32), sI_ h1, sI_ h2, sI_ h3, sJ_ wt, sS_, sR_ lx, sR_ tx, sU_, sU_] [(.ref tx)]))) (fun t kt => ?_) ?_
      · skip
        refine XS.aload X.here hx rfl (hb hby at_191) rfl rfl ?_
        exact kt
      obtain ⟨T_88, h_88, X_88, e_88, E_88, A_88, D_88, -, st_88⟩ := newO X hx hZ hown (wdOf hw 174 rfl) (wdOf hw 175 rfl) (wdOf hw 176 rfl) eT (g := (mkF m 193 #[sI_ q0, sI_ q1, sI_ q2, sI_ q3, sJ_ qw, sS_, sI_ (4 : Int32), sI_ (1 : Int32), sI_ (2 : Int32), sI_ (3 : Int32), sI_ h1, sI_ h2, sI_ h3, sJ_ wt, sS_, sR_ lx, sR_ tx, sU_, sU_] [(.ref tx)])) rfl (hb hby at_193) (by decide) (by decide)
      obtain ⟨b_88, g_88⟩ : ∃ z, z = h.size := ⟨_, rfl⟩
      rw [← g_88] at A_88 D_88 st_88
      have ne_89 : tx ≠ b_88 := Nat.ne_of_lt (Nat.lt_of_lt_of_le (HTr.exa HT0).lt (Nat.le_of_eq g_88.symm))
      have o_88 : n0 ≤ b_88 := Nat.le_trans sz0 (Nat.le_of_eq g_88.symm)
      have f_90 := O.ext E_88
      have f_91 : HTr Z h_88 n0 tx la (4 : Int32) v0 v1 v2 v3 v4 := HT0.ext E_88
      have f_92 := (HTr.exa HT0).ext E_88
      have f_93 : Fld Z h_88 b_88 "com/example/copse/copse/Arc" "tail" "I" (.int (0 : Int32)) := D_88 (Or.inr (wdOf hw 187 rfl)) (ty := .int) (by decide)
      have f_94 : Fld Z h_88 b_88 "com/example/copse/copse/Arc" "head" "I" (.int (0 : Int32)) := D_88 (Or.inr (wdOf hw 189 rfl)) (ty := .int) (by decide)
      have f_95 : Fld Z h_88 b_88 "com/example/copse/copse/Arc" "weight" "J" (.long (0 : Int64)) := D_88 (Or.inr (wdOf hw 191 rfl)) (ty := .long) (by decide)
      have y_96 : n0 ≤ h_88.size := Nat.le_trans (Nat.le_of_eq f_90.1.symm) f_90.2.1
      refine Goes.go (U' := (T_88.setTop (mkF m 196 #[sI_ q0, sI_ q1, sI_ q2, sI_ q3, sJ_ qw, sS_, sI_ (4 : Int32), sI_ (1 : Int32), sI_ (2 : Int32), sI_ (3 : Int32), sI_ h1, sI_ h2, sI_ h3, sJ_ wt, sS_, sR_ lx, sR_ tx, sU_, sU_] [(.ref b_88), (.ref tx)]))) st_88 ?_
      refine Goes.go (U' := (T_88.setTop (mkF m 199 #[sI_ q0, sI_ q1, sI_ q2, sI_ q3, sJ_ qw, sS_, sI_ (4 : Int32), sI_ (1 : Int32), sI_ (2 : Int32), sI_ (3 : Int32), sI_ h1, sI_ h2, sI_ h3, sJ_ wt, sS_, sR_ lx, sR_ tx, sU_, sU_] [(.int h2), (.ref b_88), (.ref b_88), (.ref tx)]))) (fun t kt => ?_) ?_
      · skip
        refine XS.dup X_88.here hx rfl (hb hby at_196) rfl rfl ?_
        refine XS.iload X_88.here hx rfl (hb hby at_197) rfl ?_
        exact kt
      by_cases cy : h2 = 0
      · -- h2 = 0
        refine Goes.go (U' := (T_88.setTop (mkF m 213 #[sI_ q0, sI_ q1, sI_ q2, sI_ q3, sJ_ qw, sS_, sI_ (4 : Int32), sI_ (1 : Int32), sI_ (2 : Int32), sI_ (3 : Int32), sI_ h1, sI_ h2, sI_ h3, sJ_ wt, sS_, sR_ lx, sR_ tx, sU_, sU_] [(.long wt), (.int (3 : Int32)), (.int (4 : Int32)), (.ref b_88), (.ref b_88), (.ref tx)]))) (fun t kt => ?_) ?_
        · skip
          refine XS.ifYes X_88.here hx rfl (pc0 := 199) (pc' := 207) rfl (hb hby at_199) rfl (XT.i0_eq_t cy) (by decide) (by decide) ?_
          refine XS.iload X_88.here hx rfl (hb hby at_207) rfl ?_
          refine XS.iload X_88.here hx rfl (hb hby at_209) rfl ?_
          refine XS.lload X_88.here hx rfl (hb hby at_211) rfl ?_
          exact kt
        obtain ⟨v_97, T_97, L_97, X_97, q_97, st_97⟩ := callInit X_88 hx hZ (y := (⟨"com/example/copse/copse/Arc", "<init>", "(IIJ)V"⟩ : MethodName)) (W := 2) rfl hown (wdOf hw 177 rfl) (wdOf hw 178 rfl) (wdOf hw 176 rfl) (wdOf hw 179 rfl) (by decide) (rm_arc l Z a0 hw [] b_88 (4 : Int32) (3 : Int32) wt h_88 n0 y_96 o_88 A_88 f_93 f_94 f_95 (by decide) (by decide) hwt) (by decide) (by decide) (by decide) (by decide) e_88 (b := b_88) (g := (mkF m 213 #[sI_ q0, sI_ q1, sI_ q2, sI_ q3, sJ_ qw, sS_, sI_ (4 : Int32), sI_ (1 : Int32), sI_ (2 : Int32), sI_ (3 : Int32), sI_ h1, sI_ h2, sI_ h3, sJ_ wt, sS_, sR_ lx, sR_ tx, sU_, sU_] [(.long wt), (.int (3 : Int32)), (.int (4 : Int32)), (.ref b_88), (.ref b_88), (.ref tx)])) rfl (by rw [hml]; rfl) (argsL := [(.int (4 : Int32)), (.int (3 : Int32)), (.long wt)]) (rest := [(.ref b_88), (.ref tx)]) (lenOf pd_13 rfl) rfl rfl (Nat.le_refl _) (hb hby at_213)
        obtain ⟨rfl, n_97, K_97, E_97, Ft_97, Fh_97, Fw_97⟩ := q_97
        have N_97 := Fr.app N n_97
        have f_98 := f_90.keep K_97 (allS o_88 all0)
        have f_100 := f_92.keep K_97
        have f_101 := A_88.keep K_97
        have y_105 : n0 ≤ T_97.heap.size := Nat.le_trans (Nat.le_of_eq f_98.1.symm) f_98.2.1
        refine Goes.go (U' := (T_97.setTop (mkF m 216 #[sI_ q0, sI_ q1, sI_ q2, sI_ q3, sJ_ qw, sS_, sI_ (4 : Int32), sI_ (1 : Int32), sI_ (2 : Int32), sI_ (3 : Int32), sI_ h1, sI_ h2, sI_ h3, sJ_ wt, sS_, sR_ lx, sR_ tx, sU_, sU_] [(.ref b_88), (.ref tx)]))) st_97 ?_
        have KK_97 : Ext h T_97.heap := Ext.of_keep (((Keep.refl h []).ext E_88).trans K_97 (allS (P := fun x => x ∈ [] ∨ h.size ≤ x) (Or.inr (Nat.le_of_eq g_88.symm)) all0))
        have HH_97 := HT0.ext KK_97
        obtain ⟨v_106, T_106, L_106, X_106, q_106, st_106⟩ := callVirtual X_97 hx hZ (y := (⟨"com/example/copse/copse/HangingTree", "hang", "(Lcom/example/copse/copse/Arc;)V"⟩ : MethodName)) (z := (⟨"com/example/copse/copse/HangingTree", "hang", "(Lcom/example/copse/copse/Arc;)V"⟩ : MethodName)) (W := 0) hown (wdOf hw 192 rfl) (wdOf hw 193 rfl) (notFace_of_selects (args := #[]) (mvT hZ (wdOf hw 195 rfl))) (wdOf hw 195 rfl) (wdOf hw 194 rfl) (wdOf hw 67 rfl) (wdOf hw 196 rfl) (by decide) (rm_hang3 l Z a0 hw [] tx b_88 la cK (4 : Int32) (4 : Int32) v0 v1 v2 v3 v4 T_97.heap n0 y_105 f_98 FL HH_97 f_101 Fh_97 Ft_97 ⟨by decide, by decide⟩) (by decide) (by decide) (by decide) (by decide) (rfl : T_97.heap = T_97.heap) f_100 (g := (mkF m 216 #[sI_ q0, sI_ q1, sI_ q2, sI_ q3, sJ_ qw, sS_, sI_ (4 : Int32), sI_ (1 : Int32), sI_ (2 : Int32), sI_ (3 : Int32), sI_ h1, sI_ h2, sI_ h3, sJ_ wt, sS_, sR_ lx, sR_ tx, sU_, sU_] [(.ref b_88), (.ref tx)])) rfl (by rw [hml]; rfl) (argsL := [(.ref b_88)]) (rest := []) (lenOf pd_14 rfl) rfl rfl (Nat.le_refl _) (hb hby at_216)
        obtain ⟨rfl, n_106, O_106, H_106⟩ := q_106
        have N_106 := Fr.app N_97 n_106
        have y_106 : n0 ≤ T_106.heap.size := Nat.le_trans (Nat.le_of_eq O_106.1.symm) O_106.2.1
        refine Goes.go (U' := (T_106.setTop (mkF m 219 #[sI_ q0, sI_ q1, sI_ q2, sI_ q3, sJ_ qw, sS_, sI_ (4 : Int32), sI_ (1 : Int32), sI_ (2 : Int32), sI_ (3 : Int32), sI_ h1, sI_ h2, sI_ h3, sJ_ wt, sS_, sR_ lx, sR_ tx, sU_, sU_] []))) st_106 ?_
        exact law_219 l Z a0 hw q0 q1 q2 q3 qw dx la kd cK (4 : Int32) (1 : Int32) (2 : Int32) (3 : Int32) h1 h2 h3 wt lx tx v0 v1 v2 (.ref b_88) v4 h0 n0 Z0 p e s m below meth c hx hby hml hown hnm hret hlk hZ _ _ _ X_106 (rfl : T_106.heap = T_106.heap) N_106  O_106 BC SH SD VD FL (own_RT4 rfl) hwt H_106 (by rw [A0]; simp) (R0) (by rw [A1]; simp) (R1) (by rw [A2]; simp) (R2) (by simp [cz]) (rfl) (by rw [A4]; simp) (R4)
      · -- not h2 = 0
        refine Goes.go (U' := (T_88.setTop (mkF m 213 #[sI_ q0, sI_ q1, sI_ q2, sI_ q3, sJ_ qw, sS_, sI_ (4 : Int32), sI_ (1 : Int32), sI_ (2 : Int32), sI_ (3 : Int32), sI_ h1, sI_ h2, sI_ h3, sJ_ wt, sS_, sR_ lx, sR_ tx, sU_, sU_] [(.long wt), (.int (3 : Int32)), (.int (2 : Int32)), (.ref b_88), (.ref b_88), (.ref tx)]))) (fun t kt => ?_) ?_
        · skip
          refine XS.ifNo X_88.here hx rfl (hb hby at_199) rfl (XT.i0_eq_f cy) ?_
          refine XS.iload X_88.here hx rfl (hb hby at_202) rfl ?_
          refine XS.goto X_88.here hx rfl (pc0 := 204) (pc' := 209) rfl (hb hby at_204) (by decide) (by decide) ?_
          refine XS.iload X_88.here hx rfl (hb hby at_209) rfl ?_
          refine XS.lload X_88.here hx rfl (hb hby at_211) rfl ?_
          exact kt
        obtain ⟨v_107, T_107, L_107, X_107, q_107, st_107⟩ := callInit X_88 hx hZ (y := (⟨"com/example/copse/copse/Arc", "<init>", "(IIJ)V"⟩ : MethodName)) (W := 2) rfl hown (wdOf hw 177 rfl) (wdOf hw 178 rfl) (wdOf hw 176 rfl) (wdOf hw 179 rfl) (by decide) (rm_arc l Z a0 hw [] b_88 (2 : Int32) (3 : Int32) wt h_88 n0 y_96 o_88 A_88 f_93 f_94 f_95 (by decide) (by decide) hwt) (by decide) (by decide) (by decide) (by decide) e_88 (b := b_88) (g := (mkF m 213 #[sI_ q0, sI_ q1, sI_ q2, sI_ q3, sJ_ qw, sS_, sI_ (4 : Int32), sI_ (1 : Int32), sI_ (2 : Int32), sI_ (3 : Int32), sI_ h1, sI_ h2, sI_ h3, sJ_ wt, sS_, sR_ lx, sR_ tx, sU_, sU_] [(.long wt), (.int (3 : Int32)), (.int (2 : Int32)), (.ref b_88), (.ref b_88), (.ref tx)])) rfl (by rw [hml]; rfl) (argsL := [(.int (2 : Int32)), (.int (3 : Int32)), (.long wt)]) (rest := [(.ref b_88), (.ref tx)]) (lenOf pd_13 rfl) rfl rfl (Nat.le_refl _) (hb hby at_213)
        obtain ⟨rfl, n_107, K_107, E_107, Ft_107, Fh_107, Fw_107⟩ := q_107
        have N_107 := Fr.app N n_107
        have f_108 := f_90.keep K_107 (allS o_88 all0)
        have f_110 := f_92.keep K_107
        have f_111 := A_88.keep K_107
        have y_115 : n0 ≤ T_107.heap.size := Nat.le_trans (Nat.le_of_eq f_108.1.symm) f_108.2.1
        refine Goes.go (U' := (T_107.setTop (mkF m 216 #[sI_ q0, sI_ q1, sI_ q2, sI_ q3, sJ_ qw, sS_, sI_ (4 : Int32), sI_ (1 : Int32), sI_ (2 : Int32), sI_ (3 : Int32), sI_ h1, sI_ h2, sI_ h3, sJ_ wt, sS_, sR_ lx, sR_ tx, sU_, sU_] [(.ref b_88), (.ref tx)]))) st_107 ?_
        have KK_107 : Ext h T_107.heap := Ext.of_keep (((Keep.refl h []).ext E_88).trans K_107 (allS (P := fun x => x ∈ [] ∨ h.size ≤ x) (Or.inr (Nat.le_of_eq g_88.symm)) all0))
        have HH_107 := HT0.ext KK_107
        obtain ⟨v_116, T_116, L_116, X_116, q_116, st_116⟩ := callVirtual X_107 hx hZ (y := (⟨"com/example/copse/copse/HangingTree", "hang", "(Lcom/example/copse/copse/Arc;)V"⟩ : MethodName)) (z := (⟨"com/example/copse/copse/HangingTree", "hang", "(Lcom/example/copse/copse/Arc;)V"⟩ : MethodName)) (W := 0) hown (wdOf hw 192 rfl) (wdOf hw 193 rfl) (notFace_of_selects (args := #[]) (mvT hZ (wdOf hw 195 rfl))) (wdOf hw 195 rfl) (wdOf hw 194 rfl) (wdOf hw 67 rfl) (wdOf hw 196 rfl) (by decide) (rm_hang3 l Z a0 hw [] tx b_88 la cK (4 : Int32) (2 : Int32) v0 v1 v2 v3 v4 T_107.heap n0 y_115 f_108 FL HH_107 f_111 Fh_107 Ft_107 ⟨by decide, by decide⟩) (by decide) (by decide) (by decide) (by decide) (rfl : T_107.heap = T_107.heap) f_110 (g := (mkF m 216 #[sI_ q0, sI_ q1, sI_ q2, sI_ q3, sJ_ qw, sS_, sI_ (4 : Int32), sI_ (1 : Int32), sI_ (2 : Int32), sI_ (3 : Int32), sI_ h1, sI_ h2, sI_ h3, sJ_ wt, sS_, sR_ lx, sR_ tx, sU_, sU_] [(.ref b_88), (.ref tx)])) rfl (by rw [hml]; rfl) (argsL := [(.ref b_88)]) (rest := []) (lenOf pd_14 rfl) rfl rfl (Nat.le_refl _) (hb hby at_216)
        obtain ⟨rfl, n_116, O_116, H_116⟩ := q_116
        have N_116 := Fr.app N_107 n_116
        have y_116 : n0 ≤ T_116.heap.size := Nat.le_trans (Nat.le_of_eq O_116.1.symm) O_116.2.1
        refine Goes.go (U' := (T_116.setTop (mkF m 219 #[sI_ q0, sI_ q1, sI_ q2, sI_ q3, sJ_ qw, sS_, sI_ (4 : Int32), sI_ (1 : Int32), sI_ (2 : Int32), sI_ (3 : Int32), sI_ h1, sI_ h2, sI_ h3, sJ_ wt, sS_, sR_ lx, sR_ tx, sU_, sU_] []))) st_116 ?_
        exact law_219 l Z a0 hw q0 q1 q2 q3 qw dx la kd cK (4 : Int32) (1 : Int32) (2 : Int32) (3 : Int32) h1 h2 h3 wt lx tx v0 v1 v2 (.ref b_88) v4 h0 n0 Z0 p e s m below meth c hx hby hml hown hnm hret hlk hZ _ _ _ X_116 (rfl : T_116.heap = T_116.heap) N_116  O_116 BC SH SD VD FL (own_RT4 rfl) hwt H_116 (by rw [A0]; simp) (R0) (by rw [A1]; simp) (R1) (by rw [A2]; simp) (R2) (by simp [cz]) (rfl) (by rw [A4]; simp) (R4)
set_option maxRecDepth 65536 in
set_option maxHeartbeats 40000000 in
theorem law_153 (l : Launch) (Z : State) (a0 : Array Value) (hw : ∀ d ∈ tables_1, d.before a0 Z = true) (q0 q1 q2 q3 : Int32) (qw : Int64) (dx la : Addr) (kd cK : ClassId) (r o1 o2 o3 : Int32) (h1 h2 h3 : Int32) (wt : Int64) (lx tx : Addr) (v0 v1 v2 v3 v4 : Value) (h0 : Heap) (n0 : Nat) (Z0 : n0 ≤ h0.size) (p : Program) (e : Env) (s : State) (m : MethodId) (below : List Frame) (meth : Method) (c : Code) (hx : p.tables.exec = Jvm.exec) (hby : c.code = code) (hml : c.maxLocals = maxLocals) (hown : s.vm.findClass "com/example/copse/copse/HangingTreeContainsPinLaw" = some m.cls) (hnm : meth.name = "law") (hret : meth.sig.returnType = ret) (hlk : meth.locks = false) (hZ : Z.Warmed39 s.vm) (h : Heap) (T : State) (locs : List Loc) (X : Stand p l e room_1 s m #[(.int q0), (.int q1), (.int q2), (.int q3), (.long qw)] below meth c T locs 18 103) (eT : T.heap = h) (N : Fr n0 locs) (O : Old Z n0 h) (BC : BoxC Z "java/lang/Integer$IntegerCache" "[Ljava/lang/Integer;" "java/lang/Integer" "I" (fun i => .int (i.toInt32 - 128))) (SH : Sta Z Z.heap "java/lang/Integer$IntegerCache" "high" "I" (.int (127 : Int32))) (SD : Sta Z Z.heap "java/util/ArrayList" "DEFAULTCAPACITY_EMPTY_ELEMENTDATA" "[Ljava/lang/Object;" (.ref dx)) (VD : Arv Z Z.heap dx kd (.object "java/lang/Object") (0 : Int32) [] .null) (FL : HLam.Lam Z cK la) (RT : RTs r o1 o2 o3) (hwt : ¬ wt < (0 : Int64)) (HT0 : HTr Z h n0 tx la r v0 v1 v2 v3 v4) (A0 : v0 = Value.null ↔ ¬ ((o1 = (0 : Int32) ∧ ¬ h1 = 0))) (R0 : v0.isRef = true) (A1 : v1 = Value.null ↔ ¬ ((o1 = (1 : Int32) ∧ ¬ h1 = 0))) (R1 : v1.isRef = true) (A2 : v2 = Value.null ↔ ¬ ((o1 = (2 : Int32) ∧ ¬ h1 = 0))) (R2 : v2.isRef = true) (A3 : v3 = Value.null ↔ ¬ ((o1 = (3 : Int32) ∧ ¬ h1 = 0))) (R3 : v3.isRef = true) (A4 : v4 = Value.null ↔ ¬ ((o1 = (4 : Int32) ∧ ¬ h1 = 0))) (R4 : v4.isRef = true) :
    Goes p e s below (fun v h L => v = some (.int 1) ∧ Fr n0 L) room_1.cells room_1.slots (T.setTop (mkF m 153 #[sI_ q0, sI_ q1, sI_ q2, sI_ q3, sJ_ qw, sS_, sI_ r, sI_ o1, sI_ o2, sI_ o3, sI_ h1, sI_ h2, sI_ h3, sJ_ wt, sS_, sR_ lx, sR_ tx, sU_, sU_] [])) := by
  have sz0 : n0 ≤ h.size := Nat.le_trans (Nat.le_of_eq O.1.symm) O.2.1
  refine Goes.go (U' := (T.setTop (mkF m 155 #[sI_ q0, sI_ q1, sI_ q2, sI_ q3, sJ_ qw, sS_, sI_ r, sI_ o1, sI_ o2, sI_ o3, sI_ h1, sI_ h2, sI_ h3, sJ_ wt, sS_, sR_ lx, sR_ tx, sU_, sU_] [(.int h2)]))) (fun t kt => ?_) ?_
  · skip
    refine XS.iload X.here hx rfl (hb hby at_153) rfl ?_
    exact kt
  by_cases cz : h2 = 0
  · -- h2 = 0
    refine Goes.go (U' := (T.setTop (mkF m 186 #[sI_ q0, sI_ q1, sI_ q2, sI_ q3, sJ_ qw, sS_, sI_ r, sI_ o1, sI_ o2, sI_ o3, sI_ h1, sI_ h2, sI_ h3, sJ_ wt, sS_, sR_ lx, sR_ tx, sU_, sU_] []))) (fun t kt => ?_) ?_
    · skip
      refine XS.ifYes X.here hx rfl (pc0 := 155) (pc' := 186) rfl (hb hby at_155) rfl (XT.i0_eq_t cz) (by decide) (by decide) ?_
      exact kt
    exact law_186 l Z a0 hw q0 q1 q2 q3 qw dx la kd cK r o1 o2 o3 h1 h2 h3 wt lx tx v0 v1 v2 v3 v4 h0 n0 Z0 p e s m below meth c hx hby hml hown hnm hret hlk hZ _ _ _ (moreRoom (cells' := 19) (slots' := 106) X (by decide) (by decide)) eT N  O BC SH SD VD FL RT hwt HT0 (by rw [A0]; simp [cz]) (R0) (by rw [A1]; simp [cz]) (R1) (by rw [A2]; simp [cz]) (R2) (by rw [A3]; simp [cz]) (R3) (by rw [A4]; simp [cz]) (R4)
  · -- not h2 = 0
    refine Goes.go (U' := (T.setTop (mkF m 158 #[sI_ q0, sI_ q1, sI_ q2, sI_ q3, sJ_ qw, sS_, sI_ r, sI_ o1, sI_ o2, sI_ o3, sI_ h1, sI_ h2, sI_ h3, sJ_ wt, sS_, sR_ lx, sR_ tx, sU_, sU_] []))) (fun t kt => ?_) ?_
    · skip
      refine XS.ifNo X.here hx rfl (hb hby at_155) rfl (XT.i0_eq_f cz) ?_
      exact kt
    rcases RT with ⟨rfl, rfl, rfl, rfl⟩ | ⟨rfl, rfl, rfl, rfl⟩ | ⟨rfl, rfl, rfl, rfl⟩ | ⟨rfl, rfl, rfl, rfl⟩
    · -- r = 1
      refine Goes.go (U' := (T.setTop (mkF m 160 #[sI_ q0, sI_ q1, sI_ q2, sI_ q3, sJ_ qw, sS_, sI_ (1 : Int32), sI_ (2 : Int32), sI_ (3 : Int32), sI_ (4 : Int32), sI_ h1, sI_ h2, sI_ h3, sJ_ wt, sS_, sR_ lx, sR_ tx, sU_, sU_] [(.ref tx)]))) (fun t kt => ?_) ?_
      · skip
        refine XS.aload X.here hx rfl (hb hby at_158) rfl rfl ?_
        exact kt
      obtain ⟨T_1, h_1, X_1, e_1, E_1, A_1, D_1, -, st_1⟩ := newO X hx hZ hown (wdOf hw 174 rfl) (wdOf hw 175 rfl) (wdOf hw 176 rfl) eT (g := (mkF m 160 #[sI_ q0, sI_ q1, sI_ q2, sI_ q3, sJ_ qw, sS_, sI_ (1 : Int32), sI_ (2 : Int32), sI_ (3 : Int32), sI_ (4 : Int32), sI_ h1, sI_ h2, sI_ h3, sJ_ wt, sS_, sR_ lx, sR_ tx, sU_, sU_] [(.ref tx)])) rfl (hb hby at_160) (by decide) (by decide)
      obtain ⟨b_1, g_1⟩ : ∃ z, z = h.size := ⟨_, rfl⟩
      rw [← g_1] at A_1 D_1 st_1
      have ne_2 : tx ≠ b_1 := Nat.ne_of_lt (Nat.lt_of_lt_of_le (HTr.exa HT0).lt (Nat.le_of_eq g_1.symm))
      have o_1 : n0 ≤ b_1 := Nat.le_trans sz0 (Nat.le_of_eq g_1.symm)
      have f_3 := O.ext E_1
      have f_4 : HTr Z h_1 n0 tx la (1 : Int32) v0 v1 v2 v3 v4 := HT0.ext E_1
      have f_5 := (HTr.exa HT0).ext E_1
      have f_6 : Fld Z h_1 b_1 "com/example/copse/copse/Arc" "tail" "I" (.int (0 : Int32)) := D_1 (Or.inr (wdOf hw 187 rfl)) (ty := .int) (by decide)
      have f_7 : Fld Z h_1 b_1 "com/example/copse/copse/Arc" "head" "I" (.int (0 : Int32)) := D_1 (Or.inr (wdOf hw 189 rfl)) (ty := .int) (by decide)
      have f_8 : Fld Z h_1 b_1 "com/example/copse/copse/Arc" "weight" "J" (.long (0 : Int64)) := D_1 (Or.inr (wdOf hw 191 rfl)) (ty := .long) (by decide)
      have y_9 : n0 ≤ h_1.size := Nat.le_trans (Nat.le_of_eq f_3.1.symm) f_3.2.1
      refine Goes.go (U' := (T_1.setTop (mkF m 163 #[sI_ q0, sI_ q1, sI_ q2, sI_ q3, sJ_ qw, sS_, sI_ (1 : Int32), sI_ (2 : Int32), sI_ (3 : Int32), sI_ (4 : Int32), sI_ h1, sI_ h2, sI_ h3, sJ_ wt, sS_, sR_ lx, sR_ tx, sU_, sU_] [(.ref b_1), (.ref tx)]))) st_1 ?_
      refine Goes.go (U' := (T_1.setTop (mkF m 166 #[sI_ q0, sI_ q1, sI_ q2, sI_ q3, sJ_ qw, sS_, sI_ (1 : Int32), sI_ (2 : Int32), sI_ (3 : Int32), sI_ (4 : Int32), sI_ h1, sI_ h2, sI_ h3, sJ_ wt, sS_, sR_ lx, sR_ tx, sU_, sU_] [(.int h1), (.ref b_1), (.ref b_1), (.ref tx)]))) (fun t kt => ?_) ?_
      · skip
        refine XS.dup X_1.here hx rfl (hb hby at_163) rfl rfl ?_
        refine XS.iload X_1.here hx rfl (hb hby at_164) rfl ?_
        exact kt
      by_cases cy : h1 = 0
      · -- h1 = 0
        refine Goes.go (U' := (T_1.setTop (mkF m 180 #[sI_ q0, sI_ q1, sI_ q2, sI_ q3, sJ_ qw, sS_, sI_ (1 : Int32), sI_ (2 : Int32), sI_ (3 : Int32), sI_ (4 : Int32), sI_ h1, sI_ h2, sI_ h3, sJ_ wt, sS_, sR_ lx, sR_ tx, sU_, sU_] [(.long wt), (.int (3 : Int32)), (.int (1 : Int32)), (.ref b_1), (.ref b_1), (.ref tx)]))) (fun t kt => ?_) ?_
        · skip
          refine XS.ifYes X_1.here hx rfl (pc0 := 166) (pc' := 174) rfl (hb hby at_166) rfl (XT.i0_eq_t cy) (by decide) (by decide) ?_
          refine XS.iload X_1.here hx rfl (hb hby at_174) rfl ?_
          refine XS.iload X_1.here hx rfl (hb hby at_176) rfl ?_
          refine XS.lload X_1.here hx rfl (hb hby at_178) rfl ?_
          exact kt
        obtain ⟨v_10, T_10, L_10, X_10, q_10, st_10⟩ := callInit X_1 hx hZ (y := (⟨"com/example/copse/copse/Arc", "<init>", "(IIJ)V"⟩ : MethodName)) (W := 2) rfl hown (wdOf hw 177 rfl) (wdOf hw 178 rfl) (wdOf hw 176 rfl) (wdOf hw 179 rfl) (by decide) (rm_arc l Z a0 hw [] b_1 (1 : Int32) (3 : Int32) wt h_1 n0 y_9 o_1 A_1 f_6 f_7 f_8 (by decide) (by decide) hwt) (by decide) (by decide) (by decide) (by decide) e_1 (b := b_1) (g := (mkF m 180 #[sI_ q0, sI_ q1, sI_ q2, sI_ q3, sJ_ qw, sS_, sI_ (1 : Int32), sI_ (2 : Int32), sI_ (3 : Int32), sI_ (4 : Int32), sI_ h1, sI_ h2, sI_ h3, sJ_ wt, sS_, sR_ lx, sR_ tx, sU_, sU_] [(.long wt), (.int (3 : Int32)), (.int (1 : Int32)), (.ref b_1), (.ref b_1), (.ref tx)])) rfl (by rw [hml]; rfl) (argsL := [(.int (1 : Int32)), (.int (3 : Int32)), (.long wt)]) (rest := [(.ref b_1), (.ref tx)]) (lenOf pd_13 rfl) rfl rfl (Nat.le_refl _) (hb hby at_180)
        obtain ⟨rfl, n_10, K_10, E_10, Ft_10, Fh_10, Fw_10⟩ := q_10
        have N_10 := Fr.app N n_10
        have f_11 := f_3.keep K_10 (allS o_1 all0)
        have f_13 := f_5.keep K_10
        have f_14 := A_1.keep K_10
        have y_18 : n0 ≤ T_10.heap.size := Nat.le_trans (Nat.le_of_eq f_11.1.symm) f_11.2.1
        refine Goes.go (U' := (T_10.setTop (mkF m 183 #[sI_ q0, sI_ q1, sI_ q2, sI_ q3, sJ_ qw, sS_, sI_ (1 : Int32), sI_ (2 : Int32), sI_ (3 : Int32), sI_ (4 : Int32), sI_ h1, sI_ h2, sI_ h3, sJ_ wt, sS_, sR_ lx, sR_ tx, sU_, sU_] [(.ref b_1), (.ref tx)]))) st_10 ?_
        have KK_10 : Ext h T_10.heap := Ext.of_keep (((Keep.refl h []).ext E_1).trans K_10 (allS (P := fun x => x ∈ [] ∨ h.size ≤ x) (Or.inr (Nat.le_of_eq g_1.symm)) all0))
        have HH_10 := HT0.ext KK_10
        obtain ⟨v_19, T_19, L_19, X_19, q_19, st_19⟩ := callVirtual X_10 hx hZ (y := (⟨"com/example/copse/copse/HangingTree", "hang", "(Lcom/example/copse/copse/Arc;)V"⟩ : MethodName)) (z := (⟨"com/example/copse/copse/HangingTree", "hang", "(Lcom/example/copse/copse/Arc;)V"⟩ : MethodName)) (W := 0) hown (wdOf hw 192 rfl) (wdOf hw 193 rfl) (notFace_of_selects (args := #[]) (mvT hZ (wdOf hw 195 rfl))) (wdOf hw 195 rfl) (wdOf hw 194 rfl) (wdOf hw 67 rfl) (wdOf hw 196 rfl) (by decide) (rm_hang3 l Z a0 hw [] tx b_1 la cK (1 : Int32) (1 : Int32) v0 v1 v2 v3 v4 T_10.heap n0 y_18 f_11 FL HH_10 f_14 Fh_10 Ft_10 ⟨by decide, by decide⟩) (by decide) (by decide) (by decide) (by decide) (rfl : T_10.heap = T_10.heap) f_13 (g := (mkF m 183 #[sI_ q0, sI_ q1, sI_ q2, sI_ q3, sJ_ qw, sS_, sI_ (1 : Int32), sI_ (2 : Int32), sI_ (3 : Int32), sI_ (4 : Int32), sI_ h1, sI_ h2, sI_ h3, sJ_ wt, sS_, sR_ lx, sR_ tx, sU_, sU_] [(.ref b_1), (.ref tx)])) rfl (by rw [hml]; rfl) (argsL := [(.ref b_1)]) (rest := []) (lenOf pd_14 rfl) rfl rfl (Nat.le_refl _) (hb hby at_183)
        obtain ⟨rfl, n_19, O_19, H_19⟩ := q_19
        have N_19 := Fr.app N_10 n_19
        have y_19 : n0 ≤ T_19.heap.size := Nat.le_trans (Nat.le_of_eq O_19.1.symm) O_19.2.1
        refine Goes.go (U' := (T_19.setTop (mkF m 186 #[sI_ q0, sI_ q1, sI_ q2, sI_ q3, sJ_ qw, sS_, sI_ (1 : Int32), sI_ (2 : Int32), sI_ (3 : Int32), sI_ (4 : Int32), sI_ h1, sI_ h2, sI_ h3, sJ_ wt, sS_, sR_ lx, sR_ tx, sU_, sU_] []))) st_19 ?_
        exact law_186 l Z a0 hw q0 q1 q2 q3 qw dx la kd cK (1 : Int32) (2 : Int32) (3 : Int32) (4 : Int32) h1 h2 h3 wt lx tx v0 v1 v2 (.ref b_1) v4 h0 n0 Z0 p e s m below meth c hx hby hml hown hnm hret hlk hZ _ _ _ X_19 (rfl : T_19.heap = T_19.heap) N_19  O_19 BC SH SD VD FL (own_RT1 rfl) hwt H_19 (by rw [A0]; simp) (R0) (by rw [A1]; simp) (R1) (by rw [A2]; simp) (R2) (by simp [cz]) (rfl) (by rw [A4]; simp) (R4)
      · -- not h1 = 0
        refine Goes.go (U' := (T_1.setTop (mkF m 180 #[sI_ q0, sI_ q1, sI_ q2, sI_ q3, sJ_ qw, sS_, sI_ (1 : Int32), sI_ (2 : Int32), sI_ (3 : Int32), sI_ (4 : Int32), sI_ h1, sI_ h2, sI_ h3, sJ_ wt, sS_, sR_ lx, sR_ tx, sU_, sU_] [(.long wt), (.int (3 : Int32)), (.int (2 : Int32)), (.ref b_1), (.ref b_1), (.ref tx)]))) (fun t kt => ?_) ?_
        · skip
          refine XS.ifNo X_1.here hx rfl (hb hby at_166) rfl (XT.i0_eq_f cy) ?_
          refine XS.iload X_1.here hx rfl (hb hby at_169) rfl ?_
          refine XS.goto X_1.here hx rfl (pc0 := 171) (pc' := 176) rfl (hb hby at_171) (by decide) (by decide) ?_
          refine XS.iload X_1.here hx rfl (hb hby at_176) rfl ?_
          refine XS.lload X_1.here hx rfl (hb hby at_178) rfl ?_
          exact kt
        obtain ⟨v_20, T_20, L_20, X_20, q_20, st_20⟩ := callInit X_1 hx hZ (y := (⟨"com/example/copse/copse/Arc", "<init>", "(IIJ)V"⟩ : MethodName)) (W := 2) rfl hown (wdOf hw 177 rfl) (wdOf hw 178 rfl) (wdOf hw 176 rfl) (wdOf hw 179 rfl) (by decide) (rm_arc l Z a0 hw [] b_1 (2 : Int32) (3 : Int32) wt h_1 n0 y_9 o_1 A_1 f_6 f_7 f_8 (by decide) (by decide) hwt) (by decide) (by decide) (by decide) (by decide) e_1 (b := b_1) (g := (mkF m 180 #[sI_ q0, sI_ q1, sI_ q2, sI_ q3, sJ_ qw, sS_, sI_ (1 : Int32), sI_ (2 : Int32), sI_ (3 : Int32), sI_ (4 : Int32), sI_ h1, sI_ h2, sI_ h3, sJ_ wt, sS_, sR_ lx, sR_ tx, sU_, sU_] [(.long wt), (.int (3 : Int32)), (.int (2 : Int32)), (.ref b_1), (.ref b_1), (.ref tx)])) rfl (by rw [hml]; rfl) (argsL := [(.int (2 : Int32)), (.int (3 : Int32)), (.long wt)]) (rest := [(.ref b_1), (.ref tx)]) (lenOf pd_13 rfl) rfl rfl (Nat.le_refl _) (hb hby at_180)
        obtain ⟨rfl, n_20, K_20, E_20, Ft_20, Fh_20, Fw_20⟩ := q_20
        have N_20 := Fr.app N n_20
        have f_21 := f_3.keep K_20 (allS o_1 all0)
        have f_23 := f_5.keep K_20
        have f_24 := A_1.keep K_20
        have y_28 : n0 ≤ T_20.heap.size := Nat.le_trans (Nat.le_of_eq f_21.1.symm) f_21.2.1
        refine Goes.go (U' := (T_20.setTop (mkF m 183 #[sI_ q0, sI_ q1, sI_ q2, sI_ q3, sJ_ qw, sS_, sI_ (1 : Int32), sI_ (2 : Int32), sI_ (3 : Int32), sI_ (4 : Int32), sI_ h1, sI_ h2, sI_ h3, sJ_ wt, sS_, sR_ lx, sR_ tx, sU_, sU_] [(.ref b_1), (.ref tx)]))) st_20 ?_
        have KK_20 : Ext h T_20.heap := Ext.of_keep (((Keep.refl h []).ext E_1).trans K_20 (allS (P := fun x => x ∈ [] ∨ h.size ≤ x) (Or.inr (Nat.le_of_eq g_1.symm)) all0))
        have HH_20 := HT0.ext KK_20
        obtain ⟨v_29, T_29, L_29, X_29, q_29, st_29⟩ := callVirtual X_20 hx hZ (y := (⟨"com/example/copse/copse/HangingTree", "hang", "(Lcom/example/copse/copse/Arc;)V"⟩ : MethodName)) (z := (⟨"com/example/copse/copse/HangingTree", "hang", "(Lcom/example/copse/copse/Arc;)V"⟩ : MethodName)) (W := 0) hown (wdOf hw 192 rfl) (wdOf hw 193 rfl) (notFace_of_selects (args := #[]) (mvT hZ (wdOf hw 195 rfl))) (wdOf hw 195 rfl) (wdOf hw 194 rfl) (wdOf hw 67 rfl) (wdOf hw 196 rfl) (by decide) (rm_hang3 l Z a0 hw [] tx b_1 la cK (1 : Int32) (2 : Int32) v0 v1 v2 v3 v4 T_20.heap n0 y_28 f_21 FL HH_20 f_24 Fh_20 Ft_20 ⟨by decide, by decide⟩) (by decide) (by decide) (by decide) (by decide) (rfl : T_20.heap = T_20.heap) f_23 (g := (mkF m 183 #[sI_ q0, sI_ q1, sI_ q2, sI_ q3, sJ_ qw, sS_, sI_ (1 : Int32), sI_ (2 : Int32), sI_ (3 : Int32), sI_ (4 : Int32), sI_ h1, sI_ h2, sI_ h3, sJ_ wt, sS_, sR_ lx, sR_ tx, sU_, sU_] [(.ref b_1), (.ref tx)])) rfl (by rw [hml]; rfl) (argsL := [(.ref b_1)]) (rest := []) (lenOf pd_14 rfl) rfl rfl (Nat.le_refl _) (hb hby at_183)
        obtain ⟨rfl, n_29, O_29, H_29⟩ := q_29
        have N_29 := Fr.app N_20 n_29
        have y_29 : n0 ≤ T_29.heap.size := Nat.le_trans (Nat.le_of_eq O_29.1.symm) O_29.2.1
        refine Goes.go (U' := (T_29.setTop (mkF m 186 #[sI_ q0, sI_ q1, sI_ q2, sI_ q3, sJ_ qw, sS_, sI_ (1 : Int32), sI_ (2 : Int32), sI_ (3 : Int32), sI_ (4 : Int32), sI_ h1, sI_ h2, sI_ h3, sJ_ wt, sS_, sR_ lx, sR_ tx, sU_, sU_] []))) st_29 ?_
        exact law_186 l Z a0 hw q0 q1 q2 q3 qw dx la kd cK (1 : Int32) (2 : Int32) (3 : Int32) (4 : Int32) h1 h2 h3 wt lx tx v0 v1 v2 (.ref b_1) v4 h0 n0 Z0 p e s m below meth c hx hby hml hown hnm hret hlk hZ _ _ _ X_29 (rfl : T_29.heap = T_29.heap) N_29  O_29 BC SH SD VD FL (own_RT1 rfl) hwt H_29 (by rw [A0]; simp) (R0) (by rw [A1]; simp) (R1) (by rw [A2]; simp) (R2) (by simp [cz]) (rfl) (by rw [A4]; simp) (R4)
    · -- r = 2
      refine Goes.go (U' := (T.setTop (mkF m 160 #[sI_ q0, sI_ q1, sI_ q2, sI_ q3, sJ_ qw, sS_, sI_ (2 : Int32), sI_ (1 : Int32), sI_ (3 : Int32), sI_ (4 : Int32), sI_ h1, sI_ h2, sI_ h3, sJ_ wt, sS_, sR_ lx, sR_ tx, sU_, sU_] [(.ref tx)]))) (fun t kt => ?_) ?_
      · skip
        refine XS.aload X.here hx rfl (hb hby at_158) rfl rfl ?_
        exact kt
      obtain ⟨T_30, h_30, X_30, e_30, E_30, A_30, D_30, -, st_30⟩ := newO X hx hZ hown (wdOf hw 174 rfl) (wdOf hw 175 rfl) (wdOf hw 176 rfl) eT (g := (mkF m 160 #[sI_ q0, sI_ q1, sI_ q2, sI_ q3, sJ_ qw, sS_, sI_ (2 : Int32), sI_ (1 : Int32), sI_ (3 : Int32), sI_ (4 : Int32), sI_ h1, sI_ h2, sI_ h3, sJ_ wt, sS_, sR_ lx, sR_ tx, sU_, sU_] [(.ref tx)])) rfl (hb hby at_160) (by decide) (by decide)
      obtain ⟨b_30, g_30⟩ : ∃ z, z = h.size := ⟨_, rfl⟩
      rw [← g_30] at A_30 D_30 st_30
      have ne_31 : tx ≠ b_30 := Nat.ne_of_lt (Nat.lt_of_lt_of_le (HTr.exa HT0).lt (Nat.le_of_eq g_30.symm))
      have o_30 : n0 ≤ b_30 := Nat.le_trans sz0 (Nat.le_of_eq g_30.symm)
      have f_32 := O.ext E_30
      have f_33 : HTr Z h_30 n0 tx la (2 : Int32) v0 v1 v2 v3 v4 := HT0.ext E_30
      have f_34 := (HTr.exa HT0).ext E_30
      have f_35 : Fld Z h_30 b_30 "com/example/copse/copse/Arc" "tail" "I" (.int (0 : Int32)) := D_30 (Or.inr (wdOf hw 187 rfl)) (ty := .int) (by decide)
      have f_36 : Fld Z h_30 b_30 "com/example/copse/copse/Arc" "head" "I" (.int (0 : Int32)) := D_30 (Or.inr (wdOf hw 189 rfl)) (ty := .int) (by decide)
      have f_37 : Fld Z h_30 b_30 "com/example/copse/copse/Arc" "weight" "J" (.long (0 : Int64)) := D_30 (Or.inr (wdOf hw 191 rfl)) (ty := .long) (by decide)
      have y_38 : n0 ≤ h_30.size := Nat.le_trans (Nat.le_of_eq f_32.1.symm) f_32.2.1
      refine Goes.go (U' := (T_30.setTop (mkF m 163 #[sI_ q0, sI_ q1, sI_ q2, sI_ q3, sJ_ qw, sS_, sI_ (2 : Int32), sI_ (1 : Int32), sI_ (3 : Int32), sI_ (4 : Int32), sI_ h1, sI_ h2, sI_ h3, sJ_ wt, sS_, sR_ lx, sR_ tx, sU_, sU_] [(.ref b_30), (.ref tx)]))) st_30 ?_
      refine Goes.go (U' := (T_30.setTop (mkF m 166 #[sI_ q0, sI_ q1, sI_ q2, sI_ q3, sJ_ qw, sS_, sI_ (2 : Int32), sI_ (1 : Int32), sI_ (3 : Int32), sI_ (4 : Int32), sI_ h1, sI_ h2, sI_ h3, sJ_ wt, sS_, sR_ lx, sR_ tx, sU_, sU_] [(.int h1), (.ref b_30), (.ref b_30), (.ref tx)]))) (fun t kt => ?_) ?_
      · skip
        refine XS.dup X_30.here hx rfl (hb hby at_163) rfl rfl ?_
        refine XS.iload X_30.here hx rfl (hb hby at_164) rfl ?_
        exact kt
      by_cases cy : h1 = 0
      · -- h1 = 0
        refine Goes.go (U' := (T_30.setTop (mkF m 180 #[sI_ q0, sI_ q1, sI_ q2, sI_ q3, sJ_ qw, sS_, sI_ (2 : Int32), sI_ (1 : Int32), sI_ (3 : Int32), sI_ (4 : Int32), sI_ h1, sI_ h2, sI_ h3, sJ_ wt, sS_, sR_ lx, sR_ tx, sU_, sU_] [(.long wt), (.int (3 : Int32)), (.int (2 : Int32)), (.ref b_30), (.ref b_30), (.ref tx)]))) (fun t kt => ?_) ?_
        · skip
          refine XS.ifYes X_30.here hx rfl (pc0 := 166) (pc' := 174) rfl (hb hby at_166) rfl (XT.i0_eq_t cy) (by decide) (by decide) ?_
          refine XS.iload X_30.here hx rfl (hb hby at_174) rfl ?_
          refine XS.iload X_30.here hx rfl (hb hby at_176) rfl ?_
          refine XS.lload X_30.here hx rfl (hb hby at_178) rfl ?_
          exact kt
        obtain ⟨v_39, T_39, L_39, X_39, q_39, st_39⟩ := callInit X_30 hx hZ (y := (⟨"com/example/copse/copse/Arc", "<init>", "(IIJ)V"⟩ : MethodName)) (W := 2) rfl hown (wdOf hw 177 rfl) (wdOf hw 178 rfl) (wdOf hw 176 rfl) (wdOf hw 179 rfl) (by decide) (rm_arc l Z a0 hw [] b_30 (2 : Int32) (3 : Int32) wt h_30 n0 y_38 o_30 A_30 f_35 f_36 f_37 (by decide) (by decide) hwt) (by decide) (by decide) (by decide) (by decide) e_30 (b := b_30) (g := (mkF m 180 #[sI_ q0, sI_ q1, sI_ q2, sI_ q3, sJ_ qw, sS_, sI_ (2 : Int32), sI_ (1 : Int32), sI_ (3 : Int32), sI_ (4 : Int32), sI_ h1, sI_ h2, sI_ h3, sJ_ wt, sS_, sR_ lx, sR_ tx, sU_, sU_] [(.long wt), (.int (3 : Int32)), (.int (2 : Int32)), (.ref b_30), (.ref b_30), (.ref tx)])) rfl (by rw [hml]; rfl) (argsL := [(.int (2 : Int32)), (.int (3 : Int32)), (.long wt)]) (rest := [(.ref b_30), (.ref tx)]) (lenOf pd_13 rfl) rfl rfl (Nat.le_refl _) (hb hby at_180)
        obtain ⟨rfl, n_39, K_39, E_39, Ft_39, Fh_39, Fw_39⟩ := q_39
        have N_39 := Fr.app N n_39
        have f_40 := f_32.keep K_39 (allS o_30 all0)
        have f_42 := f_34.keep K_39
        have f_43 := A_30.keep K_39
        have y_47 : n0 ≤ T_39.heap.size := Nat.le_trans (Nat.le_of_eq f_40.1.symm) f_40.2.1
        refine Goes.go (U' := (T_39.setTop (mkF m 183 #[sI_ q0, sI_ q1, sI_ q2, sI_ q3, sJ_ qw, sS_, sI_ (2 : Int32), sI_ (1 : Int32), sI_ (3 : Int32), sI_ (4 : Int32), sI_ h1, sI_ h2, sI_ h3, sJ_ wt, sS_, sR_ lx, sR_ tx, sU_, sU_] [(.ref b_30), (.ref tx)]))) st_39 ?_
        have KK_39 : Ext h T_39.heap := Ext.of_keep (((Keep.refl h []).ext E_30).trans K_39 (allS (P := fun x => x ∈ [] ∨ h.size ≤ x) (Or.inr (Nat.le_of_eq g_30.symm)) all0))
        have HH_39 := HT0.ext KK_39
        obtain ⟨v_48, T_48, L_48, X_48, q_48, st_48⟩ := callVirtual X_39 hx hZ (y := (⟨"com/example/copse/copse/HangingTree", "hang", "(Lcom/example/copse/copse/Arc;)V"⟩ : MethodName)) (z := (⟨"com/example/copse/copse/HangingTree", "hang", "(Lcom/example/copse/copse/Arc;)V"⟩ : MethodName)) (W := 0) hown (wdOf hw 192 rfl) (wdOf hw 193 rfl) (notFace_of_selects (args := #[]) (mvT hZ (wdOf hw 195 rfl))) (wdOf hw 195 rfl) (wdOf hw 194 rfl) (wdOf hw 67 rfl) (wdOf hw 196 rfl) (by decide) (rm_hang3 l Z a0 hw [] tx b_30 la cK (2 : Int32) (2 : Int32) v0 v1 v2 v3 v4 T_39.heap n0 y_47 f_40 FL HH_39 f_43 Fh_39 Ft_39 ⟨by decide, by decide⟩) (by decide) (by decide) (by decide) (by decide) (rfl : T_39.heap = T_39.heap) f_42 (g := (mkF m 183 #[sI_ q0, sI_ q1, sI_ q2, sI_ q3, sJ_ qw, sS_, sI_ (2 : Int32), sI_ (1 : Int32), sI_ (3 : Int32), sI_ (4 : Int32), sI_ h1, sI_ h2, sI_ h3, sJ_ wt, sS_, sR_ lx, sR_ tx, sU_, sU_] [(.ref b_30), (.ref tx)])) rfl (by rw [hml]; rfl) (argsL := [(.ref b_30)]) (rest := []) (lenOf pd_14 rfl) rfl rfl (Nat.le_refl _) (hb hby at_183)
        obtain ⟨rfl, n_48, O_48, H_48⟩ := q_48
        have N_48 := Fr.app N_39 n_48
        have y_48 : n0 ≤ T_48.heap.size := Nat.le_trans (Nat.le_of_eq O_48.1.symm) O_48.2.1
        refine Goes.go (U' := (T_48.setTop (mkF m 186 #[sI_ q0, sI_ q1, sI_ q2, sI_ q3, sJ_ qw, sS_, sI_ (2 : Int32), sI_ (1 : Int32), sI_ (3 : Int32), sI_ (4 : Int32), sI_ h1, sI_ h2, sI_ h3, sJ_ wt, sS_, sR_ lx, sR_ tx, sU_, sU_] []))) st_48 ?_
        exact law_186 l Z a0 hw q0 q1 q2 q3 qw dx la kd cK (2 : Int32) (1 : Int32) (3 : Int32) (4 : Int32) h1 h2 h3 wt lx tx v0 v1 v2 (.ref b_30) v4 h0 n0 Z0 p e s m below meth c hx hby hml hown hnm hret hlk hZ _ _ _ X_48 (rfl : T_48.heap = T_48.heap) N_48  O_48 BC SH SD VD FL (own_RT2 rfl) hwt H_48 (by rw [A0]; simp) (R0) (by rw [A1]; simp) (R1) (by rw [A2]; simp) (R2) (by simp [cz]) (rfl) (by rw [A4]; simp) (R4)
      · -- not h1 = 0
        refine Goes.go (U' := (T_30.setTop (mkF m 180 #[sI_ q0, sI_ q1, sI_ q2, sI_ q3, sJ_ qw, sS_, sI_ (2 : Int32), sI_ (1 : Int32), sI_ (3 : Int32), sI_ (4 : Int32), sI_ h1, sI_ h2, sI_ h3, sJ_ wt, sS_, sR_ lx, sR_ tx, sU_, sU_] [(.long wt), (.int (3 : Int32)), (.int (1 : Int32)), (.ref b_30), (.ref b_30), (.ref tx)]))) (fun t kt => ?_) ?_
        · skip
          refine XS.ifNo X_30.here hx rfl (hb hby at_166) rfl (XT.i0_eq_f cy) ?_
          refine XS.iload X_30.here hx rfl (hb hby at_169) rfl ?_
          refine XS.goto X_30.here hx rfl (pc0 := 171) (pc' := 176) rfl (hb hby at_171) (by decide) (by decide) ?_
          refine XS.iload X_30.here hx rfl (hb hby at_176) rfl ?_
          refine XS.lload X_30.here hx rfl (hb hby at_178) rfl ?_
          exact kt
        obtain ⟨v_49, T_49, L_49, X_49, q_49, st_49⟩ := callInit X_30 hx hZ (y := (⟨"com/example/copse/copse/Arc", "<init>", "(IIJ)V"⟩ : MethodName)) (W := 2) rfl hown (wdOf hw 177 rfl) (wdOf hw 178 rfl) (wdOf hw 176 rfl) (wdOf hw 179 rfl) (by decide) (rm_arc l Z a0 hw [] b_30 (1 : Int32) (3 : Int32) wt h_30 n0 y_38 o_30 A_30 f_35 f_36 f_37 (by decide) (by decide) hwt) (by decide) (by decide) (by decide) (by decide) e_30 (b := b_30) (g := (mkF m 180 #[sI_ q0, sI_ q1, sI_ q2, sI_ q3, sJ_ qw, sS_, sI_ (2 : Int32), sI_ (1 : Int32), sI_ (3 : Int32), sI_ (4 : Int32), sI_ h1, sI_ h2, sI_ h3, sJ_ wt, sS_, sR_ lx, sR_ tx, sU_, sU_] [(.long wt), (.int (3 : Int32)), (.int (1 : Int32)), (.ref b_30), (.ref b_30), (.ref tx)])) rfl (by rw [hml]; rfl) (argsL := [(.int (1 : Int32)), (.int (3 : Int32)), (.long wt)]) (rest := [(.ref b_30), (.ref tx)]) (lenOf pd_13 rfl) rfl rfl (Nat.le_refl _) (hb hby at_180)
        obtain ⟨rfl, n_49, K_49, E_49, Ft_49, Fh_49, Fw_49⟩ := q_49
        have N_49 := Fr.app N n_49
        have f_50 := f_32.keep K_49 (allS o_30 all0)
        have f_52 := f_34.keep K_49
        have f_53 := A_30.keep K_49
        have y_57 : n0 ≤ T_49.heap.size := Nat.le_trans (Nat.le_of_eq f_50.1.symm) f_50.2.1
        refine Goes.go (U' := (T_49.setTop (mkF m 183 #[sI_ q0, sI_ q1, sI_ q2, sI_ q3, sJ_ qw, sS_, sI_ (2 : Int32), sI_ (1 : Int32), sI_ (3 : Int32), sI_ (4 : Int32), sI_ h1, sI_ h2, sI_ h3, sJ_ wt, sS_, sR_ lx, sR_ tx, sU_, sU_] [(.ref b_30), (.ref tx)]))) st_49 ?_
        have KK_49 : Ext h T_49.heap := Ext.of_keep (((Keep.refl h []).ext E_30).trans K_49 (allS (P := fun x => x ∈ [] ∨ h.size ≤ x) (Or.inr (Nat.le_of_eq g_30.symm)) all0))
        have HH_49 := HT0.ext KK_49
        obtain ⟨v_58, T_58, L_58, X_58, q_58, st_58⟩ := callVirtual X_49 hx hZ (y := (⟨"com/example/copse/copse/HangingTree", "hang", "(Lcom/example/copse/copse/Arc;)V"⟩ : MethodName)) (z := (⟨"com/example/copse/copse/HangingTree", "hang", "(Lcom/example/copse/copse/Arc;)V"⟩ : MethodName)) (W := 0) hown (wdOf hw 192 rfl) (wdOf hw 193 rfl) (notFace_of_selects (args := #[]) (mvT hZ (wdOf hw 195 rfl))) (wdOf hw 195 rfl) (wdOf hw 194 rfl) (wdOf hw 67 rfl) (wdOf hw 196 rfl) (by decide) (rm_hang3 l Z a0 hw [] tx b_30 la cK (2 : Int32) (1 : Int32) v0 v1 v2 v3 v4 T_49.heap n0 y_57 f_50 FL HH_49 f_53 Fh_49 Ft_49 ⟨by decide, by decide⟩) (by decide) (by decide) (by decide) (by decide) (rfl : T_49.heap = T_49.heap) f_52 (g := (mkF m 183 #[sI_ q0, sI_ q1, sI_ q2, sI_ q3, sJ_ qw, sS_, sI_ (2 : Int32), sI_ (1 : Int32), sI_ (3 : Int32), sI_ (4 : Int32), sI_ h1, sI_ h2, sI_ h3, sJ_ wt, sS_, sR_ lx, sR_ tx, sU_, sU_] [(.ref b_30), (.ref tx)])) rfl (by rw [hml]; rfl) (argsL := [(.ref b_30)]) (rest := []) (lenOf pd_14 rfl) rfl rfl (Nat.le_refl _) (hb hby at_183)
        obtain ⟨rfl, n_58, O_58, H_58⟩ := q_58
        have N_58 := Fr.app N_49 n_58
        have y_58 : n0 ≤ T_58.heap.size := Nat.le_trans (Nat.le_of_eq O_58.1.symm) O_58.2.1
        refine Goes.go (U' := (T_58.setTop (mkF m 186 #[sI_ q0, sI_ q1, sI_ q2, sI_ q3, sJ_ qw, sS_, sI_ (2 : Int32), sI_ (1 : Int32), sI_ (3 : Int32), sI_ (4 : Int32), sI_ h1, sI_ h2, sI_ h3, sJ_ wt, sS_, sR_ lx, sR_ tx, sU_, sU_] []))) st_58 ?_
        exact law_186 l Z a0 hw q0 q1 q2 q3 qw dx la kd cK (2 : Int32) (1 : Int32) (3 : Int32) (4 : Int32) h1 h2 h3 wt lx tx v0 v1 v2 (.ref b_30) v4 h0 n0 Z0 p e s m below meth c hx hby hml hown hnm hret hlk hZ _ _ _ X_58 (rfl : T_58.heap = T_58.heap) N_58  O_58 BC SH SD VD FL (own_RT2 rfl) hwt H_58 (by rw [A0]; simp) (R0) (by rw [A1]; simp) (R1) (by rw [A2]; simp) (R2) (by simp [cz]) (rfl) (by rw [A4]; simp) (R4)
    · -- r = 3
      refine Goes.go (U' := (T.setTop (mkF m 160 #[sI_ q0, sI_ q1, sI_ q2, sI_ q3, sJ_ qw, sS_, sI_ (3 : Int32), sI_ (1 : Int32), sI_ (2 : Int32), sI_ (4 : Int32), sI_ h1, sI_ h2, sI_ h3, sJ_ wt, sS_, sR_ lx, sR_ tx, sU_, sU_] [(.ref tx)]))) (fun t kt => ?_) ?_
      · skip
        refine XS.aload X.here hx rfl (hb hby at_158) rfl rfl ?_
        exact kt
      obtain ⟨T_59, h_59, X_59, e_59, E_59, A_59, D_59, -, st_59⟩ := newO X hx hZ hown (wdOf hw 174 rfl) (wdOf hw 175 rfl) (wdOf hw 176 rfl) eT (g := (mkF m 160 #[sI_ q0, sI_ q1, sI_ q2, sI_ q3, sJ_ qw, sS_, sI_ (3 : Int32), sI_ (1 : Int32), sI_ (2 : Int32), sI_ (4 : Int32), sI_ h1, sI_ h2, sI_ h3, sJ_ wt, sS_, sR_ lx, sR_ tx, sU_, sU_] [(.ref tx)])) rfl (hb hby at_160) (by decide) (by decide)
      obtain ⟨b_59, g_59⟩ : ∃ z, z = h.size := ⟨_, rfl⟩
      rw [← g_59] at A_59 D_59 st_59
      have ne_60 : tx ≠ b_59 := Nat.ne_of_lt (Nat.lt_of_lt_of_le (HTr.exa HT0).lt (Nat.le_of_eq g_59.symm))
      have o_59 : n0 ≤ b_59 := Nat.le_trans sz0 (Nat.le_of_eq g_59.symm)
      have f_61 := O.ext E_59
      have f_62 : HTr Z h_59 n0 tx la (3 : Int32) v0 v1 v2 v3 v4 := HT0.ext E_59
      have f_63 := (HTr.exa HT0).ext E_59
      have f_64 : Fld Z h_59 b_59 "com/example/copse/copse/Arc" "tail" "I" (.int (0 : Int32)) := D_59 (Or.inr (wdOf hw 187 rfl)) (ty := .int) (by decide)
      have f_65 : Fld Z h_59 b_59 "com/example/copse/copse/Arc" "head" "I" (.int (0 : Int32)) := D_59 (Or.inr (wdOf hw 189 rfl)) (ty := .int) (by decide)
      have f_66 : Fld Z h_59 b_59 "com/example/copse/copse/Arc" "weight" "J" (.long (0 : Int64)) := D_59 (Or.inr (wdOf hw 191 rfl)) (ty := .long) (by decide)
      have y_67 : n0 ≤ h_59.size := Nat.le_trans (Nat.le_of_eq f_61.1.symm) f_61.2.1
      refine Goes.go (U' := (T_59.setTop (mkF m 163 #[sI_ q0, sI_ q1, sI_ q2, sI_ q3, sJ_ qw, sS_, sI_ (3 : Int32), sI_ (1 : Int32), sI_ (2 : Int32), sI_ (4 : Int32), sI_ h1, sI_ h2, sI_ h3, sJ_ wt, sS_, sR_ lx, sR_ tx, sU_, sU_] [(.ref b_59), (.ref tx)]))) st_59 ?_
      refine Goes.go (U' := (T_59.setTop (mkF m 166 #[sI_ q0, sI_ q1, sI_ q2, sI_ q3, sJ_ qw, sS_, sI_ (3 : Int32), sI_ (1 : Int32), sI_ (2 : Int32), sI_ (4 : Int32), sI_ h1, sI_ h2, sI_ h3, sJ_ wt, sS_, sR_ lx, sR_ tx, sU_, sU_] [(.int h1), (.ref b_59), (.ref b_59), (.ref tx)]))) (fun t kt => ?_) ?_
      · skip
        refine XS.dup X_59.here hx rfl (hb hby at_163) rfl rfl ?_
        refine XS.iload X_59.here hx rfl (hb hby at_164) rfl ?_
        exact kt
      by_cases cy : h1 = 0
      · -- h1 = 0
        refine Goes.go (U' := (T_59.setTop (mkF m 180 #[sI_ q0, sI_ q1, sI_ q2, sI_ q3, sJ_ qw, sS_, sI_ (3 : Int32), sI_ (1 : Int32), sI_ (2 : Int32), sI_ (4 : Int32), sI_ h1, sI_ h2, sI_ h3, sJ_ wt, sS_, sR_ lx, sR_ tx, sU_, sU_] [(.long wt), (.int (2 : Int32)), (.int (3 : Int32)), (.ref b_59), (.ref b_59), (.ref tx)]))) (fun t kt => ?_) ?_
        · skip
          refine XS.ifYes X_59.here hx rfl (pc0 := 166) (pc' := 174) rfl (hb hby at_166) rfl (XT.i0_eq_t cy) (by decide) (by decide) ?_
          refine XS.iload X_59.here hx rfl (hb hby at_174) rfl ?_
          refine XS.iload X_59.here hx rfl (hb hby at_176) rfl ?_
          refine XS.lload X_59.here hx rfl (hb hby at_178) rfl ?_
          exact kt
        obtain ⟨v_68, T_68, L_68, X_68, q_68, st_68⟩ := callInit X_59 hx hZ (y := (⟨"com/example/copse/copse/Arc", "<init>", "(IIJ)V"⟩ : MethodName)) (W := 2) rfl hown (wdOf hw 177 rfl) (wdOf hw 178 rfl) (wdOf hw 176 rfl) (wdOf hw 179 rfl) (by decide) (rm_arc l Z a0 hw [] b_59 (3 : Int32) (2 : Int32) wt h_59 n0 y_67 o_59 A_59 f_64 f_65 f_66 (by decide) (by decide) hwt) (by decide) (by decide) (by decide) (by decide) e_59 (b := b_59) (g := (mkF m 180 #[sI_ q0, sI_ q1, sI_ q2, sI_ q3, sJ_ qw, sS_, sI_ (3 : Int32), sI_ (1 : Int32), sI_ (2 : Int32), sI_ (4 : Int32), sI_ h1, sI_ h2, sI_ h3, sJ_ wt, sS_, sR_ lx, sR_ tx, sU_, sU_] [(.long wt), (.int (2 : Int32)), (.int (3 : Int32)), (.ref b_59), (.ref b_59), (.ref tx)])) rfl (by rw [hml]; rfl) (argsL := [(.int (3 : Int32)), (.int (2 : Int32)), (.long wt)]) (rest := [(.ref b_59), (.ref tx)]) (lenOf pd_13 rfl) rfl rfl (Nat.le_refl _) (hb hby at_180)
        obtain ⟨rfl, n_68, K_68, E_68, Ft_68, Fh_68, Fw_68⟩ := q_68
        have N_68 := Fr.app N n_68
        have f_69 := f_61.keep K_68 (allS o_59 all0)
        have f_71 := f_63.keep K_68
        have f_72 := A_59.keep K_68
        have y_76 : n0 ≤ T_68.heap.size := Nat.le_trans (Nat.le_of_eq f_69.1.symm) f_69.2.1
        refine Goes.go (U' := (T_68.setTop (mkF m 183 #[sI_ q0, sI_ q1, sI_ q2, sI_ q3, sJ_ qw, sS_, sI_ (3 : Int32), sI_ (1 : Int32), sI_ (2 : Int32), sI_ (4 : Int32), sI_ h1, sI_ h2, sI_ h3, sJ_ wt, sS_, sR_ lx, sR_ tx, sU_, sU_] [(.ref b_59), (.ref tx)]))) st_68 ?_
        have KK_68 : Ext h T_68.heap := Ext.of_keep (((Keep.refl h []).ext E_59).trans K_68 (allS (P := fun x => x ∈ [] ∨ h.size ≤ x) (Or.inr (Nat.le_of_eq g_59.symm)) all0))
        have HH_68 := HT0.ext KK_68
        obtain ⟨v_77, T_77, L_77, X_77, q_77, st_77⟩ := callVirtual X_68 hx hZ (y := (⟨"com/example/copse/copse/HangingTree", "hang", "(Lcom/example/copse/copse/Arc;)V"⟩ : MethodName)) (z := (⟨"com/example/copse/copse/HangingTree", "hang", "(Lcom/example/copse/copse/Arc;)V"⟩ : MethodName)) (W := 0) hown (wdOf hw 192 rfl) (wdOf hw 193 rfl) (notFace_of_selects (args := #[]) (mvT hZ (wdOf hw 195 rfl))) (wdOf hw 195 rfl) (wdOf hw 194 rfl) (wdOf hw 67 rfl) (wdOf hw 196 rfl) (by decide) (rm_hang2 l Z a0 hw [] tx b_59 la cK (3 : Int32) (3 : Int32) v0 v1 v2 v3 v4 T_68.heap n0 y_76 f_69 FL HH_68 f_72 Fh_68 Ft_68 ⟨by decide, by decide⟩) (by decide) (by decide) (by decide) (by decide) (rfl : T_68.heap = T_68.heap) f_71 (g := (mkF m 183 #[sI_ q0, sI_ q1, sI_ q2, sI_ q3, sJ_ qw, sS_, sI_ (3 : Int32), sI_ (1 : Int32), sI_ (2 : Int32), sI_ (4 : Int32), sI_ h1, sI_ h2, sI_ h3, sJ_ wt, sS_, sR_ lx, sR_ tx, sU_, sU_] [(.ref b_59), (.ref tx)])) rfl (by rw [hml]; rfl) (argsL := [(.ref b_59)]) (rest := []) (lenOf pd_14 rfl) rfl rfl (Nat.le_refl _) (hb hby at_183)
        obtain ⟨rfl, n_77, O_77, H_77⟩ := q_77
        have N_77 := Fr.app N_68 n_77
        have y_77 : n0 ≤ T_77.heap.size := Nat.le_trans (Nat.le_of_eq O_77.1.symm) O_77.2.1
        refine Goes.go (U' := (T_77.setTop (mkF m 186 #[sI_ q0, sI_ q1, sI_ q2, sI_ q3, sJ_ qw, sS_, sI_ (3 : Int32), sI_ (1 : Int32), sI_ (2 : Int32), sI_ (4 : Int32), sI_ h1, sI_ h2, sI_ h3, sJ_ wt, sS_, sR_ lx, sR_ tx, sU_, sU_] []))) st_77 ?_
        exact law_186 l Z a0 hw q0 q1 q2 q3 qw dx la kd cK (3 : Int32) (1 : Int32) (2 : Int32) (4 : Int32) h1 h2 h3 wt lx tx v0 v1 (.ref b_59) v3 v4 h0 n0 Z0 p e s m below meth c hx hby hml hown hnm hret hlk hZ _ _ _ X_77 (rfl : T_77.heap = T_77.heap) N_77  O_77 BC SH SD VD FL (own_RT3 rfl) hwt H_77 (by rw [A0]; simp) (R0) (by rw [A1]; simp) (R1) (by simp [cz]) (rfl) (by rw [A3]; simp) (R3) (by rw [A4]; simp) (R4)
      · -- not h1 = 0
        refine Goes.go (U' := (T_59.setTop (mkF m 180 #[sI_ q0, sI_ q1, sI_ q2, sI_ q3, sJ_ qw, sS_, sI_ (3 : Int32), sI_ (1 : Int32), sI_ (2 : Int32), sI_ (4 : Int32), sI_ h1, sI_ h2, sI_ h3, sJ_ wt, sS_, sR_ lx, sR_ tx, sU_, sU_] [(.long wt), (.int (2 : Int32)), (.int (1 : Int32)), (.ref b_59), (.ref b_59), (.ref tx)]))) (fun t kt => ?_) ?_
        · skip
          refine XS.ifNo X_59.here hx rfl (hb hby at_166) rfl (XT.i0_eq_f cy) ?_
          refine XS.iload X_59.here hx rfl (hb hby at_169) rfl ?_
          refine XS.goto X_59.here hx rfl (pc0 := 171) (pc' := 176) rfl (hb hby at_171) (by decide) (by decide) ?_
          refine XS.iload X_59.here hx rfl (hb hby at_176) rfl ?_
          refine XS.lload X_59.here hx rfl (hb hby at_178) rfl ?_
          exact kt
        obtain ⟨v_78, T_78, L_78, X_78, q_78, st_78⟩ := callInit X_59 hx hZ (y := (⟨"com/example/copse/copse/Arc", "<init>", "(IIJ)V"⟩ : MethodName)) (W := 2) rfl hown (wdOf hw 177 rfl) (wdOf hw 178 rfl) (wdOf hw 176 rfl) (wdOf hw 179 rfl) (by decide) (rm_arc l Z a0 hw [] b_59 (1 : Int32) (2 : Int32) wt h_59 n0 y_67 o_59 A_59 f_64 f_65 f_66 (by decide) (by decide) hwt) (by decide) (by decide) (by decide) (by decide) e_59 (b := b_59) (g := (mkF m 180 #[sI_ q0, sI_ q1, sI_ q2, sI_ q3, sJ_ qw, sS_, sI_ (3 : Int32), sI_ (1 : Int32), sI_ (2 : Int32), sI_ (4 : Int32), sI_ h1, sI_ h2, sI_ h3, sJ_ wt, sS_, sR_ lx, sR_ tx, sU_, sU_] [(.long wt), (.int (2 : Int32)), (.int (1 : Int32)), (.ref b_59), (.ref b_59), (.ref tx)])) rfl (by rw [hml]; rfl) (argsL := [(.int (1 : Int32)), (.int (2 : Int32)), (.long wt)]) (rest := [(.ref b_59), (.ref tx)]) (lenOf pd_13 rfl) rfl rfl (Nat.le_refl _) (hb hby at_180)
        obtain ⟨rfl, n_78, K_78, E_78, Ft_78, Fh_78, Fw_78⟩ := q_78
        have N_78 := Fr.app N n_78
        have f_79 := f_61.keep K_78 (allS o_59 all0)
        have f_81 := f_63.keep K_78
        have f_82 := A_59.keep K_78
        have y_86 : n0 ≤ T_78.heap.size := Nat.le_trans (Nat.le_of_eq f_79.1.symm) f_79.2.1
        refine Goes.go (U' := (T_78.setTop (mkF m 183 #[sI_ q0, sI_ q1, sI_ q2, sI_ q3, sJ_ qw, sS_, sI_ (3 : Int32), sI_ (1 : Int32), sI_ (2 : Int32), sI_ (4 : Int32), sI_ h1, sI_ h2, sI_ h3, sJ_ wt, sS_, sR_ lx, sR_ tx, sU_, sU_] [(.ref b_59), (.ref tx)]))) st_78 ?_
        have KK_78 : Ext h T_78.heap := Ext.of_keep (((Keep.refl h []).ext E_59).trans K_78 (allS (P := fun x => x ∈ [] ∨ h.size ≤ x) (Or.inr (Nat.le_of_eq g_59.symm)) all0))
        have HH_78 := HT0.ext KK_78
        obtain ⟨v_87, T_87, L_87, X_87, q_87, st_87⟩ := callVirtual X_78 hx hZ (y := (⟨"com/example/copse/copse/HangingTree", "hang", "(Lcom/example/copse/copse/Arc;)V"⟩ : MethodName)) (z := (⟨"com/example/copse/copse/HangingTree", "hang", "(Lcom/example/copse/copse/Arc;)V"⟩ : MethodName)) (W := 0) hown (wdOf hw 192 rfl) (wdOf hw 193 rfl) (notFace_of_selects (args := #[]) (mvT hZ (wdOf hw 195 rfl))) (wdOf hw 195 rfl) (wdOf hw 194 rfl) (wdOf hw 67 rfl) (wdOf hw 196 rfl) (by decide) (rm_hang2 l Z a0 hw [] tx b_59 la cK (3 : Int32) (1 : Int32) v0 v1 v2 v3 v4 T_78.heap n0 y_86 f_79 FL HH_78 f_82 Fh_78 Ft_78 ⟨by decide, by decide⟩) (by decide) (by decide) (by decide) (by decide) (rfl : T_78.heap = T_78.heap) f_81 (g := (mkF m 183 #[sI_ q0, sI_ q1, sI_ q2, sI_ q3, sJ_ qw, sS_, sI_ (3 : Int32), sI_ (1 : Int32), sI_ (2 : Int32), sI_ (4 : Int32), sI_ h1, sI_ h2, sI_ h3, sJ_ wt, sS_, sR_ lx, sR_ tx, sU_, sU_] [(.ref b_59), (.ref tx)])) rfl (by rw [hml]; rfl) (argsL := [(.ref b_59)]) (rest := []) (lenOf pd_14 rfl) rfl rfl (Nat.le_refl _) (hb hby at_183)
        obtain ⟨rfl, n_87, O_87, H_87⟩ := q_87
        have N_87 := Fr.app N_78 n_87
        have y_87 : n0 ≤ T_87.heap.size := Nat.le_trans (Nat.le_of_eq O_87.1.symm) O_87.2.1
        refine Goes.go (U' := (T_87.setTop (mkF m 186 #[sI_ q0, sI_ q1, sI_ q2, sI_ q3, sJ_ qw, sS_, sI_ (3 : Int32), sI_ (1 : Int32), sI_ (2 : Int32), sI_ (4 : Int32), sI_ h1, sI_ h2, sI_ h3, sJ_ wt, sS_, sR_ lx, sR_ tx, sU_, sU_] []))) st_87 ?_
        exact law_186 l Z a0 hw q0 q1 q2 q3 qw dx la kd cK (3 : Int32) (1 : Int32) (2 : Int32) (4 : Int32) h1 h2 h3 wt lx tx v0 v1 (.ref b_59) v3 v4 h0 n0 Z0 p e s m below meth c hx hby hml hown hnm hret hlk hZ _ _ _ X_87 (rfl : T_87.heap = T_87.heap) N_87  O_87 BC SH SD VD FL (own_RT3 rfl) hwt H_87 (by rw [A0]; simp) (R0) (by rw [A1]; simp) (R1) (by simp [cz]) (rfl) (by rw [A3]; simp) (R3) (by rw [A4]; simp) (R4)
    · -- r = 4
      refine Goes.go (U' := (T.setTop (mkF m 160 #[sI_ q0, sI_ q1, sI_ q2, sI_ q3, sJ_ qw, sS_, sI_ (4 : Int32), sI_ (1 : Int32), sI_ (2 : Int32), sI_ (3 : Int32), sI_ h1, sI_ h2, sI_ h3, sJ_ wt, sS_, sR_ lx, sR_ tx, sU_, sU_] [(.ref tx)]))) (fun t kt => ?_) ?_
      · skip
        refine XS.aload X.here hx rfl (hb hby at_158) rfl rfl ?_
        exact kt
      obtain ⟨T_88, h_88, X_88, e_88, E_88, A_88, D_88, -, st_88⟩ := newO X hx hZ hown (wdOf hw 174 rfl) (wdOf hw 175 rfl) (wdOf hw 176 rfl) eT (g := (mkF m 160 #[sI_ q0, sI_ q1, sI_ q2, sI_ q3, sJ_ qw, sS_, sI_ (4 : Int32), sI_ (1 : Int32), sI_ (2 : Int32), sI_ (3 : Int32), sI_ h1, sI_ h2, sI_ h3, sJ_ wt, sS_, sR_ lx, sR_ tx, sU_, sU_] [(.ref tx)])) rfl (hb hby at_160) (by decide) (by decide)
      obtain ⟨b_88, g_88⟩ : ∃ z, z = h.size := ⟨_, rfl⟩
      rw [← g_88] at A_88 D_88 st_88
      have ne_89 : tx ≠ b_88 := Nat.ne_of_lt (Nat.lt_of_lt_of_le (HTr.exa HT0).lt (Nat.le_of_eq g_88.symm))
      have o_88 : n0 ≤ b_88 := Nat.le_trans sz0 (Nat.le_of_eq g_88.symm)
      have f_90 := O.ext E_88
      have f_91 : HTr Z h_88 n0 tx la (4 : Int32) v0 v1 v2 v3 v4 := HT0.ext E_88
      have f_92 := (HTr.exa HT0).ext E_88
      have f_93 : Fld Z h_88 b_88 "com/example/copse/copse/Arc" "tail" "I" (.int (0 : Int32)) := D_88 (Or.inr (wdOf hw 187 rfl)) (ty := .int) (by decide)
      have f_94 : Fld Z h_88 b_88 "com/example/copse/copse/Arc" "head" "I" (.int (0 : Int32)) := D_88 (Or.inr (wdOf hw 189 rfl)) (ty := .int) (by decide)
      have f_95 : Fld Z h_88 b_88 "com/example/copse/copse/Arc" "weight" "J" (.long (0 : Int64)) := D_88 (Or.inr (wdOf hw 191 rfl)) (ty := .long) (by decide)
      have y_96 : n0 ≤ h_88.size := Nat.le_trans (Nat.le_of_eq f_90.1.symm) f_90.2.1
      refine Goes.go (U' := (T_88.setTop (mkF m 163 #[sI_ q0, sI_ q1, sI_ q2, sI_ q3, sJ_ qw, sS_, sI_ (4 : Int32), sI_ (1 : Int32), sI_ (2 : Int32), sI_ (3 : Int32), sI_ h1, sI_ h2, sI_ h3, sJ_ wt, sS_, sR_ lx, sR_ tx, sU_, sU_] [(.ref b_88), (.ref tx)]))) st_88 ?_
      refine Goes.go (U' := (T_88.setTop (mkF m 166 #[sI_ q0, sI_ q1, sI_ q2, sI_ q3, sJ_ qw, sS_, sI_ (4 : Int32), sI_ (1 : Int32), sI_ (2 : Int32), sI_ (3 : Int32), sI_ h1, sI_ h2, sI_ h3, sJ_ wt, sS_, sR_ lx, sR_ tx, sU_, sU_] [(.int h1), (.ref b_88), (.ref b_88), (.ref tx)]))) (fun t kt => ?_) ?_
      · skip
        refine XS.dup X_88.here hx rfl (hb hby at_163) rfl rfl ?_
        refine XS.iload X_88.here hx rfl (hb hby at_164) rfl ?_
        exact kt
      by_cases cy : h1 = 0
      · -- h1 = 0
        refine Goes.go (U' := (T_88.setTop (mkF m 180 #[sI_ q0, sI_ q1, sI_ q2, sI_ q3, sJ_ qw, sS_, sI_ (4 : Int32), sI_ (1 : Int32), sI_ (2 : Int32), sI_ (3 : Int32), sI_ h1, sI_ h2, sI_ h3, sJ_ wt, sS_, sR_ lx, sR_ tx, sU_, sU_] [(.long wt), (.int (2 : Int32)), (.int (4 : Int32)), (.ref b_88), (.ref b_88), (.ref tx)]))) (fun t kt => ?_) ?_
        · skip
          refine XS.ifYes X_88.here hx rfl (pc0 := 166) (pc' := 174) rfl (hb hby at_166) rfl (XT.i0_eq_t cy) (by decide) (by decide) ?_
          refine XS.iload X_88.here hx rfl (hb hby at_174) rfl ?_
          refine XS.iload X_88.here hx rfl (hb hby at_176) rfl ?_
          refine XS.lload X_88.here hx rfl (hb hby at_178) rfl ?_
          exact kt
        obtain ⟨v_97, T_97, L_97, X_97, q_97, st_97⟩ := callInit X_88 hx hZ (y := (⟨"com/example/copse/copse/Arc", "<init>", "(IIJ)V"⟩ : MethodName)) (W := 2) rfl hown (wdOf hw 177 rfl) (wdOf hw 178 rfl) (wdOf hw 176 rfl) (wdOf hw 179 rfl) (by decide) (rm_arc l Z a0 hw [] b_88 (4 : Int32) (2 : Int32) wt h_88 n0 y_96 o_88 A_88 f_93 f_94 f_95 (by decide) (by decide) hwt) (by decide) (by decide) (by decide) (by decide) e_88 (b := b_88) (g := (mkF m 180 #[sI_ q0, sI_ q1, sI_ q2, sI_ q3, sJ_ qw, sS_, sI_ (4 : Int32), sI_ (1 : Int32), sI_ (2 : Int32), sI_ (3 : Int32), sI_ h1, sI_ h2, sI_ h3, sJ_ wt, sS_, sR_ lx, sR_ tx, sU_, sU_] [(.long wt), (.int (2 : Int32)), (.int (4 : Int32)), (.ref b_88), (.ref b_88), (.ref tx)])) rfl (by rw [hml]; rfl) (argsL := [(.int (4 : Int32)), (.int (2 : Int32)), (.long wt)]) (rest := [(.ref b_88), (.ref tx)]) (lenOf pd_13 rfl) rfl rfl (Nat.le_refl _) (hb hby at_180)
        obtain ⟨rfl, n_97, K_97, E_97, Ft_97, Fh_97, Fw_97⟩ := q_97
        have N_97 := Fr.app N n_97
        have f_98 := f_90.keep K_97 (allS o_88 all0)
        have f_100 := f_92.keep K_97
        have f_101 := A_88.keep K_97
        have y_105 : n0 ≤ T_97.heap.size := Nat.le_trans (Nat.le_of_eq f_98.1.symm) f_98.2.1
        refine Goes.go (U' := (T_97.setTop (mkF m 183 #[sI_ q0, sI_ q1, sI_ q2, sI_ q3, sJ_ qw, sS_, sI_ (4 : Int32), sI_ (1 : Int32), sI_ (2 : Int32), sI_ (3 : Int32), sI_ h1, sI_ h2, sI_ h3, sJ_ wt, sS_, sR_ lx, sR_ tx, sU_, sU_] [(.ref b_88), (.ref tx)]))) st_97 ?_
        have KK_97 : Ext h T_97.heap := Ext.of_keep (((Keep.refl h []).ext E_88).trans K_97 (allS (P := fun x => x ∈ [] ∨ h.size ≤ x) (Or.inr (Nat.le_of_eq g_88.symm)) all0))
        have HH_97 := HT0.ext KK_97
        obtain ⟨v_106, T_106, L_106, X_106, q_106, st_106⟩ := callVirtual X_97 hx hZ (y := (⟨"com/example/copse/copse/HangingTree", "hang", "(Lcom/example/copse/copse/Arc;)V"⟩ : MethodName)) (z := (⟨"com/example/copse/copse/HangingTree", "hang", "(Lcom/example/copse/copse/Arc;)V"⟩ : MethodName)) (W := 0) hown (wdOf hw 192 rfl) (wdOf hw 193 rfl) (notFace_of_selects (args := #[]) (mvT hZ (wdOf hw 195 rfl))) (wdOf hw 195 rfl) (wdOf hw 194 rfl) (wdOf hw 67 rfl) (wdOf hw 196 rfl) (by decide) (rm_hang2 l Z a0 hw [] tx b_88 la cK (4 : Int32) (4 : Int32) v0 v1 v2 v3 v4 T_97.heap n0 y_105 f_98 FL HH_97 f_101 Fh_97 Ft_97 ⟨by decide, by decide⟩) (by decide) (by decide) (by decide) (by decide) (rfl : T_97.heap = T_97.heap) f_100 (g := (mkF m 183 #[sI_ q0, sI_ q1, sI_ q2, sI_ q3, sJ_ qw, sS_, sI_ (4 : Int32), sI_ (1 : Int32), sI_ (2 : Int32), sI_ (3 : Int32), sI_ h1, sI_ h2, sI_ h3, sJ_ wt, sS_, sR_ lx, sR_ tx, sU_, sU_] [(.ref b_88), (.ref tx)])) rfl (by rw [hml]; rfl) (argsL := [(.ref b_88)]) (rest := []) (lenOf pd_14 rfl) rfl rfl (Nat.le_refl _) (hb hby at_183)
        obtain ⟨rfl, n_106, O_106, H_106⟩ := q_106
        have N_106 := Fr.app N_97 n_106
        have y_106 : n0 ≤ T_106.heap.size := Nat.le_trans (Nat.le_of_eq O_106.1.symm) O_106.2.1
        refine Goes.go (U' := (T_106.setTop (mkF m 186 #[sI_ q0, sI_ q1, sI_ q2, sI_ q3, sJ_ qw, sS_, sI_ (4 : Int32), sI_ (1 : Int32), sI_ (2 : Int32), sI_ (3 : Int32), sI_ h1, sI_ h2, sI_ h3, sJ_ wt, sS_, sR_ lx, sR_ tx, sU_, sU_] []))) st_106 ?_
        exact law_186 l Z a0 hw q0 q1 q2 q3 qw dx la kd cK (4 : Int32) (1 : Int32) (2 : Int32) (3 : Int32) h1 h2 h3 wt lx tx v0 v1 (.ref b_88) v3 v4 h0 n0 Z0 p e s m below meth c hx hby hml hown hnm hret hlk hZ _ _ _ X_106 (rfl : T_106.heap = T_106.heap) N_106  O_106 BC SH SD VD FL (own_RT4 rfl) hwt H_106 (by rw [A0]; simp) (R0) (by rw [A1]; simp) (R1) (by simp [cz]) (rfl) (by rw [A3]; simp) (R3) (by rw [A4]; simp) (R4)
      · -- not h1 = 0
        refine Goes.go (U' := (T_88.setTop (mkF m 180 #[sI_ q0, sI_ q1, sI_ q2, sI_ q3, sJ_ qw, sS_, sI_ (4 : Int32), sI_ (1 : Int32), sI_ (2 : Int32), sI_ (3 : Int32), sI_ h1, sI_ h2, sI_ h3, sJ_ wt, sS_, sR_ lx, sR_ tx, sU_, sU_] [(.long wt), (.int (2 : Int32)), (.int (1 : Int32)), (.ref b_88), (.ref b_88), (.ref tx)]))) (fun t kt => ?_) ?_
        · skip
          refine XS.ifNo X_88.here hx rfl (hb hby at_166) rfl (XT.i0_eq_f cy) ?_
          refine XS.iload X_88.here hx rfl (hb hby at_169) rfl ?_
          refine XS.goto X_88.here hx rfl (pc0 := 171) (pc' := 176) rfl (hb hby at_171) (by decide) (by decide) ?_
          refine XS.iload X_88.here hx rfl (hb hby at_176) rfl ?_
          refine XS.lload X_88.here hx rfl (hb hby at_178) rfl ?_
          exact kt
        obtain ⟨v_107, T_107, L_107, X_107, q_107, st_107⟩ := callInit X_88 hx hZ (y := (⟨"com/example/copse/copse/Arc", "<init>", "(IIJ)V"⟩ : MethodName)) (W := 2) rfl hown (wdOf hw 177 rfl) (wdOf hw 178 rfl) (wdOf hw 176 rfl) (wdOf hw 179 rfl) (by decide) (rm_arc l Z a0 hw [] b_88 (1 : Int32) (2 : Int32) wt h_88 n0 y_96 o_88 A_88 f_93 f_94 f_95 (by decide) (by decide) hwt) (by decide) (by decide) (by decide) (by decide) e_88 (b := b_88) (g := (mkF m 180 #[sI_ q0, sI_ q1, sI_ q2, sI_ q3, sJ_ qw, sS_, sI_ (4 : Int32), sI_ (1 : Int32), sI_ (2 : Int32), sI_ (3 : Int32), sI_ h1, sI_ h2, sI_ h3, sJ_ wt, sS_, sR_ lx, sR_ tx, sU_, sU_] [(.long wt), (.int (2 : Int32)), (.int (1 : Int32)), (.ref b_88), (.ref b_88), (.ref tx)])) rfl (by rw [hml]; rfl) (argsL := [(.int (1 : Int32)), (.int (2 : Int32)), (.long wt)]) (rest := [(.ref b_88), (.ref tx)]) (lenOf pd_13 rfl) rfl rfl (Nat.le_refl _) (hb hby at_180)
        obtain ⟨rfl, n_107, K_107, E_107, Ft_107, Fh_107, Fw_107⟩ := q_107
        have N_107 := Fr.app N n_107
        have f_108 := f_90.keep K_107 (allS o_88 all0)
        have f_110 := f_92.keep K_107
        have f_111 := A_88.keep K_107
        have y_115 : n0 ≤ T_107.heap.size := Nat.le_trans (Nat.le_of_eq f_108.1.symm) f_108.2.1
        refine Goes.go (U' := (T_107.setTop (mkF m 183 #[sI_ q0, sI_ q1, sI_ q2, sI_ q3, sJ_ qw, sS_, sI_ (4 : Int32), sI_ (1 : Int32), sI_ (2 : Int32), sI_ (3 : Int32), sI_ h1, sI_ h2, sI_ h3, sJ_ wt, sS_, sR_ lx, sR_ tx, sU_, sU_] [(.ref b_88), (.ref tx)]))) st_107 ?_
        have KK_107 : Ext h T_107.heap := Ext.of_keep (((Keep.refl h []).ext E_88).trans K_107 (allS (P := fun x => x ∈ [] ∨ h.size ≤ x) (Or.inr (Nat.le_of_eq g_88.symm)) all0))
        have HH_107 := HT0.ext KK_107
        obtain ⟨v_116, T_116, L_116, X_116, q_116, st_116⟩ := callVirtual X_107 hx hZ (y := (⟨"com/example/copse/copse/HangingTree", "hang", "(Lcom/example/copse/copse/Arc;)V"⟩ : MethodName)) (z := (⟨"com/example/copse/copse/HangingTree", "hang", "(Lcom/example/copse/copse/Arc;)V"⟩ : MethodName)) (W := 0) hown (wdOf hw 192 rfl) (wdOf hw 193 rfl) (notFace_of_selects (args := #[]) (mvT hZ (wdOf hw 195 rfl))) (wdOf hw 195 rfl) (wdOf hw 194 rfl) (wdOf hw 67 rfl) (wdOf hw 196 rfl) (by decide) (rm_hang2 l Z a0 hw [] tx b_88 la cK (4 : Int32) (1 : Int32) v0 v1 v2 v3 v4 T_107.heap n0 y_115 f_108 FL HH_107 f_111 Fh_107 Ft_107 ⟨by decide, by decide⟩) (by decide) (by decide) (by decide) (by decide) (rfl : T_107.heap = T_107.heap) f_110 (g := (mkF m 183 #[sI_ q0, sI_ q1, sI_ q2, sI_ q3, sJ_ qw, sS_, sI_ (4 : Int32), sI_ (1 : Int32), sI_ (2 : Int32), sI_ (3 : Int32), sI_ h1, sI_ h2, sI_ h3, sJ_ wt, sS_, sR_ lx, sR_ tx, sU_, sU_] [(.ref b_88), (.ref tx)])) rfl (by rw [hml]; rfl) (argsL := [(.ref b_88)]) (rest := []) (lenOf pd_14 rfl) rfl rfl (Nat.le_refl _) (hb hby at_183)
        obtain ⟨rfl, n_116, O_116, H_116⟩ := q_116
        have N_116 := Fr.app N_107 n_116
        have y_116 : n0 ≤ T_116.heap.size := Nat.le_trans (Nat.le_of_eq O_116.1.symm) O_116.2.1
        refine Goes.go (U' := (T_116.setTop (mkF m 186 #[sI_ q0, sI_ q1, sI_ q2, sI_ q3, sJ_ qw, sS_, sI_ (4 : Int32), sI_ (1 : Int32), sI_ (2 : Int32), sI_ (3 : Int32), sI_ h1, sI_ h2, sI_ h3, sJ_ wt, sS_, sR_ lx, sR_ tx, sU_, sU_] []))) st_116 ?_
        exact law_186 l Z a0 hw q0 q1 q2 q3 qw dx la kd cK (4 : Int32) (1 : Int32) (2 : Int32) (3 : Int32) h1 h2 h3 wt lx tx v0 v1 (.ref b_88) v3 v4 h0 n0 Z0 p e s m below meth c hx hby hml hown hnm hret hlk hZ _ _ _ X_116 (rfl : T_116.heap = T_116.heap) N_116  O_116 BC SH SD VD FL (own_RT4 rfl) hwt H_116 (by rw [A0]; simp) (R0) (by rw [A1]; simp) (R1) (by simp [cz]) (rfl) (by rw [A3]; simp) (R3) (by rw [A4]; simp) (R4)
set_option maxRecDepth 65536 in
set_option maxHeartbeats 40000000 in
theorem law_130 (l : Launch) (Z : State) (a0 : Array Value) (hw : ∀ d ∈ tables_1, d.before a0 Z = true) (q0 q1 q2 q3 : Int32) (qw : Int64) (dx la : Addr) (kd cK : ClassId) (r o1 o2 o3 : Int32) (h1 h2 h3 : Int32) (wt : Int64) (lx tx : Addr) (h0 : Heap) (n0 : Nat) (Z0 : n0 ≤ h0.size) (p : Program) (e : Env) (s : State) (m : MethodId) (below : List Frame) (meth : Method) (c : Code) (hx : p.tables.exec = Jvm.exec) (hby : c.code = code) (hml : c.maxLocals = maxLocals) (hown : s.vm.findClass "com/example/copse/copse/HangingTreeContainsPinLaw" = some m.cls) (hnm : meth.name = "law") (hret : meth.sig.returnType = ret) (hlk : meth.locks = false) (hZ : Z.Warmed39 s.vm) (h : Heap) (T : State) (locs : List Loc) (X : Stand p l e room_1 s m #[(.int q0), (.int q1), (.int q2), (.int q3), (.long qw)] below meth c T locs 17 100) (eT : T.heap = h) (N : Fr n0 locs) (O : Old Z n0 h) (BC : BoxC Z "java/lang/Integer$IntegerCache" "[Ljava/lang/Integer;" "java/lang/Integer" "I" (fun i => .int (i.toInt32 - 128))) (SH : Sta Z Z.heap "java/lang/Integer$IntegerCache" "high" "I" (.int (127 : Int32))) (SD : Sta Z Z.heap "java/util/ArrayList" "DEFAULTCAPACITY_EMPTY_ELEMENTDATA" "[Ljava/lang/Object;" (.ref dx)) (VD : Arv Z Z.heap dx kd (.object "java/lang/Object") (0 : Int32) [] .null) (FL : HLam.Lam Z cK la) (RT : RTs r o1 o2 o3) (hwt : ¬ wt < (0 : Int64)) (HT0 : HTr Z h n0 tx la r Value.null Value.null Value.null Value.null Value.null)  :
    Goes p e s below (fun v h L => v = some (.int 1) ∧ Fr n0 L) room_1.cells room_1.slots (T.setTop (mkF m 130 #[sI_ q0, sI_ q1, sI_ q2, sI_ q3, sJ_ qw, sS_, sI_ r, sI_ o1, sI_ o2, sI_ o3, sI_ h1, sI_ h2, sI_ h3, sJ_ wt, sS_, sR_ lx, sR_ tx, sU_, sU_] [])) := by
  have sz0 : n0 ≤ h.size := Nat.le_trans (Nat.le_of_eq O.1.symm) O.2.1
  refine Goes.go (U' := (T.setTop (mkF m 132 #[sI_ q0, sI_ q1, sI_ q2, sI_ q3, sJ_ qw, sS_, sI_ r, sI_ o1, sI_ o2, sI_ o3, sI_ h1, sI_ h2, sI_ h3, sJ_ wt, sS_, sR_ lx, sR_ tx, sU_, sU_] [(.int h1)]))) (fun t kt => ?_) ?_
  · skip
    refine XS.iload X.here hx rfl (hb hby at_130) rfl ?_
    exact kt
  by_cases cz : h1 = 0
  · -- h1 = 0
    refine Goes.go (U' := (T.setTop (mkF m 153 #[sI_ q0, sI_ q1, sI_ q2, sI_ q3, sJ_ qw, sS_, sI_ r, sI_ o1, sI_ o2, sI_ o3, sI_ h1, sI_ h2, sI_ h3, sJ_ wt, sS_, sR_ lx, sR_ tx, sU_, sU_] []))) (fun t kt => ?_) ?_
    · skip
      refine XS.ifYes X.here hx rfl (pc0 := 132) (pc' := 153) rfl (hb hby at_132) rfl (XT.i0_eq_t cz) (by decide) (by decide) ?_
      exact kt
    exact law_153 l Z a0 hw q0 q1 q2 q3 qw dx la kd cK r o1 o2 o3 h1 h2 h3 wt lx tx Value.null Value.null Value.null Value.null Value.null h0 n0 Z0 p e s m below meth c hx hby hml hown hnm hret hlk hZ _ _ _ (moreRoom (cells' := 18) (slots' := 103) X (by decide) (by decide)) eT N  O BC SH SD VD FL RT hwt HT0 (by simp [cz]) (rfl) (by simp [cz]) (rfl) (by simp [cz]) (rfl) (by simp [cz]) (rfl) (by simp [cz]) (rfl)
  · -- not h1 = 0
    refine Goes.go (U' := (T.setTop (mkF m 135 #[sI_ q0, sI_ q1, sI_ q2, sI_ q3, sJ_ qw, sS_, sI_ r, sI_ o1, sI_ o2, sI_ o3, sI_ h1, sI_ h2, sI_ h3, sJ_ wt, sS_, sR_ lx, sR_ tx, sU_, sU_] []))) (fun t kt => ?_) ?_
    · skip
      refine XS.ifNo X.here hx rfl (hb hby at_132) rfl (XT.i0_eq_f cz) ?_
      exact kt
    rcases RT with ⟨rfl, rfl, rfl, rfl⟩ | ⟨rfl, rfl, rfl, rfl⟩ | ⟨rfl, rfl, rfl, rfl⟩ | ⟨rfl, rfl, rfl, rfl⟩
    · -- r = 1
      refine Goes.go (U' := (T.setTop (mkF m 137 #[sI_ q0, sI_ q1, sI_ q2, sI_ q3, sJ_ qw, sS_, sI_ (1 : Int32), sI_ (2 : Int32), sI_ (3 : Int32), sI_ (4 : Int32), sI_ h1, sI_ h2, sI_ h3, sJ_ wt, sS_, sR_ lx, sR_ tx, sU_, sU_] [(.ref tx)]))) (fun t kt => ?_) ?_
      · skip
        refine XS.aload X.here hx rfl (hb hby at_135) rfl rfl ?_
        exact kt
      obtain ⟨T_1, h_1, X_1, e_1, E_1, A_1, D_1, -, st_1⟩ := newO X hx hZ hown (wdOf hw 174 rfl) (wdOf hw 175 rfl) (wdOf hw 176 rfl) eT (g := (mkF m 137 #[sI_ q0, sI_ q1, sI_ q2, sI_ q3, sJ_ qw, sS_, sI_ (1 : Int32), sI_ (2 : Int32), sI_ (3 : Int32), sI_ (4 : Int32), sI_ h1, sI_ h2, sI_ h3, sJ_ wt, sS_, sR_ lx, sR_ tx, sU_, sU_] [(.ref tx)])) rfl (hb hby at_137) (by decide) (by decide)
      obtain ⟨b_1, g_1⟩ : ∃ z, z = h.size := ⟨_, rfl⟩
      rw [← g_1] at A_1 D_1 st_1
      have ne_2 : tx ≠ b_1 := Nat.ne_of_lt (Nat.lt_of_lt_of_le (HTr.exa HT0).lt (Nat.le_of_eq g_1.symm))
      have o_1 : n0 ≤ b_1 := Nat.le_trans sz0 (Nat.le_of_eq g_1.symm)
      have f_3 := O.ext E_1
      have f_4 : HTr Z h_1 n0 tx la (1 : Int32) Value.null Value.null Value.null Value.null Value.null := HT0.ext E_1
      have f_5 := (HTr.exa HT0).ext E_1
      have f_6 : Fld Z h_1 b_1 "com/example/copse/copse/Arc" "tail" "I" (.int (0 : Int32)) := D_1 (Or.inr (wdOf hw 187 rfl)) (ty := .int) (by decide)
      have f_7 : Fld Z h_1 b_1 "com/example/copse/copse/Arc" "head" "I" (.int (0 : Int32)) := D_1 (Or.inr (wdOf hw 189 rfl)) (ty := .int) (by decide)
      have f_8 : Fld Z h_1 b_1 "com/example/copse/copse/Arc" "weight" "J" (.long (0 : Int64)) := D_1 (Or.inr (wdOf hw 191 rfl)) (ty := .long) (by decide)
      have y_9 : n0 ≤ h_1.size := Nat.le_trans (Nat.le_of_eq f_3.1.symm) f_3.2.1
      refine Goes.go (U' := (T_1.setTop (mkF m 140 #[sI_ q0, sI_ q1, sI_ q2, sI_ q3, sJ_ qw, sS_, sI_ (1 : Int32), sI_ (2 : Int32), sI_ (3 : Int32), sI_ (4 : Int32), sI_ h1, sI_ h2, sI_ h3, sJ_ wt, sS_, sR_ lx, sR_ tx, sU_, sU_] [(.ref b_1), (.ref tx)]))) st_1 ?_
      refine Goes.go (U' := (T_1.setTop (mkF m 147 #[sI_ q0, sI_ q1, sI_ q2, sI_ q3, sJ_ qw, sS_, sI_ (1 : Int32), sI_ (2 : Int32), sI_ (3 : Int32), sI_ (4 : Int32), sI_ h1, sI_ h2, sI_ h3, sJ_ wt, sS_, sR_ lx, sR_ tx, sU_, sU_] [(.long wt), (.int (2 : Int32)), (.int (1 : Int32)), (.ref b_1), (.ref b_1), (.ref tx)]))) (fun t kt => ?_) ?_
      · skip
        refine XS.dup X_1.here hx rfl (hb hby at_140) rfl rfl ?_
        refine XS.iload X_1.here hx rfl (hb hby at_141) rfl ?_
        refine XS.iload X_1.here hx rfl (hb hby at_143) rfl ?_
        refine XS.lload X_1.here hx rfl (hb hby at_145) rfl ?_
        exact kt
      obtain ⟨v_10, T_10, L_10, X_10, q_10, st_10⟩ := callInit X_1 hx hZ (y := (⟨"com/example/copse/copse/Arc", "<init>", "(IIJ)V"⟩ : MethodName)) (W := 2) rfl hown (wdOf hw 177 rfl) (wdOf hw 178 rfl) (wdOf hw 176 rfl) (wdOf hw 179 rfl) (by decide) (rm_arc l Z a0 hw [] b_1 (1 : Int32) (2 : Int32) wt h_1 n0 y_9 o_1 A_1 f_6 f_7 f_8 (by decide) (by decide) hwt) (by decide) (by decide) (by decide) (by decide) e_1 (b := b_1) (g := (mkF m 147 #[sI_ q0, sI_ q1, sI_ q2, sI_ q3, sJ_ qw, sS_, sI_ (1 : Int32), sI_ (2 : Int32), sI_ (3 : Int32), sI_ (4 : Int32), sI_ h1, sI_ h2, sI_ h3, sJ_ wt, sS_, sR_ lx, sR_ tx, sU_, sU_] [(.long wt), (.int (2 : Int32)), (.int (1 : Int32)), (.ref b_1), (.ref b_1), (.ref tx)])) rfl (by rw [hml]; rfl) (argsL := [(.int (1 : Int32)), (.int (2 : Int32)), (.long wt)]) (rest := [(.ref b_1), (.ref tx)]) (lenOf pd_13 rfl) rfl rfl (Nat.le_refl _) (hb hby at_147)
      obtain ⟨rfl, n_10, K_10, E_10, Ft_10, Fh_10, Fw_10⟩ := q_10
      have N_10 := Fr.app N n_10
      have f_11 := f_3.keep K_10 (allS o_1 all0)
      have f_13 := f_5.keep K_10
      have f_14 := A_1.keep K_10
      have y_18 : n0 ≤ T_10.heap.size := Nat.le_trans (Nat.le_of_eq f_11.1.symm) f_11.2.1
      refine Goes.go (U' := (T_10.setTop (mkF m 150 #[sI_ q0, sI_ q1, sI_ q2, sI_ q3, sJ_ qw, sS_, sI_ (1 : Int32), sI_ (2 : Int32), sI_ (3 : Int32), sI_ (4 : Int32), sI_ h1, sI_ h2, sI_ h3, sJ_ wt, sS_, sR_ lx, sR_ tx, sU_, sU_] [(.ref b_1), (.ref tx)]))) st_10 ?_
      have KK_10 : Ext h T_10.heap := Ext.of_keep (((Keep.refl h []).ext E_1).trans K_10 (allS (P := fun x => x ∈ [] ∨ h.size ≤ x) (Or.inr (Nat.le_of_eq g_1.symm)) all0))
      have HH_10 := HT0.ext KK_10
      obtain ⟨v_19, T_19, L_19, X_19, q_19, st_19⟩ := callVirtual X_10 hx hZ (y := (⟨"com/example/copse/copse/HangingTree", "hang", "(Lcom/example/copse/copse/Arc;)V"⟩ : MethodName)) (z := (⟨"com/example/copse/copse/HangingTree", "hang", "(Lcom/example/copse/copse/Arc;)V"⟩ : MethodName)) (W := 0) hown (wdOf hw 192 rfl) (wdOf hw 193 rfl) (notFace_of_selects (args := #[]) (mvT hZ (wdOf hw 195 rfl))) (wdOf hw 195 rfl) (wdOf hw 194 rfl) (wdOf hw 67 rfl) (wdOf hw 196 rfl) (by decide) (rm_hang2 l Z a0 hw [] tx b_1 la cK (1 : Int32) (1 : Int32) Value.null Value.null Value.null Value.null Value.null T_10.heap n0 y_18 f_11 FL HH_10 f_14 Fh_10 Ft_10 ⟨by decide, by decide⟩) (by decide) (by decide) (by decide) (by decide) (rfl : T_10.heap = T_10.heap) f_13 (g := (mkF m 150 #[sI_ q0, sI_ q1, sI_ q2, sI_ q3, sJ_ qw, sS_, sI_ (1 : Int32), sI_ (2 : Int32), sI_ (3 : Int32), sI_ (4 : Int32), sI_ h1, sI_ h2, sI_ h3, sJ_ wt, sS_, sR_ lx, sR_ tx, sU_, sU_] [(.ref b_1), (.ref tx)])) rfl (by rw [hml]; rfl) (argsL := [(.ref b_1)]) (rest := []) (lenOf pd_14 rfl) rfl rfl (Nat.le_refl _) (hb hby at_150)
      obtain ⟨rfl, n_19, O_19, H_19⟩ := q_19
      have N_19 := Fr.app N_10 n_19
      have y_19 : n0 ≤ T_19.heap.size := Nat.le_trans (Nat.le_of_eq O_19.1.symm) O_19.2.1
      refine Goes.go (U' := (T_19.setTop (mkF m 153 #[sI_ q0, sI_ q1, sI_ q2, sI_ q3, sJ_ qw, sS_, sI_ (1 : Int32), sI_ (2 : Int32), sI_ (3 : Int32), sI_ (4 : Int32), sI_ h1, sI_ h2, sI_ h3, sJ_ wt, sS_, sR_ lx, sR_ tx, sU_, sU_] []))) st_19 ?_
      exact law_153 l Z a0 hw q0 q1 q2 q3 qw dx la kd cK (1 : Int32) (2 : Int32) (3 : Int32) (4 : Int32) h1 h2 h3 wt lx tx Value.null Value.null (.ref b_1) Value.null Value.null h0 n0 Z0 p e s m below meth c hx hby hml hown hnm hret hlk hZ _ _ _ X_19 (rfl : T_19.heap = T_19.heap) N_19  O_19 BC SH SD VD FL (own_RT1 rfl) hwt H_19 (by simp [cz]) (rfl) (by simp [cz]) (rfl) (by simp [cz]) (rfl) (by simp [cz]) (rfl) (by simp [cz]) (rfl)
    · -- r = 2
      refine Goes.go (U' := (T.setTop (mkF m 137 #[sI_ q0, sI_ q1, sI_ q2, sI_ q3, sJ_ qw, sS_, sI_ (2 : Int32), sI_ (1 : Int32), sI_ (3 : Int32), sI_ (4 : Int32), sI_ h1, sI_ h2, sI_ h3, sJ_ wt, sS_, sR_ lx, sR_ tx, sU_, sU_] [(.ref tx)]))) (fun t kt => ?_) ?_
      · skip
        refine XS.aload X.here hx rfl (hb hby at_135) rfl rfl ?_
        exact kt
      obtain ⟨T_20, h_20, X_20, e_20, E_20, A_20, D_20, -, st_20⟩ := newO X hx hZ hown (wdOf hw 174 rfl) (wdOf hw 175 rfl) (wdOf hw 176 rfl) eT (g := (mkF m 137 #[sI_ q0, sI_ q1, sI_ q2, sI_ q3, sJ_ qw, sS_, sI_ (2 : Int32), sI_ (1 : Int32), sI_ (3 : Int32), sI_ (4 : Int32), sI_ h1, sI_ h2, sI_ h3, sJ_ wt, sS_, sR_ lx, sR_ tx, sU_, sU_] [(.ref tx)])) rfl (hb hby at_137) (by decide) (by decide)
      obtain ⟨b_20, g_20⟩ : ∃ z, z = h.size := ⟨_, rfl⟩
      rw [← g_20] at A_20 D_20 st_20
      have ne_21 : tx ≠ b_20 := Nat.ne_of_lt (Nat.lt_of_lt_of_le (HTr.exa HT0).lt (Nat.le_of_eq g_20.symm))
      have o_20 : n0 ≤ b_20 := Nat.le_trans sz0 (Nat.le_of_eq g_20.symm)
      have f_22 := O.ext E_20
      have f_23 : HTr Z h_20 n0 tx la (2 : Int32) Value.null Value.null Value.null Value.null Value.null := HT0.ext E_20
      have f_24 := (HTr.exa HT0).ext E_20
      have f_25 : Fld Z h_20 b_20 "com/example/copse/copse/Arc" "tail" "I" (.int (0 : Int32)) := D_20 (Or.inr (wdOf hw 187 rfl)) (ty := .int) (by decide)
      have f_26 : Fld Z h_20 b_20 "com/example/copse/copse/Arc" "head" "I" (.int (0 : Int32)) := D_20 (Or.inr (wdOf hw 189 rfl)) (ty := .int) (by decide)
      have f_27 : Fld Z h_20 b_20 "com/example/copse/copse/Arc" "weight" "J" (.long (0 : Int64)) := D_20 (Or.inr (wdOf hw 191 rfl)) (ty := .long) (by decide)
      have y_28 : n0 ≤ h_20.size := Nat.le_trans (Nat.le_of_eq f_22.1.symm) f_22.2.1
      refine Goes.go (U' := (T_20.setTop (mkF m 140 #[sI_ q0, sI_ q1, sI_ q2, sI_ q3, sJ_ qw, sS_, sI_ (2 : Int32), sI_ (1 : Int32), sI_ (3 : Int32), sI_ (4 : Int32), sI_ h1, sI_ h2, sI_ h3, sJ_ wt, sS_, sR_ lx, sR_ tx, sU_, sU_] [(.ref b_20), (.ref tx)]))) st_20 ?_
      refine Goes.go (U' := (T_20.setTop (mkF m 147 #[sI_ q0, sI_ q1, sI_ q2, sI_ q3, sJ_ qw, sS_, sI_ (2 : Int32), sI_ (1 : Int32), sI_ (3 : Int32), sI_ (4 : Int32), sI_ h1, sI_ h2, sI_ h3, sJ_ wt, sS_, sR_ lx, sR_ tx, sU_, sU_] [(.long wt), (.int (1 : Int32)), (.int (2 : Int32)), (.ref b_20), (.ref b_20), (.ref tx)]))) (fun t kt => ?_) ?_
      · skip
        refine XS.dup X_20.here hx rfl (hb hby at_140) rfl rfl ?_
        refine XS.iload X_20.here hx rfl (hb hby at_141) rfl ?_
        refine XS.iload X_20.here hx rfl (hb hby at_143) rfl ?_
        refine XS.lload X_20.here hx rfl (hb hby at_145) rfl ?_
        exact kt
      obtain ⟨v_29, T_29, L_29, X_29, q_29, st_29⟩ := callInit X_20 hx hZ (y := (⟨"com/example/copse/copse/Arc", "<init>", "(IIJ)V"⟩ : MethodName)) (W := 2) rfl hown (wdOf hw 177 rfl) (wdOf hw 178 rfl) (wdOf hw 176 rfl) (wdOf hw 179 rfl) (by decide) (rm_arc l Z a0 hw [] b_20 (2 : Int32) (1 : Int32) wt h_20 n0 y_28 o_20 A_20 f_25 f_26 f_27 (by decide) (by decide) hwt) (by decide) (by decide) (by decide) (by decide) e_20 (b := b_20) (g := (mkF m 147 #[sI_ q0, sI_ q1, sI_ q2, sI_ q3, sJ_ qw, sS_, sI_ (2 : Int32), sI_ (1 : Int32), sI_ (3 : Int32), sI_ (4 : Int32), sI_ h1, sI_ h2, sI_ h3, sJ_ wt, sS_, sR_ lx, sR_ tx, sU_, sU_] [(.long wt), (.int (1 : Int32)), (.int (2 : Int32)), (.ref b_20), (.ref b_20), (.ref tx)])) rfl (by rw [hml]; rfl) (argsL := [(.int (2 : Int32)), (.int (1 : Int32)), (.long wt)]) (rest := [(.ref b_20), (.ref tx)]) (lenOf pd_13 rfl) rfl rfl (Nat.le_refl _) (hb hby at_147)
      obtain ⟨rfl, n_29, K_29, E_29, Ft_29, Fh_29, Fw_29⟩ := q_29
      have N_29 := Fr.app N n_29
      have f_30 := f_22.keep K_29 (allS o_20 all0)
      have f_32 := f_24.keep K_29
      have f_33 := A_20.keep K_29
      have y_37 : n0 ≤ T_29.heap.size := Nat.le_trans (Nat.le_of_eq f_30.1.symm) f_30.2.1
      refine Goes.go (U' := (T_29.setTop (mkF m 150 #[sI_ q0, sI_ q1, sI_ q2, sI_ q3, sJ_ qw, sS_, sI_ (2 : Int32), sI_ (1 : Int32), sI_ (3 : Int32), sI_ (4 : Int32), sI_ h1, sI_ h2, sI_ h3, sJ_ wt, sS_, sR_ lx, sR_ tx, sU_, sU_] [(.ref b_20), (.ref tx)]))) st_29 ?_
      have KK_29 : Ext h T_29.heap := Ext.of_keep (((Keep.refl h []).ext E_20).trans K_29 (allS (P := fun x => x ∈ [] ∨ h.size ≤ x) (Or.inr (Nat.le_of_eq g_20.symm)) all0))
      have HH_29 := HT0.ext KK_29
      obtain ⟨v_38, T_38, L_38, X_38, q_38, st_38⟩ := callVirtual X_29 hx hZ (y := (⟨"com/example/copse/copse/HangingTree", "hang", "(Lcom/example/copse/copse/Arc;)V"⟩ : MethodName)) (z := (⟨"com/example/copse/copse/HangingTree", "hang", "(Lcom/example/copse/copse/Arc;)V"⟩ : MethodName)) (W := 0) hown (wdOf hw 192 rfl) (wdOf hw 193 rfl) (notFace_of_selects (args := #[]) (mvT hZ (wdOf hw 195 rfl))) (wdOf hw 195 rfl) (wdOf hw 194 rfl) (wdOf hw 67 rfl) (wdOf hw 196 rfl) (by decide) (rm_hang1 l Z a0 hw [] tx b_20 la cK (2 : Int32) (2 : Int32) Value.null Value.null Value.null Value.null Value.null T_29.heap n0 y_37 f_30 FL HH_29 f_33 Fh_29 Ft_29 ⟨by decide, by decide⟩) (by decide) (by decide) (by decide) (by decide) (rfl : T_29.heap = T_29.heap) f_32 (g := (mkF m 150 #[sI_ q0, sI_ q1, sI_ q2, sI_ q3, sJ_ qw, sS_, sI_ (2 : Int32), sI_ (1 : Int32), sI_ (3 : Int32), sI_ (4 : Int32), sI_ h1, sI_ h2, sI_ h3, sJ_ wt, sS_, sR_ lx, sR_ tx, sU_, sU_] [(.ref b_20), (.ref tx)])) rfl (by rw [hml]; rfl) (argsL := [(.ref b_20)]) (rest := []) (lenOf pd_14 rfl) rfl rfl (Nat.le_refl _) (hb hby at_150)
      obtain ⟨rfl, n_38, O_38, H_38⟩ := q_38
      have N_38 := Fr.app N_29 n_38
      have y_38 : n0 ≤ T_38.heap.size := Nat.le_trans (Nat.le_of_eq O_38.1.symm) O_38.2.1
      refine Goes.go (U' := (T_38.setTop (mkF m 153 #[sI_ q0, sI_ q1, sI_ q2, sI_ q3, sJ_ qw, sS_, sI_ (2 : Int32), sI_ (1 : Int32), sI_ (3 : Int32), sI_ (4 : Int32), sI_ h1, sI_ h2, sI_ h3, sJ_ wt, sS_, sR_ lx, sR_ tx, sU_, sU_] []))) st_38 ?_
      exact law_153 l Z a0 hw q0 q1 q2 q3 qw dx la kd cK (2 : Int32) (1 : Int32) (3 : Int32) (4 : Int32) h1 h2 h3 wt lx tx Value.null (.ref b_20) Value.null Value.null Value.null h0 n0 Z0 p e s m below meth c hx hby hml hown hnm hret hlk hZ _ _ _ X_38 (rfl : T_38.heap = T_38.heap) N_38  O_38 BC SH SD VD FL (own_RT2 rfl) hwt H_38 (by simp [cz]) (rfl) (by simp [cz]) (rfl) (by simp [cz]) (rfl) (by simp [cz]) (rfl) (by simp [cz]) (rfl)
    · -- r = 3
      refine Goes.go (U' := (T.setTop (mkF m 137 #[sI_ q0, sI_ q1, sI_ q2, sI_ q3, sJ_ qw, sS_, sI_ (3 : Int32), sI_ (1 : Int32), sI_ (2 : Int32), sI_ (4 : Int32), sI_ h1, sI_ h2, sI_ h3, sJ_ wt, sS_, sR_ lx, sR_ tx, sU_, sU_] [(.ref tx)]))) (fun t kt => ?_) ?_
      · skip
        refine XS.aload X.here hx rfl (hb hby at_135) rfl rfl ?_
        exact kt
      obtain ⟨T_39, h_39, X_39, e_39, E_39, A_39, D_39, -, st_39⟩ := newO X hx hZ hown (wdOf hw 174 rfl) (wdOf hw 175 rfl) (wdOf hw 176 rfl) eT (g := (mkF m 137 #[sI_ q0, sI_ q1, sI_ q2, sI_ q3, sJ_ qw, sS_, sI_ (3 : Int32), sI_ (1 : Int32), sI_ (2 : Int32), sI_ (4 : Int32), sI_ h1, sI_ h2, sI_ h3, sJ_ wt, sS_, sR_ lx, sR_ tx, sU_, sU_] [(.ref tx)])) rfl (hb hby at_137) (by decide) (by decide)
      obtain ⟨b_39, g_39⟩ : ∃ z, z = h.size := ⟨_, rfl⟩
      rw [← g_39] at A_39 D_39 st_39
      have ne_40 : tx ≠ b_39 := Nat.ne_of_lt (Nat.lt_of_lt_of_le (HTr.exa HT0).lt (Nat.le_of_eq g_39.symm))
      have o_39 : n0 ≤ b_39 := Nat.le_trans sz0 (Nat.le_of_eq g_39.symm)
      have f_41 := O.ext E_39
      have f_42 : HTr Z h_39 n0 tx la (3 : Int32) Value.null Value.null Value.null Value.null Value.null := HT0.ext E_39
      have f_43 := (HTr.exa HT0).ext E_39
      have f_44 : Fld Z h_39 b_39 "com/example/copse/copse/Arc" "tail" "I" (.int (0 : Int32)) := D_39 (Or.inr (wdOf hw 187 rfl)) (ty := .int) (by decide)
      have f_45 : Fld Z h_39 b_39 "com/example/copse/copse/Arc" "head" "I" (.int (0 : Int32)) := D_39 (Or.inr (wdOf hw 189 rfl)) (ty := .int) (by decide)
      have f_46 : Fld Z h_39 b_39 "com/example/copse/copse/Arc" "weight" "J" (.long (0 : Int64)) := D_39 (Or.inr (wdOf hw 191 rfl)) (ty := .long) (by decide)
      have y_47 : n0 ≤ h_39.size := Nat.le_trans (Nat.le_of_eq f_41.1.symm) f_41.2.1
      refine Goes.go (U' := (T_39.setTop (mkF m 140 #[sI_ q0, sI_ q1, sI_ q2, sI_ q3, sJ_ qw, sS_, sI_ (3 : Int32), sI_ (1 : Int32), sI_ (2 : Int32), sI_ (4 : Int32), sI_ h1, sI_ h2, sI_ h3, sJ_ wt, sS_, sR_ lx, sR_ tx, sU_, sU_] [(.ref b_39), (.ref tx)]))) st_39 ?_
      refine Goes.go (U' := (T_39.setTop (mkF m 147 #[sI_ q0, sI_ q1, sI_ q2, sI_ q3, sJ_ qw, sS_, sI_ (3 : Int32), sI_ (1 : Int32), sI_ (2 : Int32), sI_ (4 : Int32), sI_ h1, sI_ h2, sI_ h3, sJ_ wt, sS_, sR_ lx, sR_ tx, sU_, sU_] [(.long wt), (.int (1 : Int32)), (.int (3 : Int32)), (.ref b_39), (.ref b_39), (.ref tx)]))) (fun t kt => ?_) ?_
      · skip
        refine XS.dup X_39.here hx rfl (hb hby at_140) rfl rfl ?_
        refine XS.iload X_39.here hx rfl (hb hby at_141) rfl ?_
        refine XS.iload X_39.here hx rfl (hb hby at_143) rfl ?_
        refine XS.lload X_39.here hx rfl (hb hby at_145) rfl ?_
        exact kt
      obtain ⟨v_48, T_48, L_48, X_48, q_48, st_48⟩ := callInit X_39 hx hZ (y := (⟨"com/example/copse/copse/Arc", "<init>", "(IIJ)V"⟩ : MethodName)) (W := 2) rfl hown (wdOf hw 177 rfl) (wdOf hw 178 rfl) (wdOf hw 176 rfl) (wdOf hw 179 rfl) (by decide) (rm_arc l Z a0 hw [] b_39 (3 : Int32) (1 : Int32) wt h_39 n0 y_47 o_39 A_39 f_44 f_45 f_46 (by decide) (by decide) hwt) (by decide) (by decide) (by decide) (by decide) e_39 (b := b_39) (g := (mkF m 147 #[sI_ q0, sI_ q1, sI_ q2, sI_ q3, sJ_ qw, sS_, sI_ (3 : Int32), sI_ (1 : Int32), sI_ (2 : Int32), sI_ (4 : Int32), sI_ h1, sI_ h2, sI_ h3, sJ_ wt, sS_, sR_ lx, sR_ tx, sU_, sU_] [(.long wt), (.int (1 : Int32)), (.int (3 : Int32)), (.ref b_39), (.ref b_39), (.ref tx)])) rfl (by rw [hml]; rfl) (argsL := [(.int (3 : Int32)), (.int (1 : Int32)), (.long wt)]) (rest := [(.ref b_39), (.ref tx)]) (lenOf pd_13 rfl) rfl rfl (Nat.le_refl _) (hb hby at_147)
      obtain ⟨rfl, n_48, K_48, E_48, Ft_48, Fh_48, Fw_48⟩ := q_48
      have N_48 := Fr.app N n_48
      have f_49 := f_41.keep K_48 (allS o_39 all0)
      have f_51 := f_43.keep K_48
      have f_52 := A_39.keep K_48
      have y_56 : n0 ≤ T_48.heap.size := Nat.le_trans (Nat.le_of_eq f_49.1.symm) f_49.2.1
      refine Goes.go (U' := (T_48.setTop (mkF m 150 #[sI_ q0, sI_ q1, sI_ q2, sI_ q3, sJ_ qw, sS_, sI_ (3 : Int32), sI_ (1 : Int32), sI_ (2 : Int32), sI_ (4 : Int32), sI_ h1, sI_ h2, sI_ h3, sJ_ wt, sS_, sR_ lx, sR_ tx, sU_, sU_] [(.ref b_39), (.ref tx)]))) st_48 ?_
      have KK_48 : Ext h T_48.heap := Ext.of_keep (((Keep.refl h []).ext E_39).trans K_48 (allS (P := fun x => x ∈ [] ∨ h.size ≤ x) (Or.inr (Nat.le_of_eq g_39.symm)) all0))
      have HH_48 := HT0.ext KK_48
      obtain ⟨v_57, T_57, L_57, X_57, q_57, st_57⟩ := callVirtual X_48 hx hZ (y := (⟨"com/example/copse/copse/HangingTree", "hang", "(Lcom/example/copse/copse/Arc;)V"⟩ : MethodName)) (z := (⟨"com/example/copse/copse/HangingTree", "hang", "(Lcom/example/copse/copse/Arc;)V"⟩ : MethodName)) (W := 0) hown (wdOf hw 192 rfl) (wdOf hw 193 rfl) (notFace_of_selects (args := #[]) (mvT hZ (wdOf hw 195 rfl))) (wdOf hw 195 rfl) (wdOf hw 194 rfl) (wdOf hw 67 rfl) (wdOf hw 196 rfl) (by decide) (rm_hang1 l Z a0 hw [] tx b_39 la cK (3 : Int32) (3 : Int32) Value.null Value.null Value.null Value.null Value.null T_48.heap n0 y_56 f_49 FL HH_48 f_52 Fh_48 Ft_48 ⟨by decide, by decide⟩) (by decide) (by decide) (by decide) (by decide) (rfl : T_48.heap = T_48.heap) f_51 (g := (mkF m 150 #[sI_ q0, sI_ q1, sI_ q2, sI_ q3, sJ_ qw, sS_, sI_ (3 : Int32), sI_ (1 : Int32), sI_ (2 : Int32), sI_ (4 : Int32), sI_ h1, sI_ h2, sI_ h3, sJ_ wt, sS_, sR_ lx, sR_ tx, sU_, sU_] [(.ref b_39), (.ref tx)])) rfl (by rw [hml]; rfl) (argsL := [(.ref b_39)]) (rest := []) (lenOf pd_14 rfl) rfl rfl (Nat.le_refl _) (hb hby at_150)
      obtain ⟨rfl, n_57, O_57, H_57⟩ := q_57
      have N_57 := Fr.app N_48 n_57
      have y_57 : n0 ≤ T_57.heap.size := Nat.le_trans (Nat.le_of_eq O_57.1.symm) O_57.2.1
      refine Goes.go (U' := (T_57.setTop (mkF m 153 #[sI_ q0, sI_ q1, sI_ q2, sI_ q3, sJ_ qw, sS_, sI_ (3 : Int32), sI_ (1 : Int32), sI_ (2 : Int32), sI_ (4 : Int32), sI_ h1, sI_ h2, sI_ h3, sJ_ wt, sS_, sR_ lx, sR_ tx, sU_, sU_] []))) st_57 ?_
      exact law_153 l Z a0 hw q0 q1 q2 q3 qw dx la kd cK (3 : Int32) (1 : Int32) (2 : Int32) (4 : Int32) h1 h2 h3 wt lx tx Value.null (.ref b_39) Value.null Value.null Value.null h0 n0 Z0 p e s m below meth c hx hby hml hown hnm hret hlk hZ _ _ _ X_57 (rfl : T_57.heap = T_57.heap) N_57  O_57 BC SH SD VD FL (own_RT3 rfl) hwt H_57 (by simp [cz]) (rfl) (by simp [cz]) (rfl) (by simp [cz]) (rfl) (by simp [cz]) (rfl) (by simp [cz]) (rfl)
    · -- r = 4
      refine Goes.go (U' := (T.setTop (mkF m 137 #[sI_ q0, sI_ q1, sI_ q2, sI_ q3, sJ_ qw, sS_, sI_ (4 : Int32), sI_ (1 : Int32), sI_ (2 : Int32), sI_ (3 : Int32), sI_ h1, sI_ h2, sI_ h3, sJ_ wt, sS_, sR_ lx, sR_ tx, sU_, sU_] [(.ref tx)]))) (fun t kt => ?_) ?_
      · skip
        refine XS.aload X.here hx rfl (hb hby at_135) rfl rfl ?_
        exact kt
      obtain ⟨T_58, h_58, X_58, e_58, E_58, A_58, D_58, -, st_58⟩ := newO X hx hZ hown (wdOf hw 174 rfl) (wdOf hw 175 rfl) (wdOf hw 176 rfl) eT (g := (mkF m 137 #[sI_ q0, sI_ q1, sI_ q2, sI_ q3, sJ_ qw, sS_, sI_ (4 : Int32), sI_ (1 : Int32), sI_ (2 : Int32), sI_ (3 : Int32), sI_ h1, sI_ h2, sI_ h3, sJ_ wt, sS_, sR_ lx, sR_ tx, sU_, sU_] [(.ref tx)])) rfl (hb hby at_137) (by decide) (by decide)
      obtain ⟨b_58, g_58⟩ : ∃ z, z = h.size := ⟨_, rfl⟩
      rw [← g_58] at A_58 D_58 st_58
      have ne_59 : tx ≠ b_58 := Nat.ne_of_lt (Nat.lt_of_lt_of_le (HTr.exa HT0).lt (Nat.le_of_eq g_58.symm))
      have o_58 : n0 ≤ b_58 := Nat.le_trans sz0 (Nat.le_of_eq g_58.symm)
      have f_60 := O.ext E_58
      have f_61 : HTr Z h_58 n0 tx la (4 : Int32) Value.null Value.null Value.null Value.null Value.null := HT0.ext E_58
      have f_62 := (HTr.exa HT0).ext E_58
      have f_63 : Fld Z h_58 b_58 "com/example/copse/copse/Arc" "tail" "I" (.int (0 : Int32)) := D_58 (Or.inr (wdOf hw 187 rfl)) (ty := .int) (by decide)
      have f_64 : Fld Z h_58 b_58 "com/example/copse/copse/Arc" "head" "I" (.int (0 : Int32)) := D_58 (Or.inr (wdOf hw 189 rfl)) (ty := .int) (by decide)
      have f_65 : Fld Z h_58 b_58 "com/example/copse/copse/Arc" "weight" "J" (.long (0 : Int64)) := D_58 (Or.inr (wdOf hw 191 rfl)) (ty := .long) (by decide)
      have y_66 : n0 ≤ h_58.size := Nat.le_trans (Nat.le_of_eq f_60.1.symm) f_60.2.1
      refine Goes.go (U' := (T_58.setTop (mkF m 140 #[sI_ q0, sI_ q1, sI_ q2, sI_ q3, sJ_ qw, sS_, sI_ (4 : Int32), sI_ (1 : Int32), sI_ (2 : Int32), sI_ (3 : Int32), sI_ h1, sI_ h2, sI_ h3, sJ_ wt, sS_, sR_ lx, sR_ tx, sU_, sU_] [(.ref b_58), (.ref tx)]))) st_58 ?_
      refine Goes.go (U' := (T_58.setTop (mkF m 147 #[sI_ q0, sI_ q1, sI_ q2, sI_ q3, sJ_ qw, sS_, sI_ (4 : Int32), sI_ (1 : Int32), sI_ (2 : Int32), sI_ (3 : Int32), sI_ h1, sI_ h2, sI_ h3, sJ_ wt, sS_, sR_ lx, sR_ tx, sU_, sU_] [(.long wt), (.int (1 : Int32)), (.int (4 : Int32)), (.ref b_58), (.ref b_58), (.ref tx)]))) (fun t kt => ?_) ?_
      · skip
        refine XS.dup X_58.here hx rfl (hb hby at_140) rfl rfl ?_
        refine XS.iload X_58.here hx rfl (hb hby at_141) rfl ?_
        refine XS.iload X_58.here hx rfl (hb hby at_143) rfl ?_
        refine XS.lload X_58.here hx rfl (hb hby at_145) rfl ?_
        exact kt
      obtain ⟨v_67, T_67, L_67, X_67, q_67, st_67⟩ := callInit X_58 hx hZ (y := (⟨"com/example/copse/copse/Arc", "<init>", "(IIJ)V"⟩ : MethodName)) (W := 2) rfl hown (wdOf hw 177 rfl) (wdOf hw 178 rfl) (wdOf hw 176 rfl) (wdOf hw 179 rfl) (by decide) (rm_arc l Z a0 hw [] b_58 (4 : Int32) (1 : Int32) wt h_58 n0 y_66 o_58 A_58 f_63 f_64 f_65 (by decide) (by decide) hwt) (by decide) (by decide) (by decide) (by decide) e_58 (b := b_58) (g := (mkF m 147 #[sI_ q0, sI_ q1, sI_ q2, sI_ q3, sJ_ qw, sS_, sI_ (4 : Int32), sI_ (1 : Int32), sI_ (2 : Int32), sI_ (3 : Int32), sI_ h1, sI_ h2, sI_ h3, sJ_ wt, sS_, sR_ lx, sR_ tx, sU_, sU_] [(.long wt), (.int (1 : Int32)), (.int (4 : Int32)), (.ref b_58), (.ref b_58), (.ref tx)])) rfl (by rw [hml]; rfl) (argsL := [(.int (4 : Int32)), (.int (1 : Int32)), (.long wt)]) (rest := [(.ref b_58), (.ref tx)]) (lenOf pd_13 rfl) rfl rfl (Nat.le_refl _) (hb hby at_147)
      obtain ⟨rfl, n_67, K_67, E_67, Ft_67, Fh_67, Fw_67⟩ := q_67
      have N_67 := Fr.app N n_67
      have f_68 := f_60.keep K_67 (allS o_58 all0)
      have f_70 := f_62.keep K_67
      have f_71 := A_58.keep K_67
      have y_75 : n0 ≤ T_67.heap.size := Nat.le_trans (Nat.le_of_eq f_68.1.symm) f_68.2.1
      refine Goes.go (U' := (T_67.setTop (mkF m 150 #[sI_ q0, sI_ q1, sI_ q2, sI_ q3, sJ_ qw, sS_, sI_ (4 : Int32), sI_ (1 : Int32), sI_ (2 : Int32), sI_ (3 : Int32), sI_ h1, sI_ h2, sI_ h3, sJ_ wt, sS_, sR_ lx, sR_ tx, sU_, sU_] [(.ref b_58), (.ref tx)]))) st_67 ?_
      have KK_67 : Ext h T_67.heap := Ext.of_keep (((Keep.refl h []).ext E_58).trans K_67 (allS (P := fun x => x ∈ [] ∨ h.size ≤ x) (Or.inr (Nat.le_of_eq g_58.symm)) all0))
      have HH_67 := HT0.ext KK_67
      obtain ⟨v_76, T_76, L_76, X_76, q_76, st_76⟩ := callVirtual X_67 hx hZ (y := (⟨"com/example/copse/copse/HangingTree", "hang", "(Lcom/example/copse/copse/Arc;)V"⟩ : MethodName)) (z := (⟨"com/example/copse/copse/HangingTree", "hang", "(Lcom/example/copse/copse/Arc;)V"⟩ : MethodName)) (W := 0) hown (wdOf hw 192 rfl) (wdOf hw 193 rfl) (notFace_of_selects (args := #[]) (mvT hZ (wdOf hw 195 rfl))) (wdOf hw 195 rfl) (wdOf hw 194 rfl) (wdOf hw 67 rfl) (wdOf hw 196 rfl) (by decide) (rm_hang1 l Z a0 hw [] tx b_58 la cK (4 : Int32) (4 : Int32) Value.null Value.null Value.null Value.null Value.null T_67.heap n0 y_75 f_68 FL HH_67 f_71 Fh_67 Ft_67 ⟨by decide, by decide⟩) (by decide) (by decide) (by decide) (by decide) (rfl : T_67.heap = T_67.heap) f_70 (g := (mkF m 150 #[sI_ q0, sI_ q1, sI_ q2, sI_ q3, sJ_ qw, sS_, sI_ (4 : Int32), sI_ (1 : Int32), sI_ (2 : Int32), sI_ (3 : Int32), sI_ h1, sI_ h2, sI_ h3, sJ_ wt, sS_, sR_ lx, sR_ tx, sU_, sU_] [(.ref b_58), (.ref tx)])) rfl (by rw [hml]; rfl) (argsL := [(.ref b_58)]) (rest := []) (lenOf pd_14 rfl) rfl rfl (Nat.le_refl _) (hb hby at_150)
      obtain ⟨rfl, n_76, O_76, H_76⟩ := q_76
      have N_76 := Fr.app N_67 n_76
      have y_76 : n0 ≤ T_76.heap.size := Nat.le_trans (Nat.le_of_eq O_76.1.symm) O_76.2.1
      refine Goes.go (U' := (T_76.setTop (mkF m 153 #[sI_ q0, sI_ q1, sI_ q2, sI_ q3, sJ_ qw, sS_, sI_ (4 : Int32), sI_ (1 : Int32), sI_ (2 : Int32), sI_ (3 : Int32), sI_ h1, sI_ h2, sI_ h3, sJ_ wt, sS_, sR_ lx, sR_ tx, sU_, sU_] []))) st_76 ?_
      exact law_153 l Z a0 hw q0 q1 q2 q3 qw dx la kd cK (4 : Int32) (1 : Int32) (2 : Int32) (3 : Int32) h1 h2 h3 wt lx tx Value.null (.ref b_58) Value.null Value.null Value.null h0 n0 Z0 p e s m below meth c hx hby hml hown hnm hret hlk hZ _ _ _ X_76 (rfl : T_76.heap = T_76.heap) N_76  O_76 BC SH SD VD FL (own_RT4 rfl) hwt H_76 (by simp [cz]) (rfl) (by simp [cz]) (rfl) (by simp [cz]) (rfl) (by simp [cz]) (rfl) (by simp [cz]) (rfl)
set_option maxRecDepth 65536 in
set_option maxHeartbeats 40000000 in
theorem law_93 (l : Launch) (Z : State) (a0 : Array Value) (hw : ∀ d ∈ tables_1, d.before a0 Z = true) (q0 q1 q2 q3 : Int32) (qw : Int64) (dx la : Addr) (kd cK : ClassId) (r o1 o2 o3 : Int32) (h1 h2 h3 : Int32) (wt : Int64) (h0 : Heap) (n0 : Nat) (Z0 : n0 ≤ h0.size) (p : Program) (e : Env) (s : State) (m : MethodId) (below : List Frame) (meth : Method) (c : Code) (hx : p.tables.exec = Jvm.exec) (hby : c.code = code) (hml : c.maxLocals = maxLocals) (hown : s.vm.findClass "com/example/copse/copse/HangingTreeContainsPinLaw" = some m.cls) (hnm : meth.name = "law") (hret : meth.sig.returnType = ret) (hlk : meth.locks = false) (hZ : Z.Warmed39 s.vm) (h : Heap) (T : State) (locs : List Loc) (X : Stand p l e room_1 s m #[(.int q0), (.int q1), (.int q2), (.int q3), (.long qw)] below meth c T locs 0 0) (eT : T.heap = h) (N : Fr n0 locs) (O : Old Z n0 h) (BC : BoxC Z "java/lang/Integer$IntegerCache" "[Ljava/lang/Integer;" "java/lang/Integer" "I" (fun i => .int (i.toInt32 - 128))) (SH : Sta Z Z.heap "java/lang/Integer$IntegerCache" "high" "I" (.int (127 : Int32))) (SD : Sta Z Z.heap "java/util/ArrayList" "DEFAULTCAPACITY_EMPTY_ELEMENTDATA" "[Ljava/lang/Object;" (.ref dx)) (VD : Arv Z Z.heap dx kd (.object "java/lang/Object") (0 : Int32) [] .null) (FL : HLam.Lam Z cK la) (RT : RTs r o1 o2 o3) (hwt : ¬ wt < (0 : Int64)) :
    Goes p e s below (fun v h L => v = some (.int 1) ∧ Fr n0 L) room_1.cells room_1.slots (T.setTop (mkF m 93 #[sI_ q0, sI_ q1, sI_ q2, sI_ q3, sJ_ qw, sS_, sI_ r, sI_ o1, sI_ o2, sI_ o3, sI_ h1, sI_ h2, sI_ h3, sJ_ wt, sS_, sU_, sU_, sU_, sU_] [])) := by
  have sz0 : n0 ≤ h.size := Nat.le_trans (Nat.le_of_eq O.1.symm) O.2.1
  obtain ⟨T_1, h_1, X_1, e_1, E_1, A_1, D_1, -, st_1⟩ := newO X hx hZ hown (wdOf hw 1 rfl) (wdOf hw 2 rfl) (wdOf hw 3 rfl) eT (g := (mkF m 93 #[sI_ q0, sI_ q1, sI_ q2, sI_ q3, sJ_ qw, sS_, sI_ r, sI_ o1, sI_ o2, sI_ o3, sI_ h1, sI_ h2, sI_ h3, sJ_ wt, sS_, sU_, sU_, sU_, sU_] [])) rfl (hb hby at_93) (by decide) (by decide)
  obtain ⟨b_1, g_1⟩ : ∃ z, z = h.size := ⟨_, rfl⟩
  rw [← g_1] at A_1 D_1 st_1
  have o_1 : n0 ≤ b_1 := Nat.le_trans sz0 (Nat.le_of_eq g_1.symm)
  have f_2 := O.ext E_1
  have f_3 : Fld Z h_1 b_1 "java/util/AbstractList" "modCount" "I" (.int (0 : Int32)) := D_1 (Or.inl (wdOf hw 23 rfl)) (ty := .int) (by decide)
  have f_4 : Fld Z h_1 b_1 "java/util/ArrayList" "elementData" "[Ljava/lang/Object;" .null := D_1 (Or.inl (wdOf hw 26 rfl)) (ty := (.array (.object "java/lang/Object"))) (by decide)
  have f_5 : Fld Z h_1 b_1 "java/util/ArrayList" "size" "I" (.int (0 : Int32)) := D_1 (Or.inl (wdOf hw 42 rfl)) (ty := .int) (by decide)
  have y_6 : n0 ≤ h_1.size := Nat.le_trans (Nat.le_of_eq f_2.1.symm) f_2.2.1
  refine Goes.go (U' := (T_1.setTop (mkF m 96 #[sI_ q0, sI_ q1, sI_ q2, sI_ q3, sJ_ qw, sS_, sI_ r, sI_ o1, sI_ o2, sI_ o3, sI_ h1, sI_ h2, sI_ h3, sJ_ wt, sS_, sU_, sU_, sU_, sU_] [(.ref b_1)]))) st_1 ?_
  refine Goes.go (U' := (T_1.setTop (mkF m 97 #[sI_ q0, sI_ q1, sI_ q2, sI_ q3, sJ_ qw, sS_, sI_ r, sI_ o1, sI_ o2, sI_ o3, sI_ h1, sI_ h2, sI_ h3, sJ_ wt, sS_, sU_, sU_, sU_, sU_] [(.ref b_1), (.ref b_1)]))) (fun t kt => ?_) ?_
  · skip
    refine XS.dup X_1.here hx rfl (hb hby at_96) rfl rfl ?_
    exact kt
  obtain ⟨v_7, T_7, L_7, X_7, q_7, st_7⟩ := callInit X_1 hx hZ (y := (⟨"java/util/ArrayList", "<init>", "()V"⟩ : MethodName)) (W := 1) rfl hown (wdOf hw 4 rfl) (wdOf hw 5 rfl) (wdOf hw 3 rfl) (wdOf hw 6 rfl) (by decide) (rm_li l Z a0 hw [] b_1 dx h_1 n0 y_6 f_2 SD o_1 A_1 f_3 f_4 f_5) (by decide) (by decide) (by decide) (by decide) e_1 (b := b_1) (g := (mkF m 97 #[sI_ q0, sI_ q1, sI_ q2, sI_ q3, sJ_ qw, sS_, sI_ r, sI_ o1, sI_ o2, sI_ o3, sI_ h1, sI_ h2, sI_ h3, sJ_ wt, sS_, sU_, sU_, sU_, sU_] [(.ref b_1), (.ref b_1)])) rfl (by rw [hml]; rfl) (argsL := []) (rest := [(.ref b_1)]) (lenOf pd_0 rfl) rfl rfl (Nat.le_refl _) (hb hby at_97)
  obtain ⟨rfl, n_7, K_7, GE__7, GmodCount__7, GelementData__7, Gsize__7⟩ := q_7
  have N_7 := Fr.app N n_7
  have f_8 := f_2.keep K_7 (allS o_1 all0)
  have f_9 := A_1.keep K_7
  have y_13 : n0 ≤ T_7.heap.size := Nat.le_trans (Nat.le_of_eq f_8.1.symm) f_8.2.1
  refine Goes.go (U' := (T_7.setTop (mkF m 100 #[sI_ q0, sI_ q1, sI_ q2, sI_ q3, sJ_ qw, sS_, sI_ r, sI_ o1, sI_ o2, sI_ o3, sI_ h1, sI_ h2, sI_ h3, sJ_ wt, sS_, sU_, sU_, sU_, sU_] [(.ref b_1)]))) st_7 ?_
  have hrb := own_rb q3
  refine Goes.go (U' := (T_7.setTop (mkF m 109 #[sI_ q0, sI_ q1, sI_ q2, sI_ q3, sJ_ qw, sS_, sI_ r, sI_ o1, sI_ o2, sI_ o3, sI_ h1, sI_ h2, sI_ h3, sJ_ wt, sS_, sR_ b_1, sU_, sU_, sU_] [(.int ((1 : Int32) + (q3 &&& (3 : Int32)))), (.ref b_1)]))) (fun t kt => ?_) ?_
  · skip
    refine XS.astore X_7.here hx rfl (hb hby at_100) rfl rfl (l' := #[sI_ q0, sI_ q1, sI_ q2, sI_ q3, sJ_ qw, sS_, sI_ r, sI_ o1, sI_ o2, sI_ o3, sI_ h1, sI_ h2, sI_ h3, sJ_ wt, sS_, sR_ b_1, sU_, sU_, sU_]) rfl ?_
    refine XS.aload X_7.here hx rfl (hb hby at_102) rfl rfl ?_
    refine XS.iconst X_7.here hx rfl (hb hby at_104) ?_
    refine XS.iloadN X_7.here hx rfl (hb hby at_105) rfl ?_
    refine XS.iconst X_7.here hx rfl (hb hby at_106) ?_
    refine XS.iand X_7.here hx rfl (hb hby at_107) rfl ?_
    refine XS.iadd X_7.here hx rfl (hb hby at_108) rfl ?_
    exact kt
  obtain ⟨v_14, T_14, L_14, X_14, q_14, st_14⟩ := callStatic X_7 hx hZ (y := (⟨"java/lang/Integer", "valueOf", "(I)Ljava/lang/Integer;"⟩ : MethodName)) (W := 1) hown (wdOf hw 27 rfl) (wdOf hw 28 rfl) (wdOf hw 29 rfl) (wdOf hw 30 rfl) (by decide) (rm_vo l Z a0 hw [] ((1 : Int32) + (q3 &&& (3 : Int32))) T_7.heap n0 y_13 f_8 BC SH hrb.1 hrb.2.1) (by decide) (by decide) (by decide) (by decide) (rfl : T_7.heap = T_7.heap) (g := (mkF m 109 #[sI_ q0, sI_ q1, sI_ q2, sI_ q3, sJ_ qw, sS_, sI_ r, sI_ o1, sI_ o2, sI_ o3, sI_ h1, sI_ h2, sI_ h3, sJ_ wt, sS_, sR_ b_1, sU_, sU_, sU_] [(.int ((1 : Int32) + (q3 &&& (3 : Int32)))), (.ref b_1)])) rfl (by rw [hml]; rfl) (argsL := [(.int ((1 : Int32) + (q3 &&& (3 : Int32))))]) (rest := [(.ref b_1)]) (lenOf pd_15 rfl) rfl rfl (Nat.le_refl _) (hb hby at_109)
  obtain ⟨r_14, rfl, n_14, K_14, E_14, F_14⟩ := q_14
  have N_14 := Fr.app N_7 n_14
  have f_15 := f_8.ext K_14
  have f_16 := f_9.ext K_14
  have f_17 := GmodCount__7.ext K_14
  have f_18 := GelementData__7.ext K_14
  have f_19 := Gsize__7.ext K_14
  have y_20 : n0 ≤ T_14.heap.size := Nat.le_trans (Nat.le_of_eq f_15.1.symm) f_15.2.1
  refine Goes.go (U' := (T_14.setTop (mkF m 112 #[sI_ q0, sI_ q1, sI_ q2, sI_ q3, sJ_ qw, sS_, sI_ r, sI_ o1, sI_ o2, sI_ o3, sI_ h1, sI_ h2, sI_ h3, sJ_ wt, sS_, sR_ b_1, sU_, sU_, sU_] [(.ref r_14), (.ref b_1)]))) st_14 ?_
  obtain ⟨v_21, T_21, L_21, X_21, q_21, st_21⟩ := callVirtual X_14 hx hZ (y := (⟨"java/util/ArrayList", "add", "(Ljava/lang/Object;)Z"⟩ : MethodName)) (z := (⟨"java/util/ArrayList", "add", "(Ljava/lang/Object;)Z"⟩ : MethodName)) (W := 0) hown (wdOf hw 34 rfl) (wdOf hw 35 rfl) (notFace_of_selects (args := #[]) (mvT hZ (wdOf hw 37 rfl))) (wdOf hw 37 rfl) (wdOf hw 36 rfl) (wdOf hw 3 rfl) (wdOf hw 38 rfl) (by decide) (rm_a1 l Z a0 hw [] b_1 dx kd r_14 T_14.heap n0 y_20 f_15 SD o_1 (Old.ne f_15 VD.lt o_1) f_16 f_17 f_18 f_19 (VD.ext f_15.2) E_14) (by decide) (by decide) (by decide) (by decide) (rfl : T_14.heap = T_14.heap) f_16 (g := (mkF m 112 #[sI_ q0, sI_ q1, sI_ q2, sI_ q3, sJ_ qw, sS_, sI_ r, sI_ o1, sI_ o2, sI_ o3, sI_ h1, sI_ h2, sI_ h3, sJ_ wt, sS_, sR_ b_1, sU_, sU_, sU_] [(.ref r_14), (.ref b_1)])) rfl (by rw [hml]; rfl) (argsL := [(.ref r_14)]) (rest := []) (lenOf pd_16 rfl) rfl rfl (Nat.le_refl _) (hb hby at_112)
  obtain ⟨rfl, n_21, K_21, r_21, k_21, GE__21, GmodCount__21, GelementData__21, Gsize__21, Gv__21⟩ := q_21
  have N_21 := Fr.app N_14 n_21
  have f_22 := f_15.keep K_21 (allS o_1 all0)
  have f_23 := f_16.keep K_21
  have f_27 := E_14.keep K_21
  have f_28 := F_14.keep K_21 (ninS (ne_exa E_14 f_16 (by decide)) nin0)
  have y_29 : n0 ≤ T_21.heap.size := Nat.le_trans (Nat.le_of_eq f_22.1.symm) f_22.2.1
  refine Goes.go (U' := (T_21.setTop (mkF m 115 #[sI_ q0, sI_ q1, sI_ q2, sI_ q3, sJ_ qw, sS_, sI_ r, sI_ o1, sI_ o2, sI_ o3, sI_ h1, sI_ h2, sI_ h3, sJ_ wt, sS_, sR_ b_1, sU_, sU_, sU_] [(.int (1 : Int32))]))) st_21 ?_
  refine Goes.go (U' := (T_21.setTop (mkF m 116 #[sI_ q0, sI_ q1, sI_ q2, sI_ q3, sJ_ qw, sS_, sI_ r, sI_ o1, sI_ o2, sI_ o3, sI_ h1, sI_ h2, sI_ h3, sJ_ wt, sS_, sR_ b_1, sU_, sU_, sU_] []))) (fun t kt => ?_) ?_
  · skip
    refine XS.pop X_21.here hx rfl (hb hby at_115) rfl rfl ?_
    exact kt
  obtain ⟨T_30, h_30, X_30, e_30, E_30, A_30, D_30, -, st_30⟩ := newO X_21 hx hZ hown (wdOf hw 65 rfl) (wdOf hw 66 rfl) (wdOf hw 67 rfl) (rfl : T_21.heap = T_21.heap) (g := (mkF m 116 #[sI_ q0, sI_ q1, sI_ q2, sI_ q3, sJ_ qw, sS_, sI_ r, sI_ o1, sI_ o2, sI_ o3, sI_ h1, sI_ h2, sI_ h3, sJ_ wt, sS_, sR_ b_1, sU_, sU_, sU_] [])) rfl (hb hby at_116) (by decide) (by decide)
  obtain ⟨b_30, g_30⟩ : ∃ z, z = T_21.heap.size := ⟨_, rfl⟩
  rw [← g_30] at A_30 D_30 st_30
  have ne_31 : b_1 ≠ b_30 := Nat.ne_of_lt (Nat.lt_of_lt_of_le f_23.lt (Nat.le_of_eq g_30.symm))
  have ne_32 : r_14 ≠ b_30 := Nat.ne_of_lt (Nat.lt_of_lt_of_le f_27.lt (Nat.le_of_eq g_30.symm))
  have ne_33 : r_21 ≠ b_30 := Nat.ne_of_lt (Nat.lt_of_lt_of_le Gv__21.lt (Nat.le_of_eq g_30.symm))
  have o_30 : n0 ≤ b_30 := Nat.le_trans y_29 (Nat.le_of_eq g_30.symm)
  have f_34 := f_22.ext E_30
  have f_35 := f_23.ext E_30
  have f_36 := f_27.ext E_30
  have f_37 := f_28.ext E_30
  have f_38 := GmodCount__21.ext E_30
  have f_39 := GelementData__21.ext E_30
  have f_40 := Gsize__21.ext E_30
  have f_41 := Gv__21.ext E_30
  have f_42 : Fld Z h_30 b_30 "com/example/copse/copse/HangingTree" "size" "I" (.int (0 : Int32)) := D_30 (Or.inl (wdOf hw 79 rfl)) (ty := .int) (by decide)
  have f_43 : Fld Z h_30 b_30 "com/example/copse/copse/HangingTree" "root" "I" (.int (0 : Int32)) := D_30 (Or.inr (wdOf hw 81 rfl)) (ty := .int) (by decide)
  have f_44 : Fld Z h_30 b_30 "com/example/copse/copse/HangingTree" "hangsOn" "[Lcom/example/copse/copse/Arc;" .null := D_30 (Or.inr (wdOf hw 85 rfl)) (ty := (.array (.object "com/example/copse/copse/Arc"))) (by decide)
  have f_45 : Fld Z h_30 b_30 "com/example/copse/copse/HangingTree" "children" "[I" .null := D_30 (Or.inr (wdOf hw 88 rfl)) (ty := (.array .int)) (by decide)
  have f_46 : Fld Z h_30 b_30 "com/example/copse/copse/HangingTree" "kept" "[Z" .null := D_30 (Or.inr (wdOf hw 91 rfl)) (ty := (.array .boolean)) (by decide)
  have f_47 : Fld Z h_30 b_30 "com/example/copse/copse/HangingTree" "firstChild" "[I" .null := D_30 (Or.inr (wdOf hw 93 rfl)) (ty := (.array .int)) (by decide)
  have f_48 : Fld Z h_30 b_30 "com/example/copse/copse/HangingTree" "nextSibling" "[I" .null := D_30 (Or.inr (wdOf hw 95 rfl)) (ty := (.array .int)) (by decide)
  have f_49 : Fld Z h_30 b_30 "com/example/copse/copse/HangingTree" "previousSibling" "[I" .null := D_30 (Or.inr (wdOf hw 97 rfl)) (ty := (.array .int)) (by decide)
  have f_50 : Fld Z h_30 b_30 "com/example/copse/copse/HangingTree" "twinned" "Ljava/util/function/Predicate;" .null := D_30 (Or.inr (wdOf hw 99 rfl)) (ty := (.object "java/util/function/Predicate")) (by decide)
  have f_51 : Fld Z h_30 b_30 "com/example/copse/copse/HangingTree" "turns" "[Z" .null := D_30 (Or.inr (wdOf hw 101 rfl)) (ty := (.array .boolean)) (by decide)
  have f_52 : Fld Z h_30 b_30 "com/example/copse/copse/HangingTree" "inside" "[Z" .null := D_30 (Or.inr (wdOf hw 103 rfl)) (ty := (.array .boolean)) (by decide)
  have f_53 : Fld Z h_30 b_30 "com/example/copse/copse/HangingTree" "joinable" "[I" .null := D_30 (Or.inr (wdOf hw 105 rfl)) (ty := (.array .int)) (by decide)
  have f_54 : Fld Z h_30 b_30 "com/example/copse/copse/HangingTree" "isJoinable" "[Z" .null := D_30 (Or.inr (wdOf hw 107 rfl)) (ty := (.array .boolean)) (by decide)
  have f_55 : Fld Z h_30 b_30 "com/example/copse/copse/HangingTree" "rest" "[I" .null := D_30 (Or.inr (wdOf hw 109 rfl)) (ty := (.array .int)) (by decide)
  have f_56 : Fld Z h_30 b_30 "com/example/copse/copse/HangingTree" "isRest" "[Z" .null := D_30 (Or.inr (wdOf hw 111 rfl)) (ty := (.array .boolean)) (by decide)
  have f_57 : Fld Z h_30 b_30 "com/example/copse/copse/HangingTree" "noCheaperPathAt" "[J" .null := D_30 (Or.inr (wdOf hw 114 rfl)) (ty := (.array .long)) (by decide)
  have f_58 : Fld Z h_30 b_30 "com/example/copse/copse/HangingTree" "changes" "J" (.long (0 : Int64)) := D_30 (Or.inl (wdOf hw 214 rfl)) (ty := .long) (by decide)
  have f_59 : Fld Z h_30 b_30 "com/example/copse/copse/HangingTree" "forest" "Lcom/example/copse/copse/LinkCutForest;" .null := D_30 (Or.inl (wdOf hw 220 rfl)) (ty := (.object "com/example/copse/copse/LinkCutForest")) (by decide)
  have y_60 : n0 ≤ h_30.size := Nat.le_trans (Nat.le_of_eq f_34.1.symm) f_34.2.1
  refine Goes.go (U' := (T_30.setTop (mkF m 119 #[sI_ q0, sI_ q1, sI_ q2, sI_ q3, sJ_ qw, sS_, sI_ r, sI_ o1, sI_ o2, sI_ o3, sI_ h1, sI_ h2, sI_ h3, sJ_ wt, sS_, sR_ b_1, sU_, sU_, sU_] [(.ref b_30)]))) st_30 ?_
  refine Goes.go (U' := (T_30.setTop (mkF m 125 #[sI_ q0, sI_ q1, sI_ q2, sI_ q3, sJ_ qw, sS_, sI_ r, sI_ o1, sI_ o2, sI_ o3, sI_ h1, sI_ h2, sI_ h3, sJ_ wt, sS_, sR_ b_1, sU_, sU_, sU_] [(.ref b_1), (.int r), (.int (4 : Int32)), (.ref b_30), (.ref b_30)]))) (fun t kt => ?_) ?_
  · skip
    refine XS.dup X_30.here hx rfl (hb hby at_119) rfl rfl ?_
    refine XS.iconst X_30.here hx rfl (hb hby at_120) ?_
    refine XS.iload X_30.here hx rfl (hb hby at_121) rfl ?_
    refine XS.aload X_30.here hx rfl (hb hby at_123) rfl rfl ?_
    exact kt
  obtain ⟨v_61, T_61, L_61, X_61, q_61, st_61⟩ := callInit X_30 hx hZ (y := (⟨"com/example/copse/copse/HangingTree", "<init>", "(IILjava/util/Collection;)V"⟩ : MethodName)) (W := 1) rfl hown (wdOf hw 68 rfl) (wdOf hw 69 rfl) (wdOf hw 67 rfl) (wdOf hw 70 rfl) (by decide) (rm_ti1 l Z a0 hw [] b_30 b_1 r_21 r_14 la k_21 r ((1 : Int32) + (q3 &&& (3 : Int32))) cK h_30 n0 y_60 FL f_34 o_30 RT.in5 hrb.2.2 A_30 f_42 f_43 f_44 f_45 f_46 f_47 f_48 f_49 f_50 f_51 f_52 f_53 f_54 f_55 f_56 f_57 f_58 f_59 f_35 f_38 f_39 f_40 f_41 f_36 f_37) (by decide) (by decide) (by decide) (by decide) e_30 (b := b_30) (g := (mkF m 125 #[sI_ q0, sI_ q1, sI_ q2, sI_ q3, sJ_ qw, sS_, sI_ r, sI_ o1, sI_ o2, sI_ o3, sI_ h1, sI_ h2, sI_ h3, sJ_ wt, sS_, sR_ b_1, sU_, sU_, sU_] [(.ref b_1), (.int r), (.int (4 : Int32)), (.ref b_30), (.ref b_30)])) rfl (by rw [hml]; rfl) (argsL := [(.int (4 : Int32)), (.int r), (.ref b_1)]) (rest := [(.ref b_30)]) (lenOf pd_17 rfl) rfl rfl (Nat.le_refl _) (hb hby at_125)
  obtain ⟨rfl, n_61, O_61, H_61⟩ := q_61
  have N_61 := Fr.app N_21 n_61
  have y_61 : n0 ≤ T_61.heap.size := Nat.le_trans (Nat.le_of_eq O_61.1.symm) O_61.2.1
  refine Goes.go (U' := (T_61.setTop (mkF m 128 #[sI_ q0, sI_ q1, sI_ q2, sI_ q3, sJ_ qw, sS_, sI_ r, sI_ o1, sI_ o2, sI_ o3, sI_ h1, sI_ h2, sI_ h3, sJ_ wt, sS_, sR_ b_1, sU_, sU_, sU_] [(.ref b_30)]))) st_61 ?_
  refine Goes.go (U' := (T_61.setTop (mkF m 130 #[sI_ q0, sI_ q1, sI_ q2, sI_ q3, sJ_ qw, sS_, sI_ r, sI_ o1, sI_ o2, sI_ o3, sI_ h1, sI_ h2, sI_ h3, sJ_ wt, sS_, sR_ b_1, sR_ b_30, sU_, sU_] []))) (fun t kt => ?_) ?_
  · skip
    refine XS.astore X_61.here hx rfl (hb hby at_128) rfl rfl (l' := #[sI_ q0, sI_ q1, sI_ q2, sI_ q3, sJ_ qw, sS_, sI_ r, sI_ o1, sI_ o2, sI_ o3, sI_ h1, sI_ h2, sI_ h3, sJ_ wt, sS_, sR_ b_1, sR_ b_30, sU_, sU_]) rfl ?_
    exact kt
  exact law_130 l Z a0 hw q0 q1 q2 q3 qw dx la kd cK r o1 o2 o3 h1 h2 h3 wt b_1 b_30 h0 n0 Z0 p e s m below meth c hx hby hml hown hnm hret hlk hZ _ _ _ X_61 (rfl : T_61.heap = T_61.heap) N_61  O_61 BC SH SD VD FL RT hwt H_61
set_option maxRecDepth 65536 in
set_option maxHeartbeats 40000000 in
theorem law_46 (l : Launch) (Z : State) (a0 : Array Value) (hw : ∀ d ∈ tables_1, d.before a0 Z = true) (q0 q1 q2 q3 : Int32) (qw : Int64) (dx la : Addr) (kd cK : ClassId) (r o1 o2 o3 : Int32) (h0 : Heap) (n0 : Nat) (Z0 : n0 ≤ h0.size) (p : Program) (e : Env) (s : State) (m : MethodId) (below : List Frame) (meth : Method) (c : Code) (hx : p.tables.exec = Jvm.exec) (hby : c.code = code) (hml : c.maxLocals = maxLocals) (hown : s.vm.findClass "com/example/copse/copse/HangingTreeContainsPinLaw" = some m.cls) (hnm : meth.name = "law") (hret : meth.sig.returnType = ret) (hlk : meth.locks = false) (hZ : Z.Warmed39 s.vm) (h : Heap) (T : State) (locs : List Loc) (X : Stand p l e room_1 s m #[(.int q0), (.int q1), (.int q2), (.int q3), (.long qw)] below meth c T locs 0 0) (eT : T.heap = h) (N : Fr n0 locs) (O : Old Z n0 h) (BC : BoxC Z "java/lang/Integer$IntegerCache" "[Ljava/lang/Integer;" "java/lang/Integer" "I" (fun i => .int (i.toInt32 - 128))) (SH : Sta Z Z.heap "java/lang/Integer$IntegerCache" "high" "I" (.int (127 : Int32))) (SD : Sta Z Z.heap "java/util/ArrayList" "DEFAULTCAPACITY_EMPTY_ELEMENTDATA" "[Ljava/lang/Object;" (.ref dx)) (VD : Arv Z Z.heap dx kd (.object "java/lang/Object") (0 : Int32) [] .null) (FL : HLam.Lam Z cK la) (RT : RTs r o1 o2 o3) :
    Goes p e s below (fun v h L => v = some (.int 1) ∧ Fr n0 L) room_1.cells room_1.slots (T.setTop (mkF m 46 #[sI_ q0, sI_ q1, sI_ q2, sI_ q3, sJ_ qw, sS_, sI_ r, sI_ o1, sI_ o2, sI_ o3, sU_, sU_, sU_, sU_, sU_, sU_, sU_, sU_, sU_] [])) := by
  have sz0 : n0 ≤ h.size := Nat.le_trans (Nat.le_of_eq O.1.symm) O.2.1
  refine Goes.go (U' := (T.setTop (mkF m 49 #[sI_ q0, sI_ q1, sI_ q2, sI_ q3, sJ_ qw, sS_, sI_ r, sI_ o1, sI_ o2, sI_ o3, sU_, sU_, sU_, sU_, sU_, sU_, sU_, sU_, sU_] [(.int (q1 &&& (1 : Int32)))]))) (fun t kt => ?_) ?_
  · skip
    refine XS.iloadN X.here hx rfl (hb hby at_46) rfl ?_
    refine XS.iconst X.here hx rfl (hb hby at_47) ?_
    refine XS.iand X.here hx rfl (hb hby at_48) rfl ?_
    exact kt
  by_cases ch0 : (q1 &&& (1 : Int32)) = 0
  · -- (q1 &&& (1 : Int32)) = 0
    refine Goes.go (U' := (T.setTop (mkF m 62 #[sI_ q0, sI_ q1, sI_ q2, sI_ q3, sJ_ qw, sS_, sI_ r, sI_ o1, sI_ o2, sI_ o3, sI_ (0 : Int32), sU_, sU_, sU_, sU_, sU_, sU_, sU_, sU_] [(.int (q1 &&& (2 : Int32)))]))) (fun t kt => ?_) ?_
    · skip
      refine XS.ifYes X.here hx rfl (pc0 := 49) (pc' := 56) rfl (hb hby at_49) rfl (XT.i0_eq_t ch0) (by decide) (by decide) ?_
      refine XS.iconst X.here hx rfl (hb hby at_56) ?_
      refine XS.istore X.here hx rfl (hb hby at_57) rfl (l' := #[sI_ q0, sI_ q1, sI_ q2, sI_ q3, sJ_ qw, sS_, sI_ r, sI_ o1, sI_ o2, sI_ o3, sI_ (0 : Int32), sU_, sU_, sU_, sU_, sU_, sU_, sU_, sU_]) rfl ?_
      refine XS.iloadN X.here hx rfl (hb hby at_59) rfl ?_
      refine XS.iconst X.here hx rfl (hb hby at_60) ?_
      refine XS.iand X.here hx rfl (hb hby at_61) rfl ?_
      exact kt
    by_cases ch1 : (q1 &&& (2 : Int32)) = 0
    · -- (q1 &&& (2 : Int32)) = 0
      refine Goes.go (U' := (T.setTop (mkF m 75 #[sI_ q0, sI_ q1, sI_ q2, sI_ q3, sJ_ qw, sS_, sI_ r, sI_ o1, sI_ o2, sI_ o3, sI_ (0 : Int32), sI_ (0 : Int32), sU_, sU_, sU_, sU_, sU_, sU_, sU_] [(.int (q1 &&& (4 : Int32)))]))) (fun t kt => ?_) ?_
      · skip
        refine XS.ifYes X.here hx rfl (pc0 := 62) (pc' := 69) rfl (hb hby at_62) rfl (XT.i0_eq_t ch1) (by decide) (by decide) ?_
        refine XS.iconst X.here hx rfl (hb hby at_69) ?_
        refine XS.istore X.here hx rfl (hb hby at_70) rfl (l' := #[sI_ q0, sI_ q1, sI_ q2, sI_ q3, sJ_ qw, sS_, sI_ r, sI_ o1, sI_ o2, sI_ o3, sI_ (0 : Int32), sI_ (0 : Int32), sU_, sU_, sU_, sU_, sU_, sU_, sU_]) rfl ?_
        refine XS.iloadN X.here hx rfl (hb hby at_72) rfl ?_
        refine XS.iconst X.here hx rfl (hb hby at_73) ?_
        refine XS.iand X.here hx rfl (hb hby at_74) rfl ?_
        exact kt
      by_cases ch2 : (q1 &&& (4 : Int32)) = 0
      · -- (q1 &&& (4 : Int32)) = 0
        refine Goes.go (U' := (T.setTop (mkF m 93 #[sI_ q0, sI_ q1, sI_ q2, sI_ q3, sJ_ qw, sS_, sI_ r, sI_ o1, sI_ o2, sI_ o3, sI_ (0 : Int32), sI_ (0 : Int32), sI_ (0 : Int32), sJ_ (qw &&& (9223372036854775807 : Int64)), sS_, sU_, sU_, sU_, sU_] []))) (fun t kt => ?_) ?_
        · skip
          refine XS.ifYes X.here hx rfl (pc0 := 75) (pc' := 82) rfl (hb hby at_75) rfl (XT.i0_eq_t ch2) (by decide) (by decide) ?_
          refine XS.iconst X.here hx rfl (hb hby at_82) ?_
          refine XS.istore X.here hx rfl (hb hby at_83) rfl (l' := #[sI_ q0, sI_ q1, sI_ q2, sI_ q3, sJ_ qw, sS_, sI_ r, sI_ o1, sI_ o2, sI_ o3, sI_ (0 : Int32), sI_ (0 : Int32), sI_ (0 : Int32), sU_, sU_, sU_, sU_, sU_, sU_]) rfl ?_
          refine XS.lload X.here hx rfl (hb hby at_85) rfl ?_
          refine Jvm.Stand.ldc2J X hx hown (mvT hZ (wdOf hw 0 rfl)) rfl (hb hby at_87) ?_
          refine XS.land X.here hx rfl (hb hby at_90) rfl ?_
          refine XS.lstore X.here hx rfl (hb hby at_91) rfl (l' := #[sI_ q0, sI_ q1, sI_ q2, sI_ q3, sJ_ qw, sS_, sI_ r, sI_ o1, sI_ o2, sI_ o3, sI_ (0 : Int32), sI_ (0 : Int32), sI_ (0 : Int32), sJ_ (qw &&& (9223372036854775807 : Int64)), sS_, sU_, sU_, sU_, sU_]) rfl ?_
          exact kt
        exact law_93 l Z a0 hw q0 q1 q2 q3 qw dx la kd cK r o1 o2 o3 (0 : Int32) (0 : Int32) (0 : Int32) (qw &&& (9223372036854775807 : Int64)) h0 n0 Z0 p e s m below meth c hx hby hml hown hnm hret hlk hZ _ _ _ X eT N  O BC SH SD VD FL RT (own_land qw)
      · -- not (q1 &&& (4 : Int32)) = 0
        refine Goes.go (U' := (T.setTop (mkF m 93 #[sI_ q0, sI_ q1, sI_ q2, sI_ q3, sJ_ qw, sS_, sI_ r, sI_ o1, sI_ o2, sI_ o3, sI_ (0 : Int32), sI_ (0 : Int32), sI_ (1 : Int32), sJ_ (qw &&& (9223372036854775807 : Int64)), sS_, sU_, sU_, sU_, sU_] []))) (fun t kt => ?_) ?_
        · skip
          refine XS.ifNo X.here hx rfl (hb hby at_75) rfl (XT.i0_eq_f ch2) ?_
          refine XS.iconst X.here hx rfl (hb hby at_78) ?_
          refine XS.goto X.here hx rfl (pc0 := 79) (pc' := 83) rfl (hb hby at_79) (by decide) (by decide) ?_
          refine XS.istore X.here hx rfl (hb hby at_83) rfl (l' := #[sI_ q0, sI_ q1, sI_ q2, sI_ q3, sJ_ qw, sS_, sI_ r, sI_ o1, sI_ o2, sI_ o3, sI_ (0 : Int32), sI_ (0 : Int32), sI_ (1 : Int32), sU_, sU_, sU_, sU_, sU_, sU_]) rfl ?_
          refine XS.lload X.here hx rfl (hb hby at_85) rfl ?_
          refine Jvm.Stand.ldc2J X hx hown (mvT hZ (wdOf hw 0 rfl)) rfl (hb hby at_87) ?_
          refine XS.land X.here hx rfl (hb hby at_90) rfl ?_
          refine XS.lstore X.here hx rfl (hb hby at_91) rfl (l' := #[sI_ q0, sI_ q1, sI_ q2, sI_ q3, sJ_ qw, sS_, sI_ r, sI_ o1, sI_ o2, sI_ o3, sI_ (0 : Int32), sI_ (0 : Int32), sI_ (1 : Int32), sJ_ (qw &&& (9223372036854775807 : Int64)), sS_, sU_, sU_, sU_, sU_]) rfl ?_
          exact kt
        exact law_93 l Z a0 hw q0 q1 q2 q3 qw dx la kd cK r o1 o2 o3 (0 : Int32) (0 : Int32) (1 : Int32) (qw &&& (9223372036854775807 : Int64)) h0 n0 Z0 p e s m below meth c hx hby hml hown hnm hret hlk hZ _ _ _ X eT N  O BC SH SD VD FL RT (own_land qw)
    · -- not (q1 &&& (2 : Int32)) = 0
      refine Goes.go (U' := (T.setTop (mkF m 75 #[sI_ q0, sI_ q1, sI_ q2, sI_ q3, sJ_ qw, sS_, sI_ r, sI_ o1, sI_ o2, sI_ o3, sI_ (0 : Int32), sI_ (1 : Int32), sU_, sU_, sU_, sU_, sU_, sU_, sU_] [(.int (q1 &&& (4 : Int32)))]))) (fun t kt => ?_) ?_
      · skip
        refine XS.ifNo X.here hx rfl (hb hby at_62) rfl (XT.i0_eq_f ch1) ?_
        refine XS.iconst X.here hx rfl (hb hby at_65) ?_
        refine XS.goto X.here hx rfl (pc0 := 66) (pc' := 70) rfl (hb hby at_66) (by decide) (by decide) ?_
        refine XS.istore X.here hx rfl (hb hby at_70) rfl (l' := #[sI_ q0, sI_ q1, sI_ q2, sI_ q3, sJ_ qw, sS_, sI_ r, sI_ o1, sI_ o2, sI_ o3, sI_ (0 : Int32), sI_ (1 : Int32), sU_, sU_, sU_, sU_, sU_, sU_, sU_]) rfl ?_
        refine XS.iloadN X.here hx rfl (hb hby at_72) rfl ?_
        refine XS.iconst X.here hx rfl (hb hby at_73) ?_
        refine XS.iand X.here hx rfl (hb hby at_74) rfl ?_
        exact kt
      by_cases ch2 : (q1 &&& (4 : Int32)) = 0
      · -- (q1 &&& (4 : Int32)) = 0
        refine Goes.go (U' := (T.setTop (mkF m 93 #[sI_ q0, sI_ q1, sI_ q2, sI_ q3, sJ_ qw, sS_, sI_ r, sI_ o1, sI_ o2, sI_ o3, sI_ (0 : Int32), sI_ (1 : Int32), sI_ (0 : Int32), sJ_ (qw &&& (9223372036854775807 : Int64)), sS_, sU_, sU_, sU_, sU_] []))) (fun t kt => ?_) ?_
        · skip
          refine XS.ifYes X.here hx rfl (pc0 := 75) (pc' := 82) rfl (hb hby at_75) rfl (XT.i0_eq_t ch2) (by decide) (by decide) ?_
          refine XS.iconst X.here hx rfl (hb hby at_82) ?_
          refine XS.istore X.here hx rfl (hb hby at_83) rfl (l' := #[sI_ q0, sI_ q1, sI_ q2, sI_ q3, sJ_ qw, sS_, sI_ r, sI_ o1, sI_ o2, sI_ o3, sI_ (0 : Int32), sI_ (1 : Int32), sI_ (0 : Int32), sU_, sU_, sU_, sU_, sU_, sU_]) rfl ?_
          refine XS.lload X.here hx rfl (hb hby at_85) rfl ?_
          refine Jvm.Stand.ldc2J X hx hown (mvT hZ (wdOf hw 0 rfl)) rfl (hb hby at_87) ?_
          refine XS.land X.here hx rfl (hb hby at_90) rfl ?_
          refine XS.lstore X.here hx rfl (hb hby at_91) rfl (l' := #[sI_ q0, sI_ q1, sI_ q2, sI_ q3, sJ_ qw, sS_, sI_ r, sI_ o1, sI_ o2, sI_ o3, sI_ (0 : Int32), sI_ (1 : Int32), sI_ (0 : Int32), sJ_ (qw &&& (9223372036854775807 : Int64)), sS_, sU_, sU_, sU_, sU_]) rfl ?_
          exact kt
        exact law_93 l Z a0 hw q0 q1 q2 q3 qw dx la kd cK r o1 o2 o3 (0 : Int32) (1 : Int32) (0 : Int32) (qw &&& (9223372036854775807 : Int64)) h0 n0 Z0 p e s m below meth c hx hby hml hown hnm hret hlk hZ _ _ _ X eT N  O BC SH SD VD FL RT (own_land qw)
      · -- not (q1 &&& (4 : Int32)) = 0
        refine Goes.go (U' := (T.setTop (mkF m 93 #[sI_ q0, sI_ q1, sI_ q2, sI_ q3, sJ_ qw, sS_, sI_ r, sI_ o1, sI_ o2, sI_ o3, sI_ (0 : Int32), sI_ (1 : Int32), sI_ (1 : Int32), sJ_ (qw &&& (9223372036854775807 : Int64)), sS_, sU_, sU_, sU_, sU_] []))) (fun t kt => ?_) ?_
        · skip
          refine XS.ifNo X.here hx rfl (hb hby at_75) rfl (XT.i0_eq_f ch2) ?_
          refine XS.iconst X.here hx rfl (hb hby at_78) ?_
          refine XS.goto X.here hx rfl (pc0 := 79) (pc' := 83) rfl (hb hby at_79) (by decide) (by decide) ?_
          refine XS.istore X.here hx rfl (hb hby at_83) rfl (l' := #[sI_ q0, sI_ q1, sI_ q2, sI_ q3, sJ_ qw, sS_, sI_ r, sI_ o1, sI_ o2, sI_ o3, sI_ (0 : Int32), sI_ (1 : Int32), sI_ (1 : Int32), sU_, sU_, sU_, sU_, sU_, sU_]) rfl ?_
          refine XS.lload X.here hx rfl (hb hby at_85) rfl ?_
          refine Jvm.Stand.ldc2J X hx hown (mvT hZ (wdOf hw 0 rfl)) rfl (hb hby at_87) ?_
          refine XS.land X.here hx rfl (hb hby at_90) rfl ?_
          refine XS.lstore X.here hx rfl (hb hby at_91) rfl (l' := #[sI_ q0, sI_ q1, sI_ q2, sI_ q3, sJ_ qw, sS_, sI_ r, sI_ o1, sI_ o2, sI_ o3, sI_ (0 : Int32), sI_ (1 : Int32), sI_ (1 : Int32), sJ_ (qw &&& (9223372036854775807 : Int64)), sS_, sU_, sU_, sU_, sU_]) rfl ?_
          exact kt
        exact law_93 l Z a0 hw q0 q1 q2 q3 qw dx la kd cK r o1 o2 o3 (0 : Int32) (1 : Int32) (1 : Int32) (qw &&& (9223372036854775807 : Int64)) h0 n0 Z0 p e s m below meth c hx hby hml hown hnm hret hlk hZ _ _ _ X eT N  O BC SH SD VD FL RT (own_land qw)
  · -- not (q1 &&& (1 : Int32)) = 0
    refine Goes.go (U' := (T.setTop (mkF m 62 #[sI_ q0, sI_ q1, sI_ q2, sI_ q3, sJ_ qw, sS_, sI_ r, sI_ o1, sI_ o2, sI_ o3, sI_ (1 : Int32), sU_, sU_, sU_, sU_, sU_, sU_, sU_, sU_] [(.int (q1 &&& (2 : Int32)))]))) (fun t kt => ?_) ?_
    · skip
      refine XS.ifNo X.here hx rfl (hb hby at_49) rfl (XT.i0_eq_f ch0) ?_
      refine XS.iconst X.here hx rfl (hb hby at_52) ?_
      refine XS.goto X.here hx rfl (pc0 := 53) (pc' := 57) rfl (hb hby at_53) (by decide) (by decide) ?_
      refine XS.istore X.here hx rfl (hb hby at_57) rfl (l' := #[sI_ q0, sI_ q1, sI_ q2, sI_ q3, sJ_ qw, sS_, sI_ r, sI_ o1, sI_ o2, sI_ o3, sI_ (1 : Int32), sU_, sU_, sU_, sU_, sU_, sU_, sU_, sU_]) rfl ?_
      refine XS.iloadN X.here hx rfl (hb hby at_59) rfl ?_
      refine XS.iconst X.here hx rfl (hb hby at_60) ?_
      refine XS.iand X.here hx rfl (hb hby at_61) rfl ?_
      exact kt
    by_cases ch1 : (q1 &&& (2 : Int32)) = 0
    · -- (q1 &&& (2 : Int32)) = 0
      refine Goes.go (U' := (T.setTop (mkF m 75 #[sI_ q0, sI_ q1, sI_ q2, sI_ q3, sJ_ qw, sS_, sI_ r, sI_ o1, sI_ o2, sI_ o3, sI_ (1 : Int32), sI_ (0 : Int32), sU_, sU_, sU_, sU_, sU_, sU_, sU_] [(.int (q1 &&& (4 : Int32)))]))) (fun t kt => ?_) ?_
      · skip
        refine XS.ifYes X.here hx rfl (pc0 := 62) (pc' := 69) rfl (hb hby at_62) rfl (XT.i0_eq_t ch1) (by decide) (by decide) ?_
        refine XS.iconst X.here hx rfl (hb hby at_69) ?_
        refine XS.istore X.here hx rfl (hb hby at_70) rfl (l' := #[sI_ q0, sI_ q1, sI_ q2, sI_ q3, sJ_ qw, sS_, sI_ r, sI_ o1, sI_ o2, sI_ o3, sI_ (1 : Int32), sI_ (0 : Int32), sU_, sU_, sU_, sU_, sU_, sU_, sU_]) rfl ?_
        refine XS.iloadN X.here hx rfl (hb hby at_72) rfl ?_
        refine XS.iconst X.here hx rfl (hb hby at_73) ?_
        refine XS.iand X.here hx rfl (hb hby at_74) rfl ?_
        exact kt
      by_cases ch2 : (q1 &&& (4 : Int32)) = 0
      · -- (q1 &&& (4 : Int32)) = 0
        refine Goes.go (U' := (T.setTop (mkF m 93 #[sI_ q0, sI_ q1, sI_ q2, sI_ q3, sJ_ qw, sS_, sI_ r, sI_ o1, sI_ o2, sI_ o3, sI_ (1 : Int32), sI_ (0 : Int32), sI_ (0 : Int32), sJ_ (qw &&& (9223372036854775807 : Int64)), sS_, sU_, sU_, sU_, sU_] []))) (fun t kt => ?_) ?_
        · skip
          refine XS.ifYes X.here hx rfl (pc0 := 75) (pc' := 82) rfl (hb hby at_75) rfl (XT.i0_eq_t ch2) (by decide) (by decide) ?_
          refine XS.iconst X.here hx rfl (hb hby at_82) ?_
          refine XS.istore X.here hx rfl (hb hby at_83) rfl (l' := #[sI_ q0, sI_ q1, sI_ q2, sI_ q3, sJ_ qw, sS_, sI_ r, sI_ o1, sI_ o2, sI_ o3, sI_ (1 : Int32), sI_ (0 : Int32), sI_ (0 : Int32), sU_, sU_, sU_, sU_, sU_, sU_]) rfl ?_
          refine XS.lload X.here hx rfl (hb hby at_85) rfl ?_
          refine Jvm.Stand.ldc2J X hx hown (mvT hZ (wdOf hw 0 rfl)) rfl (hb hby at_87) ?_
          refine XS.land X.here hx rfl (hb hby at_90) rfl ?_
          refine XS.lstore X.here hx rfl (hb hby at_91) rfl (l' := #[sI_ q0, sI_ q1, sI_ q2, sI_ q3, sJ_ qw, sS_, sI_ r, sI_ o1, sI_ o2, sI_ o3, sI_ (1 : Int32), sI_ (0 : Int32), sI_ (0 : Int32), sJ_ (qw &&& (9223372036854775807 : Int64)), sS_, sU_, sU_, sU_, sU_]) rfl ?_
          exact kt
        exact law_93 l Z a0 hw q0 q1 q2 q3 qw dx la kd cK r o1 o2 o3 (1 : Int32) (0 : Int32) (0 : Int32) (qw &&& (9223372036854775807 : Int64)) h0 n0 Z0 p e s m below meth c hx hby hml hown hnm hret hlk hZ _ _ _ X eT N  O BC SH SD VD FL RT (own_land qw)
      · -- not (q1 &&& (4 : Int32)) = 0
        refine Goes.go (U' := (T.setTop (mkF m 93 #[sI_ q0, sI_ q1, sI_ q2, sI_ q3, sJ_ qw, sS_, sI_ r, sI_ o1, sI_ o2, sI_ o3, sI_ (1 : Int32), sI_ (0 : Int32), sI_ (1 : Int32), sJ_ (qw &&& (9223372036854775807 : Int64)), sS_, sU_, sU_, sU_, sU_] []))) (fun t kt => ?_) ?_
        · skip
          refine XS.ifNo X.here hx rfl (hb hby at_75) rfl (XT.i0_eq_f ch2) ?_
          refine XS.iconst X.here hx rfl (hb hby at_78) ?_
          refine XS.goto X.here hx rfl (pc0 := 79) (pc' := 83) rfl (hb hby at_79) (by decide) (by decide) ?_
          refine XS.istore X.here hx rfl (hb hby at_83) rfl (l' := #[sI_ q0, sI_ q1, sI_ q2, sI_ q3, sJ_ qw, sS_, sI_ r, sI_ o1, sI_ o2, sI_ o3, sI_ (1 : Int32), sI_ (0 : Int32), sI_ (1 : Int32), sU_, sU_, sU_, sU_, sU_, sU_]) rfl ?_
          refine XS.lload X.here hx rfl (hb hby at_85) rfl ?_
          refine Jvm.Stand.ldc2J X hx hown (mvT hZ (wdOf hw 0 rfl)) rfl (hb hby at_87) ?_
          refine XS.land X.here hx rfl (hb hby at_90) rfl ?_
          refine XS.lstore X.here hx rfl (hb hby at_91) rfl (l' := #[sI_ q0, sI_ q1, sI_ q2, sI_ q3, sJ_ qw, sS_, sI_ r, sI_ o1, sI_ o2, sI_ o3, sI_ (1 : Int32), sI_ (0 : Int32), sI_ (1 : Int32), sJ_ (qw &&& (9223372036854775807 : Int64)), sS_, sU_, sU_, sU_, sU_]) rfl ?_
          exact kt
        exact law_93 l Z a0 hw q0 q1 q2 q3 qw dx la kd cK r o1 o2 o3 (1 : Int32) (0 : Int32) (1 : Int32) (qw &&& (9223372036854775807 : Int64)) h0 n0 Z0 p e s m below meth c hx hby hml hown hnm hret hlk hZ _ _ _ X eT N  O BC SH SD VD FL RT (own_land qw)
    · -- not (q1 &&& (2 : Int32)) = 0
      refine Goes.go (U' := (T.setTop (mkF m 75 #[sI_ q0, sI_ q1, sI_ q2, sI_ q3, sJ_ qw, sS_, sI_ r, sI_ o1, sI_ o2, sI_ o3, sI_ (1 : Int32), sI_ (1 : Int32), sU_, sU_, sU_, sU_, sU_, sU_, sU_] [(.int (q1 &&& (4 : Int32)))]))) (fun t kt => ?_) ?_
      · skip
        refine XS.ifNo X.here hx rfl (hb hby at_62) rfl (XT.i0_eq_f ch1) ?_
        refine XS.iconst X.here hx rfl (hb hby at_65) ?_
        refine XS.goto X.here hx rfl (pc0 := 66) (pc' := 70) rfl (hb hby at_66) (by decide) (by decide) ?_
        refine XS.istore X.here hx rfl (hb hby at_70) rfl (l' := #[sI_ q0, sI_ q1, sI_ q2, sI_ q3, sJ_ qw, sS_, sI_ r, sI_ o1, sI_ o2, sI_ o3, sI_ (1 : Int32), sI_ (1 : Int32), sU_, sU_, sU_, sU_, sU_, sU_, sU_]) rfl ?_
        refine XS.iloadN X.here hx rfl (hb hby at_72) rfl ?_
        refine XS.iconst X.here hx rfl (hb hby at_73) ?_
        refine XS.iand X.here hx rfl (hb hby at_74) rfl ?_
        exact kt
      by_cases ch2 : (q1 &&& (4 : Int32)) = 0
      · -- (q1 &&& (4 : Int32)) = 0
        refine Goes.go (U' := (T.setTop (mkF m 93 #[sI_ q0, sI_ q1, sI_ q2, sI_ q3, sJ_ qw, sS_, sI_ r, sI_ o1, sI_ o2, sI_ o3, sI_ (1 : Int32), sI_ (1 : Int32), sI_ (0 : Int32), sJ_ (qw &&& (9223372036854775807 : Int64)), sS_, sU_, sU_, sU_, sU_] []))) (fun t kt => ?_) ?_
        · skip
          refine XS.ifYes X.here hx rfl (pc0 := 75) (pc' := 82) rfl (hb hby at_75) rfl (XT.i0_eq_t ch2) (by decide) (by decide) ?_
          refine XS.iconst X.here hx rfl (hb hby at_82) ?_
          refine XS.istore X.here hx rfl (hb hby at_83) rfl (l' := #[sI_ q0, sI_ q1, sI_ q2, sI_ q3, sJ_ qw, sS_, sI_ r, sI_ o1, sI_ o2, sI_ o3, sI_ (1 : Int32), sI_ (1 : Int32), sI_ (0 : Int32), sU_, sU_, sU_, sU_, sU_, sU_]) rfl ?_
          refine XS.lload X.here hx rfl (hb hby at_85) rfl ?_
          refine Jvm.Stand.ldc2J X hx hown (mvT hZ (wdOf hw 0 rfl)) rfl (hb hby at_87) ?_
          refine XS.land X.here hx rfl (hb hby at_90) rfl ?_
          refine XS.lstore X.here hx rfl (hb hby at_91) rfl (l' := #[sI_ q0, sI_ q1, sI_ q2, sI_ q3, sJ_ qw, sS_, sI_ r, sI_ o1, sI_ o2, sI_ o3, sI_ (1 : Int32), sI_ (1 : Int32), sI_ (0 : Int32), sJ_ (qw &&& (9223372036854775807 : Int64)), sS_, sU_, sU_, sU_, sU_]) rfl ?_
          exact kt
        exact law_93 l Z a0 hw q0 q1 q2 q3 qw dx la kd cK r o1 o2 o3 (1 : Int32) (1 : Int32) (0 : Int32) (qw &&& (9223372036854775807 : Int64)) h0 n0 Z0 p e s m below meth c hx hby hml hown hnm hret hlk hZ _ _ _ X eT N  O BC SH SD VD FL RT (own_land qw)
      · -- not (q1 &&& (4 : Int32)) = 0
        refine Goes.go (U' := (T.setTop (mkF m 93 #[sI_ q0, sI_ q1, sI_ q2, sI_ q3, sJ_ qw, sS_, sI_ r, sI_ o1, sI_ o2, sI_ o3, sI_ (1 : Int32), sI_ (1 : Int32), sI_ (1 : Int32), sJ_ (qw &&& (9223372036854775807 : Int64)), sS_, sU_, sU_, sU_, sU_] []))) (fun t kt => ?_) ?_
        · skip
          refine XS.ifNo X.here hx rfl (hb hby at_75) rfl (XT.i0_eq_f ch2) ?_
          refine XS.iconst X.here hx rfl (hb hby at_78) ?_
          refine XS.goto X.here hx rfl (pc0 := 79) (pc' := 83) rfl (hb hby at_79) (by decide) (by decide) ?_
          refine XS.istore X.here hx rfl (hb hby at_83) rfl (l' := #[sI_ q0, sI_ q1, sI_ q2, sI_ q3, sJ_ qw, sS_, sI_ r, sI_ o1, sI_ o2, sI_ o3, sI_ (1 : Int32), sI_ (1 : Int32), sI_ (1 : Int32), sU_, sU_, sU_, sU_, sU_, sU_]) rfl ?_
          refine XS.lload X.here hx rfl (hb hby at_85) rfl ?_
          refine Jvm.Stand.ldc2J X hx hown (mvT hZ (wdOf hw 0 rfl)) rfl (hb hby at_87) ?_
          refine XS.land X.here hx rfl (hb hby at_90) rfl ?_
          refine XS.lstore X.here hx rfl (hb hby at_91) rfl (l' := #[sI_ q0, sI_ q1, sI_ q2, sI_ q3, sJ_ qw, sS_, sI_ r, sI_ o1, sI_ o2, sI_ o3, sI_ (1 : Int32), sI_ (1 : Int32), sI_ (1 : Int32), sJ_ (qw &&& (9223372036854775807 : Int64)), sS_, sU_, sU_, sU_, sU_]) rfl ?_
          exact kt
        exact law_93 l Z a0 hw q0 q1 q2 q3 qw dx la kd cK r o1 o2 o3 (1 : Int32) (1 : Int32) (1 : Int32) (qw &&& (9223372036854775807 : Int64)) h0 n0 Z0 p e s m below meth c hx hby hml hown hnm hret hlk hZ _ _ _ X eT N  O BC SH SD VD FL RT (own_land qw)
set_option maxHeartbeats 4000000 in
theorem ef_rm_law (m : MethodId) (x0 : Int32) (x1 : Int32) (x2 : Int32) (x3 : Int32) (x4 : Int64)  : entryFrame m #[(.int x0), (.int x1), (.int x2), (.int x3), (.long x4)] maxLocals = mkF m 0 #[.val (.int x0), .val (.int x1), .val (.int x2), .val (.int x3), .val (.long x4), .second, .unset, .unset, .unset, .unset, .unset, .unset, .unset, .unset, .unset, .unset, .unset, .unset, .unset] [] := by first | (simp [entryFrame, mkF, argsToLocals, catR, catN, catI, catJ, maxLocals]; done) | rfl
set_option maxRecDepth 65536 in
set_option maxHeartbeats 40000000 in
theorem rm_law (l : Launch) (Z : State) (a0 : Array Value) (hw : ∀ d ∈ tables_1, d.before a0 Z = true) (ws : List Jvm.Cond) (q0 q1 q2 q3 : Int32) (qw : Int64) (dx la : Addr) (kd cK : ClassId) (h0 : Heap) (n0 : Nat) (Z0 : n0 ≤ h0.size) (O : Old Z n0 h0) (BC : BoxC Z "java/lang/Integer$IntegerCache" "[Ljava/lang/Integer;" "java/lang/Integer" "I" (fun i => .int (i.toInt32 - 128))) (SH : Sta Z Z.heap "java/lang/Integer$IntegerCache" "high" "I" (.int (127 : Int32))) (SD : Sta Z Z.heap "java/util/ArrayList" "DEFAULTCAPACITY_EMPTY_ELEMENTDATA" "[Ljava/lang/Object;" (.ref dx)) (VD : Arv Z Z.heap dx kd (.object "java/lang/Object") (0 : Int32) [] .null) (FL : HLam.Lam Z cK la) :
    Pays l Z x code maxLocals ret ws room_1 #[(.int q0), (.int q1), (.int q2), (.int q3), (.long qw)] h0 (fun v h L => v = some (.int 1) ∧ Fr n0 L) := by
  refine Pays.of (plainFor_of_name (by first | (simp [plainName, overriddenIn]; done) | decide +kernel)) ?_
  intro p e s m below meth c s₁ hx hby hml hown hnm hret hlk hZ e0 X0
  have N0 := Fr.nil n0
  have K0 : Keep h0 h0 [] := Keep.refl _ _
  refine Goes.go (U' := (s₁.setTop (mkF m 0 #[sI_ q0, sI_ q1, sI_ q2, sI_ q3, sJ_ qw, sS_, sU_, sU_, sU_, sU_, sU_, sU_, sU_, sU_, sU_, sU_, sU_, sU_, sU_] []))) (fun t kt => castTop (ef_rm_law m q0 q1 q2 q3 qw) kt) ?_
  rcases own_r q0 with hr | hr | hr | hr
  · -- r = 1
    refine Goes.go (U' := (s₁.setTop (mkF m 46 #[sI_ q0, sI_ q1, sI_ q2, sI_ q3, sJ_ qw, sS_, sI_ ((1 : Int32) + (q0 &&& (3 : Int32))), sI_ (2 : Int32), sI_ (3 : Int32), sI_ (4 : Int32), sU_, sU_, sU_, sU_, sU_, sU_, sU_, sU_, sU_] []))) (fun t kt => ?_) ?_
    · skip
      refine XS.iconst X0.here hx rfl (hb hby at_0) ?_
      refine XS.iloadN X0.here hx rfl (hb hby at_1) rfl ?_
      refine XS.iconst X0.here hx rfl (hb hby at_2) ?_
      refine XS.iand X0.here hx rfl (hb hby at_3) rfl ?_
      refine XS.iadd X0.here hx rfl (hb hby at_4) rfl ?_
      refine XS.istore X0.here hx rfl (hb hby at_5) rfl (l' := #[sI_ q0, sI_ q1, sI_ q2, sI_ q3, sJ_ qw, sS_, sI_ ((1 : Int32) + (q0 &&& (3 : Int32))), sU_, sU_, sU_, sU_, sU_, sU_, sU_, sU_, sU_, sU_, sU_, sU_]) rfl ?_
      refine XS.iload X0.here hx rfl (hb hby at_7) rfl ?_
      refine XS.iconst X0.here hx rfl (hb hby at_9) ?_
      show Steps p.tables e below (s₁.setTop (mkF m 10 #[sI_ q0, sI_ q1, sI_ q2, sI_ q3, sJ_ qw, sS_, sI_ ((1 : Int32) + (q0 &&& (3 : Int32))), sU_, sU_, sU_, sU_, sU_, sU_, sU_, sU_, sU_, sU_, sU_, sU_] [(.int (1 : Int32)), (.int ((1 : Int32) + (q0 &&& (3 : Int32))))])) t
      refine XS.icmpNo X0.here hx rfl (hb hby at_10) rfl (XT.ii_ne_f (by rw [hr]; try decide)) ?_
      refine XS.iconst X0.here hx rfl (hb hby at_13) ?_
      refine XS.goto X0.here hx rfl (pc0 := 14) (pc' := 18) rfl (hb hby at_14) (by decide) (by decide) ?_
      refine XS.istore X0.here hx rfl (hb hby at_18) rfl (l' := #[sI_ q0, sI_ q1, sI_ q2, sI_ q3, sJ_ qw, sS_, sI_ ((1 : Int32) + (q0 &&& (3 : Int32))), sI_ (2 : Int32), sU_, sU_, sU_, sU_, sU_, sU_, sU_, sU_, sU_, sU_, sU_]) rfl ?_
      refine XS.iload X0.here hx rfl (hb hby at_20) rfl ?_
      refine XS.iconst X0.here hx rfl (hb hby at_22) ?_
      refine XS.icmpNo X0.here hx rfl (hb hby at_23) rfl (XT.ii_gt_f (by rw [hr]; try decide)) ?_
      refine XS.iconst X0.here hx rfl (hb hby at_26) ?_
      show Steps p.tables e below (s₁.setTop (mkF m 27 #[sI_ q0, sI_ q1, sI_ q2, sI_ q3, sJ_ qw, sS_, sI_ ((1 : Int32) + (q0 &&& (3 : Int32))), sI_ (2 : Int32), sU_, sU_, sU_, sU_, sU_, sU_, sU_, sU_, sU_, sU_, sU_] [(.int (3 : Int32))])) t
      refine XS.goto X0.here hx rfl (pc0 := 27) (pc' := 31) rfl (hb hby at_27) (by decide) (by decide) ?_
      refine XS.istore X0.here hx rfl (hb hby at_31) rfl (l' := #[sI_ q0, sI_ q1, sI_ q2, sI_ q3, sJ_ qw, sS_, sI_ ((1 : Int32) + (q0 &&& (3 : Int32))), sI_ (2 : Int32), sI_ (3 : Int32), sU_, sU_, sU_, sU_, sU_, sU_, sU_, sU_, sU_, sU_]) rfl ?_
      refine XS.iload X0.here hx rfl (hb hby at_33) rfl ?_
      refine XS.iconst X0.here hx rfl (hb hby at_35) ?_
      refine XS.icmpNo X0.here hx rfl (hb hby at_36) rfl (XT.ii_gt_f (by rw [hr]; try decide)) ?_
      refine XS.iconst X0.here hx rfl (hb hby at_39) ?_
      refine XS.goto X0.here hx rfl (pc0 := 40) (pc' := 44) rfl (hb hby at_40) (by decide) (by decide) ?_
      refine XS.istore X0.here hx rfl (hb hby at_44) rfl (l' := #[sI_ q0, sI_ q1, sI_ q2, sI_ q3, sJ_ qw, sS_, sI_ ((1 : Int32) + (q0 &&& (3 : Int32))), sI_ (2 : Int32), sI_ (3 : Int32), sI_ (4 : Int32), sU_, sU_, sU_, sU_, sU_, sU_, sU_, sU_, sU_]) rfl ?_
      exact kt
    exact law_46 l Z a0 hw q0 q1 q2 q3 qw dx la kd cK ((1 : Int32) + (q0 &&& (3 : Int32))) (2 : Int32) (3 : Int32) (4 : Int32) h0 n0 Z0 p e s m below meth c hx hby hml hown hnm hret hlk hZ _ _ _ X0 e0 N0  O BC SH SD VD FL (own_RT1 hr)
  · -- r = 2
    refine Goes.go (U' := (s₁.setTop (mkF m 46 #[sI_ q0, sI_ q1, sI_ q2, sI_ q3, sJ_ qw, sS_, sI_ ((1 : Int32) + (q0 &&& (3 : Int32))), sI_ (1 : Int32), sI_ (3 : Int32), sI_ (4 : Int32), sU_, sU_, sU_, sU_, sU_, sU_, sU_, sU_, sU_] []))) (fun t kt => ?_) ?_
    · skip
      refine XS.iconst X0.here hx rfl (hb hby at_0) ?_
      refine XS.iloadN X0.here hx rfl (hb hby at_1) rfl ?_
      refine XS.iconst X0.here hx rfl (hb hby at_2) ?_
      refine XS.iand X0.here hx rfl (hb hby at_3) rfl ?_
      refine XS.iadd X0.here hx rfl (hb hby at_4) rfl ?_
      refine XS.istore X0.here hx rfl (hb hby at_5) rfl (l' := #[sI_ q0, sI_ q1, sI_ q2, sI_ q3, sJ_ qw, sS_, sI_ ((1 : Int32) + (q0 &&& (3 : Int32))), sU_, sU_, sU_, sU_, sU_, sU_, sU_, sU_, sU_, sU_, sU_, sU_]) rfl ?_
      refine XS.iload X0.here hx rfl (hb hby at_7) rfl ?_
      refine XS.iconst X0.here hx rfl (hb hby at_9) ?_
      show Steps p.tables e below (s₁.setTop (mkF m 10 #[sI_ q0, sI_ q1, sI_ q2, sI_ q3, sJ_ qw, sS_, sI_ ((1 : Int32) + (q0 &&& (3 : Int32))), sU_, sU_, sU_, sU_, sU_, sU_, sU_, sU_, sU_, sU_, sU_, sU_] [(.int (1 : Int32)), (.int ((1 : Int32) + (q0 &&& (3 : Int32))))])) t
      refine XS.icmpYes X0.here hx rfl (pc0 := 10) (pc' := 17) rfl (hb hby at_10) rfl (XT.ii_ne_t (by rw [hr]; try decide)) (by decide) (by decide) ?_
      refine XS.iconst X0.here hx rfl (hb hby at_17) ?_
      refine XS.istore X0.here hx rfl (hb hby at_18) rfl (l' := #[sI_ q0, sI_ q1, sI_ q2, sI_ q3, sJ_ qw, sS_, sI_ ((1 : Int32) + (q0 &&& (3 : Int32))), sI_ (1 : Int32), sU_, sU_, sU_, sU_, sU_, sU_, sU_, sU_, sU_, sU_, sU_]) rfl ?_
      refine XS.iload X0.here hx rfl (hb hby at_20) rfl ?_
      refine XS.iconst X0.here hx rfl (hb hby at_22) ?_
      refine XS.icmpNo X0.here hx rfl (hb hby at_23) rfl (XT.ii_gt_f (by rw [hr]; try decide)) ?_
      refine XS.iconst X0.here hx rfl (hb hby at_26) ?_
      refine XS.goto X0.here hx rfl (pc0 := 27) (pc' := 31) rfl (hb hby at_27) (by decide) (by decide) ?_
      show Steps p.tables e below (s₁.setTop (mkF m 31 #[sI_ q0, sI_ q1, sI_ q2, sI_ q3, sJ_ qw, sS_, sI_ ((1 : Int32) + (q0 &&& (3 : Int32))), sI_ (1 : Int32), sU_, sU_, sU_, sU_, sU_, sU_, sU_, sU_, sU_, sU_, sU_] [(.int (3 : Int32))])) t
      refine XS.istore X0.here hx rfl (hb hby at_31) rfl (l' := #[sI_ q0, sI_ q1, sI_ q2, sI_ q3, sJ_ qw, sS_, sI_ ((1 : Int32) + (q0 &&& (3 : Int32))), sI_ (1 : Int32), sI_ (3 : Int32), sU_, sU_, sU_, sU_, sU_, sU_, sU_, sU_, sU_, sU_]) rfl ?_
      refine XS.iload X0.here hx rfl (hb hby at_33) rfl ?_
      refine XS.iconst X0.here hx rfl (hb hby at_35) ?_
      refine XS.icmpNo X0.here hx rfl (hb hby at_36) rfl (XT.ii_gt_f (by rw [hr]; try decide)) ?_
      refine XS.iconst X0.here hx rfl (hb hby at_39) ?_
      refine XS.goto X0.here hx rfl (pc0 := 40) (pc' := 44) rfl (hb hby at_40) (by decide) (by decide) ?_
      refine XS.istore X0.here hx rfl (hb hby at_44) rfl (l' := #[sI_ q0, sI_ q1, sI_ q2, sI_ q3, sJ_ qw, sS_, sI_ ((1 : Int32) + (q0 &&& (3 : Int32))), sI_ (1 : Int32), sI_ (3 : Int32), sI_ (4 : Int32), sU_, sU_, sU_, sU_, sU_, sU_, sU_, sU_, sU_]) rfl ?_
      exact kt
    exact law_46 l Z a0 hw q0 q1 q2 q3 qw dx la kd cK ((1 : Int32) + (q0 &&& (3 : Int32))) (1 : Int32) (3 : Int32) (4 : Int32) h0 n0 Z0 p e s m below meth c hx hby hml hown hnm hret hlk hZ _ _ _ X0 e0 N0  O BC SH SD VD FL (own_RT2 hr)
  · -- r = 3
    refine Goes.go (U' := (s₁.setTop (mkF m 46 #[sI_ q0, sI_ q1, sI_ q2, sI_ q3, sJ_ qw, sS_, sI_ ((1 : Int32) + (q0 &&& (3 : Int32))), sI_ (1 : Int32), sI_ (2 : Int32), sI_ (4 : Int32), sU_, sU_, sU_, sU_, sU_, sU_, sU_, sU_, sU_] []))) (fun t kt => ?_) ?_
    · skip
      refine XS.iconst X0.here hx rfl (hb hby at_0) ?_
      refine XS.iloadN X0.here hx rfl (hb hby at_1) rfl ?_
      refine XS.iconst X0.here hx rfl (hb hby at_2) ?_
      refine XS.iand X0.here hx rfl (hb hby at_3) rfl ?_
      refine XS.iadd X0.here hx rfl (hb hby at_4) rfl ?_
      refine XS.istore X0.here hx rfl (hb hby at_5) rfl (l' := #[sI_ q0, sI_ q1, sI_ q2, sI_ q3, sJ_ qw, sS_, sI_ ((1 : Int32) + (q0 &&& (3 : Int32))), sU_, sU_, sU_, sU_, sU_, sU_, sU_, sU_, sU_, sU_, sU_, sU_]) rfl ?_
      refine XS.iload X0.here hx rfl (hb hby at_7) rfl ?_
      refine XS.iconst X0.here hx rfl (hb hby at_9) ?_
      show Steps p.tables e below (s₁.setTop (mkF m 10 #[sI_ q0, sI_ q1, sI_ q2, sI_ q3, sJ_ qw, sS_, sI_ ((1 : Int32) + (q0 &&& (3 : Int32))), sU_, sU_, sU_, sU_, sU_, sU_, sU_, sU_, sU_, sU_, sU_, sU_] [(.int (1 : Int32)), (.int ((1 : Int32) + (q0 &&& (3 : Int32))))])) t
      refine XS.icmpYes X0.here hx rfl (pc0 := 10) (pc' := 17) rfl (hb hby at_10) rfl (XT.ii_ne_t (by rw [hr]; try decide)) (by decide) (by decide) ?_
      refine XS.iconst X0.here hx rfl (hb hby at_17) ?_
      refine XS.istore X0.here hx rfl (hb hby at_18) rfl (l' := #[sI_ q0, sI_ q1, sI_ q2, sI_ q3, sJ_ qw, sS_, sI_ ((1 : Int32) + (q0 &&& (3 : Int32))), sI_ (1 : Int32), sU_, sU_, sU_, sU_, sU_, sU_, sU_, sU_, sU_, sU_, sU_]) rfl ?_
      refine XS.iload X0.here hx rfl (hb hby at_20) rfl ?_
      refine XS.iconst X0.here hx rfl (hb hby at_22) ?_
      refine XS.icmpYes X0.here hx rfl (pc0 := 23) (pc' := 30) rfl (hb hby at_23) rfl (XT.ii_gt_t (by rw [hr]; try decide)) (by decide) (by decide) ?_
      refine XS.iconst X0.here hx rfl (hb hby at_30) ?_
      refine XS.istore X0.here hx rfl (hb hby at_31) rfl (l' := #[sI_ q0, sI_ q1, sI_ q2, sI_ q3, sJ_ qw, sS_, sI_ ((1 : Int32) + (q0 &&& (3 : Int32))), sI_ (1 : Int32), sI_ (2 : Int32), sU_, sU_, sU_, sU_, sU_, sU_, sU_, sU_, sU_, sU_]) rfl ?_
      show Steps p.tables e below (s₁.setTop (mkF m 33 #[sI_ q0, sI_ q1, sI_ q2, sI_ q3, sJ_ qw, sS_, sI_ ((1 : Int32) + (q0 &&& (3 : Int32))), sI_ (1 : Int32), sI_ (2 : Int32), sU_, sU_, sU_, sU_, sU_, sU_, sU_, sU_, sU_, sU_] [])) t
      refine XS.iload X0.here hx rfl (hb hby at_33) rfl ?_
      refine XS.iconst X0.here hx rfl (hb hby at_35) ?_
      refine XS.icmpNo X0.here hx rfl (hb hby at_36) rfl (XT.ii_gt_f (by rw [hr]; try decide)) ?_
      refine XS.iconst X0.here hx rfl (hb hby at_39) ?_
      refine XS.goto X0.here hx rfl (pc0 := 40) (pc' := 44) rfl (hb hby at_40) (by decide) (by decide) ?_
      refine XS.istore X0.here hx rfl (hb hby at_44) rfl (l' := #[sI_ q0, sI_ q1, sI_ q2, sI_ q3, sJ_ qw, sS_, sI_ ((1 : Int32) + (q0 &&& (3 : Int32))), sI_ (1 : Int32), sI_ (2 : Int32), sI_ (4 : Int32), sU_, sU_, sU_, sU_, sU_, sU_, sU_, sU_, sU_]) rfl ?_
      exact kt
    exact law_46 l Z a0 hw q0 q1 q2 q3 qw dx la kd cK ((1 : Int32) + (q0 &&& (3 : Int32))) (1 : Int32) (2 : Int32) (4 : Int32) h0 n0 Z0 p e s m below meth c hx hby hml hown hnm hret hlk hZ _ _ _ X0 e0 N0  O BC SH SD VD FL (own_RT3 hr)
  · -- r = 4
    refine Goes.go (U' := (s₁.setTop (mkF m 46 #[sI_ q0, sI_ q1, sI_ q2, sI_ q3, sJ_ qw, sS_, sI_ ((1 : Int32) + (q0 &&& (3 : Int32))), sI_ (1 : Int32), sI_ (2 : Int32), sI_ (3 : Int32), sU_, sU_, sU_, sU_, sU_, sU_, sU_, sU_, sU_] []))) (fun t kt => ?_) ?_
    · skip
      refine XS.iconst X0.here hx rfl (hb hby at_0) ?_
      refine XS.iloadN X0.here hx rfl (hb hby at_1) rfl ?_
      refine XS.iconst X0.here hx rfl (hb hby at_2) ?_
      refine XS.iand X0.here hx rfl (hb hby at_3) rfl ?_
      refine XS.iadd X0.here hx rfl (hb hby at_4) rfl ?_
      refine XS.istore X0.here hx rfl (hb hby at_5) rfl (l' := #[sI_ q0, sI_ q1, sI_ q2, sI_ q3, sJ_ qw, sS_, sI_ ((1 : Int32) + (q0 &&& (3 : Int32))), sU_, sU_, sU_, sU_, sU_, sU_, sU_, sU_, sU_, sU_, sU_, sU_]) rfl ?_
      refine XS.iload X0.here hx rfl (hb hby at_7) rfl ?_
      refine XS.iconst X0.here hx rfl (hb hby at_9) ?_
      show Steps p.tables e below (s₁.setTop (mkF m 10 #[sI_ q0, sI_ q1, sI_ q2, sI_ q3, sJ_ qw, sS_, sI_ ((1 : Int32) + (q0 &&& (3 : Int32))), sU_, sU_, sU_, sU_, sU_, sU_, sU_, sU_, sU_, sU_, sU_, sU_] [(.int (1 : Int32)), (.int ((1 : Int32) + (q0 &&& (3 : Int32))))])) t
      refine XS.icmpYes X0.here hx rfl (pc0 := 10) (pc' := 17) rfl (hb hby at_10) rfl (XT.ii_ne_t (by rw [hr]; try decide)) (by decide) (by decide) ?_
      refine XS.iconst X0.here hx rfl (hb hby at_17) ?_
      refine XS.istore X0.here hx rfl (hb hby at_18) rfl (l' := #[sI_ q0, sI_ q1, sI_ q2, sI_ q3, sJ_ qw, sS_, sI_ ((1 : Int32) + (q0 &&& (3 : Int32))), sI_ (1 : Int32), sU_, sU_, sU_, sU_, sU_, sU_, sU_, sU_, sU_, sU_, sU_]) rfl ?_
      refine XS.iload X0.here hx rfl (hb hby at_20) rfl ?_
      refine XS.iconst X0.here hx rfl (hb hby at_22) ?_
      refine XS.icmpYes X0.here hx rfl (pc0 := 23) (pc' := 30) rfl (hb hby at_23) rfl (XT.ii_gt_t (by rw [hr]; try decide)) (by decide) (by decide) ?_
      refine XS.iconst X0.here hx rfl (hb hby at_30) ?_
      refine XS.istore X0.here hx rfl (hb hby at_31) rfl (l' := #[sI_ q0, sI_ q1, sI_ q2, sI_ q3, sJ_ qw, sS_, sI_ ((1 : Int32) + (q0 &&& (3 : Int32))), sI_ (1 : Int32), sI_ (2 : Int32), sU_, sU_, sU_, sU_, sU_, sU_, sU_, sU_, sU_, sU_]) rfl ?_
      show Steps p.tables e below (s₁.setTop (mkF m 33 #[sI_ q0, sI_ q1, sI_ q2, sI_ q3, sJ_ qw, sS_, sI_ ((1 : Int32) + (q0 &&& (3 : Int32))), sI_ (1 : Int32), sI_ (2 : Int32), sU_, sU_, sU_, sU_, sU_, sU_, sU_, sU_, sU_, sU_] [])) t
      refine XS.iload X0.here hx rfl (hb hby at_33) rfl ?_
      refine XS.iconst X0.here hx rfl (hb hby at_35) ?_
      refine XS.icmpYes X0.here hx rfl (pc0 := 36) (pc' := 43) rfl (hb hby at_36) rfl (XT.ii_gt_t (by rw [hr]; try decide)) (by decide) (by decide) ?_
      refine XS.iconst X0.here hx rfl (hb hby at_43) ?_
      refine XS.istore X0.here hx rfl (hb hby at_44) rfl (l' := #[sI_ q0, sI_ q1, sI_ q2, sI_ q3, sJ_ qw, sS_, sI_ ((1 : Int32) + (q0 &&& (3 : Int32))), sI_ (1 : Int32), sI_ (2 : Int32), sI_ (3 : Int32), sU_, sU_, sU_, sU_, sU_, sU_, sU_, sU_, sU_]) rfl ?_
      exact kt
    exact law_46 l Z a0 hw q0 q1 q2 q3 qw dx la kd cK ((1 : Int32) + (q0 &&& (3 : Int32))) (1 : Int32) (2 : Int32) (3 : Int32) h0 n0 Z0 p e s m below meth c hx hby hml hown hnm hret hlk hZ _ _ _ X0 e0 N0  O BC SH SD VD FL (own_RT4 hr)
set_option maxRecDepth 65536 in
set_option maxHeartbeats 40000000 in
theorem comes_1 {Post : Tables → Env → Array Value → State → Outcome → State → Prop} (hpost : ∀ tb e args s v u, (limb_1_1.after args s (.returned v) u = true ∧ limb_1_2.after args s (.returned v) u = true) → FrameEnd s (.returned v) u (Jvm.fieldLocs frame_1_writes args s ++ Jvm.arrayLocs frame_1_arrays args s ++ Jvm.staticLocs frame_1_statics s) 48 320 → Post tb e args s (.returned v) u) :
    ArmFor flags0 classFile x code maxLocals ret World_1 tables_1 room_1 Calls_1 rest_1 Pre_1 Post := by
  intro l hfl _ _ p e ha hc hk s m args below hf hA hF happ hP
  obtain ⟨hcalls, hrest, hpre⟩ := hP
  obtain ⟨-, -, -, hnamed, -, -, -, hat⟩ := (Spec.applies_iff hf).mp happ
  obtain ⟨hg, hn⟩ := and_e (Cond.before_iff.mp (show (Jvm.Cond.and given_1 narrow_1).before args s = true from hpre))
  obtain ⟨gc, gs⟩ := and_e hg
  obtain ⟨ga0, gs⟩ := and_e gs
  obtain ⟨ga1, gs⟩ := and_e gs
  obtain ⟨ga2, gs⟩ := and_e gs
  obtain ⟨ga3, gs⟩ := and_e gs
  have ga4 := gs
  obtain ⟨w0, w1, w2, w3, w4, rfl⟩ : ∃ w0 w1 w2 w3 w4 : Value, args = #[w0, w1, w2, w3, w4] := by
    have hs : args.size = 5 := by simpa [Cond.value, given_1] using gc
    obtain ⟨L⟩ := args
    match L, hs with
    | [w0, w1, w2, w3, w4], _ => exact ⟨w0, w1, w2, w3, w4, rfl⟩
  have hw := fun d (hd : d ∈ tables_1) => atoms_spec (ws := Jvm.Cond.code x code maxLocals ret :: tables_1) hat d (List.mem_cons_of_mem _ hd)
  have hfit : Fit s := fun {y c} hc i hi => by
    obtain ⟨ha, rfl⟩ := Array.getElem?_eq_some_iff.mp hc
    have q := List.all_eq_true.mp ((Array.all_eq_true_iff_forall_mem.mp hF) _ (Array.getElem_mem ha)) i (List.mem_range.mpr hi)
    simpa [Array.getElem?_eq_getElem hi] using q
  obtain ⟨i0, ei0⟩ := is_v ga0
  obtain rfl : w0 = (.int i0) := Option.some.inj ei0
  obtain ⟨i1, ei1⟩ := is_v ga1
  obtain rfl : w1 = (.int i1) := Option.some.inj ei1
  obtain ⟨i2, ei2⟩ := is_v ga2
  obtain rfl : w2 = (.int i2) := Option.some.inj ei2
  obtain ⟨i3, ei3⟩ := is_v ga3
  obtain rfl : w3 = (.int i3) := Option.some.inj ei3
  obtain ⟨i4, ei4⟩ := isL_v ga4
  obtain rfl : w4 = (.long i4) := Option.some.inj ei4
  obtain ⟨hsets, hown0⟩ := atoms_of _ (rest_1_c_eq ▸ (show rest_1_c.before _ s = true from hrest))
  have BC : BoxC s "java/lang/Integer$IntegerCache" "[Ljava/lang/Integer;" "java/lang/Integer" "I" (fun i => .int (i.toInt32 - 128)) := BoxC.start (wdOf hw 32 rfl) (wdOf hsets 11 rfl) (wdOf hsets 13 rfl) (wdOf hsets 15 rfl) (wdOf hsets 16 rfl) (fun _ => rfl) (fun _ => Or.inl ⟨_, rfl⟩)
  have SH : Sta s s.heap "java/lang/Integer$IntegerCache" "high" "I" (.int (127 : Int32)) := Sta.start (eqInt_v (Cond.before_iff.mp (wdOf hsets 12 rfl))) (Or.inr ⟨(wdOf hw 32 rfl), (wdOf hsets 9 rfl)⟩)
  obtain ⟨dx, kd, SD, VD⟩ := emptyStart (wdOf hw 3 rfl) (wdOf hsets 2 rfl) (wdOf hsets 6 rfl) (wdOf hsets 8 rfl)
  obtain ⟨cK, la, FL⟩ := HLam.Lam.start (wdOf hw 71 rfl)
  obtain ⟨n, o, h1, h2, h3, _, L, rfl, ⟨rfl, N⟩, hq⟩ := rm_law l s _ hw tables_1 i0 i1 i2 i3 i4 dx la kd cK s.heap s.heap.size (Nat.le_refl _) (Old.start s) BC SH SD VD FL p e ha hc hk s m _ below hf ((Spec.applies_iff_loose hf).mp happ).1 ⟨rfl, State.Warmed39.refl s, rfl⟩ trivial
  refine ⟨n, _, h1, h2, h3, hpost _ _ _ _ _ _ ⟨Cond.after_iff.mpr rfl, Cond.after_iff.mpr (eq_i res_at (Term.int_eval (1)) rfl)⟩ ⟨hq.1, hq.2.1, (hq.2.2.sift fun y hy => Or.inr (N y hy)).mono (by decide) (by decide)⟩⟩
theorem main_1_1 : Claimed_1_1 := comes_1 fun _ _ _ _ _ _ h hF => ⟨h.1, ReturnedEndW.of_narrow hF.1 hF.2.1 hF.2.2⟩
theorem main_1_2 : Claimed_1_2 := comes_1 fun _ _ _ _ _ _ h hF => ⟨h.2, ReturnedEndW.of_narrow hF.1 hF.2.1 hF.2.2⟩
end Jvm.Pilot.@@N@@
namespace Jvm.Pilot.@@N@@
open Jvm Jvm.ClassFile Sem Op Lib Jvm.Free Jvm.Stand Jvm.Pilot.@@N@@.Jvm.D
/-! MADE BY PROGRAM (witnessworld.py) out of the Statement's table words and the real class files: 37 classes; the members and pool entries that the words name. The judged class is class 1, her method 1. -/
namespace start1
open Jvm.ClassFile
def u (s : String) : CpInfo := .utf8 (stringToUtf16 s)
/-- a pool by its gaps: so many unusable entries, then the entry; so many at the end -/
def gap : Nat → List CpInfo → List CpInfo
  | 0, r => r
  | n + 1, r => .unusable :: gap n r
def poolList (es : List (Nat × CpInfo)) (last : Nat) : List CpInfo := es.foldr (fun e r => gap e.1 (e.2 :: r)) (gap last [])
def pool (es : List (Nat × CpInfo)) (last : Nat) : Array CpInfo := ⟨poolList es last⟩
def fileOf (pool : Array CpInfo) (this : Nat) (attrs : Array Attribute := #[]) (ms : Array MethodInfo := #[]) (fl : Nat := 33) (sup : Nat := 0) (ifs : Array Nat := #[]) (fds : Array FieldInfo := #[]) : ClassFile where
  minorVersion := 0
  majorVersion := 65
  constantPool := pool
  accessFlags := fl
  thisClass := this
  superClass := sup
  interfaces := ifs
  fields := fds
  methods := ms
  attributes := attrs
def plain (name : String) (sup : Option ClassId) : Class where
  name := name
  kind := .ordinary
  loader := none
  accessFlags := 33
  super := sup
  interfaces := #[]
  cf := none
  fields := #[]
  methods := #[]
  instanceTypes := #[]
  staticTypes := #[]
  resolved := #[]
  callSites := []
  init := .initialized
  statics := none
  mirror := none

def pool0 : Array CpInfo := pool [(5, u "<init>"), (0, u "()V"), (1, .class_ 10), (1, u "java/lang/Object")] 113

def k0c0 : Code := { maxStack := 0, maxLocals := 1, code := object_method_1_code, exceptionTable := #[], attributes := #[] }
def k0m0 : Method := { name := "<init>", desc := "()V", sig := { parameters := [], returnType := none }, accessFlags := 1, code := some k0c0 }
/-- java/lang/Object -/
def k0 : Class := { plain "java/lang/Object" none with
  accessFlags := 33
  interfaces := #[]
  cf := some (fileOf pool0 8 #[] #[{ accessFlags := 1, nameIndex := 5, descriptorIndex := 6, attributes := #[] }] 33 0 #[] #[])
  fields := #[]
  methods := #[k0m0]
  instanceTypes := #[]
  staticTypes := #[]
  resolved := Array.replicate 124 none
  statics := none }

def pool1 : Array CpInfo := pool [(2, .class_ 4), (0, .nameAndType 5 6), (0, u "java/lang/Object"), (0, u "<init>"), (0, u "()V"), (2, .long 9223372036854775807), (1, .class_ 12), (0, u "java/util/ArrayList"), (0, .methodref 11 3), (0, .methodref 15 16), (0, .class_ 17), (0, .nameAndType 18 19), (0, u "java/lang/Integer"), (0, u "valueOf"), (0, u "(I)Ljava/lang/Integer;"), (0, .methodref 11 21), (0, .nameAndType 22 23), (0, u "add"), (0, u "(Ljava/lang/Object;)Z"), (0, .class_ 25), (0, u "com/example/copse/copse/HangingTree"), (0, .methodref 24 27), (0, .nameAndType 5 28), (0, u "(IILjava/util/Collection;)V"), (0, .class_ 30), (0, u "com/example/copse/copse/Arc"), (0, .methodref 29 32), (0, .nameAndType 5 33), (0, u "(IIJ)V"), (0, .methodref 24 35), (0, .nameAndType 36 37), (0, u "hang"), (0, u "(Lcom/example/copse/copse/Arc;)V"), (0, .methodref 24 39), (0, .nameAndType 40 41), (0, u "contains"), (0, u "(I)Z"), (0, .class_ 43), (0, u "com/example/copse/copse/HangingTreeContainsPinLaw"), (2, u "law"), (0, u "(IIIIJ)Z")] 3

def k1m0 : Method := { name := "<init>", desc := "()V", sig := { parameters := [], returnType := none }, accessFlags := 1, code := none }
def k1c1 : Code := { maxStack := 7, maxLocals := 19, code := code, exceptionTable := #[], attributes := #[] }
def k1m1 : Method := { name := "law", desc := "(IIIIJ)Z", sig := { parameters := [.int, .int, .int, .int, .long], returnType := some .boolean }, accessFlags := 9, code := some k1c1 }
/-- com/example/copse/copse/HangingTreeContainsPinLaw -/
def k1 : Class := { plain "com/example/copse/copse/HangingTreeContainsPinLaw" (some 0) with
  accessFlags := 49
  interfaces := #[]
  cf := some (fileOf pool1 42 #[] #[{ accessFlags := 1, nameIndex := 5, descriptorIndex := 6, attributes := #[] }, { accessFlags := 9, nameIndex := 46, descriptorIndex := 47, attributes := #[] }] 49 2 #[] #[])
  fields := #[]
  methods := #[k1m0, k1m1]
  instanceTypes := #[]
  staticTypes := #[]
  resolved := Array.replicate 51 none
  statics := none }

def pool2 : Array CpInfo := pool [(8, .class_ 10), (1, u "java/lang/Iterable"), (24, .class_ 36), (0, u "java/lang/Object")] 25

/-- java/lang/Iterable -/
def k2 : Class := { plain "java/lang/Iterable" (some 0) with
  accessFlags := 1537
  interfaces := #[]
  cf := some (fileOf pool2 8 #[] #[] 1537 35 #[] #[])
  fields := #[]
  methods := #[]
  instanceTypes := #[]
  staticTypes := #[]
  resolved := Array.replicate 62 none
  statics := none }

def pool3 : Array CpInfo := pool [(10, .class_ 12), (1, u "java/util/Collection"), (10, u "iterator"), (0, u "()Ljava/util/Iterator;"), (35, .class_ 61), (0, u "java/lang/Object"), (0, .class_ 63), (0, u "java/lang/Iterable")] 51

def k3m0 : Method := { name := "iterator", desc := "()Ljava/util/Iterator;", sig := { parameters := [], returnType := some (.object "java/util/Iterator") }, accessFlags := 1025, code := none }
/-- java/util/Collection -/
def k3 : Class := { plain "java/util/Collection" (some 0) with
  accessFlags := 1537
  interfaces := #[2]
  cf := some (fileOf pool3 10 #[] #[{ accessFlags := 1025, nameIndex := 23, descriptorIndex := 24, attributes := #[] }] 1537 60 #[62] #[])
  fields := #[]
  methods := #[k3m0]
  instanceTypes := #[]
  staticTypes := #[]
  resolved := Array.replicate 115 none
  statics := none }

def pool4 : Array CpInfo := pool [(1, .methodref 2 3), (0, .class_ 4), (0, .nameAndType 5 6), (0, u "java/lang/Object"), (0, u "<init>"), (0, u "()V"), (1, .class_ 10), (1, u "java/util/AbstractCollection"), (66, .class_ 78), (0, u "java/util/Collection")] 81

def k4c0 : Code := { maxStack := 1, maxLocals := 1, code := jdk_22_method_1_code, exceptionTable := #[], attributes := #[] }
def k4m0 : Method := { name := "<init>", desc := "()V", sig := { parameters := [], returnType := none }, accessFlags := 4, code := some k4c0 }
/-- java/util/AbstractCollection -/
def k4 : Class := { plain "java/util/AbstractCollection" (some 0) with
  accessFlags := 1057
  interfaces := #[3]
  cf := some (fileOf pool4 8 #[] #[{ accessFlags := 4, nameIndex := 5, descriptorIndex := 6, attributes := #[] }] 1057 2 #[77] #[])
  fields := #[]
  methods := #[k4m0]
  instanceTypes := #[]
  staticTypes := #[]
  resolved := Array.replicate 160 none
  statics := none }

def pool5 : Array CpInfo := pool [(8, .class_ 10), (1, u "java/util/SequencedCollection"), (15, .class_ 27), (0, u "java/lang/Object"), (0, .class_ 29), (0, u "java/util/Collection")] 27

/-- java/util/SequencedCollection -/
def k5 : Class := { plain "java/util/SequencedCollection" (some 0) with
  accessFlags := 1537
  interfaces := #[3]
  cf := some (fileOf pool5 8 #[] #[] 1537 26 #[28] #[])
  fields := #[]
  methods := #[]
  instanceTypes := #[]
  staticTypes := #[]
  resolved := Array.replicate 57 none
  statics := none }

def pool6 : Array CpInfo := pool [(8, .class_ 10), (1, u "java/util/List"), (92, .class_ 104), (0, u "java/lang/Object"), (15, .class_ 121), (0, u "java/util/SequencedCollection")] 129

/-- java/util/List -/
def k6 : Class := { plain "java/util/List" (some 0) with
  accessFlags := 1537
  interfaces := #[5]
  cf := some (fileOf pool6 8 #[] #[] 1537 103 #[120] #[])
  fields := #[]
  methods := #[]
  instanceTypes := #[]
  staticTypes := #[]
  resolved := Array.replicate 251 none
  statics := none }

def pool7 : Array CpInfo := pool [(1, .methodref 2 3), (0, .class_ 4), (0, .nameAndType 5 6), (0, u "java/util/AbstractCollection"), (0, u "<init>"), (0, u "()V"), (0, .fieldref 8 9), (0, .class_ 10), (0, .nameAndType 11 12), (0, u "java/util/AbstractList"), (0, u "modCount"), (0, u "I"), (64, .class_ 78), (0, u "java/util/AbstractList$Itr"), (3, .class_ 83), (0, u "java/util/AbstractList$ListItr"), (9, .class_ 94), (0, u "java/util/AbstractList$RandomAccessSubList"), (3, .class_ 99), (0, u "java/util/AbstractList$SubList"), (33, .class_ 134), (0, u "java/util/List"), (73, .class_ 209), (0, u "java/util/AbstractList$SubList$1"), (0, .class_ 211), (0, u "java/util/AbstractList$RandomAccessSpliterator")] 6

def k7c0 : Code := { maxStack := 2, maxLocals := 1, code := jdk_39_method_1_code, exceptionTable := #[], attributes := #[] }
def k7m0 : Method := { name := "<init>", desc := "()V", sig := { parameters := [], returnType := none }, accessFlags := 4, code := some k7c0 }
/-- java/util/AbstractList -/
def k7 : Class := { plain "java/util/AbstractList" (some 4) with
  accessFlags := 1057
  interfaces := #[6]
  cf := some (fileOf pool7 8 #[.nestMembers #[93, 98, 208, 210, 82, 77]] #[{ accessFlags := 4, nameIndex := 5, descriptorIndex := 6, attributes := #[] }] 1057 2 #[133] #[{ accessFlags := 132, nameIndex := 11, descriptorIndex := 12, attributes := #[] }])
  fields := #[{ name := "modCount", type := .int, accessFlags := 132, slot := 0, constantValue := 0 }]
  methods := #[k7m0]
  instanceTypes := #[.int]
  staticTypes := #[]
  resolved := Array.replicate 218 none
  statics := none }

def pool8 : Array CpInfo := pool [(1, .class_ 2), (0, u "java/util/RandomAccess"), (0, .class_ 4), (0, u "java/lang/Object")] 2

/-- java/util/RandomAccess -/
def k8 : Class := { plain "java/util/RandomAccess" (some 0) with
  accessFlags := 1537
  interfaces := #[]
  cf := some (fileOf pool8 1 #[] #[] 1537 3 #[] #[])
  fields := #[]
  methods := #[]
  instanceTypes := #[]
  staticTypes := #[]
  resolved := Array.replicate 7 none
  statics := none }

def pool9 : Array CpInfo := pool [(1, .class_ 2), (0, u "java/lang/Cloneable"), (0, .class_ 4), (0, u "java/lang/Object")] 2

/-- java/lang/Cloneable -/
def k9 : Class := { plain "java/lang/Cloneable" (some 0) with
  accessFlags := 1537
  interfaces := #[]
  cf := some (fileOf pool9 1 #[] #[] 1537 3 #[] #[])
  fields := #[]
  methods := #[]
  instanceTypes := #[]
  staticTypes := #[]
  resolved := Array.replicate 7 none
  statics := none }

def pool10 : Array CpInfo := pool [(1, .class_ 2), (0, u "java/io/Serializable"), (0, .class_ 4), (0, u "java/lang/Object")] 2

/-- java/io/Serializable -/
def k10 : Class := { plain "java/io/Serializable" (some 0) with
  accessFlags := 1537
  interfaces := #[]
  cf := some (fileOf pool10 1 #[] #[] 1537 3 #[] #[])
  fields := #[]
  methods := #[]
  instanceTypes := #[]
  staticTypes := #[]
  resolved := Array.replicate 7 none
  statics := none }

def pool11 : Array CpInfo := pool [(1, .methodref 2 3), (0, .class_ 4), (0, .nameAndType 5 6), (0, u "java/util/AbstractList"), (0, u "<init>"), (0, u "()V"), (0, .class_ 8), (0, u "java/lang/Object"), (0, .fieldref 10 11), (0, .class_ 12), (0, .nameAndType 13 14), (0, u "java/util/ArrayList"), (0, u "elementData"), (0, u "[Ljava/lang/Object;"), (2, u "EMPTY_ELEMENTDATA"), (21, .fieldref 10 40), (0, .nameAndType 41 14), (0, u "DEFAULTCAPACITY_EMPTY_ELEMENTDATA"), (5, u "()[Ljava/lang/Object;"), (0, .fieldref 10 49), (0, .nameAndType 50 51), (0, u "size"), (0, u "I"), (11, .fieldref 10 64), (0, .nameAndType 65 51), (0, u "modCount"), (3, .methodref 10 70), (0, .nameAndType 71 72), (0, u "grow"), (0, u "(I)[Ljava/lang/Object;"), (6, .methodref 80 81), (0, .class_ 82), (0, .nameAndType 83 84), (0, u "java/lang/Math"), (0, u "max"), (0, u "(II)I"), (11, u "(Ljava/lang/Object;)Z"), (32, .methodref 10 130), (0, .nameAndType 71 47), (0, .methodref 10 132), (0, .nameAndType 133 134), (0, u "add"), (0, u "(Ljava/lang/Object;[Ljava/lang/Object;I)V"), (13, .class_ 149), (0, u "java/util/List"), (16, u "iterator"), (0, u "()Ljava/util/Iterator;"), (94, .class_ 263), (0, u "java/util/ArrayList$ListItr"), (3, .class_ 268), (0, u "java/util/ArrayList$Itr"), (0, .methodref 267 270), (0, .nameAndType 5 271), (0, u "(Ljava/util/ArrayList;)V"), (4, .class_ 277), (0, u "java/util/ArrayList$SubList"), (12, .class_ 291), (0, u "java/util/ArrayList$ArrayListSpliterator"), (37, .class_ 330), (0, u "java/util/RandomAccess"), (0, .class_ 332), (0, u "java/lang/Cloneable"), (0, .class_ 334), (0, u "java/io/Serializable"), (0, u "serialVersionUID"), (0, u "J"), (3, u "DEFAULT_CAPACITY"), (159, .class_ 501), (0, u "java/util/ArrayList$SubList$2"), (0, .class_ 503), (0, u "java/util/ArrayList$SubList$1")] 5

def k11c0 : Code := { maxStack := 2, maxLocals := 1, code := jdk_38_method_2_code, exceptionTable := #[], attributes := #[] }
def k11m0 : Method := { name := "<init>", desc := "()V", sig := { parameters := [], returnType := none }, accessFlags := 1, code := some k11c0 }
def k11c1 : Code := { maxStack := 4, maxLocals := 4, code := jdk_38_method_6_code, exceptionTable := #[], attributes := #[] }
def k11m1 : Method := { name := "grow", desc := "(I)[Ljava/lang/Object;", sig := { parameters := [.int], returnType := some (.array (.object "java/lang/Object")) }, accessFlags := 2, code := some k11c1 }
def k11c2 : Code := { maxStack := 3, maxLocals := 1, code := jdk_38_method_7_code, exceptionTable := #[], attributes := #[] }
def k11m2 : Method := { name := "grow", desc := "()[Ljava/lang/Object;", sig := { parameters := [], returnType := some (.array (.object "java/lang/Object")) }, accessFlags := 2, code := some k11c2 }
def k11c3 : Code := { maxStack := 3, maxLocals := 4, code := jdk_38_method_24_code, exceptionTable := #[], attributes := #[] }
def k11m3 : Method := { name := "add", desc := "(Ljava/lang/Object;[Ljava/lang/Object;I)V", sig := { parameters := [(.object "java/lang/Object"), (.array (.object "java/lang/Object")), .int], returnType := none }, accessFlags := 2, code := some k11c3 }
def k11c4 : Code := { maxStack := 4, maxLocals := 2, code := jdk_38_method_25_code, exceptionTable := #[], attributes := #[] }
def k11m4 : Method := { name := "add", desc := "(Ljava/lang/Object;)Z", sig := { parameters := [(.object "java/lang/Object")], returnType := some .boolean }, accessFlags := 1, code := some k11c4 }
def k11c5 : Code := { maxStack := 3, maxLocals := 1, code := jdk_38_method_55_code, exceptionTable := #[], attributes := #[] }
def k11m5 : Method := { name := "iterator", desc := "()Ljava/util/Iterator;", sig := { parameters := [], returnType := some (.object "java/util/Iterator") }, accessFlags := 1, code := some k11c5 }
/-- java/util/ArrayList -/
def k11 : Class := { plain "java/util/ArrayList" (some 7) with
  accessFlags := 33
  interfaces := #[6, 8, 9, 10]
  cf := some (fileOf pool11 10 #[.nestMembers #[290, 276, 500, 502, 262, 267]] #[{ accessFlags := 1, nameIndex := 5, descriptorIndex := 6, attributes := #[] }, { accessFlags := 2, nameIndex := 71, descriptorIndex := 72, attributes := #[] }, { accessFlags := 2, nameIndex := 71, descriptorIndex := 47, attributes := #[] }, { accessFlags := 2, nameIndex := 133, descriptorIndex := 134, attributes := #[] }, { accessFlags := 1, nameIndex := 133, descriptorIndex := 96, attributes := #[] }, { accessFlags := 1, nameIndex := 166, descriptorIndex := 167, attributes := #[] }] 33 2 #[148, 329, 331, 333] #[{ accessFlags := 26, nameIndex := 335, descriptorIndex := 336, attributes := #[] }, { accessFlags := 26, nameIndex := 340, descriptorIndex := 51, attributes := #[] }, { accessFlags := 26, nameIndex := 17, descriptorIndex := 14, attributes := #[] }, { accessFlags := 26, nameIndex := 41, descriptorIndex := 14, attributes := #[] }, { accessFlags := 128, nameIndex := 13, descriptorIndex := 14, attributes := #[] }, { accessFlags := 2, nameIndex := 50, descriptorIndex := 51, attributes := #[] }])
  fields := #[{ name := "serialVersionUID", type := .long, accessFlags := 26, slot := 0, constantValue := 0 }, { name := "DEFAULT_CAPACITY", type := .int, accessFlags := 26, slot := 1, constantValue := 0 }, { name := "EMPTY_ELEMENTDATA", type := (.array (.object "java/lang/Object")), accessFlags := 26, slot := 2, constantValue := 0 }, { name := "DEFAULTCAPACITY_EMPTY_ELEMENTDATA", type := (.array (.object "java/lang/Object")), accessFlags := 26, slot := 3, constantValue := 0 }, { name := "elementData", type := (.array (.object "java/lang/Object")), accessFlags := 128, slot := 1, constantValue := 0 }, { name := "size", type := .int, accessFlags := 2, slot := 2, constantValue := 0 }]
  methods := #[k11m0, k11m1, k11m2, k11m3, k11m4, k11m5]
  instanceTypes := #[.int, (.array (.object "java/lang/Object")), .int]
  staticTypes := #[.long, .int, (.array (.object "java/lang/Object")), (.array (.object "java/lang/Object"))]
  resolved := Array.replicate 509 none
  statics := some 0 }

def pool12 : Array CpInfo := pool [(2, .class_ 4), (1, u "java/lang/Object"), (0, u "<init>"), (0, u "()V"), (1, .class_ 10), (1, u "java/lang/Number"), (2, .class_ 14), (0, u "java/io/Serializable"), (0, u "serialVersionUID"), (0, u "J")] 20

def k12m0 : Method := { name := "<init>", desc := "()V", sig := { parameters := [], returnType := none }, accessFlags := 1, code := none }
/-- java/lang/Number -/
def k12 : Class := { plain "java/lang/Number" (some 0) with
  accessFlags := 1057
  interfaces := #[10]
  cf := some (fileOf pool12 8 #[] #[{ accessFlags := 1, nameIndex := 5, descriptorIndex := 6, attributes := #[] }] 1057 2 #[13] #[{ accessFlags := 26, nameIndex := 15, descriptorIndex := 16, attributes := #[] }])
  fields := #[{ name := "serialVersionUID", type := .long, accessFlags := 26, slot := 0, constantValue := 0 }]
  methods := #[k12m0]
  instanceTypes := #[]
  staticTypes := #[.long]
  resolved := Array.replicate 37 none
  statics := none }

def pool13 : Array CpInfo := pool [(1, .class_ 2), (0, u "java/lang/Comparable"), (0, .class_ 4), (0, u "java/lang/Object")] 7

/-- java/lang/Comparable -/
def k13 : Class := { plain "java/lang/Comparable" (some 0) with
  accessFlags := 1537
  interfaces := #[]
  cf := some (fileOf pool13 1 #[] #[] 1537 3 #[] #[])
  fields := #[]
  methods := #[]
  instanceTypes := #[]
  staticTypes := #[]
  resolved := Array.replicate 12 none
  statics := none }

def pool14 : Array CpInfo := pool [(1, .class_ 2), (0, u "java/lang/constant/Constable"), (0, .class_ 4), (0, u "java/lang/Object")] 6

/-- java/lang/constant/Constable -/
def k14 : Class := { plain "java/lang/constant/Constable" (some 0) with
  accessFlags := 1537
  interfaces := #[]
  cf := some (fileOf pool14 1 #[] #[] 1537 3 #[] #[])
  fields := #[]
  methods := #[]
  instanceTypes := #[]
  staticTypes := #[]
  resolved := Array.replicate 11 none
  statics := none }

def pool15 : Array CpInfo := pool [(1, .class_ 2), (0, u "java/lang/constant/ConstantDesc"), (0, .class_ 4), (0, u "java/lang/Object")] 32

/-- java/lang/constant/ConstantDesc -/
def k15 : Class := { plain "java/lang/constant/ConstantDesc" (some 0) with
  accessFlags := 1537
  interfaces := #[]
  cf := some (fileOf pool15 1 #[] #[] 1537 3 #[] #[])
  fields := #[]
  methods := #[]
  instanceTypes := #[]
  staticTypes := #[]
  resolved := Array.replicate 37 none
  statics := none }

def pool16 : Array CpInfo := pool [(1, .class_ 2), (0, u "java/lang/Integer"), (16, u "digits"), (0, u "[C"), (64, u "DigitOnes"), (0, u "[B"), (2, u "DigitTens"), (31, u "()I"), (65, u "valueOf"), (0, u "(I)Ljava/lang/Integer;"), (0, .class_ 190), (0, u "java/lang/Integer$IntegerCache"), (0, .fieldref 189 192), (0, .nameAndType 193 194), (0, u "high"), (0, u "I"), (0, .fieldref 189 196), (0, .nameAndType 197 198), (0, u "cache"), (0, u "[Ljava/lang/Integer;"), (4, .class_ 204), (0, u "java/lang/Number"), (0, .fieldref 1 206), (0, .nameAndType 207 194), (0, u "value"), (5, u "intValue"), (88, u "TYPE"), (0, u "Ljava/lang/Class;"), (0, .class_ 305), (0, u "java/lang/Comparable"), (0, .class_ 307), (0, u "java/lang/constant/Constable"), (0, .class_ 309), (0, u "java/lang/constant/ConstantDesc"), (0, u "MIN_VALUE"), (1, u "MAX_VALUE"), (3, u "SIZE"), (1, u "BYTES"), (1, u "serialVersionUID"), (0, u "J")] 131

def k16c0 : Code := { maxStack := 3, maxLocals := 1, code := jdk_33_method_22_code, exceptionTable := #[], attributes := #[] }
def k16m0 : Method := { name := "valueOf", desc := "(I)Ljava/lang/Integer;", sig := { parameters := [.int], returnType := some (.object "java/lang/Integer") }, accessFlags := 9, code := some k16c0 }
def k16c1 : Code := { maxStack := 1, maxLocals := 1, code := jdk_33_method_27_code, exceptionTable := #[], attributes := #[] }
def k16m1 : Method := { name := "intValue", desc := "()I", sig := { parameters := [], returnType := some .int }, accessFlags := 1, code := some k16c1 }
/-- java/lang/Integer -/
def k16 : Class := { plain "java/lang/Integer" (some 12) with
  accessFlags := 49
  interfaces := #[13, 14, 15]
  cf := some (fileOf pool16 1 #[.nestMembers #[189]] #[{ accessFlags := 9, nameIndex := 187, descriptorIndex := 188, attributes := #[] }, { accessFlags := 1, nameIndex := 213, descriptorIndex := 121, attributes := #[] }] 49 203 #[304, 306, 308] #[{ accessFlags := 25, nameIndex := 310, descriptorIndex := 194, attributes := #[] }, { accessFlags := 25, nameIndex := 312, descriptorIndex := 194, attributes := #[] }, { accessFlags := 25, nameIndex := 302, descriptorIndex := 303, attributes := #[] }, { accessFlags := 24, nameIndex := 19, descriptorIndex := 20, attributes := #[] }, { accessFlags := 24, nameIndex := 89, descriptorIndex := 86, attributes := #[] }, { accessFlags := 24, nameIndex := 85, descriptorIndex := 86, attributes := #[] }, { accessFlags := 18, nameIndex := 207, descriptorIndex := 194, attributes := #[] }, { accessFlags := 25, nameIndex := 316, descriptorIndex := 194, attributes := #[] }, { accessFlags := 25, nameIndex := 318, descriptorIndex := 194, attributes := #[] }, { accessFlags := 26, nameIndex := 320, descriptorIndex := 321, attributes := #[] }])
  fields := #[{ name := "MIN_VALUE", type := .int, accessFlags := 25, slot := 0, constantValue := 0 }, { name := "MAX_VALUE", type := .int, accessFlags := 25, slot := 1, constantValue := 0 }, { name := "TYPE", type := (.object "java/lang/Class"), accessFlags := 25, slot := 2, constantValue := 0 }, { name := "digits", type := (.array .char), accessFlags := 24, slot := 3, constantValue := 0 }, { name := "DigitTens", type := (.array .byte), accessFlags := 24, slot := 4, constantValue := 0 }, { name := "DigitOnes", type := (.array .byte), accessFlags := 24, slot := 5, constantValue := 0 }, { name := "value", type := .int, accessFlags := 18, slot := 0, constantValue := 0 }, { name := "SIZE", type := .int, accessFlags := 25, slot := 6, constantValue := 0 }, { name := "BYTES", type := .int, accessFlags := 25, slot := 7, constantValue := 0 }, { name := "serialVersionUID", type := .long, accessFlags := 26, slot := 8, constantValue := 0 }]
  methods := #[k16m0, k16m1]
  instanceTypes := #[.int]
  staticTypes := #[.int, .int, (.object "java/lang/Class"), (.array .char), (.array .byte), (.array .byte), .int, .int, .long]
  resolved := Array.replicate 453 none
  statics := none }

def pool17 : Array CpInfo := pool [(2, .class_ 4), (1, u "java/lang/Object"), (0, u "<init>"), (0, u "()V"), (0, .class_ 8), (0, u "java/lang/Integer"), (7, .class_ 18), (1, u "java/lang/Integer$IntegerCache"), (0, u "$assertionsDisabled"), (0, u "Z"), (26, u "high"), (0, u "I"), (8, u "archivedCache"), (0, u "[Ljava/lang/Integer;"), (12, u "cache"), (0, u "low")] 27

def k17m0 : Method := { name := "<init>", desc := "()V", sig := { parameters := [], returnType := none }, accessFlags := 2, code := none }
/-- java/lang/Integer$IntegerCache -/
def k17 : Class := { plain "java/lang/Integer$IntegerCache" (some 0) with
  accessFlags := 48
  interfaces := #[]
  cf := some (fileOf pool17 16 #[.nestHost 7] #[{ accessFlags := 2, nameIndex := 5, descriptorIndex := 6, attributes := #[] }] 48 2 #[] #[{ accessFlags := 24, nameIndex := 72, descriptorIndex := 48, attributes := #[] }, { accessFlags := 24, nameIndex := 47, descriptorIndex := 48, attributes := #[] }, { accessFlags := 24, nameIndex := 71, descriptorIndex := 58, attributes := #[] }, { accessFlags := 8, nameIndex := 57, descriptorIndex := 58, attributes := #[] }, { accessFlags := 4120, nameIndex := 19, descriptorIndex := 20, attributes := #[] }])
  fields := #[{ name := "low", type := .int, accessFlags := 24, slot := 0, constantValue := 0 }, { name := "high", type := .int, accessFlags := 24, slot := 1, constantValue := 0 }, { name := "cache", type := (.array (.object "java/lang/Integer")), accessFlags := 24, slot := 2, constantValue := 0 }, { name := "archivedCache", type := (.array (.object "java/lang/Integer")), accessFlags := 8, slot := 3, constantValue := 0 }, { name := "$assertionsDisabled", type := .boolean, accessFlags := 4120, slot := 4, constantValue := 0 }]
  methods := #[k17m0]
  instanceTypes := #[]
  staticTypes := #[.int, .int, (.array (.object "java/lang/Integer")), (.array (.object "java/lang/Integer")), .boolean]
  resolved := Array.replicate 100 none
  statics := some 1 }

def pool18 : Array CpInfo := pool [(1, .class_ 2), (0, u "java/lang/Math"), (1, .class_ 6), (1, u "java/lang/Object"), (0, u "<init>"), (0, u "()V"), (89, .class_ 100), (1, u "java/lang/Math$RandomNumberGeneratorHolder"), (71, u "negativeZeroFloatBits"), (0, u "J"), (2, u "negativeZeroDoubleBits"), (21, u "max"), (46, u "$assertionsDisabled"), (0, u "Z"), (88, u "(II)I"), (2, u "twoToTheDoubleScaleDown"), (0, u "D"), (4, u "twoToTheDoubleScaleUp"), (9, u "E"), (3, u "PI"), (2, u "TAU"), (2, u "DEGREES_TO_RADIANS"), (0, u "RADIANS_TO_DEGREES")] 94

def k18m0 : Method := { name := "<init>", desc := "()V", sig := { parameters := [], returnType := none }, accessFlags := 2, code := none }
def k18c1 : Code := { maxStack := 2, maxLocals := 2, code := jdk_29_method_65_code, exceptionTable := #[], attributes := #[] }
def k18m1 : Method := { name := "max", desc := "(II)I", sig := { parameters := [.int, .int], returnType := some .int }, accessFlags := 9, code := some k18c1 }
/-- java/lang/Math -/
def k18 : Class := { plain "java/lang/Math" (some 0) with
  accessFlags := 49
  interfaces := #[]
  cf := some (fileOf pool18 1 #[.nestMembers #[98]] #[{ accessFlags := 2, nameIndex := 7, descriptorIndex := 8, attributes := #[] }, { accessFlags := 9, nameIndex := 198, descriptorIndex := 335, attributes := #[] }] 49 4 #[] #[{ accessFlags := 25, nameIndex := 354, descriptorIndex := 339, attributes := #[] }, { accessFlags := 25, nameIndex := 358, descriptorIndex := 339, attributes := #[] }, { accessFlags := 25, nameIndex := 361, descriptorIndex := 339, attributes := #[] }, { accessFlags := 26, nameIndex := 364, descriptorIndex := 339, attributes := #[] }, { accessFlags := 26, nameIndex := 365, descriptorIndex := 339, attributes := #[] }, { accessFlags := 26, nameIndex := 172, descriptorIndex := 173, attributes := #[] }, { accessFlags := 26, nameIndex := 176, descriptorIndex := 173, attributes := #[] }, { accessFlags := 8, nameIndex := 344, descriptorIndex := 339, attributes := #[] }, { accessFlags := 8, nameIndex := 338, descriptorIndex := 339, attributes := #[] }, { accessFlags := 4120, nameIndex := 245, descriptorIndex := 246, attributes := #[] }])
  fields := #[{ name := "E", type := .double, accessFlags := 25, slot := 0, constantValue := 0 }, { name := "PI", type := .double, accessFlags := 25, slot := 1, constantValue := 0 }, { name := "TAU", type := .double, accessFlags := 25, slot := 2, constantValue := 0 }, { name := "DEGREES_TO_RADIANS", type := .double, accessFlags := 26, slot := 3, constantValue := 0 }, { name := "RADIANS_TO_DEGREES", type := .double, accessFlags := 26, slot := 4, constantValue := 0 }, { name := "negativeZeroFloatBits", type := .long, accessFlags := 26, slot := 5, constantValue := 0 }, { name := "negativeZeroDoubleBits", type := .long, accessFlags := 26, slot := 6, constantValue := 0 }, { name := "twoToTheDoubleScaleUp", type := .double, accessFlags := 8, slot := 7, constantValue := 0 }, { name := "twoToTheDoubleScaleDown", type := .double, accessFlags := 8, slot := 8, constantValue := 0 }, { name := "$assertionsDisabled", type := .boolean, accessFlags := 4120, slot := 9, constantValue := 0 }]
  methods := #[k18m0, k18m1]
  instanceTypes := #[]
  staticTypes := #[.double, .double, .double, .double, .double, .long, .long, .double, .double, .boolean]
  resolved := Array.replicate 460 none
  statics := none }

def pool19 : Array CpInfo := pool [(1, .invokeDynamic 0 2), (0, .nameAndType 3 4), (0, u "test"), (0, u "()Ljava/util/function/Predicate;"), (0, .methodref 6 7), (0, .class_ 8), (0, .nameAndType 9 10), (0, u "com/example/copse/copse/HangingTree"), (0, u "<init>"), (0, u "(IILjava/util/Collection;Ljava/util/function/Predicate;)V"), (0, .methodref 12 13), (0, .class_ 14), (0, .nameAndType 9 15), (0, u "java/lang/Object"), (0, u "()V"), (0, .fieldref 6 17), (0, .nameAndType 18 19), (0, u "size"), (0, u "I"), (0, .fieldref 6 21), (0, .nameAndType 22 19), (0, u "root"), (0, .class_ 24), (0, u "com/example/copse/copse/Arc"), (0, .fieldref 6 26), (0, .nameAndType 27 28), (0, u "hangsOn"), (0, u "[Lcom/example/copse/copse/Arc;"), (0, .fieldref 6 30), (0, .nameAndType 31 32), (0, u "children"), (0, u "[I"), (0, .fieldref 6 34), (0, .nameAndType 35 36), (0, u "kept"), (0, u "[Z"), (0, .fieldref 6 38), (0, .nameAndType 39 32), (0, u "firstChild"), (0, .fieldref 6 41), (0, .nameAndType 42 32), (0, u "nextSibling"), (0, .fieldref 6 44), (0, .nameAndType 45 32), (0, u "previousSibling"), (0, .fieldref 6 47), (0, .nameAndType 48 49), (0, u "twinned"), (0, u "Ljava/util/function/Predicate;"), (0, .fieldref 6 51), (0, .nameAndType 52 36), (0, u "turns"), (0, .fieldref 6 54), (0, .nameAndType 55 36), (0, u "inside"), (0, .fieldref 6 57), (0, .nameAndType 58 32), (0, u "joinable"), (0, .fieldref 6 60), (0, .nameAndType 61 36), (0, u "isJoinable"), (0, .fieldref 6 63), (0, .nameAndType 64 32), (0, u "rest"), (0, .fieldref 6 66), (0, .nameAndType 67 36), (0, u "isRest"), (0, .fieldref 6 69), (0, .nameAndType 70 71), (0, u "noCheaperPathAt"), (0, u "[J"), (0, .interfaceMethodref 73 74), (0, .class_ 75), (0, .nameAndType 76 77), (0, u "java/util/Collection"), (0, u "iterator"), (0, u "()Ljava/util/Iterator;"), (0, .interfaceMethodref 79 80), (0, .class_ 81), (0, .nameAndType 82 83), (0, u "java/util/Iterator"), (0, u "hasNext"), (0, u "()Z"), (0, .interfaceMethodref 79 85), (0, .nameAndType 86 87), (0, u "next"), (0, u "()Ljava/lang/Object;"), (0, .class_ 89), (0, u "java/lang/Integer"), (0, .methodref 88 91), (0, .nameAndType 92 93), (0, u "intValue"), (0, u "()I"), (0, .methodref 23 95), (0, .nameAndType 96 93), (0, u "head"), (0, .methodref 23 98), (0, .nameAndType 99 93), (0, u "tail"), (0, .interfaceMethodref 101 102), (0, .class_ 103), (0, .nameAndType 3 104), (0, u "java/util/function/Predicate"), (0, u "(Ljava/lang/Object;)Z"), (0, .fieldref 6 106), (0, .nameAndType 107 108), (0, u "changes"), (0, u "J"), (0, .methodref 6 110), (0, .nameAndType 111 112), (0, u "countChildren"), (0, u "(II)V"), (0, .fieldref 6 114), (0, .nameAndType 115 116), (0, u "forest"), (0, u "Lcom/example/copse/copse/LinkCutForest;"), (8, u "hang"), (27, u "(I)Z"), (43, u "(Lcom/example/copse/copse/Arc;)V"), (31, u "contains"), (40, u "(IILjava/util/Collection;)V"), (22, u "lambda$new$0"), (0, u "(Lcom/example/copse/copse/Arc;)Z"), (3, .methodType 104), (0, .methodHandle 6 300), (0, .methodref 6 301), (0, .nameAndType 293 294), (0, .methodType 294), (16, .methodHandle 6 320), (0, .methodref 321 322), (0, .class_ 323), (0, .nameAndType 324 325), (0, u "java/lang/invoke/LambdaMetafactory"), (0, u "metafactory"), (0, u "(Ljava/lang/invoke/MethodHandles$Lookup;Ljava/lang/String;Ljava/lang/invoke/MethodType;Ljava/lang/invoke/MethodType;Ljava/lang/invoke/MethodHandle;Ljava/lang/invoke/MethodType;)Ljava/lang/invoke/CallSite;")] 6

def k19c0 : Code := { maxStack := 5, maxLocals := 4, code := prog_20_method_1_code, exceptionTable := #[], attributes := #[] }
def k19m0 : Method := { name := "<init>", desc := "(IILjava/util/Collection;)V", sig := { parameters := [.int, .int, (.object "java/util/Collection")], returnType := none }, accessFlags := 0, code := some k19c0 }
def k19c1 : Code := { maxStack := 3, maxLocals := 7, code := prog_20_method_2_code, exceptionTable := #[], attributes := #[] }
def k19m1 : Method := { name := "<init>", desc := "(IILjava/util/Collection;Ljava/util/function/Predicate;)V", sig := { parameters := [.int, .int, (.object "java/util/Collection"), (.object "java/util/function/Predicate")], returnType := none }, accessFlags := 0, code := some k19c1 }
def k19c2 : Code := { maxStack := 2, maxLocals := 2, code := prog_20_method_3_code, exceptionTable := #[], attributes := #[] }
def k19m2 : Method := { name := "contains", desc := "(I)Z", sig := { parameters := [.int], returnType := some .boolean }, accessFlags := 0, code := some k19c2 }
def k19c3 : Code := { maxStack := 5, maxLocals := 4, code := prog_20_method_4_code, exceptionTable := #[], attributes := #[] }
def k19m3 : Method := { name := "hang", desc := "(Lcom/example/copse/copse/Arc;)V", sig := { parameters := [(.object "com/example/copse/copse/Arc")], returnType := none }, accessFlags := 0, code := some k19c3 }
def k19c4 : Code := { maxStack := 4, maxLocals := 3, code := prog_20_method_18_code, exceptionTable := #[], attributes := #[] }
def k19m4 : Method := { name := "countChildren", desc := "(II)V", sig := { parameters := [.int, .int], returnType := none }, accessFlags := 2, code := some k19c4 }
def k19c5 : Code := { maxStack := 1, maxLocals := 1, code := prog_20_method_27_code, exceptionTable := #[], attributes := #[] }
def k19m5 : Method := { name := "lambda$new$0", desc := "(Lcom/example/copse/copse/Arc;)Z", sig := { parameters := [(.object "com/example/copse/copse/Arc")], returnType := some .boolean }, accessFlags := 4106, code := some k19c5 }
/-- com/example/copse/copse/HangingTree -/
def k19 : Class := { plain "com/example/copse/copse/HangingTree" (some 0) with
  accessFlags := 32
  interfaces := #[]
  cf := some (fileOf pool19 6 #[.bootstrapMethods #[⟨319, #[298, 299, 302]⟩, ⟨0, #[]⟩, ⟨0, #[]⟩, ⟨0, #[]⟩, ⟨0, #[]⟩, ⟨0, #[]⟩]] #[{ accessFlags := 0, nameIndex := 9, descriptorIndex := 270, attributes := #[] }, { accessFlags := 0, nameIndex := 9, descriptorIndex := 10, attributes := #[] }, { accessFlags := 0, nameIndex := 229, descriptorIndex := 153, attributes := #[] }, { accessFlags := 0, nameIndex := 125, descriptorIndex := 197, attributes := #[] }, { accessFlags := 2, nameIndex := 111, descriptorIndex := 112, attributes := #[] }, { accessFlags := 4106, nameIndex := 293, descriptorIndex := 294, attributes := #[] }] 32 12 #[] #[{ accessFlags := 18, nameIndex := 22, descriptorIndex := 19, attributes := #[] }, { accessFlags := 18, nameIndex := 27, descriptorIndex := 28, attributes := #[] }, { accessFlags := 18, nameIndex := 31, descriptorIndex := 32, attributes := #[] }, { accessFlags := 18, nameIndex := 35, descriptorIndex := 36, attributes := #[] }, { accessFlags := 18, nameIndex := 39, descriptorIndex := 32, attributes := #[] }, { accessFlags := 18, nameIndex := 42, descriptorIndex := 32, attributes := #[] }, { accessFlags := 18, nameIndex := 45, descriptorIndex := 32, attributes := #[] }, { accessFlags := 18, nameIndex := 48, descriptorIndex := 49, attributes := #[] }, { accessFlags := 18, nameIndex := 52, descriptorIndex := 36, attributes := #[] }, { accessFlags := 18, nameIndex := 55, descriptorIndex := 36, attributes := #[] }, { accessFlags := 18, nameIndex := 58, descriptorIndex := 32, attributes := #[] }, { accessFlags := 18, nameIndex := 61, descriptorIndex := 36, attributes := #[] }, { accessFlags := 18, nameIndex := 64, descriptorIndex := 32, attributes := #[] }, { accessFlags := 18, nameIndex := 67, descriptorIndex := 36, attributes := #[] }, { accessFlags := 2, nameIndex := 18, descriptorIndex := 19, attributes := #[] }, { accessFlags := 2, nameIndex := 107, descriptorIndex := 108, attributes := #[] }, { accessFlags := 18, nameIndex := 70, descriptorIndex := 71, attributes := #[] }, { accessFlags := 2, nameIndex := 115, descriptorIndex := 116, attributes := #[] }])
  fields := #[{ name := "root", type := .int, accessFlags := 18, slot := 0, constantValue := 0 }, { name := "hangsOn", type := (.array (.object "com/example/copse/copse/Arc")), accessFlags := 18, slot := 1, constantValue := 0 }, { name := "children", type := (.array .int), accessFlags := 18, slot := 2, constantValue := 0 }, { name := "kept", type := (.array .boolean), accessFlags := 18, slot := 3, constantValue := 0 }, { name := "firstChild", type := (.array .int), accessFlags := 18, slot := 4, constantValue := 0 }, { name := "nextSibling", type := (.array .int), accessFlags := 18, slot := 5, constantValue := 0 }, { name := "previousSibling", type := (.array .int), accessFlags := 18, slot := 6, constantValue := 0 }, { name := "twinned", type := (.object "java/util/function/Predicate"), accessFlags := 18, slot := 7, constantValue := 0 }, { name := "turns", type := (.array .boolean), accessFlags := 18, slot := 8, constantValue := 0 }, { name := "inside", type := (.array .boolean), accessFlags := 18, slot := 9, constantValue := 0 }, { name := "joinable", type := (.array .int), accessFlags := 18, slot := 10, constantValue := 0 }, { name := "isJoinable", type := (.array .boolean), accessFlags := 18, slot := 11, constantValue := 0 }, { name := "rest", type := (.array .int), accessFlags := 18, slot := 12, constantValue := 0 }, { name := "isRest", type := (.array .boolean), accessFlags := 18, slot := 13, constantValue := 0 }, { name := "size", type := .int, accessFlags := 2, slot := 14, constantValue := 0 }, { name := "changes", type := .long, accessFlags := 2, slot := 15, constantValue := 0 }, { name := "noCheaperPathAt", type := (.array .long), accessFlags := 18, slot := 16, constantValue := 0 }, { name := "forest", type := (.object "com/example/copse/copse/LinkCutForest"), accessFlags := 2, slot := 17, constantValue := 0 }]
  methods := #[k19m0, k19m1, k19m2, k19m3, k19m4, k19m5]
  instanceTypes := #[.int, (.array (.object "com/example/copse/copse/Arc")), (.array .int), (.array .boolean), (.array .int), (.array .int), (.array .int), (.object "java/util/function/Predicate"), (.array .boolean), (.array .boolean), (.array .int), (.array .boolean), (.array .int), (.array .boolean), .int, .long, (.array .long), (.object "com/example/copse/copse/LinkCutForest")]
  staticTypes := #[]
  resolved := Array.replicate 332 none
  callSites := [(0, 4, .constant 2)]
  statics := none }

def pool20 : Array CpInfo := pool [(9, u "test"), (12, .class_ 24), (1, u "java/util/function/Predicate"), (2, .class_ 29), (1, u "java/lang/Object"), (1, u "(Ljava/lang/Object;)Z")] 69

def k20m0 : Method := { name := "test", desc := "(Ljava/lang/Object;)Z", sig := { parameters := [(.object "java/lang/Object")], returnType := some .boolean }, accessFlags := 1025, code := none }
/-- java/util/function/Predicate -/
def k20 : Class := { plain "java/util/function/Predicate" (some 0) with
  accessFlags := 1537
  interfaces := #[]
  cf := some (fileOf pool20 22 #[] #[{ accessFlags := 1025, nameIndex := 9, descriptorIndex := 31, attributes := #[] }] 1537 27 #[] #[])
  fields := #[]
  methods := #[k20m0]
  instanceTypes := #[]
  staticTypes := #[]
  resolved := Array.replicate 101 none
  statics := none }

def pool21 : Array CpInfo := pool [(1, .methodref 2 3), (0, .class_ 4), (0, .nameAndType 5 6), (0, u "java/lang/Object"), (0, u "<init>"), (0, u "()V"), (0, .class_ 8), (0, u "java/lang/Record")] 13

def k21c0 : Code := { maxStack := 1, maxLocals := 1, code := jdk_30_method_1_code, exceptionTable := #[], attributes := #[] }
def k21m0 : Method := { name := "<init>", desc := "()V", sig := { parameters := [], returnType := none }, accessFlags := 4, code := some k21c0 }
/-- java/lang/Record -/
def k21 : Class := { plain "java/lang/Record" (some 0) with
  accessFlags := 1057
  interfaces := #[]
  cf := some (fileOf pool21 7 #[] #[{ accessFlags := 4, nameIndex := 5, descriptorIndex := 6, attributes := #[] }] 1057 2 #[] #[])
  fields := #[]
  methods := #[k21m0]
  instanceTypes := #[]
  staticTypes := #[]
  resolved := Array.replicate 22 none
  statics := none }

def pool22 : Array CpInfo := pool [(1, .methodref 2 3), (0, .class_ 4), (0, .nameAndType 5 6), (0, u "java/lang/Record"), (0, u "<init>"), (0, u "()V"), (12, .fieldref 20 21), (0, .class_ 22), (0, .nameAndType 23 24), (0, u "com/example/copse/copse/Arc"), (0, u "tail"), (0, u "I"), (0, .fieldref 20 26), (0, .nameAndType 27 24), (0, u "head"), (0, .fieldref 20 29), (0, .nameAndType 30 31), (0, u "weight"), (0, u "J"), (8, u "(IIJ)V"), (8, u "()I")] 38

def k22c0 : Code := { maxStack := 4, maxLocals := 5, code := prog_4_method_1_code, exceptionTable := #[], attributes := #[] }
def k22m0 : Method := { name := "<init>", desc := "(IIJ)V", sig := { parameters := [.int, .int, .long], returnType := none }, accessFlags := 1, code := some k22c0 }
def k22c1 : Code := { maxStack := 1, maxLocals := 1, code := prog_4_method_6_code, exceptionTable := #[], attributes := #[] }
def k22m1 : Method := { name := "tail", desc := "()I", sig := { parameters := [], returnType := some .int }, accessFlags := 1, code := some k22c1 }
def k22c2 : Code := { maxStack := 1, maxLocals := 1, code := prog_4_method_7_code, exceptionTable := #[], attributes := #[] }
def k22m2 : Method := { name := "head", desc := "()I", sig := { parameters := [], returnType := some .int }, accessFlags := 1, code := some k22c2 }
/-- com/example/copse/copse/Arc -/
def k22 : Class := { plain "com/example/copse/copse/Arc" (some 21) with
  accessFlags := 49
  interfaces := #[]
  cf := some (fileOf pool22 20 #[] #[{ accessFlags := 1, nameIndex := 5, descriptorIndex := 40, attributes := #[] }, { accessFlags := 1, nameIndex := 23, descriptorIndex := 49, attributes := #[] }, { accessFlags := 1, nameIndex := 27, descriptorIndex := 49, attributes := #[] }] 49 2 #[] #[{ accessFlags := 18, nameIndex := 23, descriptorIndex := 24, attributes := #[] }, { accessFlags := 18, nameIndex := 27, descriptorIndex := 24, attributes := #[] }, { accessFlags := 18, nameIndex := 30, descriptorIndex := 31, attributes := #[] }])
  fields := #[{ name := "tail", type := .int, accessFlags := 18, slot := 0, constantValue := 0 }, { name := "head", type := .int, accessFlags := 18, slot := 1, constantValue := 0 }, { name := "weight", type := .long, accessFlags := 18, slot := 2, constantValue := 0 }]
  methods := #[k22m0, k22m1, k22m2]
  instanceTypes := #[.int, .int, .long]
  staticTypes := #[]
  resolved := Array.replicate 88 none
  statics := none }

def pool23 : Array CpInfo := pool [(16, .class_ 18), (1, u "java/util/Iterator"), (0, u "hasNext"), (0, u "()Z"), (2, u "next"), (0, u "()Ljava/lang/Object;"), (6, .class_ 32), (0, u "java/lang/Object")] 20

def k23m0 : Method := { name := "hasNext", desc := "()Z", sig := { parameters := [], returnType := some .boolean }, accessFlags := 1025, code := none }
def k23m1 : Method := { name := "next", desc := "()Ljava/lang/Object;", sig := { parameters := [], returnType := some (.object "java/lang/Object") }, accessFlags := 1025, code := none }
/-- java/util/Iterator -/
def k23 : Class := { plain "java/util/Iterator" (some 0) with
  accessFlags := 1537
  interfaces := #[]
  cf := some (fileOf pool23 16 #[] #[{ accessFlags := 1025, nameIndex := 19, descriptorIndex := 20, attributes := #[] }, { accessFlags := 1025, nameIndex := 23, descriptorIndex := 24, attributes := #[] }] 1537 31 #[] #[])
  fields := #[]
  methods := #[k23m0, k23m1]
  instanceTypes := #[]
  staticTypes := #[]
  resolved := Array.replicate 53 none
  statics := none }

def pool24 : Array CpInfo := pool [(1, .fieldref 2 3), (0, .class_ 4), (0, .nameAndType 5 6), (0, u "java/util/ArrayList$Itr"), (0, u "this$0"), (0, u "Ljava/util/ArrayList;"), (0, .methodref 8 9), (0, .class_ 10), (0, .nameAndType 11 12), (0, u "java/lang/Object"), (0, u "<init>"), (0, u "()V"), (0, .fieldref 2 14), (0, .nameAndType 15 16), (0, u "lastRet"), (0, u "I"), (0, .fieldref 18 19), (0, .class_ 20), (0, .nameAndType 21 16), (0, u "java/util/ArrayList"), (0, u "modCount"), (0, .fieldref 2 23), (0, .nameAndType 24 16), (0, u "expectedModCount"), (0, .fieldref 2 26), (0, .nameAndType 27 16), (0, u "cursor"), (0, .fieldref 18 29), (0, .nameAndType 30 16), (0, u "size"), (0, .methodref 2 32), (0, .nameAndType 33 12), (0, u "checkForComodification"), (3, .fieldref 18 38), (0, .nameAndType 39 40), (0, u "elementData"), (0, u "[Ljava/lang/Object;"), (28, .class_ 70), (0, u "java/util/Iterator"), (0, u "(Ljava/util/ArrayList;)V"), (8, u "hasNext"), (0, u "()Z"), (1, u "next"), (0, u "()Ljava/lang/Object;")] 19

def k24c0 : Code := { maxStack := 2, maxLocals := 2, code := jdk_49_method_1_code, exceptionTable := #[], attributes := #[] }
def k24m0 : Method := { name := "<init>", desc := "(Ljava/util/ArrayList;)V", sig := { parameters := [(.object "java/util/ArrayList")], returnType := none }, accessFlags := 0, code := some k24c0 }
def k24c1 : Code := { maxStack := 2, maxLocals := 1, code := jdk_49_method_2_code, exceptionTable := #[], attributes := #[] }
def k24m1 : Method := { name := "hasNext", desc := "()Z", sig := { parameters := [], returnType := some .boolean }, accessFlags := 1, code := some k24c1 }
def k24c2 : Code := { maxStack := 4, maxLocals := 3, code := jdk_49_method_3_code, exceptionTable := #[], attributes := #[] }
def k24m2 : Method := { name := "next", desc := "()Ljava/lang/Object;", sig := { parameters := [], returnType := some (.object "java/lang/Object") }, accessFlags := 1, code := some k24c2 }
def k24c3 : Code := { maxStack := 2, maxLocals := 1, code := jdk_49_method_6_code, exceptionTable := #[], attributes := #[] }
def k24m3 : Method := { name := "checkForComodification", desc := "()V", sig := { parameters := [], returnType := none }, accessFlags := 16, code := some k24c3 }
/-- java/util/ArrayList$Itr -/
def k24 : Class := { plain "java/util/ArrayList$Itr" (some 0) with
  accessFlags := 32
  interfaces := #[23]
  cf := some (fileOf pool24 2 #[.nestHost 18] #[{ accessFlags := 0, nameIndex := 11, descriptorIndex := 71, attributes := #[] }, { accessFlags := 1, nameIndex := 80, descriptorIndex := 81, attributes := #[] }, { accessFlags := 1, nameIndex := 83, descriptorIndex := 84, attributes := #[] }, { accessFlags := 16, nameIndex := 33, descriptorIndex := 12, attributes := #[] }] 32 8 #[69] #[{ accessFlags := 0, nameIndex := 27, descriptorIndex := 16, attributes := #[] }, { accessFlags := 0, nameIndex := 15, descriptorIndex := 16, attributes := #[] }, { accessFlags := 0, nameIndex := 24, descriptorIndex := 16, attributes := #[] }, { accessFlags := 4112, nameIndex := 5, descriptorIndex := 6, attributes := #[] }])
  fields := #[{ name := "cursor", type := .int, accessFlags := 0, slot := 0, constantValue := 0 }, { name := "lastRet", type := .int, accessFlags := 0, slot := 1, constantValue := 0 }, { name := "expectedModCount", type := .int, accessFlags := 0, slot := 2, constantValue := 0 }, { name := "this$0", type := (.object "java/util/ArrayList"), accessFlags := 4112, slot := 3, constantValue := 0 }]
  methods := #[k24m0, k24m1, k24m2, k24m3]
  instanceTypes := #[.int, .int, .int, (.object "java/util/ArrayList")]
  staticTypes := #[]
  resolved := Array.replicate 104 none
  statics := none }

/-- the primitive boolean -/
def k25 : Class := { plain "boolean" none with kind := .primitive 'Z', accessFlags := 0x411 }
/-- [Z -/
def k26 : Class := { plain "[Z" (some 0) with kind := .array 25 .boolean, interfaces := #[9, 10], accessFlags := 1041 }

/-- the primitive byte -/
def k27 : Class := { plain "byte" none with kind := .primitive 'B', accessFlags := 0x411 }
/-- [B -/
def k28 : Class := { plain "[B" (some 0) with kind := .array 27 .byte, interfaces := #[9, 10], accessFlags := 1041 }

/-- the primitive int -/
def k29 : Class := { plain "int" none with kind := .primitive 'I', accessFlags := 0x411 }
/-- [I -/
def k30 : Class := { plain "[I" (some 0) with kind := .array 29 .int, interfaces := #[9, 10], accessFlags := 1041 }

/-- the primitive long -/
def k31 : Class := { plain "long" none with kind := .primitive 'J', accessFlags := 0x411 }
/-- [J -/
def k32 : Class := { plain "[J" (some 0) with kind := .array 31 .long, interfaces := #[9, 10], accessFlags := 1041 }

/-- [Lcom/example/copse/copse/Arc; -/
def k33 : Class := { plain "[Lcom/example/copse/copse/Arc;" (some 0) with kind := .array 22 (.object "com/example/copse/copse/Arc"), interfaces := #[9, 10], accessFlags := 1041 }

/-- [Ljava/lang/Integer; -/
def k34 : Class := { plain "[Ljava/lang/Integer;" (some 0) with kind := .array 16 (.object "java/lang/Integer"), interfaces := #[9, 10], accessFlags := 1041 }

/-- [Ljava/lang/Object; -/
def k35 : Class := { plain "[Ljava/lang/Object;" (some 0) with kind := .array 0 (.object "java/lang/Object"), interfaces := #[9, 10], accessFlags := 1041 }

def classes0 : Array Class := #[k0, k1, k2, k3, k4, k5, k6, k7, k8, k9, k10, k11, k12, k13, k14, k15, k16, k17, k18, k19, k20, k21, k22, k23, k24, k25, k26, k27, k28, k29, k30, k31, k32, k33, k34, k35]
/-- the class that the rule has made for the site at 4 of com/example/copse/copse/HangingTree.<init> -/
def k36 : Class := Jvm.LamKit.madeRec { classes := classes0 } "com/example/copse/copse/HangingTree" (Jvm.Lambda.Shape.mk "java/util/function/Predicate" "test" (Jvm.ClassFile.MethodDescriptor.mk ([(Jvm.ClassFile.FieldType.object "java/lang/Object")] : List Jvm.ClassFile.FieldType) (Option.some Jvm.ClassFile.FieldType.boolean)) ([] : List Jvm.ClassFile.FieldType) (6 : Nat) "com/example/copse/copse/HangingTree" "lambda$new$0" (Jvm.ClassFile.MethodDescriptor.mk ([(Jvm.ClassFile.FieldType.object "com/example/copse/copse/Arc")] : List Jvm.ClassFile.FieldType) (Option.some Jvm.ClassFile.FieldType.boolean)) false (Jvm.ClassFile.MethodDescriptor.mk ([(Jvm.ClassFile.FieldType.object "com/example/copse/copse/Arc")] : List Jvm.ClassFile.FieldType) (Option.some Jvm.ClassFile.FieldType.boolean))) 36

def heap : Heap := #[{ cls := 11, slots := #[.long 0, .int 0, .ref 260, .ref 261], vm := .statics 11 },
  { cls := 17, slots := #[.int 0, .int 127, .ref 3, .null, .int 0], vm := .statics 17 },
  { cls := 36, slots := #[], vm := .none },
  { cls := 34, slots := #[.ref 4, .ref 5, .ref 6, .ref 7, .ref 8, .ref 9, .ref 10, .ref 11, .ref 12, .ref 13, .ref 14, .ref 15, .ref 16, .ref 17, .ref 18, .ref 19, .ref 20, .ref 21, .ref 22, .ref 23, .ref 24, .ref 25, .ref 26, .ref 27, .ref 28, .ref 29, .ref 30, .ref 31, .ref 32, .ref 33, .ref 34, .ref 35, .ref 36, .ref 37, .ref 38, .ref 39, .ref 40, .ref 41, .ref 42, .ref 43, .ref 44, .ref 45, .ref 46, .ref 47, .ref 48, .ref 49, .ref 50, .ref 51, .ref 52, .ref 53, .ref 54, .ref 55, .ref 56, .ref 57, .ref 58, .ref 59, .ref 60, .ref 61, .ref 62, .ref 63, .ref 64, .ref 65, .ref 66, .ref 67, .ref 68, .ref 69, .ref 70, .ref 71, .ref 72, .ref 73, .ref 74, .ref 75, .ref 76, .ref 77, .ref 78, .ref 79, .ref 80, .ref 81, .ref 82, .ref 83, .ref 84, .ref 85, .ref 86, .ref 87, .ref 88, .ref 89, .ref 90, .ref 91, .ref 92, .ref 93, .ref 94, .ref 95, .ref 96, .ref 97, .ref 98, .ref 99, .ref 100, .ref 101, .ref 102, .ref 103, .ref 104, .ref 105, .ref 106, .ref 107, .ref 108, .ref 109, .ref 110, .ref 111, .ref 112, .ref 113, .ref 114, .ref 115, .ref 116, .ref 117, .ref 118, .ref 119, .ref 120, .ref 121, .ref 122, .ref 123, .ref 124, .ref 125, .ref 126, .ref 127, .ref 128, .ref 129, .ref 130, .ref 131, .ref 132, .ref 133, .ref 134, .ref 135, .ref 136, .ref 137, .ref 138, .ref 139, .ref 140, .ref 141, .ref 142, .ref 143, .ref 144, .ref 145, .ref 146, .ref 147, .ref 148, .ref 149, .ref 150, .ref 151, .ref 152, .ref 153, .ref 154, .ref 155, .ref 156, .ref 157, .ref 158, .ref 159, .ref 160, .ref 161, .ref 162, .ref 163, .ref 164, .ref 165, .ref 166, .ref 167, .ref 168, .ref 169, .ref 170, .ref 171, .ref 172, .ref 173, .ref 174, .ref 175, .ref 176, .ref 177, .ref 178, .ref 179, .ref 180, .ref 181, .ref 182, .ref 183, .ref 184, .ref 185, .ref 186, .ref 187, .ref 188, .ref 189, .ref 190, .ref 191, .ref 192, .ref 193, .ref 194, .ref 195, .ref 196, .ref 197, .ref 198, .ref 199, .ref 200, .ref 201, .ref 202, .ref 203, .ref 204, .ref 205, .ref 206, .ref 207, .ref 208, .ref 209, .ref 210, .ref 211, .ref 212, .ref 213, .ref 214, .ref 215, .ref 216, .ref 217, .ref 218, .ref 219, .ref 220, .ref 221, .ref 222, .ref 223, .ref 224, .ref 225, .ref 226, .ref 227, .ref 228, .ref 229, .ref 230, .ref 231, .ref 232, .ref 233, .ref 234, .ref 235, .ref 236, .ref 237, .ref 238, .ref 239, .ref 240, .ref 241, .ref 242, .ref 243, .ref 244, .ref 245, .ref 246, .ref 247, .ref 248, .ref 249, .ref 250, .ref 251, .ref 252, .ref 253, .ref 254, .ref 255, .ref 256, .ref 257, .ref 258, .ref 259], vm := .none },
  { cls := 16, slots := #[.int (-128)], vm := .none },
  { cls := 16, slots := #[.int (-127)], vm := .none },
  { cls := 16, slots := #[.int (-126)], vm := .none },
  { cls := 16, slots := #[.int (-125)], vm := .none },
  { cls := 16, slots := #[.int (-124)], vm := .none },
  { cls := 16, slots := #[.int (-123)], vm := .none },
  { cls := 16, slots := #[.int (-122)], vm := .none },
  { cls := 16, slots := #[.int (-121)], vm := .none },
  { cls := 16, slots := #[.int (-120)], vm := .none },
  { cls := 16, slots := #[.int (-119)], vm := .none },
  { cls := 16, slots := #[.int (-118)], vm := .none },
  { cls := 16, slots := #[.int (-117)], vm := .none },
  { cls := 16, slots := #[.int (-116)], vm := .none },
  { cls := 16, slots := #[.int (-115)], vm := .none },
  { cls := 16, slots := #[.int (-114)], vm := .none },
  { cls := 16, slots := #[.int (-113)], vm := .none },
  { cls := 16, slots := #[.int (-112)], vm := .none },
  { cls := 16, slots := #[.int (-111)], vm := .none },
  { cls := 16, slots := #[.int (-110)], vm := .none },
  { cls := 16, slots := #[.int (-109)], vm := .none },
  { cls := 16, slots := #[.int (-108)], vm := .none },
  { cls := 16, slots := #[.int (-107)], vm := .none },
  { cls := 16, slots := #[.int (-106)], vm := .none },
  { cls := 16, slots := #[.int (-105)], vm := .none },
  { cls := 16, slots := #[.int (-104)], vm := .none },
  { cls := 16, slots := #[.int (-103)], vm := .none },
  { cls := 16, slots := #[.int (-102)], vm := .none },
  { cls := 16, slots := #[.int (-101)], vm := .none },
  { cls := 16, slots := #[.int (-100)], vm := .none },
  { cls := 16, slots := #[.int (-99)], vm := .none },
  { cls := 16, slots := #[.int (-98)], vm := .none },
  { cls := 16, slots := #[.int (-97)], vm := .none },
  { cls := 16, slots := #[.int (-96)], vm := .none },
  { cls := 16, slots := #[.int (-95)], vm := .none },
  { cls := 16, slots := #[.int (-94)], vm := .none },
  { cls := 16, slots := #[.int (-93)], vm := .none },
  { cls := 16, slots := #[.int (-92)], vm := .none },
  { cls := 16, slots := #[.int (-91)], vm := .none },
  { cls := 16, slots := #[.int (-90)], vm := .none },
  { cls := 16, slots := #[.int (-89)], vm := .none },
  { cls := 16, slots := #[.int (-88)], vm := .none },
  { cls := 16, slots := #[.int (-87)], vm := .none },
  { cls := 16, slots := #[.int (-86)], vm := .none },
  { cls := 16, slots := #[.int (-85)], vm := .none },
  { cls := 16, slots := #[.int (-84)], vm := .none },
  { cls := 16, slots := #[.int (-83)], vm := .none },
  { cls := 16, slots := #[.int (-82)], vm := .none },
  { cls := 16, slots := #[.int (-81)], vm := .none },
  { cls := 16, slots := #[.int (-80)], vm := .none },
  { cls := 16, slots := #[.int (-79)], vm := .none },
  { cls := 16, slots := #[.int (-78)], vm := .none },
  { cls := 16, slots := #[.int (-77)], vm := .none },
  { cls := 16, slots := #[.int (-76)], vm := .none },
  { cls := 16, slots := #[.int (-75)], vm := .none },
  { cls := 16, slots := #[.int (-74)], vm := .none },
  { cls := 16, slots := #[.int (-73)], vm := .none },
  { cls := 16, slots := #[.int (-72)], vm := .none },
  { cls := 16, slots := #[.int (-71)], vm := .none },
  { cls := 16, slots := #[.int (-70)], vm := .none },
  { cls := 16, slots := #[.int (-69)], vm := .none },
  { cls := 16, slots := #[.int (-68)], vm := .none },
  { cls := 16, slots := #[.int (-67)], vm := .none },
  { cls := 16, slots := #[.int (-66)], vm := .none },
  { cls := 16, slots := #[.int (-65)], vm := .none },
  { cls := 16, slots := #[.int (-64)], vm := .none },
  { cls := 16, slots := #[.int (-63)], vm := .none },
  { cls := 16, slots := #[.int (-62)], vm := .none },
  { cls := 16, slots := #[.int (-61)], vm := .none },
  { cls := 16, slots := #[.int (-60)], vm := .none },
  { cls := 16, slots := #[.int (-59)], vm := .none },
  { cls := 16, slots := #[.int (-58)], vm := .none },
  { cls := 16, slots := #[.int (-57)], vm := .none },
  { cls := 16, slots := #[.int (-56)], vm := .none },
  { cls := 16, slots := #[.int (-55)], vm := .none },
  { cls := 16, slots := #[.int (-54)], vm := .none },
  { cls := 16, slots := #[.int (-53)], vm := .none },
  { cls := 16, slots := #[.int (-52)], vm := .none },
  { cls := 16, slots := #[.int (-51)], vm := .none },
  { cls := 16, slots := #[.int (-50)], vm := .none },
  { cls := 16, slots := #[.int (-49)], vm := .none },
  { cls := 16, slots := #[.int (-48)], vm := .none },
  { cls := 16, slots := #[.int (-47)], vm := .none },
  { cls := 16, slots := #[.int (-46)], vm := .none },
  { cls := 16, slots := #[.int (-45)], vm := .none },
  { cls := 16, slots := #[.int (-44)], vm := .none },
  { cls := 16, slots := #[.int (-43)], vm := .none },
  { cls := 16, slots := #[.int (-42)], vm := .none },
  { cls := 16, slots := #[.int (-41)], vm := .none },
  { cls := 16, slots := #[.int (-40)], vm := .none },
  { cls := 16, slots := #[.int (-39)], vm := .none },
  { cls := 16, slots := #[.int (-38)], vm := .none },
  { cls := 16, slots := #[.int (-37)], vm := .none },
  { cls := 16, slots := #[.int (-36)], vm := .none },
  { cls := 16, slots := #[.int (-35)], vm := .none },
  { cls := 16, slots := #[.int (-34)], vm := .none },
  { cls := 16, slots := #[.int (-33)], vm := .none },
  { cls := 16, slots := #[.int (-32)], vm := .none },
  { cls := 16, slots := #[.int (-31)], vm := .none },
  { cls := 16, slots := #[.int (-30)], vm := .none },
  { cls := 16, slots := #[.int (-29)], vm := .none },
  { cls := 16, slots := #[.int (-28)], vm := .none },
  { cls := 16, slots := #[.int (-27)], vm := .none },
  { cls := 16, slots := #[.int (-26)], vm := .none },
  { cls := 16, slots := #[.int (-25)], vm := .none },
  { cls := 16, slots := #[.int (-24)], vm := .none },
  { cls := 16, slots := #[.int (-23)], vm := .none },
  { cls := 16, slots := #[.int (-22)], vm := .none },
  { cls := 16, slots := #[.int (-21)], vm := .none },
  { cls := 16, slots := #[.int (-20)], vm := .none },
  { cls := 16, slots := #[.int (-19)], vm := .none },
  { cls := 16, slots := #[.int (-18)], vm := .none },
  { cls := 16, slots := #[.int (-17)], vm := .none },
  { cls := 16, slots := #[.int (-16)], vm := .none },
  { cls := 16, slots := #[.int (-15)], vm := .none },
  { cls := 16, slots := #[.int (-14)], vm := .none },
  { cls := 16, slots := #[.int (-13)], vm := .none },
  { cls := 16, slots := #[.int (-12)], vm := .none },
  { cls := 16, slots := #[.int (-11)], vm := .none },
  { cls := 16, slots := #[.int (-10)], vm := .none },
  { cls := 16, slots := #[.int (-9)], vm := .none },
  { cls := 16, slots := #[.int (-8)], vm := .none },
  { cls := 16, slots := #[.int (-7)], vm := .none },
  { cls := 16, slots := #[.int (-6)], vm := .none },
  { cls := 16, slots := #[.int (-5)], vm := .none },
  { cls := 16, slots := #[.int (-4)], vm := .none },
  { cls := 16, slots := #[.int (-3)], vm := .none },
  { cls := 16, slots := #[.int (-2)], vm := .none },
  { cls := 16, slots := #[.int (-1)], vm := .none },
  { cls := 16, slots := #[.int 0], vm := .none },
  { cls := 16, slots := #[.int 1], vm := .none },
  { cls := 16, slots := #[.int 2], vm := .none },
  { cls := 16, slots := #[.int 3], vm := .none },
  { cls := 16, slots := #[.int 4], vm := .none },
  { cls := 16, slots := #[.int 5], vm := .none },
  { cls := 16, slots := #[.int 6], vm := .none },
  { cls := 16, slots := #[.int 7], vm := .none },
  { cls := 16, slots := #[.int 8], vm := .none },
  { cls := 16, slots := #[.int 9], vm := .none },
  { cls := 16, slots := #[.int 10], vm := .none },
  { cls := 16, slots := #[.int 11], vm := .none },
  { cls := 16, slots := #[.int 12], vm := .none },
  { cls := 16, slots := #[.int 13], vm := .none },
  { cls := 16, slots := #[.int 14], vm := .none },
  { cls := 16, slots := #[.int 15], vm := .none },
  { cls := 16, slots := #[.int 16], vm := .none },
  { cls := 16, slots := #[.int 17], vm := .none },
  { cls := 16, slots := #[.int 18], vm := .none },
  { cls := 16, slots := #[.int 19], vm := .none },
  { cls := 16, slots := #[.int 20], vm := .none },
  { cls := 16, slots := #[.int 21], vm := .none },
  { cls := 16, slots := #[.int 22], vm := .none },
  { cls := 16, slots := #[.int 23], vm := .none },
  { cls := 16, slots := #[.int 24], vm := .none },
  { cls := 16, slots := #[.int 25], vm := .none },
  { cls := 16, slots := #[.int 26], vm := .none },
  { cls := 16, slots := #[.int 27], vm := .none },
  { cls := 16, slots := #[.int 28], vm := .none },
  { cls := 16, slots := #[.int 29], vm := .none },
  { cls := 16, slots := #[.int 30], vm := .none },
  { cls := 16, slots := #[.int 31], vm := .none },
  { cls := 16, slots := #[.int 32], vm := .none },
  { cls := 16, slots := #[.int 33], vm := .none },
  { cls := 16, slots := #[.int 34], vm := .none },
  { cls := 16, slots := #[.int 35], vm := .none },
  { cls := 16, slots := #[.int 36], vm := .none },
  { cls := 16, slots := #[.int 37], vm := .none },
  { cls := 16, slots := #[.int 38], vm := .none },
  { cls := 16, slots := #[.int 39], vm := .none },
  { cls := 16, slots := #[.int 40], vm := .none },
  { cls := 16, slots := #[.int 41], vm := .none },
  { cls := 16, slots := #[.int 42], vm := .none },
  { cls := 16, slots := #[.int 43], vm := .none },
  { cls := 16, slots := #[.int 44], vm := .none },
  { cls := 16, slots := #[.int 45], vm := .none },
  { cls := 16, slots := #[.int 46], vm := .none },
  { cls := 16, slots := #[.int 47], vm := .none },
  { cls := 16, slots := #[.int 48], vm := .none },
  { cls := 16, slots := #[.int 49], vm := .none },
  { cls := 16, slots := #[.int 50], vm := .none },
  { cls := 16, slots := #[.int 51], vm := .none },
  { cls := 16, slots := #[.int 52], vm := .none },
  { cls := 16, slots := #[.int 53], vm := .none },
  { cls := 16, slots := #[.int 54], vm := .none },
  { cls := 16, slots := #[.int 55], vm := .none },
  { cls := 16, slots := #[.int 56], vm := .none },
  { cls := 16, slots := #[.int 57], vm := .none },
  { cls := 16, slots := #[.int 58], vm := .none },
  { cls := 16, slots := #[.int 59], vm := .none },
  { cls := 16, slots := #[.int 60], vm := .none },
  { cls := 16, slots := #[.int 61], vm := .none },
  { cls := 16, slots := #[.int 62], vm := .none },
  { cls := 16, slots := #[.int 63], vm := .none },
  { cls := 16, slots := #[.int 64], vm := .none },
  { cls := 16, slots := #[.int 65], vm := .none },
  { cls := 16, slots := #[.int 66], vm := .none },
  { cls := 16, slots := #[.int 67], vm := .none },
  { cls := 16, slots := #[.int 68], vm := .none },
  { cls := 16, slots := #[.int 69], vm := .none },
  { cls := 16, slots := #[.int 70], vm := .none },
  { cls := 16, slots := #[.int 71], vm := .none },
  { cls := 16, slots := #[.int 72], vm := .none },
  { cls := 16, slots := #[.int 73], vm := .none },
  { cls := 16, slots := #[.int 74], vm := .none },
  { cls := 16, slots := #[.int 75], vm := .none },
  { cls := 16, slots := #[.int 76], vm := .none },
  { cls := 16, slots := #[.int 77], vm := .none },
  { cls := 16, slots := #[.int 78], vm := .none },
  { cls := 16, slots := #[.int 79], vm := .none },
  { cls := 16, slots := #[.int 80], vm := .none },
  { cls := 16, slots := #[.int 81], vm := .none },
  { cls := 16, slots := #[.int 82], vm := .none },
  { cls := 16, slots := #[.int 83], vm := .none },
  { cls := 16, slots := #[.int 84], vm := .none },
  { cls := 16, slots := #[.int 85], vm := .none },
  { cls := 16, slots := #[.int 86], vm := .none },
  { cls := 16, slots := #[.int 87], vm := .none },
  { cls := 16, slots := #[.int 88], vm := .none },
  { cls := 16, slots := #[.int 89], vm := .none },
  { cls := 16, slots := #[.int 90], vm := .none },
  { cls := 16, slots := #[.int 91], vm := .none },
  { cls := 16, slots := #[.int 92], vm := .none },
  { cls := 16, slots := #[.int 93], vm := .none },
  { cls := 16, slots := #[.int 94], vm := .none },
  { cls := 16, slots := #[.int 95], vm := .none },
  { cls := 16, slots := #[.int 96], vm := .none },
  { cls := 16, slots := #[.int 97], vm := .none },
  { cls := 16, slots := #[.int 98], vm := .none },
  { cls := 16, slots := #[.int 99], vm := .none },
  { cls := 16, slots := #[.int 100], vm := .none },
  { cls := 16, slots := #[.int 101], vm := .none },
  { cls := 16, slots := #[.int 102], vm := .none },
  { cls := 16, slots := #[.int 103], vm := .none },
  { cls := 16, slots := #[.int 104], vm := .none },
  { cls := 16, slots := #[.int 105], vm := .none },
  { cls := 16, slots := #[.int 106], vm := .none },
  { cls := 16, slots := #[.int 107], vm := .none },
  { cls := 16, slots := #[.int 108], vm := .none },
  { cls := 16, slots := #[.int 109], vm := .none },
  { cls := 16, slots := #[.int 110], vm := .none },
  { cls := 16, slots := #[.int 111], vm := .none },
  { cls := 16, slots := #[.int 112], vm := .none },
  { cls := 16, slots := #[.int 113], vm := .none },
  { cls := 16, slots := #[.int 114], vm := .none },
  { cls := 16, slots := #[.int 115], vm := .none },
  { cls := 16, slots := #[.int 116], vm := .none },
  { cls := 16, slots := #[.int 117], vm := .none },
  { cls := 16, slots := #[.int 118], vm := .none },
  { cls := 16, slots := #[.int 119], vm := .none },
  { cls := 16, slots := #[.int 120], vm := .none },
  { cls := 16, slots := #[.int 121], vm := .none },
  { cls := 16, slots := #[.int 122], vm := .none },
  { cls := 16, slots := #[.int 123], vm := .none },
  { cls := 16, slots := #[.int 124], vm := .none },
  { cls := 16, slots := #[.int 125], vm := .none },
  { cls := 16, slots := #[.int 126], vm := .none },
  { cls := 16, slots := #[.int 127], vm := .none },
  { cls := 35, slots := #[], vm := .none },
  { cls := 35, slots := #[], vm := .none }]
def classes : Array Class := #[k0, k1, k2, k3, k4, k5, k6, k7, k8, k9, k10, k11, k12, k13, k14, k15, k16, k17, k18, k19, k20, k21, k22, k23, k24, k25, k26, k27, k28, k29, k30, k31, k32, k33, k34, k35, k36]
def interned : List (Array UInt16 × Addr) := []
def slotsUsed : Nat := 521
def theMethod : MethodId := ⟨1, 1⟩
def args0 : Array Value := #[.int 5, .int 6, .int 7, .int 8, .long 9]
def aboutOver (below : List Frame) : State where
  vm := { classes := classes, interned := interned.toArray }
  heap := heap
  slotsUsed := slotsUsed
  threads := #[{ frames := .invoking theMethod args0 :: below }]
def below0 : List Frame := [.native { method := ⟨0, 0⟩, args := #[] }]
def about1 : State := aboutOver below0
def p0 : Program := .bare "" "" ""
def e0 : Env := launch0.env 0 0 0
theorem w_frames : about1.frames = Frame.invoking theMethod args0 :: below0 := rfl
set_option maxRecDepth 65536 in
theorem w_args : argsFit about1.vm theMethod args0 = true := by decide +kernel
set_option maxRecDepth 65536 in
theorem w_heap : heapFits about1 = true := by decide +kernel
set_option maxRecDepth 65536 in
theorem w_runnable : about1.curStatus? = some .runnable := by decide +kernel
set_option maxRecDepth 65536 in
theorem w_alone : about1.alone = true := by decide +kernel
set_option maxRecDepth 65536 in
theorem w_named : about1.methodNamed? x = some theMethod := by decide +kernel
set_option maxRecDepth 65536 in
theorem w_hears : about1.hears theMethod below0 = true := by decide +kernel
set_option maxRecDepth 65536 in
theorem w_ripe : about1.ripe theMethod args0 below0 = true := by decide +kernel
theorem w_running : about1.status = .running := rfl
set_option maxRecDepth 65536 in
theorem w_room : about1.hasRoom e0.platform room_1 = true :=
  launch0.hasRoom_least _ room_1 (by decide +kernel) (by decide +kernel) (by decide +kernel) (by decide +kernel) (by decide +kernel) (by decide +kernel)
theorem allAtoms_all (ts : List Jvm.Cond) (a : Array Jvm.Value) (st : Jvm.State) : (allAtoms ts).before a st = ts.all (fun c => c.before a st) := by
  induction ts with
  | nil => rfl
  | cons c t ih =>
    show (Jvm.Cond.and c (allAtoms t)).before a st = _
    rw [Jvm.Cond.before_and, ih, List.all_cons]
def words1 : List Jvm.Cond := Jvm.Cond.code x code maxLocals ret :: tables_1
/-- a 'code' word, met by the world's own term for the bytes: nothing is compared byte by byte -/
theorem code_word {y : MethodName} {bytes : ByteArray} {mx : Nat} {rt : Option FieldType} {a : Array Value} {s : State} {m : MethodId} {meth : Method} {c : Code} (h1 : s.methodNamed? y = some m) (h2 : s.vm.method? m = some meth) (h3 : meth.code = some c) (h4 : c.code = bytes)
    (h5 : (c.maxLocals == mx && c.exceptionTable.isEmpty && decide (c.maxStack ≤ mostOperands) && decide (meth.sig.returnType = rt) && !meth.locks && decide (parseMethodDescriptor y.desc = some meth.sig)) = true) : (Jvm.Cond.code y bytes mx rt).before a s = true := by
  simp only [Bool.and_eq_true, beq_iff_eq, Bool.not_eq_true', decide_eq_true_eq] at h5
  obtain ⟨⟨⟨⟨⟨g1, g2⟩, g3⟩, g4⟩, g5⟩, g6⟩ := h5
  simp [Cond.before, Cond.holds, Cond.value, h1, h2, h3, h4, g1, g2, g3, g4, g5, g6]
def isCode : Jvm.Cond → Bool
  | .code _ _ _ _ => true
  | _ => false
theorem all_split {L : List Jvm.Cond} {P : Jvm.Cond → Bool} (h1 : L.all (fun c => isCode c || P c) = true) (h2 : ∀ c ∈ L.filter isCode, P c = true) : L.all P = true := by
  refine List.all_eq_true.mpr fun c hc => ?_
  have h := List.all_eq_true.mp h1 c hc
  rcases Bool.eq_false_or_eq_true (isCode c) with hi | hi
  · exact h2 c (List.mem_filter.mpr ⟨hc, hi⟩)
  · simpa [hi] using h
set_option maxRecDepth 65536 in
theorem w_c0 : (Jvm.Cond.code x code maxLocals ret).before args0 about1 = true := code_word (m := ⟨1, 1⟩) (meth := k1m1) (c := k1c1) (by decide +kernel) rfl rfl rfl (by decide +kernel)
set_option maxRecDepth 65536 in
theorem w_c1 : (Jvm.Cond.code ({ cls := "java/util/ArrayList", name := "<init>", desc := "()V" } : Jvm.MethodName) jdk_38_method_2_code (1 : Nat) (Option.none : Option Jvm.ClassFile.FieldType)).before args0 about1 = true := code_word (m := ⟨11, 0⟩) (meth := k11m0) (c := k11c0) (by decide +kernel) rfl rfl rfl (by decide +kernel)
set_option maxRecDepth 65536 in
theorem w_c2 : (Jvm.Cond.code ({ cls := "java/util/AbstractList", name := "<init>", desc := "()V" } : Jvm.MethodName) jdk_39_method_1_code (1 : Nat) (Option.none : Option Jvm.ClassFile.FieldType)).before args0 about1 = true := code_word (m := ⟨7, 0⟩) (meth := k7m0) (c := k7c0) (by decide +kernel) rfl rfl rfl (by decide +kernel)
set_option maxRecDepth 65536 in
theorem w_c3 : (Jvm.Cond.code ({ cls := "java/util/AbstractCollection", name := "<init>", desc := "()V" } : Jvm.MethodName) jdk_22_method_1_code (1 : Nat) (Option.none : Option Jvm.ClassFile.FieldType)).before args0 about1 = true := code_word (m := ⟨4, 0⟩) (meth := k4m0) (c := k4c0) (by decide +kernel) rfl rfl rfl (by decide +kernel)
set_option maxRecDepth 65536 in
theorem w_c4 : (Jvm.Cond.code ({ cls := "java/lang/Object", name := "<init>", desc := "()V" } : Jvm.MethodName) object_method_1_code (1 : Nat) (Option.none : Option Jvm.ClassFile.FieldType)).before args0 about1 = true := code_word (m := ⟨0, 0⟩) (meth := k0m0) (c := k0c0) (by decide +kernel) rfl rfl rfl (by decide +kernel)
set_option maxRecDepth 65536 in
theorem w_c5 : (Jvm.Cond.code ({ cls := "java/lang/Integer", name := "valueOf", desc := "(I)Ljava/lang/Integer;" } : Jvm.MethodName) jdk_33_method_22_code (1 : Nat) (Option.some (Jvm.ClassFile.FieldType.object "java/lang/Integer"))).before args0 about1 = true := code_word (m := ⟨16, 0⟩) (meth := k16m0) (c := k16c0) (by decide +kernel) rfl rfl rfl (by decide +kernel)
set_option maxRecDepth 65536 in
theorem w_c6 : (Jvm.Cond.code ({ cls := "java/util/ArrayList", name := "add", desc := "(Ljava/lang/Object;)Z" } : Jvm.MethodName) jdk_38_method_25_code (2 : Nat) (Option.some Jvm.ClassFile.FieldType.boolean)).before args0 about1 = true := code_word (m := ⟨11, 4⟩) (meth := k11m4) (c := k11c4) (by decide +kernel) rfl rfl rfl (by decide +kernel)
set_option maxRecDepth 65536 in
theorem w_c7 : (Jvm.Cond.code ({ cls := "java/util/ArrayList", name := "add", desc := "(Ljava/lang/Object;[Ljava/lang/Object;I)V" } : Jvm.MethodName) jdk_38_method_24_code (4 : Nat) (Option.none : Option Jvm.ClassFile.FieldType)).before args0 about1 = true := code_word (m := ⟨11, 3⟩) (meth := k11m3) (c := k11c3) (by decide +kernel) rfl rfl rfl (by decide +kernel)
set_option maxRecDepth 65536 in
theorem w_c8 : (Jvm.Cond.code ({ cls := "java/util/ArrayList", name := "grow", desc := "()[Ljava/lang/Object;" } : Jvm.MethodName) jdk_38_method_7_code (1 : Nat) (Option.some (Jvm.ClassFile.FieldType.array (Jvm.ClassFile.FieldType.object "java/lang/Object")))).before args0 about1 = true := code_word (m := ⟨11, 2⟩) (meth := k11m2) (c := k11c2) (by decide +kernel) rfl rfl rfl (by decide +kernel)
set_option maxRecDepth 65536 in
theorem w_c9 : (Jvm.Cond.code ({ cls := "java/util/ArrayList", name := "grow", desc := "(I)[Ljava/lang/Object;" } : Jvm.MethodName) jdk_38_method_6_code (4 : Nat) (Option.some (Jvm.ClassFile.FieldType.array (Jvm.ClassFile.FieldType.object "java/lang/Object")))).before args0 about1 = true := code_word (m := ⟨11, 1⟩) (meth := k11m1) (c := k11c1) (by decide +kernel) rfl rfl rfl (by decide +kernel)
set_option maxRecDepth 65536 in
theorem w_c10 : (Jvm.Cond.code ({ cls := "java/lang/Math", name := "max", desc := "(II)I" } : Jvm.MethodName) jdk_29_method_65_code (2 : Nat) (Option.some Jvm.ClassFile.FieldType.int)).before args0 about1 = true := code_word (m := ⟨18, 1⟩) (meth := k18m1) (c := k18c1) (by decide +kernel) rfl rfl rfl (by decide +kernel)
set_option maxRecDepth 65536 in
theorem w_c11 : (Jvm.Cond.code ({ cls := "com/example/copse/copse/HangingTree", name := "<init>", desc := "(IILjava/util/Collection;)V" } : Jvm.MethodName) prog_20_method_1_code (4 : Nat) (Option.none : Option Jvm.ClassFile.FieldType)).before args0 about1 = true := code_word (m := ⟨19, 0⟩) (meth := k19m0) (c := k19c0) (by decide +kernel) rfl rfl rfl (by decide +kernel)
set_option maxRecDepth 65536 in
theorem w_c12 : (Jvm.Cond.code ({ cls := "com/example/copse/copse/HangingTree", name := "<init>", desc := "(IILjava/util/Collection;Ljava/util/function/Predicate;)V" } : Jvm.MethodName) prog_20_method_2_code (7 : Nat) (Option.none : Option Jvm.ClassFile.FieldType)).before args0 about1 = true := code_word (m := ⟨19, 1⟩) (meth := k19m1) (c := k19c1) (by decide +kernel) rfl rfl rfl (by decide +kernel)
set_option maxRecDepth 65536 in
theorem w_c13 : (Jvm.Cond.code ({ cls := "java/util/ArrayList", name := "iterator", desc := "()Ljava/util/Iterator;" } : Jvm.MethodName) jdk_38_method_55_code (1 : Nat) (Option.some (Jvm.ClassFile.FieldType.object "java/util/Iterator"))).before args0 about1 = true := code_word (m := ⟨11, 5⟩) (meth := k11m5) (c := k11c5) (by decide +kernel) rfl rfl rfl (by decide +kernel)
set_option maxRecDepth 65536 in
theorem w_c14 : (Jvm.Cond.code ({ cls := "java/util/ArrayList$Itr", name := "<init>", desc := "(Ljava/util/ArrayList;)V" } : Jvm.MethodName) jdk_49_method_1_code (2 : Nat) (Option.none : Option Jvm.ClassFile.FieldType)).before args0 about1 = true := code_word (m := ⟨24, 0⟩) (meth := k24m0) (c := k24c0) (by decide +kernel) rfl rfl rfl (by decide +kernel)
set_option maxRecDepth 65536 in
theorem w_c15 : (Jvm.Cond.code ({ cls := "java/util/ArrayList$Itr", name := "hasNext", desc := "()Z" } : Jvm.MethodName) jdk_49_method_2_code (1 : Nat) (Option.some Jvm.ClassFile.FieldType.boolean)).before args0 about1 = true := code_word (m := ⟨24, 1⟩) (meth := k24m1) (c := k24c1) (by decide +kernel) rfl rfl rfl (by decide +kernel)
set_option maxRecDepth 65536 in
theorem w_c16 : (Jvm.Cond.code ({ cls := "java/util/ArrayList$Itr", name := "next", desc := "()Ljava/lang/Object;" } : Jvm.MethodName) jdk_49_method_3_code (3 : Nat) (Option.some (Jvm.ClassFile.FieldType.object "java/lang/Object"))).before args0 about1 = true := code_word (m := ⟨24, 2⟩) (meth := k24m2) (c := k24c2) (by decide +kernel) rfl rfl rfl (by decide +kernel)
set_option maxRecDepth 65536 in
theorem w_c17 : (Jvm.Cond.code ({ cls := "java/util/ArrayList$Itr", name := "checkForComodification", desc := "()V" } : Jvm.MethodName) jdk_49_method_6_code (1 : Nat) (Option.none : Option Jvm.ClassFile.FieldType)).before args0 about1 = true := code_word (m := ⟨24, 3⟩) (meth := k24m3) (c := k24c3) (by decide +kernel) rfl rfl rfl (by decide +kernel)
set_option maxRecDepth 65536 in
theorem w_c18 : (Jvm.Cond.code ({ cls := "java/lang/Integer", name := "intValue", desc := "()I" } : Jvm.MethodName) jdk_33_method_27_code (1 : Nat) (Option.some Jvm.ClassFile.FieldType.int)).before args0 about1 = true := code_word (m := ⟨16, 1⟩) (meth := k16m1) (c := k16c1) (by decide +kernel) rfl rfl rfl (by decide +kernel)
set_option maxRecDepth 65536 in
theorem w_c19 : (Jvm.Cond.code ({ cls := "com/example/copse/copse/Arc", name := "<init>", desc := "(IIJ)V" } : Jvm.MethodName) prog_4_method_1_code (5 : Nat) (Option.none : Option Jvm.ClassFile.FieldType)).before args0 about1 = true := code_word (m := ⟨22, 0⟩) (meth := k22m0) (c := k22c0) (by decide +kernel) rfl rfl rfl (by decide +kernel)
set_option maxRecDepth 65536 in
theorem w_c20 : (Jvm.Cond.code ({ cls := "java/lang/Record", name := "<init>", desc := "()V" } : Jvm.MethodName) jdk_30_method_1_code (1 : Nat) (Option.none : Option Jvm.ClassFile.FieldType)).before args0 about1 = true := code_word (m := ⟨21, 0⟩) (meth := k21m0) (c := k21c0) (by decide +kernel) rfl rfl rfl (by decide +kernel)
set_option maxRecDepth 65536 in
theorem w_c21 : (Jvm.Cond.code ({ cls := "com/example/copse/copse/HangingTree", name := "hang", desc := "(Lcom/example/copse/copse/Arc;)V" } : Jvm.MethodName) prog_20_method_4_code (4 : Nat) (Option.none : Option Jvm.ClassFile.FieldType)).before args0 about1 = true := code_word (m := ⟨19, 3⟩) (meth := k19m3) (c := k19c3) (by decide +kernel) rfl rfl rfl (by decide +kernel)
set_option maxRecDepth 65536 in
theorem w_c22 : (Jvm.Cond.code ({ cls := "com/example/copse/copse/Arc", name := "head", desc := "()I" } : Jvm.MethodName) prog_4_method_7_code (1 : Nat) (Option.some Jvm.ClassFile.FieldType.int)).before args0 about1 = true := code_word (m := ⟨22, 2⟩) (meth := k22m2) (c := k22c2) (by decide +kernel) rfl rfl rfl (by decide +kernel)
set_option maxRecDepth 65536 in
theorem w_c23 : (Jvm.Cond.code ({ cls := "com/example/copse/copse/Arc", name := "tail", desc := "()I" } : Jvm.MethodName) prog_4_method_6_code (1 : Nat) (Option.some Jvm.ClassFile.FieldType.int)).before args0 about1 = true := code_word (m := ⟨22, 1⟩) (meth := k22m1) (c := k22c1) (by decide +kernel) rfl rfl rfl (by decide +kernel)
set_option maxRecDepth 65536 in
theorem w_c24 : (Jvm.Cond.code ({ cls := "com/example/copse/copse/HangingTree", name := "lambda$new$0", desc := "(Lcom/example/copse/copse/Arc;)Z" } : Jvm.MethodName) prog_20_method_27_code (1 : Nat) (Option.some Jvm.ClassFile.FieldType.boolean)).before args0 about1 = true := code_word (m := ⟨19, 5⟩) (meth := k19m5) (c := k19c5) (by decide +kernel) rfl rfl rfl (by decide +kernel)
set_option maxRecDepth 65536 in
theorem w_c25 : (Jvm.Cond.code ({ cls := "com/example/copse/copse/HangingTree", name := "countChildren", desc := "(II)V" } : Jvm.MethodName) prog_20_method_18_code (3 : Nat) (Option.none : Option Jvm.ClassFile.FieldType)).before args0 about1 = true := code_word (m := ⟨19, 4⟩) (meth := k19m4) (c := k19c4) (by decide +kernel) rfl rfl rfl (by decide +kernel)
set_option maxRecDepth 65536 in
theorem w_c26 : (Jvm.Cond.code ({ cls := "com/example/copse/copse/HangingTree", name := "contains", desc := "(I)Z" } : Jvm.MethodName) prog_20_method_3_code (2 : Nat) (Option.some Jvm.ClassFile.FieldType.boolean)).before args0 about1 = true := code_word (m := ⟨19, 2⟩) (meth := k19m2) (c := k19c2) (by decide +kernel) rfl rfl rfl (by decide +kernel)
def codes1 : List Jvm.Cond := [Jvm.Cond.code x code maxLocals ret, Jvm.Cond.code ({ cls := "java/util/ArrayList", name := "<init>", desc := "()V" } : Jvm.MethodName) jdk_38_method_2_code (1 : Nat) (Option.none : Option Jvm.ClassFile.FieldType), Jvm.Cond.code ({ cls := "java/util/AbstractList", name := "<init>", desc := "()V" } : Jvm.MethodName) jdk_39_method_1_code (1 : Nat) (Option.none : Option Jvm.ClassFile.FieldType), Jvm.Cond.code ({ cls := "java/util/AbstractCollection", name := "<init>", desc := "()V" } : Jvm.MethodName) jdk_22_method_1_code (1 : Nat) (Option.none : Option Jvm.ClassFile.FieldType), Jvm.Cond.code ({ cls := "java/lang/Object", name := "<init>", desc := "()V" } : Jvm.MethodName) object_method_1_code (1 : Nat) (Option.none : Option Jvm.ClassFile.FieldType), Jvm.Cond.code ({ cls := "java/lang/Integer", name := "valueOf", desc := "(I)Ljava/lang/Integer;" } : Jvm.MethodName) jdk_33_method_22_code (1 : Nat) (Option.some (Jvm.ClassFile.FieldType.object "java/lang/Integer")), Jvm.Cond.code ({ cls := "java/util/ArrayList", name := "add", desc := "(Ljava/lang/Object;)Z" } : Jvm.MethodName) jdk_38_method_25_code (2 : Nat) (Option.some Jvm.ClassFile.FieldType.boolean), Jvm.Cond.code ({ cls := "java/util/ArrayList", name := "add", desc := "(Ljava/lang/Object;[Ljava/lang/Object;I)V" } : Jvm.MethodName) jdk_38_method_24_code (4 : Nat) (Option.none : Option Jvm.ClassFile.FieldType), Jvm.Cond.code ({ cls := "java/util/ArrayList", name := "grow", desc := "()[Ljava/lang/Object;" } : Jvm.MethodName) jdk_38_method_7_code (1 : Nat) (Option.some (Jvm.ClassFile.FieldType.array (Jvm.ClassFile.FieldType.object "java/lang/Object"))), Jvm.Cond.code ({ cls := "java/util/ArrayList", name := "grow", desc := "(I)[Ljava/lang/Object;" } : Jvm.MethodName) jdk_38_method_6_code (4 : Nat) (Option.some (Jvm.ClassFile.FieldType.array (Jvm.ClassFile.FieldType.object "java/lang/Object"))), Jvm.Cond.code ({ cls := "java/lang/Math", name := "max", desc := "(II)I" } : Jvm.MethodName) jdk_29_method_65_code (2 : Nat) (Option.some Jvm.ClassFile.FieldType.int), Jvm.Cond.code ({ cls := "com/example/copse/copse/HangingTree", name := "<init>", desc := "(IILjava/util/Collection;)V" } : Jvm.MethodName) prog_20_method_1_code (4 : Nat) (Option.none : Option Jvm.ClassFile.FieldType), Jvm.Cond.code ({ cls := "com/example/copse/copse/HangingTree", name := "<init>", desc := "(IILjava/util/Collection;Ljava/util/function/Predicate;)V" } : Jvm.MethodName) prog_20_method_2_code (7 : Nat) (Option.none : Option Jvm.ClassFile.FieldType), Jvm.Cond.code ({ cls := "java/util/ArrayList", name := "iterator", desc := "()Ljava/util/Iterator;" } : Jvm.MethodName) jdk_38_method_55_code (1 : Nat) (Option.some (Jvm.ClassFile.FieldType.object "java/util/Iterator")), Jvm.Cond.code ({ cls := "java/util/ArrayList$Itr", name := "<init>", desc := "(Ljava/util/ArrayList;)V" } : Jvm.MethodName) jdk_49_method_1_code (2 : Nat) (Option.none : Option Jvm.ClassFile.FieldType), Jvm.Cond.code ({ cls := "java/util/ArrayList$Itr", name := "hasNext", desc := "()Z" } : Jvm.MethodName) jdk_49_method_2_code (1 : Nat) (Option.some Jvm.ClassFile.FieldType.boolean), Jvm.Cond.code ({ cls := "java/util/ArrayList$Itr", name := "next", desc := "()Ljava/lang/Object;" } : Jvm.MethodName) jdk_49_method_3_code (3 : Nat) (Option.some (Jvm.ClassFile.FieldType.object "java/lang/Object")), Jvm.Cond.code ({ cls := "java/util/ArrayList$Itr", name := "checkForComodification", desc := "()V" } : Jvm.MethodName) jdk_49_method_6_code (1 : Nat) (Option.none : Option Jvm.ClassFile.FieldType), Jvm.Cond.code ({ cls := "java/lang/Integer", name := "intValue", desc := "()I" } : Jvm.MethodName) jdk_33_method_27_code (1 : Nat) (Option.some Jvm.ClassFile.FieldType.int), Jvm.Cond.code ({ cls := "com/example/copse/copse/Arc", name := "<init>", desc := "(IIJ)V" } : Jvm.MethodName) prog_4_method_1_code (5 : Nat) (Option.none : Option Jvm.ClassFile.FieldType), Jvm.Cond.code ({ cls := "java/lang/Record", name := "<init>", desc := "()V" } : Jvm.MethodName) jdk_30_method_1_code (1 : Nat) (Option.none : Option Jvm.ClassFile.FieldType), Jvm.Cond.code ({ cls := "com/example/copse/copse/HangingTree", name := "hang", desc := "(Lcom/example/copse/copse/Arc;)V" } : Jvm.MethodName) prog_20_method_4_code (4 : Nat) (Option.none : Option Jvm.ClassFile.FieldType), Jvm.Cond.code ({ cls := "com/example/copse/copse/Arc", name := "head", desc := "()I" } : Jvm.MethodName) prog_4_method_7_code (1 : Nat) (Option.some Jvm.ClassFile.FieldType.int), Jvm.Cond.code ({ cls := "com/example/copse/copse/Arc", name := "tail", desc := "()I" } : Jvm.MethodName) prog_4_method_6_code (1 : Nat) (Option.some Jvm.ClassFile.FieldType.int), Jvm.Cond.code ({ cls := "com/example/copse/copse/HangingTree", name := "lambda$new$0", desc := "(Lcom/example/copse/copse/Arc;)Z" } : Jvm.MethodName) prog_20_method_27_code (1 : Nat) (Option.some Jvm.ClassFile.FieldType.boolean), Jvm.Cond.code ({ cls := "com/example/copse/copse/HangingTree", name := "countChildren", desc := "(II)V" } : Jvm.MethodName) prog_20_method_18_code (3 : Nat) (Option.none : Option Jvm.ClassFile.FieldType), Jvm.Cond.code ({ cls := "com/example/copse/copse/HangingTree", name := "contains", desc := "(I)Z" } : Jvm.MethodName) prog_20_method_3_code (2 : Nat) (Option.some Jvm.ClassFile.FieldType.boolean)]
set_option maxRecDepth 65536 in
theorem codes_eq : words1.filter isCode = codes1 := rfl
theorem w_codes : ∀ c ∈ words1.filter isCode, c.before args0 about1 = true := by
  rw [codes_eq]
  intro c hc
  simp only [codes1, List.mem_cons, List.not_mem_nil, or_false] at hc
  rcases hc with rfl | rfl | rfl | rfl | rfl | rfl | rfl | rfl | rfl | rfl | rfl | rfl | rfl | rfl | rfl | rfl | rfl | rfl | rfl | rfl | rfl | rfl | rfl | rfl | rfl | rfl | rfl
  · exact w_c0
  · exact w_c1
  · exact w_c2
  · exact w_c3
  · exact w_c4
  · exact w_c5
  · exact w_c6
  · exact w_c7
  · exact w_c8
  · exact w_c9
  · exact w_c10
  · exact w_c11
  · exact w_c12
  · exact w_c13
  · exact w_c14
  · exact w_c15
  · exact w_c16
  · exact w_c17
  · exact w_c18
  · exact w_c19
  · exact w_c20
  · exact w_c21
  · exact w_c22
  · exact w_c23
  · exact w_c24
  · exact w_c25
  · exact w_c26
set_option maxRecDepth 65536 in
theorem w_t1 : (words1.take 24).all (fun c => isCode c || c.before args0 about1) = true := by decide +kernel
set_option maxRecDepth 65536 in
theorem w_t2 : ((words1.drop 24).take 24).all (fun c => isCode c || c.before args0 about1) = true := by decide +kernel
set_option maxRecDepth 65536 in
theorem w_t3 : (((words1.drop 24).drop 24).take 24).all (fun c => isCode c || c.before args0 about1) = true := by decide +kernel
set_option maxRecDepth 65536 in
theorem w_t4 : ((((words1.drop 24).drop 24).drop 24).take 24).all (fun c => isCode c || c.before args0 about1) = true := by decide +kernel
set_option maxRecDepth 65536 in
theorem w_t5 : (((((words1.drop 24).drop 24).drop 24).drop 24).take 24).all (fun c => isCode c || c.before args0 about1) = true := by decide +kernel
set_option maxRecDepth 65536 in
theorem w_t6 : ((((((words1.drop 24).drop 24).drop 24).drop 24).drop 24).take 24).all (fun c => isCode c || c.before args0 about1) = true := by decide +kernel
set_option maxRecDepth 65536 in
theorem w_t7 : (((((((words1.drop 24).drop 24).drop 24).drop 24).drop 24).drop 24).take 24).all (fun c => isCode c || c.before args0 about1) = true := by decide +kernel
set_option maxRecDepth 65536 in
theorem w_t8 : ((((((((words1.drop 24).drop 24).drop 24).drop 24).drop 24).drop 24).drop 24).take 24).all (fun c => isCode c || c.before args0 about1) = true := by decide +kernel
set_option maxRecDepth 65536 in
theorem w_t9 : (((((((((words1.drop 24).drop 24).drop 24).drop 24).drop 24).drop 24).drop 24).drop 24).take 24).all (fun c => isCode c || c.before args0 about1) = true := by decide +kernel
set_option maxRecDepth 65536 in
theorem w_t10 : (((((((((words1.drop 24).drop 24).drop 24).drop 24).drop 24).drop 24).drop 24).drop 24).drop 24).all (fun c => isCode c || c.before args0 about1) = true := by decide +kernel
theorem w_tables : (allAtoms (Jvm.Cond.code x code maxLocals ret :: tables_1)).before args0 about1 = true := by
  rw [allAtoms_all]
  show words1.all (fun c => c.before args0 about1) = true
  refine all_split ?_ w_codes
  rw [← List.take_append_drop 24 words1, List.all_append, w_t1, ← List.take_append_drop 24 (words1.drop 24), List.all_append, w_t2, ← List.take_append_drop 24 ((words1.drop 24).drop 24), List.all_append, w_t3, ← List.take_append_drop 24 (((words1.drop 24).drop 24).drop 24), List.all_append, w_t4, ← List.take_append_drop 24 ((((words1.drop 24).drop 24).drop 24).drop 24), List.all_append, w_t5, ← List.take_append_drop 24 (((((words1.drop 24).drop 24).drop 24).drop 24).drop 24), List.all_append, w_t6, ← List.take_append_drop 24 ((((((words1.drop 24).drop 24).drop 24).drop 24).drop 24).drop 24), List.all_append, w_t7, ← List.take_append_drop 24 (((((((words1.drop 24).drop 24).drop 24).drop 24).drop 24).drop 24).drop 24), List.all_append, w_t8, ← List.take_append_drop 24 ((((((((words1.drop 24).drop 24).drop 24).drop 24).drop 24).drop 24).drop 24).drop 24), List.all_append, w_t9, w_t10]
  rfl
set_option maxRecDepth 65536 in
theorem w_rest : rest_1_c.before args0 about1 = true := by decide +kernel
set_option maxRecDepth 65536 in
theorem w_case : (Jvm.Cond.and given_1 narrow_1).before args0 about1 = true := by decide +kernel
theorem w_applies : (headSpec (Jvm.Cond.code x code maxLocals ret :: tables_1) room_1).applies x e0.platform about1 = true :=
  (Spec.applies_iff w_frames).mpr ⟨w_running, w_runnable, w_alone, w_named, w_hears, w_ripe, w_room, w_tables⟩
theorem atStart : AtStart classFile x code maxLocals ret World_1 tables_1 room_1 Calls_1 rest_1 Pre_1 launch0 p0 e0 about1 theMethod args0 below0 :=
  ⟨lists_1, trivial, launch0.admits_env _ _ _, launch0.least_env, fairChoices_fair.cas, fairChoices_fair.clock, w_frames, w_args, w_heap, w_applies, trivial, w_rest, w_case⟩
end start1
theorem witness_1 : WitnessClaimed_1 := ⟨start1.p0, start1.e0, start1.about1, start1.theMethod, start1.args0, start1.below0, start1.atStart⟩
end Jvm.Pilot.@@N@@
