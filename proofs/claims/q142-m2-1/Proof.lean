import JvmDerived
import JvmDerived.Pilot.@@N@@Statement
import JvmDerived.Pilot.@@N@@Code
set_option linter.unusedVariables false
set_option linter.unusedSimpArgs false
namespace Jvm.RoadKit
open Sem ClassFile Op Lib Jvm.Stand Jvm.Free Jvm.LawKit
abbrev sI_ (x : Int32) : Slot := .val (.int x)
abbrev sJ_ (x : Int64) : Slot := .val (.long x)
abbrev sR_ (x : Addr) : Slot := .val (.ref x)
abbrev sU_ : Slot := .unset
abbrev sS_ : Slot := .second
theorem catR (a : Addr) : (Value.ref a).category = 1 := rfl
theorem catN : Value.null.category = 1 := rfl
theorem catI (x : Int32) : (Value.int x).category = 1 := rfl
theorem catJ (x : Int64) : (Value.long x).category = 2 := rfl
section Own
variable {p : Program} {l : Launch} {e : Env} {R : Room} {s : State} {m : MethodId} {args : Array Value} {below : List Frame} {meth : Method} {c : Code} {T U U' : State} {locs : List Loc} {cells slots : Nat} {Z : State} {a0 : Array Value} {h : Heap} {Q : Option Value → Heap → List Loc → Prop} {C S : Nat}
/-- what is left to show at a point of a walk: from U the body comes to its end, and Q holds there -/
def Goes (p : Program) (e : Env) (s : State) (below : List Frame) (Q : Option Value → Heap → List Loc → Prop) (C S : Nat) (U : State) : Prop :=
  ∃ s₂ o, Steps p.tables e below U s₂ ∧ s₂.status = .running ∧ Ended s₂ below o ∧ ∃ v L, o = .returned v ∧ Q v s₂.heap L ∧ FrameEnd s o s₂ L C S
theorem Goes.go (st : ∀ t, Steps p.tables e below U' t → Steps p.tables e below U t) (k : Goes p e s below Q C S U') : Goes p e s below Q C S U := by
  obtain ⟨s₂, o, h1, h2⟩ := k
  exact ⟨s₂, o, st _ h1, h2⟩
theorem Goes.leave {v : Option Value} (X : Stand p l e R s m args below meth c T locs cells slots) (hlk : meth.locks = false) (hv : meth.sig.returnType = none → v = none) (hQ : Q v T.heap locs) (hc : cells ≤ C) (hs : slots ≤ S)
    (st : ∀ fs, (∀ (f : JFrame) (acts : List Action), f.method = m → f.locked = none → f.entered = [] → (doReturn e (T.setTop f) acts v).1 = T.setFrames fs) → Steps p.tables e below U (T.setFrames fs)) : Goes p e s below Q C S U := by
  obtain ⟨fs, hr, hrun, hended, hW, hsame⟩ := X.leave (v := v) hv hlk
  exact ⟨_, _, st fs hr, hrun, hended, _, _, rfl, hQ, ⟨_, rfl⟩, hW, hsame.mono hc hs⟩
theorem Goes.retB {pc : Nat} {Ls : Array Slot} {z : Int32} {rest : List Value} (X : Stand p l e R s m args below meth c T locs cells slots) (hx : p.tables.exec = Jvm.exec) (hlk : meth.locks = false) (hret : meth.sig.returnType = some .boolean) (hd : decode c.code pc = .ok (.ireturn, 1)) (hc : cells ≤ C) (hs : slots ≤ S) (hQ : Q (some (.int (nar .boolean z))) T.heap locs) : Goes p e s below Q C S (T.setTop (mkF m pc Ls (.int z :: rest))) :=
  Goes.leave X hlk (fun h => by rw [hret] at h; cases h) hQ hc hs fun fs hr => retN X hx (t := .boolean) hret (by simp) hd hr
theorem Goes.retC {pc : Nat} {Ls : Array Slot} {z : Int32} {rest : List Value} (X : Stand p l e R s m args below meth c T locs cells slots) (hx : p.tables.exec = Jvm.exec) (hlk : meth.locks = false) (hret : meth.sig.returnType = some .char) (hd : decode c.code pc = .ok (.ireturn, 1)) (hc : cells ≤ C) (hs : slots ≤ S) (hQ : Q (some (.int (nar .char z))) T.heap locs) : Goes p e s below Q C S (T.setTop (mkF m pc Ls (.int z :: rest))) :=
  Goes.leave X hlk (fun h => by rw [hret] at h; cases h) hQ hc hs fun fs hr => retN X hx (t := .char) hret (by simp) hd hr
theorem Goes.retY {pc : Nat} {Ls : Array Slot} {z : Int32} {rest : List Value} (X : Stand p l e R s m args below meth c T locs cells slots) (hx : p.tables.exec = Jvm.exec) (hlk : meth.locks = false) (hret : meth.sig.returnType = some .byte) (hd : decode c.code pc = .ok (.ireturn, 1)) (hc : cells ≤ C) (hs : slots ≤ S) (hQ : Q (some (.int (nar .byte z))) T.heap locs) : Goes p e s below Q C S (T.setTop (mkF m pc Ls (.int z :: rest))) :=
  Goes.leave X hlk (fun h => by rw [hret] at h; cases h) hQ hc hs fun fs hr => retN X hx (t := .byte) hret (by simp) hd hr
theorem Goes.retI {pc : Nat} {Ls : Array Slot} {z : Int32} {rest : List Value} (X : Stand p l e R s m args below meth c T locs cells slots) (hx : p.tables.exec = Jvm.exec) (hlk : meth.locks = false) (hret : meth.sig.returnType = some .int) (hd : decode c.code pc = .ok (.ireturn, 1)) (hc : cells ≤ C) (hs : slots ≤ S) (hQ : Q (some (.int z)) T.heap locs) : Goes p e s below Q C S (T.setTop (mkF m pc Ls (.int z :: rest))) :=
  Goes.leave X hlk (fun h => by rw [hret] at h; cases h) hQ hc hs fun fs hr => retOut X hx hret rfl (Or.inl ⟨rfl, Or.inl rfl, _, rfl⟩) hd hr
theorem Goes.retJ {pc : Nat} {Ls : Array Slot} {z : Int64} {rest : List Value} (X : Stand p l e R s m args below meth c T locs cells slots) (hx : p.tables.exec = Jvm.exec) (hlk : meth.locks = false) (hret : meth.sig.returnType = some .long) (hd : decode c.code pc = .ok (.lreturn, 1)) (hc : cells ≤ C) (hs : slots ≤ S) (hQ : Q (some (.long z)) T.heap locs) : Goes p e s below Q C S (T.setTop (mkF m pc Ls (.long z :: rest))) :=
  Goes.leave X hlk (fun h => by rw [hret] at h; cases h) hQ hc hs fun fs hr => retOut X hx hret rfl (Or.inr (Or.inl ⟨rfl, rfl, _, rfl⟩)) hd hr
theorem ownNarrow {t : FieldType} {v : Value} (hv : v.isRef = true) (ht : t.isReference = true) : narrow t v = v := by
  rcases ref_cases hv with rfl | ⟨a, rfl⟩ <;> cases t <;> first | rfl | cases ht
theorem Goes.retA {pc : Nat} {Ls : Array Slot} {v : Value} {t : FieldType} {rest : List Value} (X : Stand p l e R s m args below meth c T locs cells slots) (hx : p.tables.exec = Jvm.exec) (hlk : meth.locks = false) (hret : meth.sig.returnType = some t) (ht : t.isReference = true) (hv : v.isRef = true) (hd : decode c.code pc = .ok (.areturn, 1)) (hc : cells ≤ C) (hs : slots ≤ S) (hQ : Q (some v) T.heap locs) : Goes p e s below Q C S (T.setTop (mkF m pc Ls (v :: rest))) :=
  Goes.leave X hlk (fun h => by rw [hret] at h; cases h) hQ hc hs fun fs hr => retOut X hx hret (ownNarrow hv ht) (Or.inr (Or.inr (Or.inr (Or.inr ⟨rfl, ht, hv⟩)))) hd hr
theorem Goes.retV {pc : Nat} {Ls : Array Slot} (X : Stand p l e R s m args below meth c T locs cells slots) (hx : p.tables.exec = Jvm.exec) (hlk : meth.locks = false) (hret : meth.sig.returnType = none) (hd : decode c.code pc = .ok (.return_, 1)) (hc : cells ≤ C) (hs : slots ≤ S) (hQ : Q none T.heap locs) : Goes p e s below Q C S (T.setTop (mkF m pc Ls [])) :=
  Goes.leave X hlk (fun _ => rfl) hQ hc hs fun fs hr => X.returnOut hx hret hd hr
/-- a body's contract: with these arguments over this heap it returns, and Q holds -/
def Pays (l : Launch) (Z : State) (y : MethodName) (bytes : ByteArray) (maxL : Nat) (ret : Option FieldType) (ws : List Jvm.Cond) (rm : Room) (as' : Array Value) (h : Heap) (Q : Option Value → Heap → List Loc → Prop) : Prop :=
  MetFree l y (head1 (Jvm.Cond.code y bytes maxL ret :: ws) rm) (fun a U => a = as' ∧ Z.Warmed39 U.vm ∧ U.heap = h) (fun _ _ _ _ _ => True) (fun _ U o U' => ∃ v L, o = .returned v ∧ Q v U'.heap L ∧ FrameEnd U o U' L rm.cells rm.slots)
theorem Pays.of {y : MethodName} {bytes : ByteArray} {maxL : Nat} {ret : Option FieldType} {ws : List Jvm.Cond} {rm : Room} {as' : Array Value} (hpl : plainFor y = true)
    (body : ∀ (p : Program) (e : Env) (s : State) (m : MethodId) (below : List Frame) (meth : Method) (c : Code) (s₁ : State), p.tables.exec = Jvm.exec → c.code = bytes → c.maxLocals = maxL → s.vm.findClass y.cls = some m.cls → meth.name = y.name → meth.sig.returnType = ret → meth.locks = false → Z.Warmed39 s.vm → s₁.heap = h → Stand p l e rm s m as' below meth c s₁ [] 0 0 → Goes p e s below Q rm.cells rm.slots (s₁.setTop (entryFrame m as' maxL))) :
    Pays l Z y bytes maxL ret ws rm as' h Q := by
  refine MetFree.of_bodySF hpl hisR ?_
  intro p e s m args below meth c s₁ Bd hml hP hK
  obtain ⟨rfl, hZ, hh⟩ := hP
  obtain ⟨s₂, o, h1, h2, h3, h4⟩ := body p e s m below meth c s₁ Bd.exec Bd.bytes hml (findClass_of_methodNamed Bd.named) (name_of_methodNamed Bd.named Bd.method).1 Bd.returns Bd.notSynchronized hZ (by rw [← hh, Bd.state]; rfl) (Stand.of_body Bd)
  exact ⟨s₂, o, h1, h2, h3, h4⟩
theorem callStatic (X : Stand p l e R s m args below meth c T locs cells slots) (hx : p.tables.exec = Jvm.exec) (hZ : Z.Warmed39 s.vm) {own : String} {index : Nat} {y : MethodName} {bytes : ByteArray} {maxL W : Nat} {ret : Option FieldType} {rm : Room} {as' : Array Value}
    (hown : s.vm.findClass own = some m.cls) (w1 : (Jvm.Cond.methodLink own index y).before a0 Z = true) (w2 : (Jvm.Cond.static y).before a0 Z = true) (w3 : (Jvm.Cond.initialized y.cls).before a0 Z = true) (w4 : (Jvm.Cond.code y bytes maxL ret).before a0 Z = true) (hy : y.cls ≠ "java/lang/invoke/MethodHandle" ∧ y.cls ≠ "java/lang/invoke/VarHandle")
    (M : Pays l Z y bytes maxL ret [] rm as' h Q) (hf : rm.frames + 1 ≤ R.frames) (hl : W + (maxL + 11) + rm.locals ≤ R.locals) (hc : cells + rm.cells ≤ R.cells) (hs : slots + rm.slots ≤ R.slots) (eT : T.heap = h)
    {g : JFrame} (hg : g.method = m) (hsize : g.locals.size = c.maxLocals) {argsL rest : List Value} (hlen : ∀ sig, parseMethodDescriptor y.desc = some sig → argsL.length = sig.parameters.length) (hstack : g.stack = argsL.reverse ++ rest) (has : argsL.toArray = as') (hW : 2 * g.monitorRoom + (rest.map fun v => v.category).sum ≤ W) (hdg : decode c.code g.pc = .ok (.invokestatic index, 3)) :
    ∃ (v : Option Value) (T' : State) (L : List Loc), Stand p l e R s m args below meth c T' (locs ++ L) (cells + rm.cells) (slots + rm.slots) ∧ Q v T'.heap L ∧ ∀ t, Steps p.tables e below (T'.setTop { g with pc := g.pc + 3, stack := v.toList ++ rest }) t → Steps p.tables e below (T.setTop g) t := by
  obtain ⟨v, vm1, ⟨T', L', k', n'⟩, -, X', ⟨Lc, hQ, l1, y1, z1⟩, st⟩ := Jvm.LawKit.callS X hx (y := y) hown (mvT hZ w1) (mvT hZ w2) (mvT hZ w3) (mvT hZ w4) hy (backOf (W := W) M hZ w4 w3 hf hl) hg hsize (argsL := argsL) (rest := rest) hlen hstack hW hdg (fun _ _ => ⟨has, eT, hc, hs⟩)
  dsimp only [Pt.U, Pt.locs, Pt.cells, Pt.slots] at X' l1 y1 z1 st hQ
  subst l1 y1 z1
  exact ⟨v, T', Lc, X', hQ, st⟩
theorem callVirtual (X : Stand p l e R s m args below meth c T locs cells slots) (hx : p.tables.exec = Jvm.exec) (hZ : Z.Warmed39 s.vm) {own K : String} {index : Nat} {y z : MethodName} {bytes : ByteArray} {maxL W : Nat} {ret : Option FieldType} {rm : Room} {as' : Array Value}
    (hown : s.vm.findClass own = some m.cls) (w1 : (Jvm.Cond.methodLink own index y).before a0 Z = true) (w2 : (Jvm.Cond.declares y).before a0 Z = true) (nf : NotFace s y) (w3 : (Jvm.Cond.selects K y z).before a0 Z = true) (w5 : (Jvm.Cond.instanceMethod z).before a0 Z = true) (w6 : (Jvm.Cond.initialized z.cls).before a0 Z = true) (w4 : (Jvm.Cond.code z bytes maxL ret).before a0 Z = true) (hy : y.cls ≠ "java/lang/invoke/MethodHandle" ∧ y.cls ≠ "java/lang/invoke/VarHandle")
    (M : Pays l Z z bytes maxL ret [] rm as' h Q) (hf : rm.frames + 1 ≤ R.frames) (hl : W + (maxL + 11) + rm.locals ≤ R.locals) (hc : cells + rm.cells ≤ R.cells) (hs : slots + rm.slots ≤ R.slots) (eT : T.heap = h) {b : Addr} (E : Exa Z h b K)
    {g : JFrame} (hg : g.method = m) (hsize : g.locals.size = c.maxLocals) {argsL rest : List Value} (hlen : ∀ sig, parseMethodDescriptor y.desc = some sig → argsL.length = sig.parameters.length) (hstack : g.stack = argsL.reverse ++ .ref b :: rest) (has : (.ref b :: argsL).toArray = as') (hW : 2 * g.monitorRoom + (rest.map fun v => v.category).sum ≤ W) (hdg : decode c.code g.pc = .ok (.invokevirtual index, 3)) :
    ∃ (v : Option Value) (T' : State) (L : List Loc), Stand p l e R s m args below meth c T' (locs ++ L) (cells + rm.cells) (slots + rm.slots) ∧ Q v T'.heap L ∧ ∀ t, Steps p.tables e below (T'.setTop { g with pc := g.pc + 3, stack := v.toList ++ rest }) t → Steps p.tables e below (T.setTop g) t := by
  obtain ⟨cq, kq, qa, -, qc⟩ := isOf (T := T) hZ eT E
  obtain ⟨v, vm1, ⟨T', L', k', n'⟩, -, X', ⟨Lc, hQ, l1, y1, z1⟩, st⟩ := X.virtualBack hx (y := y) (z := z) hown (mvT hZ w1) (mvT hZ w2) nf (mvT hZ w3) (mvT hZ w5) hy (backOf (W := W) M hZ w4 w6 hf hl) qa qc hg hsize (Steps.refl _) (argsL := argsL) (rest := rest) hlen hstack hW hdg (fun _ _ => ⟨has, eT, hc, hs⟩)
  dsimp only [Pt.U, Pt.locs, Pt.cells, Pt.slots] at X' l1 y1 z1 st hQ
  subst l1 y1 z1
  exact ⟨v, T', Lc, X', hQ, fun t k => st.trans k⟩
theorem callInit (X : Stand p l e R s m args below meth c T locs cells slots) (hx : p.tables.exec = Jvm.exec) (hZ : Z.Warmed39 s.vm) {own : String} {index : Nat} {y : MethodName} {bytes : ByteArray} {maxL W : Nat} {rm : Room} {as' : Array Value}
    (hy1 : y.name = "<init>") (hown : s.vm.findClass own = some m.cls) (w1 : (Jvm.Cond.methodLink own index y).before a0 Z = true) (w5 : (Jvm.Cond.instanceMethod y).before a0 Z = true) (w6 : (Jvm.Cond.initialized y.cls).before a0 Z = true) (w4 : (Jvm.Cond.code y bytes maxL none).before a0 Z = true) (hy : y.cls ≠ "java/lang/invoke/MethodHandle" ∧ y.cls ≠ "java/lang/invoke/VarHandle")
    (M : Pays l Z y bytes maxL none [] rm as' h Q) (hf : rm.frames + 1 ≤ R.frames) (hl : W + (maxL + 11) + rm.locals ≤ R.locals) (hc : cells + rm.cells ≤ R.cells) (hs : slots + rm.slots ≤ R.slots) (eT : T.heap = h) {b : Addr}
    {g : JFrame} (hg : g.method = m) (hsize : g.locals.size = c.maxLocals) {argsL rest : List Value} (hlen : ∀ sig, parseMethodDescriptor y.desc = some sig → argsL.length = sig.parameters.length) (hstack : g.stack = argsL.reverse ++ .ref b :: rest) (has : (.ref b :: argsL).toArray = as') (hW : 2 * g.monitorRoom + (rest.map fun v => v.category).sum ≤ W) (hdg : decode c.code g.pc = .ok (.invokespecial index, 3)) :
    ∃ (v : Option Value) (T' : State) (L : List Loc), Stand p l e R s m args below meth c T' (locs ++ L) (cells + rm.cells) (slots + rm.slots) ∧ Q v T'.heap L ∧ ∀ t, Steps p.tables e below (T'.setTop { g with pc := g.pc + 3, stack := v.toList ++ rest }) t → Steps p.tables e below (T.setTop g) t := by
  obtain ⟨v, vm1, ⟨T', L', k', n'⟩, -, X', ⟨Lc, hQ, l1, y1, z1⟩, st⟩ := X.specialBack hx (y := y) hy1 hown (mvT hZ w1) (mvT hZ w5) (mvT hZ w4) hy (backOf (W := W) M hZ w4 w6 hf hl) hg hsize (Steps.refl _) (a := b) (argsL := argsL) (rest := rest) hlen hstack hW hdg (fun _ _ => ⟨has, eT, hc, hs⟩)
  dsimp only [Pt.U, Pt.locs, Pt.cells, Pt.slots] at X' l1 y1 z1 st hQ
  subst l1 y1 z1
  exact ⟨v, T', Lc, X', hQ, fun t k => st.trans k⟩
theorem callPrivate (X : Stand p l e R s m args below meth c T locs cells slots) (hx : p.tables.exec = Jvm.exec) (hZ : Z.Warmed39 s.vm) {own K : String} {index kk : Nat} {y : MethodName} {bytes : ByteArray} {maxL W : Nat} {ret : Option FieldType} {rm : Room} {as' : Array Value}
    (hown : s.vm.findClass own = some m.cls) (w1 : (Jvm.Cond.methodLink own index y).before a0 Z = true) (w5 : (Jvm.Cond.instanceMethod y).before a0 Z = true) (wp : (Jvm.Cond.privateMethod y).before a0 Z = true) (wi : (Jvm.Cond.instantiable y.cls kk).before a0 Z = true) (w6 : (Jvm.Cond.initialized y.cls).before a0 Z = true) (w4 : (Jvm.Cond.code y bytes maxL ret).before a0 Z = true) (hy : y.cls ≠ "java/lang/invoke/MethodHandle" ∧ y.cls ≠ "java/lang/invoke/VarHandle")
    (M : Pays l Z y bytes maxL ret [] rm as' h Q) (hf : rm.frames + 1 ≤ R.frames) (hl : W + (maxL + 11) + rm.locals ≤ R.locals) (hc : cells + rm.cells ≤ R.cells) (hs : slots + rm.slots ≤ R.slots) (eT : T.heap = h) {b : Addr} (E : Exa Z h b K)
    {g : JFrame} (hg : g.method = m) (hsize : g.locals.size = c.maxLocals) {argsL rest : List Value} (hlen : ∀ sig, parseMethodDescriptor y.desc = some sig → argsL.length = sig.parameters.length) (hstack : g.stack = argsL.reverse ++ .ref b :: rest) (has : (.ref b :: argsL).toArray = as') (hW : 2 * g.monitorRoom + (rest.map fun v => v.category).sum ≤ W) (hdg : decode c.code g.pc = .ok (.invokevirtual index, 3)) :
    ∃ (v : Option Value) (T' : State) (L : List Loc), Stand p l e R s m args below meth c T' (locs ++ L) (cells + rm.cells) (slots + rm.slots) ∧ Q v T'.heap L ∧ ∀ t, Steps p.tables e below (T'.setTop { g with pc := g.pc + 3, stack := v.toList ++ rest }) t → Steps p.tables e below (T.setTop g) t := by
  obtain ⟨cc, kc, i1, i2, -, i4, -⟩ := Cond.instantiable_spec (mvT (args := args) hZ wi)
  have i5 : kc.isInterface = false := by cases hq : kc.isInterface <;> simp_all
  have hpr := Cond.privateMethod_at (mvP (args := #[]) hZ wp)
  obtain ⟨cell, c1, c2⟩ := E.cell
  obtain ⟨v, vm1, ⟨T', L', k', n'⟩, -, X', ⟨Lc, hQ, l1, y1, z1⟩, st⟩ := X.privateBack hx (y := y) hown (mvT hZ w1) (mvT hZ w5) (selects_self_of_private i1 i2 i5 hpr (mvT hZ w5) hy) hpr (mvT hZ w4) hy (backOf (W := W) M hZ w4 w6 hf hl) hg hsize (Steps.refl _) (a := b) (cell := cell) (by rw [eT]; exact c1) c2 (argsL := argsL) (rest := rest) hlen hstack hW hdg (fun _ _ => ⟨has, eT, hc, hs⟩)
  dsimp only [Pt.U, Pt.locs, Pt.cells, Pt.slots] at X' l1 y1 z1 st hQ
  subst l1 y1 z1
  exact ⟨v, T', Lc, X', hQ, fun t k => st.trans k⟩
theorem callFace (X : Stand p l e R s m args below meth c T locs cells slots) (hx : p.tables.exec = Jvm.exec) (hZ : Z.Warmed39 s.vm) {own K : String} {index count : Nat} {y z : MethodName} {bytes : ByteArray} {maxL W : Nat} {ret : Option FieldType} {rm : Room} {as' : Array Value}
    (hown : s.vm.findClass own = some m.cls) (w1 : (Jvm.Cond.methodLink own index y).before a0 Z = true) (w2 : (Jvm.Cond.declares y).before a0 Z = true) (wf : (Jvm.Cond.interfaceMethod y.cls y.cls y.name y.desc).before args s = true) (w3 : (Jvm.Cond.selects K y z).before a0 Z = true) (w5 : (Jvm.Cond.instanceMethod z).before a0 Z = true) (wp : (Jvm.Cond.publicMethod z).before a0 Z = true) (wu : (Jvm.Cond.unhidden K y.name y.desc).before a0 Z = true) (wc : (Jvm.Cond.castable K y.cls).before a0 Z = true) (w6 : (Jvm.Cond.initialized z.cls).before a0 Z = true) (w4 : (Jvm.Cond.code z bytes maxL ret).before a0 Z = true) (hy : y.cls ≠ "java/lang/invoke/MethodHandle" ∧ y.cls ≠ "java/lang/invoke/VarHandle")
    (M : Pays l Z z bytes maxL ret [] rm as' h Q) (hf : rm.frames + 1 ≤ R.frames) (hl : W + (maxL + 11) + rm.locals ≤ R.locals) (hc : cells + rm.cells ≤ R.cells) (hs : slots + rm.slots ≤ R.slots) (eT : T.heap = h) {b : Addr} (E : Exa Z h b K)
    {g : JFrame} (hg : g.method = m) (hsize : g.locals.size = c.maxLocals) {argsL rest : List Value} (hlen : ∀ sig, parseMethodDescriptor y.desc = some sig → argsL.length = sig.parameters.length) (hstack : g.stack = argsL.reverse ++ .ref b :: rest) (has : (.ref b :: argsL).toArray = as') (hW : 2 * g.monitorRoom + (rest.map fun v => v.category).sum ≤ W) (hdg : decode c.code g.pc = .ok (.invokeinterface index count, 5)) :
    ∃ (v : Option Value) (T' : State) (L : List Loc), Stand p l e R s m args below meth c T' (locs ++ L) (cells + rm.cells) (slots + rm.slots) ∧ Q v T'.heap L ∧ ∀ t, Steps p.tables e below (T'.setTop { g with pc := g.pc + 5, stack := v.toList ++ rest }) t → Steps p.tables e below (T.setTop g) t := by
  obtain ⟨cq, kq, qa, qb, qc⟩ := isOf (T := T) hZ eT E
  obtain ⟨v, vm1, ⟨T', L', k', n'⟩, -, X', ⟨Lc, hQ, l1, y1, z1⟩, st⟩ := X.interfaceBack hx (xi := y) (y := z) hown (mvT hZ w1) (mvT hZ w2) wf (mvT hZ w3) (mvT hZ w5) (mvT hZ wp) (mvT hZ wu) (mvT hZ wc) hy (backOf (W := W) M hZ w4 w6 hf hl) qa qb qc hg hsize (Steps.refl _) (argsL := argsL) (rest := rest) hlen hstack hW hdg (fun _ _ => ⟨has, eT, hc, hs⟩)
  dsimp only [Pt.U, Pt.locs, Pt.cells, Pt.slots] at X' l1 y1 z1 st hQ
  subst l1 y1 z1
  exact ⟨v, T', Lc, X', hQ, fun t k => st.trans k⟩
theorem castV (X : Stand p l e R s m args below meth c T locs cells slots) (hx : p.tables.exec = Jvm.exec) (hZ : Z.Warmed39 s.vm) {own K : String} {index : Nat} (hown : s.vm.findClass own = some m.cls) (w : (Jvm.Cond.classLink own index K).before a0 Z = true) (eT : T.heap = h) {v : Value} (F : v = .null ∨ ∃ a, v = .ref a ∧ Ins Z h a K true)
    {g : JFrame} (hg : g.method = m) {rest : List Value} (hs : g.stack = v :: rest) (hd : decode c.code g.pc = .ok (.checkcast index, 3)) : ∃ T', Stand p l e R s m args below meth c T' locs cells slots ∧ T'.heap = h ∧ ∀ target, Steps p.tables e below (T'.setTop { g with pc := g.pc + 3 }) target → Steps p.tables e below (T.setTop g) target := by
  rcases F with rfl | ⟨a, rfl, I⟩
  · exact ⟨T, X, eT, fun t k => X.checkcastNull hx (g := g) hg hs hd t k⟩
  · exact castY X hx hZ hown w eT I hg hs hd
theorem moreRoom {cells' slots' : Nat} (X : Stand p l e R s m args below meth c T locs cells slots) (h1 : cells ≤ cells') (h2 : slots ≤ slots') : Stand p l e R s m args below meth c T locs cells' slots' :=
  { X with same := X.same.mono h1 h2 }
theorem wdOf {ts : List Jvm.Cond} (hw : ∀ d ∈ ts, d.before a0 Z = true) {d : Jvm.Cond} (k : Nat) (hk : ts[k]? = some d) : d.before a0 Z = true := hw _ (List.mem_of_getElem? hk)
end Own
end Jvm.RoadKit
namespace Jvm.RoadKit
open Sem ClassFile Op Lib Jvm.Stand Jvm.Free Jvm.LawKit
section OwnWords
variable {args : Array Value} {first s : State} {o : Option Outcome} {idx : List Nat} {t : Term}
theorem eqInt_v {k : Int32} (h : (Jvm.Cond.eq t (.int k)).value args first o s idx = some true) : t.eval args first o idx s = some (.int k) := by
  simp only [Jvm.Cond.value, Term.eval] at h
  cases ht : t.eval args first o idx s with
  | none => simp [ht] at h
  | some x => cases x <;> simp [ht] at h ⊢; exact h
theorem ownFits {ty : FieldType} {v : Value} (hv : v.isRef = true) (ht : ty.isReference = true) : fits ty v = true := by
  rcases ref_cases hv with rfl | ⟨a, rfl⟩ <;> cases ty <;> first | rfl | cases ht
theorem Sta.keepN {Z : State} {h h' : Heap} {C n d : String} {v : Value} {ws : List Addr} (F : Sta Z h C n d v) (K : Keep h h' ws) (hn : ∀ a ∈ ws, ∃ c : Cell, h[a]? = some c ∧ ∀ q, c.vm ≠ .statics q) : Sta Z h' C n d v := by
  obtain ⟨cf, i, k, f, st, cell, h1, h2, h3, h4, h5, h6, h7⟩ := F
  refine ⟨cf, i, k, f, st, cell, h1, h2, h3, h4, K.2.1 _ _ h5 fun hm => ?_, h6, h7⟩
  obtain ⟨c, g1, g2⟩ := hn st hm
  cases h5.symm.trans g1
  cases hq : cell.vm <;> first | (rw [hq] at h6; exact Bool.noConfusion h6) | exact g2 _ hq
theorem NSr {Z : State} {a0 : Array Value} {O K : String} {n : Nat} (w : (Jvm.Cond.noSuperclass O).before a0 Z = true) (wi : (Jvm.Cond.instantiable K n).before a0 Z = true) (hn : O ≠ K) : NS Z O K := by
  obtain ⟨c, k, h1, h2, h3, -, -⟩ := Cond.noSuperclass_spec w
  obtain ⟨t, kt, g1, -⟩ := Cond.instantiable_spec wi
  refine ⟨c, t, h1, g1, fun fuel => ?_⟩
  cases fuel with
  | zero => rfl
  | succ f => simp [Vm.isSubclassAux, ids_ne h1 g1 hn, h2, h3]
theorem NSno {Z : State} {a0 : Array Value} {C S K : String} {n : Nat} (w : (Jvm.Cond.superclass C S).before a0 Z = true) (wi : (Jvm.Cond.instantiable K n).before a0 Z = true) (q : NS Z C K) (hn : C ≠ K) : ∃ c t, Z.vm.findClass C = some c ∧ Z.vm.findClass K = some t ∧ Z.vm.assignable c t = false := by
  obtain ⟨c, t, h0, g0, n3⟩ := q
  obtain ⟨_, k, _, -, h2, -, -, h5, -, -⟩ := Cond.superclass_spec h0 w
  obtain ⟨t', k', g1, g2, g5, g7, -⟩ := Cond.instantiable_spec wi
  cases g0.symm.trans g1
  have g8 : k'.isInterface = false := by cases hq : k'.isInterface <;> simp_all
  refine ⟨c, t, h0, g0, ?_⟩
  show Z.vm.assignableAux (255 + 1) c t = false
  simp [Vm.assignableAux, ids_ne h0 g0 hn, h2, g2, h5, g5, g8, Vm.isSubclass, n3]
theorem Ext.of_keep {h h' : Heap} (K : Keep h h' []) : Ext h h' := ⟨K.1, fun a c q => K.2.1 a c q nin0⟩
theorem Keep.of_ext {h h' : Heap} (E : Ext h h') (ws : List Addr) : Keep h h' ws := (Keep.refl h ws).ext E
theorem ofInt {x : Int32} (n : Int32) (h : x.toInt = n.toInt) : x = n := Int32.toInt_inj.mp h
end OwnWords
end Jvm.RoadKit
namespace Jvm.RoadKit
open Sem ClassFile Op Lib Jvm.Stand Jvm.Free Jvm.LawKit
section OwnBox
theorem eqVal_v {args : Array Value} {first s : State} {o : Option Outcome} {idx : List Nat} {t u : Term} {w : Value} (h : (Jvm.Cond.eq t u).value args first o s idx = some true) (hu : u.eval args first o idx s = some w) (hw : (∃ n, w = .int n) ∨ ∃ n, w = .long n) : t.eval args first o idx s = some w := by
  rcases hw with ⟨n, rfl⟩ | ⟨n, rfl⟩ <;>
  · simp only [Jvm.Cond.value, hu] at h
    cases ht : t.eval args first o idx s with
    | none => simp [ht] at h
    | some x => cases x <;> simp [ht] at h ⊢; exact h
/-- a cache of 256 boxes, as it stands in the heap of Z: the i-th holds val i -/
def BoxC (Z : State) (K D B vd : String) (val : Nat → Value) : Prop := ∃ (ca : Addr) (cl : Cell), Sta Z Z.heap K "cache" D (.ref ca) ∧ Arr Z Z.heap ca cl (.object B) ∧ cl.slots.size = 256 ∧ ∀ i, i < 256 → ∃ r, cl.slots[i]? = some (.ref r) ∧ Exa Z Z.heap r B ∧ Fld Z Z.heap r B "value" vd (val i)
theorem clamp256 {i : Nat} (h : i < 256) : i.toInt32.toNatClampNeg = i := by
  have : i.toInt32.toInt = i := Int32.toInt_ofNat_small (by omega)
  simp [Int32.toNatClampNeg, this]
theorem BoxC.start {s : State} {args : Array Value} {K D B vd : String} {u : Term} {val : Nat → Value} (hi : (Jvm.Cond.initialized K).before args s = true) (hl : (Jvm.Cond.laysStatic K "cache" D).before args s = true)
    (ha : (Jvm.Cond.arrayOf (.static K "cache" D) (.object B)).before args s = true) (hn : (Jvm.Cond.eq (.length (.static K "cache" D)) (.int 256)).before args s = true)
    (hall : (Jvm.Cond.all (.static K "cache" D) (.and (.exactly (.elem (.static K "cache" D) (.index 0)) B) (.eq (.field (.elem (.static K "cache" D) (.index 0)) B "value" vd) u))).before args s = true)
    (hu : ∀ i : Nat, u.eval args s none [i] s = some (val i)) (hv : ∀ i, (∃ n, val i = .int n) ∨ ∃ n, val i = .long n) : BoxC s K D B vd val := by
  have ha' := Cond.before_iff.mp ha
  obtain ⟨ca, ev⟩ := arr_v ha'
  obtain ⟨cl, A⟩ := Arr.start ev ha'
  have hat : s.arrayAt? ca = some cl := A.fin (Vm.Alike.refl _)
  have hsz : cl.slots.size = 256 := by
    have h1 := eqInt_v (Cond.before_iff.mp hn)
    simp only [Term.eval, hat] at h1
    have ev' := ev
    simp only [Term.eval] at ev'
    rw [ev'] at h1
    by_cases hq : cl.slots.size < 2 ^ 31
    · simp [hat, hq] at h1
      have h2 : cl.slots.size.toInt32.toInt = 256 := by rw [h1]; rfl
      rw [Int32.toInt_ofNat_small hq] at h2
      omega
    · simp [hat, hq] at h1
  refine ⟨ca, cl, Sta.start ev (Or.inr ⟨hi, hl⟩), A, hsz, fun i hi => ?_⟩
  obtain ⟨h1, h2⟩ := and_e (Cond.all_elim ev hat (Cond.before_iff.mp hall) i (by omega))
  obtain ⟨r, er⟩ := exa_v h1
  have ev1 : (Term.static K "cache" D).eval args s none [i] s = some (.ref ca) := ev
  obtain ⟨-, q⟩ := elem_in er ev1 (Term.index_eval (idx := []) i) A.1
  rw [clamp256 hi] at q
  refine ⟨r, q, exa_at er h1, Fld.start ?_⟩
  rw [← fld_at er]
  exact eqVal_v h2 (hu i) (hv i)
end OwnBox
end Jvm.RoadKit
namespace Jvm.RoadKit
open Sem ClassFile Op Lib Jvm.Stand Jvm.Free Jvm.LawKit
section OwnCold
variable {p : Program} {l : Launch} {e : Env} {R : Room} {s : State} {m : MethodId} {args : Array Value} {below : List Frame} {meth : Method} {c : Code} {T U U' : State} {locs : List Loc} {cells slots : Nat} {Z : State} {a0 : Array Value} {h h' : Heap} {Q : Option Value → State → List Loc → Prop} {C S : Nat} {vm0 vm1 : Vm}
/-- as Goes, but the body may have interned a String constant -/
def GoesW (p : Program) (e : Env) (s : State) (below : List Frame) (Q : Option Value → State → List Loc → Prop) (C S : Nat) (U : State) : Prop :=
  ∃ s₂ o, Steps p.tables e below U s₂ ∧ s₂.status = .running ∧ Ended s₂ below o ∧ ∃ v L, o = .returned v ∧ Q v s₂ L ∧ ReturnedEndW s o s₂ L C S
theorem GoesW.go (st : ∀ t, Steps p.tables e below U' t → Steps p.tables e below U t) (k : GoesW p e s below Q C S U') : GoesW p e s below Q C S U := by
  obtain ⟨s₂, o, h1, h2⟩ := k
  exact ⟨s₂, o, st _ h1, h2⟩
theorem GoesW.leave {n : Nat} {v : Option Value} (X : Stand p l e R (s.setVm vm0) m args below meth c T locs cells slots) (hS : s.Since vm0 n) (hn : n ≤ T.heap.size) (hlk : meth.locks = false) (hv : meth.sig.returnType = none → v = none) (hQ : ∀ V : State, V.heap = T.heap → V.vm = T.vm → Q v V locs) (hc : cells ≤ C) (hs : slots ≤ S)
    (st : ∀ fs, (∀ (f : JFrame) (acts : List Action), f.method = m → f.locked = none → f.entered = [] → (doReturn e (T.setTop f) acts v).1 = T.setFrames fs) → Steps p.tables e below U (T.setFrames fs)) : GoesW p e s below Q C S U := by
  obtain ⟨fs, hr, hrun, hended, h1, h2, h3, h4⟩ := X.leaveW hS hn (v := v) hv hlk
  exact ⟨_, _, st fs hr, hrun, hended, _, _, rfl, hQ _ rfl rfl, h1, h2, h3, h4.mono hc hs⟩
theorem GoesW.retA {n pc : Nat} {Ls : Array Slot} {v : Value} {t : FieldType} {rest : List Value} (X : Stand p l e R (s.setVm vm0) m args below meth c T locs cells slots) (hx : p.tables.exec = Jvm.exec) (hS : s.Since vm0 n) (hn : n ≤ T.heap.size) (hlk : meth.locks = false) (hret : meth.sig.returnType = some t) (ht : t.isReference = true) (hv : v.isRef = true) (hd : decode c.code pc = .ok (.areturn, 1)) (hc : cells ≤ C) (hs : slots ≤ S) (hQ : ∀ V : State, V.heap = T.heap → V.vm = T.vm → Q (some v) V locs) : GoesW p e s below Q C S (T.setTop (mkF m pc Ls (v :: rest))) :=
  GoesW.leave X hS hn hlk (fun h => by rw [hret] at h; cases h) hQ hc hs fun fs hr => retOut X hx hret (ownNarrow hv ht) (Or.inr (Or.inr (Or.inr (Or.inr ⟨rfl, ht, hv⟩)))) hd hr
theorem GoesW.retV {n pc : Nat} {Ls : Array Slot} (X : Stand p l e R (s.setVm vm0) m args below meth c T locs cells slots) (hx : p.tables.exec = Jvm.exec) (hS : s.Since vm0 n) (hn : n ≤ T.heap.size) (hlk : meth.locks = false) (hret : meth.sig.returnType = none) (hd : decode c.code pc = .ok (.return_, 1)) (hc : cells ≤ C) (hs : slots ≤ S) (hQ : ∀ V : State, V.heap = T.heap → V.vm = T.vm → Q none V locs) : GoesW p e s below Q C S (T.setTop (mkF m pc Ls [])) :=
  GoesW.leave X hS hn hlk (fun _ => rfl) hQ hc hs fun fs hr => X.returnOut hx hret hd hr
theorem GoesW.retB {n pc : Nat} {Ls : Array Slot} {z : Int32} {rest : List Value} (X : Stand p l e R (s.setVm vm0) m args below meth c T locs cells slots) (hx : p.tables.exec = Jvm.exec) (hS : s.Since vm0 n) (hn : n ≤ T.heap.size) (hlk : meth.locks = false) (hret : meth.sig.returnType = some .boolean) (hd : decode c.code pc = .ok (.ireturn, 1)) (hc : cells ≤ C) (hs : slots ≤ S) (hQ : ∀ V : State, V.heap = T.heap → V.vm = T.vm → Q (some (.int (nar .boolean z))) V locs) : GoesW p e s below Q C S (T.setTop (mkF m pc Ls (.int z :: rest))) :=
  GoesW.leave X hS hn hlk (fun h => by rw [hret] at h; cases h) hQ hc hs fun fs hr => retN X hx (t := .boolean) hret (by simp) hd hr
/-- a contract of a body that may intern: LI is what is known of the tables and the heap at its start -/
def PaysW (l : Launch) (Z : State) (y : MethodName) (bytes : ByteArray) (maxL : Nat) (ret : Option FieldType) (ws : List Jvm.Cond) (rm : Room) (as' : Array Value) (h : Heap) (LI : Vm → Heap → Prop) (Q : Option Value → State → List Loc → Prop) : Prop :=
  MetFree l y (head1 (Jvm.Cond.code y bytes maxL ret :: ws) rm) (fun a U => a = as' ∧ Z.Warmed39 U.vm ∧ U.heap = h ∧ LI U.vm U.heap) (fun _ _ _ _ _ => True) (fun _ U o U' => ∃ v L, o = .returned v ∧ Q v U' L ∧ ReturnedEndW U o U' L rm.cells rm.slots)
theorem PaysW.of {LI : Vm → Heap → Prop} {y : MethodName} {bytes : ByteArray} {maxL : Nat} {ret : Option FieldType} {ws : List Jvm.Cond} {rm : Room} {as' : Array Value} (hpl : plainFor y = true)
    (body : ∀ (p : Program) (e : Env) (s : State) (m : MethodId) (below : List Frame) (meth : Method) (c : Code) (s₁ : State), p.tables.exec = Jvm.exec → c.code = bytes → c.maxLocals = maxL → (s.setVm s.vm).vm.findClass y.cls = some m.cls → meth.name = y.name → meth.sig.returnType = ret → meth.locks = false → Z.Warmed39 (s.setVm s.vm).vm → s₁.heap = h → s.heap = h → LI (s.setVm s.vm).vm h → s.Since s.vm 0 → Stand p l e rm (s.setVm s.vm) m as' below meth c s₁ [] 0 0 → GoesW p e s below Q rm.cells rm.slots (s₁.setTop (entryFrame m as' maxL))) :
    PaysW l Z y bytes maxL ret ws rm as' h LI Q := by
  refine MetFree.of_bodySF hpl hisR ?_
  intro p e s m args below meth c s₁ Bd hml hP hK
  obtain ⟨rfl, hZ, hh, hLI⟩ := hP
  obtain ⟨s₂, o, h1, h2, h3, h4⟩ := body p e s m below meth c s₁ Bd.exec Bd.bytes hml (findClass_of_methodNamed Bd.named) (name_of_methodNamed Bd.named Bd.method).1 Bd.returns Bd.notSynchronized hZ (by rw [← hh, Bd.state]; rfl) hh (hh ▸ hLI) ((State.WarmedH.refl s).since 0) (Stand.of_body Bd)
  exact ⟨s₂, o, h1, h2, h3, h4⟩
theorem backW {LI : Vm → Heap → Prop} {y : MethodName} {bytes : ByteArray} {maxL : Nat} {ret : Option FieldType} {rm : Room} {len W : Nat} {as' : Array Value} (hM : PaysW l Z y bytes maxL ret [] rm as' h LI Q) (hZ : Z.Warmed39 s.vm) (wc : (Jvm.Cond.code y bytes maxL ret).before a0 Z = true) (wz : (Jvm.Cond.initialized y.cls).before a0 Z = true) (hf : rm.frames + 1 ≤ R.frames) (hl : W + (maxL + 11) + rm.locals ≤ R.locals) :
    BackS l R p e below s args y len W (fun A a => a = as' ∧ A.U.heap = h ∧ LI A.U.vm A.U.heap ∧ A.cells + rm.cells ≤ R.cells ∧ A.slots + rm.slots ≤ R.slots)
      (fun A _ v B => ∃ (L : List Loc) (V : State), V.heap = B.U.heap ∧ V.vm = B.U.vm ∧ Q v V L ∧ B.locs = A.locs ++ L ∧ B.cells = A.cells + rm.cells ∧ B.slots = A.slots + rm.slots) :=
  BackS.of_freeW (bytes := bytes) (maxL := maxL) (ret := ret) (E := fun _ _ o t L k n => k = rm.cells ∧ n = rm.slots ∧ ∃ v, o = .returned v ∧ Q v t L) hM hf hl
    (fun m meth c A a Y hp => have hU : Z.Warmed39 A.U.vm := wtrans hZ Y.warmed
      ⟨by show (Jvm.Cond.and _ .tt).before a A.U = true; rw [Cond.before_and, mv hU wc]; rfl, mv hU wc, mv hU wz, hp.2.2.2.1, hp.2.2.2.2⟩)
    (fun m meth c A a g mk Y hp => ⟨hp.1, wtrans hZ Y.warmed, hp.2.1, hp.2.2.1⟩) (fun _ _ _ _ _ _ _ _ _ => trivial)
    (fun _ _ _ _ ⟨v, L, h1, h2, h3⟩ => ⟨L, _, _, h3, rfl, rfl, v, h1, h2⟩)
    (fun m meth c A a g mk v t L k n Y hp _ _ ⟨e1, e2, v', e3, e4⟩ => by cases e3; subst e1 e2; exact ⟨L, t, rfl, rfl, e4, rfl, rfl, rfl⟩)
theorem callStaticW {LI : Vm → Heap → Prop} (X : Stand p l e R (s.setVm vm0) m args below meth c T locs cells slots) (hx : p.tables.exec = Jvm.exec) (hZ : Z.Warmed39 (s.setVm vm0).vm) {own : String} {index : Nat} {y : MethodName} {bytes : ByteArray} {maxL W k0 : Nat} {ret : Option FieldType} {rm : Room} {as' : Array Value}
    (hown : (s.setVm vm0).vm.findClass own = some m.cls) (w1 : (Jvm.Cond.methodLink own index y).before a0 Z = true) (w2 : (Jvm.Cond.static y).before a0 Z = true) (w3 : (Jvm.Cond.initialized y.cls).before a0 Z = true) (w4 : (Jvm.Cond.code y bytes maxL ret).before a0 Z = true) (hy : y.cls ≠ "java/lang/invoke/MethodHandle" ∧ y.cls ≠ "java/lang/invoke/VarHandle")
    (M : PaysW l Z y bytes maxL ret [] rm as' h LI Q) (hf : rm.frames + 1 ≤ R.frames) (hl : W + (maxL + 11) + rm.locals ≤ R.locals) (hc : cells + rm.cells ≤ R.cells) (hs : slots + rm.slots ≤ R.slots) (eT : T.heap = h) (hLI : ∀ vm₁, (s.setVm vm0).WarmedH vm₁ → LI vm₁ h) (hS : s.Since vm0 k0) (hk : k0 ≤ h.size)
    {g : JFrame} (hg : g.method = m) (hsize : g.locals.size = c.maxLocals) {argsL rest : List Value} (hlen : ∀ sig, parseMethodDescriptor y.desc = some sig → argsL.length = sig.parameters.length) (hstack : g.stack = argsL.reverse ++ rest) (has : argsL.toArray = as') (hW : 2 * g.monitorRoom + (rest.map fun v => v.category).sum ≤ W) (hdg : decode c.code g.pc = .ok (.invokestatic index, 3)) :
    ∃ (v : Option Value) (T' V : State) (L : List Loc), Stand p l e R (s.setVm T'.vm) m args below meth c T' (locs ++ L) (cells + rm.cells) (slots + rm.slots) ∧ V.heap = T'.heap ∧ V.vm = T'.vm ∧ Q v V L ∧ s.Since T'.vm T'.heap.size ∧ Z.Warmed39 (s.setVm T'.vm).vm ∧ (s.setVm T'.vm).vm.findClass own = some m.cls ∧ ∀ t, Steps p.tables e below (T'.setTop { g with pc := g.pc + 3, stack := v.toList ++ rest }) t → Steps p.tables e below (T.setTop g) t := by
  obtain ⟨v, vm1, ⟨T', L', k', n'⟩, -, X', h2, hgr, ⟨Lc, V, v1, v2, hQ, l1, y1, z1⟩, st⟩ := callSS X hx (y := y) hown (mvT hZ w1) (mvT hZ w2) (mvT hZ w3) (mvT hZ w4) hy (backW (W := W) M hZ w4 w3 hf hl) hg hsize (argsL := argsL) (rest := rest) hlen hstack hW hdg (fun vm1 q => ⟨has, eT, by show LI vm1 T.heap; rw [eT]; exact hLI vm1 q, hc, hs⟩)
  dsimp only [Pt.U, Pt.locs, Pt.cells, Pt.slots] at X' l1 y1 z1 st hQ h2 hgr v1 v2
  subst l1 y1 z1
  obtain ⟨r1, r2, r3, r4⟩ := rebS (n1 := h.size) hS hk X' h2 (by rw [← eT]; exact hgr) hZ hown
  exact ⟨v, T', V, Lc, r1, v1, v2, hQ, r2, r3, r4, fun t k => st.trans k⟩
theorem callInitW {LI : Vm → Heap → Prop} (X : Stand p l e R (s.setVm vm0) m args below meth c T locs cells slots) (hx : p.tables.exec = Jvm.exec) (hZ : Z.Warmed39 (s.setVm vm0).vm) {own : String} {index : Nat} {y : MethodName} {bytes : ByteArray} {maxL W k0 : Nat} {rm : Room} {as' : Array Value}
    (hy1 : y.name = "<init>") (hown : (s.setVm vm0).vm.findClass own = some m.cls) (w1 : (Jvm.Cond.methodLink own index y).before a0 Z = true) (w5 : (Jvm.Cond.instanceMethod y).before a0 Z = true) (w6 : (Jvm.Cond.initialized y.cls).before a0 Z = true) (w4 : (Jvm.Cond.code y bytes maxL none).before a0 Z = true) (hy : y.cls ≠ "java/lang/invoke/MethodHandle" ∧ y.cls ≠ "java/lang/invoke/VarHandle")
    (M : PaysW l Z y bytes maxL none [] rm as' h LI Q) (hf : rm.frames + 1 ≤ R.frames) (hl : W + (maxL + 11) + rm.locals ≤ R.locals) (hc : cells + rm.cells ≤ R.cells) (hs : slots + rm.slots ≤ R.slots) (eT : T.heap = h) (hLI : ∀ vm₁, (s.setVm vm0).WarmedH vm₁ → LI vm₁ h) (hS : s.Since vm0 k0) (hk : k0 ≤ h.size) {b : Addr}
    {g : JFrame} (hg : g.method = m) (hsize : g.locals.size = c.maxLocals) {argsL rest : List Value} (hlen : ∀ sig, parseMethodDescriptor y.desc = some sig → argsL.length = sig.parameters.length) (hstack : g.stack = argsL.reverse ++ .ref b :: rest) (has : (.ref b :: argsL).toArray = as') (hW : 2 * g.monitorRoom + (rest.map fun v => v.category).sum ≤ W) (hdg : decode c.code g.pc = .ok (.invokespecial index, 3)) :
    ∃ (v : Option Value) (T' V : State) (L : List Loc), Stand p l e R (s.setVm T'.vm) m args below meth c T' (locs ++ L) (cells + rm.cells) (slots + rm.slots) ∧ V.heap = T'.heap ∧ V.vm = T'.vm ∧ Q v V L ∧ s.Since T'.vm T'.heap.size ∧ Z.Warmed39 (s.setVm T'.vm).vm ∧ (s.setVm T'.vm).vm.findClass own = some m.cls ∧ ∀ t, Steps p.tables e below (T'.setTop { g with pc := g.pc + 3, stack := v.toList ++ rest }) t → Steps p.tables e below (T.setTop g) t := by
  obtain ⟨v, vm1, ⟨T', L', k', n'⟩, -, X', h2, hgr, ⟨Lc, V, v1, v2, hQ, l1, y1, z1⟩, st⟩ := X.specialBackS hx (y := y) hy1 hown (mvT hZ w1) (mvT hZ w5) (mvT hZ w4) hy (backW (W := W) M hZ w4 w6 hf hl) hg hsize (Steps.refl _) (a := b) (argsL := argsL) (rest := rest) hlen hstack hW hdg (fun vm1 q => ⟨has, eT, by show LI vm1 T.heap; rw [eT]; exact hLI vm1 q, hc, hs⟩)
  dsimp only [Pt.U, Pt.locs, Pt.cells, Pt.slots] at X' l1 y1 z1 st hQ h2 hgr v1 v2
  subst l1 y1 z1
  obtain ⟨r1, r2, r3, r4⟩ := rebS (n1 := h.size) hS hk X' h2 (by rw [← eT]; exact hgr) hZ hown
  exact ⟨v, T', V, Lc, r1, v1, v2, hQ, r2, r3, r4, fun t k => st.trans k⟩
/-- the constant "" of String's own pool: not touched since the start, or loaded, and what it is -/
def LIv (Z : State) (vm : Vm) (h : Heap) : Prop := IB Z vm [] ∨ ∃ a b, Lit (Z.setVm vm) "java/lang/String" 7 a ∧ Exa Z h a "java/lang/String" ∧ Fld Z h a "java/lang/String" "value" "[B" (.ref b) ∧ Fld Z h a "java/lang/String" "coder" "B" (.int (0 : Int32))
theorem LIv.ext (F : LIv Z vm0 h) (E : Ext h h') : LIv Z vm0 h' := F.imp id fun ⟨a, b, L, E1, F1, F2⟩ => ⟨a, b, L, E1.ext E, F1.ext E, F2.ext E⟩
theorem LIv.keepX {x : Addr} {D : String} (F : LIv Z vm0 h) (K : Keep h h' [x]) (E : Exa Z h x D) (hd : "java/lang/String" ≠ D) : LIv Z vm0 h' := F.imp id fun ⟨a, b, L, E1, F1, F2⟩ => have n := ninS (ne_exa E1 E hd) nin0; ⟨a, b, L, E1.keep K, F1.keep K n, F2.keep K n⟩
theorem LIv.keepA {x : Addr} {k n : Nat} {ty : FieldType} {z : Int32} {vs : List Value} {d : Value} (F : LIv Z vm0 h) (K : Keep h h' [x]) (V : Arv Z h x k ty z vs d) (w : (Jvm.Cond.instantiable "java/lang/String" n).before a0 Z = true) : LIv Z vm0 h' := F.imp id fun ⟨a, b, L, E1, F1, F2⟩ => have n := ninS (E1.neArv V w) nin0; ⟨a, b, L, E1.keep K, F1.keep K n, F2.keep K n⟩
theorem LIv.warm (F : LIv Z vm0 h) (hW : (s.setVm vm0).WarmedH vm1) : LIv Z vm1 h := by
  rcases F with I | ⟨a, b, L, r⟩
  · left
    obtain ⟨more, h1, h2⟩ := I
    exact ⟨more, by rw [← h1]; exact hW.interned_eq, h2⟩
  · exact Or.inr ⟨a, b, State.resolvedAt?_warmed39 (s := s.setVm vm0) hW.wide L, r⟩
end OwnCold
end Jvm.RoadKit
namespace Jvm.Pilot.@@N@@
open Jvm Jvm.ClassFile Sem Op Lib Jvm.Free Jvm.Stand Jvm.LawKit Jvm.RoadKit Bundle Jvm.Pilot.@@N@@.Jvm.D
theorem pd_0 : parseMethodDescriptor "()V" = some ⟨[], none⟩ := by decide +kernel
theorem pd_1 : parseMethodDescriptor "(I)V" = some ⟨[.int], none⟩ := by decide +kernel
theorem pd_2 : parseMethodDescriptor "(Ljava/lang/Object;)Z" = some ⟨[(.object "java/lang/Object")], some .boolean⟩ := by decide +kernel
theorem pd_3 : parseMethodDescriptor "()I" = some ⟨[], some .int⟩ := by decide +kernel
theorem pd_4 : parseMethodDescriptor "([CI[BII)I" = some ⟨[(.array .char), .int, (.array .byte), .int, .int], some .int⟩ := by decide +kernel
theorem pd_5 : parseMethodDescriptor "([CII)[B" = some ⟨[(.array .char), .int, .int], some (.array .byte)⟩ := by decide +kernel
theorem pd_6 : parseMethodDescriptor "([BI)B" = some ⟨[(.array .byte), .int], some .byte⟩ := by decide +kernel
theorem pd_7 : parseMethodDescriptor "([CIILjava/lang/Void;)V" = some ⟨[(.array .char), .int, .int, (.object "java/lang/Void")], none⟩ := by decide +kernel
theorem pd_8 : parseMethodDescriptor "([C)V" = some ⟨[(.array .char)], none⟩ := by decide +kernel
theorem pd_9 : parseMethodDescriptor "(Ljava/lang/String;Ljava/lang/Integer;Ljava/lang/String;Ljava/lang/Integer;Ljava/lang/Integer;)V" = some ⟨[(.object "java/lang/String"), (.object "java/lang/Integer"), (.object "java/lang/String"), (.object "java/lang/Integer"), (.object "java/lang/Integer")], none⟩ := by decide +kernel
theorem pd_10 : parseMethodDescriptor "(Ljava/lang/String;)Lcom/example/kilnroute/kilnroute/spark/Resources;" = some ⟨[(.object "java/lang/String")], some (.object "com/example/kilnroute/kilnroute/spark/Resources")⟩ := by decide +kernel
theorem pd_11 : parseMethodDescriptor "()Ljava/lang/String;" = some ⟨[], some (.object "java/lang/String")⟩ := by decide +kernel
theorem pd_12 : parseMethodDescriptor "(Ljava/lang/String;Ljava/lang/String;)Z" = some ⟨[(.object "java/lang/String"), (.object "java/lang/String")], some .boolean⟩ := by decide +kernel
theorem pd_13 : parseMethodDescriptor "()Ljava/lang/Integer;" = some ⟨[], some (.object "java/lang/Integer")⟩ := by decide +kernel
theorem pd_14 : parseMethodDescriptor "(Ljava/lang/Integer;Ljava/lang/Integer;)Z" = some ⟨[(.object "java/lang/Integer"), (.object "java/lang/Integer")], some .boolean⟩ := by decide +kernel
theorem pd_15 : parseMethodDescriptor "(II)Ljava/lang/String;" = some ⟨[.int, .int], some (.object "java/lang/String")⟩ := by decide +kernel
theorem pd_16 : parseMethodDescriptor "(I)Ljava/lang/Integer;" = some ⟨[.int], some (.object "java/lang/Integer")⟩ := by decide +kernel
theorem own_ff (x : Int32) : ¬ (255 : Int32) < ((x &&& (255 : Int32)).toUInt32.toUInt16.toUInt32.toInt32) := by
  rw [i2c_mask, Int32.lt_iff_toInt_lt, c_mask x 255 8 (by decide) (by decide)]
  show ¬ (255 : Int) < _
  omega
theorem own_cs {args : Array Value} {s : State} {t : Term} {k : Int32} (e : t.eval args s none [] s = some (.int k)) (h : (Jvm.Cond.not (.eq t (.int 0))).value args s none s [] = some true) : ¬ k = 0 := fun q => by
  subst q
  have h1 := not_v h
  rw [eq_i e (Term.int_eval 0) rfl] at h1
  cases h1
theorem own_nff (x : Int32) : ¬ (255 : Int32) < nar .char ((x &&& (255 : Int32)).toUInt32.toUInt16.toUInt32.toInt32) := by
  have e : nar .char ((x &&& (255 : Int32)).toUInt32.toUInt16.toUInt32.toInt32) = (x &&& (255 : Int32)).toUInt32.toUInt16.toUInt32.toInt32 := by
    rw [i2c_mask]; exact i2c_mask x
  rw [e]; exact own_ff x
section OwnRef
variable {Z : State} {h h' : Heap} {v : Value} {a : Addr} {C : String}
/-- null, or an object of just that class -/
def RefV (Z : State) (h : Heap) (v : Value) (C : String) : Prop := v = .null ∨ ∃ r, v = .ref r ∧ Exa Z h r C
theorem RefV.ext (F : RefV Z h v C) (E : Ext h h') : RefV Z h' v C := F.imp id fun ⟨r, e, E1⟩ => ⟨r, e, E1.ext E⟩
theorem RefV.keep {ws : List Addr} (F : RefV Z h v C) (K : Keep h h' ws) : RefV Z h' v C := F.imp id fun ⟨r, e, E1⟩ => ⟨r, e, E1.keep K⟩
theorem RefV.isRef (F : RefV Z h v C) : v.isRef = true := by rcases F with rfl | ⟨r, rfl, -⟩ <;> rfl
theorem RefV.cast (F : RefV Z h v C) : v = .null ∨ ∃ a, v = .ref a ∧ Ins Z h a C true := F.imp id fun ⟨r, e, E1⟩ => ⟨r, e, Ins.self E1⟩
/-- null, or an Integer -/
def IntV (Z : State) (h : Heap) (v : Value) : Prop := v = .null ∨ ∃ r x, v = .ref r ∧ Exa Z h r "java/lang/Integer" ∧ Fld Z h r "java/lang/Integer" "value" "I" (.int x)
theorem IntV.ext (F : IntV Z h v) (E : Ext h h') : IntV Z h' v := F.imp id fun ⟨r, x, e, E1, F1⟩ => ⟨r, x, e, E1.ext E, F1.ext E⟩
theorem IntV.keepX {a : Addr} (F : IntV Z h v) (K : Keep h h' [a]) (E : Exa Z h a C) (hc : "java/lang/Integer" ≠ C) : IntV Z h' v := F.imp id fun ⟨r, x, e, E1, F1⟩ => ⟨r, x, e, E1.keep K, F1.keep K (ninS (ne_exa E1 E hc) nin0)⟩
theorem IntV.isRef (F : IntV Z h v) : v.isRef = true := by rcases F with rfl | ⟨r, x, rfl, -⟩ <;> rfl
theorem IntV.ref (F : IntV Z h v) : RefV Z h v "java/lang/Integer" := F.imp id fun ⟨r, x, e, E1, _⟩ => ⟨r, e, E1⟩
theorem own_pick (x y : Value) : ∃ w : Value, (x = .null → w = y) ∧ (¬ x = .null → w = x) := by
  by_cases q : x = .null
  · exact ⟨y, fun _ => rfl, fun r => absurd q r⟩
  · exact ⟨x, fun r => absurd r q, fun _ => rfl⟩
theorem own_pickR {x y w : Value} (P : Value → Prop) (h1 : x = .null → w = y) (h2 : ¬ x = .null → w = x) (hx : P x) (hy : P y) : P w := by
  by_cases q : x = .null
  · rw [h1 q]; exact hy
  · rw [h2 q]; exact hx
end OwnRef

theorem d_rm_vo_num_0 : decode jdk_18_method_1_code 0 = .ok (.aload_n 0, 1) := by decide +kernel
theorem d_rm_vo_num_1 : decode jdk_18_method_1_code 1 = .ok (.invokespecial 1, 3) := by decide +kernel
theorem d_rm_vo_num_4 : decode jdk_18_method_1_code 4 = .ok (.return_, 1) := by decide +kernel
set_option maxHeartbeats 4000000 in
theorem ef_rm_vo_num (m : MethodId) (x0 : Addr)  : entryFrame m #[(.ref x0)] 1 = mkF m 0 #[.val (.ref x0)] [] := by first | (simp [entryFrame, mkF, argsToLocals, catR, catN, catI, catJ]; done) | rfl
set_option maxRecDepth 65536 in
set_option maxHeartbeats 40000000 in
theorem rm_vo_num (l : Launch) (Z : State) (a0 : Array Value) (hw : ∀ d ∈ tables_1, d.before a0 Z = true) (ws : List Jvm.Cond) (ax : Addr) (h0 : Heap) (n0 : Nat) (Z0 : n0 ≤ h0.size)  :
    Pays l Z (⟨"java/lang/Number", "<init>", "()V"⟩ : MethodName) jdk_18_method_1_code 1 none ws ({ frames := 1, cells := 0, slots := 0, locals := 12 } : Room) #[(.ref ax)] h0 (fun v h L => v = none ∧ Fr n0 L ∧ h = h0) := by
  refine Pays.of (plainFor_of_name (by first | (simp [plainName, overriddenIn]; done) | decide +kernel)) ?_
  intro p e s m below meth c s₁ hx hby hml hown hnm hret hlk hZ e0 X0
  have N0 := Fr.nil n0
  have K0 : Keep h0 h0 [] := Keep.refl _ _
  refine Goes.go (U' := (s₁.setTop (mkF m 0 #[sR_ ax] []))) (fun t kt => castTop (ef_rm_vo_num m ax) kt) ?_
  refine Goes.go (U' := (s₁.setTop (mkF m 1 #[sR_ ax] [(.ref ax)]))) (fun t kt => ?_) ?_
  · skip
    refine XS.aloadN X0.here hx rfl (hb hby d_rm_vo_num_0) rfl rfl ?_
    exact kt
  obtain ⟨T_1, X_1, e_1, st_1⟩ := initO X0 hx hZ hown (wdOf hw 128 rfl) (wdOf hw 16 rfl) (wdOf hw 17 rfl) e0 (g := (mkF m 1 #[sR_ ax] [(.ref ax)])) rfl (by rw [hml]; rfl) rfl (hb hby d_rm_vo_num_1) (by decide) (W := 0) (Nat.le_refl _) (by decide)
  refine Goes.go (U' := (T_1.setTop (mkF m 4 #[sR_ ax] []))) st_1 ?_
  refine Goes.retV X_1 hx hlk hret (hb hby d_rm_vo_num_4) (by decide) (by decide) ?_
  try rw [e_1]
  exact ⟨rfl, N0, rfl⟩
theorem d_rm_vo_init_0 : decode jdk_33_method_23_code 0 = .ok (.aload_n 0, 1) := by decide +kernel
theorem d_rm_vo_init_1 : decode jdk_33_method_23_code 1 = .ok (.invokespecial 202, 3) := by decide +kernel
theorem d_rm_vo_init_4 : decode jdk_33_method_23_code 4 = .ok (.aload_n 0, 1) := by decide +kernel
theorem d_rm_vo_init_5 : decode jdk_33_method_23_code 5 = .ok (.iload_n 1, 1) := by decide +kernel
theorem d_rm_vo_init_6 : decode jdk_33_method_23_code 6 = .ok (.putfield 205, 3) := by decide +kernel
theorem d_rm_vo_init_9 : decode jdk_33_method_23_code 9 = .ok (.return_, 1) := by decide +kernel
set_option maxHeartbeats 4000000 in
theorem ef_rm_vo_init (m : MethodId) (x0 : Addr) (x1 : Int32)  : entryFrame m #[(.ref x0), (.int x1)] 2 = mkF m 0 #[.val (.ref x0), .val (.int x1)] [] := by first | (simp [entryFrame, mkF, argsToLocals, catR, catN, catI, catJ]; done) | rfl
set_option maxRecDepth 65536 in
set_option maxHeartbeats 40000000 in
theorem rm_vo_init (l : Launch) (Z : State) (a0 : Array Value) (hw : ∀ d ∈ tables_1, d.before a0 Z = true) (ws : List Jvm.Cond) (ax : Addr) (xv : Int32) (h0 : Heap) (n0 : Nat) (Z0 : n0 ≤ h0.size) (o0 : n0 ≤ ax) (E0 : Exa Z h0 ax "java/lang/Integer") (F0 : Fld Z h0 ax "java/lang/Integer" "value" "I" (.int (0 : Int32))) :
    Pays l Z (⟨"java/lang/Integer", "<init>", "(I)V"⟩ : MethodName) jdk_33_method_23_code 2 none ws ({ frames := 2, cells := 0, slots := 0, locals := 24 } : Room) #[(.ref ax), (.int xv)] h0 (fun v h L => v = none ∧ Fr n0 L ∧ Keep h0 h [ax] ∧ Exa Z h ax "java/lang/Integer" ∧ Fld Z h ax "java/lang/Integer" "value" "I" (.int xv)) := by
  refine Pays.of (plainFor_of_name (by first | (simp [plainName, overriddenIn]; done) | decide +kernel)) ?_
  intro p e s m below meth c s₁ hx hby hml hown hnm hret hlk hZ e0 X0
  have N0 := Fr.nil n0
  have K0 : Keep h0 h0 [ax] := Keep.refl _ _
  refine Goes.go (U' := (s₁.setTop (mkF m 0 #[sR_ ax, sI_ xv] []))) (fun t kt => castTop (ef_rm_vo_init m ax xv) kt) ?_
  refine Goes.go (U' := (s₁.setTop (mkF m 1 #[sR_ ax, sI_ xv] [(.ref ax)]))) (fun t kt => ?_) ?_
  · skip
    refine XS.aloadN X0.here hx rfl (hb hby d_rm_vo_init_0) rfl rfl ?_
    exact kt
  obtain ⟨v_1, T_1, L_1, X_1, q_1, st_1⟩ := callInit X0 hx hZ (y := (⟨"java/lang/Number", "<init>", "()V"⟩ : MethodName)) (W := 0) rfl hown (wdOf hw 122 rfl) (wdOf hw 123 rfl) (wdOf hw 126 rfl) (wdOf hw 127 rfl) (by decide) (rm_vo_num l Z a0 hw [] ax h0 n0 Z0) (by decide) (by decide) (by decide) (by decide) e0 (b := ax) (g := (mkF m 1 #[sR_ ax, sI_ xv] [(.ref ax)])) rfl (by rw [hml]; rfl) (argsL := []) (rest := []) (lenOf pd_0 rfl) rfl rfl (Nat.le_refl _) (hb hby d_rm_vo_init_1)
  obtain ⟨rfl, n_1, K_1⟩ := q_1
  have N_1 := Fr.app N0 n_1
  refine Goes.go (U' := (T_1.setTop (mkF m 4 #[sR_ ax, sI_ xv] []))) st_1 ?_
  refine Goes.go (U' := (T_1.setTop (mkF m 6 #[sR_ ax, sI_ xv] [(.int xv), (.ref ax)]))) (fun t kt => ?_) ?_
  · skip
    refine XS.aloadN X_1.here hx rfl (hb hby d_rm_vo_init_4) rfl rfl ?_
    refine XS.iloadN X_1.here hx rfl (hb hby d_rm_vo_init_5) rfl ?_
    exact kt
  obtain ⟨T_2, h_2, X_2, e_2, W_2, st_2⟩ := putF X_1 hx hZ hown (host := "") (Or.inl (wdOf hw 88 rfl)) Via.refl K_1 F0 E0 (Or.inr ⟨wdOf hw 89 rfl, rfl, hnm⟩) (wdOf hw 117 rfl) (ty := .int) (by decide) rfl rfl (g := (mkF m 6 #[sR_ ax, sI_ xv] [(.int xv), (.ref ax)])) rfl rfl (hb hby d_rm_vo_init_6)
  have N_2 := Fr.snoc X_2 N_1 o0
  have f_3 : Exa Z h_2 ax "java/lang/Integer" := E0.wr W_2
  have f_4 : Fld Z h_2 ax "java/lang/Integer" "value" "I" (.int xv) := F0.same W_2
  have K_5 : Keep h0 h_2 [ax] := K0.wr W_2 (Or.inl (List.mem_of_getElem? (i := 0) rfl))
  have y_5 : n0 ≤ h_2.size := Nat.le_trans Z0 K_5.1
  refine Goes.go (U' := (T_2.setTop (mkF m 9 #[sR_ ax, sI_ xv] []))) st_2 ?_
  refine Goes.retV X_2 hx hlk hret (hb hby d_rm_vo_init_9) (by decide) (by decide) ?_
  try rw [e_2]
  exact ⟨rfl, N_2, K_5, f_3, f_4⟩
theorem own_ix {i : Int32} (h1 : ¬ i < (-128 : Int32)) (h2 : ¬ (127 : Int32) < i) : ¬ (i + (128 : Int32)) < 0 ∧ (i + (128 : Int32)).toNatClampNeg < 256 ∧ (Value.int ((i + (128 : Int32)).toNatClampNeg.toInt32 - 128)) = .int i := by
  rw [Int32.lt_iff_toInt_lt] at h1 h2
  have e1 : (-128 : Int32).toInt = -128 := rfl
  have e2 : (127 : Int32).toInt = 127 := rfl
  have e3 : (128 : Int32).toInt = 128 := rfl
  have q := c_iadd i 128
  have r := rng32 (i + 128)
  have h3 : (i + (128 : Int32)).toInt = i.toInt + 128 := by omega
  have h0 : ¬ (i + (128 : Int32)) < 0 := by rw [Int32.lt_iff_toInt_lt]; show ¬ _ < (0 : Int); omega
  refine ⟨h0, by simp only [Int32.toNatClampNeg]; omega, ?_⟩
  rw [(back32 h0).1]
  congr 1
  apply Int32.toInt_inj.mp
  have q2 := c_isub (i + 128) 128
  have r2 := rng32 (i + 128 - 128)
  have r3 := rng32 i
  omega
theorem d_rm_vo_0 : decode jdk_33_method_22_code 0 = .ok (.iload_n 0, 1) := by decide +kernel
theorem d_rm_vo_1 : decode jdk_33_method_22_code 1 = .ok (.bipush (-128), 2) := by decide +kernel
theorem d_rm_vo_3 : decode jdk_33_method_22_code 3 = .ok (.if_icmp .lt 20, 3) := by decide +kernel
theorem d_rm_vo_6 : decode jdk_33_method_22_code 6 = .ok (.iload_n 0, 1) := by decide +kernel
theorem d_rm_vo_7 : decode jdk_33_method_22_code 7 = .ok (.getstatic 191, 3) := by decide +kernel
theorem d_rm_vo_10 : decode jdk_33_method_22_code 10 = .ok (.if_icmp .gt 13, 3) := by decide +kernel
theorem d_rm_vo_13 : decode jdk_33_method_22_code 13 = .ok (.getstatic 195, 3) := by decide +kernel
theorem d_rm_vo_16 : decode jdk_33_method_22_code 16 = .ok (.iload_n 0, 1) := by decide +kernel
theorem d_rm_vo_17 : decode jdk_33_method_22_code 17 = .ok (.sipush 128, 3) := by decide +kernel
theorem d_rm_vo_20 : decode jdk_33_method_22_code 20 = .ok (.iadd, 1) := by decide +kernel
theorem d_rm_vo_21 : decode jdk_33_method_22_code 21 = .ok (.aaload, 1) := by decide +kernel
theorem d_rm_vo_22 : decode jdk_33_method_22_code 22 = .ok (.areturn, 1) := by decide +kernel
theorem d_rm_vo_23 : decode jdk_33_method_22_code 23 = .ok (.new 1, 3) := by decide +kernel
theorem d_rm_vo_26 : decode jdk_33_method_22_code 26 = .ok (.dup, 1) := by decide +kernel
theorem d_rm_vo_27 : decode jdk_33_method_22_code 27 = .ok (.iload_n 0, 1) := by decide +kernel
theorem d_rm_vo_28 : decode jdk_33_method_22_code 28 = .ok (.invokespecial 199, 3) := by decide +kernel
theorem d_rm_vo_31 : decode jdk_33_method_22_code 31 = .ok (.areturn, 1) := by decide +kernel
set_option maxHeartbeats 4000000 in
theorem ef_rm_vo (m : MethodId) (x0 : Int32)  : entryFrame m #[(.int x0)] 1 = mkF m 0 #[.val (.int x0)] [] := by first | (simp [entryFrame, mkF, argsToLocals, catR, catN, catI, catJ]; done) | rfl
set_option maxRecDepth 65536 in
set_option maxHeartbeats 40000000 in
theorem rm_vo (l : Launch) (Z : State) (a0 : Array Value) (hw : ∀ d ∈ tables_1, d.before a0 Z = true) (ws : List Jvm.Cond) (iv : Int32) (h0 : Heap) (n0 : Nat) (Z0 : n0 ≤ h0.size) (O : Old Z n0 h0) (BC : BoxC Z "java/lang/Integer$IntegerCache" "[Ljava/lang/Integer;" "java/lang/Integer" "I" (fun i => .int (i.toInt32 - 128))) (SH : Sta Z Z.heap "java/lang/Integer$IntegerCache" "high" "I" (.int (127 : Int32))) :
    Pays l Z (⟨"java/lang/Integer", "valueOf", "(I)Ljava/lang/Integer;"⟩ : MethodName) jdk_33_method_22_code 1 (some (.object "java/lang/Integer")) ws ({ frames := 3, cells := 1, slots := 1, locals := 38 } : Room) #[(.int iv)] h0 (fun v h L => ∃ r, v = some (.ref r) ∧ Fr n0 L ∧ Ext h0 h ∧ Exa Z h r "java/lang/Integer" ∧ Fld Z h r "java/lang/Integer" "value" "I" (.int iv)) := by
  refine Pays.of (plainFor_of_name (by first | (simp [plainName, overriddenIn]; done) | decide +kernel)) ?_
  intro p e s m below meth c s₁ hx hby hml hown hnm hret hlk hZ e0 X0
  have N0 := Fr.nil n0
  have K0 : Keep h0 h0 [] := Keep.refl _ _
  refine Goes.go (U' := (s₁.setTop (mkF m 0 #[sI_ iv] []))) (fun t kt => castTop (ef_rm_vo m iv) kt) ?_
  refine Goes.go (U' := (s₁.setTop (mkF m 3 #[sI_ iv] [(.int (-128 : Int32)), (.int iv)]))) (fun t kt => ?_) ?_
  · skip
    refine XS.iloadN X0.here hx rfl (hb hby d_rm_vo_0) rfl ?_
    refine XS.bipush X0.here hx rfl (hb hby d_rm_vo_1) ?_
    exact kt
  by_cases ci : iv < (-128 : Int32)
  · -- iv < (-128 : Int32)
    refine Goes.go (U' := (s₁.setTop (mkF m 23 #[sI_ iv] []))) (fun t kt => ?_) ?_
    · skip
      refine XS.icmpYes X0.here hx rfl (pc0 := 3) (pc' := 23) rfl (hb hby d_rm_vo_3) rfl (XT.ii_lt_t ci) (by decide) (by decide) ?_
      exact kt
    obtain ⟨T_1, h_1, X_1, e_1, E_1, A_1, D_1, -, st_1⟩ := newO X0 hx hZ hown (wdOf hw 116 rfl) (wdOf hw 117 rfl) (wdOf hw 28 rfl) e0 (g := (mkF m 23 #[sI_ iv] [])) rfl (hb hby d_rm_vo_23) (by decide) (by decide)
    obtain ⟨b_1, g_1⟩ : ∃ z, z = h0.size := ⟨_, rfl⟩
    rw [← g_1] at A_1 D_1 st_1
    have o_1 : n0 ≤ b_1 := Nat.le_trans Z0 (Nat.le_of_eq g_1.symm)
    have z_1 : h0.size ≤ b_1 := Nat.le_trans K0.1 (Nat.le_of_eq g_1.symm)
    have f_2 : Sta Z h_1 "java/lang/Integer$IntegerCache" "high" "I" (.int (127 : Int32)) := (SH.ext O.2).ext E_1
    have f_3 : Fld Z h_1 b_1 "java/lang/Integer" "value" "I" (.int (0 : Int32)) := D_1 (Or.inr (wdOf hw 89 rfl)) (ty := .int) (by decide)
    have K_4 : Keep h0 h_1 [] := K0.ext E_1
    have y_4 : n0 ≤ h_1.size := Nat.le_trans Z0 K_4.1
    refine Goes.go (U' := (T_1.setTop (mkF m 26 #[sI_ iv] [(.ref b_1)]))) st_1 ?_
    refine Goes.go (U' := (T_1.setTop (mkF m 28 #[sI_ iv] [(.int iv), (.ref b_1), (.ref b_1)]))) (fun t kt => ?_) ?_
    · skip
      refine XS.dup X_1.here hx rfl (hb hby d_rm_vo_26) rfl rfl ?_
      refine XS.iloadN X_1.here hx rfl (hb hby d_rm_vo_27) rfl ?_
      exact kt
    obtain ⟨v_5, T_5, L_5, X_5, q_5, st_5⟩ := callInit X_1 hx hZ (y := (⟨"java/lang/Integer", "<init>", "(I)V"⟩ : MethodName)) (W := 1) rfl hown (wdOf hw 118 rfl) (wdOf hw 119 rfl) (wdOf hw 28 rfl) (wdOf hw 121 rfl) (by decide) (rm_vo_init l Z a0 hw [] b_1 iv h_1 n0 y_4 o_1 A_1 f_3) (by decide) (by decide) (by decide) (by decide) e_1 (b := b_1) (g := (mkF m 28 #[sI_ iv] [(.int iv), (.ref b_1), (.ref b_1)])) rfl (by rw [hml]; rfl) (argsL := [(.int iv)]) (rest := [(.ref b_1)]) (lenOf pd_1 rfl) rfl rfl (Nat.le_refl _) (hb hby d_rm_vo_28)
    obtain ⟨rfl, n_5, K_5, E_5, F_5⟩ := q_5
    have N_5 := Fr.app N0 n_5
    have f_6 : Sta Z T_5.heap "java/lang/Integer$IntegerCache" "high" "I" (.int (127 : Int32)) := f_2.keepN K_5 (allS (A_1.cell) all0)
    have f_7 : Exa Z T_5.heap b_1 "java/lang/Integer" := A_1.keep K_5
    have K_9 : Keep h0 T_5.heap [] := K_4.trans K_5 (allS (P := fun x => x ∈ [] ∨ h0.size ≤ x) (Or.inr z_1) all0)
    have y_9 : n0 ≤ T_5.heap.size := Nat.le_trans Z0 K_9.1
    refine Goes.go (U' := (T_5.setTop (mkF m 31 #[sI_ iv] [(.ref b_1)]))) st_5 ?_
    refine Goes.retA X_5 hx hlk hret rfl rfl (hb hby d_rm_vo_31) (by decide) (by decide) ?_
    try rw [(rfl : T_5.heap = T_5.heap)]
    exact ⟨_, rfl, N_5, Ext.of_keep K_9, f_7, F_5⟩
  · -- not iv < (-128 : Int32)
    refine Goes.go (U' := (s₁.setTop (mkF m 7 #[sI_ iv] [(.int iv)]))) (fun t kt => ?_) ?_
    · skip
      refine XS.icmpNo X0.here hx rfl (hb hby d_rm_vo_3) rfl (XT.ii_lt_f ci) ?_
      refine XS.iloadN X0.here hx rfl (hb hby d_rm_vo_6) rfl ?_
      exact kt
    obtain ⟨T_10, X_10, e_10, st_10⟩ := getS X0 hx hZ hown (host := "") (wdOf hw 30 rfl) Via.refl e0 (SH.ext O.2) (g := (mkF m 7 #[sI_ iv] [(.int iv)])) rfl (hb hby d_rm_vo_7)
    refine Goes.go (U' := (T_10.setTop (mkF m 10 #[sI_ iv] [(.int (127 : Int32)), (.int iv)]))) st_10 ?_
    by_cases cj : (127 : Int32) < iv
    · -- (127 : Int32) < iv
      refine Goes.go (U' := (T_10.setTop (mkF m 23 #[sI_ iv] []))) (fun t kt => ?_) ?_
      · skip
        refine XS.icmpYes X_10.here hx rfl (pc0 := 10) (pc' := 23) rfl (hb hby d_rm_vo_10) rfl (XT.ii_gt_t cj) (by decide) (by decide) ?_
        exact kt
      obtain ⟨T_11, h_11, X_11, e_11, E_11, A_11, D_11, -, st_11⟩ := newO X_10 hx hZ hown (wdOf hw 116 rfl) (wdOf hw 117 rfl) (wdOf hw 28 rfl) e_10 (g := (mkF m 23 #[sI_ iv] [])) rfl (hb hby d_rm_vo_23) (by decide) (by decide)
      obtain ⟨b_11, g_11⟩ : ∃ z, z = h0.size := ⟨_, rfl⟩
      rw [← g_11] at A_11 D_11 st_11
      have o_11 : n0 ≤ b_11 := Nat.le_trans Z0 (Nat.le_of_eq g_11.symm)
      have z_11 : h0.size ≤ b_11 := Nat.le_trans K0.1 (Nat.le_of_eq g_11.symm)
      have f_12 : Sta Z h_11 "java/lang/Integer$IntegerCache" "high" "I" (.int (127 : Int32)) := (SH.ext O.2).ext E_11
      have f_13 : Fld Z h_11 b_11 "java/lang/Integer" "value" "I" (.int (0 : Int32)) := D_11 (Or.inr (wdOf hw 89 rfl)) (ty := .int) (by decide)
      have K_14 : Keep h0 h_11 [] := K0.ext E_11
      have y_14 : n0 ≤ h_11.size := Nat.le_trans Z0 K_14.1
      refine Goes.go (U' := (T_11.setTop (mkF m 26 #[sI_ iv] [(.ref b_11)]))) st_11 ?_
      refine Goes.go (U' := (T_11.setTop (mkF m 28 #[sI_ iv] [(.int iv), (.ref b_11), (.ref b_11)]))) (fun t kt => ?_) ?_
      · skip
        refine XS.dup X_11.here hx rfl (hb hby d_rm_vo_26) rfl rfl ?_
        refine XS.iloadN X_11.here hx rfl (hb hby d_rm_vo_27) rfl ?_
        exact kt
      obtain ⟨v_15, T_15, L_15, X_15, q_15, st_15⟩ := callInit X_11 hx hZ (y := (⟨"java/lang/Integer", "<init>", "(I)V"⟩ : MethodName)) (W := 1) rfl hown (wdOf hw 118 rfl) (wdOf hw 119 rfl) (wdOf hw 28 rfl) (wdOf hw 121 rfl) (by decide) (rm_vo_init l Z a0 hw [] b_11 iv h_11 n0 y_14 o_11 A_11 f_13) (by decide) (by decide) (by decide) (by decide) e_11 (b := b_11) (g := (mkF m 28 #[sI_ iv] [(.int iv), (.ref b_11), (.ref b_11)])) rfl (by rw [hml]; rfl) (argsL := [(.int iv)]) (rest := [(.ref b_11)]) (lenOf pd_1 rfl) rfl rfl (Nat.le_refl _) (hb hby d_rm_vo_28)
      obtain ⟨rfl, n_15, K_15, E_15, F_15⟩ := q_15
      have N_15 := Fr.app N0 n_15
      have f_16 : Sta Z T_15.heap "java/lang/Integer$IntegerCache" "high" "I" (.int (127 : Int32)) := f_12.keepN K_15 (allS (A_11.cell) all0)
      have f_17 : Exa Z T_15.heap b_11 "java/lang/Integer" := A_11.keep K_15
      have K_19 : Keep h0 T_15.heap [] := K_14.trans K_15 (allS (P := fun x => x ∈ [] ∨ h0.size ≤ x) (Or.inr z_11) all0)
      have y_19 : n0 ≤ T_15.heap.size := Nat.le_trans Z0 K_19.1
      refine Goes.go (U' := (T_15.setTop (mkF m 31 #[sI_ iv] [(.ref b_11)]))) st_15 ?_
      refine Goes.retA X_15 hx hlk hret rfl rfl (hb hby d_rm_vo_31) (by decide) (by decide) ?_
      try rw [(rfl : T_15.heap = T_15.heap)]
      exact ⟨_, rfl, N_15, Ext.of_keep K_19, f_17, F_15⟩
    · -- not (127 : Int32) < iv
      refine Goes.go (U' := (T_10.setTop (mkF m 13 #[sI_ iv] []))) (fun t kt => ?_) ?_
      · skip
        refine XS.icmpNo X_10.here hx rfl (hb hby d_rm_vo_10) rfl (XT.ii_gt_f cj) ?_
        exact kt
      obtain ⟨ca, cl, Sc, Ac, hsz, hel⟩ := BC
      have A1 := Ac.ext O.2
      obtain ⟨hj0, hj1, hj2⟩ := own_ix ci cj
      obtain ⟨rr, hat, Er, Fr1⟩ := hel _ hj1
      replace Fr1 := Eq.subst (motive := fun q => Fld Z Z.heap rr "java/lang/Integer" "value" "I" q) hj2 Fr1
      obtain ⟨T_20, X_20, e_20, st_20⟩ := getS X_10 hx hZ hown (host := "") (wdOf hw 32 rfl) Via.refl e_10 (Sc.ext O.2) (g := (mkF m 13 #[sI_ iv] [])) rfl (hb hby d_rm_vo_13)
      refine Goes.go (U' := (T_20.setTop (mkF m 16 #[sI_ iv] [(.ref ca)]))) st_20 ?_
      refine Goes.go (U' := (T_20.setTop (mkF m 22 #[sI_ iv] [(.ref rr)]))) (fun t kt => ?_) ?_
      · skip
        refine XS.iloadN X_20.here hx rfl (hb hby d_rm_vo_16) rfl ?_
        refine XS.sipush X_20.here hx rfl (hb hby d_rm_vo_17) ?_
        refine XS.iadd X_20.here hx rfl (hb hby d_rm_vo_20) rfl ?_
        refine X_20.aaload hx (j := (iv + (128 : Int32))) (v := (.ref rr)) (by rw [e_20]; exact A1.1) (State.isArrayOf_alike hZ.alike A1.2.1) rfl A1.2.2 (fun q => q.elim hj0 (fun q => absurd hj1 (Nat.not_lt.mpr (hsz ▸ q)))) hat (g := (mkF m 21 #[sI_ iv] [(.int (iv + (128 : Int32))), (.ref ca)])) rfl rfl (hb hby d_rm_vo_21) _ ?_
        exact kt
      refine Goes.retA X_20 hx hlk hret rfl rfl (hb hby d_rm_vo_22) (by decide) (by decide) ?_
      try rw [e_20]
      exact ⟨_, rfl, N0, ⟨Nat.le_refl _, fun _ _ q => q⟩, Er.ext O.2, Fr1.ext O.2⟩
theorem d_rm_rec_0 : decode jdk_30_method_1_code 0 = .ok (.aload_n 0, 1) := by decide +kernel
theorem d_rm_rec_1 : decode jdk_30_method_1_code 1 = .ok (.invokespecial 1, 3) := by decide +kernel
theorem d_rm_rec_4 : decode jdk_30_method_1_code 4 = .ok (.return_, 1) := by decide +kernel
set_option maxHeartbeats 4000000 in
theorem ef_rm_rec (m : MethodId) (x0 : Addr)  : entryFrame m #[(.ref x0)] 1 = mkF m 0 #[.val (.ref x0)] [] := by first | (simp [entryFrame, mkF, argsToLocals, catR, catN, catI, catJ]; done) | rfl
set_option maxRecDepth 65536 in
set_option maxHeartbeats 40000000 in
theorem rm_rec (l : Launch) (Z : State) (a0 : Array Value) (hw : ∀ d ∈ tables_1, d.before a0 Z = true) (ws : List Jvm.Cond) (ax : Addr) (h0 : Heap) (n0 : Nat) (Z0 : n0 ≤ h0.size)  :
    Pays l Z (⟨"java/lang/Record", "<init>", "()V"⟩ : MethodName) jdk_30_method_1_code 1 none ws ({ frames := 1, cells := 0, slots := 0, locals := 12 } : Room) #[(.ref ax)] h0 (fun v h L => v = none ∧ Fr n0 L ∧ h = h0) := by
  refine Pays.of (plainFor_of_name (by first | (simp [plainName, overriddenIn]; done) | decide +kernel)) ?_
  intro p e s m below meth c s₁ hx hby hml hown hnm hret hlk hZ e0 X0
  have N0 := Fr.nil n0
  have K0 : Keep h0 h0 [] := Keep.refl _ _
  refine Goes.go (U' := (s₁.setTop (mkF m 0 #[sR_ ax] []))) (fun t kt => castTop (ef_rm_rec m ax) kt) ?_
  refine Goes.go (U' := (s₁.setTop (mkF m 1 #[sR_ ax] [(.ref ax)]))) (fun t kt => ?_) ?_
  · skip
    refine XS.aloadN X0.here hx rfl (hb hby d_rm_rec_0) rfl rfl ?_
    exact kt
  obtain ⟨T_1, X_1, e_1, st_1⟩ := initO X0 hx hZ hown (wdOf hw 44 rfl) (wdOf hw 16 rfl) (wdOf hw 17 rfl) e0 (g := (mkF m 1 #[sR_ ax] [(.ref ax)])) rfl (by rw [hml]; rfl) rfl (hb hby d_rm_rec_1) (by decide) (W := 0) (Nat.le_refl _) (by decide)
  refine Goes.go (U' := (T_1.setTop (mkF m 4 #[sR_ ax] []))) st_1 ?_
  refine Goes.retV X_1 hx hlk hret (hb hby d_rm_rec_4) (by decide) (by decide) ?_
  try rw [e_1]
  exact ⟨rfl, N0, rfl⟩
theorem d_rm_ri_0 : decode prog_18_method_1_code 0 = .ok (.aload_n 0, 1) := by decide +kernel
theorem d_rm_ri_1 : decode prog_18_method_1_code 1 = .ok (.invokespecial 1, 3) := by decide +kernel
theorem d_rm_ri_4 : decode prog_18_method_1_code 4 = .ok (.aload_n 0, 1) := by decide +kernel
theorem d_rm_ri_5 : decode prog_18_method_1_code 5 = .ok (.aload_n 1, 1) := by decide +kernel
theorem d_rm_ri_6 : decode prog_18_method_1_code 6 = .ok (.putfield 7, 3) := by decide +kernel
theorem d_rm_ri_9 : decode prog_18_method_1_code 9 = .ok (.aload_n 0, 1) := by decide +kernel
theorem d_rm_ri_10 : decode prog_18_method_1_code 10 = .ok (.aload_n 2, 1) := by decide +kernel
theorem d_rm_ri_11 : decode prog_18_method_1_code 11 = .ok (.putfield 13, 3) := by decide +kernel
theorem d_rm_ri_14 : decode prog_18_method_1_code 14 = .ok (.aload_n 0, 1) := by decide +kernel
theorem d_rm_ri_15 : decode prog_18_method_1_code 15 = .ok (.aload_n 3, 1) := by decide +kernel
theorem d_rm_ri_16 : decode prog_18_method_1_code 16 = .ok (.putfield 17, 3) := by decide +kernel
theorem d_rm_ri_19 : decode prog_18_method_1_code 19 = .ok (.aload_n 0, 1) := by decide +kernel
theorem d_rm_ri_20 : decode prog_18_method_1_code 20 = .ok (.aload 4, 2) := by decide +kernel
theorem d_rm_ri_22 : decode prog_18_method_1_code 22 = .ok (.putfield 20, 3) := by decide +kernel
theorem d_rm_ri_25 : decode prog_18_method_1_code 25 = .ok (.aload_n 0, 1) := by decide +kernel
theorem d_rm_ri_26 : decode prog_18_method_1_code 26 = .ok (.aload 5, 2) := by decide +kernel
theorem d_rm_ri_28 : decode prog_18_method_1_code 28 = .ok (.putfield 23, 3) := by decide +kernel
theorem d_rm_ri_31 : decode prog_18_method_1_code 31 = .ok (.return_, 1) := by decide +kernel
set_option maxHeartbeats 4000000 in
theorem ef_rm_ri (m : MethodId) (x0 : Addr) (x1 : Value) (x2 : Value) (x3 : Value) (x4 : Value) (x5 : Value) (rx1 : x1.isRef = true) (rx2 : x2.isRef = true) (rx3 : x3.isRef = true) (rx4 : x4.isRef = true) (rx5 : x5.isRef = true) : entryFrame m #[(.ref x0), x1, x2, x3, x4, x5] 6 = mkF m 0 #[.val (.ref x0), .val x1, .val x2, .val x3, .val x4, .val x5] [] := by simp [entryFrame, mkF, argsToLocals, catR, catN, catI, catJ, XT.cat1 rx1, XT.cat1 rx2, XT.cat1 rx3, XT.cat1 rx4, XT.cat1 rx5]
set_option maxRecDepth 65536 in
set_option maxHeartbeats 40000000 in
theorem rm_ri (l : Launch) (Z : State) (a0 : Array Value) (hw : ∀ d ∈ tables_1, d.before a0 Z = true) (ws : List Jvm.Cond) (ax : Addr) (x1 x2 x3 x4 x5 : Value) (q1 : x1.isRef = true) (q2 : x2.isRef = true) (q3 : x3.isRef = true) (q4 : x4.isRef = true) (q5 : x5.isRef = true) (h0 : Heap) (n0 : Nat) (Z0 : n0 ≤ h0.size) (o0 : n0 ≤ ax) (E0 : Exa Z h0 ax "com/example/kilnroute/kilnroute/spark/Resources") (F0_driverMemory : Fld Z h0 ax "com/example/kilnroute/kilnroute/spark/Resources" "driverMemory" "Ljava/lang/String;" .null) (F0_driverCores : Fld Z h0 ax "com/example/kilnroute/kilnroute/spark/Resources" "driverCores" "Ljava/lang/Integer;" .null) (F0_executorMemory : Fld Z h0 ax "com/example/kilnroute/kilnroute/spark/Resources" "executorMemory" "Ljava/lang/String;" .null) (F0_executorCores : Fld Z h0 ax "com/example/kilnroute/kilnroute/spark/Resources" "executorCores" "Ljava/lang/Integer;" .null) (F0_numExecutors : Fld Z h0 ax "com/example/kilnroute/kilnroute/spark/Resources" "numExecutors" "Ljava/lang/Integer;" .null) :
    Pays l Z (⟨"com/example/kilnroute/kilnroute/spark/Resources", "<init>", "(Ljava/lang/String;Ljava/lang/Integer;Ljava/lang/String;Ljava/lang/Integer;Ljava/lang/Integer;)V"⟩ : MethodName) prog_18_method_1_code 6 none ws ({ frames := 2, cells := 0, slots := 0, locals := 24 } : Room) #[(.ref ax), x1, x2, x3, x4, x5] h0 (fun v h L => v = none ∧ Fr n0 L ∧ Keep h0 h [ax] ∧ Exa Z h ax "com/example/kilnroute/kilnroute/spark/Resources" ∧ Fld Z h ax "com/example/kilnroute/kilnroute/spark/Resources" "driverMemory" "Ljava/lang/String;" x1 ∧ Fld Z h ax "com/example/kilnroute/kilnroute/spark/Resources" "driverCores" "Ljava/lang/Integer;" x2 ∧ Fld Z h ax "com/example/kilnroute/kilnroute/spark/Resources" "executorMemory" "Ljava/lang/String;" x3 ∧ Fld Z h ax "com/example/kilnroute/kilnroute/spark/Resources" "executorCores" "Ljava/lang/Integer;" x4 ∧ Fld Z h ax "com/example/kilnroute/kilnroute/spark/Resources" "numExecutors" "Ljava/lang/Integer;" x5) := by
  refine Pays.of (plainFor_of_name (by first | (simp [plainName, overriddenIn]; done) | decide +kernel)) ?_
  intro p e s m below meth c s₁ hx hby hml hown hnm hret hlk hZ e0 X0
  have N0 := Fr.nil n0
  have K0 : Keep h0 h0 [ax] := Keep.refl _ _
  refine Goes.go (U' := (s₁.setTop (mkF m 0 #[sR_ ax, .val x1, .val x2, .val x3, .val x4, .val x5] []))) (fun t kt => castTop (ef_rm_ri m ax x1 x2 x3 x4 x5 q1 q2 q3 q4 q5) kt) ?_
  refine Goes.go (U' := (s₁.setTop (mkF m 1 #[sR_ ax, .val x1, .val x2, .val x3, .val x4, .val x5] [(.ref ax)]))) (fun t kt => ?_) ?_
  · skip
    refine XS.aloadN X0.here hx rfl (hb hby d_rm_ri_0) rfl rfl ?_
    exact kt
  obtain ⟨v_1, T_1, L_1, X_1, q_1, st_1⟩ := callInit X0 hx hZ (y := (⟨"java/lang/Record", "<init>", "()V"⟩ : MethodName)) (W := 0) rfl hown (wdOf hw 39 rfl) (wdOf hw 40 rfl) (wdOf hw 42 rfl) (wdOf hw 43 rfl) (by decide) (rm_rec l Z a0 hw [] ax h0 n0 Z0) (by decide) (by decide) (by decide) (by decide) e0 (b := ax) (g := (mkF m 1 #[sR_ ax, .val x1, .val x2, .val x3, .val x4, .val x5] [(.ref ax)])) rfl (by rw [hml]; rfl) (argsL := []) (rest := []) (lenOf pd_0 rfl) rfl rfl (Nat.le_refl _) (hb hby d_rm_ri_1)
  obtain ⟨rfl, n_1, K_1⟩ := q_1
  have N_1 := Fr.app N0 n_1
  refine Goes.go (U' := (T_1.setTop (mkF m 4 #[sR_ ax, .val x1, .val x2, .val x3, .val x4, .val x5] []))) st_1 ?_
  refine Goes.go (U' := (T_1.setTop (mkF m 6 #[sR_ ax, .val x1, .val x2, .val x3, .val x4, .val x5] [x1, (.ref ax)]))) (fun t kt => ?_) ?_
  · skip
    refine XS.aloadN X_1.here hx rfl (hb hby d_rm_ri_4) rfl rfl ?_
    refine XS.aloadN X_1.here hx rfl (hb hby d_rm_ri_5) rfl q1 ?_
    exact kt
  obtain ⟨T_2, h_2, X_2, e_2, W_2, st_2⟩ := putF X_1 hx hZ hown (host := "") (Or.inl (wdOf hw 45 rfl)) Via.refl K_1 F0_driverMemory E0 (Or.inr ⟨wdOf hw 46 rfl, rfl, hnm⟩) (wdOf hw 34 rfl) (ty := (.object "java/lang/String")) (by decide) (ownNarrow q1 rfl) (ownFits q1 rfl) (g := (mkF m 6 #[sR_ ax, .val x1, .val x2, .val x3, .val x4, .val x5] [x1, (.ref ax)])) rfl rfl (hb hby d_rm_ri_6)
  have N_2 := Fr.snoc X_2 N_1 o0
  have f_3 : Exa Z h_2 ax "com/example/kilnroute/kilnroute/spark/Resources" := E0.wr W_2
  have f_4 : Fld Z h_2 ax "com/example/kilnroute/kilnroute/spark/Resources" "driverMemory" "Ljava/lang/String;" x1 := F0_driverMemory.same W_2
  have f_5 : Fld Z h_2 ax "com/example/kilnroute/kilnroute/spark/Resources" "driverCores" "Ljava/lang/Integer;" .null := F0_driverCores.other W_2 (Or.inr (slot_ne (Or.inr (wdOf hw 48 rfl)) (Or.inr (wdOf hw 46 rfl)) (by decide) (t := (.object "java/lang/Integer")) (t' := (.object "java/lang/String")) (by decide) (by decide)))
  have f_6 : Fld Z h_2 ax "com/example/kilnroute/kilnroute/spark/Resources" "executorMemory" "Ljava/lang/String;" .null := F0_executorMemory.other W_2 (Or.inr (slot_ne (Or.inr (wdOf hw 50 rfl)) (Or.inr (wdOf hw 46 rfl)) (by decide) (t := (.object "java/lang/String")) (t' := (.object "java/lang/String")) (by decide) (by decide)))
  have f_7 : Fld Z h_2 ax "com/example/kilnroute/kilnroute/spark/Resources" "executorCores" "Ljava/lang/Integer;" .null := F0_executorCores.other W_2 (Or.inr (slot_ne (Or.inr (wdOf hw 52 rfl)) (Or.inr (wdOf hw 46 rfl)) (by decide) (t := (.object "java/lang/Integer")) (t' := (.object "java/lang/String")) (by decide) (by decide)))
  have f_8 : Fld Z h_2 ax "com/example/kilnroute/kilnroute/spark/Resources" "numExecutors" "Ljava/lang/Integer;" .null := F0_numExecutors.other W_2 (Or.inr (slot_ne (Or.inr (wdOf hw 54 rfl)) (Or.inr (wdOf hw 46 rfl)) (by decide) (t := (.object "java/lang/Integer")) (t' := (.object "java/lang/String")) (by decide) (by decide)))
  have K_9 : Keep h0 h_2 [ax] := K0.wr W_2 (Or.inl (List.mem_of_getElem? (i := 0) rfl))
  have y_9 : n0 ≤ h_2.size := Nat.le_trans Z0 K_9.1
  refine Goes.go (U' := (T_2.setTop (mkF m 9 #[sR_ ax, .val x1, .val x2, .val x3, .val x4, .val x5] []))) st_2 ?_
  refine Goes.go (U' := (T_2.setTop (mkF m 11 #[sR_ ax, .val x1, .val x2, .val x3, .val x4, .val x5] [x2, (.ref ax)]))) (fun t kt => ?_) ?_
  · skip
    refine XS.aloadN X_2.here hx rfl (hb hby d_rm_ri_9) rfl rfl ?_
    refine XS.aloadN X_2.here hx rfl (hb hby d_rm_ri_10) rfl q2 ?_
    exact kt
  obtain ⟨T_10, h_10, X_10, e_10, W_10, st_10⟩ := putF X_2 hx hZ hown (host := "") (Or.inl (wdOf hw 47 rfl)) Via.refl e_2 f_5 f_3 (Or.inr ⟨wdOf hw 48 rfl, rfl, hnm⟩) (wdOf hw 34 rfl) (ty := (.object "java/lang/Integer")) (by decide) (ownNarrow q2 rfl) (ownFits q2 rfl) (g := (mkF m 11 #[sR_ ax, .val x1, .val x2, .val x3, .val x4, .val x5] [x2, (.ref ax)])) rfl rfl (hb hby d_rm_ri_11)
  have N_10 := Fr.snoc X_10 N_2 o0
  have f_11 : Exa Z h_10 ax "com/example/kilnroute/kilnroute/spark/Resources" := f_3.wr W_10
  have f_12 : Fld Z h_10 ax "com/example/kilnroute/kilnroute/spark/Resources" "driverMemory" "Ljava/lang/String;" x1 := f_4.other W_10 (Or.inr (slot_ne (Or.inr (wdOf hw 46 rfl)) (Or.inr (wdOf hw 48 rfl)) (by decide) (t := (.object "java/lang/String")) (t' := (.object "java/lang/Integer")) (by decide) (by decide)))
  have f_13 : Fld Z h_10 ax "com/example/kilnroute/kilnroute/spark/Resources" "driverCores" "Ljava/lang/Integer;" x2 := f_5.same W_10
  have f_14 : Fld Z h_10 ax "com/example/kilnroute/kilnroute/spark/Resources" "executorMemory" "Ljava/lang/String;" .null := f_6.other W_10 (Or.inr (slot_ne (Or.inr (wdOf hw 50 rfl)) (Or.inr (wdOf hw 48 rfl)) (by decide) (t := (.object "java/lang/String")) (t' := (.object "java/lang/Integer")) (by decide) (by decide)))
  have f_15 : Fld Z h_10 ax "com/example/kilnroute/kilnroute/spark/Resources" "executorCores" "Ljava/lang/Integer;" .null := f_7.other W_10 (Or.inr (slot_ne (Or.inr (wdOf hw 52 rfl)) (Or.inr (wdOf hw 48 rfl)) (by decide) (t := (.object "java/lang/Integer")) (t' := (.object "java/lang/Integer")) (by decide) (by decide)))
  have f_16 : Fld Z h_10 ax "com/example/kilnroute/kilnroute/spark/Resources" "numExecutors" "Ljava/lang/Integer;" .null := f_8.other W_10 (Or.inr (slot_ne (Or.inr (wdOf hw 54 rfl)) (Or.inr (wdOf hw 48 rfl)) (by decide) (t := (.object "java/lang/Integer")) (t' := (.object "java/lang/Integer")) (by decide) (by decide)))
  have K_17 : Keep h0 h_10 [ax] := K_9.wr W_10 (Or.inl (List.mem_of_getElem? (i := 0) rfl))
  have y_17 : n0 ≤ h_10.size := Nat.le_trans Z0 K_17.1
  refine Goes.go (U' := (T_10.setTop (mkF m 14 #[sR_ ax, .val x1, .val x2, .val x3, .val x4, .val x5] []))) st_10 ?_
  refine Goes.go (U' := (T_10.setTop (mkF m 16 #[sR_ ax, .val x1, .val x2, .val x3, .val x4, .val x5] [x3, (.ref ax)]))) (fun t kt => ?_) ?_
  · skip
    refine XS.aloadN X_10.here hx rfl (hb hby d_rm_ri_14) rfl rfl ?_
    refine XS.aloadN X_10.here hx rfl (hb hby d_rm_ri_15) rfl q3 ?_
    exact kt
  obtain ⟨T_18, h_18, X_18, e_18, W_18, st_18⟩ := putF X_10 hx hZ hown (host := "") (Or.inl (wdOf hw 49 rfl)) Via.refl e_10 f_14 f_11 (Or.inr ⟨wdOf hw 50 rfl, rfl, hnm⟩) (wdOf hw 34 rfl) (ty := (.object "java/lang/String")) (by decide) (ownNarrow q3 rfl) (ownFits q3 rfl) (g := (mkF m 16 #[sR_ ax, .val x1, .val x2, .val x3, .val x4, .val x5] [x3, (.ref ax)])) rfl rfl (hb hby d_rm_ri_16)
  have N_18 := Fr.snoc X_18 N_10 o0
  have f_19 : Exa Z h_18 ax "com/example/kilnroute/kilnroute/spark/Resources" := f_11.wr W_18
  have f_20 : Fld Z h_18 ax "com/example/kilnroute/kilnroute/spark/Resources" "driverMemory" "Ljava/lang/String;" x1 := f_12.other W_18 (Or.inr (slot_ne (Or.inr (wdOf hw 46 rfl)) (Or.inr (wdOf hw 50 rfl)) (by decide) (t := (.object "java/lang/String")) (t' := (.object "java/lang/String")) (by decide) (by decide)))
  have f_21 : Fld Z h_18 ax "com/example/kilnroute/kilnroute/spark/Resources" "driverCores" "Ljava/lang/Integer;" x2 := f_13.other W_18 (Or.inr (slot_ne (Or.inr (wdOf hw 48 rfl)) (Or.inr (wdOf hw 50 rfl)) (by decide) (t := (.object "java/lang/Integer")) (t' := (.object "java/lang/String")) (by decide) (by decide)))
  have f_22 : Fld Z h_18 ax "com/example/kilnroute/kilnroute/spark/Resources" "executorMemory" "Ljava/lang/String;" x3 := f_14.same W_18
  have f_23 : Fld Z h_18 ax "com/example/kilnroute/kilnroute/spark/Resources" "executorCores" "Ljava/lang/Integer;" .null := f_15.other W_18 (Or.inr (slot_ne (Or.inr (wdOf hw 52 rfl)) (Or.inr (wdOf hw 50 rfl)) (by decide) (t := (.object "java/lang/Integer")) (t' := (.object "java/lang/String")) (by decide) (by decide)))
  have f_24 : Fld Z h_18 ax "com/example/kilnroute/kilnroute/spark/Resources" "numExecutors" "Ljava/lang/Integer;" .null := f_16.other W_18 (Or.inr (slot_ne (Or.inr (wdOf hw 54 rfl)) (Or.inr (wdOf hw 50 rfl)) (by decide) (t := (.object "java/lang/Integer")) (t' := (.object "java/lang/String")) (by decide) (by decide)))
  have K_25 : Keep h0 h_18 [ax] := K_17.wr W_18 (Or.inl (List.mem_of_getElem? (i := 0) rfl))
  have y_25 : n0 ≤ h_18.size := Nat.le_trans Z0 K_25.1
  refine Goes.go (U' := (T_18.setTop (mkF m 19 #[sR_ ax, .val x1, .val x2, .val x3, .val x4, .val x5] []))) st_18 ?_
  refine Goes.go (U' := (T_18.setTop (mkF m 22 #[sR_ ax, .val x1, .val x2, .val x3, .val x4, .val x5] [x4, (.ref ax)]))) (fun t kt => ?_) ?_
  · skip
    refine XS.aloadN X_18.here hx rfl (hb hby d_rm_ri_19) rfl rfl ?_
    refine XS.aload X_18.here hx rfl (hb hby d_rm_ri_20) rfl q4 ?_
    exact kt
  obtain ⟨T_26, h_26, X_26, e_26, W_26, st_26⟩ := putF X_18 hx hZ hown (host := "") (Or.inl (wdOf hw 51 rfl)) Via.refl e_18 f_23 f_19 (Or.inr ⟨wdOf hw 52 rfl, rfl, hnm⟩) (wdOf hw 34 rfl) (ty := (.object "java/lang/Integer")) (by decide) (ownNarrow q4 rfl) (ownFits q4 rfl) (g := (mkF m 22 #[sR_ ax, .val x1, .val x2, .val x3, .val x4, .val x5] [x4, (.ref ax)])) rfl rfl (hb hby d_rm_ri_22)
  have N_26 := Fr.snoc X_26 N_18 o0
  have f_27 : Exa Z h_26 ax "com/example/kilnroute/kilnroute/spark/Resources" := f_19.wr W_26
  have f_28 : Fld Z h_26 ax "com/example/kilnroute/kilnroute/spark/Resources" "driverMemory" "Ljava/lang/String;" x1 := f_20.other W_26 (Or.inr (slot_ne (Or.inr (wdOf hw 46 rfl)) (Or.inr (wdOf hw 52 rfl)) (by decide) (t := (.object "java/lang/String")) (t' := (.object "java/lang/Integer")) (by decide) (by decide)))
  have f_29 : Fld Z h_26 ax "com/example/kilnroute/kilnroute/spark/Resources" "driverCores" "Ljava/lang/Integer;" x2 := f_21.other W_26 (Or.inr (slot_ne (Or.inr (wdOf hw 48 rfl)) (Or.inr (wdOf hw 52 rfl)) (by decide) (t := (.object "java/lang/Integer")) (t' := (.object "java/lang/Integer")) (by decide) (by decide)))
  have f_30 : Fld Z h_26 ax "com/example/kilnroute/kilnroute/spark/Resources" "executorMemory" "Ljava/lang/String;" x3 := f_22.other W_26 (Or.inr (slot_ne (Or.inr (wdOf hw 50 rfl)) (Or.inr (wdOf hw 52 rfl)) (by decide) (t := (.object "java/lang/String")) (t' := (.object "java/lang/Integer")) (by decide) (by decide)))
  have f_31 : Fld Z h_26 ax "com/example/kilnroute/kilnroute/spark/Resources" "executorCores" "Ljava/lang/Integer;" x4 := f_23.same W_26
  have f_32 : Fld Z h_26 ax "com/example/kilnroute/kilnroute/spark/Resources" "numExecutors" "Ljava/lang/Integer;" .null := f_24.other W_26 (Or.inr (slot_ne (Or.inr (wdOf hw 54 rfl)) (Or.inr (wdOf hw 52 rfl)) (by decide) (t := (.object "java/lang/Integer")) (t' := (.object "java/lang/Integer")) (by decide) (by decide)))
  have K_33 : Keep h0 h_26 [ax] := K_25.wr W_26 (Or.inl (List.mem_of_getElem? (i := 0) rfl))
  have y_33 : n0 ≤ h_26.size := Nat.le_trans Z0 K_33.1
  refine Goes.go (U' := (T_26.setTop (mkF m 25 #[sR_ ax, .val x1, .val x2, .val x3, .val x4, .val x5] []))) st_26 ?_
  refine Goes.go (U' := (T_26.setTop (mkF m 28 #[sR_ ax, .val x1, .val x2, .val x3, .val x4, .val x5] [x5, (.ref ax)]))) (fun t kt => ?_) ?_
  · skip
    refine XS.aloadN X_26.here hx rfl (hb hby d_rm_ri_25) rfl rfl ?_
    refine XS.aload X_26.here hx rfl (hb hby d_rm_ri_26) rfl q5 ?_
    exact kt
  obtain ⟨T_34, h_34, X_34, e_34, W_34, st_34⟩ := putF X_26 hx hZ hown (host := "") (Or.inl (wdOf hw 53 rfl)) Via.refl e_26 f_32 f_27 (Or.inr ⟨wdOf hw 54 rfl, rfl, hnm⟩) (wdOf hw 34 rfl) (ty := (.object "java/lang/Integer")) (by decide) (ownNarrow q5 rfl) (ownFits q5 rfl) (g := (mkF m 28 #[sR_ ax, .val x1, .val x2, .val x3, .val x4, .val x5] [x5, (.ref ax)])) rfl rfl (hb hby d_rm_ri_28)
  have N_34 := Fr.snoc X_34 N_26 o0
  have f_35 : Exa Z h_34 ax "com/example/kilnroute/kilnroute/spark/Resources" := f_27.wr W_34
  have f_36 : Fld Z h_34 ax "com/example/kilnroute/kilnroute/spark/Resources" "driverMemory" "Ljava/lang/String;" x1 := f_28.other W_34 (Or.inr (slot_ne (Or.inr (wdOf hw 46 rfl)) (Or.inr (wdOf hw 54 rfl)) (by decide) (t := (.object "java/lang/String")) (t' := (.object "java/lang/Integer")) (by decide) (by decide)))
  have f_37 : Fld Z h_34 ax "com/example/kilnroute/kilnroute/spark/Resources" "driverCores" "Ljava/lang/Integer;" x2 := f_29.other W_34 (Or.inr (slot_ne (Or.inr (wdOf hw 48 rfl)) (Or.inr (wdOf hw 54 rfl)) (by decide) (t := (.object "java/lang/Integer")) (t' := (.object "java/lang/Integer")) (by decide) (by decide)))
  have f_38 : Fld Z h_34 ax "com/example/kilnroute/kilnroute/spark/Resources" "executorMemory" "Ljava/lang/String;" x3 := f_30.other W_34 (Or.inr (slot_ne (Or.inr (wdOf hw 50 rfl)) (Or.inr (wdOf hw 54 rfl)) (by decide) (t := (.object "java/lang/String")) (t' := (.object "java/lang/Integer")) (by decide) (by decide)))
  have f_39 : Fld Z h_34 ax "com/example/kilnroute/kilnroute/spark/Resources" "executorCores" "Ljava/lang/Integer;" x4 := f_31.other W_34 (Or.inr (slot_ne (Or.inr (wdOf hw 52 rfl)) (Or.inr (wdOf hw 54 rfl)) (by decide) (t := (.object "java/lang/Integer")) (t' := (.object "java/lang/Integer")) (by decide) (by decide)))
  have f_40 : Fld Z h_34 ax "com/example/kilnroute/kilnroute/spark/Resources" "numExecutors" "Ljava/lang/Integer;" x5 := f_32.same W_34
  have K_41 : Keep h0 h_34 [ax] := K_33.wr W_34 (Or.inl (List.mem_of_getElem? (i := 0) rfl))
  have y_41 : n0 ≤ h_34.size := Nat.le_trans Z0 K_41.1
  refine Goes.go (U' := (T_34.setTop (mkF m 31 #[sR_ ax, .val x1, .val x2, .val x3, .val x4, .val x5] []))) st_34 ?_
  refine Goes.retV X_34 hx hlk hret (hb hby d_rm_ri_31) (by decide) (by decide) ?_
  try rw [e_34]
  exact ⟨rfl, N_34, K_41, f_35, f_36, f_37, f_38, f_39, f_40⟩
theorem d_rm_g_driverMemory_0 : decode prog_18_method_17_code 0 = .ok (.aload_n 0, 1) := by decide +kernel
theorem d_rm_g_driverMemory_1 : decode prog_18_method_17_code 1 = .ok (.getfield 7, 3) := by decide +kernel
theorem d_rm_g_driverMemory_4 : decode prog_18_method_17_code 4 = .ok (.areturn, 1) := by decide +kernel
set_option maxHeartbeats 4000000 in
theorem ef_rm_g_driverMemory (m : MethodId) (x0 : Addr)  : entryFrame m #[(.ref x0)] 1 = mkF m 0 #[.val (.ref x0)] [] := by first | (simp [entryFrame, mkF, argsToLocals, catR, catN, catI, catJ]; done) | rfl
set_option maxRecDepth 65536 in
set_option maxHeartbeats 40000000 in
theorem rm_g_driverMemory (l : Launch) (Z : State) (a0 : Array Value) (hw : ∀ d ∈ tables_1, d.before a0 Z = true) (ws : List Jvm.Cond) (ax : Addr) (xv : Value) (qv : xv.isRef = true) (h0 : Heap) (n0 : Nat) (Z0 : n0 ≤ h0.size) (F0 : Fld Z h0 ax "com/example/kilnroute/kilnroute/spark/Resources" "driverMemory" "Ljava/lang/String;" xv) :
    Pays l Z (⟨"com/example/kilnroute/kilnroute/spark/Resources", "driverMemory", "()Ljava/lang/String;"⟩ : MethodName) prog_18_method_17_code 1 (some (.object "java/lang/String")) ws ({ frames := 0, cells := 0, slots := 0, locals := 0 } : Room) #[(.ref ax)] h0 (fun v h L => v = some xv ∧ Fr n0 L ∧ h = h0) := by
  refine Pays.of (plainFor_of_name (by first | (simp [plainName, overriddenIn]; done) | decide +kernel)) ?_
  intro p e s m below meth c s₁ hx hby hml hown hnm hret hlk hZ e0 X0
  have N0 := Fr.nil n0
  have K0 : Keep h0 h0 [] := Keep.refl _ _
  refine Goes.go (U' := (s₁.setTop (mkF m 0 #[sR_ ax] []))) (fun t kt => castTop (ef_rm_g_driverMemory m ax) kt) ?_
  refine Goes.go (U' := (s₁.setTop (mkF m 1 #[sR_ ax] [(.ref ax)]))) (fun t kt => ?_) ?_
  · skip
    refine XS.aloadN X0.here hx rfl (hb hby d_rm_g_driverMemory_0) rfl rfl ?_
    exact kt
  obtain ⟨T_1, X_1, e_1, st_1⟩ := getF X0 hx hZ hown (host := "") (Or.inl (wdOf hw 45 rfl)) Via.refl e0 F0 (g := (mkF m 1 #[sR_ ax] [(.ref ax)])) rfl rfl (hb hby d_rm_g_driverMemory_1)
  refine Goes.go (U' := (T_1.setTop (mkF m 4 #[sR_ ax] [xv]))) st_1 ?_
  refine Goes.retA X_1 hx hlk hret rfl qv (hb hby d_rm_g_driverMemory_4) (by decide) (by decide) ?_
  try rw [e_1]
  exact ⟨rfl, N0, rfl⟩
theorem d_rm_g_driverCores_0 : decode prog_18_method_18_code 0 = .ok (.aload_n 0, 1) := by decide +kernel
theorem d_rm_g_driverCores_1 : decode prog_18_method_18_code 1 = .ok (.getfield 13, 3) := by decide +kernel
theorem d_rm_g_driverCores_4 : decode prog_18_method_18_code 4 = .ok (.areturn, 1) := by decide +kernel
set_option maxHeartbeats 4000000 in
theorem ef_rm_g_driverCores (m : MethodId) (x0 : Addr)  : entryFrame m #[(.ref x0)] 1 = mkF m 0 #[.val (.ref x0)] [] := by first | (simp [entryFrame, mkF, argsToLocals, catR, catN, catI, catJ]; done) | rfl
set_option maxRecDepth 65536 in
set_option maxHeartbeats 40000000 in
theorem rm_g_driverCores (l : Launch) (Z : State) (a0 : Array Value) (hw : ∀ d ∈ tables_1, d.before a0 Z = true) (ws : List Jvm.Cond) (ax : Addr) (xv : Value) (qv : xv.isRef = true) (h0 : Heap) (n0 : Nat) (Z0 : n0 ≤ h0.size) (F0 : Fld Z h0 ax "com/example/kilnroute/kilnroute/spark/Resources" "driverCores" "Ljava/lang/Integer;" xv) :
    Pays l Z (⟨"com/example/kilnroute/kilnroute/spark/Resources", "driverCores", "()Ljava/lang/Integer;"⟩ : MethodName) prog_18_method_18_code 1 (some (.object "java/lang/Integer")) ws ({ frames := 0, cells := 0, slots := 0, locals := 0 } : Room) #[(.ref ax)] h0 (fun v h L => v = some xv ∧ Fr n0 L ∧ h = h0) := by
  refine Pays.of (plainFor_of_name (by first | (simp [plainName, overriddenIn]; done) | decide +kernel)) ?_
  intro p e s m below meth c s₁ hx hby hml hown hnm hret hlk hZ e0 X0
  have N0 := Fr.nil n0
  have K0 : Keep h0 h0 [] := Keep.refl _ _
  refine Goes.go (U' := (s₁.setTop (mkF m 0 #[sR_ ax] []))) (fun t kt => castTop (ef_rm_g_driverCores m ax) kt) ?_
  refine Goes.go (U' := (s₁.setTop (mkF m 1 #[sR_ ax] [(.ref ax)]))) (fun t kt => ?_) ?_
  · skip
    refine XS.aloadN X0.here hx rfl (hb hby d_rm_g_driverCores_0) rfl rfl ?_
    exact kt
  obtain ⟨T_1, X_1, e_1, st_1⟩ := getF X0 hx hZ hown (host := "") (Or.inl (wdOf hw 47 rfl)) Via.refl e0 F0 (g := (mkF m 1 #[sR_ ax] [(.ref ax)])) rfl rfl (hb hby d_rm_g_driverCores_1)
  refine Goes.go (U' := (T_1.setTop (mkF m 4 #[sR_ ax] [xv]))) st_1 ?_
  refine Goes.retA X_1 hx hlk hret rfl qv (hb hby d_rm_g_driverCores_4) (by decide) (by decide) ?_
  try rw [e_1]
  exact ⟨rfl, N0, rfl⟩
theorem d_rm_g_executorMemory_0 : decode prog_18_method_19_code 0 = .ok (.aload_n 0, 1) := by decide +kernel
theorem d_rm_g_executorMemory_1 : decode prog_18_method_19_code 1 = .ok (.getfield 17, 3) := by decide +kernel
theorem d_rm_g_executorMemory_4 : decode prog_18_method_19_code 4 = .ok (.areturn, 1) := by decide +kernel
set_option maxHeartbeats 4000000 in
theorem ef_rm_g_executorMemory (m : MethodId) (x0 : Addr)  : entryFrame m #[(.ref x0)] 1 = mkF m 0 #[.val (.ref x0)] [] := by first | (simp [entryFrame, mkF, argsToLocals, catR, catN, catI, catJ]; done) | rfl
set_option maxRecDepth 65536 in
set_option maxHeartbeats 40000000 in
theorem rm_g_executorMemory (l : Launch) (Z : State) (a0 : Array Value) (hw : ∀ d ∈ tables_1, d.before a0 Z = true) (ws : List Jvm.Cond) (ax : Addr) (xv : Value) (qv : xv.isRef = true) (h0 : Heap) (n0 : Nat) (Z0 : n0 ≤ h0.size) (F0 : Fld Z h0 ax "com/example/kilnroute/kilnroute/spark/Resources" "executorMemory" "Ljava/lang/String;" xv) :
    Pays l Z (⟨"com/example/kilnroute/kilnroute/spark/Resources", "executorMemory", "()Ljava/lang/String;"⟩ : MethodName) prog_18_method_19_code 1 (some (.object "java/lang/String")) ws ({ frames := 0, cells := 0, slots := 0, locals := 0 } : Room) #[(.ref ax)] h0 (fun v h L => v = some xv ∧ Fr n0 L ∧ h = h0) := by
  refine Pays.of (plainFor_of_name (by first | (simp [plainName, overriddenIn]; done) | decide +kernel)) ?_
  intro p e s m below meth c s₁ hx hby hml hown hnm hret hlk hZ e0 X0
  have N0 := Fr.nil n0
  have K0 : Keep h0 h0 [] := Keep.refl _ _
  refine Goes.go (U' := (s₁.setTop (mkF m 0 #[sR_ ax] []))) (fun t kt => castTop (ef_rm_g_executorMemory m ax) kt) ?_
  refine Goes.go (U' := (s₁.setTop (mkF m 1 #[sR_ ax] [(.ref ax)]))) (fun t kt => ?_) ?_
  · skip
    refine XS.aloadN X0.here hx rfl (hb hby d_rm_g_executorMemory_0) rfl rfl ?_
    exact kt
  obtain ⟨T_1, X_1, e_1, st_1⟩ := getF X0 hx hZ hown (host := "") (Or.inl (wdOf hw 49 rfl)) Via.refl e0 F0 (g := (mkF m 1 #[sR_ ax] [(.ref ax)])) rfl rfl (hb hby d_rm_g_executorMemory_1)
  refine Goes.go (U' := (T_1.setTop (mkF m 4 #[sR_ ax] [xv]))) st_1 ?_
  refine Goes.retA X_1 hx hlk hret rfl qv (hb hby d_rm_g_executorMemory_4) (by decide) (by decide) ?_
  try rw [e_1]
  exact ⟨rfl, N0, rfl⟩
theorem d_rm_g_executorCores_0 : decode prog_18_method_20_code 0 = .ok (.aload_n 0, 1) := by decide +kernel
theorem d_rm_g_executorCores_1 : decode prog_18_method_20_code 1 = .ok (.getfield 20, 3) := by decide +kernel
theorem d_rm_g_executorCores_4 : decode prog_18_method_20_code 4 = .ok (.areturn, 1) := by decide +kernel
set_option maxHeartbeats 4000000 in
theorem ef_rm_g_executorCores (m : MethodId) (x0 : Addr)  : entryFrame m #[(.ref x0)] 1 = mkF m 0 #[.val (.ref x0)] [] := by first | (simp [entryFrame, mkF, argsToLocals, catR, catN, catI, catJ]; done) | rfl
set_option maxRecDepth 65536 in
set_option maxHeartbeats 40000000 in
theorem rm_g_executorCores (l : Launch) (Z : State) (a0 : Array Value) (hw : ∀ d ∈ tables_1, d.before a0 Z = true) (ws : List Jvm.Cond) (ax : Addr) (xv : Value) (qv : xv.isRef = true) (h0 : Heap) (n0 : Nat) (Z0 : n0 ≤ h0.size) (F0 : Fld Z h0 ax "com/example/kilnroute/kilnroute/spark/Resources" "executorCores" "Ljava/lang/Integer;" xv) :
    Pays l Z (⟨"com/example/kilnroute/kilnroute/spark/Resources", "executorCores", "()Ljava/lang/Integer;"⟩ : MethodName) prog_18_method_20_code 1 (some (.object "java/lang/Integer")) ws ({ frames := 0, cells := 0, slots := 0, locals := 0 } : Room) #[(.ref ax)] h0 (fun v h L => v = some xv ∧ Fr n0 L ∧ h = h0) := by
  refine Pays.of (plainFor_of_name (by first | (simp [plainName, overriddenIn]; done) | decide +kernel)) ?_
  intro p e s m below meth c s₁ hx hby hml hown hnm hret hlk hZ e0 X0
  have N0 := Fr.nil n0
  have K0 : Keep h0 h0 [] := Keep.refl _ _
  refine Goes.go (U' := (s₁.setTop (mkF m 0 #[sR_ ax] []))) (fun t kt => castTop (ef_rm_g_executorCores m ax) kt) ?_
  refine Goes.go (U' := (s₁.setTop (mkF m 1 #[sR_ ax] [(.ref ax)]))) (fun t kt => ?_) ?_
  · skip
    refine XS.aloadN X0.here hx rfl (hb hby d_rm_g_executorCores_0) rfl rfl ?_
    exact kt
  obtain ⟨T_1, X_1, e_1, st_1⟩ := getF X0 hx hZ hown (host := "") (Or.inl (wdOf hw 51 rfl)) Via.refl e0 F0 (g := (mkF m 1 #[sR_ ax] [(.ref ax)])) rfl rfl (hb hby d_rm_g_executorCores_1)
  refine Goes.go (U' := (T_1.setTop (mkF m 4 #[sR_ ax] [xv]))) st_1 ?_
  refine Goes.retA X_1 hx hlk hret rfl qv (hb hby d_rm_g_executorCores_4) (by decide) (by decide) ?_
  try rw [e_1]
  exact ⟨rfl, N0, rfl⟩
theorem d_rm_g_numExecutors_0 : decode prog_18_method_21_code 0 = .ok (.aload_n 0, 1) := by decide +kernel
theorem d_rm_g_numExecutors_1 : decode prog_18_method_21_code 1 = .ok (.getfield 23, 3) := by decide +kernel
theorem d_rm_g_numExecutors_4 : decode prog_18_method_21_code 4 = .ok (.areturn, 1) := by decide +kernel
set_option maxHeartbeats 4000000 in
theorem ef_rm_g_numExecutors (m : MethodId) (x0 : Addr)  : entryFrame m #[(.ref x0)] 1 = mkF m 0 #[.val (.ref x0)] [] := by first | (simp [entryFrame, mkF, argsToLocals, catR, catN, catI, catJ]; done) | rfl
set_option maxRecDepth 65536 in
set_option maxHeartbeats 40000000 in
theorem rm_g_numExecutors (l : Launch) (Z : State) (a0 : Array Value) (hw : ∀ d ∈ tables_1, d.before a0 Z = true) (ws : List Jvm.Cond) (ax : Addr) (xv : Value) (qv : xv.isRef = true) (h0 : Heap) (n0 : Nat) (Z0 : n0 ≤ h0.size) (F0 : Fld Z h0 ax "com/example/kilnroute/kilnroute/spark/Resources" "numExecutors" "Ljava/lang/Integer;" xv) :
    Pays l Z (⟨"com/example/kilnroute/kilnroute/spark/Resources", "numExecutors", "()Ljava/lang/Integer;"⟩ : MethodName) prog_18_method_21_code 1 (some (.object "java/lang/Integer")) ws ({ frames := 0, cells := 0, slots := 0, locals := 0 } : Room) #[(.ref ax)] h0 (fun v h L => v = some xv ∧ Fr n0 L ∧ h = h0) := by
  refine Pays.of (plainFor_of_name (by first | (simp [plainName, overriddenIn]; done) | decide +kernel)) ?_
  intro p e s m below meth c s₁ hx hby hml hown hnm hret hlk hZ e0 X0
  have N0 := Fr.nil n0
  have K0 : Keep h0 h0 [] := Keep.refl _ _
  refine Goes.go (U' := (s₁.setTop (mkF m 0 #[sR_ ax] []))) (fun t kt => castTop (ef_rm_g_numExecutors m ax) kt) ?_
  refine Goes.go (U' := (s₁.setTop (mkF m 1 #[sR_ ax] [(.ref ax)]))) (fun t kt => ?_) ?_
  · skip
    refine XS.aloadN X0.here hx rfl (hb hby d_rm_g_numExecutors_0) rfl rfl ?_
    exact kt
  obtain ⟨T_1, X_1, e_1, st_1⟩ := getF X0 hx hZ hown (host := "") (Or.inl (wdOf hw 53 rfl)) Via.refl e0 F0 (g := (mkF m 1 #[sR_ ax] [(.ref ax)])) rfl rfl (hb hby d_rm_g_numExecutors_1)
  refine Goes.go (U' := (T_1.setTop (mkF m 4 #[sR_ ax] [xv]))) st_1 ?_
  refine Goes.retA X_1 hx hlk hret rfl qv (hb hby d_rm_g_numExecutors_4) (by decide) (by decide) ?_
  try rw [e_1]
  exact ⟨rfl, N0, rfl⟩
theorem d_rm_seq_0 : decode jdk_42_method_66_code 0 = .ok (.aload_n 0, 1) := by decide +kernel
theorem d_rm_seq_1 : decode jdk_42_method_66_code 1 = .ok (.aload_n 1, 1) := by decide +kernel
theorem d_rm_seq_2 : decode jdk_42_method_66_code 2 = .ok (.if_acmp .ne 5, 3) := by decide +kernel
theorem d_rm_seq_5 : decode jdk_42_method_66_code 5 = .ok (.iconst 1, 1) := by decide +kernel
theorem d_rm_seq_6 : decode jdk_42_method_66_code 6 = .ok (.ireturn, 1) := by decide +kernel
set_option maxHeartbeats 4000000 in
theorem ef_rm_seq (m : MethodId) (x0 : Addr) (x1 : Addr)  : entryFrame m #[(.ref x0), (.ref x1)] 3 = mkF m 0 #[.val (.ref x0), .val (.ref x1), .unset] [] := by first | (simp [entryFrame, mkF, argsToLocals, catR, catN, catI, catJ]; done) | rfl
set_option maxRecDepth 65536 in
set_option maxHeartbeats 40000000 in
theorem rm_seq (l : Launch) (Z : State) (a0 : Array Value) (hw : ∀ d ∈ tables_1, d.before a0 Z = true) (ws : List Jvm.Cond) (ax : Addr) (h0 : Heap) (n0 : Nat) (Z0 : n0 ≤ h0.size)  :
    Pays l Z (⟨"java/lang/String", "equals", "(Ljava/lang/Object;)Z"⟩ : MethodName) jdk_42_method_66_code 3 (some .boolean) ws ({ frames := 0, cells := 0, slots := 0, locals := 0 } : Room) #[(.ref ax), (.ref ax)] h0 (fun v h L => v = some (.int 1) ∧ Fr n0 L ∧ h = h0) := by
  refine Pays.of (plainFor_of_name (by first | (simp [plainName, overriddenIn]; done) | decide +kernel)) ?_
  intro p e s m below meth c s₁ hx hby hml hown hnm hret hlk hZ e0 X0
  have N0 := Fr.nil n0
  have K0 : Keep h0 h0 [] := Keep.refl _ _
  refine Goes.go (U' := (s₁.setTop (mkF m 0 #[sR_ ax, sR_ ax, sU_] []))) (fun t kt => castTop (ef_rm_seq m ax ax) kt) ?_
  refine Goes.go (U' := (s₁.setTop (mkF m 6 #[sR_ ax, sR_ ax, sU_] [(.int (1 : Int32))]))) (fun t kt => ?_) ?_
  · skip
    refine XS.aloadN X0.here hx rfl (hb hby d_rm_seq_0) rfl rfl ?_
    refine XS.aloadN X0.here hx rfl (hb hby d_rm_seq_1) rfl rfl ?_
    refine XT.acmpNo X0.here hx rfl (hb hby d_rm_seq_2) rfl rfl rfl (XT.aa_ne_f (congrArg Value.ref rfl)) ?_
    refine XS.iconst X0.here hx rfl (hb hby d_rm_seq_5) ?_
    exact kt
  refine Goes.retB X0 hx hlk hret (hb hby d_rm_seq_6) (by decide) (by decide) ?_
  try rw [e0]
  exact ⟨rfl, N0, rfl⟩
theorem d_rm_iv_0 : decode jdk_33_method_27_code 0 = .ok (.aload_n 0, 1) := by decide +kernel
theorem d_rm_iv_1 : decode jdk_33_method_27_code 1 = .ok (.getfield 205, 3) := by decide +kernel
theorem d_rm_iv_4 : decode jdk_33_method_27_code 4 = .ok (.ireturn, 1) := by decide +kernel
set_option maxHeartbeats 4000000 in
theorem ef_rm_iv (m : MethodId) (x0 : Addr)  : entryFrame m #[(.ref x0)] 1 = mkF m 0 #[.val (.ref x0)] [] := by first | (simp [entryFrame, mkF, argsToLocals, catR, catN, catI, catJ]; done) | rfl
set_option maxRecDepth 65536 in
set_option maxHeartbeats 40000000 in
theorem rm_iv (l : Launch) (Z : State) (a0 : Array Value) (hw : ∀ d ∈ tables_1, d.before a0 Z = true) (ws : List Jvm.Cond) (ax : Addr) (xv : Int32) (h0 : Heap) (n0 : Nat) (Z0 : n0 ≤ h0.size) (F0 : Fld Z h0 ax "java/lang/Integer" "value" "I" (.int xv)) :
    Pays l Z (⟨"java/lang/Integer", "intValue", "()I"⟩ : MethodName) jdk_33_method_27_code 1 (some .int) ws ({ frames := 0, cells := 0, slots := 0, locals := 0 } : Room) #[(.ref ax)] h0 (fun v h L => v = some (.int xv) ∧ Fr n0 L ∧ h = h0) := by
  refine Pays.of (plainFor_of_name (by first | (simp [plainName, overriddenIn]; done) | decide +kernel)) ?_
  intro p e s m below meth c s₁ hx hby hml hown hnm hret hlk hZ e0 X0
  have N0 := Fr.nil n0
  have K0 : Keep h0 h0 [] := Keep.refl _ _
  refine Goes.go (U' := (s₁.setTop (mkF m 0 #[sR_ ax] []))) (fun t kt => castTop (ef_rm_iv m ax) kt) ?_
  refine Goes.go (U' := (s₁.setTop (mkF m 1 #[sR_ ax] [(.ref ax)]))) (fun t kt => ?_) ?_
  · skip
    refine XS.aloadN X0.here hx rfl (hb hby d_rm_iv_0) rfl rfl ?_
    exact kt
  obtain ⟨T_1, X_1, e_1, st_1⟩ := getF X0 hx hZ hown (host := "") (Or.inl (wdOf hw 88 rfl)) Via.refl e0 F0 (g := (mkF m 1 #[sR_ ax] [(.ref ax)])) rfl rfl (hb hby d_rm_iv_1)
  refine Goes.go (U' := (T_1.setTop (mkF m 4 #[sR_ ax] [(.int xv)]))) st_1 ?_
  refine Goes.retI X_1 hx hlk hret (hb hby d_rm_iv_4) (by decide) (by decide) ?_
  try rw [e_1]
  exact ⟨rfl, N0, rfl⟩
theorem d_rm_ss_0 : decode method_4_code 0 = .ok (.aload_n 0, 1) := by decide +kernel
theorem d_rm_ss_1 : decode method_4_code 1 = .ok (.ifnonnull 13, 3) := by decide +kernel
theorem d_rm_ss_4 : decode method_4_code 4 = .ok (.aload_n 1, 1) := by decide +kernel
theorem d_rm_ss_5 : decode method_4_code 5 = .ok (.ifnonnull 7, 3) := by decide +kernel
theorem d_rm_ss_8 : decode method_4_code 8 = .ok (.iconst 1, 1) := by decide +kernel
theorem d_rm_ss_9 : decode method_4_code 9 = .ok (.goto 4, 3) := by decide +kernel
theorem d_rm_ss_13 : decode method_4_code 13 = .ok (.ireturn, 1) := by decide +kernel
theorem d_rm_ss_14 : decode method_4_code 14 = .ok (.aload_n 1, 1) := by decide +kernel
theorem d_rm_ss_15 : decode method_4_code 15 = .ok (.ifnull 15, 3) := by decide +kernel
theorem d_rm_ss_18 : decode method_4_code 18 = .ok (.aload_n 0, 1) := by decide +kernel
theorem d_rm_ss_19 : decode method_4_code 19 = .ok (.aload_n 1, 1) := by decide +kernel
theorem d_rm_ss_20 : decode method_4_code 20 = .ok (.invokevirtual 58, 3) := by decide +kernel
theorem d_rm_ss_23 : decode method_4_code 23 = .ok (.ifCond .eq 7, 3) := by decide +kernel
theorem d_rm_ss_26 : decode method_4_code 26 = .ok (.iconst 1, 1) := by decide +kernel
theorem d_rm_ss_27 : decode method_4_code 27 = .ok (.goto 4, 3) := by decide +kernel
theorem d_rm_ss_31 : decode method_4_code 31 = .ok (.ireturn, 1) := by decide +kernel
set_option maxHeartbeats 4000000 in
theorem ef_rm_ss (m : MethodId) (x0 : Value) (x1 : Value) (rx0 : x0.isRef = true) (rx1 : x1.isRef = true) : entryFrame m #[x0, x1] 2 = mkF m 0 #[.val x0, .val x1] [] := by simp [entryFrame, mkF, argsToLocals, catR, catN, catI, catJ, XT.cat1 rx0, XT.cat1 rx1]
set_option maxRecDepth 65536 in
set_option maxHeartbeats 40000000 in
theorem rm_ss (l : Launch) (Z : State) (a0 : Array Value) (hw : ∀ d ∈ tables_1, d.before a0 Z = true) (ws : List Jvm.Cond) (xa xb : Value) (h0 : Heap) (n0 : Nat) (Z0 : n0 ≤ h0.size) (hxy : xa = xb) (R0 : RefV Z h0 xb "java/lang/String") :
    Pays l Z (⟨"com/example/kilnroute/kilnroute/spark/ResourcesWithDriverMemoryPinLaw", "sameStr", "(Ljava/lang/String;Ljava/lang/String;)Z"⟩ : MethodName) method_4_code 2 (some .boolean) ws ({ frames := 1, cells := 0, slots := 0, locals := 14 } : Room) #[xa, xb] h0 (fun v h L => v = some (.int 1) ∧ Fr n0 L ∧ h = h0) := by
  refine Pays.of (plainFor_of_name (by first | (simp [plainName, overriddenIn]; done) | decide +kernel)) ?_
  intro p e s m below meth c s₁ hx hby hml hown hnm hret hlk hZ e0 X0
  have N0 := Fr.nil n0
  have K0 : Keep h0 h0 [] := Keep.refl _ _
  refine Goes.go (U' := (s₁.setTop (mkF m 0 #[.val xa, .val xb] []))) (fun t kt => castTop (ef_rm_ss m xa xb (hxy ▸ R0.isRef) R0.isRef) kt) ?_
  subst hxy
  rcases R0 with rfl | ⟨ra, rfl, Ea⟩
  · -- null
    refine Goes.go (U' := (s₁.setTop (mkF m 13 #[.val .null, .val .null] [(.int (1 : Int32))]))) (fun t kt => ?_) ?_
    · skip
      refine XS.aloadN X0.here hx rfl (hb hby d_rm_ss_0) rfl rfl ?_
      refine XS.ifnonnullNo X0.here hx rfl (hb hby d_rm_ss_1) rfl ?_
      refine XS.aloadN X0.here hx rfl (hb hby d_rm_ss_4) rfl rfl ?_
      refine XS.ifnonnullNo X0.here hx rfl (hb hby d_rm_ss_5) rfl ?_
      refine XS.iconst X0.here hx rfl (hb hby d_rm_ss_8) ?_
      refine XS.goto X0.here hx rfl (pc0 := 9) (pc' := 13) rfl (hb hby d_rm_ss_9) (by decide) (by decide) ?_
      exact kt
    refine Goes.retB X0 hx hlk hret (hb hby d_rm_ss_13) (by decide) (by decide) ?_
    try rw [e0]
    exact ⟨rfl, N0, rfl⟩
  · -- a String
    refine Goes.go (U' := (s₁.setTop (mkF m 20 #[sR_ ra, sR_ ra] [(.ref ra), (.ref ra)]))) (fun t kt => ?_) ?_
    · skip
      refine XS.aloadN X0.here hx rfl (hb hby d_rm_ss_0) rfl rfl ?_
      refine XS.ifnonnullYes X0.here hx rfl (pc0 := 1) (pc' := 14) rfl (hb hby d_rm_ss_1) rfl (by decide) (by decide) ?_
      refine XS.aloadN X0.here hx rfl (hb hby d_rm_ss_14) rfl rfl ?_
      refine XS.ifnullNo X0.here hx rfl (hb hby d_rm_ss_15) rfl ?_
      refine XS.aloadN X0.here hx rfl (hb hby d_rm_ss_18) rfl rfl ?_
      refine XS.aloadN X0.here hx rfl (hb hby d_rm_ss_19) rfl rfl ?_
      exact kt
    obtain ⟨v_1, T_1, L_1, X_1, q_1, st_1⟩ := callVirtual X0 hx hZ (y := (⟨"java/lang/String", "equals", "(Ljava/lang/Object;)Z"⟩ : MethodName)) (z := (⟨"java/lang/String", "equals", "(Ljava/lang/Object;)Z"⟩ : MethodName)) (W := 0) hown (wdOf hw 70 rfl) (wdOf hw 71 rfl) (notFace_of_selects (args := #[]) (mvT hZ (wdOf hw 73 rfl))) (wdOf hw 73 rfl) (wdOf hw 72 rfl) (wdOf hw 6 rfl) (wdOf hw 74 rfl) (by decide) (rm_seq l Z a0 hw [] ra h0 n0 Z0) (by decide) (by decide) (by decide) (by decide) e0 Ea (g := (mkF m 20 #[sR_ ra, sR_ ra] [(.ref ra), (.ref ra)])) rfl (by rw [hml]; rfl) (argsL := [(.ref ra)]) (rest := []) (lenOf pd_2 rfl) rfl rfl (Nat.le_refl _) (hb hby d_rm_ss_20)
    obtain ⟨rfl, n_1, K_1⟩ := q_1
    have N_1 := Fr.app N0 n_1
    refine Goes.go (U' := (T_1.setTop (mkF m 23 #[sR_ ra, sR_ ra] [(.int (1 : Int32))]))) st_1 ?_
    refine Goes.go (U' := (T_1.setTop (mkF m 31 #[sR_ ra, sR_ ra] [(.int (1 : Int32))]))) (fun t kt => ?_) ?_
    · skip
      refine XS.ifNo X_1.here hx rfl (hb hby d_rm_ss_23) rfl (XT.i0_eq_f (by decide)) ?_
      refine XS.iconst X_1.here hx rfl (hb hby d_rm_ss_26) ?_
      refine XS.goto X_1.here hx rfl (pc0 := 27) (pc' := 31) rfl (hb hby d_rm_ss_27) (by decide) (by decide) ?_
      exact kt
    refine Goes.retB X_1 hx hlk hret (hb hby d_rm_ss_31) (by decide) (by decide) ?_
    try rw [K_1]
    exact ⟨rfl, N_1, rfl⟩
theorem d_rm_si_0 : decode method_5_code 0 = .ok (.aload_n 0, 1) := by decide +kernel
theorem d_rm_si_1 : decode method_5_code 1 = .ok (.ifnonnull 13, 3) := by decide +kernel
theorem d_rm_si_4 : decode method_5_code 4 = .ok (.aload_n 1, 1) := by decide +kernel
theorem d_rm_si_5 : decode method_5_code 5 = .ok (.ifnonnull 7, 3) := by decide +kernel
theorem d_rm_si_8 : decode method_5_code 8 = .ok (.iconst 1, 1) := by decide +kernel
theorem d_rm_si_9 : decode method_5_code 9 = .ok (.goto 4, 3) := by decide +kernel
theorem d_rm_si_13 : decode method_5_code 13 = .ok (.ireturn, 1) := by decide +kernel
theorem d_rm_si_14 : decode method_5_code 14 = .ok (.aload_n 1, 1) := by decide +kernel
theorem d_rm_si_15 : decode method_5_code 15 = .ok (.ifnull 18, 3) := by decide +kernel
theorem d_rm_si_18 : decode method_5_code 18 = .ok (.aload_n 0, 1) := by decide +kernel
theorem d_rm_si_19 : decode method_5_code 19 = .ok (.invokevirtual 62, 3) := by decide +kernel
theorem d_rm_si_22 : decode method_5_code 22 = .ok (.aload_n 1, 1) := by decide +kernel
theorem d_rm_si_23 : decode method_5_code 23 = .ok (.invokevirtual 62, 3) := by decide +kernel
theorem d_rm_si_26 : decode method_5_code 26 = .ok (.if_icmp .ne 7, 3) := by decide +kernel
theorem d_rm_si_29 : decode method_5_code 29 = .ok (.iconst 1, 1) := by decide +kernel
theorem d_rm_si_30 : decode method_5_code 30 = .ok (.goto 4, 3) := by decide +kernel
theorem d_rm_si_34 : decode method_5_code 34 = .ok (.ireturn, 1) := by decide +kernel
set_option maxHeartbeats 4000000 in
theorem ef_rm_si (m : MethodId) (x0 : Value) (x1 : Value) (rx0 : x0.isRef = true) (rx1 : x1.isRef = true) : entryFrame m #[x0, x1] 2 = mkF m 0 #[.val x0, .val x1] [] := by simp [entryFrame, mkF, argsToLocals, catR, catN, catI, catJ, XT.cat1 rx0, XT.cat1 rx1]
set_option maxRecDepth 65536 in
set_option maxHeartbeats 40000000 in
theorem rm_si (l : Launch) (Z : State) (a0 : Array Value) (hw : ∀ d ∈ tables_1, d.before a0 Z = true) (ws : List Jvm.Cond) (xa xb : Value) (h0 : Heap) (n0 : Nat) (Z0 : n0 ≤ h0.size) (hxy : xa = xb) (R0 : IntV Z h0 xb) :
    Pays l Z (⟨"com/example/kilnroute/kilnroute/spark/ResourcesWithDriverMemoryPinLaw", "sameInt", "(Ljava/lang/Integer;Ljava/lang/Integer;)Z"⟩ : MethodName) method_5_code 2 (some .boolean) ws ({ frames := 1, cells := 0, slots := 0, locals := 13 } : Room) #[xa, xb] h0 (fun v h L => v = some (.int 1) ∧ Fr n0 L ∧ h = h0) := by
  refine Pays.of (plainFor_of_name (by first | (simp [plainName, overriddenIn]; done) | decide +kernel)) ?_
  intro p e s m below meth c s₁ hx hby hml hown hnm hret hlk hZ e0 X0
  have N0 := Fr.nil n0
  have K0 : Keep h0 h0 [] := Keep.refl _ _
  refine Goes.go (U' := (s₁.setTop (mkF m 0 #[.val xa, .val xb] []))) (fun t kt => castTop (ef_rm_si m xa xb (hxy ▸ R0.isRef) R0.isRef) kt) ?_
  subst hxy
  rcases R0 with rfl | ⟨ra, xi, rfl, Ea, Fa⟩
  · -- null
    refine Goes.go (U' := (s₁.setTop (mkF m 13 #[.val .null, .val .null] [(.int (1 : Int32))]))) (fun t kt => ?_) ?_
    · skip
      refine XS.aloadN X0.here hx rfl (hb hby d_rm_si_0) rfl rfl ?_
      refine XS.ifnonnullNo X0.here hx rfl (hb hby d_rm_si_1) rfl ?_
      refine XS.aloadN X0.here hx rfl (hb hby d_rm_si_4) rfl rfl ?_
      refine XS.ifnonnullNo X0.here hx rfl (hb hby d_rm_si_5) rfl ?_
      refine XS.iconst X0.here hx rfl (hb hby d_rm_si_8) ?_
      refine XS.goto X0.here hx rfl (pc0 := 9) (pc' := 13) rfl (hb hby d_rm_si_9) (by decide) (by decide) ?_
      exact kt
    refine Goes.retB X0 hx hlk hret (hb hby d_rm_si_13) (by decide) (by decide) ?_
    try rw [e0]
    exact ⟨rfl, N0, rfl⟩
  · -- an Integer
    refine Goes.go (U' := (s₁.setTop (mkF m 19 #[sR_ ra, sR_ ra] [(.ref ra)]))) (fun t kt => ?_) ?_
    · skip
      refine XS.aloadN X0.here hx rfl (hb hby d_rm_si_0) rfl rfl ?_
      refine XS.ifnonnullYes X0.here hx rfl (pc0 := 1) (pc' := 14) rfl (hb hby d_rm_si_1) rfl (by decide) (by decide) ?_
      refine XS.aloadN X0.here hx rfl (hb hby d_rm_si_14) rfl rfl ?_
      refine XS.ifnullNo X0.here hx rfl (hb hby d_rm_si_15) rfl ?_
      refine XS.aloadN X0.here hx rfl (hb hby d_rm_si_18) rfl rfl ?_
      exact kt
    obtain ⟨v_1, T_1, L_1, X_1, q_1, st_1⟩ := callVirtual X0 hx hZ (y := (⟨"java/lang/Integer", "intValue", "()I"⟩ : MethodName)) (z := (⟨"java/lang/Integer", "intValue", "()I"⟩ : MethodName)) (W := 0) hown (wdOf hw 83 rfl) (wdOf hw 84 rfl) (notFace_of_selects (args := #[]) (mvT hZ (wdOf hw 86 rfl))) (wdOf hw 86 rfl) (wdOf hw 85 rfl) (wdOf hw 28 rfl) (wdOf hw 87 rfl) (by decide) (rm_iv l Z a0 hw [] ra xi h0 n0 Z0 Fa) (by decide) (by decide) (by decide) (by decide) e0 Ea (g := (mkF m 19 #[sR_ ra, sR_ ra] [(.ref ra)])) rfl (by rw [hml]; rfl) (argsL := []) (rest := []) (lenOf pd_3 rfl) rfl rfl (Nat.le_refl _) (hb hby d_rm_si_19)
    obtain ⟨rfl, n_1, K_1⟩ := q_1
    have N_1 := Fr.app N0 n_1
    refine Goes.go (U' := (T_1.setTop (mkF m 22 #[sR_ ra, sR_ ra] [(.int xi)]))) st_1 ?_
    refine Goes.go (U' := (T_1.setTop (mkF m 23 #[sR_ ra, sR_ ra] [(.ref ra), (.int xi)]))) (fun t kt => ?_) ?_
    · skip
      refine XS.aloadN X_1.here hx rfl (hb hby d_rm_si_22) rfl rfl ?_
      exact kt
    obtain ⟨v_2, T_2, L_2, X_2, q_2, st_2⟩ := callVirtual X_1 hx hZ (y := (⟨"java/lang/Integer", "intValue", "()I"⟩ : MethodName)) (z := (⟨"java/lang/Integer", "intValue", "()I"⟩ : MethodName)) (W := 1) hown (wdOf hw 83 rfl) (wdOf hw 84 rfl) (notFace_of_selects (args := #[]) (mvT hZ (wdOf hw 86 rfl))) (wdOf hw 86 rfl) (wdOf hw 85 rfl) (wdOf hw 28 rfl) (wdOf hw 87 rfl) (by decide) (rm_iv l Z a0 hw [] ra xi h0 n0 Z0 Fa) (by decide) (by decide) (by decide) (by decide) K_1 Ea (g := (mkF m 23 #[sR_ ra, sR_ ra] [(.ref ra), (.int xi)])) rfl (by rw [hml]; rfl) (argsL := []) (rest := [(.int xi)]) (lenOf pd_3 rfl) rfl rfl (Nat.le_refl _) (hb hby d_rm_si_23)
    obtain ⟨rfl, n_2, K_2⟩ := q_2
    have N_2 := Fr.app N_1 n_2
    refine Goes.go (U' := (T_2.setTop (mkF m 26 #[sR_ ra, sR_ ra] [(.int xi), (.int xi)]))) st_2 ?_
    refine Goes.go (U' := (T_2.setTop (mkF m 34 #[sR_ ra, sR_ ra] [(.int (1 : Int32))]))) (fun t kt => ?_) ?_
    · skip
      refine XS.icmpNo X_2.here hx rfl (hb hby d_rm_si_26) rfl (XT.ii_ne_f rfl) ?_
      refine XS.iconst X_2.here hx rfl (hb hby d_rm_si_29) ?_
      refine XS.goto X_2.here hx rfl (pc0 := 30) (pc' := 34) rfl (hb hby d_rm_si_30) (by decide) (by decide) ?_
      exact kt
    refine Goes.retB X_2 hx hlk hret (hb hby d_rm_si_34) (by decide) (by decide) ?_
    try rw [K_2]
    exact ⟨rfl, N_2, rfl⟩
theorem d_rm_cmi1_0 : decode jdk_52_method_21_code 0 = .ok (.iconst 0, 1) := by decide +kernel
theorem d_rm_cmi1_1 : decode jdk_52_method_21_code 1 = .ok (.istore 5, 2) := by decide +kernel
theorem d_rm_cmi1_3 : decode jdk_52_method_21_code 3 = .ok (.iload 5, 2) := by decide +kernel
theorem d_rm_cmi1_5 : decode jdk_52_method_21_code 5 = .ok (.iload 4, 2) := by decide +kernel
theorem d_rm_cmi1_7 : decode jdk_52_method_21_code 7 = .ok (.if_icmp .ge 37, 3) := by decide +kernel
theorem d_rm_cmi1_10 : decode jdk_52_method_21_code 10 = .ok (.aload_n 0, 1) := by decide +kernel
theorem d_rm_cmi1_11 : decode jdk_52_method_21_code 11 = .ok (.iload_n 1, 1) := by decide +kernel
theorem d_rm_cmi1_12 : decode jdk_52_method_21_code 12 = .ok (.caload, 1) := by decide +kernel
theorem d_rm_cmi1_13 : decode jdk_52_method_21_code 13 = .ok (.istore 6, 2) := by decide +kernel
theorem d_rm_cmi1_15 : decode jdk_52_method_21_code 15 = .ok (.iload 6, 2) := by decide +kernel
theorem d_rm_cmi1_17 : decode jdk_52_method_21_code 17 = .ok (.sipush 255, 3) := by decide +kernel
theorem d_rm_cmi1_20 : decode jdk_52_method_21_code 20 = .ok (.if_icmp .le 6, 3) := by decide +kernel
theorem d_rm_cmi1_26 : decode jdk_52_method_21_code 26 = .ok (.aload_n 2, 1) := by decide +kernel
theorem d_rm_cmi1_27 : decode jdk_52_method_21_code 27 = .ok (.iload_n 3, 1) := by decide +kernel
theorem d_rm_cmi1_28 : decode jdk_52_method_21_code 28 = .ok (.iload 6, 2) := by decide +kernel
theorem d_rm_cmi1_30 : decode jdk_52_method_21_code 30 = .ok (.i2b, 1) := by decide +kernel
theorem d_rm_cmi1_31 : decode jdk_52_method_21_code 31 = .ok (.bastore, 1) := by decide +kernel
theorem d_rm_cmi1_32 : decode jdk_52_method_21_code 32 = .ok (.iinc 1 1, 3) := by decide +kernel
theorem d_rm_cmi1_35 : decode jdk_52_method_21_code 35 = .ok (.iinc 3 1, 3) := by decide +kernel
theorem d_rm_cmi1_38 : decode jdk_52_method_21_code 38 = .ok (.iinc 5 1, 3) := by decide +kernel
theorem d_rm_cmi1_41 : decode jdk_52_method_21_code 41 = .ok (.goto (-38), 3) := by decide +kernel
theorem d_rm_cmi1_44 : decode jdk_52_method_21_code 44 = .ok (.iload 4, 2) := by decide +kernel
theorem d_rm_cmi1_46 : decode jdk_52_method_21_code 46 = .ok (.ireturn, 1) := by decide +kernel
set_option maxHeartbeats 4000000 in
theorem ef_rm_cmi1 (m : MethodId) (x0 : Addr) (x1 : Int32) (x2 : Addr) (x3 : Int32) (x4 : Int32)  : entryFrame m #[(.ref x0), (.int x1), (.ref x2), (.int x3), (.int x4)] 7 = mkF m 0 #[.val (.ref x0), .val (.int x1), .val (.ref x2), .val (.int x3), .val (.int x4), .unset, .unset] [] := by first | (simp [entryFrame, mkF, argsToLocals, catR, catN, catI, catJ]; done) | rfl
set_option maxRecDepth 65536 in
set_option maxHeartbeats 40000000 in
theorem rm_cmi1 (l : Launch) (Z : State) (a0 : Array Value) (hw : ∀ d ∈ tables_1, d.before a0 Z = true) (ws : List Jvm.Cond) (ca ba : Addr) (kc kb : ClassId) (c0 : Int32) (h0 : Heap) (n0 : Nat) (Z0 : n0 ≤ h0.size) (o0 : n0 ≤ ba) (nb : ca ≠ ba) (Vc : Arv Z h0 ca kc .char (1 : Int32) [(.int c0)] (.int (0 : Int32))) (Vb : Arv Z h0 ba kb .byte (1 : Int32) [(.int (0 : Int32))] (.int (0 : Int32))) (hc0 : ¬ (255 : Int32) < c0) :
    Pays l Z (⟨"java/lang/StringUTF16", "compress", "([CI[BII)I"⟩ : MethodName) jdk_52_method_21_code 7 (some .int) ws ({ frames := 0, cells := 0, slots := 0, locals := 0 } : Room) #[(.ref ca), (.int (0 : Int32)), (.ref ba), (.int (0 : Int32)), (.int (1 : Int32))] h0 (fun v h L => v = some (.int (1 : Int32)) ∧ Fr n0 L ∧ Keep h0 h [ba] ∧ Arv Z h ba kb .byte (1 : Int32) [(.int (c0.toInt8.toInt32).toInt8.toInt32)] (.int (0 : Int32))) := by
  refine Pays.of (plainFor_of_name (by first | (simp [plainName, overriddenIn]; done) | decide +kernel)) ?_
  intro p e s m below meth c s₁ hx hby hml hown hnm hret hlk hZ e0 X0
  have N0 := Fr.nil n0
  have K0 : Keep h0 h0 [ba] := Keep.refl _ _
  refine Goes.go (U' := (s₁.setTop (mkF m 0 #[sR_ ca, sI_ (0 : Int32), sR_ ba, sI_ (0 : Int32), sI_ (1 : Int32), sU_, sU_] []))) (fun t kt => castTop (ef_rm_cmi1 m ca (0 : Int32) ba (0 : Int32) (1 : Int32)) kt) ?_
  refine Goes.go (U' := (s₁.setTop (mkF m 12 #[sR_ ca, sI_ (0 : Int32), sR_ ba, sI_ (0 : Int32), sI_ (1 : Int32), sI_ (0 : Int32), sU_] [(.int (0 : Int32)), (.ref ca)]))) (fun t kt => ?_) ?_
  · skip
    refine XS.iconst X0.here hx rfl (hb hby d_rm_cmi1_0) ?_
    refine XS.istore X0.here hx rfl (hb hby d_rm_cmi1_1) rfl (l' := #[sR_ ca, sI_ (0 : Int32), sR_ ba, sI_ (0 : Int32), sI_ (1 : Int32), sI_ (0 : Int32), sU_]) rfl ?_
    refine XS.iload X0.here hx rfl (hb hby d_rm_cmi1_3) rfl ?_
    refine XS.iload X0.here hx rfl (hb hby d_rm_cmi1_5) rfl ?_
    refine XS.icmpNo X0.here hx rfl (hb hby d_rm_cmi1_7) rfl (XT.ii_ge_f (by decide)) ?_
    refine XS.aloadN X0.here hx rfl (hb hby d_rm_cmi1_10) rfl rfl ?_
    refine XS.iloadN X0.here hx rfl (hb hby d_rm_cmi1_11) rfl ?_
    exact kt
  obtain ⟨cl_1, Ar_1, q_1, S_1, M_1, H_1, G_1⟩ := id Vc
  have hin_1 : ¬ ((0 : Int32) < 0 ∨ cl_1.slots.size ≤ ((0 : Int32)).toNatClampNeg) := inb_of S_1 ⟨by decide, by decide⟩
  have hat_1 : cl_1.slots[((0 : Int32)).toNatClampNeg]? = some (.int c0) := H_1.at hin_1 rfl
  refine Goes.go (U' := (s₁.setTop (mkF m 13 #[sR_ ca, sI_ (0 : Int32), sR_ ba, sI_ (0 : Int32), sI_ (1 : Int32), sI_ (0 : Int32), sU_] [(.int c0)]))) (fun t kt => ?_) ?_
  · skip
    refine X0.caload hx (j := (0 : Int32)) (v := (.int c0)) (by rw [e0]; exact Ar_1.1) (State.isArrayOf_alike hZ.alike Ar_1.2.1) Ar_1.2.2 hin_1 hat_1 (g := (mkF m 12 #[sR_ ca, sI_ (0 : Int32), sR_ ba, sI_ (0 : Int32), sI_ (1 : Int32), sI_ (0 : Int32), sU_] [(.int (0 : Int32)), (.ref ca)])) rfl rfl (hb hby d_rm_cmi1_12) _ ?_
    exact kt
  refine Goes.go (U' := (s₁.setTop (mkF m 31 #[sR_ ca, sI_ (0 : Int32), sR_ ba, sI_ (0 : Int32), sI_ (1 : Int32), sI_ (0 : Int32), sI_ c0] [(.int (c0.toInt8.toInt32)), (.int (0 : Int32)), (.ref ba)]))) (fun t kt => ?_) ?_
  · skip
    refine XS.istore X0.here hx rfl (hb hby d_rm_cmi1_13) rfl (l' := #[sR_ ca, sI_ (0 : Int32), sR_ ba, sI_ (0 : Int32), sI_ (1 : Int32), sI_ (0 : Int32), sI_ c0]) rfl ?_
    refine XS.iload X0.here hx rfl (hb hby d_rm_cmi1_15) rfl ?_
    refine XS.sipush X0.here hx rfl (hb hby d_rm_cmi1_17) ?_
    refine XS.icmpYes X0.here hx rfl (pc0 := 20) (pc' := 26) rfl (hb hby d_rm_cmi1_20) rfl (XT.ii_le_t hc0) (by decide) (by decide) ?_
    refine XS.aloadN X0.here hx rfl (hb hby d_rm_cmi1_26) rfl rfl ?_
    refine XS.iloadN X0.here hx rfl (hb hby d_rm_cmi1_27) rfl ?_
    refine XS.iload X0.here hx rfl (hb hby d_rm_cmi1_28) rfl ?_
    refine XS.i2b X0.here hx rfl (hb hby d_rm_cmi1_30) rfl ?_
    exact kt
  obtain ⟨cl_2, Ar_2, q_2, S_2, M_2, H_2, G_2⟩ := id Vb
  have hin_2 : ¬ ((0 : Int32) < 0 ∨ cl_2.slots.size ≤ ((0 : Int32)).toNatClampNeg) := inb_of S_2 ⟨by decide, by decide⟩
  obtain ⟨T_2, h_2, X_2, e_2, W_2, st_2⟩ := stB X0 hx hZ e0 Ar_2 (j := (0 : Int32)) hin_2 (g := (mkF m 31 #[sR_ ca, sI_ (0 : Int32), sR_ ba, sI_ (0 : Int32), sI_ (1 : Int32), sI_ (0 : Int32), sI_ c0] [(.int (c0.toInt8.toInt32)), (.int (0 : Int32)), (.ref ba)])) rfl rfl (hb hby d_rm_cmi1_31)
  have V_2 : Arv Z h_2 ba kb .byte (1 : Int32) [(.int (c0.toInt8.toInt32).toInt8.toInt32)] (.int (0 : Int32)) := Arv.set Ar_2 q_2 S_2 M_2 H_2 G_2 (fits_nar_byte _) W_2 0 rfl (Nat.le_of_ble_eq_true rfl)
  have N_2 := Fr.snoc X_2 N0 o0
  have f_3 : Arv Z h_2 ca kc .char (1 : Int32) [(.int c0)] (.int (0 : Int32)) := Vc.other W_2 nb
  have K_5 : Keep h0 h_2 [ba] := K0.wr W_2 (Or.inl (List.mem_of_getElem? (i := 0) rfl))
  have y_5 : n0 ≤ h_2.size := Nat.le_trans Z0 K_5.1
  refine Goes.go (U' := (T_2.setTop (mkF m 32 #[sR_ ca, sI_ (0 : Int32), sR_ ba, sI_ (0 : Int32), sI_ (1 : Int32), sI_ (0 : Int32), sI_ c0] []))) st_2 ?_
  refine Goes.go (U' := (T_2.setTop (mkF m 46 #[sR_ ca, sI_ (1 : Int32), sR_ ba, sI_ (1 : Int32), sI_ (1 : Int32), sI_ (1 : Int32), sI_ c0] [(.int (1 : Int32))]))) (fun t kt => ?_) ?_
  · skip
    refine XS.iinc X_2.here hx rfl (hb hby d_rm_cmi1_32) rfl (l' := #[sR_ ca, sI_ (1 : Int32), sR_ ba, sI_ (0 : Int32), sI_ (1 : Int32), sI_ (0 : Int32), sI_ c0]) rfl ?_
    refine XS.iinc X_2.here hx rfl (hb hby d_rm_cmi1_35) rfl (l' := #[sR_ ca, sI_ (1 : Int32), sR_ ba, sI_ (1 : Int32), sI_ (1 : Int32), sI_ (0 : Int32), sI_ c0]) rfl ?_
    refine XS.iinc X_2.here hx rfl (hb hby d_rm_cmi1_38) rfl (l' := #[sR_ ca, sI_ (1 : Int32), sR_ ba, sI_ (1 : Int32), sI_ (1 : Int32), sI_ (1 : Int32), sI_ c0]) rfl ?_
    refine XS.goto X_2.here hx rfl (pc0 := 41) (pc' := 3) rfl (hb hby d_rm_cmi1_41) (by decide) (by decide) ?_
    refine XS.iload X_2.here hx rfl (hb hby d_rm_cmi1_3) rfl ?_
    refine XS.iload X_2.here hx rfl (hb hby d_rm_cmi1_5) rfl ?_
    refine XS.icmpYes X_2.here hx rfl (pc0 := 7) (pc' := 44) rfl (hb hby d_rm_cmi1_7) rfl (XT.ii_ge_t (by decide)) (by decide) (by decide) ?_
    refine XS.iload X_2.here hx rfl (hb hby d_rm_cmi1_44) rfl ?_
    exact kt
  refine Goes.retI X_2 hx hlk hret (hb hby d_rm_cmi1_46) (by decide) (by decide) ?_
  try rw [e_2]
  exact ⟨rfl, N_2, K_5, V_2⟩
theorem d_rm_cm1_0 : decode jdk_52_method_16_code 0 = .ok (.iload_n 2, 1) := by decide +kernel
theorem d_rm_cm1_1 : decode jdk_52_method_16_code 1 = .ok (.newarray .byte, 2) := by decide +kernel
theorem d_rm_cm1_3 : decode jdk_52_method_16_code 3 = .ok (.astore_n 3, 1) := by decide +kernel
theorem d_rm_cm1_4 : decode jdk_52_method_16_code 4 = .ok (.aload_n 0, 1) := by decide +kernel
theorem d_rm_cm1_5 : decode jdk_52_method_16_code 5 = .ok (.iload_n 1, 1) := by decide +kernel
theorem d_rm_cm1_6 : decode jdk_52_method_16_code 6 = .ok (.aload_n 3, 1) := by decide +kernel
theorem d_rm_cm1_7 : decode jdk_52_method_16_code 7 = .ok (.iconst 0, 1) := by decide +kernel
theorem d_rm_cm1_8 : decode jdk_52_method_16_code 8 = .ok (.iload_n 2, 1) := by decide +kernel
theorem d_rm_cm1_9 : decode jdk_52_method_16_code 9 = .ok (.invokestatic 115, 3) := by decide +kernel
theorem d_rm_cm1_12 : decode jdk_52_method_16_code 12 = .ok (.istore 4, 2) := by decide +kernel
theorem d_rm_cm1_14 : decode jdk_52_method_16_code 14 = .ok (.iload 4, 2) := by decide +kernel
theorem d_rm_cm1_16 : decode jdk_52_method_16_code 16 = .ok (.iload_n 2, 1) := by decide +kernel
theorem d_rm_cm1_17 : decode jdk_52_method_16_code 17 = .ok (.if_icmp .eq 40, 3) := by decide +kernel
theorem d_rm_cm1_57 : decode jdk_52_method_16_code 57 = .ok (.aload_n 3, 1) := by decide +kernel
theorem d_rm_cm1_58 : decode jdk_52_method_16_code 58 = .ok (.areturn, 1) := by decide +kernel
set_option maxHeartbeats 4000000 in
theorem ef_rm_cm1 (m : MethodId) (x0 : Addr) (x1 : Int32) (x2 : Int32)  : entryFrame m #[(.ref x0), (.int x1), (.int x2)] 6 = mkF m 0 #[.val (.ref x0), .val (.int x1), .val (.int x2), .unset, .unset, .unset] [] := by first | (simp [entryFrame, mkF, argsToLocals, catR, catN, catI, catJ]; done) | rfl
set_option maxRecDepth 65536 in
set_option maxHeartbeats 40000000 in
theorem rm_cm1 (l : Launch) (Z : State) (a0 : Array Value) (hw : ∀ d ∈ tables_1, d.before a0 Z = true) (ws : List Jvm.Cond) (ca : Addr) (kc : ClassId) (c0 : Int32) (h0 : Heap) (n0 : Nat) (Z0 : n0 ≤ h0.size) (Vc : Arv Z h0 ca kc .char (1 : Int32) [(.int c0)] (.int (0 : Int32))) (hc0 : ¬ (255 : Int32) < c0) :
    Pays l Z (⟨"java/lang/StringUTF16", "compress", "([CII)[B"⟩ : MethodName) jdk_52_method_16_code 6 (some (.array .byte)) ws ({ frames := 1, cells := 1, slots := 1, locals := 18 } : Room) #[(.ref ca), (.int (0 : Int32)), (.int (1 : Int32))] h0 (fun v h L => ∃ r kb, v = some (.ref r) ∧ Fr n0 L ∧ Ext h0 h ∧ Arv Z h r kb .byte (1 : Int32) [(.int (c0.toInt8.toInt32).toInt8.toInt32)] (.int (0 : Int32))) := by
  refine Pays.of (plainFor_of_name (by first | (simp [plainName, overriddenIn]; done) | decide +kernel)) ?_
  intro p e s m below meth c s₁ hx hby hml hown hnm hret hlk hZ e0 X0
  have N0 := Fr.nil n0
  have K0 : Keep h0 h0 [] := Keep.refl _ _
  refine Goes.go (U' := (s₁.setTop (mkF m 0 #[sR_ ca, sI_ (0 : Int32), sI_ (1 : Int32), sU_, sU_, sU_] []))) (fun t kt => castTop (ef_rm_cm1 m ca (0 : Int32) (1 : Int32)) kt) ?_
  refine Goes.go (U' := (s₁.setTop (mkF m 1 #[sR_ ca, sI_ (0 : Int32), sI_ (1 : Int32), sU_, sU_, sU_] [(.int (1 : Int32))]))) (fun t kt => ?_) ?_
  · skip
    refine XS.iloadN X0.here hx rfl (hb hby d_rm_cm1_0) rfl ?_
    exact kt
  obtain ⟨T_1, h_1, k_1, X_1, e_1, E_1, A_1, st_1⟩ := newP X0 hx hZ (wdOf hw 19 rfl) e0 (g := (mkF m 1 #[sR_ ca, sI_ (0 : Int32), sI_ (1 : Int32), sU_, sU_, sU_] [(.int (1 : Int32))])) rfl (hb hby d_rm_cm1_1) rfl (by decide) (cap := 1) (by decide) (by decide) (by decide) (by decide)
  obtain ⟨b_1, g_1⟩ : ∃ z, z = h0.size := ⟨_, rfl⟩
  rw [← g_1] at A_1 st_1
  have ne_2 : ca ≠ b_1 := Nat.ne_of_lt (Nat.lt_of_lt_of_le Vc.lt (Nat.le_of_eq g_1.symm))
  have o_1 : n0 ≤ b_1 := Nat.le_trans Z0 (Nat.le_of_eq g_1.symm)
  have z_1 : h0.size ≤ b_1 := Nat.le_trans K0.1 (Nat.le_of_eq g_1.symm)
  have f_3 : Arv Z h_1 ca kc .char (1 : Int32) [(.int c0)] (.int (0 : Int32)) := Vc.ext E_1
  have V_1 : Arv Z h_1 b_1 k_1 .byte (1 : Int32) [(.int (0 : Int32))] (.int (0 : Int32)) := (Arv.new A_1 (by decide)).pad (pad_rep [] (.int (0 : Int32)) 1)
  have K_4 : Keep h0 h_1 [] := K0.ext E_1
  have y_4 : n0 ≤ h_1.size := Nat.le_trans Z0 K_4.1
  refine Goes.go (U' := (T_1.setTop (mkF m 3 #[sR_ ca, sI_ (0 : Int32), sI_ (1 : Int32), sU_, sU_, sU_] [(.ref b_1)]))) st_1 ?_
  refine Goes.go (U' := (T_1.setTop (mkF m 9 #[sR_ ca, sI_ (0 : Int32), sI_ (1 : Int32), sR_ b_1, sU_, sU_] [(.int (1 : Int32)), (.int (0 : Int32)), (.ref b_1), (.int (0 : Int32)), (.ref ca)]))) (fun t kt => ?_) ?_
  · skip
    refine XS.astoreN X_1.here hx rfl (hb hby d_rm_cm1_3) rfl rfl (l' := #[sR_ ca, sI_ (0 : Int32), sI_ (1 : Int32), sR_ b_1, sU_, sU_]) rfl ?_
    refine XS.aloadN X_1.here hx rfl (hb hby d_rm_cm1_4) rfl rfl ?_
    refine XS.iloadN X_1.here hx rfl (hb hby d_rm_cm1_5) rfl ?_
    refine XS.aloadN X_1.here hx rfl (hb hby d_rm_cm1_6) rfl rfl ?_
    refine XS.iconst X_1.here hx rfl (hb hby d_rm_cm1_7) ?_
    refine XS.iloadN X_1.here hx rfl (hb hby d_rm_cm1_8) rfl ?_
    exact kt
  obtain ⟨v_5, T_5, L_5, X_5, q_5, st_5⟩ := callStatic X_1 hx hZ (y := (⟨"java/lang/StringUTF16", "compress", "([CI[BII)I"⟩ : MethodName)) (W := 0) hown (wdOf hw 110 rfl) (wdOf hw 111 rfl) (wdOf hw 108 rfl) (wdOf hw 112 rfl) (by decide) (rm_cmi1 l Z a0 hw [] ca b_1 kc k_1 c0 h_1 n0 y_4 o_1 ne_2 f_3 V_1 hc0) (by decide) (by decide) (by decide) (by decide) e_1 (g := (mkF m 9 #[sR_ ca, sI_ (0 : Int32), sI_ (1 : Int32), sR_ b_1, sU_, sU_] [(.int (1 : Int32)), (.int (0 : Int32)), (.ref b_1), (.int (0 : Int32)), (.ref ca)])) rfl (by rw [hml]; rfl) (argsL := [(.ref ca), (.int (0 : Int32)), (.ref b_1), (.int (0 : Int32)), (.int (1 : Int32))]) (rest := []) (lenOf pd_4 rfl) rfl rfl (Nat.le_refl _) (hb hby d_rm_cm1_9)
  obtain ⟨rfl, n_5, K_5, Vq_5⟩ := q_5
  have N_5 := Fr.app N0 n_5
  have f_6 : Arv Z T_5.heap ca kc .char (1 : Int32) [(.int c0)] (.int (0 : Int32)) := f_3.keep K_5 (ninS ne_2 nin0)
  have K_8 : Keep h0 T_5.heap [] := K_4.trans K_5 (allS (P := fun x => x ∈ [] ∨ h0.size ≤ x) (Or.inr z_1) all0)
  have y_8 : n0 ≤ T_5.heap.size := Nat.le_trans Z0 K_8.1
  refine Goes.go (U' := (T_5.setTop (mkF m 12 #[sR_ ca, sI_ (0 : Int32), sI_ (1 : Int32), sR_ b_1, sU_, sU_] [(.int (1 : Int32))]))) st_5 ?_
  refine Goes.go (U' := (T_5.setTop (mkF m 58 #[sR_ ca, sI_ (0 : Int32), sI_ (1 : Int32), sR_ b_1, sI_ (1 : Int32), sU_] [(.ref b_1)]))) (fun t kt => ?_) ?_
  · skip
    refine XS.istore X_5.here hx rfl (hb hby d_rm_cm1_12) rfl (l' := #[sR_ ca, sI_ (0 : Int32), sI_ (1 : Int32), sR_ b_1, sI_ (1 : Int32), sU_]) rfl ?_
    refine XS.iload X_5.here hx rfl (hb hby d_rm_cm1_14) rfl ?_
    refine XS.iloadN X_5.here hx rfl (hb hby d_rm_cm1_16) rfl ?_
    refine XS.icmpYes X_5.here hx rfl (pc0 := 17) (pc' := 57) rfl (hb hby d_rm_cm1_17) rfl (XT.ii_eq_t (by decide)) (by decide) (by decide) ?_
    refine XS.aloadN X_5.here hx rfl (hb hby d_rm_cm1_57) rfl rfl ?_
    exact kt
  refine Goes.retA X_5 hx hlk hret rfl rfl (hb hby d_rm_cm1_58) (by decide) (by decide) ?_
  try rw [(rfl : T_5.heap = T_5.heap)]
  exact ⟨_, _, rfl, N_5, Ext.of_keep K_8, Vq_5⟩
theorem d_rm_cfa1_0 : decode jdk_52_method_15_code 0 = .ok (.iload_n 1, 1) := by decide +kernel
theorem d_rm_cfa1_1 : decode jdk_52_method_15_code 1 = .ok (.aload_n 0, 1) := by decide +kernel
theorem d_rm_cfa1_2 : decode jdk_52_method_15_code 2 = .ok (.arraylength, 1) := by decide +kernel
theorem d_rm_cfa1_3 : decode jdk_52_method_15_code 3 = .ok (.isub, 1) := by decide +kernel
theorem d_rm_cfa1_4 : decode jdk_52_method_15_code 4 = .ok (.bipush 31, 2) := by decide +kernel
theorem d_rm_cfa1_6 : decode jdk_52_method_15_code 6 = .ok (.iushr, 1) := by decide +kernel
theorem d_rm_cfa1_7 : decode jdk_52_method_15_code 7 = .ok (.i2b, 1) := by decide +kernel
theorem d_rm_cfa1_8 : decode jdk_52_method_15_code 8 = .ok (.ireturn, 1) := by decide +kernel
set_option maxHeartbeats 4000000 in
theorem ef_rm_cfa1 (m : MethodId) (x0 : Addr) (x1 : Int32)  : entryFrame m #[(.ref x0), (.int x1)] 2 = mkF m 0 #[.val (.ref x0), .val (.int x1)] [] := by first | (simp [entryFrame, mkF, argsToLocals, catR, catN, catI, catJ]; done) | rfl
set_option maxRecDepth 65536 in
set_option maxHeartbeats 40000000 in
theorem rm_cfa1 (l : Launch) (Z : State) (a0 : Array Value) (hw : ∀ d ∈ tables_1, d.before a0 Z = true) (ws : List Jvm.Cond) (ba : Addr) (kb : ClassId) (c0 : Int32) (h0 : Heap) (n0 : Nat) (Z0 : n0 ≤ h0.size) (Vb : Arv Z h0 ba kb .byte (1 : Int32) [(.int (c0.toInt8.toInt32).toInt8.toInt32)] (.int (0 : Int32))) :
    Pays l Z (⟨"java/lang/StringUTF16", "coderFromArrayLen", "([BI)B"⟩ : MethodName) jdk_52_method_15_code 2 (some .byte) ws ({ frames := 0, cells := 0, slots := 0, locals := 0 } : Room) #[(.ref ba), (.int (1 : Int32))] h0 (fun v h L => v = some (.int (0 : Int32)) ∧ Fr n0 L ∧ h = h0) := by
  refine Pays.of (plainFor_of_name (by first | (simp [plainName, overriddenIn]; done) | decide +kernel)) ?_
  intro p e s m below meth c s₁ hx hby hml hown hnm hret hlk hZ e0 X0
  have N0 := Fr.nil n0
  have K0 : Keep h0 h0 [] := Keep.refl _ _
  refine Goes.go (U' := (s₁.setTop (mkF m 0 #[sR_ ba, sI_ (1 : Int32)] []))) (fun t kt => castTop (ef_rm_cfa1 m ba (1 : Int32)) kt) ?_
  refine Goes.go (U' := (s₁.setTop (mkF m 2 #[sR_ ba, sI_ (1 : Int32)] [(.ref ba), (.int (1 : Int32))]))) (fun t kt => ?_) ?_
  · skip
    refine XS.iloadN X0.here hx rfl (hb hby d_rm_cfa1_0) rfl ?_
    refine XS.aloadN X0.here hx rfl (hb hby d_rm_cfa1_1) rfl rfl ?_
    exact kt
  obtain ⟨cl_1, Ar_1, q_1, S_1, M_1, H_1, G_1⟩ := id Vb
  refine Goes.go (U' := (s₁.setTop (mkF m 3 #[sR_ ba, sI_ (1 : Int32)] [(.int (1 : Int32)), (.int (1 : Int32))]))) (fun t kt => ?_) ?_
  · skip
    refine X0.arraylength hx (by rw [e0]; exact Ar_1.1) (State.isArrayOf_alike hZ.alike Ar_1.2.1) (g := (mkF m 2 #[sR_ ba, sI_ (1 : Int32)] [(.ref ba), (.int (1 : Int32))])) rfl rfl (hb hby d_rm_cfa1_2) _ ?_
    rw [len_of S_1 M_1]
    exact kt
  refine Goes.go (U' := (s₁.setTop (mkF m 8 #[sR_ ba, sI_ (1 : Int32)] [(.int (((((1 : Int32) - (1 : Int32)).toUInt32 >>> ((31 : Int32) &&& 31).toUInt32).toInt32).toInt8.toInt32))]))) (fun t kt => ?_) ?_
  · skip
    refine XS.isub X0.here hx rfl (hb hby d_rm_cfa1_3) rfl ?_
    refine XS.bipush X0.here hx rfl (hb hby d_rm_cfa1_4) ?_
    refine XS.iushr X0.here hx rfl (hb hby d_rm_cfa1_6) rfl ?_
    refine XS.i2b X0.here hx rfl (hb hby d_rm_cfa1_7) rfl ?_
    exact kt
  refine Goes.retY X0 hx hlk hret (hb hby d_rm_cfa1_8) (by decide) (by decide) ?_
  try rw [e0]
  exact ⟨by decide, N0, rfl⟩
theorem d_rm_sv1_0 : decode jdk_42_method_149_code 0 = .ok (.aload_n 0, 1) := by decide +kernel
theorem d_rm_sv1_1 : decode jdk_42_method_149_code 1 = .ok (.invokespecial 1, 3) := by decide +kernel
theorem d_rm_sv1_4 : decode jdk_42_method_149_code 4 = .ok (.iload_n 3, 1) := by decide +kernel
theorem d_rm_sv1_5 : decode jdk_42_method_149_code 5 = .ok (.ifCond .ne 22, 3) := by decide +kernel
theorem d_rm_sv1_27 : decode jdk_42_method_149_code 27 = .ok (.getstatic 38, 3) := by decide +kernel
theorem d_rm_sv1_30 : decode jdk_42_method_149_code 30 = .ok (.ifCond .eq 28, 3) := by decide +kernel
theorem d_rm_sv1_33 : decode jdk_42_method_149_code 33 = .ok (.aload_n 1, 1) := by decide +kernel
theorem d_rm_sv1_34 : decode jdk_42_method_149_code 34 = .ok (.iload_n 2, 1) := by decide +kernel
theorem d_rm_sv1_35 : decode jdk_42_method_149_code 35 = .ok (.iload_n 3, 1) := by decide +kernel
theorem d_rm_sv1_36 : decode jdk_42_method_149_code 36 = .ok (.invokestatic 177, 3) := by decide +kernel
theorem d_rm_sv1_39 : decode jdk_42_method_149_code 39 = .ok (.astore 5, 2) := by decide +kernel
theorem d_rm_sv1_41 : decode jdk_42_method_149_code 41 = .ok (.aload_n 0, 1) := by decide +kernel
theorem d_rm_sv1_42 : decode jdk_42_method_149_code 42 = .ok (.aload 5, 2) := by decide +kernel
theorem d_rm_sv1_44 : decode jdk_42_method_149_code 44 = .ok (.iload_n 3, 1) := by decide +kernel
theorem d_rm_sv1_45 : decode jdk_42_method_149_code 45 = .ok (.invokestatic 47, 3) := by decide +kernel
theorem d_rm_sv1_48 : decode jdk_42_method_149_code 48 = .ok (.putfield 15, 3) := by decide +kernel
theorem d_rm_sv1_51 : decode jdk_42_method_149_code 51 = .ok (.aload_n 0, 1) := by decide +kernel
theorem d_rm_sv1_52 : decode jdk_42_method_149_code 52 = .ok (.aload 5, 2) := by decide +kernel
theorem d_rm_sv1_54 : decode jdk_42_method_149_code 54 = .ok (.putfield 9, 3) := by decide +kernel
theorem d_rm_sv1_57 : decode jdk_42_method_149_code 57 = .ok (.return_, 1) := by decide +kernel
set_option maxHeartbeats 4000000 in
theorem ef_rm_sv1 (m : MethodId) (x0 : Addr) (x1 : Addr) (x2 : Int32) (x3 : Int32)  : entryFrame m #[(.ref x0), (.ref x1), (.int x2), (.int x3), .null] 6 = mkF m 0 #[.val (.ref x0), .val (.ref x1), .val (.int x2), .val (.int x3), .val .null, .unset] [] := by first | (simp [entryFrame, mkF, argsToLocals, catR, catN, catI, catJ]; done) | rfl
set_option maxRecDepth 65536 in
set_option maxHeartbeats 40000000 in
theorem rm_sv1 (l : Launch) (Z : State) (a0 : Array Value) (hw : ∀ d ∈ tables_1, d.before a0 Z = true) (ws : List Jvm.Cond) (ax ca : Addr) (kc : ClassId) (cs : Int32) (c0 : Int32) (h0 : Heap) (n0 : Nat) (Z0 : n0 ≤ h0.size) (O : Old Z n0 h0) (SC : Sta Z Z.heap "java/lang/String" "COMPACT_STRINGS" "Z" (.int cs)) (hcs : ¬ cs = 0) (o0 : n0 ≤ ax) (E0 : Exa Z h0 ax "java/lang/String") (F0_value : Fld Z h0 ax "java/lang/String" "value" "[B" .null) (F0_coder : Fld Z h0 ax "java/lang/String" "coder" "B" (.int (0 : Int32))) (Vc : Arv Z h0 ca kc .char (1 : Int32) [(.int c0)] (.int (0 : Int32))) (hc0 : ¬ (255 : Int32) < c0) :
    Pays l Z (⟨"java/lang/String", "<init>", "([CIILjava/lang/Void;)V"⟩ : MethodName) jdk_42_method_149_code 6 none ws ({ frames := 2, cells := 1, slots := 1, locals := 35 } : Room) #[(.ref ax), (.ref ca), (.int (0 : Int32)), (.int (1 : Int32)), .null] h0 (fun v h L => v = none ∧ Fr n0 L ∧ Keep h0 h [ax] ∧ Exa Z h ax "java/lang/String") := by
  refine Pays.of (plainFor_of_name (by first | (simp [plainName, overriddenIn]; done) | decide +kernel)) ?_
  intro p e s m below meth c s₁ hx hby hml hown hnm hret hlk hZ e0 X0
  have N0 := Fr.nil n0
  have K0 : Keep h0 h0 [ax] := Keep.refl _ _
  refine Goes.go (U' := (s₁.setTop (mkF m 0 #[sR_ ax, sR_ ca, sI_ (0 : Int32), sI_ (1 : Int32), .val .null, sU_] []))) (fun t kt => castTop (ef_rm_sv1 m ax ca (0 : Int32) (1 : Int32)) kt) ?_
  refine Goes.go (U' := (s₁.setTop (mkF m 1 #[sR_ ax, sR_ ca, sI_ (0 : Int32), sI_ (1 : Int32), .val .null, sU_] [(.ref ax)]))) (fun t kt => ?_) ?_
  · skip
    refine XS.aloadN X0.here hx rfl (hb hby d_rm_sv1_0) rfl rfl ?_
    exact kt
  obtain ⟨T_1, X_1, e_1, st_1⟩ := initO X0 hx hZ hown (wdOf hw 15 rfl) (wdOf hw 16 rfl) (wdOf hw 17 rfl) e0 (g := (mkF m 1 #[sR_ ax, sR_ ca, sI_ (0 : Int32), sI_ (1 : Int32), .val .null, sU_] [(.ref ax)])) rfl (by rw [hml]; rfl) rfl (hb hby d_rm_sv1_1) (by decide) (W := 0) (Nat.le_refl _) (by decide)
  refine Goes.go (U' := (T_1.setTop (mkF m 4 #[sR_ ax, sR_ ca, sI_ (0 : Int32), sI_ (1 : Int32), .val .null, sU_] []))) st_1 ?_
  refine Goes.go (U' := (T_1.setTop (mkF m 27 #[sR_ ax, sR_ ca, sI_ (0 : Int32), sI_ (1 : Int32), .val .null, sU_] []))) (fun t kt => ?_) ?_
  · skip
    refine XS.iloadN X_1.here hx rfl (hb hby d_rm_sv1_4) rfl ?_
    refine XS.ifYes X_1.here hx rfl (pc0 := 5) (pc' := 27) rfl (hb hby d_rm_sv1_5) rfl (XT.i0_ne_t (by decide)) (by decide) (by decide) ?_
    exact kt
  obtain ⟨T_2, X_2, e_2, st_2⟩ := getS X_1 hx hZ hown (host := "") (wdOf hw 105 rfl) Via.refl e_1 (SC.ext O.2) (g := (mkF m 27 #[sR_ ax, sR_ ca, sI_ (0 : Int32), sI_ (1 : Int32), .val .null, sU_] [])) rfl (hb hby d_rm_sv1_27)
  refine Goes.go (U' := (T_2.setTop (mkF m 30 #[sR_ ax, sR_ ca, sI_ (0 : Int32), sI_ (1 : Int32), .val .null, sU_] [(.int cs)]))) st_2 ?_
  refine Goes.go (U' := (T_2.setTop (mkF m 36 #[sR_ ax, sR_ ca, sI_ (0 : Int32), sI_ (1 : Int32), .val .null, sU_] [(.int (1 : Int32)), (.int (0 : Int32)), (.ref ca)]))) (fun t kt => ?_) ?_
  · skip
    refine XS.ifNo X_2.here hx rfl (hb hby d_rm_sv1_30) rfl (XT.i0_eq_f hcs) ?_
    refine XS.aloadN X_2.here hx rfl (hb hby d_rm_sv1_33) rfl rfl ?_
    refine XS.iloadN X_2.here hx rfl (hb hby d_rm_sv1_34) rfl ?_
    refine XS.iloadN X_2.here hx rfl (hb hby d_rm_sv1_35) rfl ?_
    exact kt
  obtain ⟨v_3, T_3, L_3, X_3, q_3, st_3⟩ := callStatic X_2 hx hZ (y := (⟨"java/lang/StringUTF16", "compress", "([CII)[B"⟩ : MethodName)) (W := 0) hown (wdOf hw 106 rfl) (wdOf hw 107 rfl) (wdOf hw 108 rfl) (wdOf hw 109 rfl) (by decide) (rm_cm1 l Z a0 hw [] ca kc c0 h0 n0 Z0 Vc hc0) (by decide) (by decide) (by decide) (by decide) e_2 (g := (mkF m 36 #[sR_ ax, sR_ ca, sI_ (0 : Int32), sI_ (1 : Int32), .val .null, sU_] [(.int (1 : Int32)), (.int (0 : Int32)), (.ref ca)])) rfl (by rw [hml]; rfl) (argsL := [(.ref ca), (.int (0 : Int32)), (.int (1 : Int32))]) (rest := []) (lenOf pd_5 rfl) rfl rfl (Nat.le_refl _) (hb hby d_rm_sv1_36)
  obtain ⟨r_3, kb_3, rfl, n_3, K_3, Vq_3⟩ := q_3
  have N_3 := Fr.app N0 n_3
  have f_4 : Exa Z T_3.heap ax "java/lang/String" := E0.ext K_3
  have f_5 : Fld Z T_3.heap ax "java/lang/String" "value" "[B" .null := F0_value.ext K_3
  have f_6 : Fld Z T_3.heap ax "java/lang/String" "coder" "B" (.int (0 : Int32)) := F0_coder.ext K_3
  have f_7 : Arv Z T_3.heap ca kc .char (1 : Int32) [(.int c0)] (.int (0 : Int32)) := Vc.ext K_3
  have f_8 : Sta Z T_3.heap "java/lang/String" "COMPACT_STRINGS" "Z" (.int cs) := (SC.ext O.2).ext K_3
  have K_9 : Keep h0 T_3.heap [ax] := K0.ext K_3
  have y_9 : n0 ≤ T_3.heap.size := Nat.le_trans Z0 K_9.1
  refine Goes.go (U' := (T_3.setTop (mkF m 39 #[sR_ ax, sR_ ca, sI_ (0 : Int32), sI_ (1 : Int32), .val .null, sU_] [(.ref r_3)]))) st_3 ?_
  have nrs : r_3 ≠ ax := (f_4.neArv Vq_3 (wdOf hw 5 rfl)).symm
  have ncs : ca ≠ ax := (f_4.neArv f_7 (wdOf hw 5 rfl)).symm
  refine Goes.go (U' := (T_3.setTop (mkF m 45 #[sR_ ax, sR_ ca, sI_ (0 : Int32), sI_ (1 : Int32), .val .null, sR_ r_3] [(.int (1 : Int32)), (.ref r_3), (.ref ax)]))) (fun t kt => ?_) ?_
  · skip
    refine XS.astore X_3.here hx rfl (hb hby d_rm_sv1_39) rfl rfl (l' := #[sR_ ax, sR_ ca, sI_ (0 : Int32), sI_ (1 : Int32), .val .null, sR_ r_3]) rfl ?_
    refine XS.aloadN X_3.here hx rfl (hb hby d_rm_sv1_41) rfl rfl ?_
    refine XS.aload X_3.here hx rfl (hb hby d_rm_sv1_42) rfl rfl ?_
    refine XS.iloadN X_3.here hx rfl (hb hby d_rm_sv1_44) rfl ?_
    exact kt
  obtain ⟨v_10, T_10, L_10, X_10, q_10, st_10⟩ := callStatic X_3 hx hZ (y := (⟨"java/lang/StringUTF16", "coderFromArrayLen", "([BI)B"⟩ : MethodName)) (W := 1) hown (wdOf hw 113 rfl) (wdOf hw 114 rfl) (wdOf hw 108 rfl) (wdOf hw 115 rfl) (by decide) (rm_cfa1 l Z a0 hw [] r_3 kb_3 c0 T_3.heap n0 y_9 Vq_3) (by decide) (by decide) (by decide) (by decide) (rfl : T_3.heap = T_3.heap) (g := (mkF m 45 #[sR_ ax, sR_ ca, sI_ (0 : Int32), sI_ (1 : Int32), .val .null, sR_ r_3] [(.int (1 : Int32)), (.ref r_3), (.ref ax)])) rfl (by rw [hml]; rfl) (argsL := [(.ref r_3), (.int (1 : Int32))]) (rest := [(.ref ax)]) (lenOf pd_6 rfl) rfl rfl (Nat.le_refl _) (hb hby d_rm_sv1_45)
  obtain ⟨rfl, n_10, K_10⟩ := q_10
  have N_10 := Fr.app N_3 n_10
  refine Goes.go (U' := (T_10.setTop (mkF m 48 #[sR_ ax, sR_ ca, sI_ (0 : Int32), sI_ (1 : Int32), .val .null, sR_ r_3] [(.int (0 : Int32)), (.ref ax)]))) st_10 ?_
  obtain ⟨T_11, h_11, X_11, e_11, W_11, st_11⟩ := putFN X_10 hx hZ hown (wdOf hw 25 rfl) Via.refl K_10 f_6 f_4 (Or.inr ⟨wdOf hw 21 rfl, rfl, hnm⟩) (wdOf hw 5 rfl) (ty := .byte) (v' := (.int (0 : Int32))) (by decide) rfl rfl (g := (mkF m 48 #[sR_ ax, sR_ ca, sI_ (0 : Int32), sI_ (1 : Int32), .val .null, sR_ r_3] [(.int (0 : Int32)), (.ref ax)])) rfl rfl (hb hby d_rm_sv1_48)
  have N_11 := Fr.snoc X_11 N_10 o0
  have f_12 : Exa Z h_11 ax "java/lang/String" := f_4.wr W_11
  have f_13 : Fld Z h_11 ax "java/lang/String" "value" "[B" .null := f_5.other W_11 (Or.inr (slot_ne (Or.inr (wdOf hw 20 rfl)) (Or.inr (wdOf hw 21 rfl)) (by decide) (t := (.array .byte)) (t' := .byte) (by decide) (by decide)))
  have f_14 : Fld Z h_11 ax "java/lang/String" "coder" "B" (.int (0 : Int32)) := f_6.same W_11
  have f_15 : Arv Z h_11 ca kc .char (1 : Int32) [(.int c0)] (.int (0 : Int32)) := f_7.other W_11 ncs
  have f_16 : Sta Z h_11 "java/lang/String" "COMPACT_STRINGS" "Z" (.int cs) := f_8.wr W_11
  have f_17 : Arv Z h_11 r_3 kb_3 .byte (1 : Int32) [(.int (c0.toInt8.toInt32).toInt8.toInt32)] (.int (0 : Int32)) := Vq_3.other W_11 nrs
  have K_18 : Keep h0 h_11 [ax] := K_9.wr W_11 (Or.inl (List.mem_of_getElem? (i := 0) rfl))
  have y_18 : n0 ≤ h_11.size := Nat.le_trans Z0 K_18.1
  refine Goes.go (U' := (T_11.setTop (mkF m 51 #[sR_ ax, sR_ ca, sI_ (0 : Int32), sI_ (1 : Int32), .val .null, sR_ r_3] []))) st_11 ?_
  refine Goes.go (U' := (T_11.setTop (mkF m 54 #[sR_ ax, sR_ ca, sI_ (0 : Int32), sI_ (1 : Int32), .val .null, sR_ r_3] [(.ref r_3), (.ref ax)]))) (fun t kt => ?_) ?_
  · skip
    refine XS.aloadN X_11.here hx rfl (hb hby d_rm_sv1_51) rfl rfl ?_
    refine XS.aload X_11.here hx rfl (hb hby d_rm_sv1_52) rfl rfl ?_
    exact kt
  obtain ⟨T_19, h_19, X_19, e_19, W_19, st_19⟩ := putF X_11 hx hZ hown (host := "") (Or.inl (wdOf hw 24 rfl)) Via.refl e_11 f_13 f_12 (Or.inr ⟨wdOf hw 20 rfl, rfl, hnm⟩) (wdOf hw 5 rfl) (ty := (.array .byte)) (by decide) rfl rfl (g := (mkF m 54 #[sR_ ax, sR_ ca, sI_ (0 : Int32), sI_ (1 : Int32), .val .null, sR_ r_3] [(.ref r_3), (.ref ax)])) rfl rfl (hb hby d_rm_sv1_54)
  have N_19 := Fr.snoc X_19 N_11 o0
  have f_20 : Exa Z h_19 ax "java/lang/String" := f_12.wr W_19
  have f_21 : Fld Z h_19 ax "java/lang/String" "value" "[B" (.ref r_3) := f_13.same W_19
  have f_22 : Fld Z h_19 ax "java/lang/String" "coder" "B" (.int (0 : Int32)) := f_14.other W_19 (Or.inr (slot_ne (Or.inr (wdOf hw 21 rfl)) (Or.inr (wdOf hw 20 rfl)) (by decide) (t := .byte) (t' := (.array .byte)) (by decide) (by decide)))
  have f_23 : Arv Z h_19 ca kc .char (1 : Int32) [(.int c0)] (.int (0 : Int32)) := f_15.other W_19 ncs
  have f_24 : Sta Z h_19 "java/lang/String" "COMPACT_STRINGS" "Z" (.int cs) := f_16.wr W_19
  have f_25 : Arv Z h_19 r_3 kb_3 .byte (1 : Int32) [(.int (c0.toInt8.toInt32).toInt8.toInt32)] (.int (0 : Int32)) := f_17.other W_19 nrs
  have K_26 : Keep h0 h_19 [ax] := K_18.wr W_19 (Or.inl (List.mem_of_getElem? (i := 0) rfl))
  have y_26 : n0 ≤ h_19.size := Nat.le_trans Z0 K_26.1
  refine Goes.go (U' := (T_19.setTop (mkF m 57 #[sR_ ax, sR_ ca, sI_ (0 : Int32), sI_ (1 : Int32), .val .null, sR_ r_3] []))) st_19 ?_
  refine Goes.retV X_19 hx hlk hret (hb hby d_rm_sv1_57) (by decide) (by decide) ?_
  try rw [e_19]
  exact ⟨rfl, N_19, K_26, f_20⟩
theorem d_rm_sc1_0 : decode jdk_42_method_3_code 0 = .ok (.aload_n 0, 1) := by decide +kernel
theorem d_rm_sc1_1 : decode jdk_42_method_3_code 1 = .ok (.aload_n 1, 1) := by decide +kernel
theorem d_rm_sc1_2 : decode jdk_42_method_3_code 2 = .ok (.iconst 0, 1) := by decide +kernel
theorem d_rm_sc1_3 : decode jdk_42_method_3_code 3 = .ok (.aload_n 1, 1) := by decide +kernel
theorem d_rm_sc1_4 : decode jdk_42_method_3_code 4 = .ok (.arraylength, 1) := by decide +kernel
theorem d_rm_sc1_5 : decode jdk_42_method_3_code 5 = .ok (.aconst_null, 1) := by decide +kernel
theorem d_rm_sc1_6 : decode jdk_42_method_3_code 6 = .ok (.invokespecial 27, 3) := by decide +kernel
theorem d_rm_sc1_9 : decode jdk_42_method_3_code 9 = .ok (.return_, 1) := by decide +kernel
set_option maxHeartbeats 4000000 in
theorem ef_rm_sc1 (m : MethodId) (x0 : Addr) (x1 : Addr)  : entryFrame m #[(.ref x0), (.ref x1)] 2 = mkF m 0 #[.val (.ref x0), .val (.ref x1)] [] := by first | (simp [entryFrame, mkF, argsToLocals, catR, catN, catI, catJ]; done) | rfl
set_option maxRecDepth 65536 in
set_option maxHeartbeats 40000000 in
theorem rm_sc1 (l : Launch) (Z : State) (a0 : Array Value) (hw : ∀ d ∈ tables_1, d.before a0 Z = true) (ws : List Jvm.Cond) (ax ca : Addr) (kc : ClassId) (cs : Int32) (c0 : Int32) (h0 : Heap) (n0 : Nat) (Z0 : n0 ≤ h0.size) (O : Old Z n0 h0) (SC : Sta Z Z.heap "java/lang/String" "COMPACT_STRINGS" "Z" (.int cs)) (hcs : ¬ cs = 0) (o0 : n0 ≤ ax) (E0 : Exa Z h0 ax "java/lang/String") (F0_value : Fld Z h0 ax "java/lang/String" "value" "[B" .null) (F0_coder : Fld Z h0 ax "java/lang/String" "coder" "B" (.int (0 : Int32))) (Vc : Arv Z h0 ca kc .char (1 : Int32) [(.int c0)] (.int (0 : Int32))) (hc0 : ¬ (255 : Int32) < c0) :
    Pays l Z (⟨"java/lang/String", "<init>", "([C)V"⟩ : MethodName) jdk_42_method_3_code 2 none ws ({ frames := 3, cells := 1, slots := 1, locals := 52 } : Room) #[(.ref ax), (.ref ca)] h0 (fun v h L => v = none ∧ Fr n0 L ∧ Keep h0 h [ax] ∧ Exa Z h ax "java/lang/String") := by
  refine Pays.of (plainFor_of_name (by first | (simp [plainName, overriddenIn]; done) | decide +kernel)) ?_
  intro p e s m below meth c s₁ hx hby hml hown hnm hret hlk hZ e0 X0
  have N0 := Fr.nil n0
  have K0 : Keep h0 h0 [ax] := Keep.refl _ _
  refine Goes.go (U' := (s₁.setTop (mkF m 0 #[sR_ ax, sR_ ca] []))) (fun t kt => castTop (ef_rm_sc1 m ax ca) kt) ?_
  refine Goes.go (U' := (s₁.setTop (mkF m 4 #[sR_ ax, sR_ ca] [(.ref ca), (.int (0 : Int32)), (.ref ca), (.ref ax)]))) (fun t kt => ?_) ?_
  · skip
    refine XS.aloadN X0.here hx rfl (hb hby d_rm_sc1_0) rfl rfl ?_
    refine XS.aloadN X0.here hx rfl (hb hby d_rm_sc1_1) rfl rfl ?_
    refine XS.iconst X0.here hx rfl (hb hby d_rm_sc1_2) ?_
    refine XS.aloadN X0.here hx rfl (hb hby d_rm_sc1_3) rfl rfl ?_
    exact kt
  obtain ⟨cl_1, Ar_1, q_1, S_1, M_1, H_1, G_1⟩ := id Vc
  refine Goes.go (U' := (s₁.setTop (mkF m 5 #[sR_ ax, sR_ ca] [(.int (1 : Int32)), (.int (0 : Int32)), (.ref ca), (.ref ax)]))) (fun t kt => ?_) ?_
  · skip
    refine X0.arraylength hx (by rw [e0]; exact Ar_1.1) (State.isArrayOf_alike hZ.alike Ar_1.2.1) (g := (mkF m 4 #[sR_ ax, sR_ ca] [(.ref ca), (.int (0 : Int32)), (.ref ca), (.ref ax)])) rfl rfl (hb hby d_rm_sc1_4) _ ?_
    rw [len_of S_1 M_1]
    exact kt
  refine Goes.go (U' := (s₁.setTop (mkF m 6 #[sR_ ax, sR_ ca] [.null, (.int (1 : Int32)), (.int (0 : Int32)), (.ref ca), (.ref ax)]))) (fun t kt => ?_) ?_
  · skip
    refine XS.aconstNull X0.here hx rfl (hb hby d_rm_sc1_5) ?_
    exact kt
  obtain ⟨v_2, T_2, L_2, X_2, q_2, st_2⟩ := callInit X0 hx hZ (y := (⟨"java/lang/String", "<init>", "([CIILjava/lang/Void;)V"⟩ : MethodName)) (W := 0) rfl hown (wdOf hw 11 rfl) (wdOf hw 12 rfl) (wdOf hw 6 rfl) (wdOf hw 14 rfl) (by decide) (rm_sv1 l Z a0 hw [] ax ca kc cs c0 h0 n0 Z0 O SC hcs o0 E0 F0_value F0_coder Vc hc0) (by decide) (by decide) (by decide) (by decide) e0 (b := ax) (g := (mkF m 6 #[sR_ ax, sR_ ca] [.null, (.int (1 : Int32)), (.int (0 : Int32)), (.ref ca), (.ref ax)])) rfl (by rw [hml]; rfl) (argsL := [(.ref ca), (.int (0 : Int32)), (.int (1 : Int32)), .null]) (rest := []) (lenOf pd_7 rfl) rfl rfl (Nat.le_refl _) (hb hby d_rm_sc1_6)
  obtain ⟨rfl, n_2, K_2, Eq_2⟩ := q_2
  have N_2 := Fr.app N0 n_2
  have f_3 : Exa Z T_2.heap ax "java/lang/String" := E0.keep K_2
  have K_6 : Keep h0 T_2.heap [ax] := K0.trans K_2 (allS (P := fun x => x ∈ [ax] ∨ h0.size ≤ x) (Or.inl (List.mem_of_getElem? (i := 0) rfl)) all0)
  have y_6 : n0 ≤ T_2.heap.size := Nat.le_trans Z0 K_6.1
  refine Goes.go (U' := (T_2.setTop (mkF m 9 #[sR_ ax, sR_ ca] []))) st_2 ?_
  refine Goes.retV X_2 hx hlk hret (hb hby d_rm_sc1_9) (by decide) (by decide) ?_
  try rw [(rfl : T_2.heap = T_2.heap)]
  exact ⟨rfl, N_2, K_6, f_3⟩
theorem d_rm_cmi2_0 : decode jdk_52_method_21_code 0 = .ok (.iconst 0, 1) := by decide +kernel
theorem d_rm_cmi2_1 : decode jdk_52_method_21_code 1 = .ok (.istore 5, 2) := by decide +kernel
theorem d_rm_cmi2_3 : decode jdk_52_method_21_code 3 = .ok (.iload 5, 2) := by decide +kernel
theorem d_rm_cmi2_5 : decode jdk_52_method_21_code 5 = .ok (.iload 4, 2) := by decide +kernel
theorem d_rm_cmi2_7 : decode jdk_52_method_21_code 7 = .ok (.if_icmp .ge 37, 3) := by decide +kernel
theorem d_rm_cmi2_10 : decode jdk_52_method_21_code 10 = .ok (.aload_n 0, 1) := by decide +kernel
theorem d_rm_cmi2_11 : decode jdk_52_method_21_code 11 = .ok (.iload_n 1, 1) := by decide +kernel
theorem d_rm_cmi2_12 : decode jdk_52_method_21_code 12 = .ok (.caload, 1) := by decide +kernel
theorem d_rm_cmi2_13 : decode jdk_52_method_21_code 13 = .ok (.istore 6, 2) := by decide +kernel
theorem d_rm_cmi2_15 : decode jdk_52_method_21_code 15 = .ok (.iload 6, 2) := by decide +kernel
theorem d_rm_cmi2_17 : decode jdk_52_method_21_code 17 = .ok (.sipush 255, 3) := by decide +kernel
theorem d_rm_cmi2_20 : decode jdk_52_method_21_code 20 = .ok (.if_icmp .le 6, 3) := by decide +kernel
theorem d_rm_cmi2_26 : decode jdk_52_method_21_code 26 = .ok (.aload_n 2, 1) := by decide +kernel
theorem d_rm_cmi2_27 : decode jdk_52_method_21_code 27 = .ok (.iload_n 3, 1) := by decide +kernel
theorem d_rm_cmi2_28 : decode jdk_52_method_21_code 28 = .ok (.iload 6, 2) := by decide +kernel
theorem d_rm_cmi2_30 : decode jdk_52_method_21_code 30 = .ok (.i2b, 1) := by decide +kernel
theorem d_rm_cmi2_31 : decode jdk_52_method_21_code 31 = .ok (.bastore, 1) := by decide +kernel
theorem d_rm_cmi2_32 : decode jdk_52_method_21_code 32 = .ok (.iinc 1 1, 3) := by decide +kernel
theorem d_rm_cmi2_35 : decode jdk_52_method_21_code 35 = .ok (.iinc 3 1, 3) := by decide +kernel
theorem d_rm_cmi2_38 : decode jdk_52_method_21_code 38 = .ok (.iinc 5 1, 3) := by decide +kernel
theorem d_rm_cmi2_41 : decode jdk_52_method_21_code 41 = .ok (.goto (-38), 3) := by decide +kernel
theorem d_rm_cmi2_44 : decode jdk_52_method_21_code 44 = .ok (.iload 4, 2) := by decide +kernel
theorem d_rm_cmi2_46 : decode jdk_52_method_21_code 46 = .ok (.ireturn, 1) := by decide +kernel
set_option maxHeartbeats 4000000 in
theorem ef_rm_cmi2 (m : MethodId) (x0 : Addr) (x1 : Int32) (x2 : Addr) (x3 : Int32) (x4 : Int32)  : entryFrame m #[(.ref x0), (.int x1), (.ref x2), (.int x3), (.int x4)] 7 = mkF m 0 #[.val (.ref x0), .val (.int x1), .val (.ref x2), .val (.int x3), .val (.int x4), .unset, .unset] [] := by first | (simp [entryFrame, mkF, argsToLocals, catR, catN, catI, catJ]; done) | rfl
set_option maxRecDepth 65536 in
set_option maxHeartbeats 40000000 in
theorem rm_cmi2 (l : Launch) (Z : State) (a0 : Array Value) (hw : ∀ d ∈ tables_1, d.before a0 Z = true) (ws : List Jvm.Cond) (ca ba : Addr) (kc kb : ClassId) (c0 c1 : Int32) (h0 : Heap) (n0 : Nat) (Z0 : n0 ≤ h0.size) (o0 : n0 ≤ ba) (nb : ca ≠ ba) (Vc : Arv Z h0 ca kc .char (2 : Int32) [(.int c0), (.int c1)] (.int (0 : Int32))) (Vb : Arv Z h0 ba kb .byte (2 : Int32) [(.int (0 : Int32)), (.int (0 : Int32))] (.int (0 : Int32))) (hc0 : ¬ (255 : Int32) < c0) (hc1 : ¬ (255 : Int32) < c1) :
    Pays l Z (⟨"java/lang/StringUTF16", "compress", "([CI[BII)I"⟩ : MethodName) jdk_52_method_21_code 7 (some .int) ws ({ frames := 0, cells := 0, slots := 0, locals := 0 } : Room) #[(.ref ca), (.int (0 : Int32)), (.ref ba), (.int (0 : Int32)), (.int (2 : Int32))] h0 (fun v h L => v = some (.int (2 : Int32)) ∧ Fr n0 L ∧ Keep h0 h [ba] ∧ Arv Z h ba kb .byte (2 : Int32) [(.int (c0.toInt8.toInt32).toInt8.toInt32), (.int (c1.toInt8.toInt32).toInt8.toInt32)] (.int (0 : Int32))) := by
  refine Pays.of (plainFor_of_name (by first | (simp [plainName, overriddenIn]; done) | decide +kernel)) ?_
  intro p e s m below meth c s₁ hx hby hml hown hnm hret hlk hZ e0 X0
  have N0 := Fr.nil n0
  have K0 : Keep h0 h0 [ba] := Keep.refl _ _
  refine Goes.go (U' := (s₁.setTop (mkF m 0 #[sR_ ca, sI_ (0 : Int32), sR_ ba, sI_ (0 : Int32), sI_ (2 : Int32), sU_, sU_] []))) (fun t kt => castTop (ef_rm_cmi2 m ca (0 : Int32) ba (0 : Int32) (2 : Int32)) kt) ?_
  refine Goes.go (U' := (s₁.setTop (mkF m 12 #[sR_ ca, sI_ (0 : Int32), sR_ ba, sI_ (0 : Int32), sI_ (2 : Int32), sI_ (0 : Int32), sU_] [(.int (0 : Int32)), (.ref ca)]))) (fun t kt => ?_) ?_
  · skip
    refine XS.iconst X0.here hx rfl (hb hby d_rm_cmi2_0) ?_
    refine XS.istore X0.here hx rfl (hb hby d_rm_cmi2_1) rfl (l' := #[sR_ ca, sI_ (0 : Int32), sR_ ba, sI_ (0 : Int32), sI_ (2 : Int32), sI_ (0 : Int32), sU_]) rfl ?_
    refine XS.iload X0.here hx rfl (hb hby d_rm_cmi2_3) rfl ?_
    refine XS.iload X0.here hx rfl (hb hby d_rm_cmi2_5) rfl ?_
    refine XS.icmpNo X0.here hx rfl (hb hby d_rm_cmi2_7) rfl (XT.ii_ge_f (by decide)) ?_
    refine XS.aloadN X0.here hx rfl (hb hby d_rm_cmi2_10) rfl rfl ?_
    refine XS.iloadN X0.here hx rfl (hb hby d_rm_cmi2_11) rfl ?_
    exact kt
  obtain ⟨cl_1, Ar_1, q_1, S_1, M_1, H_1, G_1⟩ := id Vc
  have hin_1 : ¬ ((0 : Int32) < 0 ∨ cl_1.slots.size ≤ ((0 : Int32)).toNatClampNeg) := inb_of S_1 ⟨by decide, by decide⟩
  have hat_1 : cl_1.slots[((0 : Int32)).toNatClampNeg]? = some (.int c0) := H_1.at hin_1 rfl
  refine Goes.go (U' := (s₁.setTop (mkF m 13 #[sR_ ca, sI_ (0 : Int32), sR_ ba, sI_ (0 : Int32), sI_ (2 : Int32), sI_ (0 : Int32), sU_] [(.int c0)]))) (fun t kt => ?_) ?_
  · skip
    refine X0.caload hx (j := (0 : Int32)) (v := (.int c0)) (by rw [e0]; exact Ar_1.1) (State.isArrayOf_alike hZ.alike Ar_1.2.1) Ar_1.2.2 hin_1 hat_1 (g := (mkF m 12 #[sR_ ca, sI_ (0 : Int32), sR_ ba, sI_ (0 : Int32), sI_ (2 : Int32), sI_ (0 : Int32), sU_] [(.int (0 : Int32)), (.ref ca)])) rfl rfl (hb hby d_rm_cmi2_12) _ ?_
    exact kt
  refine Goes.go (U' := (s₁.setTop (mkF m 31 #[sR_ ca, sI_ (0 : Int32), sR_ ba, sI_ (0 : Int32), sI_ (2 : Int32), sI_ (0 : Int32), sI_ c0] [(.int (c0.toInt8.toInt32)), (.int (0 : Int32)), (.ref ba)]))) (fun t kt => ?_) ?_
  · skip
    refine XS.istore X0.here hx rfl (hb hby d_rm_cmi2_13) rfl (l' := #[sR_ ca, sI_ (0 : Int32), sR_ ba, sI_ (0 : Int32), sI_ (2 : Int32), sI_ (0 : Int32), sI_ c0]) rfl ?_
    refine XS.iload X0.here hx rfl (hb hby d_rm_cmi2_15) rfl ?_
    refine XS.sipush X0.here hx rfl (hb hby d_rm_cmi2_17) ?_
    refine XS.icmpYes X0.here hx rfl (pc0 := 20) (pc' := 26) rfl (hb hby d_rm_cmi2_20) rfl (XT.ii_le_t hc0) (by decide) (by decide) ?_
    refine XS.aloadN X0.here hx rfl (hb hby d_rm_cmi2_26) rfl rfl ?_
    refine XS.iloadN X0.here hx rfl (hb hby d_rm_cmi2_27) rfl ?_
    refine XS.iload X0.here hx rfl (hb hby d_rm_cmi2_28) rfl ?_
    refine XS.i2b X0.here hx rfl (hb hby d_rm_cmi2_30) rfl ?_
    exact kt
  obtain ⟨cl_2, Ar_2, q_2, S_2, M_2, H_2, G_2⟩ := id Vb
  have hin_2 : ¬ ((0 : Int32) < 0 ∨ cl_2.slots.size ≤ ((0 : Int32)).toNatClampNeg) := inb_of S_2 ⟨by decide, by decide⟩
  obtain ⟨T_2, h_2, X_2, e_2, W_2, st_2⟩ := stB X0 hx hZ e0 Ar_2 (j := (0 : Int32)) hin_2 (g := (mkF m 31 #[sR_ ca, sI_ (0 : Int32), sR_ ba, sI_ (0 : Int32), sI_ (2 : Int32), sI_ (0 : Int32), sI_ c0] [(.int (c0.toInt8.toInt32)), (.int (0 : Int32)), (.ref ba)])) rfl rfl (hb hby d_rm_cmi2_31)
  have V_2 : Arv Z h_2 ba kb .byte (2 : Int32) [(.int (c0.toInt8.toInt32).toInt8.toInt32), (.int (0 : Int32))] (.int (0 : Int32)) := Arv.set Ar_2 q_2 S_2 M_2 H_2 G_2 (fits_nar_byte _) W_2 0 rfl (Nat.le_of_ble_eq_true rfl)
  have N_2 := Fr.snoc X_2 N0 o0
  have f_3 : Arv Z h_2 ca kc .char (2 : Int32) [(.int c0), (.int c1)] (.int (0 : Int32)) := Vc.other W_2 nb
  have K_5 : Keep h0 h_2 [ba] := K0.wr W_2 (Or.inl (List.mem_of_getElem? (i := 0) rfl))
  have y_5 : n0 ≤ h_2.size := Nat.le_trans Z0 K_5.1
  refine Goes.go (U' := (T_2.setTop (mkF m 32 #[sR_ ca, sI_ (0 : Int32), sR_ ba, sI_ (0 : Int32), sI_ (2 : Int32), sI_ (0 : Int32), sI_ c0] []))) st_2 ?_
  refine Goes.go (U' := (T_2.setTop (mkF m 12 #[sR_ ca, sI_ (1 : Int32), sR_ ba, sI_ (1 : Int32), sI_ (2 : Int32), sI_ (1 : Int32), sI_ c0] [(.int (1 : Int32)), (.ref ca)]))) (fun t kt => ?_) ?_
  · skip
    refine XS.iinc X_2.here hx rfl (hb hby d_rm_cmi2_32) rfl (l' := #[sR_ ca, sI_ (1 : Int32), sR_ ba, sI_ (0 : Int32), sI_ (2 : Int32), sI_ (0 : Int32), sI_ c0]) rfl ?_
    refine XS.iinc X_2.here hx rfl (hb hby d_rm_cmi2_35) rfl (l' := #[sR_ ca, sI_ (1 : Int32), sR_ ba, sI_ (1 : Int32), sI_ (2 : Int32), sI_ (0 : Int32), sI_ c0]) rfl ?_
    refine XS.iinc X_2.here hx rfl (hb hby d_rm_cmi2_38) rfl (l' := #[sR_ ca, sI_ (1 : Int32), sR_ ba, sI_ (1 : Int32), sI_ (2 : Int32), sI_ (1 : Int32), sI_ c0]) rfl ?_
    refine XS.goto X_2.here hx rfl (pc0 := 41) (pc' := 3) rfl (hb hby d_rm_cmi2_41) (by decide) (by decide) ?_
    refine XS.iload X_2.here hx rfl (hb hby d_rm_cmi2_3) rfl ?_
    refine XS.iload X_2.here hx rfl (hb hby d_rm_cmi2_5) rfl ?_
    refine XS.icmpNo X_2.here hx rfl (hb hby d_rm_cmi2_7) rfl (XT.ii_ge_f (by decide)) ?_
    refine XS.aloadN X_2.here hx rfl (hb hby d_rm_cmi2_10) rfl rfl ?_
    show Steps p.tables e below (T_2.setTop (mkF m 11 #[sR_ ca, sI_ (1 : Int32), sR_ ba, sI_ (1 : Int32), sI_ (2 : Int32), sI_ (1 : Int32), sI_ c0] [(.ref ca)])) t
    refine XS.iloadN X_2.here hx rfl (hb hby d_rm_cmi2_11) rfl ?_
    exact kt
  obtain ⟨cl_6, Ar_6, q_6, S_6, M_6, H_6, G_6⟩ := id f_3
  have hin_6 : ¬ ((1 : Int32) < 0 ∨ cl_6.slots.size ≤ ((1 : Int32)).toNatClampNeg) := inb_of S_6 ⟨by decide, by decide⟩
  have hat_6 : cl_6.slots[((1 : Int32)).toNatClampNeg]? = some (.int c1) := H_6.at hin_6 rfl
  refine Goes.go (U' := (T_2.setTop (mkF m 13 #[sR_ ca, sI_ (1 : Int32), sR_ ba, sI_ (1 : Int32), sI_ (2 : Int32), sI_ (1 : Int32), sI_ c0] [(.int c1)]))) (fun t kt => ?_) ?_
  · skip
    refine X_2.caload hx (j := (1 : Int32)) (v := (.int c1)) (by rw [e_2]; exact Ar_6.1) (State.isArrayOf_alike hZ.alike Ar_6.2.1) Ar_6.2.2 hin_6 hat_6 (g := (mkF m 12 #[sR_ ca, sI_ (1 : Int32), sR_ ba, sI_ (1 : Int32), sI_ (2 : Int32), sI_ (1 : Int32), sI_ c0] [(.int (1 : Int32)), (.ref ca)])) rfl rfl (hb hby d_rm_cmi2_12) _ ?_
    exact kt
  refine Goes.go (U' := (T_2.setTop (mkF m 31 #[sR_ ca, sI_ (1 : Int32), sR_ ba, sI_ (1 : Int32), sI_ (2 : Int32), sI_ (1 : Int32), sI_ c1] [(.int (c1.toInt8.toInt32)), (.int (1 : Int32)), (.ref ba)]))) (fun t kt => ?_) ?_
  · skip
    refine XS.istore X_2.here hx rfl (hb hby d_rm_cmi2_13) rfl (l' := #[sR_ ca, sI_ (1 : Int32), sR_ ba, sI_ (1 : Int32), sI_ (2 : Int32), sI_ (1 : Int32), sI_ c1]) rfl ?_
    refine XS.iload X_2.here hx rfl (hb hby d_rm_cmi2_15) rfl ?_
    refine XS.sipush X_2.here hx rfl (hb hby d_rm_cmi2_17) ?_
    refine XS.icmpYes X_2.here hx rfl (pc0 := 20) (pc' := 26) rfl (hb hby d_rm_cmi2_20) rfl (XT.ii_le_t hc1) (by decide) (by decide) ?_
    refine XS.aloadN X_2.here hx rfl (hb hby d_rm_cmi2_26) rfl rfl ?_
    refine XS.iloadN X_2.here hx rfl (hb hby d_rm_cmi2_27) rfl ?_
    refine XS.iload X_2.here hx rfl (hb hby d_rm_cmi2_28) rfl ?_
    refine XS.i2b X_2.here hx rfl (hb hby d_rm_cmi2_30) rfl ?_
    exact kt
  obtain ⟨cl_7, Ar_7, q_7, S_7, M_7, H_7, G_7⟩ := id V_2
  have hin_7 : ¬ ((1 : Int32) < 0 ∨ cl_7.slots.size ≤ ((1 : Int32)).toNatClampNeg) := inb_of S_7 ⟨by decide, by decide⟩
  obtain ⟨T_7, h_7, X_7, e_7, W_7, st_7⟩ := stB X_2 hx hZ e_2 Ar_7 (j := (1 : Int32)) hin_7 (g := (mkF m 31 #[sR_ ca, sI_ (1 : Int32), sR_ ba, sI_ (1 : Int32), sI_ (2 : Int32), sI_ (1 : Int32), sI_ c1] [(.int (c1.toInt8.toInt32)), (.int (1 : Int32)), (.ref ba)])) rfl rfl (hb hby d_rm_cmi2_31)
  have V_7 : Arv Z h_7 ba kb .byte (2 : Int32) [(.int (c0.toInt8.toInt32).toInt8.toInt32), (.int (c1.toInt8.toInt32).toInt8.toInt32)] (.int (0 : Int32)) := Arv.set Ar_7 q_7 S_7 M_7 H_7 G_7 (fits_nar_byte _) W_7 1 rfl (Nat.le_of_ble_eq_true rfl)
  have N_7 := Fr.snoc X_7 N_2 o0
  have f_8 : Arv Z h_7 ca kc .char (2 : Int32) [(.int c0), (.int c1)] (.int (0 : Int32)) := f_3.other W_7 nb
  have K_10 : Keep h0 h_7 [ba] := K_5.wr W_7 (Or.inl (List.mem_of_getElem? (i := 0) rfl))
  have y_10 : n0 ≤ h_7.size := Nat.le_trans Z0 K_10.1
  refine Goes.go (U' := (T_7.setTop (mkF m 32 #[sR_ ca, sI_ (1 : Int32), sR_ ba, sI_ (1 : Int32), sI_ (2 : Int32), sI_ (1 : Int32), sI_ c1] []))) st_7 ?_
  refine Goes.go (U' := (T_7.setTop (mkF m 46 #[sR_ ca, sI_ (2 : Int32), sR_ ba, sI_ (2 : Int32), sI_ (2 : Int32), sI_ (2 : Int32), sI_ c1] [(.int (2 : Int32))]))) (fun t kt => ?_) ?_
  · skip
    refine XS.iinc X_7.here hx rfl (hb hby d_rm_cmi2_32) rfl (l' := #[sR_ ca, sI_ (2 : Int32), sR_ ba, sI_ (1 : Int32), sI_ (2 : Int32), sI_ (1 : Int32), sI_ c1]) rfl ?_
    refine XS.iinc X_7.here hx rfl (hb hby d_rm_cmi2_35) rfl (l' := #[sR_ ca, sI_ (2 : Int32), sR_ ba, sI_ (2 : Int32), sI_ (2 : Int32), sI_ (1 : Int32), sI_ c1]) rfl ?_
    refine XS.iinc X_7.here hx rfl (hb hby d_rm_cmi2_38) rfl (l' := #[sR_ ca, sI_ (2 : Int32), sR_ ba, sI_ (2 : Int32), sI_ (2 : Int32), sI_ (2 : Int32), sI_ c1]) rfl ?_
    refine XS.goto X_7.here hx rfl (pc0 := 41) (pc' := 3) rfl (hb hby d_rm_cmi2_41) (by decide) (by decide) ?_
    refine XS.iload X_7.here hx rfl (hb hby d_rm_cmi2_3) rfl ?_
    refine XS.iload X_7.here hx rfl (hb hby d_rm_cmi2_5) rfl ?_
    refine XS.icmpYes X_7.here hx rfl (pc0 := 7) (pc' := 44) rfl (hb hby d_rm_cmi2_7) rfl (XT.ii_ge_t (by decide)) (by decide) (by decide) ?_
    refine XS.iload X_7.here hx rfl (hb hby d_rm_cmi2_44) rfl ?_
    exact kt
  refine Goes.retI X_7 hx hlk hret (hb hby d_rm_cmi2_46) (by decide) (by decide) ?_
  try rw [e_7]
  exact ⟨rfl, N_7, K_10, V_7⟩
theorem d_rm_cm2_0 : decode jdk_52_method_16_code 0 = .ok (.iload_n 2, 1) := by decide +kernel
theorem d_rm_cm2_1 : decode jdk_52_method_16_code 1 = .ok (.newarray .byte, 2) := by decide +kernel
theorem d_rm_cm2_3 : decode jdk_52_method_16_code 3 = .ok (.astore_n 3, 1) := by decide +kernel
theorem d_rm_cm2_4 : decode jdk_52_method_16_code 4 = .ok (.aload_n 0, 1) := by decide +kernel
theorem d_rm_cm2_5 : decode jdk_52_method_16_code 5 = .ok (.iload_n 1, 1) := by decide +kernel
theorem d_rm_cm2_6 : decode jdk_52_method_16_code 6 = .ok (.aload_n 3, 1) := by decide +kernel
theorem d_rm_cm2_7 : decode jdk_52_method_16_code 7 = .ok (.iconst 0, 1) := by decide +kernel
theorem d_rm_cm2_8 : decode jdk_52_method_16_code 8 = .ok (.iload_n 2, 1) := by decide +kernel
theorem d_rm_cm2_9 : decode jdk_52_method_16_code 9 = .ok (.invokestatic 115, 3) := by decide +kernel
theorem d_rm_cm2_12 : decode jdk_52_method_16_code 12 = .ok (.istore 4, 2) := by decide +kernel
theorem d_rm_cm2_14 : decode jdk_52_method_16_code 14 = .ok (.iload 4, 2) := by decide +kernel
theorem d_rm_cm2_16 : decode jdk_52_method_16_code 16 = .ok (.iload_n 2, 1) := by decide +kernel
theorem d_rm_cm2_17 : decode jdk_52_method_16_code 17 = .ok (.if_icmp .eq 40, 3) := by decide +kernel
theorem d_rm_cm2_57 : decode jdk_52_method_16_code 57 = .ok (.aload_n 3, 1) := by decide +kernel
theorem d_rm_cm2_58 : decode jdk_52_method_16_code 58 = .ok (.areturn, 1) := by decide +kernel
set_option maxHeartbeats 4000000 in
theorem ef_rm_cm2 (m : MethodId) (x0 : Addr) (x1 : Int32) (x2 : Int32)  : entryFrame m #[(.ref x0), (.int x1), (.int x2)] 6 = mkF m 0 #[.val (.ref x0), .val (.int x1), .val (.int x2), .unset, .unset, .unset] [] := by first | (simp [entryFrame, mkF, argsToLocals, catR, catN, catI, catJ]; done) | rfl
set_option maxRecDepth 65536 in
set_option maxHeartbeats 40000000 in
theorem rm_cm2 (l : Launch) (Z : State) (a0 : Array Value) (hw : ∀ d ∈ tables_1, d.before a0 Z = true) (ws : List Jvm.Cond) (ca : Addr) (kc : ClassId) (c0 c1 : Int32) (h0 : Heap) (n0 : Nat) (Z0 : n0 ≤ h0.size) (Vc : Arv Z h0 ca kc .char (2 : Int32) [(.int c0), (.int c1)] (.int (0 : Int32))) (hc0 : ¬ (255 : Int32) < c0) (hc1 : ¬ (255 : Int32) < c1) :
    Pays l Z (⟨"java/lang/StringUTF16", "compress", "([CII)[B"⟩ : MethodName) jdk_52_method_16_code 6 (some (.array .byte)) ws ({ frames := 1, cells := 1, slots := 2, locals := 18 } : Room) #[(.ref ca), (.int (0 : Int32)), (.int (2 : Int32))] h0 (fun v h L => ∃ r kb, v = some (.ref r) ∧ Fr n0 L ∧ Ext h0 h ∧ Arv Z h r kb .byte (2 : Int32) [(.int (c0.toInt8.toInt32).toInt8.toInt32), (.int (c1.toInt8.toInt32).toInt8.toInt32)] (.int (0 : Int32))) := by
  refine Pays.of (plainFor_of_name (by first | (simp [plainName, overriddenIn]; done) | decide +kernel)) ?_
  intro p e s m below meth c s₁ hx hby hml hown hnm hret hlk hZ e0 X0
  have N0 := Fr.nil n0
  have K0 : Keep h0 h0 [] := Keep.refl _ _
  refine Goes.go (U' := (s₁.setTop (mkF m 0 #[sR_ ca, sI_ (0 : Int32), sI_ (2 : Int32), sU_, sU_, sU_] []))) (fun t kt => castTop (ef_rm_cm2 m ca (0 : Int32) (2 : Int32)) kt) ?_
  refine Goes.go (U' := (s₁.setTop (mkF m 1 #[sR_ ca, sI_ (0 : Int32), sI_ (2 : Int32), sU_, sU_, sU_] [(.int (2 : Int32))]))) (fun t kt => ?_) ?_
  · skip
    refine XS.iloadN X0.here hx rfl (hb hby d_rm_cm2_0) rfl ?_
    exact kt
  obtain ⟨T_1, h_1, k_1, X_1, e_1, E_1, A_1, st_1⟩ := newP X0 hx hZ (wdOf hw 19 rfl) e0 (g := (mkF m 1 #[sR_ ca, sI_ (0 : Int32), sI_ (2 : Int32), sU_, sU_, sU_] [(.int (2 : Int32))])) rfl (hb hby d_rm_cm2_1) rfl (by decide) (cap := 2) (by decide) (by decide) (by decide) (by decide)
  obtain ⟨b_1, g_1⟩ : ∃ z, z = h0.size := ⟨_, rfl⟩
  rw [← g_1] at A_1 st_1
  have ne_2 : ca ≠ b_1 := Nat.ne_of_lt (Nat.lt_of_lt_of_le Vc.lt (Nat.le_of_eq g_1.symm))
  have o_1 : n0 ≤ b_1 := Nat.le_trans Z0 (Nat.le_of_eq g_1.symm)
  have z_1 : h0.size ≤ b_1 := Nat.le_trans K0.1 (Nat.le_of_eq g_1.symm)
  have f_3 : Arv Z h_1 ca kc .char (2 : Int32) [(.int c0), (.int c1)] (.int (0 : Int32)) := Vc.ext E_1
  have V_1 : Arv Z h_1 b_1 k_1 .byte (2 : Int32) [(.int (0 : Int32)), (.int (0 : Int32))] (.int (0 : Int32)) := (Arv.new A_1 (by decide)).pad (pad_rep [] (.int (0 : Int32)) 2)
  have K_4 : Keep h0 h_1 [] := K0.ext E_1
  have y_4 : n0 ≤ h_1.size := Nat.le_trans Z0 K_4.1
  refine Goes.go (U' := (T_1.setTop (mkF m 3 #[sR_ ca, sI_ (0 : Int32), sI_ (2 : Int32), sU_, sU_, sU_] [(.ref b_1)]))) st_1 ?_
  refine Goes.go (U' := (T_1.setTop (mkF m 9 #[sR_ ca, sI_ (0 : Int32), sI_ (2 : Int32), sR_ b_1, sU_, sU_] [(.int (2 : Int32)), (.int (0 : Int32)), (.ref b_1), (.int (0 : Int32)), (.ref ca)]))) (fun t kt => ?_) ?_
  · skip
    refine XS.astoreN X_1.here hx rfl (hb hby d_rm_cm2_3) rfl rfl (l' := #[sR_ ca, sI_ (0 : Int32), sI_ (2 : Int32), sR_ b_1, sU_, sU_]) rfl ?_
    refine XS.aloadN X_1.here hx rfl (hb hby d_rm_cm2_4) rfl rfl ?_
    refine XS.iloadN X_1.here hx rfl (hb hby d_rm_cm2_5) rfl ?_
    refine XS.aloadN X_1.here hx rfl (hb hby d_rm_cm2_6) rfl rfl ?_
    refine XS.iconst X_1.here hx rfl (hb hby d_rm_cm2_7) ?_
    refine XS.iloadN X_1.here hx rfl (hb hby d_rm_cm2_8) rfl ?_
    exact kt
  obtain ⟨v_5, T_5, L_5, X_5, q_5, st_5⟩ := callStatic X_1 hx hZ (y := (⟨"java/lang/StringUTF16", "compress", "([CI[BII)I"⟩ : MethodName)) (W := 0) hown (wdOf hw 110 rfl) (wdOf hw 111 rfl) (wdOf hw 108 rfl) (wdOf hw 112 rfl) (by decide) (rm_cmi2 l Z a0 hw [] ca b_1 kc k_1 c0 c1 h_1 n0 y_4 o_1 ne_2 f_3 V_1 hc0 hc1) (by decide) (by decide) (by decide) (by decide) e_1 (g := (mkF m 9 #[sR_ ca, sI_ (0 : Int32), sI_ (2 : Int32), sR_ b_1, sU_, sU_] [(.int (2 : Int32)), (.int (0 : Int32)), (.ref b_1), (.int (0 : Int32)), (.ref ca)])) rfl (by rw [hml]; rfl) (argsL := [(.ref ca), (.int (0 : Int32)), (.ref b_1), (.int (0 : Int32)), (.int (2 : Int32))]) (rest := []) (lenOf pd_4 rfl) rfl rfl (Nat.le_refl _) (hb hby d_rm_cm2_9)
  obtain ⟨rfl, n_5, K_5, Vq_5⟩ := q_5
  have N_5 := Fr.app N0 n_5
  have f_6 : Arv Z T_5.heap ca kc .char (2 : Int32) [(.int c0), (.int c1)] (.int (0 : Int32)) := f_3.keep K_5 (ninS ne_2 nin0)
  have K_8 : Keep h0 T_5.heap [] := K_4.trans K_5 (allS (P := fun x => x ∈ [] ∨ h0.size ≤ x) (Or.inr z_1) all0)
  have y_8 : n0 ≤ T_5.heap.size := Nat.le_trans Z0 K_8.1
  refine Goes.go (U' := (T_5.setTop (mkF m 12 #[sR_ ca, sI_ (0 : Int32), sI_ (2 : Int32), sR_ b_1, sU_, sU_] [(.int (2 : Int32))]))) st_5 ?_
  refine Goes.go (U' := (T_5.setTop (mkF m 58 #[sR_ ca, sI_ (0 : Int32), sI_ (2 : Int32), sR_ b_1, sI_ (2 : Int32), sU_] [(.ref b_1)]))) (fun t kt => ?_) ?_
  · skip
    refine XS.istore X_5.here hx rfl (hb hby d_rm_cm2_12) rfl (l' := #[sR_ ca, sI_ (0 : Int32), sI_ (2 : Int32), sR_ b_1, sI_ (2 : Int32), sU_]) rfl ?_
    refine XS.iload X_5.here hx rfl (hb hby d_rm_cm2_14) rfl ?_
    refine XS.iloadN X_5.here hx rfl (hb hby d_rm_cm2_16) rfl ?_
    refine XS.icmpYes X_5.here hx rfl (pc0 := 17) (pc' := 57) rfl (hb hby d_rm_cm2_17) rfl (XT.ii_eq_t (by decide)) (by decide) (by decide) ?_
    refine XS.aloadN X_5.here hx rfl (hb hby d_rm_cm2_57) rfl rfl ?_
    exact kt
  refine Goes.retA X_5 hx hlk hret rfl rfl (hb hby d_rm_cm2_58) (by decide) (by decide) ?_
  try rw [(rfl : T_5.heap = T_5.heap)]
  exact ⟨_, _, rfl, N_5, Ext.of_keep K_8, Vq_5⟩
theorem d_rm_cfa2_0 : decode jdk_52_method_15_code 0 = .ok (.iload_n 1, 1) := by decide +kernel
theorem d_rm_cfa2_1 : decode jdk_52_method_15_code 1 = .ok (.aload_n 0, 1) := by decide +kernel
theorem d_rm_cfa2_2 : decode jdk_52_method_15_code 2 = .ok (.arraylength, 1) := by decide +kernel
theorem d_rm_cfa2_3 : decode jdk_52_method_15_code 3 = .ok (.isub, 1) := by decide +kernel
theorem d_rm_cfa2_4 : decode jdk_52_method_15_code 4 = .ok (.bipush 31, 2) := by decide +kernel
theorem d_rm_cfa2_6 : decode jdk_52_method_15_code 6 = .ok (.iushr, 1) := by decide +kernel
theorem d_rm_cfa2_7 : decode jdk_52_method_15_code 7 = .ok (.i2b, 1) := by decide +kernel
theorem d_rm_cfa2_8 : decode jdk_52_method_15_code 8 = .ok (.ireturn, 1) := by decide +kernel
set_option maxHeartbeats 4000000 in
theorem ef_rm_cfa2 (m : MethodId) (x0 : Addr) (x1 : Int32)  : entryFrame m #[(.ref x0), (.int x1)] 2 = mkF m 0 #[.val (.ref x0), .val (.int x1)] [] := by first | (simp [entryFrame, mkF, argsToLocals, catR, catN, catI, catJ]; done) | rfl
set_option maxRecDepth 65536 in
set_option maxHeartbeats 40000000 in
theorem rm_cfa2 (l : Launch) (Z : State) (a0 : Array Value) (hw : ∀ d ∈ tables_1, d.before a0 Z = true) (ws : List Jvm.Cond) (ba : Addr) (kb : ClassId) (c0 c1 : Int32) (h0 : Heap) (n0 : Nat) (Z0 : n0 ≤ h0.size) (Vb : Arv Z h0 ba kb .byte (2 : Int32) [(.int (c0.toInt8.toInt32).toInt8.toInt32), (.int (c1.toInt8.toInt32).toInt8.toInt32)] (.int (0 : Int32))) :
    Pays l Z (⟨"java/lang/StringUTF16", "coderFromArrayLen", "([BI)B"⟩ : MethodName) jdk_52_method_15_code 2 (some .byte) ws ({ frames := 0, cells := 0, slots := 0, locals := 0 } : Room) #[(.ref ba), (.int (2 : Int32))] h0 (fun v h L => v = some (.int (0 : Int32)) ∧ Fr n0 L ∧ h = h0) := by
  refine Pays.of (plainFor_of_name (by first | (simp [plainName, overriddenIn]; done) | decide +kernel)) ?_
  intro p e s m below meth c s₁ hx hby hml hown hnm hret hlk hZ e0 X0
  have N0 := Fr.nil n0
  have K0 : Keep h0 h0 [] := Keep.refl _ _
  refine Goes.go (U' := (s₁.setTop (mkF m 0 #[sR_ ba, sI_ (2 : Int32)] []))) (fun t kt => castTop (ef_rm_cfa2 m ba (2 : Int32)) kt) ?_
  refine Goes.go (U' := (s₁.setTop (mkF m 2 #[sR_ ba, sI_ (2 : Int32)] [(.ref ba), (.int (2 : Int32))]))) (fun t kt => ?_) ?_
  · skip
    refine XS.iloadN X0.here hx rfl (hb hby d_rm_cfa2_0) rfl ?_
    refine XS.aloadN X0.here hx rfl (hb hby d_rm_cfa2_1) rfl rfl ?_
    exact kt
  obtain ⟨cl_1, Ar_1, q_1, S_1, M_1, H_1, G_1⟩ := id Vb
  refine Goes.go (U' := (s₁.setTop (mkF m 3 #[sR_ ba, sI_ (2 : Int32)] [(.int (2 : Int32)), (.int (2 : Int32))]))) (fun t kt => ?_) ?_
  · skip
    refine X0.arraylength hx (by rw [e0]; exact Ar_1.1) (State.isArrayOf_alike hZ.alike Ar_1.2.1) (g := (mkF m 2 #[sR_ ba, sI_ (2 : Int32)] [(.ref ba), (.int (2 : Int32))])) rfl rfl (hb hby d_rm_cfa2_2) _ ?_
    rw [len_of S_1 M_1]
    exact kt
  refine Goes.go (U' := (s₁.setTop (mkF m 8 #[sR_ ba, sI_ (2 : Int32)] [(.int (((((2 : Int32) - (2 : Int32)).toUInt32 >>> ((31 : Int32) &&& 31).toUInt32).toInt32).toInt8.toInt32))]))) (fun t kt => ?_) ?_
  · skip
    refine XS.isub X0.here hx rfl (hb hby d_rm_cfa2_3) rfl ?_
    refine XS.bipush X0.here hx rfl (hb hby d_rm_cfa2_4) ?_
    refine XS.iushr X0.here hx rfl (hb hby d_rm_cfa2_6) rfl ?_
    refine XS.i2b X0.here hx rfl (hb hby d_rm_cfa2_7) rfl ?_
    exact kt
  refine Goes.retY X0 hx hlk hret (hb hby d_rm_cfa2_8) (by decide) (by decide) ?_
  try rw [e0]
  exact ⟨by decide, N0, rfl⟩
theorem d_rm_sv2_0 : decode jdk_42_method_149_code 0 = .ok (.aload_n 0, 1) := by decide +kernel
theorem d_rm_sv2_1 : decode jdk_42_method_149_code 1 = .ok (.invokespecial 1, 3) := by decide +kernel
theorem d_rm_sv2_4 : decode jdk_42_method_149_code 4 = .ok (.iload_n 3, 1) := by decide +kernel
theorem d_rm_sv2_5 : decode jdk_42_method_149_code 5 = .ok (.ifCond .ne 22, 3) := by decide +kernel
theorem d_rm_sv2_27 : decode jdk_42_method_149_code 27 = .ok (.getstatic 38, 3) := by decide +kernel
theorem d_rm_sv2_30 : decode jdk_42_method_149_code 30 = .ok (.ifCond .eq 28, 3) := by decide +kernel
theorem d_rm_sv2_33 : decode jdk_42_method_149_code 33 = .ok (.aload_n 1, 1) := by decide +kernel
theorem d_rm_sv2_34 : decode jdk_42_method_149_code 34 = .ok (.iload_n 2, 1) := by decide +kernel
theorem d_rm_sv2_35 : decode jdk_42_method_149_code 35 = .ok (.iload_n 3, 1) := by decide +kernel
theorem d_rm_sv2_36 : decode jdk_42_method_149_code 36 = .ok (.invokestatic 177, 3) := by decide +kernel
theorem d_rm_sv2_39 : decode jdk_42_method_149_code 39 = .ok (.astore 5, 2) := by decide +kernel
theorem d_rm_sv2_41 : decode jdk_42_method_149_code 41 = .ok (.aload_n 0, 1) := by decide +kernel
theorem d_rm_sv2_42 : decode jdk_42_method_149_code 42 = .ok (.aload 5, 2) := by decide +kernel
theorem d_rm_sv2_44 : decode jdk_42_method_149_code 44 = .ok (.iload_n 3, 1) := by decide +kernel
theorem d_rm_sv2_45 : decode jdk_42_method_149_code 45 = .ok (.invokestatic 47, 3) := by decide +kernel
theorem d_rm_sv2_48 : decode jdk_42_method_149_code 48 = .ok (.putfield 15, 3) := by decide +kernel
theorem d_rm_sv2_51 : decode jdk_42_method_149_code 51 = .ok (.aload_n 0, 1) := by decide +kernel
theorem d_rm_sv2_52 : decode jdk_42_method_149_code 52 = .ok (.aload 5, 2) := by decide +kernel
theorem d_rm_sv2_54 : decode jdk_42_method_149_code 54 = .ok (.putfield 9, 3) := by decide +kernel
theorem d_rm_sv2_57 : decode jdk_42_method_149_code 57 = .ok (.return_, 1) := by decide +kernel
set_option maxHeartbeats 4000000 in
theorem ef_rm_sv2 (m : MethodId) (x0 : Addr) (x1 : Addr) (x2 : Int32) (x3 : Int32)  : entryFrame m #[(.ref x0), (.ref x1), (.int x2), (.int x3), .null] 6 = mkF m 0 #[.val (.ref x0), .val (.ref x1), .val (.int x2), .val (.int x3), .val .null, .unset] [] := by first | (simp [entryFrame, mkF, argsToLocals, catR, catN, catI, catJ]; done) | rfl
set_option maxRecDepth 65536 in
set_option maxHeartbeats 40000000 in
theorem rm_sv2 (l : Launch) (Z : State) (a0 : Array Value) (hw : ∀ d ∈ tables_1, d.before a0 Z = true) (ws : List Jvm.Cond) (ax ca : Addr) (kc : ClassId) (cs : Int32) (c0 c1 : Int32) (h0 : Heap) (n0 : Nat) (Z0 : n0 ≤ h0.size) (O : Old Z n0 h0) (SC : Sta Z Z.heap "java/lang/String" "COMPACT_STRINGS" "Z" (.int cs)) (hcs : ¬ cs = 0) (o0 : n0 ≤ ax) (E0 : Exa Z h0 ax "java/lang/String") (F0_value : Fld Z h0 ax "java/lang/String" "value" "[B" .null) (F0_coder : Fld Z h0 ax "java/lang/String" "coder" "B" (.int (0 : Int32))) (Vc : Arv Z h0 ca kc .char (2 : Int32) [(.int c0), (.int c1)] (.int (0 : Int32))) (hc0 : ¬ (255 : Int32) < c0) (hc1 : ¬ (255 : Int32) < c1) :
    Pays l Z (⟨"java/lang/String", "<init>", "([CIILjava/lang/Void;)V"⟩ : MethodName) jdk_42_method_149_code 6 none ws ({ frames := 2, cells := 1, slots := 2, locals := 35 } : Room) #[(.ref ax), (.ref ca), (.int (0 : Int32)), (.int (2 : Int32)), .null] h0 (fun v h L => v = none ∧ Fr n0 L ∧ Keep h0 h [ax] ∧ Exa Z h ax "java/lang/String") := by
  refine Pays.of (plainFor_of_name (by first | (simp [plainName, overriddenIn]; done) | decide +kernel)) ?_
  intro p e s m below meth c s₁ hx hby hml hown hnm hret hlk hZ e0 X0
  have N0 := Fr.nil n0
  have K0 : Keep h0 h0 [ax] := Keep.refl _ _
  refine Goes.go (U' := (s₁.setTop (mkF m 0 #[sR_ ax, sR_ ca, sI_ (0 : Int32), sI_ (2 : Int32), .val .null, sU_] []))) (fun t kt => castTop (ef_rm_sv2 m ax ca (0 : Int32) (2 : Int32)) kt) ?_
  refine Goes.go (U' := (s₁.setTop (mkF m 1 #[sR_ ax, sR_ ca, sI_ (0 : Int32), sI_ (2 : Int32), .val .null, sU_] [(.ref ax)]))) (fun t kt => ?_) ?_
  · skip
    refine XS.aloadN X0.here hx rfl (hb hby d_rm_sv2_0) rfl rfl ?_
    exact kt
  obtain ⟨T_1, X_1, e_1, st_1⟩ := initO X0 hx hZ hown (wdOf hw 15 rfl) (wdOf hw 16 rfl) (wdOf hw 17 rfl) e0 (g := (mkF m 1 #[sR_ ax, sR_ ca, sI_ (0 : Int32), sI_ (2 : Int32), .val .null, sU_] [(.ref ax)])) rfl (by rw [hml]; rfl) rfl (hb hby d_rm_sv2_1) (by decide) (W := 0) (Nat.le_refl _) (by decide)
  refine Goes.go (U' := (T_1.setTop (mkF m 4 #[sR_ ax, sR_ ca, sI_ (0 : Int32), sI_ (2 : Int32), .val .null, sU_] []))) st_1 ?_
  refine Goes.go (U' := (T_1.setTop (mkF m 27 #[sR_ ax, sR_ ca, sI_ (0 : Int32), sI_ (2 : Int32), .val .null, sU_] []))) (fun t kt => ?_) ?_
  · skip
    refine XS.iloadN X_1.here hx rfl (hb hby d_rm_sv2_4) rfl ?_
    refine XS.ifYes X_1.here hx rfl (pc0 := 5) (pc' := 27) rfl (hb hby d_rm_sv2_5) rfl (XT.i0_ne_t (by decide)) (by decide) (by decide) ?_
    exact kt
  obtain ⟨T_2, X_2, e_2, st_2⟩ := getS X_1 hx hZ hown (host := "") (wdOf hw 105 rfl) Via.refl e_1 (SC.ext O.2) (g := (mkF m 27 #[sR_ ax, sR_ ca, sI_ (0 : Int32), sI_ (2 : Int32), .val .null, sU_] [])) rfl (hb hby d_rm_sv2_27)
  refine Goes.go (U' := (T_2.setTop (mkF m 30 #[sR_ ax, sR_ ca, sI_ (0 : Int32), sI_ (2 : Int32), .val .null, sU_] [(.int cs)]))) st_2 ?_
  refine Goes.go (U' := (T_2.setTop (mkF m 36 #[sR_ ax, sR_ ca, sI_ (0 : Int32), sI_ (2 : Int32), .val .null, sU_] [(.int (2 : Int32)), (.int (0 : Int32)), (.ref ca)]))) (fun t kt => ?_) ?_
  · skip
    refine XS.ifNo X_2.here hx rfl (hb hby d_rm_sv2_30) rfl (XT.i0_eq_f hcs) ?_
    refine XS.aloadN X_2.here hx rfl (hb hby d_rm_sv2_33) rfl rfl ?_
    refine XS.iloadN X_2.here hx rfl (hb hby d_rm_sv2_34) rfl ?_
    refine XS.iloadN X_2.here hx rfl (hb hby d_rm_sv2_35) rfl ?_
    exact kt
  obtain ⟨v_3, T_3, L_3, X_3, q_3, st_3⟩ := callStatic X_2 hx hZ (y := (⟨"java/lang/StringUTF16", "compress", "([CII)[B"⟩ : MethodName)) (W := 0) hown (wdOf hw 106 rfl) (wdOf hw 107 rfl) (wdOf hw 108 rfl) (wdOf hw 109 rfl) (by decide) (rm_cm2 l Z a0 hw [] ca kc c0 c1 h0 n0 Z0 Vc hc0 hc1) (by decide) (by decide) (by decide) (by decide) e_2 (g := (mkF m 36 #[sR_ ax, sR_ ca, sI_ (0 : Int32), sI_ (2 : Int32), .val .null, sU_] [(.int (2 : Int32)), (.int (0 : Int32)), (.ref ca)])) rfl (by rw [hml]; rfl) (argsL := [(.ref ca), (.int (0 : Int32)), (.int (2 : Int32))]) (rest := []) (lenOf pd_5 rfl) rfl rfl (Nat.le_refl _) (hb hby d_rm_sv2_36)
  obtain ⟨r_3, kb_3, rfl, n_3, K_3, Vq_3⟩ := q_3
  have N_3 := Fr.app N0 n_3
  have f_4 : Exa Z T_3.heap ax "java/lang/String" := E0.ext K_3
  have f_5 : Fld Z T_3.heap ax "java/lang/String" "value" "[B" .null := F0_value.ext K_3
  have f_6 : Fld Z T_3.heap ax "java/lang/String" "coder" "B" (.int (0 : Int32)) := F0_coder.ext K_3
  have f_7 : Arv Z T_3.heap ca kc .char (2 : Int32) [(.int c0), (.int c1)] (.int (0 : Int32)) := Vc.ext K_3
  have f_8 : Sta Z T_3.heap "java/lang/String" "COMPACT_STRINGS" "Z" (.int cs) := (SC.ext O.2).ext K_3
  have K_9 : Keep h0 T_3.heap [ax] := K0.ext K_3
  have y_9 : n0 ≤ T_3.heap.size := Nat.le_trans Z0 K_9.1
  refine Goes.go (U' := (T_3.setTop (mkF m 39 #[sR_ ax, sR_ ca, sI_ (0 : Int32), sI_ (2 : Int32), .val .null, sU_] [(.ref r_3)]))) st_3 ?_
  have nrs : r_3 ≠ ax := (f_4.neArv Vq_3 (wdOf hw 5 rfl)).symm
  have ncs : ca ≠ ax := (f_4.neArv f_7 (wdOf hw 5 rfl)).symm
  refine Goes.go (U' := (T_3.setTop (mkF m 45 #[sR_ ax, sR_ ca, sI_ (0 : Int32), sI_ (2 : Int32), .val .null, sR_ r_3] [(.int (2 : Int32)), (.ref r_3), (.ref ax)]))) (fun t kt => ?_) ?_
  · skip
    refine XS.astore X_3.here hx rfl (hb hby d_rm_sv2_39) rfl rfl (l' := #[sR_ ax, sR_ ca, sI_ (0 : Int32), sI_ (2 : Int32), .val .null, sR_ r_3]) rfl ?_
    refine XS.aloadN X_3.here hx rfl (hb hby d_rm_sv2_41) rfl rfl ?_
    refine XS.aload X_3.here hx rfl (hb hby d_rm_sv2_42) rfl rfl ?_
    refine XS.iloadN X_3.here hx rfl (hb hby d_rm_sv2_44) rfl ?_
    exact kt
  obtain ⟨v_10, T_10, L_10, X_10, q_10, st_10⟩ := callStatic X_3 hx hZ (y := (⟨"java/lang/StringUTF16", "coderFromArrayLen", "([BI)B"⟩ : MethodName)) (W := 1) hown (wdOf hw 113 rfl) (wdOf hw 114 rfl) (wdOf hw 108 rfl) (wdOf hw 115 rfl) (by decide) (rm_cfa2 l Z a0 hw [] r_3 kb_3 c0 c1 T_3.heap n0 y_9 Vq_3) (by decide) (by decide) (by decide) (by decide) (rfl : T_3.heap = T_3.heap) (g := (mkF m 45 #[sR_ ax, sR_ ca, sI_ (0 : Int32), sI_ (2 : Int32), .val .null, sR_ r_3] [(.int (2 : Int32)), (.ref r_3), (.ref ax)])) rfl (by rw [hml]; rfl) (argsL := [(.ref r_3), (.int (2 : Int32))]) (rest := [(.ref ax)]) (lenOf pd_6 rfl) rfl rfl (Nat.le_refl _) (hb hby d_rm_sv2_45)
  obtain ⟨rfl, n_10, K_10⟩ := q_10
  have N_10 := Fr.app N_3 n_10
  refine Goes.go (U' := (T_10.setTop (mkF m 48 #[sR_ ax, sR_ ca, sI_ (0 : Int32), sI_ (2 : Int32), .val .null, sR_ r_3] [(.int (0 : Int32)), (.ref ax)]))) st_10 ?_
  obtain ⟨T_11, h_11, X_11, e_11, W_11, st_11⟩ := putFN X_10 hx hZ hown (wdOf hw 25 rfl) Via.refl K_10 f_6 f_4 (Or.inr ⟨wdOf hw 21 rfl, rfl, hnm⟩) (wdOf hw 5 rfl) (ty := .byte) (v' := (.int (0 : Int32))) (by decide) rfl rfl (g := (mkF m 48 #[sR_ ax, sR_ ca, sI_ (0 : Int32), sI_ (2 : Int32), .val .null, sR_ r_3] [(.int (0 : Int32)), (.ref ax)])) rfl rfl (hb hby d_rm_sv2_48)
  have N_11 := Fr.snoc X_11 N_10 o0
  have f_12 : Exa Z h_11 ax "java/lang/String" := f_4.wr W_11
  have f_13 : Fld Z h_11 ax "java/lang/String" "value" "[B" .null := f_5.other W_11 (Or.inr (slot_ne (Or.inr (wdOf hw 20 rfl)) (Or.inr (wdOf hw 21 rfl)) (by decide) (t := (.array .byte)) (t' := .byte) (by decide) (by decide)))
  have f_14 : Fld Z h_11 ax "java/lang/String" "coder" "B" (.int (0 : Int32)) := f_6.same W_11
  have f_15 : Arv Z h_11 ca kc .char (2 : Int32) [(.int c0), (.int c1)] (.int (0 : Int32)) := f_7.other W_11 ncs
  have f_16 : Sta Z h_11 "java/lang/String" "COMPACT_STRINGS" "Z" (.int cs) := f_8.wr W_11
  have f_17 : Arv Z h_11 r_3 kb_3 .byte (2 : Int32) [(.int (c0.toInt8.toInt32).toInt8.toInt32), (.int (c1.toInt8.toInt32).toInt8.toInt32)] (.int (0 : Int32)) := Vq_3.other W_11 nrs
  have K_18 : Keep h0 h_11 [ax] := K_9.wr W_11 (Or.inl (List.mem_of_getElem? (i := 0) rfl))
  have y_18 : n0 ≤ h_11.size := Nat.le_trans Z0 K_18.1
  refine Goes.go (U' := (T_11.setTop (mkF m 51 #[sR_ ax, sR_ ca, sI_ (0 : Int32), sI_ (2 : Int32), .val .null, sR_ r_3] []))) st_11 ?_
  refine Goes.go (U' := (T_11.setTop (mkF m 54 #[sR_ ax, sR_ ca, sI_ (0 : Int32), sI_ (2 : Int32), .val .null, sR_ r_3] [(.ref r_3), (.ref ax)]))) (fun t kt => ?_) ?_
  · skip
    refine XS.aloadN X_11.here hx rfl (hb hby d_rm_sv2_51) rfl rfl ?_
    refine XS.aload X_11.here hx rfl (hb hby d_rm_sv2_52) rfl rfl ?_
    exact kt
  obtain ⟨T_19, h_19, X_19, e_19, W_19, st_19⟩ := putF X_11 hx hZ hown (host := "") (Or.inl (wdOf hw 24 rfl)) Via.refl e_11 f_13 f_12 (Or.inr ⟨wdOf hw 20 rfl, rfl, hnm⟩) (wdOf hw 5 rfl) (ty := (.array .byte)) (by decide) rfl rfl (g := (mkF m 54 #[sR_ ax, sR_ ca, sI_ (0 : Int32), sI_ (2 : Int32), .val .null, sR_ r_3] [(.ref r_3), (.ref ax)])) rfl rfl (hb hby d_rm_sv2_54)
  have N_19 := Fr.snoc X_19 N_11 o0
  have f_20 : Exa Z h_19 ax "java/lang/String" := f_12.wr W_19
  have f_21 : Fld Z h_19 ax "java/lang/String" "value" "[B" (.ref r_3) := f_13.same W_19
  have f_22 : Fld Z h_19 ax "java/lang/String" "coder" "B" (.int (0 : Int32)) := f_14.other W_19 (Or.inr (slot_ne (Or.inr (wdOf hw 21 rfl)) (Or.inr (wdOf hw 20 rfl)) (by decide) (t := .byte) (t' := (.array .byte)) (by decide) (by decide)))
  have f_23 : Arv Z h_19 ca kc .char (2 : Int32) [(.int c0), (.int c1)] (.int (0 : Int32)) := f_15.other W_19 ncs
  have f_24 : Sta Z h_19 "java/lang/String" "COMPACT_STRINGS" "Z" (.int cs) := f_16.wr W_19
  have f_25 : Arv Z h_19 r_3 kb_3 .byte (2 : Int32) [(.int (c0.toInt8.toInt32).toInt8.toInt32), (.int (c1.toInt8.toInt32).toInt8.toInt32)] (.int (0 : Int32)) := f_17.other W_19 nrs
  have K_26 : Keep h0 h_19 [ax] := K_18.wr W_19 (Or.inl (List.mem_of_getElem? (i := 0) rfl))
  have y_26 : n0 ≤ h_19.size := Nat.le_trans Z0 K_26.1
  refine Goes.go (U' := (T_19.setTop (mkF m 57 #[sR_ ax, sR_ ca, sI_ (0 : Int32), sI_ (2 : Int32), .val .null, sR_ r_3] []))) st_19 ?_
  refine Goes.retV X_19 hx hlk hret (hb hby d_rm_sv2_57) (by decide) (by decide) ?_
  try rw [e_19]
  exact ⟨rfl, N_19, K_26, f_20⟩
theorem d_rm_sc2_0 : decode jdk_42_method_3_code 0 = .ok (.aload_n 0, 1) := by decide +kernel
theorem d_rm_sc2_1 : decode jdk_42_method_3_code 1 = .ok (.aload_n 1, 1) := by decide +kernel
theorem d_rm_sc2_2 : decode jdk_42_method_3_code 2 = .ok (.iconst 0, 1) := by decide +kernel
theorem d_rm_sc2_3 : decode jdk_42_method_3_code 3 = .ok (.aload_n 1, 1) := by decide +kernel
theorem d_rm_sc2_4 : decode jdk_42_method_3_code 4 = .ok (.arraylength, 1) := by decide +kernel
theorem d_rm_sc2_5 : decode jdk_42_method_3_code 5 = .ok (.aconst_null, 1) := by decide +kernel
theorem d_rm_sc2_6 : decode jdk_42_method_3_code 6 = .ok (.invokespecial 27, 3) := by decide +kernel
theorem d_rm_sc2_9 : decode jdk_42_method_3_code 9 = .ok (.return_, 1) := by decide +kernel
set_option maxHeartbeats 4000000 in
theorem ef_rm_sc2 (m : MethodId) (x0 : Addr) (x1 : Addr)  : entryFrame m #[(.ref x0), (.ref x1)] 2 = mkF m 0 #[.val (.ref x0), .val (.ref x1)] [] := by first | (simp [entryFrame, mkF, argsToLocals, catR, catN, catI, catJ]; done) | rfl
set_option maxRecDepth 65536 in
set_option maxHeartbeats 40000000 in
theorem rm_sc2 (l : Launch) (Z : State) (a0 : Array Value) (hw : ∀ d ∈ tables_1, d.before a0 Z = true) (ws : List Jvm.Cond) (ax ca : Addr) (kc : ClassId) (cs : Int32) (c0 c1 : Int32) (h0 : Heap) (n0 : Nat) (Z0 : n0 ≤ h0.size) (O : Old Z n0 h0) (SC : Sta Z Z.heap "java/lang/String" "COMPACT_STRINGS" "Z" (.int cs)) (hcs : ¬ cs = 0) (o0 : n0 ≤ ax) (E0 : Exa Z h0 ax "java/lang/String") (F0_value : Fld Z h0 ax "java/lang/String" "value" "[B" .null) (F0_coder : Fld Z h0 ax "java/lang/String" "coder" "B" (.int (0 : Int32))) (Vc : Arv Z h0 ca kc .char (2 : Int32) [(.int c0), (.int c1)] (.int (0 : Int32))) (hc0 : ¬ (255 : Int32) < c0) (hc1 : ¬ (255 : Int32) < c1) :
    Pays l Z (⟨"java/lang/String", "<init>", "([C)V"⟩ : MethodName) jdk_42_method_3_code 2 none ws ({ frames := 3, cells := 1, slots := 2, locals := 52 } : Room) #[(.ref ax), (.ref ca)] h0 (fun v h L => v = none ∧ Fr n0 L ∧ Keep h0 h [ax] ∧ Exa Z h ax "java/lang/String") := by
  refine Pays.of (plainFor_of_name (by first | (simp [plainName, overriddenIn]; done) | decide +kernel)) ?_
  intro p e s m below meth c s₁ hx hby hml hown hnm hret hlk hZ e0 X0
  have N0 := Fr.nil n0
  have K0 : Keep h0 h0 [ax] := Keep.refl _ _
  refine Goes.go (U' := (s₁.setTop (mkF m 0 #[sR_ ax, sR_ ca] []))) (fun t kt => castTop (ef_rm_sc2 m ax ca) kt) ?_
  refine Goes.go (U' := (s₁.setTop (mkF m 4 #[sR_ ax, sR_ ca] [(.ref ca), (.int (0 : Int32)), (.ref ca), (.ref ax)]))) (fun t kt => ?_) ?_
  · skip
    refine XS.aloadN X0.here hx rfl (hb hby d_rm_sc2_0) rfl rfl ?_
    refine XS.aloadN X0.here hx rfl (hb hby d_rm_sc2_1) rfl rfl ?_
    refine XS.iconst X0.here hx rfl (hb hby d_rm_sc2_2) ?_
    refine XS.aloadN X0.here hx rfl (hb hby d_rm_sc2_3) rfl rfl ?_
    exact kt
  obtain ⟨cl_1, Ar_1, q_1, S_1, M_1, H_1, G_1⟩ := id Vc
  refine Goes.go (U' := (s₁.setTop (mkF m 5 #[sR_ ax, sR_ ca] [(.int (2 : Int32)), (.int (0 : Int32)), (.ref ca), (.ref ax)]))) (fun t kt => ?_) ?_
  · skip
    refine X0.arraylength hx (by rw [e0]; exact Ar_1.1) (State.isArrayOf_alike hZ.alike Ar_1.2.1) (g := (mkF m 4 #[sR_ ax, sR_ ca] [(.ref ca), (.int (0 : Int32)), (.ref ca), (.ref ax)])) rfl rfl (hb hby d_rm_sc2_4) _ ?_
    rw [len_of S_1 M_1]
    exact kt
  refine Goes.go (U' := (s₁.setTop (mkF m 6 #[sR_ ax, sR_ ca] [.null, (.int (2 : Int32)), (.int (0 : Int32)), (.ref ca), (.ref ax)]))) (fun t kt => ?_) ?_
  · skip
    refine XS.aconstNull X0.here hx rfl (hb hby d_rm_sc2_5) ?_
    exact kt
  obtain ⟨v_2, T_2, L_2, X_2, q_2, st_2⟩ := callInit X0 hx hZ (y := (⟨"java/lang/String", "<init>", "([CIILjava/lang/Void;)V"⟩ : MethodName)) (W := 0) rfl hown (wdOf hw 11 rfl) (wdOf hw 12 rfl) (wdOf hw 6 rfl) (wdOf hw 14 rfl) (by decide) (rm_sv2 l Z a0 hw [] ax ca kc cs c0 c1 h0 n0 Z0 O SC hcs o0 E0 F0_value F0_coder Vc hc0 hc1) (by decide) (by decide) (by decide) (by decide) e0 (b := ax) (g := (mkF m 6 #[sR_ ax, sR_ ca] [.null, (.int (2 : Int32)), (.int (0 : Int32)), (.ref ca), (.ref ax)])) rfl (by rw [hml]; rfl) (argsL := [(.ref ca), (.int (0 : Int32)), (.int (2 : Int32)), .null]) (rest := []) (lenOf pd_7 rfl) rfl rfl (Nat.le_refl _) (hb hby d_rm_sc2_6)
  obtain ⟨rfl, n_2, K_2, Eq_2⟩ := q_2
  have N_2 := Fr.app N0 n_2
  have f_3 : Exa Z T_2.heap ax "java/lang/String" := E0.keep K_2
  have K_6 : Keep h0 T_2.heap [ax] := K0.trans K_2 (allS (P := fun x => x ∈ [ax] ∨ h0.size ≤ x) (Or.inl (List.mem_of_getElem? (i := 0) rfl)) all0)
  have y_6 : n0 ≤ T_2.heap.size := Nat.le_trans Z0 K_6.1
  refine Goes.go (U' := (T_2.setTop (mkF m 9 #[sR_ ax, sR_ ca] []))) st_2 ?_
  refine Goes.retV X_2 hx hlk hret (hb hby d_rm_sc2_9) (by decide) (by decide) ?_
  try rw [(rfl : T_2.heap = T_2.heap)]
  exact ⟨rfl, N_2, K_6, f_3⟩
theorem own_sa {Z : State} {a0 : Array Value} (hw : ∀ d ∈ tables_1, d.before a0 Z = true) : ∀ d ∈ Bundle.stringAtoms, d.before a0 Z = true := fun d hd => by
  simp only [Bundle.stringAtoms, Bundle.sN, List.mem_cons, List.not_mem_nil, or_false] at hd
  rcases hd with rfl | rfl | rfl | rfl | rfl | rfl | rfl
  · exact (wdOf hw 6 rfl)
  · exact (wdOf hw 5 rfl)
  · exact (wdOf hw 19 rfl)
  · exact (wdOf hw 20 rfl)
  · exact (wdOf hw 21 rfl)
  · exact (wdOf hw 22 rfl)
  · exact (wdOf hw 23 rfl)
theorem d_rm_sv0_0 : decode jdk_42_method_149_code 0 = .ok (.aload_n 0, 1) := by decide +kernel
theorem d_rm_sv0_1 : decode jdk_42_method_149_code 1 = .ok (.invokespecial 1, 3) := by decide +kernel
theorem d_rm_sv0_4 : decode jdk_42_method_149_code 4 = .ok (.iload_n 3, 1) := by decide +kernel
theorem d_rm_sv0_5 : decode jdk_42_method_149_code 5 = .ok (.ifCond .ne 22, 3) := by decide +kernel
theorem d_rm_sv0_8 : decode jdk_42_method_149_code 8 = .ok (.aload_n 0, 1) := by decide +kernel
theorem d_rm_sv0_9 : decode jdk_42_method_149_code 9 = .ok (.ldc 7, 2) := by decide +kernel
theorem d_rm_sv0_11 : decode jdk_42_method_149_code 11 = .ok (.getfield 9, 3) := by decide +kernel
theorem d_rm_sv0_14 : decode jdk_42_method_149_code 14 = .ok (.putfield 9, 3) := by decide +kernel
theorem d_rm_sv0_17 : decode jdk_42_method_149_code 17 = .ok (.aload_n 0, 1) := by decide +kernel
theorem d_rm_sv0_18 : decode jdk_42_method_149_code 18 = .ok (.ldc 7, 2) := by decide +kernel
theorem d_rm_sv0_20 : decode jdk_42_method_149_code 20 = .ok (.getfield 15, 3) := by decide +kernel
theorem d_rm_sv0_23 : decode jdk_42_method_149_code 23 = .ok (.putfield 15, 3) := by decide +kernel
theorem d_rm_sv0_26 : decode jdk_42_method_149_code 26 = .ok (.return_, 1) := by decide +kernel
set_option maxHeartbeats 4000000 in
theorem ef_rm_sv0 (m : MethodId) (x0 : Addr) (x1 : Addr) (x2 : Int32) (x3 : Int32)  : entryFrame m #[(.ref x0), (.ref x1), (.int x2), (.int x3), .null] 6 = mkF m 0 #[.val (.ref x0), .val (.ref x1), .val (.int x2), .val (.int x3), .val .null, .unset] [] := by first | (simp [entryFrame, mkF, argsToLocals, catR, catN, catI, catJ]; done) | rfl
set_option maxRecDepth 65536 in
set_option maxHeartbeats 40000000 in
theorem rm_sv0 (l : Launch) (Z : State) (a0 : Array Value) (hw : ∀ d ∈ tables_1, d.before a0 Z = true) (ws : List Jvm.Cond) (ax ca : Addr) (h0 : Heap) (n0 : Nat) (Z0 : n0 ≤ h0.size) (O : Old Z n0 h0) (o0 : n0 ≤ ax) (hh : Jvm.Lit.constHeld Z "java/lang/String" 7) (hcw : Jvm.Lit.compactW.before a0 Z = true) (E0 : Exa Z h0 ax "java/lang/String") (F0_value : Fld Z h0 ax "java/lang/String" "value" "[B" .null) (F0_coder : Fld Z h0 ax "java/lang/String" "coder" "B" (.int (0 : Int32))) :
    PaysW l Z (⟨"java/lang/String", "<init>", "([CIILjava/lang/Void;)V"⟩ : MethodName) jdk_42_method_149_code 6 none ws ({ frames := 1, cells := 2, slots := 4, locals := 12 } : Room) #[(.ref ax), (.ref ca), (.int (0 : Int32)), (.int (0 : Int32)), .null] h0 (LIv Z) (fun v V L => v = none ∧ Fr n0 L ∧ Keep h0 V.heap [ax] ∧ LIv Z V.vm V.heap ∧ Exa Z V.heap ax "java/lang/String") := by
  refine PaysW.of (plainFor_of_name (by first | (simp [plainName, overriddenIn]; done) | decide +kernel)) ?_
  intro p e s m below meth c s₁ hx hby hml hown hnm hret hlk hZ e0 hsh hLI hS X0
  have hk0 : 0 ≤ h0.size := Nat.zero_le _
  replace hLI : LIv Z s.vm h0 := hLI
  have N0 := Fr.nil n0
  have K0 : Keep h0 h0 [ax] := Keep.refl _ _
  refine GoesW.go (U' := (s₁.setTop (mkF m 0 #[sR_ ax, sR_ ca, sI_ (0 : Int32), sI_ (0 : Int32), .val .null, sU_] []))) (fun t kt => castTop (ef_rm_sv0 m ax ca (0 : Int32) (0 : Int32)) kt) ?_
  refine GoesW.go (U' := (s₁.setTop (mkF m 1 #[sR_ ax, sR_ ca, sI_ (0 : Int32), sI_ (0 : Int32), .val .null, sU_] [(.ref ax)]))) (fun t kt => ?_) ?_
  · skip
    refine XS.aloadN X0.here hx rfl (hb hby d_rm_sv0_0) rfl rfl ?_
    exact kt
  obtain ⟨T_1, X_1, e_1, st_1⟩ := initO X0 hx hZ hown (wdOf hw 15 rfl) (wdOf hw 16 rfl) (wdOf hw 17 rfl) e0 (g := (mkF m 1 #[sR_ ax, sR_ ca, sI_ (0 : Int32), sI_ (0 : Int32), .val .null, sU_] [(.ref ax)])) rfl (by rw [hml]; rfl) rfl (hb hby d_rm_sv0_1) (by decide) (W := 0) (Nat.le_refl _) (by decide)
  refine GoesW.go (U' := (T_1.setTop (mkF m 4 #[sR_ ax, sR_ ca, sI_ (0 : Int32), sI_ (0 : Int32), .val .null, sU_] []))) st_1 ?_
  refine GoesW.go (U' := (T_1.setTop (mkF m 9 #[sR_ ax, sR_ ca, sI_ (0 : Int32), sI_ (0 : Int32), .val .null, sU_] [(.ref ax)]))) (fun t kt => ?_) ?_
  · skip
    refine XS.iloadN X_1.here hx rfl (hb hby d_rm_sv0_4) rfl ?_
    refine XS.ifNo X_1.here hx rfl (hb hby d_rm_sv0_5) rfl (XT.i0_ne_f (by decide)) ?_
    refine XS.aloadN X_1.here hx rfl (hb hby d_rm_sv0_8) rfl rfl ?_
    exact kt
  rcases hLI with IB0 | ⟨la, lb, LL, Ela, Fla, Gla⟩
  · -- not loaded yet
    obtain ⟨la, T1, h1, k1, lb, kl, X1, e1, E1, hS1, hk1, hZ, hown, Ela, Gla, Fla, Vla, -, -, IB1, LL, st1⟩ := ldcSVL X_1 hx hZ hown (wdOf hw 18 rfl) (own_sa hw) e_1 hS hk0 (Fr.nil _) (fun b cl q => by rw [hsh]; exact O.2.2 b cl q) IB0 (by simp) hh hcw (vs := []) (z := (0 : Int32)) (by decide) (by decide) rfl (g := (mkF m 9 #[sR_ ax, sR_ ca, sI_ (0 : Int32), sI_ (0 : Int32), .val .null, sU_] [(.ref ax)])) rfl (hb hby d_rm_sv0_9) (n := 0) (by decide) (by decide) (by decide) (by decide)
    have f_2 : Exa Z h1 ax "java/lang/String" := E0.ext E1
    have f_3 : Fld Z h1 ax "java/lang/String" "value" "[B" .null := F0_value.ext E1
    have f_4 : Fld Z h1 ax "java/lang/String" "coder" "B" (.int (0 : Int32)) := F0_coder.ext E1
    have K_5 : Keep h0 h1 [ax] := K0.ext E1
    have y_5 : n0 ≤ h1.size := Nat.le_trans Z0 K_5.1
    have hk_5 := Nat.le_trans hk0 E1.1
    refine GoesW.go (U' := (T1.setTop (mkF m 11 #[sR_ ax, sR_ ca, sI_ (0 : Int32), sI_ (0 : Int32), .val .null, sU_] [(.ref la), (.ref ax)]))) st1 ?_
    have nla : la ≠ ax := Fld.ne Fla f_3 (by simp)
    obtain ⟨T_6, X_6, e_6, st_6⟩ := getF X1 hx hZ hown (host := "") (Or.inl (wdOf hw 24 rfl)) Via.refl e1 Fla (g := (mkF m 11 #[sR_ ax, sR_ ca, sI_ (0 : Int32), sI_ (0 : Int32), .val .null, sU_] [(.ref la), (.ref ax)])) rfl rfl (hb hby d_rm_sv0_11)
    refine GoesW.go (U' := (T_6.setTop (mkF m 14 #[sR_ ax, sR_ ca, sI_ (0 : Int32), sI_ (0 : Int32), .val .null, sU_] [(.ref lb), (.ref ax)]))) st_6 ?_
    obtain ⟨T_7, h_7, X_7, e_7, W_7, st_7⟩ := putF X_6 hx hZ hown (host := "") (Or.inl (wdOf hw 24 rfl)) Via.refl e_6 f_3 f_2 (Or.inr ⟨wdOf hw 20 rfl, rfl, hnm⟩) (wdOf hw 5 rfl) (ty := (.array .byte)) (by decide) rfl rfl (g := (mkF m 14 #[sR_ ax, sR_ ca, sI_ (0 : Int32), sI_ (0 : Int32), .val .null, sU_] [(.ref lb), (.ref ax)])) rfl rfl (hb hby d_rm_sv0_14)
    have N_7 := Fr.snoc X_7 N0 o0
    have f_8 : Exa Z h_7 ax "java/lang/String" := f_2.wr W_7
    have f_9 : Fld Z h_7 ax "java/lang/String" "value" "[B" (.ref lb) := f_3.same W_7
    have f_10 : Fld Z h_7 ax "java/lang/String" "coder" "B" (.int (0 : Int32)) := f_4.other W_7 (Or.inr (slot_ne (Or.inr (wdOf hw 21 rfl)) (Or.inr (wdOf hw 20 rfl)) (by decide) (t := .byte) (t' := (.array .byte)) (by decide) (by decide)))
    have f_11 : Exa Z h_7 la "java/lang/String" := Ela.wr W_7
    have f_12 : Fld Z h_7 la "java/lang/String" "value" "[B" (.ref lb) := Fla.other W_7 (Or.inl nla)
    have f_13 : Fld Z h_7 la "java/lang/String" "coder" "B" (.int (0 : Int32)) := Gla.other W_7 (Or.inl nla)
    have K_14 : Keep h0 h_7 [ax] := K_5.wr W_7 (Or.inl (List.mem_of_getElem? (i := 0) rfl))
    have y_14 : n0 ≤ h_7.size := Nat.le_trans Z0 K_14.1
    have hk_14 := Nat.le_trans hk1 (Nat.le_of_eq W_7.size.symm)
    refine GoesW.go (U' := (T_7.setTop (mkF m 17 #[sR_ ax, sR_ ca, sI_ (0 : Int32), sI_ (0 : Int32), .val .null, sU_] []))) st_7 ?_
    refine GoesW.go (U' := (T_7.setTop (mkF m 18 #[sR_ ax, sR_ ca, sI_ (0 : Int32), sI_ (0 : Int32), .val .null, sU_] [(.ref ax)]))) (fun t kt => ?_) ?_
    · skip
      refine XS.aloadN X_7.here hx rfl (hb hby d_rm_sv0_17) rfl rfl ?_
      exact kt
    have st2 := ldcAgain X_7 hx hZ hown (wdOf hw 18 rfl) LL (g := (mkF m 18 #[sR_ ax, sR_ ca, sI_ (0 : Int32), sI_ (0 : Int32), .val .null, sU_] [(.ref ax)])) rfl (hb hby d_rm_sv0_18)
    refine GoesW.go (U' := (T_7.setTop (mkF m 20 #[sR_ ax, sR_ ca, sI_ (0 : Int32), sI_ (0 : Int32), .val .null, sU_] [(.ref la), (.ref ax)]))) st2 ?_
    obtain ⟨T_15, X_15, e_15, st_15⟩ := getF X_7 hx hZ hown (host := "") (Or.inl (wdOf hw 25 rfl)) Via.refl e_7 f_13 (g := (mkF m 20 #[sR_ ax, sR_ ca, sI_ (0 : Int32), sI_ (0 : Int32), .val .null, sU_] [(.ref la), (.ref ax)])) rfl rfl (hb hby d_rm_sv0_20)
    refine GoesW.go (U' := (T_15.setTop (mkF m 23 #[sR_ ax, sR_ ca, sI_ (0 : Int32), sI_ (0 : Int32), .val .null, sU_] [(.int (0 : Int32)), (.ref ax)]))) st_15 ?_
    obtain ⟨T_16, h_16, X_16, e_16, W_16, st_16⟩ := putFN X_15 hx hZ hown (wdOf hw 25 rfl) Via.refl e_15 f_10 f_8 (Or.inr ⟨wdOf hw 21 rfl, rfl, hnm⟩) (wdOf hw 5 rfl) (ty := .byte) (v' := (.int (0 : Int32))) (by decide) rfl rfl (g := (mkF m 23 #[sR_ ax, sR_ ca, sI_ (0 : Int32), sI_ (0 : Int32), .val .null, sU_] [(.int (0 : Int32)), (.ref ax)])) rfl rfl (hb hby d_rm_sv0_23)
    have N_16 := Fr.snoc X_16 N_7 o0
    have f_17 : Exa Z h_16 ax "java/lang/String" := f_8.wr W_16
    have f_18 : Fld Z h_16 ax "java/lang/String" "value" "[B" (.ref lb) := f_9.other W_16 (Or.inr (slot_ne (Or.inr (wdOf hw 20 rfl)) (Or.inr (wdOf hw 21 rfl)) (by decide) (t := (.array .byte)) (t' := .byte) (by decide) (by decide)))
    have f_19 : Fld Z h_16 ax "java/lang/String" "coder" "B" (.int (0 : Int32)) := f_10.same W_16
    have f_20 : Exa Z h_16 la "java/lang/String" := f_11.wr W_16
    have f_21 : Fld Z h_16 la "java/lang/String" "value" "[B" (.ref lb) := f_12.other W_16 (Or.inl nla)
    have f_22 : Fld Z h_16 la "java/lang/String" "coder" "B" (.int (0 : Int32)) := f_13.other W_16 (Or.inl nla)
    have K_23 : Keep h0 h_16 [ax] := K_14.wr W_16 (Or.inl (List.mem_of_getElem? (i := 0) rfl))
    have y_23 : n0 ≤ h_16.size := Nat.le_trans Z0 K_23.1
    have hk_23 := Nat.le_trans hk_14 (Nat.le_of_eq W_16.size.symm)
    refine GoesW.go (U' := (T_16.setTop (mkF m 26 #[sR_ ax, sR_ ca, sI_ (0 : Int32), sI_ (0 : Int32), .val .null, sU_] []))) st_16 ?_
    refine GoesW.retV X_16 hx hS1 (by rw [e_16]; exact hk_23) hlk hret (hb hby d_rm_sv0_26) (by decide) (by decide) ?_
    intro V vh vv
    try rw [vv]
    try rw [vh]
    try rw [e_16]
    exact ⟨rfl, N_16, K_23, LIv.warm (show LIv Z T1.vm h_16 from Or.inr ⟨_, _, LL, f_20, f_21, f_22⟩) X_16.warmed, f_17⟩
  · -- loaded
    have st1 := ldcAgain X_1 hx hZ hown (wdOf hw 18 rfl) LL (g := (mkF m 9 #[sR_ ax, sR_ ca, sI_ (0 : Int32), sI_ (0 : Int32), .val .null, sU_] [(.ref ax)])) rfl (hb hby d_rm_sv0_9)
    refine GoesW.go (U' := (T_1.setTop (mkF m 11 #[sR_ ax, sR_ ca, sI_ (0 : Int32), sI_ (0 : Int32), .val .null, sU_] [(.ref la), (.ref ax)]))) st1 ?_
    have nla : la ≠ ax := Fld.ne Fla F0_value (by simp)
    obtain ⟨T_24, X_24, e_24, st_24⟩ := getF X_1 hx hZ hown (host := "") (Or.inl (wdOf hw 24 rfl)) Via.refl e_1 Fla (g := (mkF m 11 #[sR_ ax, sR_ ca, sI_ (0 : Int32), sI_ (0 : Int32), .val .null, sU_] [(.ref la), (.ref ax)])) rfl rfl (hb hby d_rm_sv0_11)
    refine GoesW.go (U' := (T_24.setTop (mkF m 14 #[sR_ ax, sR_ ca, sI_ (0 : Int32), sI_ (0 : Int32), .val .null, sU_] [(.ref lb), (.ref ax)]))) st_24 ?_
    obtain ⟨T_25, h_25, X_25, e_25, W_25, st_25⟩ := putF X_24 hx hZ hown (host := "") (Or.inl (wdOf hw 24 rfl)) Via.refl e_24 F0_value E0 (Or.inr ⟨wdOf hw 20 rfl, rfl, hnm⟩) (wdOf hw 5 rfl) (ty := (.array .byte)) (by decide) rfl rfl (g := (mkF m 14 #[sR_ ax, sR_ ca, sI_ (0 : Int32), sI_ (0 : Int32), .val .null, sU_] [(.ref lb), (.ref ax)])) rfl rfl (hb hby d_rm_sv0_14)
    have N_25 := Fr.snoc X_25 N0 o0
    have f_26 : Exa Z h_25 ax "java/lang/String" := E0.wr W_25
    have f_27 : Fld Z h_25 ax "java/lang/String" "value" "[B" (.ref lb) := F0_value.same W_25
    have f_28 : Fld Z h_25 ax "java/lang/String" "coder" "B" (.int (0 : Int32)) := F0_coder.other W_25 (Or.inr (slot_ne (Or.inr (wdOf hw 21 rfl)) (Or.inr (wdOf hw 20 rfl)) (by decide) (t := .byte) (t' := (.array .byte)) (by decide) (by decide)))
    have f_29 : Exa Z h_25 la "java/lang/String" := Ela.wr W_25
    have f_30 : Fld Z h_25 la "java/lang/String" "value" "[B" (.ref lb) := Fla.other W_25 (Or.inl nla)
    have f_31 : Fld Z h_25 la "java/lang/String" "coder" "B" (.int (0 : Int32)) := Gla.other W_25 (Or.inl nla)
    have K_32 : Keep h0 h_25 [ax] := K0.wr W_25 (Or.inl (List.mem_of_getElem? (i := 0) rfl))
    have y_32 : n0 ≤ h_25.size := Nat.le_trans Z0 K_32.1
    have hk_32 := Nat.le_trans hk0 (Nat.le_of_eq W_25.size.symm)
    refine GoesW.go (U' := (T_25.setTop (mkF m 17 #[sR_ ax, sR_ ca, sI_ (0 : Int32), sI_ (0 : Int32), .val .null, sU_] []))) st_25 ?_
    refine GoesW.go (U' := (T_25.setTop (mkF m 18 #[sR_ ax, sR_ ca, sI_ (0 : Int32), sI_ (0 : Int32), .val .null, sU_] [(.ref ax)]))) (fun t kt => ?_) ?_
    · skip
      refine XS.aloadN X_25.here hx rfl (hb hby d_rm_sv0_17) rfl rfl ?_
      exact kt
    have st2 := ldcAgain X_25 hx hZ hown (wdOf hw 18 rfl) LL (g := (mkF m 18 #[sR_ ax, sR_ ca, sI_ (0 : Int32), sI_ (0 : Int32), .val .null, sU_] [(.ref ax)])) rfl (hb hby d_rm_sv0_18)
    refine GoesW.go (U' := (T_25.setTop (mkF m 20 #[sR_ ax, sR_ ca, sI_ (0 : Int32), sI_ (0 : Int32), .val .null, sU_] [(.ref la), (.ref ax)]))) st2 ?_
    obtain ⟨T_33, X_33, e_33, st_33⟩ := getF X_25 hx hZ hown (host := "") (Or.inl (wdOf hw 25 rfl)) Via.refl e_25 f_31 (g := (mkF m 20 #[sR_ ax, sR_ ca, sI_ (0 : Int32), sI_ (0 : Int32), .val .null, sU_] [(.ref la), (.ref ax)])) rfl rfl (hb hby d_rm_sv0_20)
    refine GoesW.go (U' := (T_33.setTop (mkF m 23 #[sR_ ax, sR_ ca, sI_ (0 : Int32), sI_ (0 : Int32), .val .null, sU_] [(.int (0 : Int32)), (.ref ax)]))) st_33 ?_
    obtain ⟨T_34, h_34, X_34, e_34, W_34, st_34⟩ := putFN X_33 hx hZ hown (wdOf hw 25 rfl) Via.refl e_33 f_28 f_26 (Or.inr ⟨wdOf hw 21 rfl, rfl, hnm⟩) (wdOf hw 5 rfl) (ty := .byte) (v' := (.int (0 : Int32))) (by decide) rfl rfl (g := (mkF m 23 #[sR_ ax, sR_ ca, sI_ (0 : Int32), sI_ (0 : Int32), .val .null, sU_] [(.int (0 : Int32)), (.ref ax)])) rfl rfl (hb hby d_rm_sv0_23)
    have N_34 := Fr.snoc X_34 N_25 o0
    have f_35 : Exa Z h_34 ax "java/lang/String" := f_26.wr W_34
    have f_36 : Fld Z h_34 ax "java/lang/String" "value" "[B" (.ref lb) := f_27.other W_34 (Or.inr (slot_ne (Or.inr (wdOf hw 20 rfl)) (Or.inr (wdOf hw 21 rfl)) (by decide) (t := (.array .byte)) (t' := .byte) (by decide) (by decide)))
    have f_37 : Fld Z h_34 ax "java/lang/String" "coder" "B" (.int (0 : Int32)) := f_28.same W_34
    have f_38 : Exa Z h_34 la "java/lang/String" := f_29.wr W_34
    have f_39 : Fld Z h_34 la "java/lang/String" "value" "[B" (.ref lb) := f_30.other W_34 (Or.inl nla)
    have f_40 : Fld Z h_34 la "java/lang/String" "coder" "B" (.int (0 : Int32)) := f_31.other W_34 (Or.inl nla)
    have K_41 : Keep h0 h_34 [ax] := K_32.wr W_34 (Or.inl (List.mem_of_getElem? (i := 0) rfl))
    have y_41 : n0 ≤ h_34.size := Nat.le_trans Z0 K_41.1
    have hk_41 := Nat.le_trans hk_32 (Nat.le_of_eq W_34.size.symm)
    refine GoesW.go (U' := (T_34.setTop (mkF m 26 #[sR_ ax, sR_ ca, sI_ (0 : Int32), sI_ (0 : Int32), .val .null, sU_] []))) st_34 ?_
    refine GoesW.retV X_34 hx hS (by rw [e_34]; exact hk_41) hlk hret (hb hby d_rm_sv0_26) (by decide) (by decide) ?_
    intro V vh vv
    try rw [vv]
    try rw [vh]
    try rw [e_34]
    exact ⟨rfl, N_34, K_41, LIv.warm (show LIv Z s.vm h_34 from Or.inr ⟨_, _, LL, f_38, f_39, f_40⟩) X_34.warmed, f_35⟩
theorem d_rm_sc0_0 : decode jdk_42_method_3_code 0 = .ok (.aload_n 0, 1) := by decide +kernel
theorem d_rm_sc0_1 : decode jdk_42_method_3_code 1 = .ok (.aload_n 1, 1) := by decide +kernel
theorem d_rm_sc0_2 : decode jdk_42_method_3_code 2 = .ok (.iconst 0, 1) := by decide +kernel
theorem d_rm_sc0_3 : decode jdk_42_method_3_code 3 = .ok (.aload_n 1, 1) := by decide +kernel
theorem d_rm_sc0_4 : decode jdk_42_method_3_code 4 = .ok (.arraylength, 1) := by decide +kernel
theorem d_rm_sc0_5 : decode jdk_42_method_3_code 5 = .ok (.aconst_null, 1) := by decide +kernel
theorem d_rm_sc0_6 : decode jdk_42_method_3_code 6 = .ok (.invokespecial 27, 3) := by decide +kernel
theorem d_rm_sc0_9 : decode jdk_42_method_3_code 9 = .ok (.return_, 1) := by decide +kernel
set_option maxHeartbeats 4000000 in
theorem ef_rm_sc0 (m : MethodId) (x0 : Addr) (x1 : Addr)  : entryFrame m #[(.ref x0), (.ref x1)] 2 = mkF m 0 #[.val (.ref x0), .val (.ref x1)] [] := by first | (simp [entryFrame, mkF, argsToLocals, catR, catN, catI, catJ]; done) | rfl
set_option maxRecDepth 65536 in
set_option maxHeartbeats 40000000 in
theorem rm_sc0 (l : Launch) (Z : State) (a0 : Array Value) (hw : ∀ d ∈ tables_1, d.before a0 Z = true) (ws : List Jvm.Cond) (ax ca : Addr) (kc : ClassId) (h0 : Heap) (n0 : Nat) (Z0 : n0 ≤ h0.size) (O : Old Z n0 h0) (o0 : n0 ≤ ax) (hh : Jvm.Lit.constHeld Z "java/lang/String" 7) (hcw : Jvm.Lit.compactW.before a0 Z = true) (E0 : Exa Z h0 ax "java/lang/String") (F0_value : Fld Z h0 ax "java/lang/String" "value" "[B" .null) (F0_coder : Fld Z h0 ax "java/lang/String" "coder" "B" (.int (0 : Int32))) (Vc : Arv Z h0 ca kc .char (0 : Int32) [] (.int (0 : Int32))) :
    PaysW l Z (⟨"java/lang/String", "<init>", "([C)V"⟩ : MethodName) jdk_42_method_3_code 2 none ws ({ frames := 2, cells := 2, slots := 4, locals := 29 } : Room) #[(.ref ax), (.ref ca)] h0 (LIv Z) (fun v V L => v = none ∧ Fr n0 L ∧ Keep h0 V.heap [ax] ∧ LIv Z V.vm V.heap ∧ Exa Z V.heap ax "java/lang/String") := by
  refine PaysW.of (plainFor_of_name (by first | (simp [plainName, overriddenIn]; done) | decide +kernel)) ?_
  intro p e s m below meth c s₁ hx hby hml hown hnm hret hlk hZ e0 hsh hLI hS X0
  have hk0 : 0 ≤ h0.size := Nat.zero_le _
  replace hLI : LIv Z s.vm h0 := hLI
  have N0 := Fr.nil n0
  have K0 : Keep h0 h0 [ax] := Keep.refl _ _
  refine GoesW.go (U' := (s₁.setTop (mkF m 0 #[sR_ ax, sR_ ca] []))) (fun t kt => castTop (ef_rm_sc0 m ax ca) kt) ?_
  refine GoesW.go (U' := (s₁.setTop (mkF m 4 #[sR_ ax, sR_ ca] [(.ref ca), (.int (0 : Int32)), (.ref ca), (.ref ax)]))) (fun t kt => ?_) ?_
  · skip
    refine XS.aloadN X0.here hx rfl (hb hby d_rm_sc0_0) rfl rfl ?_
    refine XS.aloadN X0.here hx rfl (hb hby d_rm_sc0_1) rfl rfl ?_
    refine XS.iconst X0.here hx rfl (hb hby d_rm_sc0_2) ?_
    refine XS.aloadN X0.here hx rfl (hb hby d_rm_sc0_3) rfl rfl ?_
    exact kt
  obtain ⟨cl_1, Ar_1, q_1, S_1, M_1, H_1, G_1⟩ := id Vc
  refine GoesW.go (U' := (s₁.setTop (mkF m 5 #[sR_ ax, sR_ ca] [(.int (0 : Int32)), (.int (0 : Int32)), (.ref ca), (.ref ax)]))) (fun t kt => ?_) ?_
  · skip
    refine X0.arraylength hx (by rw [e0]; exact Ar_1.1) (State.isArrayOf_alike hZ.alike Ar_1.2.1) (g := (mkF m 4 #[sR_ ax, sR_ ca] [(.ref ca), (.int (0 : Int32)), (.ref ca), (.ref ax)])) rfl rfl (hb hby d_rm_sc0_4) _ ?_
    rw [len_of S_1 M_1]
    exact kt
  refine GoesW.go (U' := (s₁.setTop (mkF m 6 #[sR_ ax, sR_ ca] [.null, (.int (0 : Int32)), (.int (0 : Int32)), (.ref ca), (.ref ax)]))) (fun t kt => ?_) ?_
  · skip
    refine XS.aconstNull X0.here hx rfl (hb hby d_rm_sc0_5) ?_
    exact kt
  obtain ⟨v_2, T_2, V_2, L_2, X_2, ve_2, vv_2, q_2, hS_2, hZ, hown, st_2⟩ := callInitW X0 hx hZ (y := (⟨"java/lang/String", "<init>", "([CIILjava/lang/Void;)V"⟩ : MethodName)) (W := 0) rfl hown (wdOf hw 11 rfl) (wdOf hw 12 rfl) (wdOf hw 6 rfl) (wdOf hw 14 rfl) (by decide) (rm_sv0 l Z a0 hw [] ax ca h0 n0 Z0 O o0 hh hcw E0 F0_value F0_coder) (by decide) (by decide) (by decide) (by decide) e0 (fun _ q => hLI.warm q) hS hk0 (b := ax) (g := (mkF m 6 #[sR_ ax, sR_ ca] [.null, (.int (0 : Int32)), (.int (0 : Int32)), (.ref ca), (.ref ax)])) rfl (by rw [hml]; rfl) (argsL := [(.ref ca), (.int (0 : Int32)), (.int (0 : Int32)), .null]) (rest := []) (lenOf pd_7 rfl) rfl rfl (Nat.le_refl _) (hb hby d_rm_sc0_6)
  rw [ve_2, vv_2] at q_2
  obtain ⟨rfl, n_2, K_2, LI_2, Eq_2⟩ := q_2
  have N_2 := Fr.app N0 n_2
  have f_3 : Exa Z T_2.heap ax "java/lang/String" := E0.keep K_2
  have K_6 : Keep h0 T_2.heap [ax] := K0.trans K_2 (allS (P := fun x => x ∈ [ax] ∨ h0.size ≤ x) (Or.inl (List.mem_of_getElem? (i := 0) rfl)) all0)
  have y_6 : n0 ≤ T_2.heap.size := Nat.le_trans Z0 K_6.1
  have hk_6 := Nat.le_trans hk0 K_2.1
  refine GoesW.go (U' := (T_2.setTop (mkF m 9 #[sR_ ax, sR_ ca] []))) st_2 ?_
  refine GoesW.retV X_2 hx hS_2 (by rw [(rfl : T_2.heap = T_2.heap)]; exact (Nat.le_refl _)) hlk hret (hb hby d_rm_sc0_9) (by decide) (by decide) ?_
  intro V vh vv
  try rw [vv]
  try rw [vh]
  try rw [(rfl : T_2.heap = T_2.heap)]
  exact ⟨rfl, N_2, K_6, LI_2.warm X_2.warmed, f_3⟩
theorem d_rm_mk_0 : decode method_3_code 0 = .ok (.iload_n 1, 1) := by decide +kernel
theorem d_rm_mk_1 : decode method_3_code 1 = .ok (.iconst 3, 1) := by decide +kernel
theorem d_rm_mk_2 : decode method_3_code 2 = .ok (.iand, 1) := by decide +kernel
theorem d_rm_mk_3 : decode method_3_code 3 = .ok (.istore_n 2, 1) := by decide +kernel
theorem d_rm_mk_4 : decode method_3_code 4 = .ok (.iload_n 0, 1) := by decide +kernel
theorem d_rm_mk_5 : decode method_3_code 5 = .ok (.sipush 255, 3) := by decide +kernel
theorem d_rm_mk_8 : decode method_3_code 8 = .ok (.iand, 1) := by decide +kernel
theorem d_rm_mk_9 : decode method_3_code 9 = .ok (.i2c, 1) := by decide +kernel
theorem d_rm_mk_10 : decode method_3_code 10 = .ok (.istore_n 3, 1) := by decide +kernel
theorem d_rm_mk_11 : decode method_3_code 11 = .ok (.iload_n 0, 1) := by decide +kernel
theorem d_rm_mk_12 : decode method_3_code 12 = .ok (.bipush 8, 2) := by decide +kernel
theorem d_rm_mk_14 : decode method_3_code 14 = .ok (.iushr, 1) := by decide +kernel
theorem d_rm_mk_15 : decode method_3_code 15 = .ok (.sipush 255, 3) := by decide +kernel
theorem d_rm_mk_18 : decode method_3_code 18 = .ok (.iand, 1) := by decide +kernel
theorem d_rm_mk_19 : decode method_3_code 19 = .ok (.i2c, 1) := by decide +kernel
theorem d_rm_mk_20 : decode method_3_code 20 = .ok (.istore 4, 2) := by decide +kernel
theorem d_rm_mk_22 : decode method_3_code 22 = .ok (.iload_n 2, 1) := by decide +kernel
theorem d_rm_mk_23 : decode method_3_code 23 = .ok (.ifCond .ne 14, 3) := by decide +kernel
theorem d_rm_mk_26 : decode method_3_code 26 = .ok (.new 53, 3) := by decide +kernel
theorem d_rm_mk_29 : decode method_3_code 29 = .ok (.dup, 1) := by decide +kernel
theorem d_rm_mk_30 : decode method_3_code 30 = .ok (.iconst 0, 1) := by decide +kernel
theorem d_rm_mk_31 : decode method_3_code 31 = .ok (.newarray .char, 2) := by decide +kernel
theorem d_rm_mk_33 : decode method_3_code 33 = .ok (.invokespecial 55, 3) := by decide +kernel
theorem d_rm_mk_36 : decode method_3_code 36 = .ok (.areturn, 1) := by decide +kernel
theorem d_rm_mk_37 : decode method_3_code 37 = .ok (.iload_n 2, 1) := by decide +kernel
theorem d_rm_mk_38 : decode method_3_code 38 = .ok (.iconst 1, 1) := by decide +kernel
theorem d_rm_mk_39 : decode method_3_code 39 = .ok (.if_icmp .ne 23, 3) := by decide +kernel
theorem d_rm_mk_42 : decode method_3_code 42 = .ok (.iconst 1, 1) := by decide +kernel
theorem d_rm_mk_43 : decode method_3_code 43 = .ok (.newarray .char, 2) := by decide +kernel
theorem d_rm_mk_45 : decode method_3_code 45 = .ok (.astore 5, 2) := by decide +kernel
theorem d_rm_mk_47 : decode method_3_code 47 = .ok (.aload 5, 2) := by decide +kernel
theorem d_rm_mk_49 : decode method_3_code 49 = .ok (.iconst 0, 1) := by decide +kernel
theorem d_rm_mk_50 : decode method_3_code 50 = .ok (.iload_n 3, 1) := by decide +kernel
theorem d_rm_mk_51 : decode method_3_code 51 = .ok (.castore, 1) := by decide +kernel
theorem d_rm_mk_52 : decode method_3_code 52 = .ok (.new 53, 3) := by decide +kernel
theorem d_rm_mk_55 : decode method_3_code 55 = .ok (.dup, 1) := by decide +kernel
theorem d_rm_mk_56 : decode method_3_code 56 = .ok (.aload 5, 2) := by decide +kernel
theorem d_rm_mk_58 : decode method_3_code 58 = .ok (.invokespecial 55, 3) := by decide +kernel
theorem d_rm_mk_61 : decode method_3_code 61 = .ok (.areturn, 1) := by decide +kernel
theorem d_rm_mk_62 : decode method_3_code 62 = .ok (.iconst 2, 1) := by decide +kernel
theorem d_rm_mk_63 : decode method_3_code 63 = .ok (.newarray .char, 2) := by decide +kernel
theorem d_rm_mk_65 : decode method_3_code 65 = .ok (.astore 5, 2) := by decide +kernel
theorem d_rm_mk_67 : decode method_3_code 67 = .ok (.aload 5, 2) := by decide +kernel
theorem d_rm_mk_69 : decode method_3_code 69 = .ok (.iconst 0, 1) := by decide +kernel
theorem d_rm_mk_70 : decode method_3_code 70 = .ok (.iload_n 3, 1) := by decide +kernel
theorem d_rm_mk_71 : decode method_3_code 71 = .ok (.castore, 1) := by decide +kernel
theorem d_rm_mk_72 : decode method_3_code 72 = .ok (.aload 5, 2) := by decide +kernel
theorem d_rm_mk_74 : decode method_3_code 74 = .ok (.iconst 1, 1) := by decide +kernel
theorem d_rm_mk_75 : decode method_3_code 75 = .ok (.iload 4, 2) := by decide +kernel
theorem d_rm_mk_77 : decode method_3_code 77 = .ok (.castore, 1) := by decide +kernel
theorem d_rm_mk_78 : decode method_3_code 78 = .ok (.new 53, 3) := by decide +kernel
theorem d_rm_mk_81 : decode method_3_code 81 = .ok (.dup, 1) := by decide +kernel
theorem d_rm_mk_82 : decode method_3_code 82 = .ok (.aload 5, 2) := by decide +kernel
theorem d_rm_mk_84 : decode method_3_code 84 = .ok (.invokespecial 55, 3) := by decide +kernel
theorem d_rm_mk_87 : decode method_3_code 87 = .ok (.areturn, 1) := by decide +kernel
set_option maxHeartbeats 4000000 in
theorem ef_rm_mk (m : MethodId) (x0 : Int32) (x1 : Int32)  : entryFrame m #[(.int x0), (.int x1)] 6 = mkF m 0 #[.val (.int x0), .val (.int x1), .unset, .unset, .unset, .unset] [] := by first | (simp [entryFrame, mkF, argsToLocals, catR, catN, catI, catJ]; done) | rfl
set_option maxRecDepth 65536 in
set_option maxHeartbeats 40000000 in
theorem rm_mk (l : Launch) (Z : State) (a0 : Array Value) (hw : ∀ d ∈ tables_1, d.before a0 Z = true) (ws : List Jvm.Cond) (xv xl cs : Int32) (h0 : Heap) (n0 : Nat) (Z0 : n0 ≤ h0.size) (O : Old Z n0 h0) (SC : Sta Z Z.heap "java/lang/String" "COMPACT_STRINGS" "Z" (.int cs)) (hcs : ¬ cs = 0) (hh : Jvm.Lit.constHeld Z "java/lang/String" 7) (hcw : Jvm.Lit.compactW.before a0 Z = true) :
    PaysW l Z (⟨"com/example/kilnroute/kilnroute/spark/ResourcesWithDriverMemoryPinLaw", "mk", "(II)Ljava/lang/String;"⟩ : MethodName) method_3_code 6 (some (.object "java/lang/String")) ws ({ frames := 4, cells := 4, slots := 8, locals := 66 } : Room) #[(.int xv), (.int xl)] h0 (LIv Z) (fun v V L => ∃ r, v = some (.ref r) ∧ Fr n0 L ∧ Ext h0 V.heap ∧ LIv Z V.vm V.heap ∧ Exa Z V.heap r "java/lang/String") := by
  refine PaysW.of (plainFor_of_name (by first | (simp [plainName, overriddenIn]; done) | decide +kernel)) ?_
  intro p e s m below meth c s₁ hx hby hml hown hnm hret hlk hZ e0 hsh hLI hS X0
  have hk0 : 0 ≤ h0.size := Nat.zero_le _
  replace hLI : LIv Z s.vm h0 := hLI
  have N0 := Fr.nil n0
  have K0 : Keep h0 h0 [] := Keep.refl _ _
  refine GoesW.go (U' := (s₁.setTop (mkF m 0 #[sI_ xv, sI_ xl, sU_, sU_, sU_, sU_] []))) (fun t kt => castTop (ef_rm_mk m xv xl) kt) ?_
  refine GoesW.go (U' := (s₁.setTop (mkF m 23 #[sI_ xv, sI_ xl, sI_ (xl &&& (3 : Int32)), sI_ ((xv &&& (255 : Int32)).toUInt32.toUInt16.toUInt32.toInt32), sI_ ((((xv.toUInt32 >>> ((8 : Int32) &&& 31).toUInt32).toInt32) &&& (255 : Int32)).toUInt32.toUInt16.toUInt32.toInt32), sU_] [(.int (xl &&& (3 : Int32)))]))) (fun t kt => ?_) ?_
  · skip
    refine XS.iloadN X0.here hx rfl (hb hby d_rm_mk_0) rfl ?_
    refine XS.iconst X0.here hx rfl (hb hby d_rm_mk_1) ?_
    refine XS.iand X0.here hx rfl (hb hby d_rm_mk_2) rfl ?_
    refine XS.istoreN X0.here hx rfl (hb hby d_rm_mk_3) rfl (l' := #[sI_ xv, sI_ xl, sI_ (xl &&& (3 : Int32)), sU_, sU_, sU_]) rfl ?_
    refine XS.iloadN X0.here hx rfl (hb hby d_rm_mk_4) rfl ?_
    refine XS.sipush X0.here hx rfl (hb hby d_rm_mk_5) ?_
    refine XS.iand X0.here hx rfl (hb hby d_rm_mk_8) rfl ?_
    refine XS.i2c X0.here hx rfl (hb hby d_rm_mk_9) rfl ?_
    show Steps p.tables e below (s₁.setTop (mkF m 10 #[sI_ xv, sI_ xl, sI_ (xl &&& (3 : Int32)), sU_, sU_, sU_] [(.int ((xv &&& (255 : Int32)).toUInt32.toUInt16.toUInt32.toInt32))])) t
    refine XS.istoreN X0.here hx rfl (hb hby d_rm_mk_10) rfl (l' := #[sI_ xv, sI_ xl, sI_ (xl &&& (3 : Int32)), sI_ ((xv &&& (255 : Int32)).toUInt32.toUInt16.toUInt32.toInt32), sU_, sU_]) rfl ?_
    refine XS.iloadN X0.here hx rfl (hb hby d_rm_mk_11) rfl ?_
    refine XS.bipush X0.here hx rfl (hb hby d_rm_mk_12) ?_
    refine XS.iushr X0.here hx rfl (hb hby d_rm_mk_14) rfl ?_
    refine XS.sipush X0.here hx rfl (hb hby d_rm_mk_15) ?_
    refine XS.iand X0.here hx rfl (hb hby d_rm_mk_18) rfl ?_
    refine XS.i2c X0.here hx rfl (hb hby d_rm_mk_19) rfl ?_
    refine XS.istore X0.here hx rfl (hb hby d_rm_mk_20) rfl (l' := #[sI_ xv, sI_ xl, sI_ (xl &&& (3 : Int32)), sI_ ((xv &&& (255 : Int32)).toUInt32.toUInt16.toUInt32.toInt32), sI_ ((((xv.toUInt32 >>> ((8 : Int32) &&& 31).toUInt32).toInt32) &&& (255 : Int32)).toUInt32.toUInt16.toUInt32.toInt32), sU_]) rfl ?_
    show Steps p.tables e below (s₁.setTop (mkF m 22 #[sI_ xv, sI_ xl, sI_ (xl &&& (3 : Int32)), sI_ ((xv &&& (255 : Int32)).toUInt32.toUInt16.toUInt32.toInt32), sI_ ((((xv.toUInt32 >>> ((8 : Int32) &&& 31).toUInt32).toInt32) &&& (255 : Int32)).toUInt32.toUInt16.toUInt32.toInt32), sU_] [])) t
    refine XS.iloadN X0.here hx rfl (hb hby d_rm_mk_22) rfl ?_
    exact kt
  by_cases cz : (xl &&& (3 : Int32)) = 0
  · -- (xl &&& (3 : Int32)) = 0
    refine GoesW.go (U' := (s₁.setTop (mkF m 26 #[sI_ xv, sI_ xl, sI_ (xl &&& (3 : Int32)), sI_ ((xv &&& (255 : Int32)).toUInt32.toUInt16.toUInt32.toInt32), sI_ ((((xv.toUInt32 >>> ((8 : Int32) &&& 31).toUInt32).toInt32) &&& (255 : Int32)).toUInt32.toUInt16.toUInt32.toInt32), sU_] []))) (fun t kt => ?_) ?_
    · skip
      refine XS.ifNo X0.here hx rfl (hb hby d_rm_mk_23) rfl (XT.i0_ne_f cz) ?_
      exact kt
    obtain ⟨T_1, h_1, X_1, e_1, E_1, A_1, D_1, -, st_1⟩ := newO X0 hx hZ hown (wdOf hw 4 rfl) (wdOf hw 5 rfl) (wdOf hw 6 rfl) e0 (g := (mkF m 26 #[sI_ xv, sI_ xl, sI_ (xl &&& (3 : Int32)), sI_ ((xv &&& (255 : Int32)).toUInt32.toUInt16.toUInt32.toInt32), sI_ ((((xv.toUInt32 >>> ((8 : Int32) &&& 31).toUInt32).toInt32) &&& (255 : Int32)).toUInt32.toUInt16.toUInt32.toInt32), sU_] [])) rfl (hb hby d_rm_mk_26) (by decide) (by decide)
    obtain ⟨b_1, g_1⟩ : ∃ z, z = h0.size := ⟨_, rfl⟩
    rw [← g_1] at A_1 D_1 st_1
    have o_1 : n0 ≤ b_1 := Nat.le_trans Z0 (Nat.le_of_eq g_1.symm)
    have z_1 : h0.size ≤ b_1 := Nat.le_trans K0.1 (Nat.le_of_eq g_1.symm)
    have f_2 : Old Z n0 h_1 := O.ext E_1
    have f_3 : LIv Z s.vm h_1 := hLI.ext E_1
    have f_4 : Fld Z h_1 b_1 "java/lang/String" "value" "[B" .null := D_1 (Or.inr (wdOf hw 20 rfl)) (ty := (.array .byte)) (by decide)
    have f_5 : Fld Z h_1 b_1 "java/lang/String" "coder" "B" (.int (0 : Int32)) := D_1 (Or.inr (wdOf hw 21 rfl)) (ty := .byte) (by decide)
    have K_6 : Keep h0 h_1 [] := K0.ext E_1
    have y_6 : n0 ≤ h_1.size := Nat.le_trans Z0 K_6.1
    have hk_6 := Nat.le_trans hk0 E_1.1
    refine GoesW.go (U' := (T_1.setTop (mkF m 29 #[sI_ xv, sI_ xl, sI_ (xl &&& (3 : Int32)), sI_ ((xv &&& (255 : Int32)).toUInt32.toUInt16.toUInt32.toInt32), sI_ ((((xv.toUInt32 >>> ((8 : Int32) &&& 31).toUInt32).toInt32) &&& (255 : Int32)).toUInt32.toUInt16.toUInt32.toInt32), sU_] [(.ref b_1)]))) st_1 ?_
    refine GoesW.go (U' := (T_1.setTop (mkF m 31 #[sI_ xv, sI_ xl, sI_ (xl &&& (3 : Int32)), sI_ ((xv &&& (255 : Int32)).toUInt32.toUInt16.toUInt32.toInt32), sI_ ((((xv.toUInt32 >>> ((8 : Int32) &&& 31).toUInt32).toInt32) &&& (255 : Int32)).toUInt32.toUInt16.toUInt32.toInt32), sU_] [(.int (0 : Int32)), (.ref b_1), (.ref b_1)]))) (fun t kt => ?_) ?_
    · skip
      refine XS.dup X_1.here hx rfl (hb hby d_rm_mk_29) rfl rfl ?_
      refine XS.iconst X_1.here hx rfl (hb hby d_rm_mk_30) ?_
      exact kt
    obtain ⟨T_7, h_7, k_7, X_7, e_7, E_7, A_7, st_7⟩ := newP X_1 hx hZ (wdOf hw 7 rfl) e_1 (g := (mkF m 31 #[sI_ xv, sI_ xl, sI_ (xl &&& (3 : Int32)), sI_ ((xv &&& (255 : Int32)).toUInt32.toUInt16.toUInt32.toInt32), sI_ ((((xv.toUInt32 >>> ((8 : Int32) &&& 31).toUInt32).toInt32) &&& (255 : Int32)).toUInt32.toUInt16.toUInt32.toInt32), sU_] [(.int (0 : Int32)), (.ref b_1), (.ref b_1)])) rfl (hb hby d_rm_mk_31) rfl (by decide) (cap := 0) (by decide) (by decide) (by decide) (by decide)
    obtain ⟨b_7, g_7⟩ : ∃ z, z = h_1.size := ⟨_, rfl⟩
    rw [← g_7] at A_7 st_7
    have ne_8 : b_1 ≠ b_7 := Nat.ne_of_lt (Nat.lt_of_lt_of_le A_1.lt (Nat.le_of_eq g_7.symm))
    have o_7 : n0 ≤ b_7 := Nat.le_trans y_6 (Nat.le_of_eq g_7.symm)
    have z_7 : h0.size ≤ b_7 := Nat.le_trans K_6.1 (Nat.le_of_eq g_7.symm)
    have f_9 : Old Z n0 h_7 := f_2.ext E_7
    have f_10 : LIv Z s.vm h_7 := f_3.ext E_7
    have f_11 : Exa Z h_7 b_1 "java/lang/String" := A_1.ext E_7
    have f_12 : Fld Z h_7 b_1 "java/lang/String" "value" "[B" .null := f_4.ext E_7
    have f_13 : Fld Z h_7 b_1 "java/lang/String" "coder" "B" (.int (0 : Int32)) := f_5.ext E_7
    have V_7 : Arv Z h_7 b_7 k_7 .char (0 : Int32) [] (.int (0 : Int32)) := (Arv.new A_7 (by decide)).pad (pad_rep [] (.int (0 : Int32)) 0)
    have K_14 : Keep h0 h_7 [] := K_6.ext E_7
    have y_14 : n0 ≤ h_7.size := Nat.le_trans Z0 K_14.1
    have hk_14 := Nat.le_trans hk_6 E_7.1
    refine GoesW.go (U' := (T_7.setTop (mkF m 33 #[sI_ xv, sI_ xl, sI_ (xl &&& (3 : Int32)), sI_ ((xv &&& (255 : Int32)).toUInt32.toUInt16.toUInt32.toInt32), sI_ ((((xv.toUInt32 >>> ((8 : Int32) &&& 31).toUInt32).toInt32) &&& (255 : Int32)).toUInt32.toUInt16.toUInt32.toInt32), sU_] [(.ref b_7), (.ref b_1), (.ref b_1)]))) st_7 ?_
    obtain ⟨v_15, T_15, V_15, L_15, X_15, ve_15, vv_15, q_15, hS_15, hZ, hown, st_15⟩ := callInitW X_7 hx hZ (y := (⟨"java/lang/String", "<init>", "([C)V"⟩ : MethodName)) (W := 1) rfl hown (wdOf hw 8 rfl) (wdOf hw 9 rfl) (wdOf hw 6 rfl) (wdOf hw 10 rfl) (by decide) (rm_sc0 l Z a0 hw [] b_1 b_7 k_7 h_7 n0 y_14 f_9 o_1 hh hcw f_11 f_12 f_13 V_7) (by decide) (by decide) (by decide) (by decide) e_7 (fun _ q => f_10.warm q) hS hk_14 (b := b_1) (g := (mkF m 33 #[sI_ xv, sI_ xl, sI_ (xl &&& (3 : Int32)), sI_ ((xv &&& (255 : Int32)).toUInt32.toUInt16.toUInt32.toInt32), sI_ ((((xv.toUInt32 >>> ((8 : Int32) &&& 31).toUInt32).toInt32) &&& (255 : Int32)).toUInt32.toUInt16.toUInt32.toInt32), sU_] [(.ref b_7), (.ref b_1), (.ref b_1)])) rfl (by rw [hml]; rfl) (argsL := [(.ref b_7)]) (rest := [(.ref b_1)]) (lenOf pd_8 rfl) rfl rfl (Nat.le_refl _) (hb hby d_rm_mk_33)
    rw [ve_15, vv_15] at q_15
    obtain ⟨rfl, n_15, K_15, LI_15, Eq_15⟩ := q_15
    have N_15 := Fr.app N0 n_15
    have f_16 : Old Z n0 T_15.heap := f_9.keep K_15 (allS o_1 all0)
    have f_17 : Exa Z T_15.heap b_1 "java/lang/String" := f_11.keep K_15
    have K_20 : Keep h0 T_15.heap [] := K_14.trans K_15 (allS (P := fun x => x ∈ [] ∨ h0.size ≤ x) (Or.inr z_1) all0)
    have y_20 : n0 ≤ T_15.heap.size := Nat.le_trans Z0 K_20.1
    have hk_20 := Nat.le_trans hk_14 K_15.1
    refine GoesW.go (U' := (T_15.setTop (mkF m 36 #[sI_ xv, sI_ xl, sI_ (xl &&& (3 : Int32)), sI_ ((xv &&& (255 : Int32)).toUInt32.toUInt16.toUInt32.toInt32), sI_ ((((xv.toUInt32 >>> ((8 : Int32) &&& 31).toUInt32).toInt32) &&& (255 : Int32)).toUInt32.toUInt16.toUInt32.toInt32), sU_] [(.ref b_1)]))) st_15 ?_
    refine GoesW.retA X_15 hx hS_15 (by rw [(rfl : T_15.heap = T_15.heap)]; exact (Nat.le_refl _)) hlk hret rfl rfl (hb hby d_rm_mk_36) (by decide) (by decide) ?_
    intro V vh vv
    try rw [vv]
    try rw [vh]
    try rw [(rfl : T_15.heap = T_15.heap)]
    exact ⟨_, rfl, N_15, Ext.of_keep K_20, LI_15.warm X_15.warmed, f_17⟩
  · -- not (xl &&& (3 : Int32)) = 0
    refine GoesW.go (U' := (s₁.setTop (mkF m 39 #[sI_ xv, sI_ xl, sI_ (xl &&& (3 : Int32)), sI_ ((xv &&& (255 : Int32)).toUInt32.toUInt16.toUInt32.toInt32), sI_ ((((xv.toUInt32 >>> ((8 : Int32) &&& 31).toUInt32).toInt32) &&& (255 : Int32)).toUInt32.toUInt16.toUInt32.toInt32), sU_] [(.int (1 : Int32)), (.int (xl &&& (3 : Int32)))]))) (fun t kt => ?_) ?_
    · skip
      refine XS.ifYes X0.here hx rfl (pc0 := 23) (pc' := 37) rfl (hb hby d_rm_mk_23) rfl (XT.i0_ne_t cz) (by decide) (by decide) ?_
      refine XS.iloadN X0.here hx rfl (hb hby d_rm_mk_37) rfl ?_
      refine XS.iconst X0.here hx rfl (hb hby d_rm_mk_38) ?_
      exact kt
    by_cases co : (xl &&& (3 : Int32)) = (1 : Int32)
    · -- (xl &&& (3 : Int32)) = (1 : Int32)
      refine GoesW.go (U' := (s₁.setTop (mkF m 43 #[sI_ xv, sI_ xl, sI_ (xl &&& (3 : Int32)), sI_ ((xv &&& (255 : Int32)).toUInt32.toUInt16.toUInt32.toInt32), sI_ ((((xv.toUInt32 >>> ((8 : Int32) &&& 31).toUInt32).toInt32) &&& (255 : Int32)).toUInt32.toUInt16.toUInt32.toInt32), sU_] [(.int (1 : Int32))]))) (fun t kt => ?_) ?_
      · skip
        refine XS.icmpNo X0.here hx rfl (hb hby d_rm_mk_39) rfl (XT.ii_ne_f co) ?_
        refine XS.iconst X0.here hx rfl (hb hby d_rm_mk_42) ?_
        exact kt
      obtain ⟨T_21, h_21, k_21, X_21, e_21, E_21, A_21, st_21⟩ := newP X0 hx hZ (wdOf hw 7 rfl) e0 (g := (mkF m 43 #[sI_ xv, sI_ xl, sI_ (xl &&& (3 : Int32)), sI_ ((xv &&& (255 : Int32)).toUInt32.toUInt16.toUInt32.toInt32), sI_ ((((xv.toUInt32 >>> ((8 : Int32) &&& 31).toUInt32).toInt32) &&& (255 : Int32)).toUInt32.toUInt16.toUInt32.toInt32), sU_] [(.int (1 : Int32))])) rfl (hb hby d_rm_mk_43) rfl (by decide) (cap := 1) (by decide) (by decide) (by decide) (by decide)
      obtain ⟨b_21, g_21⟩ : ∃ z, z = h0.size := ⟨_, rfl⟩
      rw [← g_21] at A_21 st_21
      have o_21 : n0 ≤ b_21 := Nat.le_trans Z0 (Nat.le_of_eq g_21.symm)
      have z_21 : h0.size ≤ b_21 := Nat.le_trans K0.1 (Nat.le_of_eq g_21.symm)
      have f_22 : Old Z n0 h_21 := O.ext E_21
      have f_23 : LIv Z s.vm h_21 := hLI.ext E_21
      have V_21 : Arv Z h_21 b_21 k_21 .char (1 : Int32) [(.int (0 : Int32))] (.int (0 : Int32)) := (Arv.new A_21 (by decide)).pad (pad_rep [] (.int (0 : Int32)) 1)
      have K_24 : Keep h0 h_21 [] := K0.ext E_21
      have y_24 : n0 ≤ h_21.size := Nat.le_trans Z0 K_24.1
      have hk_24 := Nat.le_trans hk0 E_21.1
      refine GoesW.go (U' := (T_21.setTop (mkF m 45 #[sI_ xv, sI_ xl, sI_ (xl &&& (3 : Int32)), sI_ ((xv &&& (255 : Int32)).toUInt32.toUInt16.toUInt32.toInt32), sI_ ((((xv.toUInt32 >>> ((8 : Int32) &&& 31).toUInt32).toInt32) &&& (255 : Int32)).toUInt32.toUInt16.toUInt32.toInt32), sU_] [(.ref b_21)]))) st_21 ?_
      refine GoesW.go (U' := (T_21.setTop (mkF m 51 #[sI_ xv, sI_ xl, sI_ (xl &&& (3 : Int32)), sI_ ((xv &&& (255 : Int32)).toUInt32.toUInt16.toUInt32.toInt32), sI_ ((((xv.toUInt32 >>> ((8 : Int32) &&& 31).toUInt32).toInt32) &&& (255 : Int32)).toUInt32.toUInt16.toUInt32.toInt32), sR_ b_21] [(.int ((xv &&& (255 : Int32)).toUInt32.toUInt16.toUInt32.toInt32)), (.int (0 : Int32)), (.ref b_21)]))) (fun t kt => ?_) ?_
      · skip
        refine XS.astore X_21.here hx rfl (hb hby d_rm_mk_45) rfl rfl (l' := #[sI_ xv, sI_ xl, sI_ (xl &&& (3 : Int32)), sI_ ((xv &&& (255 : Int32)).toUInt32.toUInt16.toUInt32.toInt32), sI_ ((((xv.toUInt32 >>> ((8 : Int32) &&& 31).toUInt32).toInt32) &&& (255 : Int32)).toUInt32.toUInt16.toUInt32.toInt32), sR_ b_21]) rfl ?_
        refine XS.aload X_21.here hx rfl (hb hby d_rm_mk_47) rfl rfl ?_
        refine XS.iconst X_21.here hx rfl (hb hby d_rm_mk_49) ?_
        refine XS.iloadN X_21.here hx rfl (hb hby d_rm_mk_50) rfl ?_
        exact kt
      obtain ⟨cl_25, Ar_25, q_25, S_25, M_25, H_25, G_25⟩ := id V_21
      have hin_25 : ¬ ((0 : Int32) < 0 ∨ cl_25.slots.size ≤ ((0 : Int32)).toNatClampNeg) := inb_of S_25 ⟨by decide, by decide⟩
      obtain ⟨T_25, h_25, X_25, e_25, W_25, st_25⟩ := stC X_21 hx hZ e_21 Ar_25 (j := (0 : Int32)) hin_25 (g := (mkF m 51 #[sI_ xv, sI_ xl, sI_ (xl &&& (3 : Int32)), sI_ ((xv &&& (255 : Int32)).toUInt32.toUInt16.toUInt32.toInt32), sI_ ((((xv.toUInt32 >>> ((8 : Int32) &&& 31).toUInt32).toInt32) &&& (255 : Int32)).toUInt32.toUInt16.toUInt32.toInt32), sR_ b_21] [(.int ((xv &&& (255 : Int32)).toUInt32.toUInt16.toUInt32.toInt32)), (.int (0 : Int32)), (.ref b_21)])) rfl rfl (hb hby d_rm_mk_51)
      have V_25 : Arv Z h_25 b_21 k_21 .char (1 : Int32) [(.int (nar .char ((xv &&& (255 : Int32)).toUInt32.toUInt16.toUInt32.toInt32)))] (.int (0 : Int32)) := Arv.set Ar_25 q_25 S_25 M_25 H_25 G_25 (fits_nar_char _) W_25 0 rfl (Nat.le_of_ble_eq_true rfl)
      have N_25 := Fr.snoc X_25 N0 o_21
      have f_26 : Old Z n0 h_25 := f_22.wr W_25 o_21
      have f_27 : LIv Z s.vm h_25 := f_23.keepA (Keep.of_wr W_25) V_21 (wdOf hw 5 rfl)
      have K_29 : Keep h0 h_25 [] := K_24.wr W_25 (Or.inr z_21)
      have y_29 : n0 ≤ h_25.size := Nat.le_trans Z0 K_29.1
      have hk_29 := Nat.le_trans hk_24 (Nat.le_of_eq W_25.size.symm)
      refine GoesW.go (U' := (T_25.setTop (mkF m 52 #[sI_ xv, sI_ xl, sI_ (xl &&& (3 : Int32)), sI_ ((xv &&& (255 : Int32)).toUInt32.toUInt16.toUInt32.toInt32), sI_ ((((xv.toUInt32 >>> ((8 : Int32) &&& 31).toUInt32).toInt32) &&& (255 : Int32)).toUInt32.toUInt16.toUInt32.toInt32), sR_ b_21] []))) st_25 ?_
      obtain ⟨T_30, h_30, X_30, e_30, E_30, A_30, D_30, -, st_30⟩ := newO X_25 hx hZ hown (wdOf hw 4 rfl) (wdOf hw 5 rfl) (wdOf hw 6 rfl) e_25 (g := (mkF m 52 #[sI_ xv, sI_ xl, sI_ (xl &&& (3 : Int32)), sI_ ((xv &&& (255 : Int32)).toUInt32.toUInt16.toUInt32.toInt32), sI_ ((((xv.toUInt32 >>> ((8 : Int32) &&& 31).toUInt32).toInt32) &&& (255 : Int32)).toUInt32.toUInt16.toUInt32.toInt32), sR_ b_21] [])) rfl (hb hby d_rm_mk_52) (by decide) (by decide)
      obtain ⟨b_30, g_30⟩ : ∃ z, z = h_25.size := ⟨_, rfl⟩
      rw [← g_30] at A_30 D_30 st_30
      have ne_31 : b_21 ≠ b_30 := Nat.ne_of_lt (Nat.lt_of_lt_of_le V_25.lt (Nat.le_of_eq g_30.symm))
      have o_30 : n0 ≤ b_30 := Nat.le_trans y_29 (Nat.le_of_eq g_30.symm)
      have z_30 : h0.size ≤ b_30 := Nat.le_trans K_29.1 (Nat.le_of_eq g_30.symm)
      have f_32 : Old Z n0 h_30 := f_26.ext E_30
      have f_33 : LIv Z s.vm h_30 := f_27.ext E_30
      have f_34 : Arv Z h_30 b_21 k_21 .char (1 : Int32) [(.int (nar .char ((xv &&& (255 : Int32)).toUInt32.toUInt16.toUInt32.toInt32)))] (.int (0 : Int32)) := V_25.ext E_30
      have f_35 : Fld Z h_30 b_30 "java/lang/String" "value" "[B" .null := D_30 (Or.inr (wdOf hw 20 rfl)) (ty := (.array .byte)) (by decide)
      have f_36 : Fld Z h_30 b_30 "java/lang/String" "coder" "B" (.int (0 : Int32)) := D_30 (Or.inr (wdOf hw 21 rfl)) (ty := .byte) (by decide)
      have K_37 : Keep h0 h_30 [] := K_29.ext E_30
      have y_37 : n0 ≤ h_30.size := Nat.le_trans Z0 K_37.1
      have hk_37 := Nat.le_trans hk_29 E_30.1
      refine GoesW.go (U' := (T_30.setTop (mkF m 55 #[sI_ xv, sI_ xl, sI_ (xl &&& (3 : Int32)), sI_ ((xv &&& (255 : Int32)).toUInt32.toUInt16.toUInt32.toInt32), sI_ ((((xv.toUInt32 >>> ((8 : Int32) &&& 31).toUInt32).toInt32) &&& (255 : Int32)).toUInt32.toUInt16.toUInt32.toInt32), sR_ b_21] [(.ref b_30)]))) st_30 ?_
      refine GoesW.go (U' := (T_30.setTop (mkF m 58 #[sI_ xv, sI_ xl, sI_ (xl &&& (3 : Int32)), sI_ ((xv &&& (255 : Int32)).toUInt32.toUInt16.toUInt32.toInt32), sI_ ((((xv.toUInt32 >>> ((8 : Int32) &&& 31).toUInt32).toInt32) &&& (255 : Int32)).toUInt32.toUInt16.toUInt32.toInt32), sR_ b_21] [(.ref b_21), (.ref b_30), (.ref b_30)]))) (fun t kt => ?_) ?_
      · skip
        refine XS.dup X_30.here hx rfl (hb hby d_rm_mk_55) rfl rfl ?_
        refine XS.aload X_30.here hx rfl (hb hby d_rm_mk_56) rfl rfl ?_
        exact kt
      obtain ⟨v_38, T_38, L_38, X_38, q_38, st_38⟩ := callInit X_30 hx hZ (y := (⟨"java/lang/String", "<init>", "([C)V"⟩ : MethodName)) (W := 1) rfl hown (wdOf hw 8 rfl) (wdOf hw 9 rfl) (wdOf hw 6 rfl) (wdOf hw 10 rfl) (by decide) (rm_sc1 l Z a0 hw [] b_30 b_21 k_21 cs ((nar .char ((xv &&& (255 : Int32)).toUInt32.toUInt16.toUInt32.toInt32))) h_30 n0 y_37 f_32 SC hcs o_30 A_30 f_35 f_36 f_34 (own_nff _)) (by decide) (by decide) (by decide) (by decide) e_30 (b := b_30) (g := (mkF m 58 #[sI_ xv, sI_ xl, sI_ (xl &&& (3 : Int32)), sI_ ((xv &&& (255 : Int32)).toUInt32.toUInt16.toUInt32.toInt32), sI_ ((((xv.toUInt32 >>> ((8 : Int32) &&& 31).toUInt32).toInt32) &&& (255 : Int32)).toUInt32.toUInt16.toUInt32.toInt32), sR_ b_21] [(.ref b_21), (.ref b_30), (.ref b_30)])) rfl (by rw [hml]; rfl) (argsL := [(.ref b_21)]) (rest := [(.ref b_30)]) (lenOf pd_8 rfl) rfl rfl (Nat.le_refl _) (hb hby d_rm_mk_58)
      obtain ⟨rfl, n_38, K_38, Eq_38⟩ := q_38
      have N_38 := Fr.app N_25 n_38
      have f_39 : Old Z n0 T_38.heap := f_32.keep K_38 (allS o_30 all0)
      have f_40 : Exa Z T_38.heap b_30 "java/lang/String" := A_30.keep K_38
      have K_43 : Keep h0 T_38.heap [] := K_37.trans K_38 (allS (P := fun x => x ∈ [] ∨ h0.size ≤ x) (Or.inr z_30) all0)
      have y_43 : n0 ≤ T_38.heap.size := Nat.le_trans Z0 K_43.1
      have hk_43 := Nat.le_trans hk_37 K_38.1
      refine GoesW.go (U' := (T_38.setTop (mkF m 61 #[sI_ xv, sI_ xl, sI_ (xl &&& (3 : Int32)), sI_ ((xv &&& (255 : Int32)).toUInt32.toUInt16.toUInt32.toInt32), sI_ ((((xv.toUInt32 >>> ((8 : Int32) &&& 31).toUInt32).toInt32) &&& (255 : Int32)).toUInt32.toUInt16.toUInt32.toInt32), sR_ b_21] [(.ref b_30)]))) st_38 ?_
      have KK_38 : Ext h_25 T_38.heap := Ext.of_keep (((Keep.refl h_25 []).ext E_30).trans K_38 (allS (P := fun x => x ∈ [] ∨ h_25.size ≤ x) (Or.inr (Nat.le_of_eq g_30.symm)) all0))
      have lq_38 : LIv Z s.vm T_38.heap := f_27.ext KK_38
      refine GoesW.retA X_38 hx hS (by rw [(rfl : T_38.heap = T_38.heap)]; exact hk_43) hlk hret rfl rfl (hb hby d_rm_mk_61) (by decide) (by decide) ?_
      intro V vh vv
      try rw [vv]
      try rw [vh]
      try rw [(rfl : T_38.heap = T_38.heap)]
      exact ⟨_, rfl, N_38, Ext.of_keep K_43, lq_38.warm X_38.warmed, f_40⟩
    · -- not (xl &&& (3 : Int32)) = (1 : Int32)
      refine GoesW.go (U' := (s₁.setTop (mkF m 63 #[sI_ xv, sI_ xl, sI_ (xl &&& (3 : Int32)), sI_ ((xv &&& (255 : Int32)).toUInt32.toUInt16.toUInt32.toInt32), sI_ ((((xv.toUInt32 >>> ((8 : Int32) &&& 31).toUInt32).toInt32) &&& (255 : Int32)).toUInt32.toUInt16.toUInt32.toInt32), sU_] [(.int (2 : Int32))]))) (fun t kt => ?_) ?_
      · skip
        refine XS.icmpYes X0.here hx rfl (pc0 := 39) (pc' := 62) rfl (hb hby d_rm_mk_39) rfl (XT.ii_ne_t co) (by decide) (by decide) ?_
        refine XS.iconst X0.here hx rfl (hb hby d_rm_mk_62) ?_
        exact kt
      obtain ⟨T_44, h_44, k_44, X_44, e_44, E_44, A_44, st_44⟩ := newP X0 hx hZ (wdOf hw 7 rfl) e0 (g := (mkF m 63 #[sI_ xv, sI_ xl, sI_ (xl &&& (3 : Int32)), sI_ ((xv &&& (255 : Int32)).toUInt32.toUInt16.toUInt32.toInt32), sI_ ((((xv.toUInt32 >>> ((8 : Int32) &&& 31).toUInt32).toInt32) &&& (255 : Int32)).toUInt32.toUInt16.toUInt32.toInt32), sU_] [(.int (2 : Int32))])) rfl (hb hby d_rm_mk_63) rfl (by decide) (cap := 2) (by decide) (by decide) (by decide) (by decide)
      obtain ⟨b_44, g_44⟩ : ∃ z, z = h0.size := ⟨_, rfl⟩
      rw [← g_44] at A_44 st_44
      have o_44 : n0 ≤ b_44 := Nat.le_trans Z0 (Nat.le_of_eq g_44.symm)
      have z_44 : h0.size ≤ b_44 := Nat.le_trans K0.1 (Nat.le_of_eq g_44.symm)
      have f_45 : Old Z n0 h_44 := O.ext E_44
      have f_46 : LIv Z s.vm h_44 := hLI.ext E_44
      have V_44 : Arv Z h_44 b_44 k_44 .char (2 : Int32) [(.int (0 : Int32)), (.int (0 : Int32))] (.int (0 : Int32)) := (Arv.new A_44 (by decide)).pad (pad_rep [] (.int (0 : Int32)) 2)
      have K_47 : Keep h0 h_44 [] := K0.ext E_44
      have y_47 : n0 ≤ h_44.size := Nat.le_trans Z0 K_47.1
      have hk_47 := Nat.le_trans hk0 E_44.1
      refine GoesW.go (U' := (T_44.setTop (mkF m 65 #[sI_ xv, sI_ xl, sI_ (xl &&& (3 : Int32)), sI_ ((xv &&& (255 : Int32)).toUInt32.toUInt16.toUInt32.toInt32), sI_ ((((xv.toUInt32 >>> ((8 : Int32) &&& 31).toUInt32).toInt32) &&& (255 : Int32)).toUInt32.toUInt16.toUInt32.toInt32), sU_] [(.ref b_44)]))) st_44 ?_
      refine GoesW.go (U' := (T_44.setTop (mkF m 71 #[sI_ xv, sI_ xl, sI_ (xl &&& (3 : Int32)), sI_ ((xv &&& (255 : Int32)).toUInt32.toUInt16.toUInt32.toInt32), sI_ ((((xv.toUInt32 >>> ((8 : Int32) &&& 31).toUInt32).toInt32) &&& (255 : Int32)).toUInt32.toUInt16.toUInt32.toInt32), sR_ b_44] [(.int ((xv &&& (255 : Int32)).toUInt32.toUInt16.toUInt32.toInt32)), (.int (0 : Int32)), (.ref b_44)]))) (fun t kt => ?_) ?_
      · skip
        refine XS.astore X_44.here hx rfl (hb hby d_rm_mk_65) rfl rfl (l' := #[sI_ xv, sI_ xl, sI_ (xl &&& (3 : Int32)), sI_ ((xv &&& (255 : Int32)).toUInt32.toUInt16.toUInt32.toInt32), sI_ ((((xv.toUInt32 >>> ((8 : Int32) &&& 31).toUInt32).toInt32) &&& (255 : Int32)).toUInt32.toUInt16.toUInt32.toInt32), sR_ b_44]) rfl ?_
        refine XS.aload X_44.here hx rfl (hb hby d_rm_mk_67) rfl rfl ?_
        refine XS.iconst X_44.here hx rfl (hb hby d_rm_mk_69) ?_
        refine XS.iloadN X_44.here hx rfl (hb hby d_rm_mk_70) rfl ?_
        exact kt
      obtain ⟨cl_48, Ar_48, q_48, S_48, M_48, H_48, G_48⟩ := id V_44
      have hin_48 : ¬ ((0 : Int32) < 0 ∨ cl_48.slots.size ≤ ((0 : Int32)).toNatClampNeg) := inb_of S_48 ⟨by decide, by decide⟩
      obtain ⟨T_48, h_48, X_48, e_48, W_48, st_48⟩ := stC X_44 hx hZ e_44 Ar_48 (j := (0 : Int32)) hin_48 (g := (mkF m 71 #[sI_ xv, sI_ xl, sI_ (xl &&& (3 : Int32)), sI_ ((xv &&& (255 : Int32)).toUInt32.toUInt16.toUInt32.toInt32), sI_ ((((xv.toUInt32 >>> ((8 : Int32) &&& 31).toUInt32).toInt32) &&& (255 : Int32)).toUInt32.toUInt16.toUInt32.toInt32), sR_ b_44] [(.int ((xv &&& (255 : Int32)).toUInt32.toUInt16.toUInt32.toInt32)), (.int (0 : Int32)), (.ref b_44)])) rfl rfl (hb hby d_rm_mk_71)
      have V_48 : Arv Z h_48 b_44 k_44 .char (2 : Int32) [(.int (nar .char ((xv &&& (255 : Int32)).toUInt32.toUInt16.toUInt32.toInt32))), (.int (0 : Int32))] (.int (0 : Int32)) := Arv.set Ar_48 q_48 S_48 M_48 H_48 G_48 (fits_nar_char _) W_48 0 rfl (Nat.le_of_ble_eq_true rfl)
      have N_48 := Fr.snoc X_48 N0 o_44
      have f_49 : Old Z n0 h_48 := f_45.wr W_48 o_44
      have f_50 : LIv Z s.vm h_48 := f_46.keepA (Keep.of_wr W_48) V_44 (wdOf hw 5 rfl)
      have K_52 : Keep h0 h_48 [] := K_47.wr W_48 (Or.inr z_44)
      have y_52 : n0 ≤ h_48.size := Nat.le_trans Z0 K_52.1
      have hk_52 := Nat.le_trans hk_47 (Nat.le_of_eq W_48.size.symm)
      refine GoesW.go (U' := (T_48.setTop (mkF m 72 #[sI_ xv, sI_ xl, sI_ (xl &&& (3 : Int32)), sI_ ((xv &&& (255 : Int32)).toUInt32.toUInt16.toUInt32.toInt32), sI_ ((((xv.toUInt32 >>> ((8 : Int32) &&& 31).toUInt32).toInt32) &&& (255 : Int32)).toUInt32.toUInt16.toUInt32.toInt32), sR_ b_44] []))) st_48 ?_
      refine GoesW.go (U' := (T_48.setTop (mkF m 77 #[sI_ xv, sI_ xl, sI_ (xl &&& (3 : Int32)), sI_ ((xv &&& (255 : Int32)).toUInt32.toUInt16.toUInt32.toInt32), sI_ ((((xv.toUInt32 >>> ((8 : Int32) &&& 31).toUInt32).toInt32) &&& (255 : Int32)).toUInt32.toUInt16.toUInt32.toInt32), sR_ b_44] [(.int ((((xv.toUInt32 >>> ((8 : Int32) &&& 31).toUInt32).toInt32) &&& (255 : Int32)).toUInt32.toUInt16.toUInt32.toInt32)), (.int (1 : Int32)), (.ref b_44)]))) (fun t kt => ?_) ?_
      · skip
        refine XS.aload X_48.here hx rfl (hb hby d_rm_mk_72) rfl rfl ?_
        refine XS.iconst X_48.here hx rfl (hb hby d_rm_mk_74) ?_
        refine XS.iload X_48.here hx rfl (hb hby d_rm_mk_75) rfl ?_
        exact kt
      obtain ⟨cl_53, Ar_53, q_53, S_53, M_53, H_53, G_53⟩ := id V_48
      have hin_53 : ¬ ((1 : Int32) < 0 ∨ cl_53.slots.size ≤ ((1 : Int32)).toNatClampNeg) := inb_of S_53 ⟨by decide, by decide⟩
      obtain ⟨T_53, h_53, X_53, e_53, W_53, st_53⟩ := stC X_48 hx hZ e_48 Ar_53 (j := (1 : Int32)) hin_53 (g := (mkF m 77 #[sI_ xv, sI_ xl, sI_ (xl &&& (3 : Int32)), sI_ ((xv &&& (255 : Int32)).toUInt32.toUInt16.toUInt32.toInt32), sI_ ((((xv.toUInt32 >>> ((8 : Int32) &&& 31).toUInt32).toInt32) &&& (255 : Int32)).toUInt32.toUInt16.toUInt32.toInt32), sR_ b_44] [(.int ((((xv.toUInt32 >>> ((8 : Int32) &&& 31).toUInt32).toInt32) &&& (255 : Int32)).toUInt32.toUInt16.toUInt32.toInt32)), (.int (1 : Int32)), (.ref b_44)])) rfl rfl (hb hby d_rm_mk_77)
      have V_53 : Arv Z h_53 b_44 k_44 .char (2 : Int32) [(.int (nar .char ((xv &&& (255 : Int32)).toUInt32.toUInt16.toUInt32.toInt32))), (.int (nar .char ((((xv.toUInt32 >>> ((8 : Int32) &&& 31).toUInt32).toInt32) &&& (255 : Int32)).toUInt32.toUInt16.toUInt32.toInt32)))] (.int (0 : Int32)) := Arv.set Ar_53 q_53 S_53 M_53 H_53 G_53 (fits_nar_char _) W_53 1 rfl (Nat.le_of_ble_eq_true rfl)
      have N_53 := Fr.snoc X_53 N_48 o_44
      have f_54 : Old Z n0 h_53 := f_49.wr W_53 o_44
      have f_55 : LIv Z s.vm h_53 := f_50.keepA (Keep.of_wr W_53) V_48 (wdOf hw 5 rfl)
      have K_57 : Keep h0 h_53 [] := K_52.wr W_53 (Or.inr z_44)
      have y_57 : n0 ≤ h_53.size := Nat.le_trans Z0 K_57.1
      have hk_57 := Nat.le_trans hk_52 (Nat.le_of_eq W_53.size.symm)
      refine GoesW.go (U' := (T_53.setTop (mkF m 78 #[sI_ xv, sI_ xl, sI_ (xl &&& (3 : Int32)), sI_ ((xv &&& (255 : Int32)).toUInt32.toUInt16.toUInt32.toInt32), sI_ ((((xv.toUInt32 >>> ((8 : Int32) &&& 31).toUInt32).toInt32) &&& (255 : Int32)).toUInt32.toUInt16.toUInt32.toInt32), sR_ b_44] []))) st_53 ?_
      obtain ⟨T_58, h_58, X_58, e_58, E_58, A_58, D_58, -, st_58⟩ := newO X_53 hx hZ hown (wdOf hw 4 rfl) (wdOf hw 5 rfl) (wdOf hw 6 rfl) e_53 (g := (mkF m 78 #[sI_ xv, sI_ xl, sI_ (xl &&& (3 : Int32)), sI_ ((xv &&& (255 : Int32)).toUInt32.toUInt16.toUInt32.toInt32), sI_ ((((xv.toUInt32 >>> ((8 : Int32) &&& 31).toUInt32).toInt32) &&& (255 : Int32)).toUInt32.toUInt16.toUInt32.toInt32), sR_ b_44] [])) rfl (hb hby d_rm_mk_78) (by decide) (by decide)
      obtain ⟨b_58, g_58⟩ : ∃ z, z = h_53.size := ⟨_, rfl⟩
      rw [← g_58] at A_58 D_58 st_58
      have ne_59 : b_44 ≠ b_58 := Nat.ne_of_lt (Nat.lt_of_lt_of_le V_53.lt (Nat.le_of_eq g_58.symm))
      have o_58 : n0 ≤ b_58 := Nat.le_trans y_57 (Nat.le_of_eq g_58.symm)
      have z_58 : h0.size ≤ b_58 := Nat.le_trans K_57.1 (Nat.le_of_eq g_58.symm)
      have f_60 : Old Z n0 h_58 := f_54.ext E_58
      have f_61 : LIv Z s.vm h_58 := f_55.ext E_58
      have f_62 : Arv Z h_58 b_44 k_44 .char (2 : Int32) [(.int (nar .char ((xv &&& (255 : Int32)).toUInt32.toUInt16.toUInt32.toInt32))), (.int (nar .char ((((xv.toUInt32 >>> ((8 : Int32) &&& 31).toUInt32).toInt32) &&& (255 : Int32)).toUInt32.toUInt16.toUInt32.toInt32)))] (.int (0 : Int32)) := V_53.ext E_58
      have f_63 : Fld Z h_58 b_58 "java/lang/String" "value" "[B" .null := D_58 (Or.inr (wdOf hw 20 rfl)) (ty := (.array .byte)) (by decide)
      have f_64 : Fld Z h_58 b_58 "java/lang/String" "coder" "B" (.int (0 : Int32)) := D_58 (Or.inr (wdOf hw 21 rfl)) (ty := .byte) (by decide)
      have K_65 : Keep h0 h_58 [] := K_57.ext E_58
      have y_65 : n0 ≤ h_58.size := Nat.le_trans Z0 K_65.1
      have hk_65 := Nat.le_trans hk_57 E_58.1
      refine GoesW.go (U' := (T_58.setTop (mkF m 81 #[sI_ xv, sI_ xl, sI_ (xl &&& (3 : Int32)), sI_ ((xv &&& (255 : Int32)).toUInt32.toUInt16.toUInt32.toInt32), sI_ ((((xv.toUInt32 >>> ((8 : Int32) &&& 31).toUInt32).toInt32) &&& (255 : Int32)).toUInt32.toUInt16.toUInt32.toInt32), sR_ b_44] [(.ref b_58)]))) st_58 ?_
      refine GoesW.go (U' := (T_58.setTop (mkF m 84 #[sI_ xv, sI_ xl, sI_ (xl &&& (3 : Int32)), sI_ ((xv &&& (255 : Int32)).toUInt32.toUInt16.toUInt32.toInt32), sI_ ((((xv.toUInt32 >>> ((8 : Int32) &&& 31).toUInt32).toInt32) &&& (255 : Int32)).toUInt32.toUInt16.toUInt32.toInt32), sR_ b_44] [(.ref b_44), (.ref b_58), (.ref b_58)]))) (fun t kt => ?_) ?_
      · skip
        refine XS.dup X_58.here hx rfl (hb hby d_rm_mk_81) rfl rfl ?_
        refine XS.aload X_58.here hx rfl (hb hby d_rm_mk_82) rfl rfl ?_
        exact kt
      obtain ⟨v_66, T_66, L_66, X_66, q_66, st_66⟩ := callInit X_58 hx hZ (y := (⟨"java/lang/String", "<init>", "([C)V"⟩ : MethodName)) (W := 1) rfl hown (wdOf hw 8 rfl) (wdOf hw 9 rfl) (wdOf hw 6 rfl) (wdOf hw 10 rfl) (by decide) (rm_sc2 l Z a0 hw [] b_58 b_44 k_44 cs ((nar .char ((xv &&& (255 : Int32)).toUInt32.toUInt16.toUInt32.toInt32))) ((nar .char ((((xv.toUInt32 >>> ((8 : Int32) &&& 31).toUInt32).toInt32) &&& (255 : Int32)).toUInt32.toUInt16.toUInt32.toInt32))) h_58 n0 y_65 f_60 SC hcs o_58 A_58 f_63 f_64 f_62 (own_nff _) (own_nff _)) (by decide) (by decide) (by decide) (by decide) e_58 (b := b_58) (g := (mkF m 84 #[sI_ xv, sI_ xl, sI_ (xl &&& (3 : Int32)), sI_ ((xv &&& (255 : Int32)).toUInt32.toUInt16.toUInt32.toInt32), sI_ ((((xv.toUInt32 >>> ((8 : Int32) &&& 31).toUInt32).toInt32) &&& (255 : Int32)).toUInt32.toUInt16.toUInt32.toInt32), sR_ b_44] [(.ref b_44), (.ref b_58), (.ref b_58)])) rfl (by rw [hml]; rfl) (argsL := [(.ref b_44)]) (rest := [(.ref b_58)]) (lenOf pd_8 rfl) rfl rfl (Nat.le_refl _) (hb hby d_rm_mk_84)
      obtain ⟨rfl, n_66, K_66, Eq_66⟩ := q_66
      have N_66 := Fr.app N_53 n_66
      have f_67 : Old Z n0 T_66.heap := f_60.keep K_66 (allS o_58 all0)
      have f_68 : Exa Z T_66.heap b_58 "java/lang/String" := A_58.keep K_66
      have K_71 : Keep h0 T_66.heap [] := K_65.trans K_66 (allS (P := fun x => x ∈ [] ∨ h0.size ≤ x) (Or.inr z_58) all0)
      have y_71 : n0 ≤ T_66.heap.size := Nat.le_trans Z0 K_71.1
      have hk_71 := Nat.le_trans hk_65 K_66.1
      refine GoesW.go (U' := (T_66.setTop (mkF m 87 #[sI_ xv, sI_ xl, sI_ (xl &&& (3 : Int32)), sI_ ((xv &&& (255 : Int32)).toUInt32.toUInt16.toUInt32.toInt32), sI_ ((((xv.toUInt32 >>> ((8 : Int32) &&& 31).toUInt32).toInt32) &&& (255 : Int32)).toUInt32.toUInt16.toUInt32.toInt32), sR_ b_44] [(.ref b_58)]))) st_66 ?_
      have KK_66 : Ext h_53 T_66.heap := Ext.of_keep (((Keep.refl h_53 []).ext E_58).trans K_66 (allS (P := fun x => x ∈ [] ∨ h_53.size ≤ x) (Or.inr (Nat.le_of_eq g_58.symm)) all0))
      have lq_66 : LIv Z s.vm T_66.heap := f_55.ext KK_66
      refine GoesW.retA X_66 hx hS (by rw [(rfl : T_66.heap = T_66.heap)]; exact hk_71) hlk hret rfl rfl (hb hby d_rm_mk_87) (by decide) (by decide) ?_
      intro V vh vv
      try rw [vv]
      try rw [vh]
      try rw [(rfl : T_66.heap = T_66.heap)]
      exact ⟨_, rfl, N_66, Ext.of_keep K_71, lq_66.warm X_66.warmed, f_68⟩
theorem d_rm_wd_0 : decode prog_18_method_12_code 0 = .ok (.new 8, 3) := by decide +kernel
theorem d_rm_wd_3 : decode prog_18_method_12_code 3 = .ok (.dup, 1) := by decide +kernel
theorem d_rm_wd_4 : decode prog_18_method_12_code 4 = .ok (.aload_n 1, 1) := by decide +kernel
theorem d_rm_wd_5 : decode prog_18_method_12_code 5 = .ok (.aload_n 0, 1) := by decide +kernel
theorem d_rm_wd_6 : decode prog_18_method_12_code 6 = .ok (.getfield 13, 3) := by decide +kernel
theorem d_rm_wd_9 : decode prog_18_method_12_code 9 = .ok (.aload_n 0, 1) := by decide +kernel
theorem d_rm_wd_10 : decode prog_18_method_12_code 10 = .ok (.getfield 17, 3) := by decide +kernel
theorem d_rm_wd_13 : decode prog_18_method_12_code 13 = .ok (.aload_n 0, 1) := by decide +kernel
theorem d_rm_wd_14 : decode prog_18_method_12_code 14 = .ok (.getfield 20, 3) := by decide +kernel
theorem d_rm_wd_17 : decode prog_18_method_12_code 17 = .ok (.aload_n 0, 1) := by decide +kernel
theorem d_rm_wd_18 : decode prog_18_method_12_code 18 = .ok (.getfield 23, 3) := by decide +kernel
theorem d_rm_wd_21 : decode prog_18_method_12_code 21 = .ok (.invokespecial 123, 3) := by decide +kernel
theorem d_rm_wd_24 : decode prog_18_method_12_code 24 = .ok (.areturn, 1) := by decide +kernel
set_option maxHeartbeats 4000000 in
theorem ef_rm_wd (m : MethodId) (x0 : Addr) (x1 : Value) (rx1 : x1.isRef = true) : entryFrame m #[(.ref x0), x1] 2 = mkF m 0 #[.val (.ref x0), .val x1] [] := by simp [entryFrame, mkF, argsToLocals, catR, catN, catI, catJ, XT.cat1 rx1]
set_option maxRecDepth 65536 in
set_option maxHeartbeats 40000000 in
theorem rm_wd (l : Launch) (Z : State) (a0 : Array Value) (hw : ∀ d ∈ tables_1, d.before a0 Z = true) (ws : List Jvm.Cond) (ax : Addr) (x1 x2 x3 x4 x5 xm : Value) (qm : xm.isRef = true) (q1 : x1.isRef = true) (q2 : x2.isRef = true) (q3 : x3.isRef = true) (q4 : x4.isRef = true) (q5 : x5.isRef = true) (h0 : Heap) (n0 : Nat) (Z0 : n0 ≤ h0.size) (Ea : Exa Z h0 ax "com/example/kilnroute/kilnroute/spark/Resources") (Fa_driverMemory : Fld Z h0 ax "com/example/kilnroute/kilnroute/spark/Resources" "driverMemory" "Ljava/lang/String;" x1) (Fa_driverCores : Fld Z h0 ax "com/example/kilnroute/kilnroute/spark/Resources" "driverCores" "Ljava/lang/Integer;" x2) (Fa_executorMemory : Fld Z h0 ax "com/example/kilnroute/kilnroute/spark/Resources" "executorMemory" "Ljava/lang/String;" x3) (Fa_executorCores : Fld Z h0 ax "com/example/kilnroute/kilnroute/spark/Resources" "executorCores" "Ljava/lang/Integer;" x4) (Fa_numExecutors : Fld Z h0 ax "com/example/kilnroute/kilnroute/spark/Resources" "numExecutors" "Ljava/lang/Integer;" x5) :
    Pays l Z (⟨"com/example/kilnroute/kilnroute/spark/Resources", "withDriverMemory", "(Ljava/lang/String;)Lcom/example/kilnroute/kilnroute/spark/Resources;"⟩ : MethodName) prog_18_method_12_code 2 (some (.object "com/example/kilnroute/kilnroute/spark/Resources")) ws ({ frames := 3, cells := 1, slots := 5, locals := 42 } : Room) #[(.ref ax), xm] h0 (fun v h L => ∃ r, v = some (.ref r) ∧ Fr n0 L ∧ Ext h0 h ∧ Exa Z h r "com/example/kilnroute/kilnroute/spark/Resources" ∧ Fld Z h r "com/example/kilnroute/kilnroute/spark/Resources" "driverMemory" "Ljava/lang/String;" xm ∧ Fld Z h r "com/example/kilnroute/kilnroute/spark/Resources" "driverCores" "Ljava/lang/Integer;" x2 ∧ Fld Z h r "com/example/kilnroute/kilnroute/spark/Resources" "executorMemory" "Ljava/lang/String;" x3 ∧ Fld Z h r "com/example/kilnroute/kilnroute/spark/Resources" "executorCores" "Ljava/lang/Integer;" x4 ∧ Fld Z h r "com/example/kilnroute/kilnroute/spark/Resources" "numExecutors" "Ljava/lang/Integer;" x5) := by
  refine Pays.of (plainFor_of_name (by first | (simp [plainName, overriddenIn]; done) | decide +kernel)) ?_
  intro p e s m below meth c s₁ hx hby hml hown hnm hret hlk hZ e0 X0
  have N0 := Fr.nil n0
  have K0 : Keep h0 h0 [] := Keep.refl _ _
  refine Goes.go (U' := (s₁.setTop (mkF m 0 #[sR_ ax, .val xm] []))) (fun t kt => castTop (ef_rm_wd m ax xm qm) kt) ?_
  obtain ⟨T_1, h_1, X_1, e_1, E_1, A_1, D_1, -, st_1⟩ := newO X0 hx hZ hown (wdOf hw 60 rfl) (wdOf hw 34 rfl) (wdOf hw 35 rfl) e0 (g := (mkF m 0 #[sR_ ax, .val xm] [])) rfl (hb hby d_rm_wd_0) (by decide) (by decide)
  obtain ⟨b_1, g_1⟩ : ∃ z, z = h0.size := ⟨_, rfl⟩
  rw [← g_1] at A_1 D_1 st_1
  have ne_2 : ax ≠ b_1 := Nat.ne_of_lt (Nat.lt_of_lt_of_le Ea.lt (Nat.le_of_eq g_1.symm))
  have o_1 : n0 ≤ b_1 := Nat.le_trans Z0 (Nat.le_of_eq g_1.symm)
  have z_1 : h0.size ≤ b_1 := Nat.le_trans K0.1 (Nat.le_of_eq g_1.symm)
  have f_3 : Exa Z h_1 ax "com/example/kilnroute/kilnroute/spark/Resources" := Ea.ext E_1
  have f_4 : Fld Z h_1 ax "com/example/kilnroute/kilnroute/spark/Resources" "driverMemory" "Ljava/lang/String;" x1 := Fa_driverMemory.ext E_1
  have f_5 : Fld Z h_1 ax "com/example/kilnroute/kilnroute/spark/Resources" "driverCores" "Ljava/lang/Integer;" x2 := Fa_driverCores.ext E_1
  have f_6 : Fld Z h_1 ax "com/example/kilnroute/kilnroute/spark/Resources" "executorMemory" "Ljava/lang/String;" x3 := Fa_executorMemory.ext E_1
  have f_7 : Fld Z h_1 ax "com/example/kilnroute/kilnroute/spark/Resources" "executorCores" "Ljava/lang/Integer;" x4 := Fa_executorCores.ext E_1
  have f_8 : Fld Z h_1 ax "com/example/kilnroute/kilnroute/spark/Resources" "numExecutors" "Ljava/lang/Integer;" x5 := Fa_numExecutors.ext E_1
  have f_9 : Fld Z h_1 b_1 "com/example/kilnroute/kilnroute/spark/Resources" "driverMemory" "Ljava/lang/String;" .null := D_1 (Or.inr (wdOf hw 46 rfl)) (ty := (.object "java/lang/String")) (by decide)
  have f_10 : Fld Z h_1 b_1 "com/example/kilnroute/kilnroute/spark/Resources" "driverCores" "Ljava/lang/Integer;" .null := D_1 (Or.inr (wdOf hw 48 rfl)) (ty := (.object "java/lang/Integer")) (by decide)
  have f_11 : Fld Z h_1 b_1 "com/example/kilnroute/kilnroute/spark/Resources" "executorMemory" "Ljava/lang/String;" .null := D_1 (Or.inr (wdOf hw 50 rfl)) (ty := (.object "java/lang/String")) (by decide)
  have f_12 : Fld Z h_1 b_1 "com/example/kilnroute/kilnroute/spark/Resources" "executorCores" "Ljava/lang/Integer;" .null := D_1 (Or.inr (wdOf hw 52 rfl)) (ty := (.object "java/lang/Integer")) (by decide)
  have f_13 : Fld Z h_1 b_1 "com/example/kilnroute/kilnroute/spark/Resources" "numExecutors" "Ljava/lang/Integer;" .null := D_1 (Or.inr (wdOf hw 54 rfl)) (ty := (.object "java/lang/Integer")) (by decide)
  have K_14 : Keep h0 h_1 [] := K0.ext E_1
  have y_14 : n0 ≤ h_1.size := Nat.le_trans Z0 K_14.1
  refine Goes.go (U' := (T_1.setTop (mkF m 3 #[sR_ ax, .val xm] [(.ref b_1)]))) st_1 ?_
  refine Goes.go (U' := (T_1.setTop (mkF m 6 #[sR_ ax, .val xm] [(.ref ax), xm, (.ref b_1), (.ref b_1)]))) (fun t kt => ?_) ?_
  · skip
    refine XS.dup X_1.here hx rfl (hb hby d_rm_wd_3) rfl rfl ?_
    refine XS.aloadN X_1.here hx rfl (hb hby d_rm_wd_4) rfl qm ?_
    refine XS.aloadN X_1.here hx rfl (hb hby d_rm_wd_5) rfl rfl ?_
    exact kt
  obtain ⟨T_15, X_15, e_15, st_15⟩ := getF X_1 hx hZ hown (host := "") (Or.inl (wdOf hw 47 rfl)) Via.refl e_1 f_5 (g := (mkF m 6 #[sR_ ax, .val xm] [(.ref ax), xm, (.ref b_1), (.ref b_1)])) rfl rfl (hb hby d_rm_wd_6)
  refine Goes.go (U' := (T_15.setTop (mkF m 9 #[sR_ ax, .val xm] [x2, xm, (.ref b_1), (.ref b_1)]))) st_15 ?_
  refine Goes.go (U' := (T_15.setTop (mkF m 10 #[sR_ ax, .val xm] [(.ref ax), x2, xm, (.ref b_1), (.ref b_1)]))) (fun t kt => ?_) ?_
  · skip
    refine XS.aloadN X_15.here hx rfl (hb hby d_rm_wd_9) rfl rfl ?_
    exact kt
  obtain ⟨T_16, X_16, e_16, st_16⟩ := getF X_15 hx hZ hown (host := "") (Or.inl (wdOf hw 49 rfl)) Via.refl e_15 f_6 (g := (mkF m 10 #[sR_ ax, .val xm] [(.ref ax), x2, xm, (.ref b_1), (.ref b_1)])) rfl rfl (hb hby d_rm_wd_10)
  refine Goes.go (U' := (T_16.setTop (mkF m 13 #[sR_ ax, .val xm] [x3, x2, xm, (.ref b_1), (.ref b_1)]))) st_16 ?_
  refine Goes.go (U' := (T_16.setTop (mkF m 14 #[sR_ ax, .val xm] [(.ref ax), x3, x2, xm, (.ref b_1), (.ref b_1)]))) (fun t kt => ?_) ?_
  · skip
    refine XS.aloadN X_16.here hx rfl (hb hby d_rm_wd_13) rfl rfl ?_
    exact kt
  obtain ⟨T_17, X_17, e_17, st_17⟩ := getF X_16 hx hZ hown (host := "") (Or.inl (wdOf hw 51 rfl)) Via.refl e_16 f_7 (g := (mkF m 14 #[sR_ ax, .val xm] [(.ref ax), x3, x2, xm, (.ref b_1), (.ref b_1)])) rfl rfl (hb hby d_rm_wd_14)
  refine Goes.go (U' := (T_17.setTop (mkF m 17 #[sR_ ax, .val xm] [x4, x3, x2, xm, (.ref b_1), (.ref b_1)]))) st_17 ?_
  refine Goes.go (U' := (T_17.setTop (mkF m 18 #[sR_ ax, .val xm] [(.ref ax), x4, x3, x2, xm, (.ref b_1), (.ref b_1)]))) (fun t kt => ?_) ?_
  · skip
    refine XS.aloadN X_17.here hx rfl (hb hby d_rm_wd_17) rfl rfl ?_
    exact kt
  obtain ⟨T_18, X_18, e_18, st_18⟩ := getF X_17 hx hZ hown (host := "") (Or.inl (wdOf hw 53 rfl)) Via.refl e_17 f_8 (g := (mkF m 18 #[sR_ ax, .val xm] [(.ref ax), x4, x3, x2, xm, (.ref b_1), (.ref b_1)])) rfl rfl (hb hby d_rm_wd_18)
  refine Goes.go (U' := (T_18.setTop (mkF m 21 #[sR_ ax, .val xm] [x5, x4, x3, x2, xm, (.ref b_1), (.ref b_1)]))) st_18 ?_
  obtain ⟨v_19, T_19, L_19, X_19, q_19, st_19⟩ := callInit X_18 hx hZ (y := (⟨"com/example/kilnroute/kilnroute/spark/Resources", "<init>", "(Ljava/lang/String;Ljava/lang/Integer;Ljava/lang/String;Ljava/lang/Integer;Ljava/lang/Integer;)V"⟩ : MethodName)) (W := 1) rfl hown (wdOf hw 61 rfl) (wdOf hw 37 rfl) (wdOf hw 35 rfl) (wdOf hw 38 rfl) (by decide) (rm_ri l Z a0 hw [] b_1 xm x2 x3 x4 x5 qm q2 q3 q4 q5 h_1 n0 y_14 o_1 A_1 f_9 f_10 f_11 f_12 f_13) (by decide) (by decide) (by decide) (by decide) e_18 (b := b_1) (g := (mkF m 21 #[sR_ ax, .val xm] [x5, x4, x3, x2, xm, (.ref b_1), (.ref b_1)])) rfl (by rw [hml]; rfl) (argsL := [xm, x2, x3, x4, x5]) (rest := [(.ref b_1)]) (lenOf pd_9 rfl) rfl rfl (Nat.le_refl _) (hb hby d_rm_wd_21)
  obtain ⟨rfl, n_19, K_19, GE__19, GdriverMemory__19, GdriverCores__19, GexecutorMemory__19, GexecutorCores__19, GnumExecutors__19⟩ := q_19
  have N_19 := Fr.app N0 n_19
  have f_20 : Exa Z T_19.heap ax "com/example/kilnroute/kilnroute/spark/Resources" := f_3.keep K_19
  have f_21 : Fld Z T_19.heap ax "com/example/kilnroute/kilnroute/spark/Resources" "driverMemory" "Ljava/lang/String;" x1 := f_4.keep K_19 (ninS ne_2 nin0)
  have f_22 : Fld Z T_19.heap ax "com/example/kilnroute/kilnroute/spark/Resources" "driverCores" "Ljava/lang/Integer;" x2 := f_5.keep K_19 (ninS ne_2 nin0)
  have f_23 : Fld Z T_19.heap ax "com/example/kilnroute/kilnroute/spark/Resources" "executorMemory" "Ljava/lang/String;" x3 := f_6.keep K_19 (ninS ne_2 nin0)
  have f_24 : Fld Z T_19.heap ax "com/example/kilnroute/kilnroute/spark/Resources" "executorCores" "Ljava/lang/Integer;" x4 := f_7.keep K_19 (ninS ne_2 nin0)
  have f_25 : Fld Z T_19.heap ax "com/example/kilnroute/kilnroute/spark/Resources" "numExecutors" "Ljava/lang/Integer;" x5 := f_8.keep K_19 (ninS ne_2 nin0)
  have f_26 : Exa Z T_19.heap b_1 "com/example/kilnroute/kilnroute/spark/Resources" := A_1.keep K_19
  have K_32 : Keep h0 T_19.heap [] := K_14.trans K_19 (allS (P := fun x => x ∈ [] ∨ h0.size ≤ x) (Or.inr z_1) all0)
  have y_32 : n0 ≤ T_19.heap.size := Nat.le_trans Z0 K_32.1
  refine Goes.go (U' := (T_19.setTop (mkF m 24 #[sR_ ax, .val xm] [(.ref b_1)]))) st_19 ?_
  refine Goes.retA X_19 hx hlk hret rfl rfl (hb hby d_rm_wd_24) (by decide) (by decide) ?_
  try rw [(rfl : T_19.heap = T_19.heap)]
  exact ⟨_, rfl, N_19, Ext.of_keep K_32, f_26, GdriverMemory__19, GdriverCores__19, GexecutorMemory__19, GexecutorCores__19, GnumExecutors__19⟩
set_option maxRecDepth 65536 in
set_option maxHeartbeats 40000000 in
theorem law_120 (l : Launch) (Z : State) (a0 : Array Value) (hw : ∀ d ∈ tables_1, d.before a0 Z = true) (fl pdc pec pne ps pt : Int32) (cs : Int32) (x1 x2 x3 x4 x5 xm : Value) (h0 : Heap) (n0 : Nat) (Z0 : n0 ≤ h0.size) (p : Program) (e : Env) (s : State) (m : MethodId) (below : List Frame) (meth : Method) (c : Code) (vm0 : Vm) (k0 : Nat) (hx : p.tables.exec = Jvm.exec) (hby : c.code = code) (hml : c.maxLocals = maxLocals) (hown : (s.setVm vm0).vm.findClass "com/example/kilnroute/kilnroute/spark/ResourcesWithDriverMemoryPinLaw" = some m.cls) (hnm : meth.name = "law") (hret : meth.sig.returnType = ret) (hlk : meth.locks = false) (hZ : Z.Warmed39 (s.setVm vm0).vm) (h : Heap) (T : State) (locs : List Loc) (X : Stand p l e room_1 (s.setVm vm0) m #[(.int fl), (.int pdc), (.int pec), (.int pne), (.int ps), (.int pt)] below meth c T locs 15 27) (eT : T.heap = h) (N : Fr n0 locs) (K0 : Keep h0 h []) (O : Old Z n0 h) (BC : BoxC Z "java/lang/Integer$IntegerCache" "[Ljava/lang/Integer;" "java/lang/Integer" "I" (fun i => .int (i.toInt32 - 128))) (SH : Sta Z Z.heap "java/lang/Integer$IntegerCache" "high" "I" (.int (127 : Int32))) (SC : Sta Z Z.heap "java/lang/String" "COMPACT_STRINGS" "Z" (.int cs)) (hcs : ¬ cs = 0) (hh : Jvm.Lit.constHeld Z "java/lang/String" 7) (hcw : Jvm.Lit.compactW.before a0 Z = true) (Ux1 : RefV Z h x1 "java/lang/String") (Ux2 : IntV Z h x2) (Ux3 : RefV Z h x3 "java/lang/String") (Ux4 : IntV Z h x4) (Ux5 : IntV Z h x5) (Uxm : RefV Z h xm "java/lang/String") (hS : s.Since vm0 k0) (hk : k0 ≤ h.size) (LI0 : LIv Z vm0 h) :
    GoesW p e s below (fun v V L => v = some (.int 1) ∧ Fr n0 L) room_1.cells room_1.slots (T.setTop (mkF m 120 #[sI_ fl, sI_ pdc, sI_ pec, sI_ pne, sI_ ps, sI_ pt, .val x1, .val x2, .val x3, .val x4, .val x5, .val xm, sU_, sU_] [])) := by
  have sz0 : n0 ≤ h.size := Nat.le_trans Z0 K0.1
  obtain ⟨T_1, h_1, X_1, e_1, E_1, A_1, D_1, -, st_1⟩ := newO X hx hZ hown (wdOf hw 33 rfl) (wdOf hw 34 rfl) (wdOf hw 35 rfl) eT (g := (mkF m 120 #[sI_ fl, sI_ pdc, sI_ pec, sI_ pne, sI_ ps, sI_ pt, .val x1, .val x2, .val x3, .val x4, .val x5, .val xm, sU_, sU_] [])) rfl (hb hby at_120) (by decide) (by decide)
  obtain ⟨b_1, g_1⟩ : ∃ z, z = h.size := ⟨_, rfl⟩
  rw [← g_1] at A_1 D_1 st_1
  have o_1 : n0 ≤ b_1 := Nat.le_trans sz0 (Nat.le_of_eq g_1.symm)
  have z_1 : h0.size ≤ b_1 := Nat.le_trans K0.1 (Nat.le_of_eq g_1.symm)
  have f_2 : Old Z n0 h_1 := O.ext E_1
  have f_3 : RefV Z h_1 x1 "java/lang/String" := Ux1.ext E_1
  have f_4 : IntV Z h_1 x2 := Ux2.ext E_1
  have f_5 : RefV Z h_1 x3 "java/lang/String" := Ux3.ext E_1
  have f_6 : IntV Z h_1 x4 := Ux4.ext E_1
  have f_7 : IntV Z h_1 x5 := Ux5.ext E_1
  have f_8 : RefV Z h_1 xm "java/lang/String" := Uxm.ext E_1
  have f_9 : LIv Z vm0 h_1 := LI0.ext E_1
  have f_10 : Fld Z h_1 b_1 "com/example/kilnroute/kilnroute/spark/Resources" "driverMemory" "Ljava/lang/String;" .null := D_1 (Or.inr (wdOf hw 46 rfl)) (ty := (.object "java/lang/String")) (by decide)
  have f_11 : Fld Z h_1 b_1 "com/example/kilnroute/kilnroute/spark/Resources" "driverCores" "Ljava/lang/Integer;" .null := D_1 (Or.inr (wdOf hw 48 rfl)) (ty := (.object "java/lang/Integer")) (by decide)
  have f_12 : Fld Z h_1 b_1 "com/example/kilnroute/kilnroute/spark/Resources" "executorMemory" "Ljava/lang/String;" .null := D_1 (Or.inr (wdOf hw 50 rfl)) (ty := (.object "java/lang/String")) (by decide)
  have f_13 : Fld Z h_1 b_1 "com/example/kilnroute/kilnroute/spark/Resources" "executorCores" "Ljava/lang/Integer;" .null := D_1 (Or.inr (wdOf hw 52 rfl)) (ty := (.object "java/lang/Integer")) (by decide)
  have f_14 : Fld Z h_1 b_1 "com/example/kilnroute/kilnroute/spark/Resources" "numExecutors" "Ljava/lang/Integer;" .null := D_1 (Or.inr (wdOf hw 54 rfl)) (ty := (.object "java/lang/Integer")) (by decide)
  have K_15 : Keep h0 h_1 [] := K0.ext E_1
  have y_15 : n0 ≤ h_1.size := Nat.le_trans Z0 K_15.1
  have hk_15 := Nat.le_trans hk E_1.1
  refine GoesW.go (U' := (T_1.setTop (mkF m 123 #[sI_ fl, sI_ pdc, sI_ pec, sI_ pne, sI_ ps, sI_ pt, .val x1, .val x2, .val x3, .val x4, .val x5, .val xm, sU_, sU_] [(.ref b_1)]))) st_1 ?_
  refine GoesW.go (U' := (T_1.setTop (mkF m 134 #[sI_ fl, sI_ pdc, sI_ pec, sI_ pne, sI_ ps, sI_ pt, .val x1, .val x2, .val x3, .val x4, .val x5, .val xm, sU_, sU_] [x5, x4, x3, x2, x1, (.ref b_1), (.ref b_1)]))) (fun t kt => ?_) ?_
  · skip
    refine XS.dup X_1.here hx rfl (hb hby at_123) rfl rfl ?_
    refine XS.aload X_1.here hx rfl (hb hby at_124) rfl Ux1.isRef ?_
    refine XS.aload X_1.here hx rfl (hb hby at_126) rfl Ux2.isRef ?_
    refine XS.aload X_1.here hx rfl (hb hby at_128) rfl Ux3.isRef ?_
    refine XS.aload X_1.here hx rfl (hb hby at_130) rfl Ux4.isRef ?_
    refine XS.aload X_1.here hx rfl (hb hby at_132) rfl Ux5.isRef ?_
    exact kt
  obtain ⟨v_16, T_16, L_16, X_16, q_16, st_16⟩ := callInit X_1 hx hZ (y := (⟨"com/example/kilnroute/kilnroute/spark/Resources", "<init>", "(Ljava/lang/String;Ljava/lang/Integer;Ljava/lang/String;Ljava/lang/Integer;Ljava/lang/Integer;)V"⟩ : MethodName)) (W := 1) rfl hown (wdOf hw 36 rfl) (wdOf hw 37 rfl) (wdOf hw 35 rfl) (wdOf hw 38 rfl) (by decide) (rm_ri l Z a0 hw [] b_1 x1 x2 x3 x4 x5 Ux1.isRef Ux2.isRef Ux3.isRef Ux4.isRef Ux5.isRef h_1 n0 y_15 o_1 A_1 f_10 f_11 f_12 f_13 f_14) (by decide) (by decide) (by decide) (by decide) e_1 (b := b_1) (g := (mkF m 134 #[sI_ fl, sI_ pdc, sI_ pec, sI_ pne, sI_ ps, sI_ pt, .val x1, .val x2, .val x3, .val x4, .val x5, .val xm, sU_, sU_] [x5, x4, x3, x2, x1, (.ref b_1), (.ref b_1)])) rfl (by rw [hml]; rfl) (argsL := [x1, x2, x3, x4, x5]) (rest := [(.ref b_1)]) (lenOf pd_9 rfl) rfl rfl (Nat.le_refl _) (hb hby at_134)
  obtain ⟨rfl, n_16, K_16, GE__16, GdriverMemory__16, GdriverCores__16, GexecutorMemory__16, GexecutorCores__16, GnumExecutors__16⟩ := q_16
  have N_16 := Fr.app N n_16
  have f_17 : Old Z n0 T_16.heap := f_2.keep K_16 (allS o_1 all0)
  have f_18 : RefV Z T_16.heap x1 "java/lang/String" := f_3.keep K_16
  have f_19 : IntV Z T_16.heap x2 := f_4.keepX K_16 A_1 (by decide)
  have f_20 : RefV Z T_16.heap x3 "java/lang/String" := f_5.keep K_16
  have f_21 : IntV Z T_16.heap x4 := f_6.keepX K_16 A_1 (by decide)
  have f_22 : IntV Z T_16.heap x5 := f_7.keepX K_16 A_1 (by decide)
  have f_23 : RefV Z T_16.heap xm "java/lang/String" := f_8.keep K_16
  have f_24 : LIv Z vm0 T_16.heap := f_9.keepX K_16 A_1 (by decide)
  have f_25 : Exa Z T_16.heap b_1 "com/example/kilnroute/kilnroute/spark/Resources" := A_1.keep K_16
  have K_31 : Keep h0 T_16.heap [] := K_15.trans K_16 (allS (P := fun x => x ∈ [] ∨ h0.size ≤ x) (Or.inr z_1) all0)
  have y_31 : n0 ≤ T_16.heap.size := Nat.le_trans Z0 K_31.1
  have hk_31 := Nat.le_trans hk_15 K_16.1
  refine GoesW.go (U' := (T_16.setTop (mkF m 137 #[sI_ fl, sI_ pdc, sI_ pec, sI_ pne, sI_ ps, sI_ pt, .val x1, .val x2, .val x3, .val x4, .val x5, .val xm, sU_, sU_] [(.ref b_1)]))) st_16 ?_
  refine GoesW.go (U' := (T_16.setTop (mkF m 143 #[sI_ fl, sI_ pdc, sI_ pec, sI_ pne, sI_ ps, sI_ pt, .val x1, .val x2, .val x3, .val x4, .val x5, .val xm, sR_ b_1, sU_] [xm, (.ref b_1)]))) (fun t kt => ?_) ?_
  · skip
    refine XS.astore X_16.here hx rfl (hb hby at_137) rfl rfl (l' := #[sI_ fl, sI_ pdc, sI_ pec, sI_ pne, sI_ ps, sI_ pt, .val x1, .val x2, .val x3, .val x4, .val x5, .val xm, sR_ b_1, sU_]) rfl ?_
    refine XS.aload X_16.here hx rfl (hb hby at_139) rfl rfl ?_
    refine XS.aload X_16.here hx rfl (hb hby at_141) rfl Uxm.isRef ?_
    exact kt
  obtain ⟨v_32, T_32, L_32, X_32, q_32, st_32⟩ := callVirtual X_16 hx hZ (y := (⟨"com/example/kilnroute/kilnroute/spark/Resources", "withDriverMemory", "(Ljava/lang/String;)Lcom/example/kilnroute/kilnroute/spark/Resources;"⟩ : MethodName)) (z := (⟨"com/example/kilnroute/kilnroute/spark/Resources", "withDriverMemory", "(Ljava/lang/String;)Lcom/example/kilnroute/kilnroute/spark/Resources;"⟩ : MethodName)) (W := 0) hown (wdOf hw 55 rfl) (wdOf hw 56 rfl) (notFace_of_selects (args := #[]) (mvT hZ (wdOf hw 58 rfl))) (wdOf hw 58 rfl) (wdOf hw 57 rfl) (wdOf hw 35 rfl) (wdOf hw 59 rfl) (by decide) (rm_wd l Z a0 hw [] b_1 x1 x2 x3 x4 x5 xm Uxm.isRef Ux1.isRef Ux2.isRef Ux3.isRef Ux4.isRef Ux5.isRef T_16.heap n0 y_31 f_25 GdriverMemory__16 GdriverCores__16 GexecutorMemory__16 GexecutorCores__16 GnumExecutors__16) (by decide) (by decide) (by decide) (by decide) (rfl : T_16.heap = T_16.heap) f_25 (g := (mkF m 143 #[sI_ fl, sI_ pdc, sI_ pec, sI_ pne, sI_ ps, sI_ pt, .val x1, .val x2, .val x3, .val x4, .val x5, .val xm, sR_ b_1, sU_] [xm, (.ref b_1)])) rfl (by rw [hml]; rfl) (argsL := [xm]) (rest := []) (lenOf pd_10 rfl) rfl rfl (Nat.le_refl _) (hb hby at_143)
  obtain ⟨r_32, rfl, n_32, K_32, GE__32, GdriverMemory__32, GdriverCores__32, GexecutorMemory__32, GexecutorCores__32, GnumExecutors__32⟩ := q_32
  have N_32 := Fr.app N_16 n_32
  have f_33 : Old Z n0 T_32.heap := f_17.ext K_32
  have f_34 : RefV Z T_32.heap x1 "java/lang/String" := f_18.ext K_32
  have f_35 : IntV Z T_32.heap x2 := f_19.ext K_32
  have f_36 : RefV Z T_32.heap x3 "java/lang/String" := f_20.ext K_32
  have f_37 : IntV Z T_32.heap x4 := f_21.ext K_32
  have f_38 : IntV Z T_32.heap x5 := f_22.ext K_32
  have f_39 : RefV Z T_32.heap xm "java/lang/String" := f_23.ext K_32
  have f_40 : LIv Z vm0 T_32.heap := f_24.ext K_32
  have f_41 : Exa Z T_32.heap b_1 "com/example/kilnroute/kilnroute/spark/Resources" := f_25.ext K_32
  have f_42 : Fld Z T_32.heap b_1 "com/example/kilnroute/kilnroute/spark/Resources" "driverMemory" "Ljava/lang/String;" x1 := GdriverMemory__16.ext K_32
  have f_43 : Fld Z T_32.heap b_1 "com/example/kilnroute/kilnroute/spark/Resources" "driverCores" "Ljava/lang/Integer;" x2 := GdriverCores__16.ext K_32
  have f_44 : Fld Z T_32.heap b_1 "com/example/kilnroute/kilnroute/spark/Resources" "executorMemory" "Ljava/lang/String;" x3 := GexecutorMemory__16.ext K_32
  have f_45 : Fld Z T_32.heap b_1 "com/example/kilnroute/kilnroute/spark/Resources" "executorCores" "Ljava/lang/Integer;" x4 := GexecutorCores__16.ext K_32
  have f_46 : Fld Z T_32.heap b_1 "com/example/kilnroute/kilnroute/spark/Resources" "numExecutors" "Ljava/lang/Integer;" x5 := GnumExecutors__16.ext K_32
  have K_47 : Keep h0 T_32.heap [] := K_31.ext K_32
  have y_47 : n0 ≤ T_32.heap.size := Nat.le_trans Z0 K_47.1
  have hk_47 := Nat.le_trans hk_31 K_32.1
  refine GoesW.go (U' := (T_32.setTop (mkF m 146 #[sI_ fl, sI_ pdc, sI_ pec, sI_ pne, sI_ ps, sI_ pt, .val x1, .val x2, .val x3, .val x4, .val x5, .val xm, sR_ b_1, sU_] [(.ref r_32)]))) st_32 ?_
  refine GoesW.go (U' := (T_32.setTop (mkF m 157 #[sI_ fl, sI_ pdc, sI_ pec, sI_ pne, sI_ ps, sI_ pt, .val x1, .val x2, .val x3, .val x4, .val x5, .val xm, sR_ b_1, sR_ r_32] [(.ref r_32)]))) (fun t kt => ?_) ?_
  · skip
    refine XS.astore X_32.here hx rfl (hb hby at_146) rfl rfl (l' := #[sI_ fl, sI_ pdc, sI_ pec, sI_ pne, sI_ ps, sI_ pt, .val x1, .val x2, .val x3, .val x4, .val x5, .val xm, sR_ b_1, sR_ r_32]) rfl ?_
    refine XS.aload X_32.here hx rfl (hb hby at_148) rfl rfl ?_
    refine XS.ifnonnullYes X_32.here hx rfl (pc0 := 150) (pc' := 155) rfl (hb hby at_150) rfl (by decide) (by decide) ?_
    refine XS.aload X_32.here hx rfl (hb hby at_155) rfl rfl ?_
    exact kt
  obtain ⟨v_48, T_48, L_48, X_48, q_48, st_48⟩ := callVirtual X_32 hx hZ (y := (⟨"com/example/kilnroute/kilnroute/spark/Resources", "driverMemory", "()Ljava/lang/String;"⟩ : MethodName)) (z := (⟨"com/example/kilnroute/kilnroute/spark/Resources", "driverMemory", "()Ljava/lang/String;"⟩ : MethodName)) (W := 0) hown (wdOf hw 62 rfl) (wdOf hw 63 rfl) (notFace_of_selects (args := #[]) (mvT hZ (wdOf hw 65 rfl))) (wdOf hw 65 rfl) (wdOf hw 64 rfl) (wdOf hw 35 rfl) (wdOf hw 66 rfl) (by decide) (rm_g_driverMemory l Z a0 hw [] r_32 xm Uxm.isRef T_32.heap n0 y_47 GdriverMemory__32) (by decide) (by decide) (by decide) (by decide) (rfl : T_32.heap = T_32.heap) GE__32 (g := (mkF m 157 #[sI_ fl, sI_ pdc, sI_ pec, sI_ pne, sI_ ps, sI_ pt, .val x1, .val x2, .val x3, .val x4, .val x5, .val xm, sR_ b_1, sR_ r_32] [(.ref r_32)])) rfl (by rw [hml]; rfl) (argsL := []) (rest := []) (lenOf pd_11 rfl) rfl rfl (Nat.le_refl _) (hb hby at_157)
  obtain ⟨rfl, n_48, K_48⟩ := q_48
  have N_48 := Fr.app N_32 n_48
  refine GoesW.go (U' := (T_48.setTop (mkF m 160 #[sI_ fl, sI_ pdc, sI_ pec, sI_ pne, sI_ ps, sI_ pt, .val x1, .val x2, .val x3, .val x4, .val x5, .val xm, sR_ b_1, sR_ r_32] [xm]))) st_48 ?_
  refine GoesW.go (U' := (T_48.setTop (mkF m 162 #[sI_ fl, sI_ pdc, sI_ pec, sI_ pne, sI_ ps, sI_ pt, .val x1, .val x2, .val x3, .val x4, .val x5, .val xm, sR_ b_1, sR_ r_32] [xm, xm]))) (fun t kt => ?_) ?_
  · skip
    refine XS.aload X_48.here hx rfl (hb hby at_160) rfl Uxm.isRef ?_
    exact kt
  obtain ⟨v_49, T_49, L_49, X_49, q_49, st_49⟩ := callStatic X_48 hx hZ (y := (⟨"com/example/kilnroute/kilnroute/spark/ResourcesWithDriverMemoryPinLaw", "sameStr", "(Ljava/lang/String;Ljava/lang/String;)Z"⟩ : MethodName)) (W := 0) hown (wdOf hw 67 rfl) (wdOf hw 68 rfl) (wdOf hw 2 rfl) (wdOf hw 69 rfl) (by decide) (rm_ss l Z a0 hw [] xm xm T_32.heap n0 y_47 rfl f_39) (by decide) (by decide) (by decide) (by decide) K_48 (g := (mkF m 162 #[sI_ fl, sI_ pdc, sI_ pec, sI_ pne, sI_ ps, sI_ pt, .val x1, .val x2, .val x3, .val x4, .val x5, .val xm, sR_ b_1, sR_ r_32] [xm, xm])) rfl (by rw [hml]; rfl) (argsL := [xm, xm]) (rest := []) (lenOf pd_12 rfl) rfl rfl (Nat.le_refl _) (hb hby at_162)
  obtain ⟨rfl, n_49, K_49⟩ := q_49
  have N_49 := Fr.app N_48 n_49
  refine GoesW.go (U' := (T_49.setTop (mkF m 165 #[sI_ fl, sI_ pdc, sI_ pec, sI_ pne, sI_ ps, sI_ pt, .val x1, .val x2, .val x3, .val x4, .val x5, .val xm, sR_ b_1, sR_ r_32] [(.int (1 : Int32))]))) st_49 ?_
  refine GoesW.go (U' := (T_49.setTop (mkF m 170 #[sI_ fl, sI_ pdc, sI_ pec, sI_ pne, sI_ ps, sI_ pt, .val x1, .val x2, .val x3, .val x4, .val x5, .val xm, sR_ b_1, sR_ r_32] [(.ref r_32)]))) (fun t kt => ?_) ?_
  · skip
    refine XS.ifNo X_49.here hx rfl (hb hby at_165) rfl (XT.i0_eq_f (by decide)) ?_
    refine XS.aload X_49.here hx rfl (hb hby at_168) rfl rfl ?_
    exact kt
  obtain ⟨v_50, T_50, L_50, X_50, q_50, st_50⟩ := callVirtual X_49 hx hZ (y := (⟨"com/example/kilnroute/kilnroute/spark/Resources", "driverCores", "()Ljava/lang/Integer;"⟩ : MethodName)) (z := (⟨"com/example/kilnroute/kilnroute/spark/Resources", "driverCores", "()Ljava/lang/Integer;"⟩ : MethodName)) (W := 0) hown (wdOf hw 75 rfl) (wdOf hw 76 rfl) (notFace_of_selects (args := #[]) (mvT hZ (wdOf hw 78 rfl))) (wdOf hw 78 rfl) (wdOf hw 77 rfl) (wdOf hw 35 rfl) (wdOf hw 79 rfl) (by decide) (rm_g_driverCores l Z a0 hw [] r_32 x2 Ux2.isRef T_32.heap n0 y_47 GdriverCores__32) (by decide) (by decide) (by decide) (by decide) K_49 GE__32 (g := (mkF m 170 #[sI_ fl, sI_ pdc, sI_ pec, sI_ pne, sI_ ps, sI_ pt, .val x1, .val x2, .val x3, .val x4, .val x5, .val xm, sR_ b_1, sR_ r_32] [(.ref r_32)])) rfl (by rw [hml]; rfl) (argsL := []) (rest := []) (lenOf pd_13 rfl) rfl rfl (Nat.le_refl _) (hb hby at_170)
  obtain ⟨rfl, n_50, K_50⟩ := q_50
  have N_50 := Fr.app N_49 n_50
  refine GoesW.go (U' := (T_50.setTop (mkF m 173 #[sI_ fl, sI_ pdc, sI_ pec, sI_ pne, sI_ ps, sI_ pt, .val x1, .val x2, .val x3, .val x4, .val x5, .val xm, sR_ b_1, sR_ r_32] [x2]))) st_50 ?_
  refine GoesW.go (U' := (T_50.setTop (mkF m 175 #[sI_ fl, sI_ pdc, sI_ pec, sI_ pne, sI_ ps, sI_ pt, .val x1, .val x2, .val x3, .val x4, .val x5, .val xm, sR_ b_1, sR_ r_32] [x2, x2]))) (fun t kt => ?_) ?_
  · skip
    refine XS.aload X_50.here hx rfl (hb hby at_173) rfl Ux2.isRef ?_
    exact kt
  obtain ⟨v_51, T_51, L_51, X_51, q_51, st_51⟩ := callStatic X_50 hx hZ (y := (⟨"com/example/kilnroute/kilnroute/spark/ResourcesWithDriverMemoryPinLaw", "sameInt", "(Ljava/lang/Integer;Ljava/lang/Integer;)Z"⟩ : MethodName)) (W := 0) hown (wdOf hw 80 rfl) (wdOf hw 81 rfl) (wdOf hw 2 rfl) (wdOf hw 82 rfl) (by decide) (rm_si l Z a0 hw [] x2 x2 T_32.heap n0 y_47 rfl f_35) (by decide) (by decide) (by decide) (by decide) K_50 (g := (mkF m 175 #[sI_ fl, sI_ pdc, sI_ pec, sI_ pne, sI_ ps, sI_ pt, .val x1, .val x2, .val x3, .val x4, .val x5, .val xm, sR_ b_1, sR_ r_32] [x2, x2])) rfl (by rw [hml]; rfl) (argsL := [x2, x2]) (rest := []) (lenOf pd_14 rfl) rfl rfl (Nat.le_refl _) (hb hby at_175)
  obtain ⟨rfl, n_51, K_51⟩ := q_51
  have N_51 := Fr.app N_50 n_51
  refine GoesW.go (U' := (T_51.setTop (mkF m 178 #[sI_ fl, sI_ pdc, sI_ pec, sI_ pne, sI_ ps, sI_ pt, .val x1, .val x2, .val x3, .val x4, .val x5, .val xm, sR_ b_1, sR_ r_32] [(.int (1 : Int32))]))) st_51 ?_
  refine GoesW.go (U' := (T_51.setTop (mkF m 183 #[sI_ fl, sI_ pdc, sI_ pec, sI_ pne, sI_ ps, sI_ pt, .val x1, .val x2, .val x3, .val x4, .val x5, .val xm, sR_ b_1, sR_ r_32] [(.ref r_32)]))) (fun t kt => ?_) ?_
  · skip
    refine XS.ifNo X_51.here hx rfl (hb hby at_178) rfl (XT.i0_eq_f (by decide)) ?_
    refine XS.aload X_51.here hx rfl (hb hby at_181) rfl rfl ?_
    exact kt
  obtain ⟨v_52, T_52, L_52, X_52, q_52, st_52⟩ := callVirtual X_51 hx hZ (y := (⟨"com/example/kilnroute/kilnroute/spark/Resources", "executorMemory", "()Ljava/lang/String;"⟩ : MethodName)) (z := (⟨"com/example/kilnroute/kilnroute/spark/Resources", "executorMemory", "()Ljava/lang/String;"⟩ : MethodName)) (W := 0) hown (wdOf hw 90 rfl) (wdOf hw 91 rfl) (notFace_of_selects (args := #[]) (mvT hZ (wdOf hw 93 rfl))) (wdOf hw 93 rfl) (wdOf hw 92 rfl) (wdOf hw 35 rfl) (wdOf hw 94 rfl) (by decide) (rm_g_executorMemory l Z a0 hw [] r_32 x3 Ux3.isRef T_32.heap n0 y_47 GexecutorMemory__32) (by decide) (by decide) (by decide) (by decide) K_51 GE__32 (g := (mkF m 183 #[sI_ fl, sI_ pdc, sI_ pec, sI_ pne, sI_ ps, sI_ pt, .val x1, .val x2, .val x3, .val x4, .val x5, .val xm, sR_ b_1, sR_ r_32] [(.ref r_32)])) rfl (by rw [hml]; rfl) (argsL := []) (rest := []) (lenOf pd_11 rfl) rfl rfl (Nat.le_refl _) (hb hby at_183)
  obtain ⟨rfl, n_52, K_52⟩ := q_52
  have N_52 := Fr.app N_51 n_52
  refine GoesW.go (U' := (T_52.setTop (mkF m 186 #[sI_ fl, sI_ pdc, sI_ pec, sI_ pne, sI_ ps, sI_ pt, .val x1, .val x2, .val x3, .val x4, .val x5, .val xm, sR_ b_1, sR_ r_32] [x3]))) st_52 ?_
  refine GoesW.go (U' := (T_52.setTop (mkF m 188 #[sI_ fl, sI_ pdc, sI_ pec, sI_ pne, sI_ ps, sI_ pt, .val x1, .val x2, .val x3, .val x4, .val x5, .val xm, sR_ b_1, sR_ r_32] [x3, x3]))) (fun t kt => ?_) ?_
  · skip
    refine XS.aload X_52.here hx rfl (hb hby at_186) rfl Ux3.isRef ?_
    exact kt
  obtain ⟨v_53, T_53, L_53, X_53, q_53, st_53⟩ := callStatic X_52 hx hZ (y := (⟨"com/example/kilnroute/kilnroute/spark/ResourcesWithDriverMemoryPinLaw", "sameStr", "(Ljava/lang/String;Ljava/lang/String;)Z"⟩ : MethodName)) (W := 0) hown (wdOf hw 67 rfl) (wdOf hw 68 rfl) (wdOf hw 2 rfl) (wdOf hw 69 rfl) (by decide) (rm_ss l Z a0 hw [] x3 x3 T_32.heap n0 y_47 rfl f_36) (by decide) (by decide) (by decide) (by decide) K_52 (g := (mkF m 188 #[sI_ fl, sI_ pdc, sI_ pec, sI_ pne, sI_ ps, sI_ pt, .val x1, .val x2, .val x3, .val x4, .val x5, .val xm, sR_ b_1, sR_ r_32] [x3, x3])) rfl (by rw [hml]; rfl) (argsL := [x3, x3]) (rest := []) (lenOf pd_12 rfl) rfl rfl (Nat.le_refl _) (hb hby at_188)
  obtain ⟨rfl, n_53, K_53⟩ := q_53
  have N_53 := Fr.app N_52 n_53
  refine GoesW.go (U' := (T_53.setTop (mkF m 191 #[sI_ fl, sI_ pdc, sI_ pec, sI_ pne, sI_ ps, sI_ pt, .val x1, .val x2, .val x3, .val x4, .val x5, .val xm, sR_ b_1, sR_ r_32] [(.int (1 : Int32))]))) st_53 ?_
  refine GoesW.go (U' := (T_53.setTop (mkF m 196 #[sI_ fl, sI_ pdc, sI_ pec, sI_ pne, sI_ ps, sI_ pt, .val x1, .val x2, .val x3, .val x4, .val x5, .val xm, sR_ b_1, sR_ r_32] [(.ref r_32)]))) (fun t kt => ?_) ?_
  · skip
    refine XS.ifNo X_53.here hx rfl (hb hby at_191) rfl (XT.i0_eq_f (by decide)) ?_
    refine XS.aload X_53.here hx rfl (hb hby at_194) rfl rfl ?_
    exact kt
  obtain ⟨v_54, T_54, L_54, X_54, q_54, st_54⟩ := callVirtual X_53 hx hZ (y := (⟨"com/example/kilnroute/kilnroute/spark/Resources", "executorCores", "()Ljava/lang/Integer;"⟩ : MethodName)) (z := (⟨"com/example/kilnroute/kilnroute/spark/Resources", "executorCores", "()Ljava/lang/Integer;"⟩ : MethodName)) (W := 0) hown (wdOf hw 95 rfl) (wdOf hw 96 rfl) (notFace_of_selects (args := #[]) (mvT hZ (wdOf hw 98 rfl))) (wdOf hw 98 rfl) (wdOf hw 97 rfl) (wdOf hw 35 rfl) (wdOf hw 99 rfl) (by decide) (rm_g_executorCores l Z a0 hw [] r_32 x4 Ux4.isRef T_32.heap n0 y_47 GexecutorCores__32) (by decide) (by decide) (by decide) (by decide) K_53 GE__32 (g := (mkF m 196 #[sI_ fl, sI_ pdc, sI_ pec, sI_ pne, sI_ ps, sI_ pt, .val x1, .val x2, .val x3, .val x4, .val x5, .val xm, sR_ b_1, sR_ r_32] [(.ref r_32)])) rfl (by rw [hml]; rfl) (argsL := []) (rest := []) (lenOf pd_13 rfl) rfl rfl (Nat.le_refl _) (hb hby at_196)
  obtain ⟨rfl, n_54, K_54⟩ := q_54
  have N_54 := Fr.app N_53 n_54
  refine GoesW.go (U' := (T_54.setTop (mkF m 199 #[sI_ fl, sI_ pdc, sI_ pec, sI_ pne, sI_ ps, sI_ pt, .val x1, .val x2, .val x3, .val x4, .val x5, .val xm, sR_ b_1, sR_ r_32] [x4]))) st_54 ?_
  refine GoesW.go (U' := (T_54.setTop (mkF m 201 #[sI_ fl, sI_ pdc, sI_ pec, sI_ pne, sI_ ps, sI_ pt, .val x1, .val x2, .val x3, .val x4, .val x5, .val xm, sR_ b_1, sR_ r_32] [x4, x4]))) (fun t kt => ?_) ?_
  · skip
    refine XS.aload X_54.here hx rfl (hb hby at_199) rfl Ux4.isRef ?_
    exact kt
  obtain ⟨v_55, T_55, L_55, X_55, q_55, st_55⟩ := callStatic X_54 hx hZ (y := (⟨"com/example/kilnroute/kilnroute/spark/ResourcesWithDriverMemoryPinLaw", "sameInt", "(Ljava/lang/Integer;Ljava/lang/Integer;)Z"⟩ : MethodName)) (W := 0) hown (wdOf hw 80 rfl) (wdOf hw 81 rfl) (wdOf hw 2 rfl) (wdOf hw 82 rfl) (by decide) (rm_si l Z a0 hw [] x4 x4 T_32.heap n0 y_47 rfl f_37) (by decide) (by decide) (by decide) (by decide) K_54 (g := (mkF m 201 #[sI_ fl, sI_ pdc, sI_ pec, sI_ pne, sI_ ps, sI_ pt, .val x1, .val x2, .val x3, .val x4, .val x5, .val xm, sR_ b_1, sR_ r_32] [x4, x4])) rfl (by rw [hml]; rfl) (argsL := [x4, x4]) (rest := []) (lenOf pd_14 rfl) rfl rfl (Nat.le_refl _) (hb hby at_201)
  obtain ⟨rfl, n_55, K_55⟩ := q_55
  have N_55 := Fr.app N_54 n_55
  refine GoesW.go (U' := (T_55.setTop (mkF m 204 #[sI_ fl, sI_ pdc, sI_ pec, sI_ pne, sI_ ps, sI_ pt, .val x1, .val x2, .val x3, .val x4, .val x5, .val xm, sR_ b_1, sR_ r_32] [(.int (1 : Int32))]))) st_55 ?_
  refine GoesW.go (U' := (T_55.setTop (mkF m 209 #[sI_ fl, sI_ pdc, sI_ pec, sI_ pne, sI_ ps, sI_ pt, .val x1, .val x2, .val x3, .val x4, .val x5, .val xm, sR_ b_1, sR_ r_32] [(.ref r_32)]))) (fun t kt => ?_) ?_
  · skip
    refine XS.ifNo X_55.here hx rfl (hb hby at_204) rfl (XT.i0_eq_f (by decide)) ?_
    refine XS.aload X_55.here hx rfl (hb hby at_207) rfl rfl ?_
    exact kt
  obtain ⟨v_56, T_56, L_56, X_56, q_56, st_56⟩ := callVirtual X_55 hx hZ (y := (⟨"com/example/kilnroute/kilnroute/spark/Resources", "numExecutors", "()Ljava/lang/Integer;"⟩ : MethodName)) (z := (⟨"com/example/kilnroute/kilnroute/spark/Resources", "numExecutors", "()Ljava/lang/Integer;"⟩ : MethodName)) (W := 0) hown (wdOf hw 100 rfl) (wdOf hw 101 rfl) (notFace_of_selects (args := #[]) (mvT hZ (wdOf hw 103 rfl))) (wdOf hw 103 rfl) (wdOf hw 102 rfl) (wdOf hw 35 rfl) (wdOf hw 104 rfl) (by decide) (rm_g_numExecutors l Z a0 hw [] r_32 x5 Ux5.isRef T_32.heap n0 y_47 GnumExecutors__32) (by decide) (by decide) (by decide) (by decide) K_55 GE__32 (g := (mkF m 209 #[sI_ fl, sI_ pdc, sI_ pec, sI_ pne, sI_ ps, sI_ pt, .val x1, .val x2, .val x3, .val x4, .val x5, .val xm, sR_ b_1, sR_ r_32] [(.ref r_32)])) rfl (by rw [hml]; rfl) (argsL := []) (rest := []) (lenOf pd_13 rfl) rfl rfl (Nat.le_refl _) (hb hby at_209)
  obtain ⟨rfl, n_56, K_56⟩ := q_56
  have N_56 := Fr.app N_55 n_56
  refine GoesW.go (U' := (T_56.setTop (mkF m 212 #[sI_ fl, sI_ pdc, sI_ pec, sI_ pne, sI_ ps, sI_ pt, .val x1, .val x2, .val x3, .val x4, .val x5, .val xm, sR_ b_1, sR_ r_32] [x5]))) st_56 ?_
  refine GoesW.go (U' := (T_56.setTop (mkF m 214 #[sI_ fl, sI_ pdc, sI_ pec, sI_ pne, sI_ ps, sI_ pt, .val x1, .val x2, .val x3, .val x4, .val x5, .val xm, sR_ b_1, sR_ r_32] [x5, x5]))) (fun t kt => ?_) ?_
  · skip
    refine XS.aload X_56.here hx rfl (hb hby at_212) rfl Ux5.isRef ?_
    exact kt
  obtain ⟨v_57, T_57, L_57, X_57, q_57, st_57⟩ := callStatic X_56 hx hZ (y := (⟨"com/example/kilnroute/kilnroute/spark/ResourcesWithDriverMemoryPinLaw", "sameInt", "(Ljava/lang/Integer;Ljava/lang/Integer;)Z"⟩ : MethodName)) (W := 0) hown (wdOf hw 80 rfl) (wdOf hw 81 rfl) (wdOf hw 2 rfl) (wdOf hw 82 rfl) (by decide) (rm_si l Z a0 hw [] x5 x5 T_32.heap n0 y_47 rfl f_38) (by decide) (by decide) (by decide) (by decide) K_56 (g := (mkF m 214 #[sI_ fl, sI_ pdc, sI_ pec, sI_ pne, sI_ ps, sI_ pt, .val x1, .val x2, .val x3, .val x4, .val x5, .val xm, sR_ b_1, sR_ r_32] [x5, x5])) rfl (by rw [hml]; rfl) (argsL := [x5, x5]) (rest := []) (lenOf pd_14 rfl) rfl rfl (Nat.le_refl _) (hb hby at_214)
  obtain ⟨rfl, n_57, K_57⟩ := q_57
  have N_57 := Fr.app N_56 n_57
  refine GoesW.go (U' := (T_57.setTop (mkF m 217 #[sI_ fl, sI_ pdc, sI_ pec, sI_ pne, sI_ ps, sI_ pt, .val x1, .val x2, .val x3, .val x4, .val x5, .val xm, sR_ b_1, sR_ r_32] [(.int (1 : Int32))]))) st_57 ?_
  refine GoesW.go (U' := (T_57.setTop (mkF m 222 #[sI_ fl, sI_ pdc, sI_ pec, sI_ pne, sI_ ps, sI_ pt, .val x1, .val x2, .val x3, .val x4, .val x5, .val xm, sR_ b_1, sR_ r_32] [(.ref b_1)]))) (fun t kt => ?_) ?_
  · skip
    refine XS.ifNo X_57.here hx rfl (hb hby at_217) rfl (XT.i0_eq_f (by decide)) ?_
    refine XS.aload X_57.here hx rfl (hb hby at_220) rfl rfl ?_
    exact kt
  obtain ⟨v_58, T_58, L_58, X_58, q_58, st_58⟩ := callVirtual X_57 hx hZ (y := (⟨"com/example/kilnroute/kilnroute/spark/Resources", "driverMemory", "()Ljava/lang/String;"⟩ : MethodName)) (z := (⟨"com/example/kilnroute/kilnroute/spark/Resources", "driverMemory", "()Ljava/lang/String;"⟩ : MethodName)) (W := 0) hown (wdOf hw 62 rfl) (wdOf hw 63 rfl) (notFace_of_selects (args := #[]) (mvT hZ (wdOf hw 65 rfl))) (wdOf hw 65 rfl) (wdOf hw 64 rfl) (wdOf hw 35 rfl) (wdOf hw 66 rfl) (by decide) (rm_g_driverMemory l Z a0 hw [] b_1 x1 Ux1.isRef T_32.heap n0 y_47 f_42) (by decide) (by decide) (by decide) (by decide) K_57 f_41 (g := (mkF m 222 #[sI_ fl, sI_ pdc, sI_ pec, sI_ pne, sI_ ps, sI_ pt, .val x1, .val x2, .val x3, .val x4, .val x5, .val xm, sR_ b_1, sR_ r_32] [(.ref b_1)])) rfl (by rw [hml]; rfl) (argsL := []) (rest := []) (lenOf pd_11 rfl) rfl rfl (Nat.le_refl _) (hb hby at_222)
  obtain ⟨rfl, n_58, K_58⟩ := q_58
  have N_58 := Fr.app N_57 n_58
  refine GoesW.go (U' := (T_58.setTop (mkF m 225 #[sI_ fl, sI_ pdc, sI_ pec, sI_ pne, sI_ ps, sI_ pt, .val x1, .val x2, .val x3, .val x4, .val x5, .val xm, sR_ b_1, sR_ r_32] [x1]))) st_58 ?_
  refine GoesW.go (U' := (T_58.setTop (mkF m 227 #[sI_ fl, sI_ pdc, sI_ pec, sI_ pne, sI_ ps, sI_ pt, .val x1, .val x2, .val x3, .val x4, .val x5, .val xm, sR_ b_1, sR_ r_32] [x1, x1]))) (fun t kt => ?_) ?_
  · skip
    refine XS.aload X_58.here hx rfl (hb hby at_225) rfl Ux1.isRef ?_
    exact kt
  obtain ⟨v_59, T_59, L_59, X_59, q_59, st_59⟩ := callStatic X_58 hx hZ (y := (⟨"com/example/kilnroute/kilnroute/spark/ResourcesWithDriverMemoryPinLaw", "sameStr", "(Ljava/lang/String;Ljava/lang/String;)Z"⟩ : MethodName)) (W := 0) hown (wdOf hw 67 rfl) (wdOf hw 68 rfl) (wdOf hw 2 rfl) (wdOf hw 69 rfl) (by decide) (rm_ss l Z a0 hw [] x1 x1 T_32.heap n0 y_47 rfl f_34) (by decide) (by decide) (by decide) (by decide) K_58 (g := (mkF m 227 #[sI_ fl, sI_ pdc, sI_ pec, sI_ pne, sI_ ps, sI_ pt, .val x1, .val x2, .val x3, .val x4, .val x5, .val xm, sR_ b_1, sR_ r_32] [x1, x1])) rfl (by rw [hml]; rfl) (argsL := [x1, x1]) (rest := []) (lenOf pd_12 rfl) rfl rfl (Nat.le_refl _) (hb hby at_227)
  obtain ⟨rfl, n_59, K_59⟩ := q_59
  have N_59 := Fr.app N_58 n_59
  refine GoesW.go (U' := (T_59.setTop (mkF m 230 #[sI_ fl, sI_ pdc, sI_ pec, sI_ pne, sI_ ps, sI_ pt, .val x1, .val x2, .val x3, .val x4, .val x5, .val xm, sR_ b_1, sR_ r_32] [(.int (1 : Int32))]))) st_59 ?_
  refine GoesW.go (U' := (T_59.setTop (mkF m 238 #[sI_ fl, sI_ pdc, sI_ pec, sI_ pne, sI_ ps, sI_ pt, .val x1, .val x2, .val x3, .val x4, .val x5, .val xm, sR_ b_1, sR_ r_32] [(.int (1 : Int32))]))) (fun t kt => ?_) ?_
  · skip
    refine XS.ifNo X_59.here hx rfl (hb hby at_230) rfl (XT.i0_eq_f (by decide)) ?_
    refine XS.iconst X_59.here hx rfl (hb hby at_233) ?_
    refine XS.goto X_59.here hx rfl (pc0 := 234) (pc' := 238) rfl (hb hby at_234) (by decide) (by decide) ?_
    exact kt
  refine GoesW.retB X_59 hx hS (by rw [K_59]; exact hk_47) hlk hret (hb hby at_238) (by decide) (by decide) ?_
  intro V vh vv
  try rw [vv]
  try rw [vh]
  try rw [K_59]
  exact ⟨rfl, N_59⟩
set_option maxRecDepth 65536 in
set_option maxHeartbeats 40000000 in
theorem law_97 (l : Launch) (Z : State) (a0 : Array Value) (hw : ∀ d ∈ tables_1, d.before a0 Z = true) (fl pdc pec pne ps pt : Int32) (cs : Int32) (x1 x2 x3 x4 x5 : Value) (h0 : Heap) (n0 : Nat) (Z0 : n0 ≤ h0.size) (p : Program) (e : Env) (s : State) (m : MethodId) (below : List Frame) (meth : Method) (c : Code) (vm0 : Vm) (k0 : Nat) (hx : p.tables.exec = Jvm.exec) (hby : c.code = code) (hml : c.maxLocals = maxLocals) (hown : (s.setVm vm0).vm.findClass "com/example/kilnroute/kilnroute/spark/ResourcesWithDriverMemoryPinLaw" = some m.cls) (hnm : meth.name = "law") (hret : meth.sig.returnType = ret) (hlk : meth.locks = false) (hZ : Z.Warmed39 (s.setVm vm0).vm) (h : Heap) (T : State) (locs : List Loc) (X : Stand p l e room_1 (s.setVm vm0) m #[(.int fl), (.int pdc), (.int pec), (.int pne), (.int ps), (.int pt)] below meth c T locs 11 19) (eT : T.heap = h) (N : Fr n0 locs) (K0 : Keep h0 h []) (O : Old Z n0 h) (BC : BoxC Z "java/lang/Integer$IntegerCache" "[Ljava/lang/Integer;" "java/lang/Integer" "I" (fun i => .int (i.toInt32 - 128))) (SH : Sta Z Z.heap "java/lang/Integer$IntegerCache" "high" "I" (.int (127 : Int32))) (SC : Sta Z Z.heap "java/lang/String" "COMPACT_STRINGS" "Z" (.int cs)) (hcs : ¬ cs = 0) (hh : Jvm.Lit.constHeld Z "java/lang/String" 7) (hcw : Jvm.Lit.compactW.before a0 Z = true) (Ux1 : RefV Z h x1 "java/lang/String") (Ux2 : IntV Z h x2) (Ux3 : RefV Z h x3 "java/lang/String") (Ux4 : IntV Z h x4) (Ux5 : IntV Z h x5) (hS : s.Since vm0 k0) (hk : k0 ≤ h.size) (LI0 : LIv Z vm0 h) :
    GoesW p e s below (fun v V L => v = some (.int 1) ∧ Fr n0 L) room_1.cells room_1.slots (T.setTop (mkF m 97 #[sI_ fl, sI_ pdc, sI_ pec, sI_ pne, sI_ ps, sI_ pt, .val x1, .val x2, .val x3, .val x4, .val x5, sU_, sU_, sU_] [])) := by
  have sz0 : n0 ≤ h.size := Nat.le_trans Z0 K0.1
  refine GoesW.go (U' := (T.setTop (mkF m 101 #[sI_ fl, sI_ pdc, sI_ pec, sI_ pne, sI_ ps, sI_ pt, .val x1, .val x2, .val x3, .val x4, .val x5, sU_, sU_, sU_] [(.int (fl &&& (32 : Int32)))]))) (fun t kt => ?_) ?_
  · skip
    refine XS.iloadN X.here hx rfl (hb hby at_97) rfl ?_
    refine XS.bipush X.here hx rfl (hb hby at_98) ?_
    refine XS.iand X.here hx rfl (hb hby at_100) rfl ?_
    exact kt
  by_cases cc : (fl &&& (32 : Int32)) = 0
  · -- (fl &&& (32 : Int32)) = 0
    refine GoesW.go (U' := (T.setTop (mkF m 115 #[sI_ fl, sI_ pdc, sI_ pec, sI_ pne, sI_ ps, sI_ pt, .val x1, .val x2, .val x3, .val x4, .val x5, sU_, sU_, sU_] [(.int ((pt.toUInt32 >>> ((16 : Int32) &&& 31).toUInt32).toInt32)), (.int pt)]))) (fun t kt => ?_) ?_
    · skip
      refine XS.ifYes X.here hx rfl (pc0 := 101) (pc' := 108) rfl (hb hby at_101) rfl (XT.i0_eq_t cc) (by decide) (by decide) ?_
      refine XS.iload X.here hx rfl (hb hby at_108) rfl ?_
      refine XS.iload X.here hx rfl (hb hby at_110) rfl ?_
      refine XS.bipush X.here hx rfl (hb hby at_112) ?_
      refine XS.iushr X.here hx rfl (hb hby at_114) rfl ?_
      exact kt
    obtain ⟨v_1, T_1, V_1, L_1, X_1, ve_1, vv_1, q_1, hS_1, hZ, hown, st_1⟩ := callStaticW X hx hZ (y := (⟨"com/example/kilnroute/kilnroute/spark/ResourcesWithDriverMemoryPinLaw", "mk", "(II)Ljava/lang/String;"⟩ : MethodName)) (W := 0) hown (wdOf hw 0 rfl) (wdOf hw 1 rfl) (wdOf hw 2 rfl) (wdOf hw 3 rfl) (by decide) (rm_mk l Z a0 hw [] pt ((pt.toUInt32 >>> ((16 : Int32) &&& 31).toUInt32).toInt32) cs h n0 sz0 O SC hcs hh hcw) (by decide) (by decide) (by decide) (by decide) eT (fun _ q => LI0.warm q) hS hk (g := (mkF m 115 #[sI_ fl, sI_ pdc, sI_ pec, sI_ pne, sI_ ps, sI_ pt, .val x1, .val x2, .val x3, .val x4, .val x5, sU_, sU_, sU_] [(.int ((pt.toUInt32 >>> ((16 : Int32) &&& 31).toUInt32).toInt32)), (.int pt)])) rfl (by rw [hml]; rfl) (argsL := [(.int pt), (.int ((pt.toUInt32 >>> ((16 : Int32) &&& 31).toUInt32).toInt32))]) (rest := []) (lenOf pd_15 rfl) rfl rfl (Nat.le_refl _) (hb hby at_115)
    rw [ve_1, vv_1] at q_1
    obtain ⟨r_1, rfl, n_1, K_1, LI_1, E_1⟩ := q_1
    have N_1 := Fr.app N n_1
    have f_2 : Old Z n0 T_1.heap := O.ext K_1
    have f_3 : RefV Z T_1.heap x1 "java/lang/String" := Ux1.ext K_1
    have f_4 : IntV Z T_1.heap x2 := Ux2.ext K_1
    have f_5 : RefV Z T_1.heap x3 "java/lang/String" := Ux3.ext K_1
    have f_6 : IntV Z T_1.heap x4 := Ux4.ext K_1
    have f_7 : IntV Z T_1.heap x5 := Ux5.ext K_1
    have K_8 : Keep h0 T_1.heap [] := K0.ext K_1
    have y_8 : n0 ≤ T_1.heap.size := Nat.le_trans Z0 K_8.1
    have hk_8 := Nat.le_trans hk K_1.1
    refine GoesW.go (U' := (T_1.setTop (mkF m 118 #[sI_ fl, sI_ pdc, sI_ pec, sI_ pne, sI_ ps, sI_ pt, .val x1, .val x2, .val x3, .val x4, .val x5, sU_, sU_, sU_] [(.ref r_1)]))) st_1 ?_
    refine GoesW.go (U' := (T_1.setTop (mkF m 120 #[sI_ fl, sI_ pdc, sI_ pec, sI_ pne, sI_ ps, sI_ pt, .val x1, .val x2, .val x3, .val x4, .val x5, sR_ r_1, sU_, sU_] []))) (fun t kt => ?_) ?_
    · skip
      refine XS.astore X_1.here hx rfl (hb hby at_118) rfl rfl (l' := #[sI_ fl, sI_ pdc, sI_ pec, sI_ pne, sI_ ps, sI_ pt, .val x1, .val x2, .val x3, .val x4, .val x5, sR_ r_1, sU_, sU_]) rfl ?_
      exact kt
    exact law_120 l Z a0 hw fl pdc pec pne ps pt cs x1 x2 x3 x4 x5 (.ref r_1) h0 n0 Z0 p e s m below meth c _ _ hx hby hml hown hnm hret hlk hZ _ _ _ X_1 (rfl : T_1.heap = T_1.heap) N_1 K_8 f_2 BC SH SC hcs hh hcw f_3 f_4 f_5 f_6 f_7 (Or.inr ⟨_, rfl, E_1⟩) hS_1 (Nat.le_refl _) LI_1
  · -- not (fl &&& (32 : Int32)) = 0
    refine GoesW.go (U' := (T.setTop (mkF m 120 #[sI_ fl, sI_ pdc, sI_ pec, sI_ pne, sI_ ps, sI_ pt, .val x1, .val x2, .val x3, .val x4, .val x5, .val .null, sU_, sU_] []))) (fun t kt => ?_) ?_
    · skip
      refine XS.ifNo X.here hx rfl (hb hby at_101) rfl (XT.i0_eq_f cc) ?_
      refine XS.aconstNull X.here hx rfl (hb hby at_104) ?_
      refine XS.goto X.here hx rfl (pc0 := 105) (pc' := 118) rfl (hb hby at_105) (by decide) (by decide) ?_
      refine XS.astore X.here hx rfl (hb hby at_118) rfl rfl (l' := #[sI_ fl, sI_ pdc, sI_ pec, sI_ pne, sI_ ps, sI_ pt, .val x1, .val x2, .val x3, .val x4, .val x5, .val .null, sU_, sU_]) rfl ?_
      exact kt
    exact law_120 l Z a0 hw fl pdc pec pne ps pt cs x1 x2 x3 x4 x5 Value.null h0 n0 Z0 p e s m below meth c _ _ hx hby hml hown hnm hret hlk hZ _ _ _ (moreRoom (cells' := 15) (slots' := 27) X (by decide) (by decide)) eT N K0 O BC SH SC hcs hh hcw Ux1 Ux2 Ux3 Ux4 Ux5 (Or.inl rfl) hS hk LI0
set_option maxRecDepth 65536 in
set_option maxHeartbeats 40000000 in
theorem law_80 (l : Launch) (Z : State) (a0 : Array Value) (hw : ∀ d ∈ tables_1, d.before a0 Z = true) (fl pdc pec pne ps pt : Int32) (cs : Int32) (x1 x2 x3 x4 : Value) (h0 : Heap) (n0 : Nat) (Z0 : n0 ≤ h0.size) (p : Program) (e : Env) (s : State) (m : MethodId) (below : List Frame) (meth : Method) (c : Code) (vm0 : Vm) (k0 : Nat) (hx : p.tables.exec = Jvm.exec) (hby : c.code = code) (hml : c.maxLocals = maxLocals) (hown : (s.setVm vm0).vm.findClass "com/example/kilnroute/kilnroute/spark/ResourcesWithDriverMemoryPinLaw" = some m.cls) (hnm : meth.name = "law") (hret : meth.sig.returnType = ret) (hlk : meth.locks = false) (hZ : Z.Warmed39 (s.setVm vm0).vm) (h : Heap) (T : State) (locs : List Loc) (X : Stand p l e room_1 (s.setVm vm0) m #[(.int fl), (.int pdc), (.int pec), (.int pne), (.int ps), (.int pt)] below meth c T locs 10 18) (eT : T.heap = h) (N : Fr n0 locs) (K0 : Keep h0 h []) (O : Old Z n0 h) (BC : BoxC Z "java/lang/Integer$IntegerCache" "[Ljava/lang/Integer;" "java/lang/Integer" "I" (fun i => .int (i.toInt32 - 128))) (SH : Sta Z Z.heap "java/lang/Integer$IntegerCache" "high" "I" (.int (127 : Int32))) (SC : Sta Z Z.heap "java/lang/String" "COMPACT_STRINGS" "Z" (.int cs)) (hcs : ¬ cs = 0) (hh : Jvm.Lit.constHeld Z "java/lang/String" 7) (hcw : Jvm.Lit.compactW.before a0 Z = true) (Ux1 : RefV Z h x1 "java/lang/String") (Ux2 : IntV Z h x2) (Ux3 : RefV Z h x3 "java/lang/String") (Ux4 : IntV Z h x4) (hS : s.Since vm0 k0) (hk : k0 ≤ h.size) (LI0 : LIv Z vm0 h) :
    GoesW p e s below (fun v V L => v = some (.int 1) ∧ Fr n0 L) room_1.cells room_1.slots (T.setTop (mkF m 80 #[sI_ fl, sI_ pdc, sI_ pec, sI_ pne, sI_ ps, sI_ pt, .val x1, .val x2, .val x3, .val x4, sU_, sU_, sU_, sU_] [])) := by
  have sz0 : n0 ≤ h.size := Nat.le_trans Z0 K0.1
  refine GoesW.go (U' := (T.setTop (mkF m 84 #[sI_ fl, sI_ pdc, sI_ pec, sI_ pne, sI_ ps, sI_ pt, .val x1, .val x2, .val x3, .val x4, sU_, sU_, sU_, sU_] [(.int (fl &&& (16 : Int32)))]))) (fun t kt => ?_) ?_
  · skip
    refine XS.iloadN X.here hx rfl (hb hby at_80) rfl ?_
    refine XS.bipush X.here hx rfl (hb hby at_81) ?_
    refine XS.iand X.here hx rfl (hb hby at_83) rfl ?_
    exact kt
  by_cases cc : (fl &&& (16 : Int32)) = 0
  · -- (fl &&& (16 : Int32)) = 0
    refine GoesW.go (U' := (T.setTop (mkF m 92 #[sI_ fl, sI_ pdc, sI_ pec, sI_ pne, sI_ ps, sI_ pt, .val x1, .val x2, .val x3, .val x4, sU_, sU_, sU_, sU_] [(.int pne)]))) (fun t kt => ?_) ?_
    · skip
      refine XS.ifYes X.here hx rfl (pc0 := 84) (pc' := 91) rfl (hb hby at_84) rfl (XT.i0_eq_t cc) (by decide) (by decide) ?_
      refine XS.iloadN X.here hx rfl (hb hby at_91) rfl ?_
      exact kt
    obtain ⟨v_1, T_1, L_1, X_1, q_1, st_1⟩ := callStatic X hx hZ (y := (⟨"java/lang/Integer", "valueOf", "(I)Ljava/lang/Integer;"⟩ : MethodName)) (W := 0) hown (wdOf hw 26 rfl) (wdOf hw 27 rfl) (wdOf hw 28 rfl) (wdOf hw 29 rfl) (by decide) (rm_vo l Z a0 hw [] pne h n0 sz0 O BC SH) (by decide) (by decide) (by decide) (by decide) eT (g := (mkF m 92 #[sI_ fl, sI_ pdc, sI_ pec, sI_ pne, sI_ ps, sI_ pt, .val x1, .val x2, .val x3, .val x4, sU_, sU_, sU_, sU_] [(.int pne)])) rfl (by rw [hml]; rfl) (argsL := [(.int pne)]) (rest := []) (lenOf pd_16 rfl) rfl rfl (Nat.le_refl _) (hb hby at_92)
    obtain ⟨r_1, rfl, n_1, K_1, E_1, F_1⟩ := q_1
    have N_1 := Fr.app N n_1
    have f_2 : Old Z n0 T_1.heap := O.ext K_1
    have f_3 : RefV Z T_1.heap x1 "java/lang/String" := Ux1.ext K_1
    have f_4 : IntV Z T_1.heap x2 := Ux2.ext K_1
    have f_5 : RefV Z T_1.heap x3 "java/lang/String" := Ux3.ext K_1
    have f_6 : IntV Z T_1.heap x4 := Ux4.ext K_1
    have f_7 : LIv Z vm0 T_1.heap := LI0.ext K_1
    have K_8 : Keep h0 T_1.heap [] := K0.ext K_1
    have y_8 : n0 ≤ T_1.heap.size := Nat.le_trans Z0 K_8.1
    have hk_8 := Nat.le_trans hk K_1.1
    refine GoesW.go (U' := (T_1.setTop (mkF m 95 #[sI_ fl, sI_ pdc, sI_ pec, sI_ pne, sI_ ps, sI_ pt, .val x1, .val x2, .val x3, .val x4, sU_, sU_, sU_, sU_] [(.ref r_1)]))) st_1 ?_
    refine GoesW.go (U' := (T_1.setTop (mkF m 97 #[sI_ fl, sI_ pdc, sI_ pec, sI_ pne, sI_ ps, sI_ pt, .val x1, .val x2, .val x3, .val x4, sR_ r_1, sU_, sU_, sU_] []))) (fun t kt => ?_) ?_
    · skip
      refine XS.astore X_1.here hx rfl (hb hby at_95) rfl rfl (l' := #[sI_ fl, sI_ pdc, sI_ pec, sI_ pne, sI_ ps, sI_ pt, .val x1, .val x2, .val x3, .val x4, sR_ r_1, sU_, sU_, sU_]) rfl ?_
      exact kt
    exact law_97 l Z a0 hw fl pdc pec pne ps pt cs x1 x2 x3 x4 (.ref r_1) h0 n0 Z0 p e s m below meth c _ _ hx hby hml hown hnm hret hlk hZ _ _ _ X_1 (rfl : T_1.heap = T_1.heap) N_1 K_8 f_2 BC SH SC hcs hh hcw f_3 f_4 f_5 f_6 (Or.inr ⟨_, _, rfl, E_1, F_1⟩) hS hk_8 f_7
  · -- not (fl &&& (16 : Int32)) = 0
    refine GoesW.go (U' := (T.setTop (mkF m 97 #[sI_ fl, sI_ pdc, sI_ pec, sI_ pne, sI_ ps, sI_ pt, .val x1, .val x2, .val x3, .val x4, .val .null, sU_, sU_, sU_] []))) (fun t kt => ?_) ?_
    · skip
      refine XS.ifNo X.here hx rfl (hb hby at_84) rfl (XT.i0_eq_f cc) ?_
      refine XS.aconstNull X.here hx rfl (hb hby at_87) ?_
      refine XS.goto X.here hx rfl (pc0 := 88) (pc' := 95) rfl (hb hby at_88) (by decide) (by decide) ?_
      refine XS.astore X.here hx rfl (hb hby at_95) rfl rfl (l' := #[sI_ fl, sI_ pdc, sI_ pec, sI_ pne, sI_ ps, sI_ pt, .val x1, .val x2, .val x3, .val x4, .val .null, sU_, sU_, sU_]) rfl ?_
      exact kt
    exact law_97 l Z a0 hw fl pdc pec pne ps pt cs x1 x2 x3 x4 Value.null h0 n0 Z0 p e s m below meth c _ _ hx hby hml hown hnm hret hlk hZ _ _ _ (moreRoom (cells' := 11) (slots' := 19) X (by decide) (by decide)) eT N K0 O BC SH SC hcs hh hcw Ux1 Ux2 Ux3 Ux4 (Or.inl rfl) hS hk LI0
set_option maxRecDepth 65536 in
set_option maxHeartbeats 40000000 in
theorem law_63 (l : Launch) (Z : State) (a0 : Array Value) (hw : ∀ d ∈ tables_1, d.before a0 Z = true) (fl pdc pec pne ps pt : Int32) (cs : Int32) (x1 x2 x3 : Value) (h0 : Heap) (n0 : Nat) (Z0 : n0 ≤ h0.size) (p : Program) (e : Env) (s : State) (m : MethodId) (below : List Frame) (meth : Method) (c : Code) (vm0 : Vm) (k0 : Nat) (hx : p.tables.exec = Jvm.exec) (hby : c.code = code) (hml : c.maxLocals = maxLocals) (hown : (s.setVm vm0).vm.findClass "com/example/kilnroute/kilnroute/spark/ResourcesWithDriverMemoryPinLaw" = some m.cls) (hnm : meth.name = "law") (hret : meth.sig.returnType = ret) (hlk : meth.locks = false) (hZ : Z.Warmed39 (s.setVm vm0).vm) (h : Heap) (T : State) (locs : List Loc) (X : Stand p l e room_1 (s.setVm vm0) m #[(.int fl), (.int pdc), (.int pec), (.int pne), (.int ps), (.int pt)] below meth c T locs 9 17) (eT : T.heap = h) (N : Fr n0 locs) (K0 : Keep h0 h []) (O : Old Z n0 h) (BC : BoxC Z "java/lang/Integer$IntegerCache" "[Ljava/lang/Integer;" "java/lang/Integer" "I" (fun i => .int (i.toInt32 - 128))) (SH : Sta Z Z.heap "java/lang/Integer$IntegerCache" "high" "I" (.int (127 : Int32))) (SC : Sta Z Z.heap "java/lang/String" "COMPACT_STRINGS" "Z" (.int cs)) (hcs : ¬ cs = 0) (hh : Jvm.Lit.constHeld Z "java/lang/String" 7) (hcw : Jvm.Lit.compactW.before a0 Z = true) (Ux1 : RefV Z h x1 "java/lang/String") (Ux2 : IntV Z h x2) (Ux3 : RefV Z h x3 "java/lang/String") (hS : s.Since vm0 k0) (hk : k0 ≤ h.size) (LI0 : LIv Z vm0 h) :
    GoesW p e s below (fun v V L => v = some (.int 1) ∧ Fr n0 L) room_1.cells room_1.slots (T.setTop (mkF m 63 #[sI_ fl, sI_ pdc, sI_ pec, sI_ pne, sI_ ps, sI_ pt, .val x1, .val x2, .val x3, sU_, sU_, sU_, sU_, sU_] [])) := by
  have sz0 : n0 ≤ h.size := Nat.le_trans Z0 K0.1
  refine GoesW.go (U' := (T.setTop (mkF m 67 #[sI_ fl, sI_ pdc, sI_ pec, sI_ pne, sI_ ps, sI_ pt, .val x1, .val x2, .val x3, sU_, sU_, sU_, sU_, sU_] [(.int (fl &&& (8 : Int32)))]))) (fun t kt => ?_) ?_
  · skip
    refine XS.iloadN X.here hx rfl (hb hby at_63) rfl ?_
    refine XS.bipush X.here hx rfl (hb hby at_64) ?_
    refine XS.iand X.here hx rfl (hb hby at_66) rfl ?_
    exact kt
  by_cases cc : (fl &&& (8 : Int32)) = 0
  · -- (fl &&& (8 : Int32)) = 0
    refine GoesW.go (U' := (T.setTop (mkF m 75 #[sI_ fl, sI_ pdc, sI_ pec, sI_ pne, sI_ ps, sI_ pt, .val x1, .val x2, .val x3, sU_, sU_, sU_, sU_, sU_] [(.int pec)]))) (fun t kt => ?_) ?_
    · skip
      refine XS.ifYes X.here hx rfl (pc0 := 67) (pc' := 74) rfl (hb hby at_67) rfl (XT.i0_eq_t cc) (by decide) (by decide) ?_
      refine XS.iloadN X.here hx rfl (hb hby at_74) rfl ?_
      exact kt
    obtain ⟨v_1, T_1, L_1, X_1, q_1, st_1⟩ := callStatic X hx hZ (y := (⟨"java/lang/Integer", "valueOf", "(I)Ljava/lang/Integer;"⟩ : MethodName)) (W := 0) hown (wdOf hw 26 rfl) (wdOf hw 27 rfl) (wdOf hw 28 rfl) (wdOf hw 29 rfl) (by decide) (rm_vo l Z a0 hw [] pec h n0 sz0 O BC SH) (by decide) (by decide) (by decide) (by decide) eT (g := (mkF m 75 #[sI_ fl, sI_ pdc, sI_ pec, sI_ pne, sI_ ps, sI_ pt, .val x1, .val x2, .val x3, sU_, sU_, sU_, sU_, sU_] [(.int pec)])) rfl (by rw [hml]; rfl) (argsL := [(.int pec)]) (rest := []) (lenOf pd_16 rfl) rfl rfl (Nat.le_refl _) (hb hby at_75)
    obtain ⟨r_1, rfl, n_1, K_1, E_1, F_1⟩ := q_1
    have N_1 := Fr.app N n_1
    have f_2 : Old Z n0 T_1.heap := O.ext K_1
    have f_3 : RefV Z T_1.heap x1 "java/lang/String" := Ux1.ext K_1
    have f_4 : IntV Z T_1.heap x2 := Ux2.ext K_1
    have f_5 : RefV Z T_1.heap x3 "java/lang/String" := Ux3.ext K_1
    have f_6 : LIv Z vm0 T_1.heap := LI0.ext K_1
    have K_7 : Keep h0 T_1.heap [] := K0.ext K_1
    have y_7 : n0 ≤ T_1.heap.size := Nat.le_trans Z0 K_7.1
    have hk_7 := Nat.le_trans hk K_1.1
    refine GoesW.go (U' := (T_1.setTop (mkF m 78 #[sI_ fl, sI_ pdc, sI_ pec, sI_ pne, sI_ ps, sI_ pt, .val x1, .val x2, .val x3, sU_, sU_, sU_, sU_, sU_] [(.ref r_1)]))) st_1 ?_
    refine GoesW.go (U' := (T_1.setTop (mkF m 80 #[sI_ fl, sI_ pdc, sI_ pec, sI_ pne, sI_ ps, sI_ pt, .val x1, .val x2, .val x3, sR_ r_1, sU_, sU_, sU_, sU_] []))) (fun t kt => ?_) ?_
    · skip
      refine XS.astore X_1.here hx rfl (hb hby at_78) rfl rfl (l' := #[sI_ fl, sI_ pdc, sI_ pec, sI_ pne, sI_ ps, sI_ pt, .val x1, .val x2, .val x3, sR_ r_1, sU_, sU_, sU_, sU_]) rfl ?_
      exact kt
    exact law_80 l Z a0 hw fl pdc pec pne ps pt cs x1 x2 x3 (.ref r_1) h0 n0 Z0 p e s m below meth c _ _ hx hby hml hown hnm hret hlk hZ _ _ _ X_1 (rfl : T_1.heap = T_1.heap) N_1 K_7 f_2 BC SH SC hcs hh hcw f_3 f_4 f_5 (Or.inr ⟨_, _, rfl, E_1, F_1⟩) hS hk_7 f_6
  · -- not (fl &&& (8 : Int32)) = 0
    refine GoesW.go (U' := (T.setTop (mkF m 80 #[sI_ fl, sI_ pdc, sI_ pec, sI_ pne, sI_ ps, sI_ pt, .val x1, .val x2, .val x3, .val .null, sU_, sU_, sU_, sU_] []))) (fun t kt => ?_) ?_
    · skip
      refine XS.ifNo X.here hx rfl (hb hby at_67) rfl (XT.i0_eq_f cc) ?_
      refine XS.aconstNull X.here hx rfl (hb hby at_70) ?_
      refine XS.goto X.here hx rfl (pc0 := 71) (pc' := 78) rfl (hb hby at_71) (by decide) (by decide) ?_
      refine XS.astore X.here hx rfl (hb hby at_78) rfl rfl (l' := #[sI_ fl, sI_ pdc, sI_ pec, sI_ pne, sI_ ps, sI_ pt, .val x1, .val x2, .val x3, .val .null, sU_, sU_, sU_, sU_]) rfl ?_
      exact kt
    exact law_80 l Z a0 hw fl pdc pec pne ps pt cs x1 x2 x3 Value.null h0 n0 Z0 p e s m below meth c _ _ hx hby hml hown hnm hret hlk hZ _ _ _ (moreRoom (cells' := 10) (slots' := 18) X (by decide) (by decide)) eT N K0 O BC SH SC hcs hh hcw Ux1 Ux2 Ux3 (Or.inl rfl) hS hk LI0
set_option maxRecDepth 65536 in
set_option maxHeartbeats 40000000 in
theorem law_38 (l : Launch) (Z : State) (a0 : Array Value) (hw : ∀ d ∈ tables_1, d.before a0 Z = true) (fl pdc pec pne ps pt : Int32) (cs : Int32) (x1 x2 : Value) (h0 : Heap) (n0 : Nat) (Z0 : n0 ≤ h0.size) (p : Program) (e : Env) (s : State) (m : MethodId) (below : List Frame) (meth : Method) (c : Code) (vm0 : Vm) (k0 : Nat) (hx : p.tables.exec = Jvm.exec) (hby : c.code = code) (hml : c.maxLocals = maxLocals) (hown : (s.setVm vm0).vm.findClass "com/example/kilnroute/kilnroute/spark/ResourcesWithDriverMemoryPinLaw" = some m.cls) (hnm : meth.name = "law") (hret : meth.sig.returnType = ret) (hlk : meth.locks = false) (hZ : Z.Warmed39 (s.setVm vm0).vm) (h : Heap) (T : State) (locs : List Loc) (X : Stand p l e room_1 (s.setVm vm0) m #[(.int fl), (.int pdc), (.int pec), (.int pne), (.int ps), (.int pt)] below meth c T locs 5 9) (eT : T.heap = h) (N : Fr n0 locs) (K0 : Keep h0 h []) (O : Old Z n0 h) (BC : BoxC Z "java/lang/Integer$IntegerCache" "[Ljava/lang/Integer;" "java/lang/Integer" "I" (fun i => .int (i.toInt32 - 128))) (SH : Sta Z Z.heap "java/lang/Integer$IntegerCache" "high" "I" (.int (127 : Int32))) (SC : Sta Z Z.heap "java/lang/String" "COMPACT_STRINGS" "Z" (.int cs)) (hcs : ¬ cs = 0) (hh : Jvm.Lit.constHeld Z "java/lang/String" 7) (hcw : Jvm.Lit.compactW.before a0 Z = true) (Ux1 : RefV Z h x1 "java/lang/String") (Ux2 : IntV Z h x2) (hS : s.Since vm0 k0) (hk : k0 ≤ h.size) (LI0 : LIv Z vm0 h) :
    GoesW p e s below (fun v V L => v = some (.int 1) ∧ Fr n0 L) room_1.cells room_1.slots (T.setTop (mkF m 38 #[sI_ fl, sI_ pdc, sI_ pec, sI_ pne, sI_ ps, sI_ pt, .val x1, .val x2, sU_, sU_, sU_, sU_, sU_, sU_] [])) := by
  have sz0 : n0 ≤ h.size := Nat.le_trans Z0 K0.1
  refine GoesW.go (U' := (T.setTop (mkF m 41 #[sI_ fl, sI_ pdc, sI_ pec, sI_ pne, sI_ ps, sI_ pt, .val x1, .val x2, sU_, sU_, sU_, sU_, sU_, sU_] [(.int (fl &&& (4 : Int32)))]))) (fun t kt => ?_) ?_
  · skip
    refine XS.iloadN X.here hx rfl (hb hby at_38) rfl ?_
    refine XS.iconst X.here hx rfl (hb hby at_39) ?_
    refine XS.iand X.here hx rfl (hb hby at_40) rfl ?_
    exact kt
  by_cases cc : (fl &&& (4 : Int32)) = 0
  · -- (fl &&& (4 : Int32)) = 0
    refine GoesW.go (U' := (T.setTop (mkF m 58 #[sI_ fl, sI_ pdc, sI_ pec, sI_ pne, sI_ ps, sI_ pt, .val x1, .val x2, sU_, sU_, sU_, sU_, sU_, sU_] [(.int ((ps.toUInt32 >>> ((18 : Int32) &&& 31).toUInt32).toInt32)), (.int ((ps.toUInt32 >>> ((8 : Int32) &&& 31).toUInt32).toInt32))]))) (fun t kt => ?_) ?_
    · skip
      refine XS.ifYes X.here hx rfl (pc0 := 41) (pc' := 48) rfl (hb hby at_41) rfl (XT.i0_eq_t cc) (by decide) (by decide) ?_
      refine XS.iload X.here hx rfl (hb hby at_48) rfl ?_
      refine XS.bipush X.here hx rfl (hb hby at_50) ?_
      refine XS.iushr X.here hx rfl (hb hby at_52) rfl ?_
      refine XS.iload X.here hx rfl (hb hby at_53) rfl ?_
      refine XS.bipush X.here hx rfl (hb hby at_55) ?_
      refine XS.iushr X.here hx rfl (hb hby at_57) rfl ?_
      exact kt
    obtain ⟨v_1, T_1, V_1, L_1, X_1, ve_1, vv_1, q_1, hS_1, hZ, hown, st_1⟩ := callStaticW X hx hZ (y := (⟨"com/example/kilnroute/kilnroute/spark/ResourcesWithDriverMemoryPinLaw", "mk", "(II)Ljava/lang/String;"⟩ : MethodName)) (W := 0) hown (wdOf hw 0 rfl) (wdOf hw 1 rfl) (wdOf hw 2 rfl) (wdOf hw 3 rfl) (by decide) (rm_mk l Z a0 hw [] ((ps.toUInt32 >>> ((8 : Int32) &&& 31).toUInt32).toInt32) ((ps.toUInt32 >>> ((18 : Int32) &&& 31).toUInt32).toInt32) cs h n0 sz0 O SC hcs hh hcw) (by decide) (by decide) (by decide) (by decide) eT (fun _ q => LI0.warm q) hS hk (g := (mkF m 58 #[sI_ fl, sI_ pdc, sI_ pec, sI_ pne, sI_ ps, sI_ pt, .val x1, .val x2, sU_, sU_, sU_, sU_, sU_, sU_] [(.int ((ps.toUInt32 >>> ((18 : Int32) &&& 31).toUInt32).toInt32)), (.int ((ps.toUInt32 >>> ((8 : Int32) &&& 31).toUInt32).toInt32))])) rfl (by rw [hml]; rfl) (argsL := [(.int ((ps.toUInt32 >>> ((8 : Int32) &&& 31).toUInt32).toInt32)), (.int ((ps.toUInt32 >>> ((18 : Int32) &&& 31).toUInt32).toInt32))]) (rest := []) (lenOf pd_15 rfl) rfl rfl (Nat.le_refl _) (hb hby at_58)
    rw [ve_1, vv_1] at q_1
    obtain ⟨r_1, rfl, n_1, K_1, LI_1, E_1⟩ := q_1
    have N_1 := Fr.app N n_1
    have f_2 : Old Z n0 T_1.heap := O.ext K_1
    have f_3 : RefV Z T_1.heap x1 "java/lang/String" := Ux1.ext K_1
    have f_4 : IntV Z T_1.heap x2 := Ux2.ext K_1
    have K_5 : Keep h0 T_1.heap [] := K0.ext K_1
    have y_5 : n0 ≤ T_1.heap.size := Nat.le_trans Z0 K_5.1
    have hk_5 := Nat.le_trans hk K_1.1
    refine GoesW.go (U' := (T_1.setTop (mkF m 61 #[sI_ fl, sI_ pdc, sI_ pec, sI_ pne, sI_ ps, sI_ pt, .val x1, .val x2, sU_, sU_, sU_, sU_, sU_, sU_] [(.ref r_1)]))) st_1 ?_
    refine GoesW.go (U' := (T_1.setTop (mkF m 63 #[sI_ fl, sI_ pdc, sI_ pec, sI_ pne, sI_ ps, sI_ pt, .val x1, .val x2, sR_ r_1, sU_, sU_, sU_, sU_, sU_] []))) (fun t kt => ?_) ?_
    · skip
      refine XS.astore X_1.here hx rfl (hb hby at_61) rfl rfl (l' := #[sI_ fl, sI_ pdc, sI_ pec, sI_ pne, sI_ ps, sI_ pt, .val x1, .val x2, sR_ r_1, sU_, sU_, sU_, sU_, sU_]) rfl ?_
      exact kt
    exact law_63 l Z a0 hw fl pdc pec pne ps pt cs x1 x2 (.ref r_1) h0 n0 Z0 p e s m below meth c _ _ hx hby hml hown hnm hret hlk hZ _ _ _ X_1 (rfl : T_1.heap = T_1.heap) N_1 K_5 f_2 BC SH SC hcs hh hcw f_3 f_4 (Or.inr ⟨_, rfl, E_1⟩) hS_1 (Nat.le_refl _) LI_1
  · -- not (fl &&& (4 : Int32)) = 0
    refine GoesW.go (U' := (T.setTop (mkF m 63 #[sI_ fl, sI_ pdc, sI_ pec, sI_ pne, sI_ ps, sI_ pt, .val x1, .val x2, .val .null, sU_, sU_, sU_, sU_, sU_] []))) (fun t kt => ?_) ?_
    · skip
      refine XS.ifNo X.here hx rfl (hb hby at_41) rfl (XT.i0_eq_f cc) ?_
      refine XS.aconstNull X.here hx rfl (hb hby at_44) ?_
      refine XS.goto X.here hx rfl (pc0 := 45) (pc' := 61) rfl (hb hby at_45) (by decide) (by decide) ?_
      refine XS.astore X.here hx rfl (hb hby at_61) rfl rfl (l' := #[sI_ fl, sI_ pdc, sI_ pec, sI_ pne, sI_ ps, sI_ pt, .val x1, .val x2, .val .null, sU_, sU_, sU_, sU_, sU_]) rfl ?_
      exact kt
    exact law_63 l Z a0 hw fl pdc pec pne ps pt cs x1 x2 Value.null h0 n0 Z0 p e s m below meth c _ _ hx hby hml hown hnm hret hlk hZ _ _ _ (moreRoom (cells' := 9) (slots' := 17) X (by decide) (by decide)) eT N K0 O BC SH SC hcs hh hcw Ux1 Ux2 (Or.inl rfl) hS hk LI0
set_option maxRecDepth 65536 in
set_option maxHeartbeats 40000000 in
theorem law_22 (l : Launch) (Z : State) (a0 : Array Value) (hw : ∀ d ∈ tables_1, d.before a0 Z = true) (fl pdc pec pne ps pt : Int32) (cs : Int32) (x1 : Value) (h0 : Heap) (n0 : Nat) (Z0 : n0 ≤ h0.size) (p : Program) (e : Env) (s : State) (m : MethodId) (below : List Frame) (meth : Method) (c : Code) (vm0 : Vm) (k0 : Nat) (hx : p.tables.exec = Jvm.exec) (hby : c.code = code) (hml : c.maxLocals = maxLocals) (hown : (s.setVm vm0).vm.findClass "com/example/kilnroute/kilnroute/spark/ResourcesWithDriverMemoryPinLaw" = some m.cls) (hnm : meth.name = "law") (hret : meth.sig.returnType = ret) (hlk : meth.locks = false) (hZ : Z.Warmed39 (s.setVm vm0).vm) (h : Heap) (T : State) (locs : List Loc) (X : Stand p l e room_1 (s.setVm vm0) m #[(.int fl), (.int pdc), (.int pec), (.int pne), (.int ps), (.int pt)] below meth c T locs 4 8) (eT : T.heap = h) (N : Fr n0 locs) (K0 : Keep h0 h []) (O : Old Z n0 h) (BC : BoxC Z "java/lang/Integer$IntegerCache" "[Ljava/lang/Integer;" "java/lang/Integer" "I" (fun i => .int (i.toInt32 - 128))) (SH : Sta Z Z.heap "java/lang/Integer$IntegerCache" "high" "I" (.int (127 : Int32))) (SC : Sta Z Z.heap "java/lang/String" "COMPACT_STRINGS" "Z" (.int cs)) (hcs : ¬ cs = 0) (hh : Jvm.Lit.constHeld Z "java/lang/String" 7) (hcw : Jvm.Lit.compactW.before a0 Z = true) (Ux1 : RefV Z h x1 "java/lang/String") (hS : s.Since vm0 k0) (hk : k0 ≤ h.size) (LI0 : LIv Z vm0 h) :
    GoesW p e s below (fun v V L => v = some (.int 1) ∧ Fr n0 L) room_1.cells room_1.slots (T.setTop (mkF m 22 #[sI_ fl, sI_ pdc, sI_ pec, sI_ pne, sI_ ps, sI_ pt, .val x1, sU_, sU_, sU_, sU_, sU_, sU_, sU_] [])) := by
  have sz0 : n0 ≤ h.size := Nat.le_trans Z0 K0.1
  refine GoesW.go (U' := (T.setTop (mkF m 25 #[sI_ fl, sI_ pdc, sI_ pec, sI_ pne, sI_ ps, sI_ pt, .val x1, sU_, sU_, sU_, sU_, sU_, sU_, sU_] [(.int (fl &&& (2 : Int32)))]))) (fun t kt => ?_) ?_
  · skip
    refine XS.iloadN X.here hx rfl (hb hby at_22) rfl ?_
    refine XS.iconst X.here hx rfl (hb hby at_23) ?_
    refine XS.iand X.here hx rfl (hb hby at_24) rfl ?_
    exact kt
  by_cases cc : (fl &&& (2 : Int32)) = 0
  · -- (fl &&& (2 : Int32)) = 0
    refine GoesW.go (U' := (T.setTop (mkF m 33 #[sI_ fl, sI_ pdc, sI_ pec, sI_ pne, sI_ ps, sI_ pt, .val x1, sU_, sU_, sU_, sU_, sU_, sU_, sU_] [(.int pdc)]))) (fun t kt => ?_) ?_
    · skip
      refine XS.ifYes X.here hx rfl (pc0 := 25) (pc' := 32) rfl (hb hby at_25) rfl (XT.i0_eq_t cc) (by decide) (by decide) ?_
      refine XS.iloadN X.here hx rfl (hb hby at_32) rfl ?_
      exact kt
    obtain ⟨v_1, T_1, L_1, X_1, q_1, st_1⟩ := callStatic X hx hZ (y := (⟨"java/lang/Integer", "valueOf", "(I)Ljava/lang/Integer;"⟩ : MethodName)) (W := 0) hown (wdOf hw 26 rfl) (wdOf hw 27 rfl) (wdOf hw 28 rfl) (wdOf hw 29 rfl) (by decide) (rm_vo l Z a0 hw [] pdc h n0 sz0 O BC SH) (by decide) (by decide) (by decide) (by decide) eT (g := (mkF m 33 #[sI_ fl, sI_ pdc, sI_ pec, sI_ pne, sI_ ps, sI_ pt, .val x1, sU_, sU_, sU_, sU_, sU_, sU_, sU_] [(.int pdc)])) rfl (by rw [hml]; rfl) (argsL := [(.int pdc)]) (rest := []) (lenOf pd_16 rfl) rfl rfl (Nat.le_refl _) (hb hby at_33)
    obtain ⟨r_1, rfl, n_1, K_1, E_1, F_1⟩ := q_1
    have N_1 := Fr.app N n_1
    have f_2 : Old Z n0 T_1.heap := O.ext K_1
    have f_3 : RefV Z T_1.heap x1 "java/lang/String" := Ux1.ext K_1
    have f_4 : LIv Z vm0 T_1.heap := LI0.ext K_1
    have K_5 : Keep h0 T_1.heap [] := K0.ext K_1
    have y_5 : n0 ≤ T_1.heap.size := Nat.le_trans Z0 K_5.1
    have hk_5 := Nat.le_trans hk K_1.1
    refine GoesW.go (U' := (T_1.setTop (mkF m 36 #[sI_ fl, sI_ pdc, sI_ pec, sI_ pne, sI_ ps, sI_ pt, .val x1, sU_, sU_, sU_, sU_, sU_, sU_, sU_] [(.ref r_1)]))) st_1 ?_
    refine GoesW.go (U' := (T_1.setTop (mkF m 38 #[sI_ fl, sI_ pdc, sI_ pec, sI_ pne, sI_ ps, sI_ pt, .val x1, sR_ r_1, sU_, sU_, sU_, sU_, sU_, sU_] []))) (fun t kt => ?_) ?_
    · skip
      refine XS.astore X_1.here hx rfl (hb hby at_36) rfl rfl (l' := #[sI_ fl, sI_ pdc, sI_ pec, sI_ pne, sI_ ps, sI_ pt, .val x1, sR_ r_1, sU_, sU_, sU_, sU_, sU_, sU_]) rfl ?_
      exact kt
    exact law_38 l Z a0 hw fl pdc pec pne ps pt cs x1 (.ref r_1) h0 n0 Z0 p e s m below meth c _ _ hx hby hml hown hnm hret hlk hZ _ _ _ X_1 (rfl : T_1.heap = T_1.heap) N_1 K_5 f_2 BC SH SC hcs hh hcw f_3 (Or.inr ⟨_, _, rfl, E_1, F_1⟩) hS hk_5 f_4
  · -- not (fl &&& (2 : Int32)) = 0
    refine GoesW.go (U' := (T.setTop (mkF m 38 #[sI_ fl, sI_ pdc, sI_ pec, sI_ pne, sI_ ps, sI_ pt, .val x1, .val .null, sU_, sU_, sU_, sU_, sU_, sU_] []))) (fun t kt => ?_) ?_
    · skip
      refine XS.ifNo X.here hx rfl (hb hby at_25) rfl (XT.i0_eq_f cc) ?_
      refine XS.aconstNull X.here hx rfl (hb hby at_28) ?_
      refine XS.goto X.here hx rfl (pc0 := 29) (pc' := 36) rfl (hb hby at_29) (by decide) (by decide) ?_
      refine XS.astore X.here hx rfl (hb hby at_36) rfl rfl (l' := #[sI_ fl, sI_ pdc, sI_ pec, sI_ pne, sI_ ps, sI_ pt, .val x1, .val .null, sU_, sU_, sU_, sU_, sU_, sU_]) rfl ?_
      exact kt
    exact law_38 l Z a0 hw fl pdc pec pne ps pt cs x1 Value.null h0 n0 Z0 p e s m below meth c _ _ hx hby hml hown hnm hret hlk hZ _ _ _ (moreRoom (cells' := 5) (slots' := 9) X (by decide) (by decide)) eT N K0 O BC SH SC hcs hh hcw Ux1 (Or.inl rfl) hS hk LI0
set_option maxHeartbeats 4000000 in
theorem ef_rm_law (m : MethodId) (x0 : Int32) (x1 : Int32) (x2 : Int32) (x3 : Int32) (x4 : Int32) (x5 : Int32)  : entryFrame m #[(.int x0), (.int x1), (.int x2), (.int x3), (.int x4), (.int x5)] maxLocals = mkF m 0 #[.val (.int x0), .val (.int x1), .val (.int x2), .val (.int x3), .val (.int x4), .val (.int x5), .unset, .unset, .unset, .unset, .unset, .unset, .unset, .unset] [] := by first | (simp [entryFrame, mkF, argsToLocals, catR, catN, catI, catJ, maxLocals]; done) | rfl
set_option maxRecDepth 65536 in
set_option maxHeartbeats 40000000 in
theorem rm_law (l : Launch) (Z : State) (a0 : Array Value) (hw : ∀ d ∈ tables_1, d.before a0 Z = true) (ws : List Jvm.Cond) (fl pdc pec pne ps pt : Int32) (cs : Int32) (h0 : Heap) (n0 : Nat) (Z0 : n0 ≤ h0.size) (O : Old Z n0 h0) (BC : BoxC Z "java/lang/Integer$IntegerCache" "[Ljava/lang/Integer;" "java/lang/Integer" "I" (fun i => .int (i.toInt32 - 128))) (SH : Sta Z Z.heap "java/lang/Integer$IntegerCache" "high" "I" (.int (127 : Int32))) (SC : Sta Z Z.heap "java/lang/String" "COMPACT_STRINGS" "Z" (.int cs)) (hcs : ¬ cs = 0) (hh : Jvm.Lit.constHeld Z "java/lang/String" 7) (hcw : Jvm.Lit.compactW.before a0 Z = true) :
    PaysW l Z x code maxLocals ret ws room_1 #[(.int fl), (.int pdc), (.int pec), (.int pne), (.int ps), (.int pt)] h0 (LIv Z) (fun v V L => v = some (.int 1) ∧ Fr n0 L) := by
  refine PaysW.of (plainFor_of_name (by first | (simp [plainName, overriddenIn]; done) | decide +kernel)) ?_
  intro p e s m below meth c s₁ hx hby hml hown hnm hret hlk hZ e0 hsh hLI hS X0
  have hk0 : 0 ≤ h0.size := Nat.zero_le _
  replace hLI : LIv Z s.vm h0 := hLI
  have N0 := Fr.nil n0
  have K0 : Keep h0 h0 [] := Keep.refl _ _
  refine GoesW.go (U' := (s₁.setTop (mkF m 0 #[sI_ fl, sI_ pdc, sI_ pec, sI_ pne, sI_ ps, sI_ pt, sU_, sU_, sU_, sU_, sU_, sU_, sU_, sU_] []))) (fun t kt => castTop (ef_rm_law m fl pdc pec pne ps pt) kt) ?_
  refine GoesW.go (U' := (s₁.setTop (mkF m 3 #[sI_ fl, sI_ pdc, sI_ pec, sI_ pne, sI_ ps, sI_ pt, sU_, sU_, sU_, sU_, sU_, sU_, sU_, sU_] [(.int (fl &&& (1 : Int32)))]))) (fun t kt => ?_) ?_
  · skip
    refine XS.iloadN X0.here hx rfl (hb hby at_0) rfl ?_
    refine XS.iconst X0.here hx rfl (hb hby at_1) ?_
    refine XS.iand X0.here hx rfl (hb hby at_2) rfl ?_
    exact kt
  by_cases cc : (fl &&& (1 : Int32)) = 0
  · -- (fl &&& (1 : Int32)) = 0
    refine GoesW.go (U' := (s₁.setTop (mkF m 17 #[sI_ fl, sI_ pdc, sI_ pec, sI_ pne, sI_ ps, sI_ pt, sU_, sU_, sU_, sU_, sU_, sU_, sU_, sU_] [(.int ((ps.toUInt32 >>> ((16 : Int32) &&& 31).toUInt32).toInt32)), (.int ps)]))) (fun t kt => ?_) ?_
    · skip
      refine XS.ifYes X0.here hx rfl (pc0 := 3) (pc' := 10) rfl (hb hby at_3) rfl (XT.i0_eq_t cc) (by decide) (by decide) ?_
      refine XS.iload X0.here hx rfl (hb hby at_10) rfl ?_
      refine XS.iload X0.here hx rfl (hb hby at_12) rfl ?_
      refine XS.bipush X0.here hx rfl (hb hby at_14) ?_
      refine XS.iushr X0.here hx rfl (hb hby at_16) rfl ?_
      exact kt
    obtain ⟨v_1, T_1, V_1, L_1, X_1, ve_1, vv_1, q_1, hS_1, hZ, hown, st_1⟩ := callStaticW X0 hx hZ (y := (⟨"com/example/kilnroute/kilnroute/spark/ResourcesWithDriverMemoryPinLaw", "mk", "(II)Ljava/lang/String;"⟩ : MethodName)) (W := 0) hown (wdOf hw 0 rfl) (wdOf hw 1 rfl) (wdOf hw 2 rfl) (wdOf hw 3 rfl) (by decide) (rm_mk l Z a0 hw [] ps ((ps.toUInt32 >>> ((16 : Int32) &&& 31).toUInt32).toInt32) cs h0 n0 Z0 O SC hcs hh hcw) (by decide) (by decide) (by decide) (by decide) e0 (fun _ q => hLI.warm q) hS hk0 (g := (mkF m 17 #[sI_ fl, sI_ pdc, sI_ pec, sI_ pne, sI_ ps, sI_ pt, sU_, sU_, sU_, sU_, sU_, sU_, sU_, sU_] [(.int ((ps.toUInt32 >>> ((16 : Int32) &&& 31).toUInt32).toInt32)), (.int ps)])) rfl (by rw [hml]; rfl) (argsL := [(.int ps), (.int ((ps.toUInt32 >>> ((16 : Int32) &&& 31).toUInt32).toInt32))]) (rest := []) (lenOf pd_15 rfl) rfl rfl (Nat.le_refl _) (hb hby at_17)
    rw [ve_1, vv_1] at q_1
    obtain ⟨r_1, rfl, n_1, K_1, LI_1, E_1⟩ := q_1
    have N_1 := Fr.app N0 n_1
    have f_2 : Old Z n0 T_1.heap := O.ext K_1
    have K_3 : Keep h0 T_1.heap [] := K0.ext K_1
    have y_3 : n0 ≤ T_1.heap.size := Nat.le_trans Z0 K_3.1
    have hk_3 := Nat.le_trans hk0 K_1.1
    refine GoesW.go (U' := (T_1.setTop (mkF m 20 #[sI_ fl, sI_ pdc, sI_ pec, sI_ pne, sI_ ps, sI_ pt, sU_, sU_, sU_, sU_, sU_, sU_, sU_, sU_] [(.ref r_1)]))) st_1 ?_
    refine GoesW.go (U' := (T_1.setTop (mkF m 22 #[sI_ fl, sI_ pdc, sI_ pec, sI_ pne, sI_ ps, sI_ pt, sR_ r_1, sU_, sU_, sU_, sU_, sU_, sU_, sU_] []))) (fun t kt => ?_) ?_
    · skip
      refine XS.astore X_1.here hx rfl (hb hby at_20) rfl rfl (l' := #[sI_ fl, sI_ pdc, sI_ pec, sI_ pne, sI_ ps, sI_ pt, sR_ r_1, sU_, sU_, sU_, sU_, sU_, sU_, sU_]) rfl ?_
      exact kt
    exact law_22 l Z a0 hw fl pdc pec pne ps pt cs  (.ref r_1) h0 n0 Z0 p e s m below meth c _ _ hx hby hml hown hnm hret hlk hZ _ _ _ X_1 (rfl : T_1.heap = T_1.heap) N_1 K_3 f_2 BC SH SC hcs hh hcw  (Or.inr ⟨_, rfl, E_1⟩) hS_1 (Nat.le_refl _) LI_1
  · -- not (fl &&& (1 : Int32)) = 0
    refine GoesW.go (U' := (s₁.setTop (mkF m 22 #[sI_ fl, sI_ pdc, sI_ pec, sI_ pne, sI_ ps, sI_ pt, .val .null, sU_, sU_, sU_, sU_, sU_, sU_, sU_] []))) (fun t kt => ?_) ?_
    · skip
      refine XS.ifNo X0.here hx rfl (hb hby at_3) rfl (XT.i0_eq_f cc) ?_
      refine XS.aconstNull X0.here hx rfl (hb hby at_6) ?_
      refine XS.goto X0.here hx rfl (pc0 := 7) (pc' := 20) rfl (hb hby at_7) (by decide) (by decide) ?_
      refine XS.astore X0.here hx rfl (hb hby at_20) rfl rfl (l' := #[sI_ fl, sI_ pdc, sI_ pec, sI_ pne, sI_ ps, sI_ pt, .val .null, sU_, sU_, sU_, sU_, sU_, sU_, sU_]) rfl ?_
      exact kt
    exact law_22 l Z a0 hw fl pdc pec pne ps pt cs  Value.null h0 n0 Z0 p e s m below meth c _ _ hx hby hml hown hnm hret hlk hZ _ _ _ (moreRoom (cells' := 4) (slots' := 8) X0 (by decide) (by decide)) e0 N0 K0 O BC SH SC hcs hh hcw  (Or.inl rfl) hS hk0 hLI
set_option maxRecDepth 65536 in
set_option maxHeartbeats 40000000 in
theorem comes_1 {Post : Tables → Env → Array Value → State → Outcome → State → Prop} (hpost : ∀ tb e args s v u, (limb_1_1.after args s (.returned v) u = true ∧ limb_1_2.after args s (.returned v) u = true) → ReturnedEndW s (.returned v) u (Jvm.fieldLocs frame_1_writes args s ++ Jvm.arrayLocs frame_1_arrays args s ++ Jvm.staticLocs frame_1_statics s) 40 1216 → Post tb e args s (.returned v) u) :
    ArmFor flags0 classFile x code maxLocals ret World_1 tables_1 room_1 Calls_1 rest_1 Pre_1 Post := by
  intro l hfl _ _ p e ha hc hk s m args below hf hA hF happ hP
  obtain ⟨hcalls, hrest, hpre⟩ := hP
  obtain ⟨-, -, -, hnamed, -, -, -, hat⟩ := (Spec.applies_iff hf).mp happ
  obtain ⟨hg, hn⟩ := and_e (Cond.before_iff.mp (show (Jvm.Cond.and given_1 narrow_1).before args s = true from hpre))
  obtain ⟨gc, gs⟩ := and_e hg
  obtain ⟨ga0, gs⟩ := and_e gs
  obtain ⟨ga1, gs⟩ := and_e gs
  obtain ⟨ga2, gs⟩ := and_e gs
  obtain ⟨ga3, gs⟩ := and_e gs
  obtain ⟨ga4, gs⟩ := and_e gs
  have ga5 := gs
  obtain ⟨w0, w1, w2, w3, w4, w5, rfl⟩ : ∃ w0 w1 w2 w3 w4 w5 : Value, args = #[w0, w1, w2, w3, w4, w5] := by
    have hs : args.size = 6 := by simpa [Cond.value, given_1] using gc
    obtain ⟨L⟩ := args
    match L, hs with
    | [w0, w1, w2, w3, w4, w5], _ => exact ⟨w0, w1, w2, w3, w4, w5, rfl⟩
  have hw := fun d (hd : d ∈ tables_1) => atoms_spec (ws := Jvm.Cond.code x code maxLocals ret :: tables_1) hat d (List.mem_cons_of_mem _ hd)
  have hfit : Fit s := fun {y c} hc i hi => by
    obtain ⟨ha, rfl⟩ := Array.getElem?_eq_some_iff.mp hc
    have q := List.all_eq_true.mp ((Array.all_eq_true_iff_forall_mem.mp hF) _ (Array.getElem_mem ha)) i (List.mem_range.mpr hi)
    simpa [Array.getElem?_eq_getElem hi] using q
  obtain ⟨i0, ei0⟩ := is_v ga0
  obtain rfl : w0 = (.int i0) := Option.some.inj ei0
  obtain ⟨i1, ei1⟩ := is_v ga1
  obtain rfl : w1 = (.int i1) := Option.some.inj ei1
  obtain ⟨i2, ei2⟩ := is_v ga2
  obtain rfl : w2 = (.int i2) := Option.some.inj ei2
  obtain ⟨i3, ei3⟩ := is_v ga3
  obtain rfl : w3 = (.int i3) := Option.some.inj ei3
  obtain ⟨i4, ei4⟩ := is_v ga4
  obtain rfl : w4 = (.int i4) := Option.some.inj ei4
  obtain ⟨i5, ei5⟩ := is_v ga5
  obtain rfl : w5 = (.int i5) := Option.some.inj ei5
  obtain ⟨hsets, hown0⟩ := atoms_of _ (rest_1_c_eq ▸ (show rest_1_c.before _ s = true from hrest))
  have BC : BoxC s "java/lang/Integer$IntegerCache" "[Ljava/lang/Integer;" "java/lang/Integer" "I" (fun i => .int (i.toInt32 - 128)) := BoxC.start (wdOf hw 31 rfl) (wdOf hsets 2 rfl) (wdOf hsets 4 rfl) (wdOf hsets 6 rfl) (wdOf hsets 7 rfl) (fun _ => rfl) (fun _ => Or.inl ⟨_, rfl⟩)
  have SH : Sta s s.heap "java/lang/Integer$IntegerCache" "high" "I" (.int (127 : Int32)) := Sta.start (eqInt_v (Cond.before_iff.mp (wdOf hsets 3 rfl))) (Or.inr ⟨(wdOf hw 31 rfl), (wdOf hsets 0 rfl)⟩)
  obtain ⟨cs, ecs⟩ := is_v (Cond.before_iff.mp (wdOf hsets 9 rfl))
  have SC : Sta s s.heap "java/lang/String" "COMPACT_STRINGS" "Z" (.int cs) := Sta.start ecs (Or.inl (wdOf hsets 8 rfl))
  have hcs : ¬ cs = 0 := own_cs ecs (Cond.before_iff.mp (wdOf hsets 10 rfl))
  have hcw : Jvm.Lit.compactW.before _ s = true := (wdOf hsets 10 rfl)
  have hh : Jvm.Lit.constHeld s "java/lang/String" 7 := fun c k cf i units a => hcalls.1 ("java/lang/String", 7) (by simp [consts_1]) c k cf i units a
  obtain ⟨n, o, h1, h2, h3, _, L, rfl, ⟨rfl, N⟩, hq⟩ := rm_law l s _ hw tables_1 i0 i1 i2 i3 i4 i5 cs s.heap s.heap.size (Nat.le_refl _) (Old.start s) BC SH SC hcs hh hcw p e ha hc hk s m _ below hf ((Spec.applies_iff_loose hf).mp happ).1 ⟨rfl, State.Warmed39.refl s, rfl, Or.inl IB.start⟩ trivial
  refine ⟨n, _, h1, h2, h3, hpost _ _ _ _ _ _ ⟨Cond.after_iff.mpr rfl, Cond.after_iff.mpr (eq_i res_at (Term.int_eval (1)) rfl)⟩ ⟨hq.1, hq.2.1, hq.2.2.1, (hq.2.2.2.sift fun y hy => Or.inr (N y hy)).mono (by decide) (by decide)⟩⟩
theorem main_1_1 : Claimed_1_1 := comes_1 fun _ _ _ _ _ _ h hF => ⟨h.1, hF⟩
theorem main_1_2 : Claimed_1_2 := comes_1 fun _ _ _ _ _ _ h hF => ⟨h.2, hF⟩
end Jvm.Pilot.@@N@@
namespace Jvm.Pilot.@@N@@
open Jvm Jvm.ClassFile Sem Op Lib Jvm.Free Jvm.Stand Jvm.Pilot.@@N@@.Jvm.D
/-! MADE BY PROGRAM (witnessworld.py) out of the Statement's table words and the real class files: 25 classes; the members and pool entries that the words name. The judged class is class 1, her method 1. -/
namespace start1
open Jvm.ClassFile
def u (s : String) : CpInfo := .utf8 (stringToUtf16 s)
/-- a pool by its gaps: so many unusable entries, then the entry; so many at the end -/
def gap : Nat → List CpInfo → List CpInfo
  | 0, r => r
  | n + 1, r => .unusable :: gap n r
def poolList (es : List (Nat × CpInfo)) (last : Nat) : List CpInfo := es.foldr (fun e r => gap e.1 (e.2 :: r)) (gap last [])
def pool (es : List (Nat × CpInfo)) (last : Nat) : Array CpInfo := ⟨poolList es last⟩
def fileOf (pool : Array CpInfo) (this : Nat) (attrs : Array Attribute := #[]) (ms : Array MethodInfo := #[]) (fl : Nat := 33) (sup : Nat := 0) (ifs : Array Nat := #[]) (fds : Array FieldInfo := #[]) : ClassFile where
  minorVersion := 0
  majorVersion := 65
  constantPool := pool
  accessFlags := fl
  thisClass := this
  superClass := sup
  interfaces := ifs
  fields := fds
  methods := ms
  attributes := attrs
def plain (name : String) (sup : Option ClassId) : Class where
  name := name
  kind := .ordinary
  loader := none
  accessFlags := 33
  super := sup
  interfaces := #[]
  cf := none
  fields := #[]
  methods := #[]
  instanceTypes := #[]
  staticTypes := #[]
  resolved := #[]
  callSites := []
  init := .initialized
  statics := none
  mirror := none

def pool0 : Array CpInfo := pool [(5, u "<init>"), (0, u "()V"), (1, .class_ 10), (1, u "java/lang/Object")] 113

def k0c0 : Code := { maxStack := 0, maxLocals := 1, code := object_method_1_code, exceptionTable := #[], attributes := #[] }
def k0m0 : Method := { name := "<init>", desc := "()V", sig := { parameters := [], returnType := none }, accessFlags := 1, code := some k0c0 }
/-- java/lang/Object -/
def k0 : Class := { plain "java/lang/Object" none with
  accessFlags := 33
  interfaces := #[]
  cf := some (fileOf pool0 8 #[] #[{ accessFlags := 1, nameIndex := 5, descriptorIndex := 6, attributes := #[] }] 33 0 #[] #[])
  fields := #[]
  methods := #[k0m0]
  instanceTypes := #[]
  staticTypes := #[]
  resolved := Array.replicate 124 none
  statics := none }

def pool1 : Array CpInfo := pool [(2, .class_ 4), (1, u "java/lang/Object"), (0, u "<init>"), (0, u "()V"), (0, .methodref 8 9), (0, .class_ 10), (0, .nameAndType 11 12), (0, u "com/example/kilnroute/kilnroute/spark/ResourcesWithDriverMemoryPinLaw"), (0, u "mk"), (0, u "(II)Ljava/lang/String;"), (0, .methodref 14 15), (0, .class_ 16), (0, .nameAndType 17 18), (0, u "java/lang/Integer"), (0, u "valueOf"), (0, u "(I)Ljava/lang/Integer;"), (0, .class_ 20), (0, u "com/example/kilnroute/kilnroute/spark/Resources"), (0, .methodref 19 22), (0, .nameAndType 5 23), (0, u "(Ljava/lang/String;Ljava/lang/Integer;Ljava/lang/String;Ljava/lang/Integer;Ljava/lang/Integer;)V"), (0, .methodref 19 25), (0, .nameAndType 26 27), (0, u "withDriverMemory"), (0, u "(Ljava/lang/String;)Lcom/example/kilnroute/kilnroute/spark/Resources;"), (0, .methodref 19 29), (0, .nameAndType 30 31), (0, u "driverMemory"), (0, u "()Ljava/lang/String;"), (0, .methodref 8 33), (0, .nameAndType 34 35), (0, u "sameStr"), (0, u "(Ljava/lang/String;Ljava/lang/String;)Z"), (0, .methodref 19 37), (0, .nameAndType 38 39), (0, u "driverCores"), (0, u "()Ljava/lang/Integer;"), (0, .methodref 8 41), (0, .nameAndType 42 43), (0, u "sameInt"), (0, u "(Ljava/lang/Integer;Ljava/lang/Integer;)Z"), (0, .methodref 19 45), (0, .nameAndType 46 31), (0, u "executorMemory"), (0, .methodref 19 48), (0, .nameAndType 49 39), (0, u "executorCores"), (0, .methodref 19 51), (0, .nameAndType 52 39), (0, u "numExecutors"), (0, .class_ 54), (0, u "java/lang/String"), (0, .methodref 53 56), (0, .nameAndType 5 57), (0, u "([C)V"), (0, .methodref 53 59), (0, .nameAndType 60 61), (0, u "equals"), (0, u "(Ljava/lang/Object;)Z"), (0, .methodref 14 63), (0, .nameAndType 64 65), (0, u "intValue"), (0, u "()I"), (2, u "law"), (0, u "(IIIIII)Z")] 3

def k1m0 : Method := { name := "<init>", desc := "()V", sig := { parameters := [], returnType := none }, accessFlags := 1, code := none }
def k1c1 : Code := { maxStack := 7, maxLocals := 14, code := code, exceptionTable := #[], attributes := #[] }
def k1m1 : Method := { name := "law", desc := "(IIIIII)Z", sig := { parameters := [.int, .int, .int, .int, .int, .int], returnType := some .boolean }, accessFlags := 9, code := some k1c1 }
def k1c2 : Code := { maxStack := 3, maxLocals := 6, code := method_3_code, exceptionTable := #[], attributes := #[] }
def k1m2 : Method := { name := "mk", desc := "(II)Ljava/lang/String;", sig := { parameters := [.int, .int], returnType := some (.object "java/lang/String") }, accessFlags := 10, code := some k1c2 }
def k1c3 : Code := { maxStack := 2, maxLocals := 2, code := method_4_code, exceptionTable := #[], attributes := #[] }
def k1m3 : Method := { name := "sameStr", desc := "(Ljava/lang/String;Ljava/lang/String;)Z", sig := { parameters := [(.object "java/lang/String"), (.object "java/lang/String")], returnType := some .boolean }, accessFlags := 10, code := some k1c3 }
def k1c4 : Code := { maxStack := 2, maxLocals := 2, code := method_5_code, exceptionTable := #[], attributes := #[] }
def k1m4 : Method := { name := "sameInt", desc := "(Ljava/lang/Integer;Ljava/lang/Integer;)Z", sig := { parameters := [(.object "java/lang/Integer"), (.object "java/lang/Integer")], returnType := some .boolean }, accessFlags := 10, code := some k1c4 }
/-- com/example/kilnroute/kilnroute/spark/ResourcesWithDriverMemoryPinLaw -/
def k1 : Class := { plain "com/example/kilnroute/kilnroute/spark/ResourcesWithDriverMemoryPinLaw" (some 0) with
  accessFlags := 49
  interfaces := #[]
  cf := some (fileOf pool1 8 #[] #[{ accessFlags := 1, nameIndex := 5, descriptorIndex := 6, attributes := #[] }, { accessFlags := 9, nameIndex := 68, descriptorIndex := 69, attributes := #[] }, { accessFlags := 10, nameIndex := 11, descriptorIndex := 12, attributes := #[] }, { accessFlags := 10, nameIndex := 34, descriptorIndex := 35, attributes := #[] }, { accessFlags := 10, nameIndex := 42, descriptorIndex := 43, attributes := #[] }] 49 2 #[] #[])
  fields := #[]
  methods := #[k1m0, k1m1, k1m2, k1m3, k1m4]
  instanceTypes := #[]
  staticTypes := #[]
  resolved := Array.replicate 73 none
  statics := none }

def pool2 : Array CpInfo := pool [(1, .class_ 2), (0, u "java/io/Serializable"), (0, .class_ 4), (0, u "java/lang/Object")] 2

/-- java/io/Serializable -/
def k2 : Class := { plain "java/io/Serializable" (some 0) with
  accessFlags := 1537
  interfaces := #[]
  cf := some (fileOf pool2 1 #[] #[] 1537 3 #[] #[])
  fields := #[]
  methods := #[]
  instanceTypes := #[]
  staticTypes := #[]
  resolved := Array.replicate 7 none
  statics := none }

def pool3 : Array CpInfo := pool [(1, .class_ 2), (0, u "java/lang/Comparable"), (0, .class_ 4), (0, u "java/lang/Object")] 7

/-- java/lang/Comparable -/
def k3 : Class := { plain "java/lang/Comparable" (some 0) with
  accessFlags := 1537
  interfaces := #[]
  cf := some (fileOf pool3 1 #[] #[] 1537 3 #[] #[])
  fields := #[]
  methods := #[]
  instanceTypes := #[]
  staticTypes := #[]
  resolved := Array.replicate 12 none
  statics := none }

def pool4 : Array CpInfo := pool [(2, .class_ 4), (1, u "java/lang/CharSequence"), (42, .class_ 48), (0, u "java/lang/CharSequence$1CodePointIterator"), (10, .class_ 60), (0, u "java/lang/CharSequence$1CharIterator"), (5, .class_ 67), (0, u "java/lang/Object")] 63

/-- java/lang/CharSequence -/
def k4 : Class := { plain "java/lang/CharSequence" (some 0) with
  accessFlags := 1537
  interfaces := #[]
  cf := some (fileOf pool4 2 #[.nestMembers #[47, 59]] #[] 1537 66 #[] #[])
  fields := #[]
  methods := #[]
  instanceTypes := #[]
  staticTypes := #[]
  resolved := Array.replicate 131 none
  statics := none }

def pool5 : Array CpInfo := pool [(1, .class_ 2), (0, u "java/lang/constant/Constable"), (0, .class_ 4), (0, u "java/lang/Object")] 6

/-- java/lang/constant/Constable -/
def k5 : Class := { plain "java/lang/constant/Constable" (some 0) with
  accessFlags := 1537
  interfaces := #[]
  cf := some (fileOf pool5 1 #[] #[] 1537 3 #[] #[])
  fields := #[]
  methods := #[]
  instanceTypes := #[]
  staticTypes := #[]
  resolved := Array.replicate 11 none
  statics := none }

def pool6 : Array CpInfo := pool [(1, .class_ 2), (0, u "java/lang/constant/ConstantDesc"), (0, .class_ 4), (0, u "java/lang/Object")] 32

/-- java/lang/constant/ConstantDesc -/
def k6 : Class := { plain "java/lang/constant/ConstantDesc" (some 0) with
  accessFlags := 1537
  interfaces := #[]
  cf := some (fileOf pool6 1 #[] #[] 1537 3 #[] #[])
  fields := #[]
  methods := #[]
  instanceTypes := #[]
  staticTypes := #[]
  resolved := Array.replicate 37 none
  statics := none }

def pool7 : Array CpInfo := pool [(1, .methodref 2 3), (0, .class_ 4), (0, .nameAndType 5 6), (0, u "java/lang/Object"), (0, u "<init>"), (0, u "()V"), (0, .string 8), (0, u ""), (0, .fieldref 10 11), (0, .class_ 12), (0, .nameAndType 13 14), (0, u "java/lang/String"), (0, u "value"), (0, u "[B"), (0, .fieldref 10 16), (0, .nameAndType 17 18), (0, u "coder"), (0, u "B"), (2, u "hash"), (0, u "I"), (2, u "hashIsZero"), (0, u "Z"), (0, .methodref 10 28), (0, .nameAndType 5 29), (0, u "([CIILjava/lang/Void;)V"), (8, .fieldref 10 39), (0, .nameAndType 40 26), (0, u "COMPACT_STRINGS"), (1, .class_ 44), (1, u "java/lang/StringUTF16"), (0, u "compress"), (1, .methodref 42 48), (0, .nameAndType 49 50), (0, u "coderFromArrayLen"), (0, u "([BI)B"), (126, .methodref 42 178), (0, .nameAndType 45 179), (0, u "([CII)[B"), (363, u "equals"), (29, u "(Ljava/lang/Object;)Z"), (1, .class_ 576), (0, u "java/lang/CharSequence"), (22, u "CASE_INSENSITIVE_ORDER"), (0, u "Ljava/util/Comparator;"), (409, u "([C)V"), (90, u "serialPersistentFields"), (0, u "[Ljava/io/ObjectStreamField;"), (0, .class_ 1104), (0, u "java/lang/String$CaseInsensitiveComparator"), (1, .class_ 1107), (0, u "java/io/Serializable"), (0, .class_ 1109), (0, u "java/lang/Comparable"), (0, .class_ 1111), (0, u "java/lang/constant/Constable"), (0, .class_ 1113), (0, u "java/lang/constant/ConstantDesc"), (2, u "serialVersionUID"), (0, u "J"), (3, u "REPL"), (0, u "C"), (2, u "LATIN1"), (1, u "UTF16")] 323

def k7m0 : Method := { name := "<init>", desc := "()V", sig := { parameters := [], returnType := none }, accessFlags := 1, code := none }
def k7c1 : Code := { maxStack := 5, maxLocals := 2, code := jdk_42_method_3_code, exceptionTable := #[], attributes := #[] }
def k7m1 : Method := { name := "<init>", desc := "([C)V", sig := { parameters := [(.array .char)], returnType := none }, accessFlags := 1, code := some k7c1 }
def k7c2 : Code := { maxStack := 2, maxLocals := 3, code := jdk_42_method_66_code, exceptionTable := #[], attributes := #[] }
def k7m2 : Method := { name := "equals", desc := "(Ljava/lang/Object;)Z", sig := { parameters := [(.object "java/lang/Object")], returnType := some .boolean }, accessFlags := 1, code := some k7c2 }
def k7c3 : Code := { maxStack := 4, maxLocals := 6, code := jdk_42_method_149_code, exceptionTable := #[], attributes := #[] }
def k7m3 : Method := { name := "<init>", desc := "([CIILjava/lang/Void;)V", sig := { parameters := [(.array .char), .int, .int, (.object "java/lang/Void")], returnType := none }, accessFlags := 2, code := some k7c3 }
/-- java/lang/String -/
def k7 : Class := { plain "java/lang/String" (some 0) with
  accessFlags := 49
  interfaces := #[2, 3, 4, 5, 6]
  cf := some (fileOf pool7 10 #[.nestMembers #[1103]] #[{ accessFlags := 1, nameIndex := 5, descriptorIndex := 6, attributes := #[] }, { accessFlags := 1, nameIndex := 5, descriptorIndex := 1010, attributes := #[] }, { accessFlags := 1, nameIndex := 543, descriptorIndex := 573, attributes := #[] }, { accessFlags := 2, nameIndex := 5, descriptorIndex := 29, attributes := #[] }] 49 2 #[1106, 1108, 575, 1110, 1112] #[{ accessFlags := 18, nameIndex := 13, descriptorIndex := 14, attributes := #[] }, { accessFlags := 18, nameIndex := 17, descriptorIndex := 18, attributes := #[] }, { accessFlags := 2, nameIndex := 21, descriptorIndex := 22, attributes := #[] }, { accessFlags := 2, nameIndex := 25, descriptorIndex := 26, attributes := #[] }, { accessFlags := 26, nameIndex := 1116, descriptorIndex := 1117, attributes := #[] }, { accessFlags := 24, nameIndex := 40, descriptorIndex := 26, attributes := #[] }, { accessFlags := 26, nameIndex := 1101, descriptorIndex := 1102, attributes := #[] }, { accessFlags := 26, nameIndex := 1121, descriptorIndex := 1122, attributes := #[] }, { accessFlags := 25, nameIndex := 599, descriptorIndex := 600, attributes := #[] }, { accessFlags := 24, nameIndex := 1125, descriptorIndex := 18, attributes := #[] }, { accessFlags := 24, nameIndex := 1127, descriptorIndex := 18, attributes := #[] }])
  fields := #[{ name := "value", type := (.array .byte), accessFlags := 18, slot := 0, constantValue := 0 }, { name := "coder", type := .byte, accessFlags := 18, slot := 1, constantValue := 0 }, { name := "hash", type := .int, accessFlags := 2, slot := 2, constantValue := 0 }, { name := "hashIsZero", type := .boolean, accessFlags := 2, slot := 3, constantValue := 0 }, { name := "serialVersionUID", type := .long, accessFlags := 26, slot := 0, constantValue := 0 }, { name := "COMPACT_STRINGS", type := .boolean, accessFlags := 24, slot := 1, constantValue := 0 }, { name := "serialPersistentFields", type := (.array (.object "java/io/ObjectStreamField")), accessFlags := 26, slot := 2, constantValue := 0 }, { name := "REPL", type := .char, accessFlags := 26, slot := 3, constantValue := 0 }, { name := "CASE_INSENSITIVE_ORDER", type := (.object "java/util/Comparator"), accessFlags := 25, slot := 4, constantValue := 0 }, { name := "LATIN1", type := .byte, accessFlags := 24, slot := 5, constantValue := 0 }, { name := "UTF16", type := .byte, accessFlags := 24, slot := 6, constantValue := 0 }]
  methods := #[k7m0, k7m1, k7m2, k7m3]
  instanceTypes := #[(.array .byte), .byte, .int, .boolean]
  staticTypes := #[.long, .boolean, (.array (.object "java/io/ObjectStreamField")), .char, (.object "java/util/Comparator"), .byte, .byte]
  resolved := Array.replicate 1451 none
  statics := some 0 }

def pool8 : Array CpInfo := pool [(1, .methodref 2 3), (0, .class_ 4), (0, .nameAndType 5 6), (0, u "java/lang/Object"), (0, u "<init>"), (0, u "()V"), (1, .class_ 10), (1, u "java/lang/Number"), (2, .class_ 14), (0, u "java/io/Serializable"), (0, u "serialVersionUID"), (0, u "J")] 20

def k8c0 : Code := { maxStack := 1, maxLocals := 1, code := jdk_18_method_1_code, exceptionTable := #[], attributes := #[] }
def k8m0 : Method := { name := "<init>", desc := "()V", sig := { parameters := [], returnType := none }, accessFlags := 1, code := some k8c0 }
/-- java/lang/Number -/
def k8 : Class := { plain "java/lang/Number" (some 0) with
  accessFlags := 1057
  interfaces := #[2]
  cf := some (fileOf pool8 8 #[] #[{ accessFlags := 1, nameIndex := 5, descriptorIndex := 6, attributes := #[] }] 1057 2 #[13] #[{ accessFlags := 26, nameIndex := 15, descriptorIndex := 16, attributes := #[] }])
  fields := #[{ name := "serialVersionUID", type := .long, accessFlags := 26, slot := 0, constantValue := 0 }]
  methods := #[k8m0]
  instanceTypes := #[]
  staticTypes := #[.long]
  resolved := Array.replicate 37 none
  statics := none }

def pool9 : Array CpInfo := pool [(1, .class_ 2), (0, u "java/lang/Integer"), (16, u "digits"), (0, u "[C"), (46, u "<init>"), (17, u "DigitOnes"), (0, u "[B"), (2, u "DigitTens"), (10, .nameAndType 67 101), (0, u "()V"), (19, u "()I"), (65, u "valueOf"), (0, u "(I)Ljava/lang/Integer;"), (0, .class_ 190), (0, u "java/lang/Integer$IntegerCache"), (0, .fieldref 189 192), (0, .nameAndType 193 194), (0, u "high"), (0, u "I"), (0, .fieldref 189 196), (0, .nameAndType 197 198), (0, u "cache"), (0, u "[Ljava/lang/Integer;"), (0, .methodref 1 200), (0, .nameAndType 67 201), (0, u "(I)V"), (0, .methodref 203 100), (0, .class_ 204), (0, u "java/lang/Number"), (0, .fieldref 1 206), (0, .nameAndType 207 194), (0, u "value"), (5, u "intValue"), (88, u "TYPE"), (0, u "Ljava/lang/Class;"), (0, .class_ 305), (0, u "java/lang/Comparable"), (0, .class_ 307), (0, u "java/lang/constant/Constable"), (0, .class_ 309), (0, u "java/lang/constant/ConstantDesc"), (0, u "MIN_VALUE"), (1, u "MAX_VALUE"), (3, u "SIZE"), (1, u "BYTES"), (1, u "serialVersionUID"), (0, u "J")] 131

def k9c0 : Code := { maxStack := 3, maxLocals := 1, code := jdk_33_method_22_code, exceptionTable := #[], attributes := #[] }
def k9m0 : Method := { name := "valueOf", desc := "(I)Ljava/lang/Integer;", sig := { parameters := [.int], returnType := some (.object "java/lang/Integer") }, accessFlags := 9, code := some k9c0 }
def k9c1 : Code := { maxStack := 2, maxLocals := 2, code := jdk_33_method_23_code, exceptionTable := #[], attributes := #[] }
def k9m1 : Method := { name := "<init>", desc := "(I)V", sig := { parameters := [.int], returnType := none }, accessFlags := 1, code := some k9c1 }
def k9c2 : Code := { maxStack := 1, maxLocals := 1, code := jdk_33_method_27_code, exceptionTable := #[], attributes := #[] }
def k9m2 : Method := { name := "intValue", desc := "()I", sig := { parameters := [], returnType := some .int }, accessFlags := 1, code := some k9c2 }
/-- java/lang/Integer -/
def k9 : Class := { plain "java/lang/Integer" (some 8) with
  accessFlags := 49
  interfaces := #[3, 5, 6]
  cf := some (fileOf pool9 1 #[.nestMembers #[189]] #[{ accessFlags := 9, nameIndex := 187, descriptorIndex := 188, attributes := #[] }, { accessFlags := 1, nameIndex := 67, descriptorIndex := 201, attributes := #[] }, { accessFlags := 1, nameIndex := 213, descriptorIndex := 121, attributes := #[] }] 49 203 #[304, 306, 308] #[{ accessFlags := 25, nameIndex := 310, descriptorIndex := 194, attributes := #[] }, { accessFlags := 25, nameIndex := 312, descriptorIndex := 194, attributes := #[] }, { accessFlags := 25, nameIndex := 302, descriptorIndex := 303, attributes := #[] }, { accessFlags := 24, nameIndex := 19, descriptorIndex := 20, attributes := #[] }, { accessFlags := 24, nameIndex := 89, descriptorIndex := 86, attributes := #[] }, { accessFlags := 24, nameIndex := 85, descriptorIndex := 86, attributes := #[] }, { accessFlags := 18, nameIndex := 207, descriptorIndex := 194, attributes := #[] }, { accessFlags := 25, nameIndex := 316, descriptorIndex := 194, attributes := #[] }, { accessFlags := 25, nameIndex := 318, descriptorIndex := 194, attributes := #[] }, { accessFlags := 26, nameIndex := 320, descriptorIndex := 321, attributes := #[] }])
  fields := #[{ name := "MIN_VALUE", type := .int, accessFlags := 25, slot := 0, constantValue := 0 }, { name := "MAX_VALUE", type := .int, accessFlags := 25, slot := 1, constantValue := 0 }, { name := "TYPE", type := (.object "java/lang/Class"), accessFlags := 25, slot := 2, constantValue := 0 }, { name := "digits", type := (.array .char), accessFlags := 24, slot := 3, constantValue := 0 }, { name := "DigitTens", type := (.array .byte), accessFlags := 24, slot := 4, constantValue := 0 }, { name := "DigitOnes", type := (.array .byte), accessFlags := 24, slot := 5, constantValue := 0 }, { name := "value", type := .int, accessFlags := 18, slot := 0, constantValue := 0 }, { name := "SIZE", type := .int, accessFlags := 25, slot := 6, constantValue := 0 }, { name := "BYTES", type := .int, accessFlags := 25, slot := 7, constantValue := 0 }, { name := "serialVersionUID", type := .long, accessFlags := 26, slot := 8, constantValue := 0 }]
  methods := #[k9m0, k9m1, k9m2]
  instanceTypes := #[.int]
  staticTypes := #[.int, .int, (.object "java/lang/Class"), (.array .char), (.array .byte), (.array .byte), .int, .int, .long]
  resolved := Array.replicate 453 none
  statics := none }

def pool10 : Array CpInfo := pool [(2, .class_ 4), (1, u "java/lang/Object"), (0, u "<init>"), (0, u "()V"), (0, .class_ 8), (0, u "java/lang/Integer"), (7, .class_ 18), (1, u "java/lang/Integer$IntegerCache"), (0, u "$assertionsDisabled"), (0, u "Z"), (26, u "high"), (0, u "I"), (8, u "archivedCache"), (0, u "[Ljava/lang/Integer;"), (12, u "cache"), (0, u "low")] 27

def k10m0 : Method := { name := "<init>", desc := "()V", sig := { parameters := [], returnType := none }, accessFlags := 2, code := none }
/-- java/lang/Integer$IntegerCache -/
def k10 : Class := { plain "java/lang/Integer$IntegerCache" (some 0) with
  accessFlags := 48
  interfaces := #[]
  cf := some (fileOf pool10 16 #[.nestHost 7] #[{ accessFlags := 2, nameIndex := 5, descriptorIndex := 6, attributes := #[] }] 48 2 #[] #[{ accessFlags := 24, nameIndex := 72, descriptorIndex := 48, attributes := #[] }, { accessFlags := 24, nameIndex := 47, descriptorIndex := 48, attributes := #[] }, { accessFlags := 24, nameIndex := 71, descriptorIndex := 58, attributes := #[] }, { accessFlags := 8, nameIndex := 57, descriptorIndex := 58, attributes := #[] }, { accessFlags := 4120, nameIndex := 19, descriptorIndex := 20, attributes := #[] }])
  fields := #[{ name := "low", type := .int, accessFlags := 24, slot := 0, constantValue := 0 }, { name := "high", type := .int, accessFlags := 24, slot := 1, constantValue := 0 }, { name := "cache", type := (.array (.object "java/lang/Integer")), accessFlags := 24, slot := 2, constantValue := 0 }, { name := "archivedCache", type := (.array (.object "java/lang/Integer")), accessFlags := 8, slot := 3, constantValue := 0 }, { name := "$assertionsDisabled", type := .boolean, accessFlags := 4120, slot := 4, constantValue := 0 }]
  methods := #[k10m0]
  instanceTypes := #[]
  staticTypes := #[.int, .int, (.array (.object "java/lang/Integer")), (.array (.object "java/lang/Integer")), .boolean]
  resolved := Array.replicate 100 none
  statics := some 1 }

def pool11 : Array CpInfo := pool [(1, .methodref 2 3), (0, .class_ 4), (0, .nameAndType 5 6), (0, u "java/lang/Object"), (0, u "<init>"), (0, u "()V"), (0, .class_ 8), (0, u "java/lang/Record")] 13

def k11c0 : Code := { maxStack := 1, maxLocals := 1, code := jdk_30_method_1_code, exceptionTable := #[], attributes := #[] }
def k11m0 : Method := { name := "<init>", desc := "()V", sig := { parameters := [], returnType := none }, accessFlags := 4, code := some k11c0 }
/-- java/lang/Record -/
def k11 : Class := { plain "java/lang/Record" (some 0) with
  accessFlags := 1057
  interfaces := #[]
  cf := some (fileOf pool11 7 #[] #[{ accessFlags := 4, nameIndex := 5, descriptorIndex := 6, attributes := #[] }] 1057 2 #[] #[])
  fields := #[]
  methods := #[k11m0]
  instanceTypes := #[]
  staticTypes := #[]
  resolved := Array.replicate 22 none
  statics := none }

def pool12 : Array CpInfo := pool [(1, .methodref 2 3), (0, .class_ 4), (0, .nameAndType 5 6), (0, u "java/lang/Record"), (0, u "<init>"), (0, u "()V"), (0, .fieldref 8 9), (0, .class_ 10), (0, .nameAndType 11 12), (0, u "com/example/kilnroute/kilnroute/spark/Resources"), (0, u "driverMemory"), (0, u "Ljava/lang/String;"), (0, .fieldref 8 14), (0, .nameAndType 15 16), (0, u "driverCores"), (0, u "Ljava/lang/Integer;"), (0, .fieldref 8 18), (0, .nameAndType 19 12), (0, u "executorMemory"), (0, .fieldref 8 21), (0, .nameAndType 22 16), (0, u "executorCores"), (0, .fieldref 8 24), (0, .nameAndType 25 16), (0, u "numExecutors"), (2, u "MEMORY"), (0, u "Ljava/util/regex/Pattern;"), (41, u "UNIT_SHIFTS"), (0, u "Ljava/util/Map;"), (50, .methodref 8 124), (0, .nameAndType 5 125), (0, u "(Ljava/lang/String;Ljava/lang/Integer;Ljava/lang/String;Ljava/lang/Integer;Ljava/lang/Integer;)V"), (1, .class_ 129), (1, u "com/example/kilnroute/kilnroute/spark/Resources$Option"), (5, u "()Ljava/lang/String;"), (48, u "COUNTS"), (0, u "Ljava/util/List;"), (54, u "NONE"), (0, u "Lcom/example/kilnroute/kilnroute/spark/Resources;"), (15, u "SPARK_DEFAULT_MEMORY"), (29, u "withDriverMemory"), (0, u "(Ljava/lang/String;)Lcom/example/kilnroute/kilnroute/spark/Resources;"), (1, u "()Ljava/lang/Integer;")] 60

def k12c0 : Code := { maxStack := 2, maxLocals := 6, code := prog_18_method_1_code, exceptionTable := #[], attributes := #[] }
def k12m0 : Method := { name := "<init>", desc := "(Ljava/lang/String;Ljava/lang/Integer;Ljava/lang/String;Ljava/lang/Integer;Ljava/lang/Integer;)V", sig := { parameters := [(.object "java/lang/String"), (.object "java/lang/Integer"), (.object "java/lang/String"), (.object "java/lang/Integer"), (.object "java/lang/Integer")], returnType := none }, accessFlags := 1, code := some k12c0 }
def k12c1 : Code := { maxStack := 7, maxLocals := 2, code := prog_18_method_12_code, exceptionTable := #[], attributes := #[] }
def k12m1 : Method := { name := "withDriverMemory", desc := "(Ljava/lang/String;)Lcom/example/kilnroute/kilnroute/spark/Resources;", sig := { parameters := [(.object "java/lang/String")], returnType := some (.object "com/example/kilnroute/kilnroute/spark/Resources") }, accessFlags := 1, code := some k12c1 }
def k12c2 : Code := { maxStack := 1, maxLocals := 1, code := prog_18_method_17_code, exceptionTable := #[], attributes := #[] }
def k12m2 : Method := { name := "driverMemory", desc := "()Ljava/lang/String;", sig := { parameters := [], returnType := some (.object "java/lang/String") }, accessFlags := 1, code := some k12c2 }
def k12c3 : Code := { maxStack := 1, maxLocals := 1, code := prog_18_method_18_code, exceptionTable := #[], attributes := #[] }
def k12m3 : Method := { name := "driverCores", desc := "()Ljava/lang/Integer;", sig := { parameters := [], returnType := some (.object "java/lang/Integer") }, accessFlags := 1, code := some k12c3 }
def k12c4 : Code := { maxStack := 1, maxLocals := 1, code := prog_18_method_19_code, exceptionTable := #[], attributes := #[] }
def k12m4 : Method := { name := "executorMemory", desc := "()Ljava/lang/String;", sig := { parameters := [], returnType := some (.object "java/lang/String") }, accessFlags := 1, code := some k12c4 }
def k12c5 : Code := { maxStack := 1, maxLocals := 1, code := prog_18_method_20_code, exceptionTable := #[], attributes := #[] }
def k12m5 : Method := { name := "executorCores", desc := "()Ljava/lang/Integer;", sig := { parameters := [], returnType := some (.object "java/lang/Integer") }, accessFlags := 1, code := some k12c5 }
def k12c6 : Code := { maxStack := 1, maxLocals := 1, code := prog_18_method_21_code, exceptionTable := #[], attributes := #[] }
def k12m6 : Method := { name := "numExecutors", desc := "()Ljava/lang/Integer;", sig := { parameters := [], returnType := some (.object "java/lang/Integer") }, accessFlags := 1, code := some k12c6 }
/-- com/example/kilnroute/kilnroute/spark/Resources -/
def k12 : Class := { plain "com/example/kilnroute/kilnroute/spark/Resources" (some 11) with
  accessFlags := 49
  interfaces := #[]
  cf := some (fileOf pool12 8 #[.nestMembers #[127]] #[{ accessFlags := 1, nameIndex := 5, descriptorIndex := 125, attributes := #[] }, { accessFlags := 1, nameIndex := 287, descriptorIndex := 288, attributes := #[] }, { accessFlags := 1, nameIndex := 11, descriptorIndex := 135, attributes := #[] }, { accessFlags := 1, nameIndex := 15, descriptorIndex := 290, attributes := #[] }, { accessFlags := 1, nameIndex := 19, descriptorIndex := 135, attributes := #[] }, { accessFlags := 1, nameIndex := 22, descriptorIndex := 290, attributes := #[] }, { accessFlags := 1, nameIndex := 25, descriptorIndex := 290, attributes := #[] }] 49 2 #[] #[{ accessFlags := 18, nameIndex := 11, descriptorIndex := 12, attributes := #[] }, { accessFlags := 18, nameIndex := 15, descriptorIndex := 16, attributes := #[] }, { accessFlags := 18, nameIndex := 19, descriptorIndex := 12, attributes := #[] }, { accessFlags := 18, nameIndex := 22, descriptorIndex := 16, attributes := #[] }, { accessFlags := 18, nameIndex := 25, descriptorIndex := 16, attributes := #[] }, { accessFlags := 25, nameIndex := 240, descriptorIndex := 241, attributes := #[] }, { accessFlags := 25, nameIndex := 257, descriptorIndex := 12, attributes := #[] }, { accessFlags := 26, nameIndex := 28, descriptorIndex := 29, attributes := #[] }, { accessFlags := 26, nameIndex := 71, descriptorIndex := 72, attributes := #[] }, { accessFlags := 26, nameIndex := 184, descriptorIndex := 185, attributes := #[] }])
  fields := #[{ name := "driverMemory", type := (.object "java/lang/String"), accessFlags := 18, slot := 0, constantValue := 0 }, { name := "driverCores", type := (.object "java/lang/Integer"), accessFlags := 18, slot := 1, constantValue := 0 }, { name := "executorMemory", type := (.object "java/lang/String"), accessFlags := 18, slot := 2, constantValue := 0 }, { name := "executorCores", type := (.object "java/lang/Integer"), accessFlags := 18, slot := 3, constantValue := 0 }, { name := "numExecutors", type := (.object "java/lang/Integer"), accessFlags := 18, slot := 4, constantValue := 0 }, { name := "NONE", type := (.object "com/example/kilnroute/kilnroute/spark/Resources"), accessFlags := 25, slot := 0, constantValue := 0 }, { name := "SPARK_DEFAULT_MEMORY", type := (.object "java/lang/String"), accessFlags := 25, slot := 1, constantValue := 0 }, { name := "MEMORY", type := (.object "java/util/regex/Pattern"), accessFlags := 26, slot := 2, constantValue := 0 }, { name := "UNIT_SHIFTS", type := (.object "java/util/Map"), accessFlags := 26, slot := 3, constantValue := 0 }, { name := "COUNTS", type := (.object "java/util/List"), accessFlags := 26, slot := 4, constantValue := 0 }]
  methods := #[k12m0, k12m1, k12m2, k12m3, k12m4, k12m5, k12m6]
  instanceTypes := #[(.object "java/lang/String"), (.object "java/lang/Integer"), (.object "java/lang/String"), (.object "java/lang/Integer"), (.object "java/lang/Integer")]
  staticTypes := #[(.object "com/example/kilnroute/kilnroute/spark/Resources"), (.object "java/lang/String"), (.object "java/util/regex/Pattern"), (.object "java/util/Map"), (.object "java/util/List")]
  resolved := Array.replicate 351 none
  statics := none }

def pool13 : Array CpInfo := pool [(6, .class_ 8), (1, u "java/lang/Object"), (0, u "<init>"), (0, u "()V"), (1, .class_ 14), (1, u "java/lang/StringUTF16"), (31, u "$assertionsDisabled"), (0, u "Z"), (13, u "HI_BYTE_SHIFT"), (0, u "I"), (2, u "LO_BYTE_SHIFT"), (49, .methodref 12 116), (0, .nameAndType 117 118), (0, u "compress"), (0, u "([CI[BII)I"), (3, u "([CII)[B"), (138, u "coderFromArrayLen"), (0, u "([BI)B"), (106, .class_ 371), (1, u "java/lang/StringUTF16$LinesSpliterator"), (58, u "MAX_LENGTH"), (196, .class_ 628), (0, u "java/lang/StringUTF16$CodePointsSpliterator"), (0, .class_ 630), (0, u "java/lang/StringUTF16$CharsSpliterator")] 4

def k13m0 : Method := { name := "<init>", desc := "()V", sig := { parameters := [], returnType := none }, accessFlags := 0, code := none }
def k13c1 : Code := { maxStack := 2, maxLocals := 2, code := jdk_52_method_15_code, exceptionTable := #[], attributes := #[] }
def k13m1 : Method := { name := "coderFromArrayLen", desc := "([BI)B", sig := { parameters := [(.array .byte), .int], returnType := some .byte }, accessFlags := 8, code := some k13c1 }
def k13c2 : Code := { maxStack := 5, maxLocals := 6, code := jdk_52_method_16_code, exceptionTable := #[], attributes := #[] }
def k13m2 : Method := { name := "compress", desc := "([CII)[B", sig := { parameters := [(.array .char), .int, .int], returnType := some (.array .byte) }, accessFlags := 9, code := some k13c2 }
def k13c3 : Code := { maxStack := 3, maxLocals := 7, code := jdk_52_method_21_code, exceptionTable := #[], attributes := #[] }
def k13m3 : Method := { name := "compress", desc := "([CI[BII)I", sig := { parameters := [(.array .char), .int, (.array .byte), .int, .int], returnType := some .int }, accessFlags := 9, code := some k13c3 }
/-- java/lang/StringUTF16 -/
def k13 : Class := { plain "java/lang/StringUTF16" (some 0) with
  accessFlags := 48
  interfaces := #[]
  cf := some (fileOf pool13 12 #[.nestMembers #[627, 629, 369]] #[{ accessFlags := 0, nameIndex := 9, descriptorIndex := 10, attributes := #[] }, { accessFlags := 8, nameIndex := 261, descriptorIndex := 262, attributes := #[] }, { accessFlags := 9, nameIndex := 117, descriptorIndex := 122, attributes := #[] }, { accessFlags := 9, nameIndex := 117, descriptorIndex := 118, attributes := #[] }] 48 6 #[] #[{ accessFlags := 26, nameIndex := 61, descriptorIndex := 62, attributes := #[] }, { accessFlags := 26, nameIndex := 65, descriptorIndex := 62, attributes := #[] }, { accessFlags := 24, nameIndex := 430, descriptorIndex := 62, attributes := #[] }, { accessFlags := 4120, nameIndex := 46, descriptorIndex := 47, attributes := #[] }])
  fields := #[{ name := "HI_BYTE_SHIFT", type := .int, accessFlags := 26, slot := 0, constantValue := 0 }, { name := "LO_BYTE_SHIFT", type := .int, accessFlags := 26, slot := 1, constantValue := 0 }, { name := "MAX_LENGTH", type := .int, accessFlags := 24, slot := 2, constantValue := 0 }, { name := "$assertionsDisabled", type := .boolean, accessFlags := 4120, slot := 3, constantValue := 0 }]
  methods := #[k13m0, k13m1, k13m2, k13m3]
  instanceTypes := #[]
  staticTypes := #[.int, .int, .int, .boolean]
  resolved := Array.replicate 635 none
  statics := none }

def pool14 : Array CpInfo := pool [(4, .class_ 6), (1, u "java/lang/Object"), (0, u "<init>"), (0, u "()V"), (5, .class_ 16), (1, u "java/lang/StringLatin1"), (104, u "$assertionsDisabled"), (0, u "Z"), (98, .class_ 223), (1, u "java/lang/StringLatin1$LinesSpliterator"), (166, .class_ 391), (0, u "java/lang/StringLatin1$CharsSpliterator")] 3

def k14m0 : Method := { name := "<init>", desc := "()V", sig := { parameters := [], returnType := none }, accessFlags := 0, code := none }
/-- java/lang/StringLatin1 -/
def k14 : Class := { plain "java/lang/StringLatin1" (some 0) with
  accessFlags := 48
  interfaces := #[]
  cf := some (fileOf pool14 14 #[.nestMembers #[390, 221]] #[{ accessFlags := 0, nameIndex := 7, descriptorIndex := 8, attributes := #[] }] 48 4 #[] #[{ accessFlags := 4120, nameIndex := 121, descriptorIndex := 122, attributes := #[] }])
  fields := #[{ name := "$assertionsDisabled", type := .boolean, accessFlags := 4120, slot := 0, constantValue := 0 }]
  methods := #[k14m0]
  instanceTypes := #[]
  staticTypes := #[.boolean]
  resolved := Array.replicate 395 none
  statics := none }

def pool15 : Array CpInfo := pool [(2, .class_ 4), (1, u "java/lang/Object"), (0, u "<init>"), (0, u "()V"), (17, .class_ 26), (1, u "jdk/internal/util/Preconditions"), (28, .class_ 56), (0, u "jdk/internal/util/Preconditions$4"), (57, .class_ 115), (0, u "jdk/internal/util/Preconditions$1"), (7, u "SIOOBE_FORMATTER"), (0, u "Ljava/util/function/BiFunction;"), (0, .class_ 126), (0, u "jdk/internal/util/Preconditions$2"), (3, u "AIOOBE_FORMATTER"), (0, .class_ 132), (0, u "jdk/internal/util/Preconditions$3"), (3, u "IOOBE_FORMATTER")] 57

def k15m0 : Method := { name := "<init>", desc := "()V", sig := { parameters := [], returnType := none }, accessFlags := 1, code := none }
/-- jdk/internal/util/Preconditions -/
def k15 : Class := { plain "jdk/internal/util/Preconditions" (some 0) with
  accessFlags := 33
  interfaces := #[]
  cf := some (fileOf pool15 24 #[.nestMembers #[55, 131, 125, 114]] #[{ accessFlags := 1, nameIndex := 5, descriptorIndex := 6, attributes := #[] }] 33 2 #[] #[{ accessFlags := 25, nameIndex := 123, descriptorIndex := 124, attributes := #[] }, { accessFlags := 25, nameIndex := 130, descriptorIndex := 124, attributes := #[] }, { accessFlags := 25, nameIndex := 136, descriptorIndex := 124, attributes := #[] }])
  fields := #[{ name := "SIOOBE_FORMATTER", type := (.object "java/util/function/BiFunction"), accessFlags := 25, slot := 0, constantValue := 0 }, { name := "AIOOBE_FORMATTER", type := (.object "java/util/function/BiFunction"), accessFlags := 25, slot := 1, constantValue := 0 }, { name := "IOOBE_FORMATTER", type := (.object "java/util/function/BiFunction"), accessFlags := 25, slot := 2, constantValue := 0 }]
  methods := #[k15m0]
  instanceTypes := #[]
  staticTypes := #[(.object "java/util/function/BiFunction"), (.object "java/util/function/BiFunction"), (.object "java/util/function/BiFunction")]
  resolved := Array.replicate 194 none
  statics := some 2 }

def pool16 : Array CpInfo := pool [(9, u "<init>"), (6, .class_ 18), (1, u "java/lang/Object"), (0, u "()V"), (1, .class_ 23), (1, u "jdk/internal/util/ArraysSupport"), (0, u "LOG2_ARRAY_LONG_INDEX_SCALE"), (0, u "I"), (2, u "U"), (0, u "Ljdk/internal/misc/Unsafe;"), (8, u "BIG_ENDIAN"), (0, u "Z"), (8, u "LOG2_BYTE_BIT_SIZE"), (4, u "LOG2_ARRAY_INT_INDEX_SCALE"), (54, u "JLA"), (0, u "Ljdk/internal/access/JavaLangAccess;"), (11, u "LOG2_ARRAY_BOOLEAN_INDEX_SCALE"), (9, u "LOG2_ARRAY_BYTE_INDEX_SCALE"), (5, u "LOG2_ARRAY_CHAR_INDEX_SCALE"), (5, u "LOG2_ARRAY_SHORT_INDEX_SCALE"), (18, u "LOG2_ARRAY_FLOAT_INDEX_SCALE"), (24, u "LOG2_ARRAY_DOUBLE_INDEX_SCALE"), (89, u "T_BOOLEAN"), (2, u "T_CHAR"), (1, u "T_FLOAT"), (1, u "T_DOUBLE"), (1, u "T_BYTE"), (1, u "T_SHORT"), (1, u "T_INT"), (1, u "T_LONG"), (1, u "SOFT_MAX_ARRAY_LENGTH")] 83

def k16m0 : Method := { name := "<init>", desc := "()V", sig := { parameters := [], returnType := none }, accessFlags := 2, code := none }
/-- jdk/internal/util/ArraysSupport -/
def k16 : Class := { plain "jdk/internal/util/ArraysSupport" (some 0) with
  accessFlags := 33
  interfaces := #[]
  cf := some (fileOf pool16 21 #[] #[{ accessFlags := 2, nameIndex := 9, descriptorIndex := 19, attributes := #[] }] 33 16 #[] #[{ accessFlags := 24, nameIndex := 28, descriptorIndex := 29, attributes := #[] }, { accessFlags := 26, nameIndex := 38, descriptorIndex := 39, attributes := #[] }, { accessFlags := 25, nameIndex := 121, descriptorIndex := 25, attributes := #[] }, { accessFlags := 25, nameIndex := 131, descriptorIndex := 25, attributes := #[] }, { accessFlags := 25, nameIndex := 137, descriptorIndex := 25, attributes := #[] }, { accessFlags := 25, nameIndex := 143, descriptorIndex := 25, attributes := #[] }, { accessFlags := 25, nameIndex := 53, descriptorIndex := 25, attributes := #[] }, { accessFlags := 25, nameIndex := 24, descriptorIndex := 25, attributes := #[] }, { accessFlags := 25, nameIndex := 162, descriptorIndex := 25, attributes := #[] }, { accessFlags := 25, nameIndex := 187, descriptorIndex := 25, attributes := #[] }, { accessFlags := 26, nameIndex := 48, descriptorIndex := 25, attributes := #[] }, { accessFlags := 25, nameIndex := 277, descriptorIndex := 25, attributes := #[] }, { accessFlags := 25, nameIndex := 280, descriptorIndex := 25, attributes := #[] }, { accessFlags := 25, nameIndex := 282, descriptorIndex := 25, attributes := #[] }, { accessFlags := 25, nameIndex := 284, descriptorIndex := 25, attributes := #[] }, { accessFlags := 25, nameIndex := 286, descriptorIndex := 25, attributes := #[] }, { accessFlags := 25, nameIndex := 288, descriptorIndex := 25, attributes := #[] }, { accessFlags := 25, nameIndex := 290, descriptorIndex := 25, attributes := #[] }, { accessFlags := 25, nameIndex := 292, descriptorIndex := 25, attributes := #[] }, { accessFlags := 26, nameIndex := 108, descriptorIndex := 109, attributes := #[] }, { accessFlags := 25, nameIndex := 294, descriptorIndex := 25, attributes := #[] }])
  fields := #[{ name := "U", type := (.object "jdk/internal/misc/Unsafe"), accessFlags := 24, slot := 0, constantValue := 0 }, { name := "BIG_ENDIAN", type := .boolean, accessFlags := 26, slot := 1, constantValue := 0 }, { name := "LOG2_ARRAY_BOOLEAN_INDEX_SCALE", type := .int, accessFlags := 25, slot := 2, constantValue := 0 }, { name := "LOG2_ARRAY_BYTE_INDEX_SCALE", type := .int, accessFlags := 25, slot := 3, constantValue := 0 }, { name := "LOG2_ARRAY_CHAR_INDEX_SCALE", type := .int, accessFlags := 25, slot := 4, constantValue := 0 }, { name := "LOG2_ARRAY_SHORT_INDEX_SCALE", type := .int, accessFlags := 25, slot := 5, constantValue := 0 }, { name := "LOG2_ARRAY_INT_INDEX_SCALE", type := .int, accessFlags := 25, slot := 6, constantValue := 0 }, { name := "LOG2_ARRAY_LONG_INDEX_SCALE", type := .int, accessFlags := 25, slot := 7, constantValue := 0 }, { name := "LOG2_ARRAY_FLOAT_INDEX_SCALE", type := .int, accessFlags := 25, slot := 8, constantValue := 0 }, { name := "LOG2_ARRAY_DOUBLE_INDEX_SCALE", type := .int, accessFlags := 25, slot := 9, constantValue := 0 }, { name := "LOG2_BYTE_BIT_SIZE", type := .int, accessFlags := 26, slot := 10, constantValue := 0 }, { name := "T_BOOLEAN", type := .int, accessFlags := 25, slot := 11, constantValue := 0 }, { name := "T_CHAR", type := .int, accessFlags := 25, slot := 12, constantValue := 0 }, { name := "T_FLOAT", type := .int, accessFlags := 25, slot := 13, constantValue := 0 }, { name := "T_DOUBLE", type := .int, accessFlags := 25, slot := 14, constantValue := 0 }, { name := "T_BYTE", type := .int, accessFlags := 25, slot := 15, constantValue := 0 }, { name := "T_SHORT", type := .int, accessFlags := 25, slot := 16, constantValue := 0 }, { name := "T_INT", type := .int, accessFlags := 25, slot := 17, constantValue := 0 }, { name := "T_LONG", type := .int, accessFlags := 25, slot := 18, constantValue := 0 }, { name := "JLA", type := (.object "jdk/internal/access/JavaLangAccess"), accessFlags := 26, slot := 19, constantValue := 0 }, { name := "SOFT_MAX_ARRAY_LENGTH", type := .int, accessFlags := 25, slot := 20, constantValue := 0 }]
  methods := #[k16m0]
  instanceTypes := #[]
  staticTypes := #[(.object "jdk/internal/misc/Unsafe"), .boolean, .int, .int, .int, .int, .int, .int, .int, .int, .int, .int, .int, .int, .int, .int, .int, .int, .int, (.object "jdk/internal/access/JavaLangAccess"), .int]
  resolved := Array.replicate 378 none
  statics := none }

def pool17 : Array CpInfo := pool [(1, u "java/lang/Cloneable"), (0, .class_ 1), (0, u "java/lang/Object"), (0, .class_ 3)] 3

/-- java/lang/Cloneable -/
def k17 : Class := { plain "java/lang/Cloneable" (some 0) with
  accessFlags := 1537
  interfaces := #[]
  cf := some (fileOf pool17 2 #[] #[] 1537 4 #[] #[])
  fields := #[]
  methods := #[]
  instanceTypes := #[]
  staticTypes := #[]
  resolved := Array.replicate 8 none
  statics := none }

/-- the primitive byte -/
def k18 : Class := { plain "byte" none with kind := .primitive 'B', accessFlags := 0x411 }
/-- [B -/
def k19 : Class := { plain "[B" (some 0) with kind := .array 18 .byte, interfaces := #[17, 2], accessFlags := 1041 }

/-- the primitive char -/
def k20 : Class := { plain "char" none with kind := .primitive 'C', accessFlags := 0x411 }
/-- [C -/
def k21 : Class := { plain "[C" (some 0) with kind := .array 20 .char, interfaces := #[17, 2], accessFlags := 1041 }

/-- the primitive int -/
def k22 : Class := { plain "int" none with kind := .primitive 'I', accessFlags := 0x411 }
/-- [I -/
def k23 : Class := { plain "[I" (some 0) with kind := .array 22 .int, interfaces := #[17, 2], accessFlags := 1041 }

/-- [Ljava/lang/Integer; -/
def k24 : Class := { plain "[Ljava/lang/Integer;" (some 0) with kind := .array 9 (.object "java/lang/Integer"), interfaces := #[17, 2], accessFlags := 1041 }

def heap : Heap := #[{ cls := 7, slots := #[.long 0, .int 1, .null, .int 0, .null, .int 0, .int 0], vm := .statics 7 },
  { cls := 10, slots := #[.int 0, .int 127, .ref 3, .null, .int 0], vm := .statics 10 },
  { cls := 15, slots := #[.null, .null, .null], vm := .statics 15 },
  { cls := 24, slots := #[.ref 4, .ref 5, .ref 6, .ref 7, .ref 8, .ref 9, .ref 10, .ref 11, .ref 12, .ref 13, .ref 14, .ref 15, .ref 16, .ref 17, .ref 18, .ref 19, .ref 20, .ref 21, .ref 22, .ref 23, .ref 24, .ref 25, .ref 26, .ref 27, .ref 28, .ref 29, .ref 30, .ref 31, .ref 32, .ref 33, .ref 34, .ref 35, .ref 36, .ref 37, .ref 38, .ref 39, .ref 40, .ref 41, .ref 42, .ref 43, .ref 44, .ref 45, .ref 46, .ref 47, .ref 48, .ref 49, .ref 50, .ref 51, .ref 52, .ref 53, .ref 54, .ref 55, .ref 56, .ref 57, .ref 58, .ref 59, .ref 60, .ref 61, .ref 62, .ref 63, .ref 64, .ref 65, .ref 66, .ref 67, .ref 68, .ref 69, .ref 70, .ref 71, .ref 72, .ref 73, .ref 74, .ref 75, .ref 76, .ref 77, .ref 78, .ref 79, .ref 80, .ref 81, .ref 82, .ref 83, .ref 84, .ref 85, .ref 86, .ref 87, .ref 88, .ref 89, .ref 90, .ref 91, .ref 92, .ref 93, .ref 94, .ref 95, .ref 96, .ref 97, .ref 98, .ref 99, .ref 100, .ref 101, .ref 102, .ref 103, .ref 104, .ref 105, .ref 106, .ref 107, .ref 108, .ref 109, .ref 110, .ref 111, .ref 112, .ref 113, .ref 114, .ref 115, .ref 116, .ref 117, .ref 118, .ref 119, .ref 120, .ref 121, .ref 122, .ref 123, .ref 124, .ref 125, .ref 126, .ref 127, .ref 128, .ref 129, .ref 130, .ref 131, .ref 132, .ref 133, .ref 134, .ref 135, .ref 136, .ref 137, .ref 138, .ref 139, .ref 140, .ref 141, .ref 142, .ref 143, .ref 144, .ref 145, .ref 146, .ref 147, .ref 148, .ref 149, .ref 150, .ref 151, .ref 152, .ref 153, .ref 154, .ref 155, .ref 156, .ref 157, .ref 158, .ref 159, .ref 160, .ref 161, .ref 162, .ref 163, .ref 164, .ref 165, .ref 166, .ref 167, .ref 168, .ref 169, .ref 170, .ref 171, .ref 172, .ref 173, .ref 174, .ref 175, .ref 176, .ref 177, .ref 178, .ref 179, .ref 180, .ref 181, .ref 182, .ref 183, .ref 184, .ref 185, .ref 186, .ref 187, .ref 188, .ref 189, .ref 190, .ref 191, .ref 192, .ref 193, .ref 194, .ref 195, .ref 196, .ref 197, .ref 198, .ref 199, .ref 200, .ref 201, .ref 202, .ref 203, .ref 204, .ref 205, .ref 206, .ref 207, .ref 208, .ref 209, .ref 210, .ref 211, .ref 212, .ref 213, .ref 214, .ref 215, .ref 216, .ref 217, .ref 218, .ref 219, .ref 220, .ref 221, .ref 222, .ref 223, .ref 224, .ref 225, .ref 226, .ref 227, .ref 228, .ref 229, .ref 230, .ref 231, .ref 232, .ref 233, .ref 234, .ref 235, .ref 236, .ref 237, .ref 238, .ref 239, .ref 240, .ref 241, .ref 242, .ref 243, .ref 244, .ref 245, .ref 246, .ref 247, .ref 248, .ref 249, .ref 250, .ref 251, .ref 252, .ref 253, .ref 254, .ref 255, .ref 256, .ref 257, .ref 258, .ref 259], vm := .none },
  { cls := 9, slots := #[.int (-128)], vm := .none },
  { cls := 9, slots := #[.int (-127)], vm := .none },
  { cls := 9, slots := #[.int (-126)], vm := .none },
  { cls := 9, slots := #[.int (-125)], vm := .none },
  { cls := 9, slots := #[.int (-124)], vm := .none },
  { cls := 9, slots := #[.int (-123)], vm := .none },
  { cls := 9, slots := #[.int (-122)], vm := .none },
  { cls := 9, slots := #[.int (-121)], vm := .none },
  { cls := 9, slots := #[.int (-120)], vm := .none },
  { cls := 9, slots := #[.int (-119)], vm := .none },
  { cls := 9, slots := #[.int (-118)], vm := .none },
  { cls := 9, slots := #[.int (-117)], vm := .none },
  { cls := 9, slots := #[.int (-116)], vm := .none },
  { cls := 9, slots := #[.int (-115)], vm := .none },
  { cls := 9, slots := #[.int (-114)], vm := .none },
  { cls := 9, slots := #[.int (-113)], vm := .none },
  { cls := 9, slots := #[.int (-112)], vm := .none },
  { cls := 9, slots := #[.int (-111)], vm := .none },
  { cls := 9, slots := #[.int (-110)], vm := .none },
  { cls := 9, slots := #[.int (-109)], vm := .none },
  { cls := 9, slots := #[.int (-108)], vm := .none },
  { cls := 9, slots := #[.int (-107)], vm := .none },
  { cls := 9, slots := #[.int (-106)], vm := .none },
  { cls := 9, slots := #[.int (-105)], vm := .none },
  { cls := 9, slots := #[.int (-104)], vm := .none },
  { cls := 9, slots := #[.int (-103)], vm := .none },
  { cls := 9, slots := #[.int (-102)], vm := .none },
  { cls := 9, slots := #[.int (-101)], vm := .none },
  { cls := 9, slots := #[.int (-100)], vm := .none },
  { cls := 9, slots := #[.int (-99)], vm := .none },
  { cls := 9, slots := #[.int (-98)], vm := .none },
  { cls := 9, slots := #[.int (-97)], vm := .none },
  { cls := 9, slots := #[.int (-96)], vm := .none },
  { cls := 9, slots := #[.int (-95)], vm := .none },
  { cls := 9, slots := #[.int (-94)], vm := .none },
  { cls := 9, slots := #[.int (-93)], vm := .none },
  { cls := 9, slots := #[.int (-92)], vm := .none },
  { cls := 9, slots := #[.int (-91)], vm := .none },
  { cls := 9, slots := #[.int (-90)], vm := .none },
  { cls := 9, slots := #[.int (-89)], vm := .none },
  { cls := 9, slots := #[.int (-88)], vm := .none },
  { cls := 9, slots := #[.int (-87)], vm := .none },
  { cls := 9, slots := #[.int (-86)], vm := .none },
  { cls := 9, slots := #[.int (-85)], vm := .none },
  { cls := 9, slots := #[.int (-84)], vm := .none },
  { cls := 9, slots := #[.int (-83)], vm := .none },
  { cls := 9, slots := #[.int (-82)], vm := .none },
  { cls := 9, slots := #[.int (-81)], vm := .none },
  { cls := 9, slots := #[.int (-80)], vm := .none },
  { cls := 9, slots := #[.int (-79)], vm := .none },
  { cls := 9, slots := #[.int (-78)], vm := .none },
  { cls := 9, slots := #[.int (-77)], vm := .none },
  { cls := 9, slots := #[.int (-76)], vm := .none },
  { cls := 9, slots := #[.int (-75)], vm := .none },
  { cls := 9, slots := #[.int (-74)], vm := .none },
  { cls := 9, slots := #[.int (-73)], vm := .none },
  { cls := 9, slots := #[.int (-72)], vm := .none },
  { cls := 9, slots := #[.int (-71)], vm := .none },
  { cls := 9, slots := #[.int (-70)], vm := .none },
  { cls := 9, slots := #[.int (-69)], vm := .none },
  { cls := 9, slots := #[.int (-68)], vm := .none },
  { cls := 9, slots := #[.int (-67)], vm := .none },
  { cls := 9, slots := #[.int (-66)], vm := .none },
  { cls := 9, slots := #[.int (-65)], vm := .none },
  { cls := 9, slots := #[.int (-64)], vm := .none },
  { cls := 9, slots := #[.int (-63)], vm := .none },
  { cls := 9, slots := #[.int (-62)], vm := .none },
  { cls := 9, slots := #[.int (-61)], vm := .none },
  { cls := 9, slots := #[.int (-60)], vm := .none },
  { cls := 9, slots := #[.int (-59)], vm := .none },
  { cls := 9, slots := #[.int (-58)], vm := .none },
  { cls := 9, slots := #[.int (-57)], vm := .none },
  { cls := 9, slots := #[.int (-56)], vm := .none },
  { cls := 9, slots := #[.int (-55)], vm := .none },
  { cls := 9, slots := #[.int (-54)], vm := .none },
  { cls := 9, slots := #[.int (-53)], vm := .none },
  { cls := 9, slots := #[.int (-52)], vm := .none },
  { cls := 9, slots := #[.int (-51)], vm := .none },
  { cls := 9, slots := #[.int (-50)], vm := .none },
  { cls := 9, slots := #[.int (-49)], vm := .none },
  { cls := 9, slots := #[.int (-48)], vm := .none },
  { cls := 9, slots := #[.int (-47)], vm := .none },
  { cls := 9, slots := #[.int (-46)], vm := .none },
  { cls := 9, slots := #[.int (-45)], vm := .none },
  { cls := 9, slots := #[.int (-44)], vm := .none },
  { cls := 9, slots := #[.int (-43)], vm := .none },
  { cls := 9, slots := #[.int (-42)], vm := .none },
  { cls := 9, slots := #[.int (-41)], vm := .none },
  { cls := 9, slots := #[.int (-40)], vm := .none },
  { cls := 9, slots := #[.int (-39)], vm := .none },
  { cls := 9, slots := #[.int (-38)], vm := .none },
  { cls := 9, slots := #[.int (-37)], vm := .none },
  { cls := 9, slots := #[.int (-36)], vm := .none },
  { cls := 9, slots := #[.int (-35)], vm := .none },
  { cls := 9, slots := #[.int (-34)], vm := .none },
  { cls := 9, slots := #[.int (-33)], vm := .none },
  { cls := 9, slots := #[.int (-32)], vm := .none },
  { cls := 9, slots := #[.int (-31)], vm := .none },
  { cls := 9, slots := #[.int (-30)], vm := .none },
  { cls := 9, slots := #[.int (-29)], vm := .none },
  { cls := 9, slots := #[.int (-28)], vm := .none },
  { cls := 9, slots := #[.int (-27)], vm := .none },
  { cls := 9, slots := #[.int (-26)], vm := .none },
  { cls := 9, slots := #[.int (-25)], vm := .none },
  { cls := 9, slots := #[.int (-24)], vm := .none },
  { cls := 9, slots := #[.int (-23)], vm := .none },
  { cls := 9, slots := #[.int (-22)], vm := .none },
  { cls := 9, slots := #[.int (-21)], vm := .none },
  { cls := 9, slots := #[.int (-20)], vm := .none },
  { cls := 9, slots := #[.int (-19)], vm := .none },
  { cls := 9, slots := #[.int (-18)], vm := .none },
  { cls := 9, slots := #[.int (-17)], vm := .none },
  { cls := 9, slots := #[.int (-16)], vm := .none },
  { cls := 9, slots := #[.int (-15)], vm := .none },
  { cls := 9, slots := #[.int (-14)], vm := .none },
  { cls := 9, slots := #[.int (-13)], vm := .none },
  { cls := 9, slots := #[.int (-12)], vm := .none },
  { cls := 9, slots := #[.int (-11)], vm := .none },
  { cls := 9, slots := #[.int (-10)], vm := .none },
  { cls := 9, slots := #[.int (-9)], vm := .none },
  { cls := 9, slots := #[.int (-8)], vm := .none },
  { cls := 9, slots := #[.int (-7)], vm := .none },
  { cls := 9, slots := #[.int (-6)], vm := .none },
  { cls := 9, slots := #[.int (-5)], vm := .none },
  { cls := 9, slots := #[.int (-4)], vm := .none },
  { cls := 9, slots := #[.int (-3)], vm := .none },
  { cls := 9, slots := #[.int (-2)], vm := .none },
  { cls := 9, slots := #[.int (-1)], vm := .none },
  { cls := 9, slots := #[.int 0], vm := .none },
  { cls := 9, slots := #[.int 1], vm := .none },
  { cls := 9, slots := #[.int 2], vm := .none },
  { cls := 9, slots := #[.int 3], vm := .none },
  { cls := 9, slots := #[.int 4], vm := .none },
  { cls := 9, slots := #[.int 5], vm := .none },
  { cls := 9, slots := #[.int 6], vm := .none },
  { cls := 9, slots := #[.int 7], vm := .none },
  { cls := 9, slots := #[.int 8], vm := .none },
  { cls := 9, slots := #[.int 9], vm := .none },
  { cls := 9, slots := #[.int 10], vm := .none },
  { cls := 9, slots := #[.int 11], vm := .none },
  { cls := 9, slots := #[.int 12], vm := .none },
  { cls := 9, slots := #[.int 13], vm := .none },
  { cls := 9, slots := #[.int 14], vm := .none },
  { cls := 9, slots := #[.int 15], vm := .none },
  { cls := 9, slots := #[.int 16], vm := .none },
  { cls := 9, slots := #[.int 17], vm := .none },
  { cls := 9, slots := #[.int 18], vm := .none },
  { cls := 9, slots := #[.int 19], vm := .none },
  { cls := 9, slots := #[.int 20], vm := .none },
  { cls := 9, slots := #[.int 21], vm := .none },
  { cls := 9, slots := #[.int 22], vm := .none },
  { cls := 9, slots := #[.int 23], vm := .none },
  { cls := 9, slots := #[.int 24], vm := .none },
  { cls := 9, slots := #[.int 25], vm := .none },
  { cls := 9, slots := #[.int 26], vm := .none },
  { cls := 9, slots := #[.int 27], vm := .none },
  { cls := 9, slots := #[.int 28], vm := .none },
  { cls := 9, slots := #[.int 29], vm := .none },
  { cls := 9, slots := #[.int 30], vm := .none },
  { cls := 9, slots := #[.int 31], vm := .none },
  { cls := 9, slots := #[.int 32], vm := .none },
  { cls := 9, slots := #[.int 33], vm := .none },
  { cls := 9, slots := #[.int 34], vm := .none },
  { cls := 9, slots := #[.int 35], vm := .none },
  { cls := 9, slots := #[.int 36], vm := .none },
  { cls := 9, slots := #[.int 37], vm := .none },
  { cls := 9, slots := #[.int 38], vm := .none },
  { cls := 9, slots := #[.int 39], vm := .none },
  { cls := 9, slots := #[.int 40], vm := .none },
  { cls := 9, slots := #[.int 41], vm := .none },
  { cls := 9, slots := #[.int 42], vm := .none },
  { cls := 9, slots := #[.int 43], vm := .none },
  { cls := 9, slots := #[.int 44], vm := .none },
  { cls := 9, slots := #[.int 45], vm := .none },
  { cls := 9, slots := #[.int 46], vm := .none },
  { cls := 9, slots := #[.int 47], vm := .none },
  { cls := 9, slots := #[.int 48], vm := .none },
  { cls := 9, slots := #[.int 49], vm := .none },
  { cls := 9, slots := #[.int 50], vm := .none },
  { cls := 9, slots := #[.int 51], vm := .none },
  { cls := 9, slots := #[.int 52], vm := .none },
  { cls := 9, slots := #[.int 53], vm := .none },
  { cls := 9, slots := #[.int 54], vm := .none },
  { cls := 9, slots := #[.int 55], vm := .none },
  { cls := 9, slots := #[.int 56], vm := .none },
  { cls := 9, slots := #[.int 57], vm := .none },
  { cls := 9, slots := #[.int 58], vm := .none },
  { cls := 9, slots := #[.int 59], vm := .none },
  { cls := 9, slots := #[.int 60], vm := .none },
  { cls := 9, slots := #[.int 61], vm := .none },
  { cls := 9, slots := #[.int 62], vm := .none },
  { cls := 9, slots := #[.int 63], vm := .none },
  { cls := 9, slots := #[.int 64], vm := .none },
  { cls := 9, slots := #[.int 65], vm := .none },
  { cls := 9, slots := #[.int 66], vm := .none },
  { cls := 9, slots := #[.int 67], vm := .none },
  { cls := 9, slots := #[.int 68], vm := .none },
  { cls := 9, slots := #[.int 69], vm := .none },
  { cls := 9, slots := #[.int 70], vm := .none },
  { cls := 9, slots := #[.int 71], vm := .none },
  { cls := 9, slots := #[.int 72], vm := .none },
  { cls := 9, slots := #[.int 73], vm := .none },
  { cls := 9, slots := #[.int 74], vm := .none },
  { cls := 9, slots := #[.int 75], vm := .none },
  { cls := 9, slots := #[.int 76], vm := .none },
  { cls := 9, slots := #[.int 77], vm := .none },
  { cls := 9, slots := #[.int 78], vm := .none },
  { cls := 9, slots := #[.int 79], vm := .none },
  { cls := 9, slots := #[.int 80], vm := .none },
  { cls := 9, slots := #[.int 81], vm := .none },
  { cls := 9, slots := #[.int 82], vm := .none },
  { cls := 9, slots := #[.int 83], vm := .none },
  { cls := 9, slots := #[.int 84], vm := .none },
  { cls := 9, slots := #[.int 85], vm := .none },
  { cls := 9, slots := #[.int 86], vm := .none },
  { cls := 9, slots := #[.int 87], vm := .none },
  { cls := 9, slots := #[.int 88], vm := .none },
  { cls := 9, slots := #[.int 89], vm := .none },
  { cls := 9, slots := #[.int 90], vm := .none },
  { cls := 9, slots := #[.int 91], vm := .none },
  { cls := 9, slots := #[.int 92], vm := .none },
  { cls := 9, slots := #[.int 93], vm := .none },
  { cls := 9, slots := #[.int 94], vm := .none },
  { cls := 9, slots := #[.int 95], vm := .none },
  { cls := 9, slots := #[.int 96], vm := .none },
  { cls := 9, slots := #[.int 97], vm := .none },
  { cls := 9, slots := #[.int 98], vm := .none },
  { cls := 9, slots := #[.int 99], vm := .none },
  { cls := 9, slots := #[.int 100], vm := .none },
  { cls := 9, slots := #[.int 101], vm := .none },
  { cls := 9, slots := #[.int 102], vm := .none },
  { cls := 9, slots := #[.int 103], vm := .none },
  { cls := 9, slots := #[.int 104], vm := .none },
  { cls := 9, slots := #[.int 105], vm := .none },
  { cls := 9, slots := #[.int 106], vm := .none },
  { cls := 9, slots := #[.int 107], vm := .none },
  { cls := 9, slots := #[.int 108], vm := .none },
  { cls := 9, slots := #[.int 109], vm := .none },
  { cls := 9, slots := #[.int 110], vm := .none },
  { cls := 9, slots := #[.int 111], vm := .none },
  { cls := 9, slots := #[.int 112], vm := .none },
  { cls := 9, slots := #[.int 113], vm := .none },
  { cls := 9, slots := #[.int 114], vm := .none },
  { cls := 9, slots := #[.int 115], vm := .none },
  { cls := 9, slots := #[.int 116], vm := .none },
  { cls := 9, slots := #[.int 117], vm := .none },
  { cls := 9, slots := #[.int 118], vm := .none },
  { cls := 9, slots := #[.int 119], vm := .none },
  { cls := 9, slots := #[.int 120], vm := .none },
  { cls := 9, slots := #[.int 121], vm := .none },
  { cls := 9, slots := #[.int 122], vm := .none },
  { cls := 9, slots := #[.int 123], vm := .none },
  { cls := 9, slots := #[.int 124], vm := .none },
  { cls := 9, slots := #[.int 125], vm := .none },
  { cls := 9, slots := #[.int 126], vm := .none },
  { cls := 9, slots := #[.int 127], vm := .none }]
def classes : Array Class := #[k0, k1, k2, k3, k4, k5, k6, k7, k8, k9, k10, k11, k12, k13, k14, k15, k16, k17, k18, k19, k20, k21, k22, k23, k24]
def interned : List (Array UInt16 × Addr) := []
def slotsUsed : Nat := 527
def theMethod : MethodId := ⟨1, 1⟩
def args0 : Array Value := #[.int 5, .int 6, .int 7, .int 8, .int 9, .int 10]
def aboutOver (below : List Frame) : State where
  vm := { classes := classes, interned := interned.toArray }
  heap := heap
  slotsUsed := slotsUsed
  threads := #[{ frames := .invoking theMethod args0 :: below }]
def below0 : List Frame := [.native { method := ⟨0, 0⟩, args := #[] }]
def about1 : State := aboutOver below0
def p0 : Program := .bare "" "" ""
def e0 : Env := launch0.env 0 0 0
theorem w_frames : about1.frames = Frame.invoking theMethod args0 :: below0 := rfl
set_option maxRecDepth 65536 in
theorem w_args : argsFit about1.vm theMethod args0 = true := by decide +kernel
set_option maxRecDepth 65536 in
theorem w_heap : heapFits about1 = true := by decide +kernel
set_option maxRecDepth 65536 in
theorem w_runnable : about1.curStatus? = some .runnable := by decide +kernel
set_option maxRecDepth 65536 in
theorem w_alone : about1.alone = true := by decide +kernel
set_option maxRecDepth 65536 in
theorem w_named : about1.methodNamed? x = some theMethod := by decide +kernel
set_option maxRecDepth 65536 in
theorem w_hears : about1.hears theMethod below0 = true := by decide +kernel
set_option maxRecDepth 65536 in
theorem w_ripe : about1.ripe theMethod args0 below0 = true := by decide +kernel
theorem w_running : about1.status = .running := rfl
set_option maxRecDepth 65536 in
theorem w_room : about1.hasRoom e0.platform room_1 = true :=
  launch0.hasRoom_least _ room_1 (by decide +kernel) (by decide +kernel) (by decide +kernel) (by decide +kernel) (by decide +kernel) (by decide +kernel)
theorem allAtoms_all (ts : List Jvm.Cond) (a : Array Jvm.Value) (st : Jvm.State) : (allAtoms ts).before a st = ts.all (fun c => c.before a st) := by
  induction ts with
  | nil => rfl
  | cons c t ih =>
    show (Jvm.Cond.and c (allAtoms t)).before a st = _
    rw [Jvm.Cond.before_and, ih, List.all_cons]
def words1 : List Jvm.Cond := Jvm.Cond.code x code maxLocals ret :: tables_1
/-- a 'code' word, met by the world's own term for the bytes: nothing is compared byte by byte -/
theorem code_word {y : MethodName} {bytes : ByteArray} {mx : Nat} {rt : Option FieldType} {a : Array Value} {s : State} {m : MethodId} {meth : Method} {c : Code} (h1 : s.methodNamed? y = some m) (h2 : s.vm.method? m = some meth) (h3 : meth.code = some c) (h4 : c.code = bytes)
    (h5 : (c.maxLocals == mx && c.exceptionTable.isEmpty && decide (c.maxStack ≤ mostOperands) && decide (meth.sig.returnType = rt) && !meth.locks && decide (parseMethodDescriptor y.desc = some meth.sig)) = true) : (Jvm.Cond.code y bytes mx rt).before a s = true := by
  simp only [Bool.and_eq_true, beq_iff_eq, Bool.not_eq_true', decide_eq_true_eq] at h5
  obtain ⟨⟨⟨⟨⟨g1, g2⟩, g3⟩, g4⟩, g5⟩, g6⟩ := h5
  simp [Cond.before, Cond.holds, Cond.value, h1, h2, h3, h4, g1, g2, g3, g4, g5, g6]
def isCode : Jvm.Cond → Bool
  | .code _ _ _ _ => true
  | _ => false
theorem all_split {L : List Jvm.Cond} {P : Jvm.Cond → Bool} (h1 : L.all (fun c => isCode c || P c) = true) (h2 : ∀ c ∈ L.filter isCode, P c = true) : L.all P = true := by
  refine List.all_eq_true.mpr fun c hc => ?_
  have h := List.all_eq_true.mp h1 c hc
  rcases Bool.eq_false_or_eq_true (isCode c) with hi | hi
  · exact h2 c (List.mem_filter.mpr ⟨hc, hi⟩)
  · simpa [hi] using h
set_option maxRecDepth 65536 in
theorem w_c0 : (Jvm.Cond.code x code maxLocals ret).before args0 about1 = true := code_word (m := ⟨1, 1⟩) (meth := k1m1) (c := k1c1) (by decide +kernel) rfl rfl rfl (by decide +kernel)
set_option maxRecDepth 65536 in
theorem w_c1 : (Jvm.Cond.code ({ cls := "com/example/kilnroute/kilnroute/spark/ResourcesWithDriverMemoryPinLaw", name := "mk", desc := "(II)Ljava/lang/String;" } : Jvm.MethodName) method_3_code (6 : Nat) (Option.some (Jvm.ClassFile.FieldType.object "java/lang/String"))).before args0 about1 = true := code_word (m := ⟨1, 2⟩) (meth := k1m2) (c := k1c2) (by decide +kernel) rfl rfl rfl (by decide +kernel)
set_option maxRecDepth 65536 in
theorem w_c2 : (Jvm.Cond.code ({ cls := "java/lang/String", name := "<init>", desc := "([C)V" } : Jvm.MethodName) jdk_42_method_3_code (2 : Nat) (Option.none : Option Jvm.ClassFile.FieldType)).before args0 about1 = true := code_word (m := ⟨7, 1⟩) (meth := k7m1) (c := k7c1) (by decide +kernel) rfl rfl rfl (by decide +kernel)
set_option maxRecDepth 65536 in
theorem w_c3 : (Jvm.Cond.code ({ cls := "java/lang/String", name := "<init>", desc := "([CIILjava/lang/Void;)V" } : Jvm.MethodName) jdk_42_method_149_code (6 : Nat) (Option.none : Option Jvm.ClassFile.FieldType)).before args0 about1 = true := code_word (m := ⟨7, 3⟩) (meth := k7m3) (c := k7c3) (by decide +kernel) rfl rfl rfl (by decide +kernel)
set_option maxRecDepth 65536 in
theorem w_c4 : (Jvm.Cond.code ({ cls := "java/lang/Object", name := "<init>", desc := "()V" } : Jvm.MethodName) object_method_1_code (1 : Nat) (Option.none : Option Jvm.ClassFile.FieldType)).before args0 about1 = true := code_word (m := ⟨0, 0⟩) (meth := k0m0) (c := k0c0) (by decide +kernel) rfl rfl rfl (by decide +kernel)
set_option maxRecDepth 65536 in
theorem w_c5 : (Jvm.Cond.code ({ cls := "java/lang/Integer", name := "valueOf", desc := "(I)Ljava/lang/Integer;" } : Jvm.MethodName) jdk_33_method_22_code (1 : Nat) (Option.some (Jvm.ClassFile.FieldType.object "java/lang/Integer"))).before args0 about1 = true := code_word (m := ⟨9, 0⟩) (meth := k9m0) (c := k9c0) (by decide +kernel) rfl rfl rfl (by decide +kernel)
set_option maxRecDepth 65536 in
theorem w_c6 : (Jvm.Cond.code ({ cls := "com/example/kilnroute/kilnroute/spark/Resources", name := "<init>", desc := "(Ljava/lang/String;Ljava/lang/Integer;Ljava/lang/String;Ljava/lang/Integer;Ljava/lang/Integer;)V" } : Jvm.MethodName) prog_18_method_1_code (6 : Nat) (Option.none : Option Jvm.ClassFile.FieldType)).before args0 about1 = true := code_word (m := ⟨12, 0⟩) (meth := k12m0) (c := k12c0) (by decide +kernel) rfl rfl rfl (by decide +kernel)
set_option maxRecDepth 65536 in
theorem w_c7 : (Jvm.Cond.code ({ cls := "java/lang/Record", name := "<init>", desc := "()V" } : Jvm.MethodName) jdk_30_method_1_code (1 : Nat) (Option.none : Option Jvm.ClassFile.FieldType)).before args0 about1 = true := code_word (m := ⟨11, 0⟩) (meth := k11m0) (c := k11c0) (by decide +kernel) rfl rfl rfl (by decide +kernel)
set_option maxRecDepth 65536 in
theorem w_c8 : (Jvm.Cond.code ({ cls := "com/example/kilnroute/kilnroute/spark/Resources", name := "withDriverMemory", desc := "(Ljava/lang/String;)Lcom/example/kilnroute/kilnroute/spark/Resources;" } : Jvm.MethodName) prog_18_method_12_code (2 : Nat) (Option.some (Jvm.ClassFile.FieldType.object "com/example/kilnroute/kilnroute/spark/Resources"))).before args0 about1 = true := code_word (m := ⟨12, 1⟩) (meth := k12m1) (c := k12c1) (by decide +kernel) rfl rfl rfl (by decide +kernel)
set_option maxRecDepth 65536 in
theorem w_c9 : (Jvm.Cond.code ({ cls := "com/example/kilnroute/kilnroute/spark/Resources", name := "driverMemory", desc := "()Ljava/lang/String;" } : Jvm.MethodName) prog_18_method_17_code (1 : Nat) (Option.some (Jvm.ClassFile.FieldType.object "java/lang/String"))).before args0 about1 = true := code_word (m := ⟨12, 2⟩) (meth := k12m2) (c := k12c2) (by decide +kernel) rfl rfl rfl (by decide +kernel)
set_option maxRecDepth 65536 in
theorem w_c10 : (Jvm.Cond.code ({ cls := "com/example/kilnroute/kilnroute/spark/ResourcesWithDriverMemoryPinLaw", name := "sameStr", desc := "(Ljava/lang/String;Ljava/lang/String;)Z" } : Jvm.MethodName) method_4_code (2 : Nat) (Option.some Jvm.ClassFile.FieldType.boolean)).before args0 about1 = true := code_word (m := ⟨1, 3⟩) (meth := k1m3) (c := k1c3) (by decide +kernel) rfl rfl rfl (by decide +kernel)
set_option maxRecDepth 65536 in
theorem w_c11 : (Jvm.Cond.code ({ cls := "java/lang/String", name := "equals", desc := "(Ljava/lang/Object;)Z" } : Jvm.MethodName) jdk_42_method_66_code (3 : Nat) (Option.some Jvm.ClassFile.FieldType.boolean)).before args0 about1 = true := code_word (m := ⟨7, 2⟩) (meth := k7m2) (c := k7c2) (by decide +kernel) rfl rfl rfl (by decide +kernel)
set_option maxRecDepth 65536 in
theorem w_c12 : (Jvm.Cond.code ({ cls := "com/example/kilnroute/kilnroute/spark/Resources", name := "driverCores", desc := "()Ljava/lang/Integer;" } : Jvm.MethodName) prog_18_method_18_code (1 : Nat) (Option.some (Jvm.ClassFile.FieldType.object "java/lang/Integer"))).before args0 about1 = true := code_word (m := ⟨12, 3⟩) (meth := k12m3) (c := k12c3) (by decide +kernel) rfl rfl rfl (by decide +kernel)
set_option maxRecDepth 65536 in
theorem w_c13 : (Jvm.Cond.code ({ cls := "com/example/kilnroute/kilnroute/spark/ResourcesWithDriverMemoryPinLaw", name := "sameInt", desc := "(Ljava/lang/Integer;Ljava/lang/Integer;)Z" } : Jvm.MethodName) method_5_code (2 : Nat) (Option.some Jvm.ClassFile.FieldType.boolean)).before args0 about1 = true := code_word (m := ⟨1, 4⟩) (meth := k1m4) (c := k1c4) (by decide +kernel) rfl rfl rfl (by decide +kernel)
set_option maxRecDepth 65536 in
theorem w_c14 : (Jvm.Cond.code ({ cls := "java/lang/Integer", name := "intValue", desc := "()I" } : Jvm.MethodName) jdk_33_method_27_code (1 : Nat) (Option.some Jvm.ClassFile.FieldType.int)).before args0 about1 = true := code_word (m := ⟨9, 2⟩) (meth := k9m2) (c := k9c2) (by decide +kernel) rfl rfl rfl (by decide +kernel)
set_option maxRecDepth 65536 in
theorem w_c15 : (Jvm.Cond.code ({ cls := "com/example/kilnroute/kilnroute/spark/Resources", name := "executorMemory", desc := "()Ljava/lang/String;" } : Jvm.MethodName) prog_18_method_19_code (1 : Nat) (Option.some (Jvm.ClassFile.FieldType.object "java/lang/String"))).before args0 about1 = true := code_word (m := ⟨12, 4⟩) (meth := k12m4) (c := k12c4) (by decide +kernel) rfl rfl rfl (by decide +kernel)
set_option maxRecDepth 65536 in
theorem w_c16 : (Jvm.Cond.code ({ cls := "com/example/kilnroute/kilnroute/spark/Resources", name := "executorCores", desc := "()Ljava/lang/Integer;" } : Jvm.MethodName) prog_18_method_20_code (1 : Nat) (Option.some (Jvm.ClassFile.FieldType.object "java/lang/Integer"))).before args0 about1 = true := code_word (m := ⟨12, 5⟩) (meth := k12m5) (c := k12c5) (by decide +kernel) rfl rfl rfl (by decide +kernel)
set_option maxRecDepth 65536 in
theorem w_c17 : (Jvm.Cond.code ({ cls := "com/example/kilnroute/kilnroute/spark/Resources", name := "numExecutors", desc := "()Ljava/lang/Integer;" } : Jvm.MethodName) prog_18_method_21_code (1 : Nat) (Option.some (Jvm.ClassFile.FieldType.object "java/lang/Integer"))).before args0 about1 = true := code_word (m := ⟨12, 6⟩) (meth := k12m6) (c := k12c6) (by decide +kernel) rfl rfl rfl (by decide +kernel)
set_option maxRecDepth 65536 in
theorem w_c18 : (Jvm.Cond.code ({ cls := "java/lang/StringUTF16", name := "compress", desc := "([CII)[B" } : Jvm.MethodName) jdk_52_method_16_code (6 : Nat) (Option.some (Jvm.ClassFile.FieldType.array Jvm.ClassFile.FieldType.byte))).before args0 about1 = true := code_word (m := ⟨13, 2⟩) (meth := k13m2) (c := k13c2) (by decide +kernel) rfl rfl rfl (by decide +kernel)
set_option maxRecDepth 65536 in
theorem w_c19 : (Jvm.Cond.code ({ cls := "java/lang/StringUTF16", name := "compress", desc := "([CI[BII)I" } : Jvm.MethodName) jdk_52_method_21_code (7 : Nat) (Option.some Jvm.ClassFile.FieldType.int)).before args0 about1 = true := code_word (m := ⟨13, 3⟩) (meth := k13m3) (c := k13c3) (by decide +kernel) rfl rfl rfl (by decide +kernel)
set_option maxRecDepth 65536 in
theorem w_c20 : (Jvm.Cond.code ({ cls := "java/lang/StringUTF16", name := "coderFromArrayLen", desc := "([BI)B" } : Jvm.MethodName) jdk_52_method_15_code (2 : Nat) (Option.some Jvm.ClassFile.FieldType.byte)).before args0 about1 = true := code_word (m := ⟨13, 1⟩) (meth := k13m1) (c := k13c1) (by decide +kernel) rfl rfl rfl (by decide +kernel)
set_option maxRecDepth 65536 in
theorem w_c21 : (Jvm.Cond.code ({ cls := "java/lang/Integer", name := "<init>", desc := "(I)V" } : Jvm.MethodName) jdk_33_method_23_code (2 : Nat) (Option.none : Option Jvm.ClassFile.FieldType)).before args0 about1 = true := code_word (m := ⟨9, 1⟩) (meth := k9m1) (c := k9c1) (by decide +kernel) rfl rfl rfl (by decide +kernel)
set_option maxRecDepth 65536 in
theorem w_c22 : (Jvm.Cond.code ({ cls := "java/lang/Number", name := "<init>", desc := "()V" } : Jvm.MethodName) jdk_18_method_1_code (1 : Nat) (Option.none : Option Jvm.ClassFile.FieldType)).before args0 about1 = true := code_word (m := ⟨8, 0⟩) (meth := k8m0) (c := k8c0) (by decide +kernel) rfl rfl rfl (by decide +kernel)
def codes1 : List Jvm.Cond := [Jvm.Cond.code x code maxLocals ret, Jvm.Cond.code ({ cls := "com/example/kilnroute/kilnroute/spark/ResourcesWithDriverMemoryPinLaw", name := "mk", desc := "(II)Ljava/lang/String;" } : Jvm.MethodName) method_3_code (6 : Nat) (Option.some (Jvm.ClassFile.FieldType.object "java/lang/String")), Jvm.Cond.code ({ cls := "java/lang/String", name := "<init>", desc := "([C)V" } : Jvm.MethodName) jdk_42_method_3_code (2 : Nat) (Option.none : Option Jvm.ClassFile.FieldType), Jvm.Cond.code ({ cls := "java/lang/String", name := "<init>", desc := "([CIILjava/lang/Void;)V" } : Jvm.MethodName) jdk_42_method_149_code (6 : Nat) (Option.none : Option Jvm.ClassFile.FieldType), Jvm.Cond.code ({ cls := "java/lang/Object", name := "<init>", desc := "()V" } : Jvm.MethodName) object_method_1_code (1 : Nat) (Option.none : Option Jvm.ClassFile.FieldType), Jvm.Cond.code ({ cls := "java/lang/Integer", name := "valueOf", desc := "(I)Ljava/lang/Integer;" } : Jvm.MethodName) jdk_33_method_22_code (1 : Nat) (Option.some (Jvm.ClassFile.FieldType.object "java/lang/Integer")), Jvm.Cond.code ({ cls := "com/example/kilnroute/kilnroute/spark/Resources", name := "<init>", desc := "(Ljava/lang/String;Ljava/lang/Integer;Ljava/lang/String;Ljava/lang/Integer;Ljava/lang/Integer;)V" } : Jvm.MethodName) prog_18_method_1_code (6 : Nat) (Option.none : Option Jvm.ClassFile.FieldType), Jvm.Cond.code ({ cls := "java/lang/Record", name := "<init>", desc := "()V" } : Jvm.MethodName) jdk_30_method_1_code (1 : Nat) (Option.none : Option Jvm.ClassFile.FieldType), Jvm.Cond.code ({ cls := "com/example/kilnroute/kilnroute/spark/Resources", name := "withDriverMemory", desc := "(Ljava/lang/String;)Lcom/example/kilnroute/kilnroute/spark/Resources;" } : Jvm.MethodName) prog_18_method_12_code (2 : Nat) (Option.some (Jvm.ClassFile.FieldType.object "com/example/kilnroute/kilnroute/spark/Resources")), Jvm.Cond.code ({ cls := "com/example/kilnroute/kilnroute/spark/Resources", name := "driverMemory", desc := "()Ljava/lang/String;" } : Jvm.MethodName) prog_18_method_17_code (1 : Nat) (Option.some (Jvm.ClassFile.FieldType.object "java/lang/String")), Jvm.Cond.code ({ cls := "com/example/kilnroute/kilnroute/spark/ResourcesWithDriverMemoryPinLaw", name := "sameStr", desc := "(Ljava/lang/String;Ljava/lang/String;)Z" } : Jvm.MethodName) method_4_code (2 : Nat) (Option.some Jvm.ClassFile.FieldType.boolean), Jvm.Cond.code ({ cls := "java/lang/String", name := "equals", desc := "(Ljava/lang/Object;)Z" } : Jvm.MethodName) jdk_42_method_66_code (3 : Nat) (Option.some Jvm.ClassFile.FieldType.boolean), Jvm.Cond.code ({ cls := "com/example/kilnroute/kilnroute/spark/Resources", name := "driverCores", desc := "()Ljava/lang/Integer;" } : Jvm.MethodName) prog_18_method_18_code (1 : Nat) (Option.some (Jvm.ClassFile.FieldType.object "java/lang/Integer")), Jvm.Cond.code ({ cls := "com/example/kilnroute/kilnroute/spark/ResourcesWithDriverMemoryPinLaw", name := "sameInt", desc := "(Ljava/lang/Integer;Ljava/lang/Integer;)Z" } : Jvm.MethodName) method_5_code (2 : Nat) (Option.some Jvm.ClassFile.FieldType.boolean), Jvm.Cond.code ({ cls := "java/lang/Integer", name := "intValue", desc := "()I" } : Jvm.MethodName) jdk_33_method_27_code (1 : Nat) (Option.some Jvm.ClassFile.FieldType.int), Jvm.Cond.code ({ cls := "com/example/kilnroute/kilnroute/spark/Resources", name := "executorMemory", desc := "()Ljava/lang/String;" } : Jvm.MethodName) prog_18_method_19_code (1 : Nat) (Option.some (Jvm.ClassFile.FieldType.object "java/lang/String")), Jvm.Cond.code ({ cls := "com/example/kilnroute/kilnroute/spark/Resources", name := "executorCores", desc := "()Ljava/lang/Integer;" } : Jvm.MethodName) prog_18_method_20_code (1 : Nat) (Option.some (Jvm.ClassFile.FieldType.object "java/lang/Integer")), Jvm.Cond.code ({ cls := "com/example/kilnroute/kilnroute/spark/Resources", name := "numExecutors", desc := "()Ljava/lang/Integer;" } : Jvm.MethodName) prog_18_method_21_code (1 : Nat) (Option.some (Jvm.ClassFile.FieldType.object "java/lang/Integer")), Jvm.Cond.code ({ cls := "java/lang/StringUTF16", name := "compress", desc := "([CII)[B" } : Jvm.MethodName) jdk_52_method_16_code (6 : Nat) (Option.some (Jvm.ClassFile.FieldType.array Jvm.ClassFile.FieldType.byte)), Jvm.Cond.code ({ cls := "java/lang/StringUTF16", name := "compress", desc := "([CI[BII)I" } : Jvm.MethodName) jdk_52_method_21_code (7 : Nat) (Option.some Jvm.ClassFile.FieldType.int), Jvm.Cond.code ({ cls := "java/lang/StringUTF16", name := "coderFromArrayLen", desc := "([BI)B" } : Jvm.MethodName) jdk_52_method_15_code (2 : Nat) (Option.some Jvm.ClassFile.FieldType.byte), Jvm.Cond.code ({ cls := "java/lang/Integer", name := "<init>", desc := "(I)V" } : Jvm.MethodName) jdk_33_method_23_code (2 : Nat) (Option.none : Option Jvm.ClassFile.FieldType), Jvm.Cond.code ({ cls := "java/lang/Number", name := "<init>", desc := "()V" } : Jvm.MethodName) jdk_18_method_1_code (1 : Nat) (Option.none : Option Jvm.ClassFile.FieldType)]
set_option maxRecDepth 65536 in
theorem codes_eq : words1.filter isCode = codes1 := rfl
theorem w_codes : ∀ c ∈ words1.filter isCode, c.before args0 about1 = true := by
  rw [codes_eq]
  intro c hc
  simp only [codes1, List.mem_cons, List.not_mem_nil, or_false] at hc
  rcases hc with rfl | rfl | rfl | rfl | rfl | rfl | rfl | rfl | rfl | rfl | rfl | rfl | rfl | rfl | rfl | rfl | rfl | rfl | rfl | rfl | rfl | rfl | rfl
  · exact w_c0
  · exact w_c1
  · exact w_c2
  · exact w_c3
  · exact w_c4
  · exact w_c5
  · exact w_c6
  · exact w_c7
  · exact w_c8
  · exact w_c9
  · exact w_c10
  · exact w_c11
  · exact w_c12
  · exact w_c13
  · exact w_c14
  · exact w_c15
  · exact w_c16
  · exact w_c17
  · exact w_c18
  · exact w_c19
  · exact w_c20
  · exact w_c21
  · exact w_c22
set_option maxRecDepth 65536 in
theorem w_t1 : (words1.take 24).all (fun c => isCode c || c.before args0 about1) = true := by decide +kernel
set_option maxRecDepth 65536 in
theorem w_t2 : ((words1.drop 24).take 24).all (fun c => isCode c || c.before args0 about1) = true := by decide +kernel
set_option maxRecDepth 65536 in
theorem w_t3 : (((words1.drop 24).drop 24).take 24).all (fun c => isCode c || c.before args0 about1) = true := by decide +kernel
set_option maxRecDepth 65536 in
theorem w_t4 : ((((words1.drop 24).drop 24).drop 24).take 24).all (fun c => isCode c || c.before args0 about1) = true := by decide +kernel
set_option maxRecDepth 65536 in
theorem w_t5 : (((((words1.drop 24).drop 24).drop 24).drop 24).take 24).all (fun c => isCode c || c.before args0 about1) = true := by decide +kernel
set_option maxRecDepth 65536 in
theorem w_t6 : (((((words1.drop 24).drop 24).drop 24).drop 24).drop 24).all (fun c => isCode c || c.before args0 about1) = true := by decide +kernel
theorem w_tables : (allAtoms (Jvm.Cond.code x code maxLocals ret :: tables_1)).before args0 about1 = true := by
  rw [allAtoms_all]
  show words1.all (fun c => c.before args0 about1) = true
  refine all_split ?_ w_codes
  rw [← List.take_append_drop 24 words1, List.all_append, w_t1, ← List.take_append_drop 24 (words1.drop 24), List.all_append, w_t2, ← List.take_append_drop 24 ((words1.drop 24).drop 24), List.all_append, w_t3, ← List.take_append_drop 24 (((words1.drop 24).drop 24).drop 24), List.all_append, w_t4, ← List.take_append_drop 24 ((((words1.drop 24).drop 24).drop 24).drop 24), List.all_append, w_t5, w_t6]
  rfl
set_option maxRecDepth 65536 in
theorem w_rest : rest_1_c.before args0 about1 = true := by decide +kernel
set_option maxRecDepth 65536 in
theorem w_case : (Jvm.Cond.and given_1 narrow_1).before args0 about1 = true := by decide +kernel
set_option maxRecDepth 65536 in
theorem w_consts : constsHeld consts_1 about1 := Jvm.Lit.constsHeldB_iff.mp (by decide +kernel)
theorem w_applies : (headSpec (Jvm.Cond.code x code maxLocals ret :: tables_1) room_1).applies x e0.platform about1 = true :=
  (Spec.applies_iff w_frames).mpr ⟨w_running, w_runnable, w_alone, w_named, w_hears, w_ripe, w_room, w_tables⟩
theorem atStart : AtStart classFile x code maxLocals ret World_1 tables_1 room_1 Calls_1 rest_1 Pre_1 launch0 p0 e0 about1 theMethod args0 below0 :=
  ⟨lists_1, trivial, launch0.admits_env _ _ _, launch0.least_env, fairChoices_fair.cas, fairChoices_fair.clock, w_frames, w_args, w_heap, w_applies, ⟨w_consts, trivial⟩, w_rest, w_case⟩
end start1
theorem witness_1 : WitnessClaimed_1 := ⟨start1.p0, start1.e0, start1.about1, start1.theMethod, start1.args0, start1.below0, start1.atStart⟩
end Jvm.Pilot.@@N@@
