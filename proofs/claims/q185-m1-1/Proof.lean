import JvmDerived
import JvmDerived.Pilot.@@N@@Statement
import JvmDerived.Pilot.@@N@@Code
set_option linter.unusedVariables false
set_option linter.unusedSimpArgs false
namespace Jvm.RoadKit
open Sem ClassFile Op Lib Jvm.Stand Jvm.Free Jvm.LawKit
abbrev sI_ (x : Int32) : Slot := .val (.int x)
abbrev sJ_ (x : Int64) : Slot := .val (.long x)
abbrev sR_ (x : Addr) : Slot := .val (.ref x)
abbrev sU_ : Slot := .unset
abbrev sS_ : Slot := .second
theorem catR (a : Addr) : (Value.ref a).category = 1 := rfl
theorem catN : Value.null.category = 1 := rfl
theorem catI (x : Int32) : (Value.int x).category = 1 := rfl
theorem catJ (x : Int64) : (Value.long x).category = 2 := rfl
section Own
variable {p : Program} {l : Launch} {e : Env} {R : Room} {s : State} {m : MethodId} {args : Array Value} {below : List Frame} {meth : Method} {c : Code} {T U U' : State} {locs : List Loc} {cells slots : Nat} {Z : State} {a0 : Array Value} {h : Heap} {Q : Option Value → Heap → List Loc → Prop} {C S : Nat}
/-- what is left to show at a point of a walk: from U the body comes to its end, and Q holds there -/
def Goes (p : Program) (e : Env) (s : State) (below : List Frame) (Q : Option Value → Heap → List Loc → Prop) (C S : Nat) (U : State) : Prop :=
  ∃ s₂ o, Steps p.tables e below U s₂ ∧ s₂.status = .running ∧ Ended s₂ below o ∧ ∃ v L, o = .returned v ∧ Q v s₂.heap L ∧ FrameEnd s o s₂ L C S
theorem Goes.go (st : ∀ t, Steps p.tables e below U' t → Steps p.tables e below U t) (k : Goes p e s below Q C S U') : Goes p e s below Q C S U := by
  obtain ⟨s₂, o, h1, h2⟩ := k
  exact ⟨s₂, o, st _ h1, h2⟩
theorem Goes.leave {v : Option Value} (X : Stand p l e R s m args below meth c T locs cells slots) (hlk : meth.locks = false) (hv : meth.sig.returnType = none → v = none) (hQ : Q v T.heap locs) (hc : cells ≤ C) (hs : slots ≤ S)
    (st : ∀ fs, (∀ (f : JFrame) (acts : List Action), f.method = m → f.locked = none → f.entered = [] → (doReturn e (T.setTop f) acts v).1 = T.setFrames fs) → Steps p.tables e below U (T.setFrames fs)) : Goes p e s below Q C S U := by
  obtain ⟨fs, hr, hrun, hended, hW, hsame⟩ := X.leave (v := v) hv hlk
  exact ⟨_, _, st fs hr, hrun, hended, _, _, rfl, hQ, ⟨_, rfl⟩, hW, hsame.mono hc hs⟩
theorem Goes.retB {pc : Nat} {Ls : Array Slot} {z : Int32} {rest : List Value} (X : Stand p l e R s m args below meth c T locs cells slots) (hx : p.tables.exec = Jvm.exec) (hlk : meth.locks = false) (hret : meth.sig.returnType = some .boolean) (hd : decode c.code pc = .ok (.ireturn, 1)) (hc : cells ≤ C) (hs : slots ≤ S) (hQ : Q (some (.int (nar .boolean z))) T.heap locs) : Goes p e s below Q C S (T.setTop (mkF m pc Ls (.int z :: rest))) :=
  Goes.leave X hlk (fun h => by rw [hret] at h; cases h) hQ hc hs fun fs hr => retN X hx (t := .boolean) hret (by simp) hd hr
theorem Goes.retC {pc : Nat} {Ls : Array Slot} {z : Int32} {rest : List Value} (X : Stand p l e R s m args below meth c T locs cells slots) (hx : p.tables.exec = Jvm.exec) (hlk : meth.locks = false) (hret : meth.sig.returnType = some .char) (hd : decode c.code pc = .ok (.ireturn, 1)) (hc : cells ≤ C) (hs : slots ≤ S) (hQ : Q (some (.int (nar .char z))) T.heap locs) : Goes p e s below Q C S (T.setTop (mkF m pc Ls (.int z :: rest))) :=
  Goes.leave X hlk (fun h => by rw [hret] at h; cases h) hQ hc hs fun fs hr => retN X hx (t := .char) hret (by simp) hd hr
theorem Goes.retY {pc : Nat} {Ls : Array Slot} {z : Int32} {rest : List Value} (X : Stand p l e R s m args below meth c T locs cells slots) (hx : p.tables.exec = Jvm.exec) (hlk : meth.locks = false) (hret : meth.sig.returnType = some .byte) (hd : decode c.code pc = .ok (.ireturn, 1)) (hc : cells ≤ C) (hs : slots ≤ S) (hQ : Q (some (.int (nar .byte z))) T.heap locs) : Goes p e s below Q C S (T.setTop (mkF m pc Ls (.int z :: rest))) :=
  Goes.leave X hlk (fun h => by rw [hret] at h; cases h) hQ hc hs fun fs hr => retN X hx (t := .byte) hret (by simp) hd hr
theorem Goes.retI {pc : Nat} {Ls : Array Slot} {z : Int32} {rest : List Value} (X : Stand p l e R s m args below meth c T locs cells slots) (hx : p.tables.exec = Jvm.exec) (hlk : meth.locks = false) (hret : meth.sig.returnType = some .int) (hd : decode c.code pc = .ok (.ireturn, 1)) (hc : cells ≤ C) (hs : slots ≤ S) (hQ : Q (some (.int z)) T.heap locs) : Goes p e s below Q C S (T.setTop (mkF m pc Ls (.int z :: rest))) :=
  Goes.leave X hlk (fun h => by rw [hret] at h; cases h) hQ hc hs fun fs hr => retOut X hx hret rfl (Or.inl ⟨rfl, Or.inl rfl, _, rfl⟩) hd hr
theorem Goes.retJ {pc : Nat} {Ls : Array Slot} {z : Int64} {rest : List Value} (X : Stand p l e R s m args below meth c T locs cells slots) (hx : p.tables.exec = Jvm.exec) (hlk : meth.locks = false) (hret : meth.sig.returnType = some .long) (hd : decode c.code pc = .ok (.lreturn, 1)) (hc : cells ≤ C) (hs : slots ≤ S) (hQ : Q (some (.long z)) T.heap locs) : Goes p e s below Q C S (T.setTop (mkF m pc Ls (.long z :: rest))) :=
  Goes.leave X hlk (fun h => by rw [hret] at h; cases h) hQ hc hs fun fs hr => retOut X hx hret rfl (Or.inr (Or.inl ⟨rfl, rfl, _, rfl⟩)) hd hr
theorem ownNarrow {t : FieldType} {v : Value} (hv : v.isRef = true) (ht : t.isReference = true) : narrow t v = v := by
  rcases ref_cases hv with rfl | ⟨a, rfl⟩ <;> cases t <;> first | rfl | cases ht
theorem Goes.retA {pc : Nat} {Ls : Array Slot} {v : Value} {t : FieldType} {rest : List Value} (X : Stand p l e R s m args below meth c T locs cells slots) (hx : p.tables.exec = Jvm.exec) (hlk : meth.locks = false) (hret : meth.sig.returnType = some t) (ht : t.isReference = true) (hv : v.isRef = true) (hd : decode c.code pc = .ok (.areturn, 1)) (hc : cells ≤ C) (hs : slots ≤ S) (hQ : Q (some v) T.heap locs) : Goes p e s below Q C S (T.setTop (mkF m pc Ls (v :: rest))) :=
  Goes.leave X hlk (fun h => by rw [hret] at h; cases h) hQ hc hs fun fs hr => retOut X hx hret (ownNarrow hv ht) (Or.inr (Or.inr (Or.inr (Or.inr ⟨rfl, ht, hv⟩)))) hd hr
theorem Goes.retV {pc : Nat} {Ls : Array Slot} (X : Stand p l e R s m args below meth c T locs cells slots) (hx : p.tables.exec = Jvm.exec) (hlk : meth.locks = false) (hret : meth.sig.returnType = none) (hd : decode c.code pc = .ok (.return_, 1)) (hc : cells ≤ C) (hs : slots ≤ S) (hQ : Q none T.heap locs) : Goes p e s below Q C S (T.setTop (mkF m pc Ls [])) :=
  Goes.leave X hlk (fun _ => rfl) hQ hc hs fun fs hr => X.returnOut hx hret hd hr
/-- a body's contract: with these arguments over this heap it returns, and Q holds -/
def Pays (l : Launch) (Z : State) (y : MethodName) (bytes : ByteArray) (maxL : Nat) (ret : Option FieldType) (ws : List Jvm.Cond) (rm : Room) (as' : Array Value) (h : Heap) (Q : Option Value → Heap → List Loc → Prop) : Prop :=
  MetFree l y (head1 (Jvm.Cond.code y bytes maxL ret :: ws) rm) (fun a U => a = as' ∧ Z.Warmed39 U.vm ∧ U.heap = h) (fun _ _ _ _ _ => True) (fun _ U o U' => ∃ v L, o = .returned v ∧ Q v U'.heap L ∧ FrameEnd U o U' L rm.cells rm.slots)
theorem Pays.of {y : MethodName} {bytes : ByteArray} {maxL : Nat} {ret : Option FieldType} {ws : List Jvm.Cond} {rm : Room} {as' : Array Value} (hpl : plainFor y = true)
    (body : ∀ (p : Program) (e : Env) (s : State) (m : MethodId) (below : List Frame) (meth : Method) (c : Code) (s₁ : State), p.tables.exec = Jvm.exec → c.code = bytes → c.maxLocals = maxL → s.vm.findClass y.cls = some m.cls → meth.name = y.name → meth.sig.returnType = ret → meth.locks = false → Z.Warmed39 s.vm → s₁.heap = h → Stand p l e rm s m as' below meth c s₁ [] 0 0 → Goes p e s below Q rm.cells rm.slots (s₁.setTop (entryFrame m as' maxL))) :
    Pays l Z y bytes maxL ret ws rm as' h Q := by
  refine MetFree.of_bodySF hpl hisR ?_
  intro p e s m args below meth c s₁ Bd hml hP hK
  obtain ⟨rfl, hZ, hh⟩ := hP
  obtain ⟨s₂, o, h1, h2, h3, h4⟩ := body p e s m below meth c s₁ Bd.exec Bd.bytes hml (findClass_of_methodNamed Bd.named) (name_of_methodNamed Bd.named Bd.method).1 Bd.returns Bd.notSynchronized hZ (by rw [← hh, Bd.state]; rfl) (Stand.of_body Bd)
  exact ⟨s₂, o, h1, h2, h3, h4⟩
theorem callStatic (X : Stand p l e R s m args below meth c T locs cells slots) (hx : p.tables.exec = Jvm.exec) (hZ : Z.Warmed39 s.vm) {own : String} {index : Nat} {y : MethodName} {bytes : ByteArray} {maxL W : Nat} {ret : Option FieldType} {rm : Room} {as' : Array Value}
    (hown : s.vm.findClass own = some m.cls) (w1 : (Jvm.Cond.methodLink own index y).before a0 Z = true) (w2 : (Jvm.Cond.static y).before a0 Z = true) (w3 : (Jvm.Cond.initialized y.cls).before a0 Z = true) (w4 : (Jvm.Cond.code y bytes maxL ret).before a0 Z = true) (hy : y.cls ≠ "java/lang/invoke/MethodHandle" ∧ y.cls ≠ "java/lang/invoke/VarHandle")
    (M : Pays l Z y bytes maxL ret [] rm as' h Q) (hf : rm.frames + 1 ≤ R.frames) (hl : W + (maxL + 11) + rm.locals ≤ R.locals) (hc : cells + rm.cells ≤ R.cells) (hs : slots + rm.slots ≤ R.slots) (eT : T.heap = h)
    {g : JFrame} (hg : g.method = m) (hsize : g.locals.size = c.maxLocals) {argsL rest : List Value} (hlen : ∀ sig, parseMethodDescriptor y.desc = some sig → argsL.length = sig.parameters.length) (hstack : g.stack = argsL.reverse ++ rest) (has : argsL.toArray = as') (hW : 2 * g.monitorRoom + (rest.map fun v => v.category).sum ≤ W) (hdg : decode c.code g.pc = .ok (.invokestatic index, 3)) :
    ∃ (v : Option Value) (T' : State) (L : List Loc), Stand p l e R s m args below meth c T' (locs ++ L) (cells + rm.cells) (slots + rm.slots) ∧ Q v T'.heap L ∧ ∀ t, Steps p.tables e below (T'.setTop { g with pc := g.pc + 3, stack := v.toList ++ rest }) t → Steps p.tables e below (T.setTop g) t := by
  obtain ⟨v, vm1, ⟨T', L', k', n'⟩, -, X', ⟨Lc, hQ, l1, y1, z1⟩, st⟩ := Jvm.LawKit.callS X hx (y := y) hown (mvT hZ w1) (mvT hZ w2) (mvT hZ w3) (mvT hZ w4) hy (backOf (W := W) M hZ w4 w3 hf hl) hg hsize (argsL := argsL) (rest := rest) hlen hstack hW hdg (fun _ _ => ⟨has, eT, hc, hs⟩)
  dsimp only [Pt.U, Pt.locs, Pt.cells, Pt.slots] at X' l1 y1 z1 st hQ
  subst l1 y1 z1
  exact ⟨v, T', Lc, X', hQ, st⟩
theorem callVirtual (X : Stand p l e R s m args below meth c T locs cells slots) (hx : p.tables.exec = Jvm.exec) (hZ : Z.Warmed39 s.vm) {own K : String} {index : Nat} {y z : MethodName} {bytes : ByteArray} {maxL W : Nat} {ret : Option FieldType} {rm : Room} {as' : Array Value}
    (hown : s.vm.findClass own = some m.cls) (w1 : (Jvm.Cond.methodLink own index y).before a0 Z = true) (w2 : (Jvm.Cond.declares y).before a0 Z = true) (nf : NotFace s y) (w3 : (Jvm.Cond.selects K y z).before a0 Z = true) (w5 : (Jvm.Cond.instanceMethod z).before a0 Z = true) (w6 : (Jvm.Cond.initialized z.cls).before a0 Z = true) (w4 : (Jvm.Cond.code z bytes maxL ret).before a0 Z = true) (hy : y.cls ≠ "java/lang/invoke/MethodHandle" ∧ y.cls ≠ "java/lang/invoke/VarHandle")
    (M : Pays l Z z bytes maxL ret [] rm as' h Q) (hf : rm.frames + 1 ≤ R.frames) (hl : W + (maxL + 11) + rm.locals ≤ R.locals) (hc : cells + rm.cells ≤ R.cells) (hs : slots + rm.slots ≤ R.slots) (eT : T.heap = h) {b : Addr} (E : Exa Z h b K)
    {g : JFrame} (hg : g.method = m) (hsize : g.locals.size = c.maxLocals) {argsL rest : List Value} (hlen : ∀ sig, parseMethodDescriptor y.desc = some sig → argsL.length = sig.parameters.length) (hstack : g.stack = argsL.reverse ++ .ref b :: rest) (has : (.ref b :: argsL).toArray = as') (hW : 2 * g.monitorRoom + (rest.map fun v => v.category).sum ≤ W) (hdg : decode c.code g.pc = .ok (.invokevirtual index, 3)) :
    ∃ (v : Option Value) (T' : State) (L : List Loc), Stand p l e R s m args below meth c T' (locs ++ L) (cells + rm.cells) (slots + rm.slots) ∧ Q v T'.heap L ∧ ∀ t, Steps p.tables e below (T'.setTop { g with pc := g.pc + 3, stack := v.toList ++ rest }) t → Steps p.tables e below (T.setTop g) t := by
  obtain ⟨cq, kq, qa, -, qc⟩ := isOf (T := T) hZ eT E
  obtain ⟨v, vm1, ⟨T', L', k', n'⟩, -, X', ⟨Lc, hQ, l1, y1, z1⟩, st⟩ := X.virtualBack hx (y := y) (z := z) hown (mvT hZ w1) (mvT hZ w2) nf (mvT hZ w3) (mvT hZ w5) hy (backOf (W := W) M hZ w4 w6 hf hl) qa qc hg hsize (Steps.refl _) (argsL := argsL) (rest := rest) hlen hstack hW hdg (fun _ _ => ⟨has, eT, hc, hs⟩)
  dsimp only [Pt.U, Pt.locs, Pt.cells, Pt.slots] at X' l1 y1 z1 st hQ
  subst l1 y1 z1
  exact ⟨v, T', Lc, X', hQ, fun t k => st.trans k⟩
theorem callInit (X : Stand p l e R s m args below meth c T locs cells slots) (hx : p.tables.exec = Jvm.exec) (hZ : Z.Warmed39 s.vm) {own : String} {index : Nat} {y : MethodName} {bytes : ByteArray} {maxL W : Nat} {rm : Room} {as' : Array Value}
    (hy1 : y.name = "<init>") (hown : s.vm.findClass own = some m.cls) (w1 : (Jvm.Cond.methodLink own index y).before a0 Z = true) (w5 : (Jvm.Cond.instanceMethod y).before a0 Z = true) (w6 : (Jvm.Cond.initialized y.cls).before a0 Z = true) (w4 : (Jvm.Cond.code y bytes maxL none).before a0 Z = true) (hy : y.cls ≠ "java/lang/invoke/MethodHandle" ∧ y.cls ≠ "java/lang/invoke/VarHandle")
    (M : Pays l Z y bytes maxL none [] rm as' h Q) (hf : rm.frames + 1 ≤ R.frames) (hl : W + (maxL + 11) + rm.locals ≤ R.locals) (hc : cells + rm.cells ≤ R.cells) (hs : slots + rm.slots ≤ R.slots) (eT : T.heap = h) {b : Addr}
    {g : JFrame} (hg : g.method = m) (hsize : g.locals.size = c.maxLocals) {argsL rest : List Value} (hlen : ∀ sig, parseMethodDescriptor y.desc = some sig → argsL.length = sig.parameters.length) (hstack : g.stack = argsL.reverse ++ .ref b :: rest) (has : (.ref b :: argsL).toArray = as') (hW : 2 * g.monitorRoom + (rest.map fun v => v.category).sum ≤ W) (hdg : decode c.code g.pc = .ok (.invokespecial index, 3)) :
    ∃ (v : Option Value) (T' : State) (L : List Loc), Stand p l e R s m args below meth c T' (locs ++ L) (cells + rm.cells) (slots + rm.slots) ∧ Q v T'.heap L ∧ ∀ t, Steps p.tables e below (T'.setTop { g with pc := g.pc + 3, stack := v.toList ++ rest }) t → Steps p.tables e below (T.setTop g) t := by
  obtain ⟨v, vm1, ⟨T', L', k', n'⟩, -, X', ⟨Lc, hQ, l1, y1, z1⟩, st⟩ := X.specialBack hx (y := y) hy1 hown (mvT hZ w1) (mvT hZ w5) (mvT hZ w4) hy (backOf (W := W) M hZ w4 w6 hf hl) hg hsize (Steps.refl _) (a := b) (argsL := argsL) (rest := rest) hlen hstack hW hdg (fun _ _ => ⟨has, eT, hc, hs⟩)
  dsimp only [Pt.U, Pt.locs, Pt.cells, Pt.slots] at X' l1 y1 z1 st hQ
  subst l1 y1 z1
  exact ⟨v, T', Lc, X', hQ, fun t k => st.trans k⟩
theorem callPrivate (X : Stand p l e R s m args below meth c T locs cells slots) (hx : p.tables.exec = Jvm.exec) (hZ : Z.Warmed39 s.vm) {own K : String} {index kk : Nat} {y : MethodName} {bytes : ByteArray} {maxL W : Nat} {ret : Option FieldType} {rm : Room} {as' : Array Value}
    (hown : s.vm.findClass own = some m.cls) (w1 : (Jvm.Cond.methodLink own index y).before a0 Z = true) (w5 : (Jvm.Cond.instanceMethod y).before a0 Z = true) (wp : (Jvm.Cond.privateMethod y).before a0 Z = true) (wi : (Jvm.Cond.instantiable y.cls kk).before a0 Z = true) (w6 : (Jvm.Cond.initialized y.cls).before a0 Z = true) (w4 : (Jvm.Cond.code y bytes maxL ret).before a0 Z = true) (hy : y.cls ≠ "java/lang/invoke/MethodHandle" ∧ y.cls ≠ "java/lang/invoke/VarHandle")
    (M : Pays l Z y bytes maxL ret [] rm as' h Q) (hf : rm.frames + 1 ≤ R.frames) (hl : W + (maxL + 11) + rm.locals ≤ R.locals) (hc : cells + rm.cells ≤ R.cells) (hs : slots + rm.slots ≤ R.slots) (eT : T.heap = h) {b : Addr} (E : Exa Z h b K)
    {g : JFrame} (hg : g.method = m) (hsize : g.locals.size = c.maxLocals) {argsL rest : List Value} (hlen : ∀ sig, parseMethodDescriptor y.desc = some sig → argsL.length = sig.parameters.length) (hstack : g.stack = argsL.reverse ++ .ref b :: rest) (has : (.ref b :: argsL).toArray = as') (hW : 2 * g.monitorRoom + (rest.map fun v => v.category).sum ≤ W) (hdg : decode c.code g.pc = .ok (.invokevirtual index, 3)) :
    ∃ (v : Option Value) (T' : State) (L : List Loc), Stand p l e R s m args below meth c T' (locs ++ L) (cells + rm.cells) (slots + rm.slots) ∧ Q v T'.heap L ∧ ∀ t, Steps p.tables e below (T'.setTop { g with pc := g.pc + 3, stack := v.toList ++ rest }) t → Steps p.tables e below (T.setTop g) t := by
  obtain ⟨cc, kc, i1, i2, -, i4, -⟩ := Cond.instantiable_spec (mvT (args := args) hZ wi)
  have i5 : kc.isInterface = false := by cases hq : kc.isInterface <;> simp_all
  have hpr := Cond.privateMethod_at (mvP (args := #[]) hZ wp)
  obtain ⟨cell, c1, c2⟩ := E.cell
  obtain ⟨v, vm1, ⟨T', L', k', n'⟩, -, X', ⟨Lc, hQ, l1, y1, z1⟩, st⟩ := X.privateBack hx (y := y) hown (mvT hZ w1) (mvT hZ w5) (selects_self_of_private i1 i2 i5 hpr (mvT hZ w5) hy) hpr (mvT hZ w4) hy (backOf (W := W) M hZ w4 w6 hf hl) hg hsize (Steps.refl _) (a := b) (cell := cell) (by rw [eT]; exact c1) c2 (argsL := argsL) (rest := rest) hlen hstack hW hdg (fun _ _ => ⟨has, eT, hc, hs⟩)
  dsimp only [Pt.U, Pt.locs, Pt.cells, Pt.slots] at X' l1 y1 z1 st hQ
  subst l1 y1 z1
  exact ⟨v, T', Lc, X', hQ, fun t k => st.trans k⟩
theorem callFace (X : Stand p l e R s m args below meth c T locs cells slots) (hx : p.tables.exec = Jvm.exec) (hZ : Z.Warmed39 s.vm) {own K : String} {index count : Nat} {y z : MethodName} {bytes : ByteArray} {maxL W : Nat} {ret : Option FieldType} {rm : Room} {as' : Array Value}
    (hown : s.vm.findClass own = some m.cls) (w1 : (Jvm.Cond.methodLink own index y).before a0 Z = true) (w2 : (Jvm.Cond.declares y).before a0 Z = true) (wf : (Jvm.Cond.interfaceMethod y.cls y.cls y.name y.desc).before args s = true) (w3 : (Jvm.Cond.selects K y z).before a0 Z = true) (w5 : (Jvm.Cond.instanceMethod z).before a0 Z = true) (wp : (Jvm.Cond.publicMethod z).before a0 Z = true) (wu : (Jvm.Cond.unhidden K y.name y.desc).before a0 Z = true) (wc : (Jvm.Cond.castable K y.cls).before a0 Z = true) (w6 : (Jvm.Cond.initialized z.cls).before a0 Z = true) (w4 : (Jvm.Cond.code z bytes maxL ret).before a0 Z = true) (hy : y.cls ≠ "java/lang/invoke/MethodHandle" ∧ y.cls ≠ "java/lang/invoke/VarHandle")
    (M : Pays l Z z bytes maxL ret [] rm as' h Q) (hf : rm.frames + 1 ≤ R.frames) (hl : W + (maxL + 11) + rm.locals ≤ R.locals) (hc : cells + rm.cells ≤ R.cells) (hs : slots + rm.slots ≤ R.slots) (eT : T.heap = h) {b : Addr} (E : Exa Z h b K)
    {g : JFrame} (hg : g.method = m) (hsize : g.locals.size = c.maxLocals) {argsL rest : List Value} (hlen : ∀ sig, parseMethodDescriptor y.desc = some sig → argsL.length = sig.parameters.length) (hstack : g.stack = argsL.reverse ++ .ref b :: rest) (has : (.ref b :: argsL).toArray = as') (hW : 2 * g.monitorRoom + (rest.map fun v => v.category).sum ≤ W) (hdg : decode c.code g.pc = .ok (.invokeinterface index count, 5)) :
    ∃ (v : Option Value) (T' : State) (L : List Loc), Stand p l e R s m args below meth c T' (locs ++ L) (cells + rm.cells) (slots + rm.slots) ∧ Q v T'.heap L ∧ ∀ t, Steps p.tables e below (T'.setTop { g with pc := g.pc + 5, stack := v.toList ++ rest }) t → Steps p.tables e below (T.setTop g) t := by
  obtain ⟨cq, kq, qa, qb, qc⟩ := isOf (T := T) hZ eT E
  obtain ⟨v, vm1, ⟨T', L', k', n'⟩, -, X', ⟨Lc, hQ, l1, y1, z1⟩, st⟩ := X.interfaceBack hx (xi := y) (y := z) hown (mvT hZ w1) (mvT hZ w2) wf (mvT hZ w3) (mvT hZ w5) (mvT hZ wp) (mvT hZ wu) (mvT hZ wc) hy (backOf (W := W) M hZ w4 w6 hf hl) qa qb qc hg hsize (Steps.refl _) (argsL := argsL) (rest := rest) hlen hstack hW hdg (fun _ _ => ⟨has, eT, hc, hs⟩)
  dsimp only [Pt.U, Pt.locs, Pt.cells, Pt.slots] at X' l1 y1 z1 st hQ
  subst l1 y1 z1
  exact ⟨v, T', Lc, X', hQ, fun t k => st.trans k⟩
theorem castV (X : Stand p l e R s m args below meth c T locs cells slots) (hx : p.tables.exec = Jvm.exec) (hZ : Z.Warmed39 s.vm) {own K : String} {index : Nat} (hown : s.vm.findClass own = some m.cls) (w : (Jvm.Cond.classLink own index K).before a0 Z = true) (eT : T.heap = h) {v : Value} (F : v = .null ∨ ∃ a, v = .ref a ∧ Ins Z h a K true)
    {g : JFrame} (hg : g.method = m) {rest : List Value} (hs : g.stack = v :: rest) (hd : decode c.code g.pc = .ok (.checkcast index, 3)) : ∃ T', Stand p l e R s m args below meth c T' locs cells slots ∧ T'.heap = h ∧ ∀ target, Steps p.tables e below (T'.setTop { g with pc := g.pc + 3 }) target → Steps p.tables e below (T.setTop g) target := by
  rcases F with rfl | ⟨a, rfl, I⟩
  · exact ⟨T, X, eT, fun t k => X.checkcastNull hx (g := g) hg hs hd t k⟩
  · exact castY X hx hZ hown w eT I hg hs hd
theorem moreRoom {cells' slots' : Nat} (X : Stand p l e R s m args below meth c T locs cells slots) (h1 : cells ≤ cells') (h2 : slots ≤ slots') : Stand p l e R s m args below meth c T locs cells' slots' :=
  { X with same := X.same.mono h1 h2 }
theorem wdOf {ts : List Jvm.Cond} (hw : ∀ d ∈ ts, d.before a0 Z = true) {d : Jvm.Cond} (k : Nat) (hk : ts[k]? = some d) : d.before a0 Z = true := hw _ (List.mem_of_getElem? hk)
end Own
end Jvm.RoadKit
namespace Jvm.RoadKit
open Sem ClassFile Op Lib Jvm.Stand Jvm.Free Jvm.LawKit
section OwnWords
variable {args : Array Value} {first s : State} {o : Option Outcome} {idx : List Nat} {t : Term}
theorem eqInt_v {k : Int32} (h : (Jvm.Cond.eq t (.int k)).value args first o s idx = some true) : t.eval args first o idx s = some (.int k) := by
  simp only [Jvm.Cond.value, Term.eval] at h
  cases ht : t.eval args first o idx s with
  | none => simp [ht] at h
  | some x => cases x <;> simp [ht] at h ⊢; exact h
theorem ownFits {ty : FieldType} {v : Value} (hv : v.isRef = true) (ht : ty.isReference = true) : fits ty v = true := by
  rcases ref_cases hv with rfl | ⟨a, rfl⟩ <;> cases ty <;> first | rfl | cases ht
theorem Sta.keepN {Z : State} {h h' : Heap} {C n d : String} {v : Value} {ws : List Addr} (F : Sta Z h C n d v) (K : Keep h h' ws) (hn : ∀ a ∈ ws, ∃ c : Cell, h[a]? = some c ∧ ∀ q, c.vm ≠ .statics q) : Sta Z h' C n d v := by
  obtain ⟨cf, i, k, f, st, cell, h1, h2, h3, h4, h5, h6, h7⟩ := F
  refine ⟨cf, i, k, f, st, cell, h1, h2, h3, h4, K.2.1 _ _ h5 fun hm => ?_, h6, h7⟩
  obtain ⟨c, g1, g2⟩ := hn st hm
  cases h5.symm.trans g1
  cases hq : cell.vm <;> first | (rw [hq] at h6; exact Bool.noConfusion h6) | exact g2 _ hq
theorem NSr {Z : State} {a0 : Array Value} {O K : String} {n : Nat} (w : (Jvm.Cond.noSuperclass O).before a0 Z = true) (wi : (Jvm.Cond.instantiable K n).before a0 Z = true) (hn : O ≠ K) : NS Z O K := by
  obtain ⟨c, k, h1, h2, h3, -, -⟩ := Cond.noSuperclass_spec w
  obtain ⟨t, kt, g1, -⟩ := Cond.instantiable_spec wi
  refine ⟨c, t, h1, g1, fun fuel => ?_⟩
  cases fuel with
  | zero => rfl
  | succ f => simp [Vm.isSubclassAux, ids_ne h1 g1 hn, h2, h3]
theorem NSno {Z : State} {a0 : Array Value} {C S K : String} {n : Nat} (w : (Jvm.Cond.superclass C S).before a0 Z = true) (wi : (Jvm.Cond.instantiable K n).before a0 Z = true) (q : NS Z C K) (hn : C ≠ K) : ∃ c t, Z.vm.findClass C = some c ∧ Z.vm.findClass K = some t ∧ Z.vm.assignable c t = false := by
  obtain ⟨c, t, h0, g0, n3⟩ := q
  obtain ⟨_, k, _, -, h2, -, -, h5, -, -⟩ := Cond.superclass_spec h0 w
  obtain ⟨t', k', g1, g2, g5, g7, -⟩ := Cond.instantiable_spec wi
  cases g0.symm.trans g1
  have g8 : k'.isInterface = false := by cases hq : k'.isInterface <;> simp_all
  refine ⟨c, t, h0, g0, ?_⟩
  show Z.vm.assignableAux (255 + 1) c t = false
  simp [Vm.assignableAux, ids_ne h0 g0 hn, h2, g2, h5, g5, g8, Vm.isSubclass, n3]
theorem Ext.of_keep {h h' : Heap} (K : Keep h h' []) : Ext h h' := ⟨K.1, fun a c q => K.2.1 a c q nin0⟩
theorem Keep.of_ext {h h' : Heap} (E : Ext h h') (ws : List Addr) : Keep h h' ws := (Keep.refl h ws).ext E
theorem ofInt {x : Int32} (n : Int32) (h : x.toInt = n.toInt) : x = n := Int32.toInt_inj.mp h
end OwnWords
end Jvm.RoadKit
namespace Jvm.RoadKit
open Sem ClassFile Op Lib Jvm.Stand Jvm.Free Jvm.LawKit
section OwnCold
variable {p : Program} {l : Launch} {e : Env} {R : Room} {s : State} {m : MethodId} {args : Array Value} {below : List Frame} {meth : Method} {c : Code} {T U U' : State} {locs : List Loc} {cells slots : Nat} {Z : State} {a0 : Array Value} {h h' : Heap} {Q : Option Value → State → List Loc → Prop} {C S : Nat} {vm0 vm1 : Vm}
/-- as Goes, but the body may have interned a String constant -/
def GoesW (p : Program) (e : Env) (s : State) (below : List Frame) (Q : Option Value → State → List Loc → Prop) (C S : Nat) (U : State) : Prop :=
  ∃ s₂ o, Steps p.tables e below U s₂ ∧ s₂.status = .running ∧ Ended s₂ below o ∧ ∃ v L, o = .returned v ∧ Q v s₂ L ∧ ReturnedEndW s o s₂ L C S
theorem GoesW.go (st : ∀ t, Steps p.tables e below U' t → Steps p.tables e below U t) (k : GoesW p e s below Q C S U') : GoesW p e s below Q C S U := by
  obtain ⟨s₂, o, h1, h2⟩ := k
  exact ⟨s₂, o, st _ h1, h2⟩
theorem GoesW.leave {n : Nat} {v : Option Value} (X : Stand p l e R (s.setVm vm0) m args below meth c T locs cells slots) (hS : s.Since vm0 n) (hn : n ≤ T.heap.size) (hlk : meth.locks = false) (hv : meth.sig.returnType = none → v = none) (hQ : ∀ V : State, V.heap = T.heap → V.vm = T.vm → Q v V locs) (hc : cells ≤ C) (hs : slots ≤ S)
    (st : ∀ fs, (∀ (f : JFrame) (acts : List Action), f.method = m → f.locked = none → f.entered = [] → (doReturn e (T.setTop f) acts v).1 = T.setFrames fs) → Steps p.tables e below U (T.setFrames fs)) : GoesW p e s below Q C S U := by
  obtain ⟨fs, hr, hrun, hended, h1, h2, h3, h4⟩ := X.leaveW hS hn (v := v) hv hlk
  exact ⟨_, _, st fs hr, hrun, hended, _, _, rfl, hQ _ rfl rfl, h1, h2, h3, h4.mono hc hs⟩
theorem GoesW.retA {n pc : Nat} {Ls : Array Slot} {v : Value} {t : FieldType} {rest : List Value} (X : Stand p l e R (s.setVm vm0) m args below meth c T locs cells slots) (hx : p.tables.exec = Jvm.exec) (hS : s.Since vm0 n) (hn : n ≤ T.heap.size) (hlk : meth.locks = false) (hret : meth.sig.returnType = some t) (ht : t.isReference = true) (hv : v.isRef = true) (hd : decode c.code pc = .ok (.areturn, 1)) (hc : cells ≤ C) (hs : slots ≤ S) (hQ : ∀ V : State, V.heap = T.heap → V.vm = T.vm → Q (some v) V locs) : GoesW p e s below Q C S (T.setTop (mkF m pc Ls (v :: rest))) :=
  GoesW.leave X hS hn hlk (fun h => by rw [hret] at h; cases h) hQ hc hs fun fs hr => retOut X hx hret (ownNarrow hv ht) (Or.inr (Or.inr (Or.inr (Or.inr ⟨rfl, ht, hv⟩)))) hd hr
theorem GoesW.retV {n pc : Nat} {Ls : Array Slot} (X : Stand p l e R (s.setVm vm0) m args below meth c T locs cells slots) (hx : p.tables.exec = Jvm.exec) (hS : s.Since vm0 n) (hn : n ≤ T.heap.size) (hlk : meth.locks = false) (hret : meth.sig.returnType = none) (hd : decode c.code pc = .ok (.return_, 1)) (hc : cells ≤ C) (hs : slots ≤ S) (hQ : ∀ V : State, V.heap = T.heap → V.vm = T.vm → Q none V locs) : GoesW p e s below Q C S (T.setTop (mkF m pc Ls [])) :=
  GoesW.leave X hS hn hlk (fun _ => rfl) hQ hc hs fun fs hr => X.returnOut hx hret hd hr
theorem GoesW.retB {n pc : Nat} {Ls : Array Slot} {z : Int32} {rest : List Value} (X : Stand p l e R (s.setVm vm0) m args below meth c T locs cells slots) (hx : p.tables.exec = Jvm.exec) (hS : s.Since vm0 n) (hn : n ≤ T.heap.size) (hlk : meth.locks = false) (hret : meth.sig.returnType = some .boolean) (hd : decode c.code pc = .ok (.ireturn, 1)) (hc : cells ≤ C) (hs : slots ≤ S) (hQ : ∀ V : State, V.heap = T.heap → V.vm = T.vm → Q (some (.int (nar .boolean z))) V locs) : GoesW p e s below Q C S (T.setTop (mkF m pc Ls (.int z :: rest))) :=
  GoesW.leave X hS hn hlk (fun h => by rw [hret] at h; cases h) hQ hc hs fun fs hr => retN X hx (t := .boolean) hret (by simp) hd hr
/-- a contract of a body that may intern: LI is what is known of the tables and the heap at its start -/
def PaysW (l : Launch) (Z : State) (y : MethodName) (bytes : ByteArray) (maxL : Nat) (ret : Option FieldType) (ws : List Jvm.Cond) (rm : Room) (as' : Array Value) (h : Heap) (LI : Vm → Heap → Prop) (Q : Option Value → State → List Loc → Prop) : Prop :=
  MetFree l y (head1 (Jvm.Cond.code y bytes maxL ret :: ws) rm) (fun a U => a = as' ∧ Z.Warmed39 U.vm ∧ U.heap = h ∧ LI U.vm U.heap) (fun _ _ _ _ _ => True) (fun _ U o U' => ∃ v L, o = .returned v ∧ Q v U' L ∧ ReturnedEndW U o U' L rm.cells rm.slots)
theorem PaysW.of {LI : Vm → Heap → Prop} {y : MethodName} {bytes : ByteArray} {maxL : Nat} {ret : Option FieldType} {ws : List Jvm.Cond} {rm : Room} {as' : Array Value} (hpl : plainFor y = true)
    (body : ∀ (p : Program) (e : Env) (s : State) (m : MethodId) (below : List Frame) (meth : Method) (c : Code) (s₁ : State), p.tables.exec = Jvm.exec → c.code = bytes → c.maxLocals = maxL → (s.setVm s.vm).vm.findClass y.cls = some m.cls → meth.name = y.name → meth.sig.returnType = ret → meth.locks = false → Z.Warmed39 (s.setVm s.vm).vm → s₁.heap = h → s.heap = h → LI (s.setVm s.vm).vm h → s.Since s.vm 0 → Stand p l e rm (s.setVm s.vm) m as' below meth c s₁ [] 0 0 → GoesW p e s below Q rm.cells rm.slots (s₁.setTop (entryFrame m as' maxL))) :
    PaysW l Z y bytes maxL ret ws rm as' h LI Q := by
  refine MetFree.of_bodySF hpl hisR ?_
  intro p e s m args below meth c s₁ Bd hml hP hK
  obtain ⟨rfl, hZ, hh, hLI⟩ := hP
  obtain ⟨s₂, o, h1, h2, h3, h4⟩ := body p e s m below meth c s₁ Bd.exec Bd.bytes hml (findClass_of_methodNamed Bd.named) (name_of_methodNamed Bd.named Bd.method).1 Bd.returns Bd.notSynchronized hZ (by rw [← hh, Bd.state]; rfl) hh (hh ▸ hLI) ((State.WarmedH.refl s).since 0) (Stand.of_body Bd)
  exact ⟨s₂, o, h1, h2, h3, h4⟩
theorem backW {LI : Vm → Heap → Prop} {y : MethodName} {bytes : ByteArray} {maxL : Nat} {ret : Option FieldType} {rm : Room} {len W : Nat} {as' : Array Value} (hM : PaysW l Z y bytes maxL ret [] rm as' h LI Q) (hZ : Z.Warmed39 s.vm) (wc : (Jvm.Cond.code y bytes maxL ret).before a0 Z = true) (wz : (Jvm.Cond.initialized y.cls).before a0 Z = true) (hf : rm.frames + 1 ≤ R.frames) (hl : W + (maxL + 11) + rm.locals ≤ R.locals) :
    BackS l R p e below s args y len W (fun A a => a = as' ∧ A.U.heap = h ∧ LI A.U.vm A.U.heap ∧ A.cells + rm.cells ≤ R.cells ∧ A.slots + rm.slots ≤ R.slots)
      (fun A _ v B => ∃ (L : List Loc) (V : State), V.heap = B.U.heap ∧ V.vm = B.U.vm ∧ Q v V L ∧ B.locs = A.locs ++ L ∧ B.cells = A.cells + rm.cells ∧ B.slots = A.slots + rm.slots) :=
  BackS.of_freeW (bytes := bytes) (maxL := maxL) (ret := ret) (E := fun _ _ o t L k n => k = rm.cells ∧ n = rm.slots ∧ ∃ v, o = .returned v ∧ Q v t L) hM hf hl
    (fun m meth c A a Y hp => have hU : Z.Warmed39 A.U.vm := wtrans hZ Y.warmed
      ⟨by show (Jvm.Cond.and _ .tt).before a A.U = true; rw [Cond.before_and, mv hU wc]; rfl, mv hU wc, mv hU wz, hp.2.2.2.1, hp.2.2.2.2⟩)
    (fun m meth c A a g mk Y hp => ⟨hp.1, wtrans hZ Y.warmed, hp.2.1, hp.2.2.1⟩) (fun _ _ _ _ _ _ _ _ _ => trivial)
    (fun _ _ _ _ ⟨v, L, h1, h2, h3⟩ => ⟨L, _, _, h3, rfl, rfl, v, h1, h2⟩)
    (fun m meth c A a g mk v t L k n Y hp _ _ ⟨e1, e2, v', e3, e4⟩ => by cases e3; subst e1 e2; exact ⟨L, t, rfl, rfl, e4, rfl, rfl, rfl⟩)
theorem callStaticW {LI : Vm → Heap → Prop} (X : Stand p l e R (s.setVm vm0) m args below meth c T locs cells slots) (hx : p.tables.exec = Jvm.exec) (hZ : Z.Warmed39 (s.setVm vm0).vm) {own : String} {index : Nat} {y : MethodName} {bytes : ByteArray} {maxL W k0 : Nat} {ret : Option FieldType} {rm : Room} {as' : Array Value}
    (hown : (s.setVm vm0).vm.findClass own = some m.cls) (w1 : (Jvm.Cond.methodLink own index y).before a0 Z = true) (w2 : (Jvm.Cond.static y).before a0 Z = true) (w3 : (Jvm.Cond.initialized y.cls).before a0 Z = true) (w4 : (Jvm.Cond.code y bytes maxL ret).before a0 Z = true) (hy : y.cls ≠ "java/lang/invoke/MethodHandle" ∧ y.cls ≠ "java/lang/invoke/VarHandle")
    (M : PaysW l Z y bytes maxL ret [] rm as' h LI Q) (hf : rm.frames + 1 ≤ R.frames) (hl : W + (maxL + 11) + rm.locals ≤ R.locals) (hc : cells + rm.cells ≤ R.cells) (hs : slots + rm.slots ≤ R.slots) (eT : T.heap = h) (hLI : ∀ vm₁, (s.setVm vm0).WarmedH vm₁ → LI vm₁ h) (hS : s.Since vm0 k0) (hk : k0 ≤ h.size)
    {g : JFrame} (hg : g.method = m) (hsize : g.locals.size = c.maxLocals) {argsL rest : List Value} (hlen : ∀ sig, parseMethodDescriptor y.desc = some sig → argsL.length = sig.parameters.length) (hstack : g.stack = argsL.reverse ++ rest) (has : argsL.toArray = as') (hW : 2 * g.monitorRoom + (rest.map fun v => v.category).sum ≤ W) (hdg : decode c.code g.pc = .ok (.invokestatic index, 3)) :
    ∃ (v : Option Value) (T' V : State) (L : List Loc), Stand p l e R (s.setVm T'.vm) m args below meth c T' (locs ++ L) (cells + rm.cells) (slots + rm.slots) ∧ V.heap = T'.heap ∧ V.vm = T'.vm ∧ Q v V L ∧ s.Since T'.vm T'.heap.size ∧ Z.Warmed39 (s.setVm T'.vm).vm ∧ (s.setVm T'.vm).vm.findClass own = some m.cls ∧ ∀ t, Steps p.tables e below (T'.setTop { g with pc := g.pc + 3, stack := v.toList ++ rest }) t → Steps p.tables e below (T.setTop g) t := by
  obtain ⟨v, vm1, ⟨T', L', k', n'⟩, -, X', h2, hgr, ⟨Lc, V, v1, v2, hQ, l1, y1, z1⟩, st⟩ := callSS X hx (y := y) hown (mvT hZ w1) (mvT hZ w2) (mvT hZ w3) (mvT hZ w4) hy (backW (W := W) M hZ w4 w3 hf hl) hg hsize (argsL := argsL) (rest := rest) hlen hstack hW hdg (fun vm1 q => ⟨has, eT, by show LI vm1 T.heap; rw [eT]; exact hLI vm1 q, hc, hs⟩)
  dsimp only [Pt.U, Pt.locs, Pt.cells, Pt.slots] at X' l1 y1 z1 st hQ h2 hgr v1 v2
  subst l1 y1 z1
  obtain ⟨r1, r2, r3, r4⟩ := rebS (n1 := h.size) hS hk X' h2 (by rw [← eT]; exact hgr) hZ hown
  exact ⟨v, T', V, Lc, r1, v1, v2, hQ, r2, r3, r4, fun t k => st.trans k⟩
theorem callInitW {LI : Vm → Heap → Prop} (X : Stand p l e R (s.setVm vm0) m args below meth c T locs cells slots) (hx : p.tables.exec = Jvm.exec) (hZ : Z.Warmed39 (s.setVm vm0).vm) {own : String} {index : Nat} {y : MethodName} {bytes : ByteArray} {maxL W k0 : Nat} {rm : Room} {as' : Array Value}
    (hy1 : y.name = "<init>") (hown : (s.setVm vm0).vm.findClass own = some m.cls) (w1 : (Jvm.Cond.methodLink own index y).before a0 Z = true) (w5 : (Jvm.Cond.instanceMethod y).before a0 Z = true) (w6 : (Jvm.Cond.initialized y.cls).before a0 Z = true) (w4 : (Jvm.Cond.code y bytes maxL none).before a0 Z = true) (hy : y.cls ≠ "java/lang/invoke/MethodHandle" ∧ y.cls ≠ "java/lang/invoke/VarHandle")
    (M : PaysW l Z y bytes maxL none [] rm as' h LI Q) (hf : rm.frames + 1 ≤ R.frames) (hl : W + (maxL + 11) + rm.locals ≤ R.locals) (hc : cells + rm.cells ≤ R.cells) (hs : slots + rm.slots ≤ R.slots) (eT : T.heap = h) (hLI : ∀ vm₁, (s.setVm vm0).WarmedH vm₁ → LI vm₁ h) (hS : s.Since vm0 k0) (hk : k0 ≤ h.size) {b : Addr}
    {g : JFrame} (hg : g.method = m) (hsize : g.locals.size = c.maxLocals) {argsL rest : List Value} (hlen : ∀ sig, parseMethodDescriptor y.desc = some sig → argsL.length = sig.parameters.length) (hstack : g.stack = argsL.reverse ++ .ref b :: rest) (has : (.ref b :: argsL).toArray = as') (hW : 2 * g.monitorRoom + (rest.map fun v => v.category).sum ≤ W) (hdg : decode c.code g.pc = .ok (.invokespecial index, 3)) :
    ∃ (v : Option Value) (T' V : State) (L : List Loc), Stand p l e R (s.setVm T'.vm) m args below meth c T' (locs ++ L) (cells + rm.cells) (slots + rm.slots) ∧ V.heap = T'.heap ∧ V.vm = T'.vm ∧ Q v V L ∧ s.Since T'.vm T'.heap.size ∧ Z.Warmed39 (s.setVm T'.vm).vm ∧ (s.setVm T'.vm).vm.findClass own = some m.cls ∧ ∀ t, Steps p.tables e below (T'.setTop { g with pc := g.pc + 3, stack := v.toList ++ rest }) t → Steps p.tables e below (T.setTop g) t := by
  obtain ⟨v, vm1, ⟨T', L', k', n'⟩, -, X', h2, hgr, ⟨Lc, V, v1, v2, hQ, l1, y1, z1⟩, st⟩ := X.specialBackS hx (y := y) hy1 hown (mvT hZ w1) (mvT hZ w5) (mvT hZ w4) hy (backW (W := W) M hZ w4 w6 hf hl) hg hsize (Steps.refl _) (a := b) (argsL := argsL) (rest := rest) hlen hstack hW hdg (fun vm1 q => ⟨has, eT, by show LI vm1 T.heap; rw [eT]; exact hLI vm1 q, hc, hs⟩)
  dsimp only [Pt.U, Pt.locs, Pt.cells, Pt.slots] at X' l1 y1 z1 st hQ h2 hgr v1 v2
  subst l1 y1 z1
  obtain ⟨r1, r2, r3, r4⟩ := rebS (n1 := h.size) hS hk X' h2 (by rw [← eT]; exact hgr) hZ hown
  exact ⟨v, T', V, Lc, r1, v1, v2, hQ, r2, r3, r4, fun t k => st.trans k⟩
/-- nothing is known of the tables -/
def LIv (Z : State) (vm : Vm) (h : Heap) : Prop := True
theorem LIv.tt {Z : State} {vm : Vm} {h : Heap} : LIv Z vm h := trivial
theorem LIv.ext {vm0 : Vm} (F : LIv Z vm0 h) (E : Ext h h') : LIv Z vm0 h' := trivial
theorem LIv.warm (F : LIv Z vm0 h) (hW : (s.setVm vm0).WarmedH vm1) : LIv Z vm1 h := trivial
end OwnCold
end Jvm.RoadKit
namespace Jvm.RoadKit
open Sem Op Jvm.FP Jvm.FP.Core Jvm.Free.Fl
section OwnQuart
/-- a double that is the whole number i divided by four -/
def Qrt (i : Int) (a : UInt64) : Prop := ∃ s c q, val64 a = .fin s c q ∧ Whole i (.fin s c (q + 2))
theorem own_val4 : val64 4616189618054758400 = .fin false (2 ^ 52) (-50) := by decide +kernel
theorem own_shift (s t : Bool) (c d : Nat) (q r : Int) : order (.fin s c q) (.fin t d r) = order (.fin s c (q + 2)) (.fin t d (r + 2)) := by
  have h : min (q + 2) (r + 2) = min q r + 2 := by omega
  simp only [order, inUnits, h]
  rw [show q + 2 - (min q r + 2) = q - min q r by omega, show r + 2 - (min q r + 2) = r - min q r by omega]
theorem Qrt.cmp {i j : Int} {a b : UInt64} (ha : Qrt i a) (hb : Qrt j b) : FP.dcmp a b = some (compare i j) := by
  obtain ⟨s, c, q, e1, w1⟩ := ha
  obtain ⟨t, d, r, e2, w2⟩ := hb
  show order (val64 a) (val64 b) = _
  rw [e1, e2, own_shift]
  exact order_whole w1 w2
theorem Qrt.fin {i : Int} {a : UInt64} (ha : Qrt i a) : Fin64 a := by
  obtain ⟨s, c, q, e1, w1⟩ := ha
  exact fin64_core.mpr ⟨s, c, q, e1⟩
theorem Qrt.neg {i : Int} {a : UInt64} (ha : Qrt i a) : Qrt (-i) (FP.dneg a) := by
  obtain ⟨s, c, q, e1, w1⟩ := ha
  have h := whole_negate w1
  have e2 : val64 (FP.dneg a) = negate (val64 a) := FP.val64_dneg a
  rw [e1] at e2
  exact ⟨_, c, q, e2, h⟩
theorem Qrt.div (a : Int32) : Qrt a.toInt (FP.ddiv (FP.i2d a) 4616189618054758400) := by
  have hw : Whole a.toInt (val64 (Core.i2d a)) := i2d_int a
  have hf := val64_fits (Core.i2d a)
  have hv := val64_ddiv (Core.i2d a) 4616189618054758400
  rw [own_val4] at hv
  revert hw hf hv
  generalize val64 (Core.i2d a) = d
  intro hw hf hv
  cases d with
  | nan => exact hw.elim
  | inf => exact hw.elim
  | fin s c q =>
    simp only [quotient] at hv
    rw [if_neg (by decide)] at hv
    have hb : (s != false) = s := by cases s <;> rfl
    rw [hb] at hv
    by_cases h0 : c = 0
    · have hi := (whole_zero hw).mp h0
      subst h0
      refine ⟨s, 0, b64.qmin, ?_, ?_⟩
      · rw [show Core.ddiv (Core.i2d a) 4616189618054758400 = FP.ddiv (FP.i2d a) 4616189618054758400 from rfl] at hv
        rw [hv]; unfold roundRatio; rw [if_pos rfl]
      · rw [hi]; show signed s (0 * _) = 0 * _
        rw [Nat.zero_mul, Int.zero_mul]; exact signed_zero s
    · have hna := whole_natAbs hw
      obtain ⟨hc, hq1, hq2, hcan⟩ := hf
      have hi : a.toInt ≠ 0 := fun h => h0 ((whole_zero hw).mpr h)
      have hp : b64.p = 53 := rfl
      have hqm : b64.qmin = -1074 := by decide +kernel
      have hq : -53 < q := by
        apply Int.lt_of_not_ge
        intro hle
        have e1 : q.toNat = 0 := by omega
        rw [e1, Nat.pow_zero, Nat.mul_one] at hna
        have h2 : 2 ^ 53 ≤ 2 ^ (-q).toNat := Nat.pow_le_pow_right (by decide) (by omega)
        have h3 : 1 ≤ a.toInt.natAbs := by omega
        have h4 : 2 ^ 53 ≤ a.toInt.natAbs * 2 ^ (-q).toNat := Nat.le_trans h2 (Nat.le_mul_of_pos_left _ h3)
        rw [hp] at hc
        omega
      have hcan' : b64.tails ≤ c := by
        rcases hcan with h | h
        · rw [hqm] at h; omega
        · exact h
      have hd : Core.fits b64 (.fin s c (q - 2)) := ⟨hc, by rw [hqm]; omega, by omega, Or.inr hcan'⟩
      have hr : roundRatio b64 s c (2 ^ 52) (q - -50) = .fin s c (q - 2) := by
        refine roundRatio_exact good_b64 (by decide) hd ?_
        rw [show (q - -50 - (q - 2)).toNat = 52 by omega, show (q - 2 - (q - -50)).toNat = 0 by omega, Nat.pow_zero, Nat.mul_one]
      rw [hr] at hv
      exact ⟨s, c, q - 2, hv, by rw [show q - 2 + 2 = q by omega]; exact hw⟩
theorem own_absmax {x : UInt64} (h : Fin64 x) : ¬ (0 : Int32) < cmpValue (FP.dcmp (x &&& 0x7fffffffffffffff) 9218868437227405311) .g := by
  have h1 := (fin64_iff x).mp h
  have h2 : (x &&& 0x7fffffffffffffff).toNat = x.toNat % 9223372036854775808 := abs_toNat x
  have n1 : val64 (x &&& 0x7fffffffffffffff) ≠ .nan := by
    obtain ⟨s, c, q, e⟩ := fin64_core.mp (abs_fin h)
    rw [e]; intro h; cases h
  have n2 : val64 9218868437227405311 ≠ .nan := by decide +kernel
  rw [show FP.dcmp (x &&& 0x7fffffffffffffff) 9218868437227405311 = _ from dcmp_key n1 n2]
  have k2 : dkey 9218868437227405311 = 9218868437227405311 := by decide +kernel
  have k1 : dkey (x &&& 0x7fffffffffffffff) = ((x.toNat % 9223372036854775808 : Nat) : Int) := by
    unfold dkey
    rw [if_neg (by rw [h2]; omega), h2]
  rw [k1, k2]
  rcases hh : compare ((x.toNat % 9223372036854775808 : Nat) : Int) 9218868437227405311 with _ | _ | _
  · decide
  · decide
  · exfalso
    have := (compare_gt_iff _ _).mp hh
    omega
theorem Qrt.eq {a b : Int64} {x y : UInt64} (ha : Qrt a.toInt x) (hb : Qrt b.toInt y) (h : a = b) : cmpValue (FP.dcmp x y) .l = 0 := by
  rw [ha.cmp hb, h, compare_self_int]; rfl
theorem Qrt.ne {a b : Int64} {x y : UInt64} (ha : Qrt a.toInt x) (hb : Qrt b.toInt y) (h : ¬ a = b) : ¬ cmpValue (FP.dcmp x y) .l = 0 := by
  rw [ha.cmp hb]
  rcases hh : compare a.toInt b.toInt with _ | _ | _
  · decide
  · exact absurd (Int64.toInt_inj.mp ((compare_eq_iff _ _).mp hh)) h
  · decide
theorem own_l32 (a : Int32) : a.toInt64.toInt = a.toInt := by simp
theorem own_n32 (a : Int32) : (-a.toInt64).toInt = -a.toInt := by
  rw [Int64.toInt_neg, own_l32]
  have := a.toInt_lt
  have := a.le_toInt
  exact Int.bmod_eq_of_le (by omega) (by omega)
theorem Qrt.pos64 (a : Int32) : Qrt a.toInt64.toInt (FP.ddiv (FP.i2d a) 4616189618054758400) := by rw [own_l32]; exact Qrt.div a
theorem Qrt.neg64 (a : Int32) : Qrt (-a.toInt64).toInt (FP.dneg (FP.ddiv (FP.i2d a) 4616189618054758400)) := by rw [own_n32]; exact (Qrt.div a).neg
theorem Qrt.noNaN (a : Int32) : NoNaN64 (FP.ddiv (FP.i2d a) 4616189618054758400) := (Qrt.div a).fin.noNaN
end OwnQuart
end Jvm.RoadKit
namespace Jvm.Pilot.@@N@@
open Jvm Jvm.ClassFile Sem Op Lib Jvm.Free Jvm.Stand Jvm.LawKit Jvm.RoadKit Bundle Jvm.Pilot.@@N@@.Jvm.D
theorem pd_0 : parseMethodDescriptor "(D)D" = some ⟨[.double], some .double⟩ := by decide +kernel
theorem pd_1 : parseMethodDescriptor "(D)Z" = some ⟨[.double], some .boolean⟩ := by decide +kernel
theorem pd_2 : parseMethodDescriptor "([CI[BII)I" = some ⟨[(.array .char), .int, (.array .byte), .int, .int], some .int⟩ := by decide +kernel
theorem pd_3 : parseMethodDescriptor "([CII)[B" = some ⟨[(.array .char), .int, .int], some (.array .byte)⟩ := by decide +kernel
theorem pd_4 : parseMethodDescriptor "([BI)B" = some ⟨[(.array .byte), .int], some .byte⟩ := by decide +kernel
theorem pd_5 : parseMethodDescriptor "([CIILjava/lang/Void;)V" = some ⟨[(.array .char), .int, .int, (.object "java/lang/Void")], none⟩ := by decide +kernel
theorem pd_6 : parseMethodDescriptor "(Ljava/lang/Object;Ljava/lang/String;)Ljava/lang/Object;" = some ⟨[(.object "java/lang/Object"), (.object "java/lang/String")], some (.object "java/lang/Object")⟩ := by decide +kernel
theorem pd_7 : parseMethodDescriptor "(D)V" = some ⟨[.double], none⟩ := by decide +kernel
theorem pd_8 : parseMethodDescriptor "(Ljava/lang/Object;)Z" = some ⟨[(.object "java/lang/Object")], some .boolean⟩ := by decide +kernel
theorem pd_9 : parseMethodDescriptor "(Z)Lcom/example/thistle/thistle/language/BooleanValue;" = some ⟨[.boolean], some (.object "com/example/thistle/thistle/language/BooleanValue")⟩ := by decide +kernel
theorem pd_10 : parseMethodDescriptor "([C)V" = some ⟨[(.array .char)], none⟩ := by decide +kernel
theorem pd_11 : parseMethodDescriptor "(Ljava/lang/String;)V" = some ⟨[(.object "java/lang/String")], none⟩ := by decide +kernel
theorem own_ff (x : Int32) : ¬ (255 : Int32) < ((x &&& (255 : Int32)).toUInt32.toUInt16.toUInt32.toInt32) := by
  rw [i2c_mask, Int32.lt_iff_toInt_lt, c_mask x 255 8 (by decide) (by decide)]
  show ¬ (255 : Int) < _
  omega
theorem own_cs {args : Array Value} {s : State} {t : Term} {k : Int32} (e : t.eval args s none [] s = some (.int k)) (h : (Jvm.Cond.not (.eq t (.int 0))).value args s none s [] = some true) : ¬ k = 0 := fun q => by
  subst q
  have h1 := not_v h
  rw [eq_i e (Term.int_eval 0) rfl] at h1
  cases h1
theorem own_nff (x : Int32) : ¬ (255 : Int32) < nar .char ((x &&& (255 : Int32)).toUInt32.toUInt16.toUInt32.toInt32) := by
  have e : nar .char ((x &&& (255 : Int32)).toUInt32.toUInt16.toUInt32.toInt32) = (x &&& (255 : Int32)).toUInt32.toUInt16.toUInt32.toInt32 := by
    rw [i2c_mask]; exact i2c_mask x
  rw [e]; exact own_ff x
theorem d_rm_fin_0 : decode jdk_117_method_8_code 0 = .ok (.dload_n 0, 1) := by decide +kernel
theorem d_rm_fin_1 : decode jdk_117_method_8_code 1 = .ok (.invokestatic 38, 3) := by decide +kernel
theorem d_rm_fin_4 : decode jdk_117_method_8_code 4 = .ok (.ldc2_w 111, 3) := by decide +kernel
theorem d_rm_fin_7 : decode jdk_117_method_8_code 7 = .ok (.dcmp .g, 1) := by decide +kernel
theorem d_rm_fin_8 : decode jdk_117_method_8_code 8 = .ok (.ifCond .gt 7, 3) := by decide +kernel
theorem d_rm_fin_11 : decode jdk_117_method_8_code 11 = .ok (.iconst 1, 1) := by decide +kernel
theorem d_rm_fin_12 : decode jdk_117_method_8_code 12 = .ok (.goto 4, 3) := by decide +kernel
theorem d_rm_fin_16 : decode jdk_117_method_8_code 16 = .ok (.ireturn, 1) := by decide +kernel
set_option maxHeartbeats 4000000 in
theorem ef_rm_fin (m : MethodId) (x0 : UInt64)  : entryFrame m #[(.double x0)] 2 = mkF m 0 #[.val (.double x0), .second] [] := by first | (simp [entryFrame, mkF, argsToLocals, catR, catN, catI, catJ]; done) | rfl
set_option maxRecDepth 65536 in
set_option maxHeartbeats 40000000 in
theorem rm_fin (l : Launch) (Z : State) (a0 : Array Value) (hw : ∀ d ∈ tables_1, d.before a0 Z = true) (ws : List Jvm.Cond) (xd : UInt64) (h0 : Heap) (n0 : Nat) (Z0 : n0 ≤ h0.size) (hf : Jvm.Free.Fl.Fin64 xd) :
    Pays l Z (⟨"java/lang/Double", "isFinite", "(D)Z"⟩ : MethodName) jdk_117_method_8_code 2 (some .boolean) ws ({ frames := 1, cells := 0, slots := 0, locals := 13 } : Room) #[(.double xd)] h0 (fun v h L => v = some (.int 1) ∧ Fr n0 L ∧ h = h0) := by
  refine Pays.of (plainFor_of_name (by first | (simp [plainName, overriddenIn]; done) | decide +kernel)) ?_
  intro p e s m below meth c s₁ hx hby hml hown hnm hret hlk hZ e0 X0
  have N0 := Fr.nil n0
  have K0 : Keep h0 h0 [] := Keep.refl _ _
  refine Goes.go (U' := (s₁.setTop (mkF m 0 #[.val (.double xd), sS_] []))) (fun t kt => castTop (ef_rm_fin m xd) kt) ?_
  refine Goes.go (U' := (s₁.setTop (mkF m 1 #[.val (.double xd), sS_] [(.double xd)]))) (fun t kt => ?_) ?_
  · skip
    refine XS.dloadN X0.here hx rfl (hb hby d_rm_fin_0) rfl ?_
    exact kt
  obtain ⟨T_1, X_1, e_1, st_1⟩ := natS X0 hx hZ (y := (⟨"java/lang/Math", "abs", "(D)D"⟩ : MethodName)) (W := 0) hown (wdOf hw 14 rfl) (wdOf hw 15 rfl) (wdOf hw 16 rfl) (wdOf hw 17 rfl) (by decide) e0 (F := fun a' => a' = #[.double xd] ∧ Jvm.Free.Fl.NoNaN64 xd) (val' := .double (xd &&& 0x7fffffffffffffff)) (fun c4 => Jvm.Free.Fl.Abs.absD_pays xd c4 (by decide) (by decide)) (g := (mkF m 1 #[.val (.double xd), sS_] [(.double xd)])) rfl (by rw [hml]; rfl) (argsL := [(.double xd)]) (rest := []) (lenOf pd_0 rfl) rfl (Nat.le_refl _) (hb hby d_rm_fin_1) (by decide) (by decide) ⟨rfl, hf.noNaN⟩ rfl
  refine Goes.go (U' := (T_1.setTop (mkF m 4 #[.val (.double xd), sS_] [(.double (xd &&& 0x7fffffffffffffff))]))) st_1 ?_
  refine Goes.go (U' := (T_1.setTop (mkF m 16 #[.val (.double xd), sS_] [(.int (1 : Int32))]))) (fun t kt => ?_) ?_
  · skip
    refine X_1.ldc2DoubleC hx hown (mvT hZ (wdOf hw 18 rfl)) (g := (mkF m 4 #[.val (.double xd), sS_] [(.double (xd &&& 0x7fffffffffffffff))])) rfl (hb hby d_rm_fin_4) _ ?_
    refine XS.dcmpS X_1.here hx rfl (hb hby d_rm_fin_7) rfl rfl ?_
    refine XS.ifNo X_1.here hx rfl (hb hby d_rm_fin_8) rfl (XT.i0_gt_f (own_absmax hf)) ?_
    refine XS.iconst X_1.here hx rfl (hb hby d_rm_fin_11) ?_
    refine XS.goto X_1.here hx rfl (pc0 := 12) (pc' := 16) rfl (hb hby d_rm_fin_12) (by decide) (by decide) ?_
    exact kt
  refine Goes.retB X_1 hx hlk hret (hb hby d_rm_fin_16) (by decide) (by decide) ?_
  try rw [e_1]
  exact ⟨rfl, N0, rfl⟩
theorem d_rm_nvi_0 : decode prog_58_method_1_code 0 = .ok (.aload_n 0, 1) := by decide +kernel
theorem d_rm_nvi_1 : decode prog_58_method_1_code 1 = .ok (.invokespecial 1, 3) := by decide +kernel
theorem d_rm_nvi_4 : decode prog_58_method_1_code 4 = .ok (.dload_n 1, 1) := by decide +kernel
theorem d_rm_nvi_5 : decode prog_58_method_1_code 5 = .ok (.invokestatic 7, 3) := by decide +kernel
theorem d_rm_nvi_8 : decode prog_58_method_1_code 8 = .ok (.ifCond .ne 17, 3) := by decide +kernel
theorem d_rm_nvi_25 : decode prog_58_method_1_code 25 = .ok (.aload_n 0, 1) := by decide +kernel
theorem d_rm_nvi_26 : decode prog_58_method_1_code 26 = .ok (.dload_n 1, 1) := by decide +kernel
theorem d_rm_nvi_27 : decode prog_58_method_1_code 27 = .ok (.putfield 22, 3) := by decide +kernel
theorem d_rm_nvi_30 : decode prog_58_method_1_code 30 = .ok (.return_, 1) := by decide +kernel
set_option maxHeartbeats 4000000 in
theorem ef_rm_nvi (m : MethodId) (x0 : Addr) (x1 : UInt64)  : entryFrame m #[(.ref x0), (.double x1)] 3 = mkF m 0 #[.val (.ref x0), .val (.double x1), .second] [] := by first | (simp [entryFrame, mkF, argsToLocals, catR, catN, catI, catJ]; done) | rfl
set_option maxRecDepth 65536 in
set_option maxHeartbeats 40000000 in
theorem rm_nvi (l : Launch) (Z : State) (a0 : Array Value) (hw : ∀ d ∈ tables_1, d.before a0 Z = true) (ws : List Jvm.Cond) (ax : Addr) (xd : UInt64) (h0 : Heap) (n0 : Nat) (Z0 : n0 ≤ h0.size) (hf : Jvm.Free.Fl.Fin64 xd) (o0 : n0 ≤ ax) (E0 : Exa Z h0 ax "com/example/thistle/thistle/language/NumberValue") (F0_number : Fld Z h0 ax "com/example/thistle/thistle/language/NumberValue" "number" "D" (.double 0)) :
    Pays l Z (⟨"com/example/thistle/thistle/language/NumberValue", "<init>", "(D)V"⟩ : MethodName) prog_58_method_1_code 3 none ws ({ frames := 2, cells := 0, slots := 0, locals := 26 } : Room) #[(.ref ax), (.double xd)] h0 (fun v h L => v = none ∧ Fr n0 L ∧ Keep h0 h [ax] ∧ Exa Z h ax "com/example/thistle/thistle/language/NumberValue" ∧ Fld Z h ax "com/example/thistle/thistle/language/NumberValue" "number" "D" (.double xd)) := by
  refine Pays.of (plainFor_of_name (by first | (simp [plainName, overriddenIn]; done) | decide +kernel)) ?_
  intro p e s m below meth c s₁ hx hby hml hown hnm hret hlk hZ e0 X0
  have N0 := Fr.nil n0
  have K0 : Keep h0 h0 [ax] := Keep.refl _ _
  refine Goes.go (U' := (s₁.setTop (mkF m 0 #[sR_ ax, .val (.double xd), sS_] []))) (fun t kt => castTop (ef_rm_nvi m ax xd) kt) ?_
  refine Goes.go (U' := (s₁.setTop (mkF m 1 #[sR_ ax, .val (.double xd), sS_] [(.ref ax)]))) (fun t kt => ?_) ?_
  · skip
    refine XS.aloadN X0.here hx rfl (hb hby d_rm_nvi_0) rfl rfl ?_
    exact kt
  obtain ⟨T_1, X_1, e_1, st_1⟩ := initO X0 hx hZ hown (wdOf hw 7 rfl) (wdOf hw 8 rfl) (wdOf hw 9 rfl) e0 (g := (mkF m 1 #[sR_ ax, .val (.double xd), sS_] [(.ref ax)])) rfl (by rw [hml]; rfl) rfl (hb hby d_rm_nvi_1) (by decide) (W := 0) (Nat.le_refl _) (by decide)
  refine Goes.go (U' := (T_1.setTop (mkF m 4 #[sR_ ax, .val (.double xd), sS_] []))) st_1 ?_
  refine Goes.go (U' := (T_1.setTop (mkF m 5 #[sR_ ax, .val (.double xd), sS_] [(.double xd)]))) (fun t kt => ?_) ?_
  · skip
    refine XS.dloadN X_1.here hx rfl (hb hby d_rm_nvi_4) rfl ?_
    exact kt
  obtain ⟨v_2, T_2, L_2, X_2, q_2, st_2⟩ := callStatic X_1 hx hZ (y := (⟨"java/lang/Double", "isFinite", "(D)Z"⟩ : MethodName)) (W := 0) hown (wdOf hw 10 rfl) (wdOf hw 11 rfl) (wdOf hw 12 rfl) (wdOf hw 13 rfl) (by decide) (rm_fin l Z a0 hw [] xd h0 n0 Z0 hf) (by decide) (by decide) (by decide) (by decide) e_1 (g := (mkF m 5 #[sR_ ax, .val (.double xd), sS_] [(.double xd)])) rfl (by rw [hml]; rfl) (argsL := [(.double xd)]) (rest := []) (lenOf pd_1 rfl) rfl rfl (Nat.le_refl _) (hb hby d_rm_nvi_5)
  obtain ⟨rfl, n_2, K_2⟩ := q_2
  have N_2 := Fr.app N0 n_2
  refine Goes.go (U' := (T_2.setTop (mkF m 8 #[sR_ ax, .val (.double xd), sS_] [(.int (1 : Int32))]))) st_2 ?_
  refine Goes.go (U' := (T_2.setTop (mkF m 27 #[sR_ ax, .val (.double xd), sS_] [(.double xd), (.ref ax)]))) (fun t kt => ?_) ?_
  · skip
    refine XS.ifYes X_2.here hx rfl (pc0 := 8) (pc' := 25) rfl (hb hby d_rm_nvi_8) rfl (XT.i0_ne_t (by decide)) (by decide) (by decide) ?_
    refine XS.aloadN X_2.here hx rfl (hb hby d_rm_nvi_25) rfl rfl ?_
    refine XS.dloadN X_2.here hx rfl (hb hby d_rm_nvi_26) rfl ?_
    exact kt
  obtain ⟨T_3, h_3, X_3, e_3, W_3, st_3⟩ := putF X_2 hx hZ hown (host := "") (Or.inl (wdOf hw 19 rfl)) Via.refl K_2 F0_number E0 (Or.inr ⟨wdOf hw 20 rfl, rfl, hnm⟩) (wdOf hw 2 rfl) (ty := .double) (by decide) rfl rfl (g := (mkF m 27 #[sR_ ax, .val (.double xd), sS_] [(.double xd), (.ref ax)])) rfl rfl (hb hby d_rm_nvi_27)
  have N_3 := Fr.snoc X_3 N_2 o0
  have f_4 : Exa Z h_3 ax "com/example/thistle/thistle/language/NumberValue" := E0.wr W_3
  have f_5 : Fld Z h_3 ax "com/example/thistle/thistle/language/NumberValue" "number" "D" (.double xd) := F0_number.same W_3
  have K_6 : Keep h0 h_3 [ax] := K0.wr W_3 (Or.inl (List.mem_of_getElem? (i := 0) rfl))
  have y_6 : n0 ≤ h_3.size := Nat.le_trans Z0 K_6.1
  refine Goes.go (U' := (T_3.setTop (mkF m 30 #[sR_ ax, .val (.double xd), sS_] []))) st_3 ?_
  refine Goes.retV X_3 hx hlk hret (hb hby d_rm_nvi_30) (by decide) (by decide) ?_
  try rw [e_3]
  exact ⟨rfl, N_3, K_6, f_4, f_5⟩
theorem d_rm_eqy_0 : decode prog_58_method_3_code 0 = .ok (.aload_n 1, 1) := by decide +kernel
theorem d_rm_eqy_1 : decode prog_58_method_3_code 1 = .ok (.instanceof 23, 3) := by decide +kernel
theorem d_rm_eqy_4 : decode prog_58_method_3_code 4 = .ok (.ifCond .eq 24, 3) := by decide +kernel
theorem d_rm_eqy_7 : decode prog_58_method_3_code 7 = .ok (.aload_n 1, 1) := by decide +kernel
theorem d_rm_eqy_8 : decode prog_58_method_3_code 8 = .ok (.checkcast 23, 3) := by decide +kernel
theorem d_rm_eqy_11 : decode prog_58_method_3_code 11 = .ok (.astore_n 2, 1) := by decide +kernel
theorem d_rm_eqy_12 : decode prog_58_method_3_code 12 = .ok (.aload_n 0, 1) := by decide +kernel
theorem d_rm_eqy_13 : decode prog_58_method_3_code 13 = .ok (.getfield 22, 3) := by decide +kernel
theorem d_rm_eqy_16 : decode prog_58_method_3_code 16 = .ok (.aload_n 2, 1) := by decide +kernel
theorem d_rm_eqy_17 : decode prog_58_method_3_code 17 = .ok (.getfield 22, 3) := by decide +kernel
theorem d_rm_eqy_20 : decode prog_58_method_3_code 20 = .ok (.dcmp .l, 1) := by decide +kernel
theorem d_rm_eqy_21 : decode prog_58_method_3_code 21 = .ok (.ifCond .ne 7, 3) := by decide +kernel
theorem d_rm_eqy_24 : decode prog_58_method_3_code 24 = .ok (.iconst 1, 1) := by decide +kernel
theorem d_rm_eqy_25 : decode prog_58_method_3_code 25 = .ok (.goto 4, 3) := by decide +kernel
theorem d_rm_eqy_29 : decode prog_58_method_3_code 29 = .ok (.ireturn, 1) := by decide +kernel
set_option maxHeartbeats 4000000 in
theorem ef_rm_eqy (m : MethodId) (x0 : Addr) (x1 : Addr)  : entryFrame m #[(.ref x0), (.ref x1)] 3 = mkF m 0 #[.val (.ref x0), .val (.ref x1), .unset] [] := by first | (simp [entryFrame, mkF, argsToLocals, catR, catN, catI, catJ]; done) | rfl
set_option maxRecDepth 65536 in
set_option maxHeartbeats 40000000 in
theorem rm_eqy (l : Launch) (Z : State) (a0 : Array Value) (hw : ∀ d ∈ tables_1, d.before a0 Z = true) (ws : List Jvm.Cond) (ax bx : Addr) (xd yd : UInt64) (h0 : Heap) (n0 : Nat) (Z0 : n0 ≤ h0.size) (Ea : Exa Z h0 ax "com/example/thistle/thistle/language/NumberValue") (Fa_number : Fld Z h0 ax "com/example/thistle/thistle/language/NumberValue" "number" "D" (.double xd)) (Eb : Exa Z h0 bx "com/example/thistle/thistle/language/NumberValue") (Fb_number : Fld Z h0 bx "com/example/thistle/thistle/language/NumberValue" "number" "D" (.double yd)) (hc : cmpValue (FP.dcmp xd yd) .l = 0) :
    Pays l Z (⟨"com/example/thistle/thistle/language/NumberValue", "equals", "(Ljava/lang/Object;)Z"⟩ : MethodName) prog_58_method_3_code 3 (some .boolean) ws ({ frames := 0, cells := 0, slots := 0, locals := 0 } : Room) #[(.ref ax), (.ref bx)] h0 (fun v h L => v = some (.int 1) ∧ Fr n0 L ∧ h = h0) := by
  refine Pays.of (plainFor_of_name (by first | (simp [plainName, overriddenIn]; done) | decide +kernel)) ?_
  intro p e s m below meth c s₁ hx hby hml hown hnm hret hlk hZ e0 X0
  have N0 := Fr.nil n0
  have K0 : Keep h0 h0 [] := Keep.refl _ _
  refine Goes.go (U' := (s₁.setTop (mkF m 0 #[sR_ ax, sR_ bx, sU_] []))) (fun t kt => castTop (ef_rm_eqy m ax bx) kt) ?_
  refine Goes.go (U' := (s₁.setTop (mkF m 1 #[sR_ ax, sR_ bx, sU_] [(.ref bx)]))) (fun t kt => ?_) ?_
  · skip
    refine XS.aloadN X0.here hx rfl (hb hby d_rm_eqy_0) rfl rfl ?_
    exact kt
  obtain ⟨T_1, X_1, e_1, st_1⟩ := instY X0 hx hZ hown (wdOf hw 26 rfl) e0 (Ins.self Eb) (g := (mkF m 1 #[sR_ ax, sR_ bx, sU_] [(.ref bx)])) rfl rfl (hb hby d_rm_eqy_1)
  refine Goes.go (U' := (T_1.setTop (mkF m 4 #[sR_ ax, sR_ bx, sU_] [(.int (1 : Int32))]))) st_1 ?_
  refine Goes.go (U' := (T_1.setTop (mkF m 8 #[sR_ ax, sR_ bx, sU_] [(.ref bx)]))) (fun t kt => ?_) ?_
  · skip
    refine XS.ifNo X_1.here hx rfl (hb hby d_rm_eqy_4) rfl (XT.i0_eq_f (by decide)) ?_
    refine XS.aloadN X_1.here hx rfl (hb hby d_rm_eqy_7) rfl rfl ?_
    exact kt
  obtain ⟨T_2, X_2, e_2, st_2⟩ := castY X_1 hx hZ hown (wdOf hw 26 rfl) e_1 (Ins.self Eb) (g := (mkF m 8 #[sR_ ax, sR_ bx, sU_] [(.ref bx)])) rfl rfl (hb hby d_rm_eqy_8)
  refine Goes.go (U' := (T_2.setTop (mkF m 11 #[sR_ ax, sR_ bx, sU_] [(.ref bx)]))) st_2 ?_
  refine Goes.go (U' := (T_2.setTop (mkF m 13 #[sR_ ax, sR_ bx, sR_ bx] [(.ref ax)]))) (fun t kt => ?_) ?_
  · skip
    refine XS.astoreN X_2.here hx rfl (hb hby d_rm_eqy_11) rfl rfl (l' := #[sR_ ax, sR_ bx, sR_ bx]) rfl ?_
    refine XS.aloadN X_2.here hx rfl (hb hby d_rm_eqy_12) rfl rfl ?_
    exact kt
  obtain ⟨T_3, X_3, e_3, st_3⟩ := getF X_2 hx hZ hown (host := "") (Or.inl (wdOf hw 19 rfl)) Via.refl e_2 Fa_number (g := (mkF m 13 #[sR_ ax, sR_ bx, sR_ bx] [(.ref ax)])) rfl rfl (hb hby d_rm_eqy_13)
  refine Goes.go (U' := (T_3.setTop (mkF m 16 #[sR_ ax, sR_ bx, sR_ bx] [(.double xd)]))) st_3 ?_
  refine Goes.go (U' := (T_3.setTop (mkF m 17 #[sR_ ax, sR_ bx, sR_ bx] [(.ref bx), (.double xd)]))) (fun t kt => ?_) ?_
  · skip
    refine XS.aloadN X_3.here hx rfl (hb hby d_rm_eqy_16) rfl rfl ?_
    exact kt
  obtain ⟨T_4, X_4, e_4, st_4⟩ := getF X_3 hx hZ hown (host := "") (Or.inl (wdOf hw 19 rfl)) Via.refl e_3 Fb_number (g := (mkF m 17 #[sR_ ax, sR_ bx, sR_ bx] [(.ref bx), (.double xd)])) rfl rfl (hb hby d_rm_eqy_17)
  refine Goes.go (U' := (T_4.setTop (mkF m 20 #[sR_ ax, sR_ bx, sR_ bx] [(.double yd), (.double xd)]))) st_4 ?_
  refine Goes.go (U' := (T_4.setTop (mkF m 29 #[sR_ ax, sR_ bx, sR_ bx] [(.int (1 : Int32))]))) (fun t kt => ?_) ?_
  · skip
    refine XS.dcmpS X_4.here hx rfl (hb hby d_rm_eqy_20) rfl rfl ?_
    refine XS.ifNo X_4.here hx rfl (hb hby d_rm_eqy_21) rfl (XT.i0_ne_f hc) ?_
    refine XS.iconst X_4.here hx rfl (hb hby d_rm_eqy_24) ?_
    refine XS.goto X_4.here hx rfl (pc0 := 25) (pc' := 29) rfl (hb hby d_rm_eqy_25) (by decide) (by decide) ?_
    exact kt
  refine Goes.retB X_4 hx hlk hret (hb hby d_rm_eqy_29) (by decide) (by decide) ?_
  try rw [e_4]
  exact ⟨rfl, N0, rfl⟩
theorem d_rm_eqn_0 : decode prog_58_method_3_code 0 = .ok (.aload_n 1, 1) := by decide +kernel
theorem d_rm_eqn_1 : decode prog_58_method_3_code 1 = .ok (.instanceof 23, 3) := by decide +kernel
theorem d_rm_eqn_4 : decode prog_58_method_3_code 4 = .ok (.ifCond .eq 24, 3) := by decide +kernel
theorem d_rm_eqn_7 : decode prog_58_method_3_code 7 = .ok (.aload_n 1, 1) := by decide +kernel
theorem d_rm_eqn_8 : decode prog_58_method_3_code 8 = .ok (.checkcast 23, 3) := by decide +kernel
theorem d_rm_eqn_11 : decode prog_58_method_3_code 11 = .ok (.astore_n 2, 1) := by decide +kernel
theorem d_rm_eqn_12 : decode prog_58_method_3_code 12 = .ok (.aload_n 0, 1) := by decide +kernel
theorem d_rm_eqn_13 : decode prog_58_method_3_code 13 = .ok (.getfield 22, 3) := by decide +kernel
theorem d_rm_eqn_16 : decode prog_58_method_3_code 16 = .ok (.aload_n 2, 1) := by decide +kernel
theorem d_rm_eqn_17 : decode prog_58_method_3_code 17 = .ok (.getfield 22, 3) := by decide +kernel
theorem d_rm_eqn_20 : decode prog_58_method_3_code 20 = .ok (.dcmp .l, 1) := by decide +kernel
theorem d_rm_eqn_21 : decode prog_58_method_3_code 21 = .ok (.ifCond .ne 7, 3) := by decide +kernel
theorem d_rm_eqn_28 : decode prog_58_method_3_code 28 = .ok (.iconst 0, 1) := by decide +kernel
theorem d_rm_eqn_29 : decode prog_58_method_3_code 29 = .ok (.ireturn, 1) := by decide +kernel
set_option maxHeartbeats 4000000 in
theorem ef_rm_eqn (m : MethodId) (x0 : Addr) (x1 : Addr)  : entryFrame m #[(.ref x0), (.ref x1)] 3 = mkF m 0 #[.val (.ref x0), .val (.ref x1), .unset] [] := by first | (simp [entryFrame, mkF, argsToLocals, catR, catN, catI, catJ]; done) | rfl
set_option maxRecDepth 65536 in
set_option maxHeartbeats 40000000 in
theorem rm_eqn (l : Launch) (Z : State) (a0 : Array Value) (hw : ∀ d ∈ tables_1, d.before a0 Z = true) (ws : List Jvm.Cond) (ax bx : Addr) (xd yd : UInt64) (h0 : Heap) (n0 : Nat) (Z0 : n0 ≤ h0.size) (Ea : Exa Z h0 ax "com/example/thistle/thistle/language/NumberValue") (Fa_number : Fld Z h0 ax "com/example/thistle/thistle/language/NumberValue" "number" "D" (.double xd)) (Eb : Exa Z h0 bx "com/example/thistle/thistle/language/NumberValue") (Fb_number : Fld Z h0 bx "com/example/thistle/thistle/language/NumberValue" "number" "D" (.double yd)) (hc : ¬ cmpValue (FP.dcmp xd yd) .l = 0) :
    Pays l Z (⟨"com/example/thistle/thistle/language/NumberValue", "equals", "(Ljava/lang/Object;)Z"⟩ : MethodName) prog_58_method_3_code 3 (some .boolean) ws ({ frames := 0, cells := 0, slots := 0, locals := 0 } : Room) #[(.ref ax), (.ref bx)] h0 (fun v h L => v = some (.int 0) ∧ Fr n0 L ∧ h = h0) := by
  refine Pays.of (plainFor_of_name (by first | (simp [plainName, overriddenIn]; done) | decide +kernel)) ?_
  intro p e s m below meth c s₁ hx hby hml hown hnm hret hlk hZ e0 X0
  have N0 := Fr.nil n0
  have K0 : Keep h0 h0 [] := Keep.refl _ _
  refine Goes.go (U' := (s₁.setTop (mkF m 0 #[sR_ ax, sR_ bx, sU_] []))) (fun t kt => castTop (ef_rm_eqn m ax bx) kt) ?_
  refine Goes.go (U' := (s₁.setTop (mkF m 1 #[sR_ ax, sR_ bx, sU_] [(.ref bx)]))) (fun t kt => ?_) ?_
  · skip
    refine XS.aloadN X0.here hx rfl (hb hby d_rm_eqn_0) rfl rfl ?_
    exact kt
  obtain ⟨T_1, X_1, e_1, st_1⟩ := instY X0 hx hZ hown (wdOf hw 26 rfl) e0 (Ins.self Eb) (g := (mkF m 1 #[sR_ ax, sR_ bx, sU_] [(.ref bx)])) rfl rfl (hb hby d_rm_eqn_1)
  refine Goes.go (U' := (T_1.setTop (mkF m 4 #[sR_ ax, sR_ bx, sU_] [(.int (1 : Int32))]))) st_1 ?_
  refine Goes.go (U' := (T_1.setTop (mkF m 8 #[sR_ ax, sR_ bx, sU_] [(.ref bx)]))) (fun t kt => ?_) ?_
  · skip
    refine XS.ifNo X_1.here hx rfl (hb hby d_rm_eqn_4) rfl (XT.i0_eq_f (by decide)) ?_
    refine XS.aloadN X_1.here hx rfl (hb hby d_rm_eqn_7) rfl rfl ?_
    exact kt
  obtain ⟨T_2, X_2, e_2, st_2⟩ := castY X_1 hx hZ hown (wdOf hw 26 rfl) e_1 (Ins.self Eb) (g := (mkF m 8 #[sR_ ax, sR_ bx, sU_] [(.ref bx)])) rfl rfl (hb hby d_rm_eqn_8)
  refine Goes.go (U' := (T_2.setTop (mkF m 11 #[sR_ ax, sR_ bx, sU_] [(.ref bx)]))) st_2 ?_
  refine Goes.go (U' := (T_2.setTop (mkF m 13 #[sR_ ax, sR_ bx, sR_ bx] [(.ref ax)]))) (fun t kt => ?_) ?_
  · skip
    refine XS.astoreN X_2.here hx rfl (hb hby d_rm_eqn_11) rfl rfl (l' := #[sR_ ax, sR_ bx, sR_ bx]) rfl ?_
    refine XS.aloadN X_2.here hx rfl (hb hby d_rm_eqn_12) rfl rfl ?_
    exact kt
  obtain ⟨T_3, X_3, e_3, st_3⟩ := getF X_2 hx hZ hown (host := "") (Or.inl (wdOf hw 19 rfl)) Via.refl e_2 Fa_number (g := (mkF m 13 #[sR_ ax, sR_ bx, sR_ bx] [(.ref ax)])) rfl rfl (hb hby d_rm_eqn_13)
  refine Goes.go (U' := (T_3.setTop (mkF m 16 #[sR_ ax, sR_ bx, sR_ bx] [(.double xd)]))) st_3 ?_
  refine Goes.go (U' := (T_3.setTop (mkF m 17 #[sR_ ax, sR_ bx, sR_ bx] [(.ref bx), (.double xd)]))) (fun t kt => ?_) ?_
  · skip
    refine XS.aloadN X_3.here hx rfl (hb hby d_rm_eqn_16) rfl rfl ?_
    exact kt
  obtain ⟨T_4, X_4, e_4, st_4⟩ := getF X_3 hx hZ hown (host := "") (Or.inl (wdOf hw 19 rfl)) Via.refl e_3 Fb_number (g := (mkF m 17 #[sR_ ax, sR_ bx, sR_ bx] [(.ref bx), (.double xd)])) rfl rfl (hb hby d_rm_eqn_17)
  refine Goes.go (U' := (T_4.setTop (mkF m 20 #[sR_ ax, sR_ bx, sR_ bx] [(.double yd), (.double xd)]))) st_4 ?_
  refine Goes.go (U' := (T_4.setTop (mkF m 29 #[sR_ ax, sR_ bx, sR_ bx] [(.int (0 : Int32))]))) (fun t kt => ?_) ?_
  · skip
    refine XS.dcmpS X_4.here hx rfl (hb hby d_rm_eqn_20) rfl rfl ?_
    refine XS.ifYes X_4.here hx rfl (pc0 := 21) (pc' := 28) rfl (hb hby d_rm_eqn_21) rfl (XT.i0_ne_t hc) (by decide) (by decide) ?_
    refine XS.iconst X_4.here hx rfl (hb hby d_rm_eqn_28) ?_
    exact kt
  refine Goes.retB X_4 hx hlk hret (hb hby d_rm_eqn_29) (by decide) (by decide) ?_
  try rw [e_4]
  exact ⟨rfl, N0, rfl⟩
theorem d_rm_eq0_0 : decode prog_58_method_3_code 0 = .ok (.aload_n 1, 1) := by decide +kernel
theorem d_rm_eq0_1 : decode prog_58_method_3_code 1 = .ok (.instanceof 23, 3) := by decide +kernel
theorem d_rm_eq0_4 : decode prog_58_method_3_code 4 = .ok (.ifCond .eq 24, 3) := by decide +kernel
theorem d_rm_eq0_28 : decode prog_58_method_3_code 28 = .ok (.iconst 0, 1) := by decide +kernel
theorem d_rm_eq0_29 : decode prog_58_method_3_code 29 = .ok (.ireturn, 1) := by decide +kernel
set_option maxHeartbeats 4000000 in
theorem ef_rm_eq0 (m : MethodId) (x0 : Addr)  : entryFrame m #[(.ref x0), .null] 3 = mkF m 0 #[.val (.ref x0), .val .null, .unset] [] := by first | (simp [entryFrame, mkF, argsToLocals, catR, catN, catI, catJ]; done) | rfl
set_option maxRecDepth 65536 in
set_option maxHeartbeats 40000000 in
theorem rm_eq0 (l : Launch) (Z : State) (a0 : Array Value) (hw : ∀ d ∈ tables_1, d.before a0 Z = true) (ws : List Jvm.Cond) (ax : Addr) (h0 : Heap) (n0 : Nat) (Z0 : n0 ≤ h0.size)  :
    Pays l Z (⟨"com/example/thistle/thistle/language/NumberValue", "equals", "(Ljava/lang/Object;)Z"⟩ : MethodName) prog_58_method_3_code 3 (some .boolean) ws ({ frames := 0, cells := 0, slots := 0, locals := 0 } : Room) #[(.ref ax), .null] h0 (fun v h L => v = some (.int 0) ∧ Fr n0 L ∧ h = h0) := by
  refine Pays.of (plainFor_of_name (by first | (simp [plainName, overriddenIn]; done) | decide +kernel)) ?_
  intro p e s m below meth c s₁ hx hby hml hown hnm hret hlk hZ e0 X0
  have N0 := Fr.nil n0
  have K0 : Keep h0 h0 [] := Keep.refl _ _
  refine Goes.go (U' := (s₁.setTop (mkF m 0 #[sR_ ax, .val .null, sU_] []))) (fun t kt => castTop (ef_rm_eq0 m ax) kt) ?_
  refine Goes.go (U' := (s₁.setTop (mkF m 29 #[sR_ ax, .val .null, sU_] [(.int (0 : Int32))]))) (fun t kt => ?_) ?_
  · skip
    refine XS.aloadN X0.here hx rfl (hb hby d_rm_eq0_0) rfl rfl ?_
    refine X0.instanceofNull hx (g := (mkF m 1 #[sR_ ax, .val .null, sU_] [.null])) rfl rfl (hb hby d_rm_eq0_1) _ ?_
    refine XS.ifYes X0.here hx rfl (pc0 := 4) (pc' := 28) rfl (hb hby d_rm_eq0_4) rfl (XT.i0_eq_t (by decide)) (by decide) (by decide) ?_
    refine XS.iconst X0.here hx rfl (hb hby d_rm_eq0_28) ?_
    exact kt
  refine Goes.retB X0 hx hlk hret (hb hby d_rm_eq0_29) (by decide) (by decide) ?_
  try rw [e0]
  exact ⟨rfl, N0, rfl⟩
theorem d_rm_eqb_0 : decode prog_58_method_3_code 0 = .ok (.aload_n 1, 1) := by decide +kernel
theorem d_rm_eqb_1 : decode prog_58_method_3_code 1 = .ok (.instanceof 23, 3) := by decide +kernel
theorem d_rm_eqb_4 : decode prog_58_method_3_code 4 = .ok (.ifCond .eq 24, 3) := by decide +kernel
theorem d_rm_eqb_28 : decode prog_58_method_3_code 28 = .ok (.iconst 0, 1) := by decide +kernel
theorem d_rm_eqb_29 : decode prog_58_method_3_code 29 = .ok (.ireturn, 1) := by decide +kernel
set_option maxHeartbeats 4000000 in
theorem ef_rm_eqb (m : MethodId) (x0 : Addr) (x1 : Addr)  : entryFrame m #[(.ref x0), (.ref x1)] 3 = mkF m 0 #[.val (.ref x0), .val (.ref x1), .unset] [] := by first | (simp [entryFrame, mkF, argsToLocals, catR, catN, catI, catJ]; done) | rfl
set_option maxRecDepth 65536 in
set_option maxHeartbeats 40000000 in
theorem rm_eqb (l : Launch) (Z : State) (a0 : Array Value) (hw : ∀ d ∈ tables_1, d.before a0 Z = true) (ws : List Jvm.Cond) (ax bx : Addr) (h0 : Heap) (n0 : Nat) (Z0 : n0 ≤ h0.size) (Eb : Exa Z h0 bx "com/example/thistle/thistle/language/BooleanValue") :
    Pays l Z (⟨"com/example/thistle/thistle/language/NumberValue", "equals", "(Ljava/lang/Object;)Z"⟩ : MethodName) prog_58_method_3_code 3 (some .boolean) ws ({ frames := 0, cells := 0, slots := 0, locals := 0 } : Room) #[(.ref ax), (.ref bx)] h0 (fun v h L => v = some (.int 0) ∧ Fr n0 L ∧ h = h0) := by
  refine Pays.of (plainFor_of_name (by first | (simp [plainName, overriddenIn]; done) | decide +kernel)) ?_
  intro p e s m below meth c s₁ hx hby hml hown hnm hret hlk hZ e0 X0
  have N0 := Fr.nil n0
  have K0 : Keep h0 h0 [] := Keep.refl _ _
  refine Goes.go (U' := (s₁.setTop (mkF m 0 #[sR_ ax, sR_ bx, sU_] []))) (fun t kt => castTop (ef_rm_eqb m ax bx) kt) ?_
  refine Goes.go (U' := (s₁.setTop (mkF m 1 #[sR_ ax, sR_ bx, sU_] [(.ref bx)]))) (fun t kt => ?_) ?_
  · skip
    refine XS.aloadN X0.here hx rfl (hb hby d_rm_eqb_0) rfl rfl ?_
    exact kt
  obtain ⟨T_1, X_1, e_1, st_1⟩ := instNo X0 hx hZ hown (wdOf hw 26 rfl) e0 Eb (NSno (wdOf hw 81 rfl) (wdOf hw 2 rfl) (NS.step (wdOf hw 81 rfl) (NS.step (wdOf hw 82 rfl) (NSr (wdOf hw 74 rfl) (wdOf hw 2 rfl) (by decide)) (by decide)) (by decide)) (by decide)) (g := (mkF m 1 #[sR_ ax, sR_ bx, sU_] [(.ref bx)])) rfl rfl (hb hby d_rm_eqb_1)
  refine Goes.go (U' := (T_1.setTop (mkF m 4 #[sR_ ax, sR_ bx, sU_] [(.int (0 : Int32))]))) st_1 ?_
  refine Goes.go (U' := (T_1.setTop (mkF m 29 #[sR_ ax, sR_ bx, sU_] [(.int (0 : Int32))]))) (fun t kt => ?_) ?_
  · skip
    refine XS.ifYes X_1.here hx rfl (pc0 := 4) (pc' := 28) rfl (hb hby d_rm_eqb_4) rfl (XT.i0_eq_t (by decide)) (by decide) (by decide) ?_
    refine XS.iconst X_1.here hx rfl (hb hby d_rm_eqb_28) ?_
    exact kt
  refine Goes.retB X_1 hx hlk hret (hb hby d_rm_eqb_29) (by decide) (by decide) ?_
  try rw [e_1]
  exact ⟨rfl, N0, rfl⟩
theorem d_rm_eqs_0 : decode prog_58_method_3_code 0 = .ok (.aload_n 1, 1) := by decide +kernel
theorem d_rm_eqs_1 : decode prog_58_method_3_code 1 = .ok (.instanceof 23, 3) := by decide +kernel
theorem d_rm_eqs_4 : decode prog_58_method_3_code 4 = .ok (.ifCond .eq 24, 3) := by decide +kernel
theorem d_rm_eqs_28 : decode prog_58_method_3_code 28 = .ok (.iconst 0, 1) := by decide +kernel
theorem d_rm_eqs_29 : decode prog_58_method_3_code 29 = .ok (.ireturn, 1) := by decide +kernel
set_option maxHeartbeats 4000000 in
theorem ef_rm_eqs (m : MethodId) (x0 : Addr) (x1 : Addr)  : entryFrame m #[(.ref x0), (.ref x1)] 3 = mkF m 0 #[.val (.ref x0), .val (.ref x1), .unset] [] := by first | (simp [entryFrame, mkF, argsToLocals, catR, catN, catI, catJ]; done) | rfl
set_option maxRecDepth 65536 in
set_option maxHeartbeats 40000000 in
theorem rm_eqs (l : Launch) (Z : State) (a0 : Array Value) (hw : ∀ d ∈ tables_1, d.before a0 Z = true) (ws : List Jvm.Cond) (ax bx : Addr) (h0 : Heap) (n0 : Nat) (Z0 : n0 ≤ h0.size) (Eb : Exa Z h0 bx "com/example/thistle/thistle/language/StringValue") :
    Pays l Z (⟨"com/example/thistle/thistle/language/NumberValue", "equals", "(Ljava/lang/Object;)Z"⟩ : MethodName) prog_58_method_3_code 3 (some .boolean) ws ({ frames := 0, cells := 0, slots := 0, locals := 0 } : Room) #[(.ref ax), (.ref bx)] h0 (fun v h L => v = some (.int 0) ∧ Fr n0 L ∧ h = h0) := by
  refine Pays.of (plainFor_of_name (by first | (simp [plainName, overriddenIn]; done) | decide +kernel)) ?_
  intro p e s m below meth c s₁ hx hby hml hown hnm hret hlk hZ e0 X0
  have N0 := Fr.nil n0
  have K0 : Keep h0 h0 [] := Keep.refl _ _
  refine Goes.go (U' := (s₁.setTop (mkF m 0 #[sR_ ax, sR_ bx, sU_] []))) (fun t kt => castTop (ef_rm_eqs m ax bx) kt) ?_
  refine Goes.go (U' := (s₁.setTop (mkF m 1 #[sR_ ax, sR_ bx, sU_] [(.ref bx)]))) (fun t kt => ?_) ?_
  · skip
    refine XS.aloadN X0.here hx rfl (hb hby d_rm_eqs_0) rfl rfl ?_
    exact kt
  obtain ⟨T_1, X_1, e_1, st_1⟩ := instNo X0 hx hZ hown (wdOf hw 26 rfl) e0 Eb (NSno (wdOf hw 73 rfl) (wdOf hw 2 rfl) (NS.step (wdOf hw 73 rfl) (NSr (wdOf hw 74 rfl) (wdOf hw 2 rfl) (by decide)) (by decide)) (by decide)) (g := (mkF m 1 #[sR_ ax, sR_ bx, sU_] [(.ref bx)])) rfl rfl (hb hby d_rm_eqs_1)
  refine Goes.go (U' := (T_1.setTop (mkF m 4 #[sR_ ax, sR_ bx, sU_] [(.int (0 : Int32))]))) st_1 ?_
  refine Goes.go (U' := (T_1.setTop (mkF m 29 #[sR_ ax, sR_ bx, sU_] [(.int (0 : Int32))]))) (fun t kt => ?_) ?_
  · skip
    refine XS.ifYes X_1.here hx rfl (pc0 := 4) (pc' := 28) rfl (hb hby d_rm_eqs_4) rfl (XT.i0_eq_t (by decide)) (by decide) (by decide) ?_
    refine XS.iconst X_1.here hx rfl (hb hby d_rm_eqs_28) ?_
    exact kt
  refine Goes.retB X_1 hx hlk hret (hb hby d_rm_eqs_29) (by decide) (by decide) ?_
  try rw [e_1]
  exact ⟨rfl, N0, rfl⟩
theorem d_rm_of1_0 : decode prog_44_method_4_code 0 = .ok (.iload_n 0, 1) := by decide +kernel
theorem d_rm_of1_1 : decode prog_44_method_4_code 1 = .ok (.ifCond .eq 9, 3) := by decide +kernel
theorem d_rm_of1_4 : decode prog_44_method_4_code 4 = .ok (.getstatic 3, 3) := by decide +kernel
theorem d_rm_of1_7 : decode prog_44_method_4_code 7 = .ok (.goto 6, 3) := by decide +kernel
theorem d_rm_of1_13 : decode prog_44_method_4_code 13 = .ok (.areturn, 1) := by decide +kernel
set_option maxHeartbeats 4000000 in
theorem ef_rm_of1 (m : MethodId) (x0 : Int32)  : entryFrame m #[(.int x0)] 1 = mkF m 0 #[.val (.int x0)] [] := by first | (simp [entryFrame, mkF, argsToLocals, catR, catN, catI, catJ]; done) | rfl
set_option maxRecDepth 65536 in
set_option maxHeartbeats 40000000 in
theorem rm_of1 (l : Launch) (Z : State) (a0 : Array Value) (hw : ∀ d ∈ tables_1, d.before a0 Z = true) (ws : List Jvm.Cond) (rx : Addr) (h0 : Heap) (n0 : Nat) (Z0 : n0 ≤ h0.size) (S0 : Sta Z h0 "com/example/thistle/thistle/language/BooleanValue" "TRUE" "Lcom/example/thistle/thistle/language/BooleanValue;" (.ref rx)) :
    Pays l Z (⟨"com/example/thistle/thistle/language/BooleanValue", "of", "(Z)Lcom/example/thistle/thistle/language/BooleanValue;"⟩ : MethodName) prog_44_method_4_code 1 (some (.object "com/example/thistle/thistle/language/BooleanValue")) ws ({ frames := 0, cells := 0, slots := 0, locals := 0 } : Room) #[(.int (1 : Int32))] h0 (fun v h L => v = some (.ref rx) ∧ Fr n0 L ∧ h = h0) := by
  refine Pays.of (plainFor_of_name (by first | (simp [plainName, overriddenIn]; done) | decide +kernel)) ?_
  intro p e s m below meth c s₁ hx hby hml hown hnm hret hlk hZ e0 X0
  have N0 := Fr.nil n0
  have K0 : Keep h0 h0 [] := Keep.refl _ _
  refine Goes.go (U' := (s₁.setTop (mkF m 0 #[sI_ (1 : Int32)] []))) (fun t kt => castTop (ef_rm_of1 m (1 : Int32)) kt) ?_
  refine Goes.go (U' := (s₁.setTop (mkF m 4 #[sI_ (1 : Int32)] []))) (fun t kt => ?_) ?_
  · skip
    refine XS.iloadN X0.here hx rfl (hb hby d_rm_of1_0) rfl ?_
    refine XS.ifNo X0.here hx rfl (hb hby d_rm_of1_1) rfl (XT.i0_eq_f (by decide)) ?_
    exact kt
  obtain ⟨T_1, X_1, e_1, st_1⟩ := getS X0 hx hZ hown (host := "") (wdOf hw 83 rfl) Via.refl e0 S0 (g := (mkF m 4 #[sI_ (1 : Int32)] [])) rfl (hb hby d_rm_of1_4)
  refine Goes.go (U' := (T_1.setTop (mkF m 7 #[sI_ (1 : Int32)] [(.ref rx)]))) st_1 ?_
  refine Goes.go (U' := (T_1.setTop (mkF m 13 #[sI_ (1 : Int32)] [(.ref rx)]))) (fun t kt => ?_) ?_
  · skip
    refine XS.goto X_1.here hx rfl (pc0 := 7) (pc' := 13) rfl (hb hby d_rm_of1_7) (by decide) (by decide) ?_
    exact kt
  refine Goes.retA X_1 hx hlk hret rfl rfl (hb hby d_rm_of1_13) (by decide) (by decide) ?_
  try rw [e_1]
  exact ⟨rfl, N0, rfl⟩
theorem d_rm_of0_0 : decode prog_44_method_4_code 0 = .ok (.iload_n 0, 1) := by decide +kernel
theorem d_rm_of0_1 : decode prog_44_method_4_code 1 = .ok (.ifCond .eq 9, 3) := by decide +kernel
theorem d_rm_of0_10 : decode prog_44_method_4_code 10 = .ok (.getstatic 7, 3) := by decide +kernel
theorem d_rm_of0_13 : decode prog_44_method_4_code 13 = .ok (.areturn, 1) := by decide +kernel
set_option maxHeartbeats 4000000 in
theorem ef_rm_of0 (m : MethodId) (x0 : Int32)  : entryFrame m #[(.int x0)] 1 = mkF m 0 #[.val (.int x0)] [] := by first | (simp [entryFrame, mkF, argsToLocals, catR, catN, catI, catJ]; done) | rfl
set_option maxRecDepth 65536 in
set_option maxHeartbeats 40000000 in
theorem rm_of0 (l : Launch) (Z : State) (a0 : Array Value) (hw : ∀ d ∈ tables_1, d.before a0 Z = true) (ws : List Jvm.Cond) (rx : Addr) (h0 : Heap) (n0 : Nat) (Z0 : n0 ≤ h0.size) (S0 : Sta Z h0 "com/example/thistle/thistle/language/BooleanValue" "FALSE" "Lcom/example/thistle/thistle/language/BooleanValue;" (.ref rx)) :
    Pays l Z (⟨"com/example/thistle/thistle/language/BooleanValue", "of", "(Z)Lcom/example/thistle/thistle/language/BooleanValue;"⟩ : MethodName) prog_44_method_4_code 1 (some (.object "com/example/thistle/thistle/language/BooleanValue")) ws ({ frames := 0, cells := 0, slots := 0, locals := 0 } : Room) #[(.int (0 : Int32))] h0 (fun v h L => v = some (.ref rx) ∧ Fr n0 L ∧ h = h0) := by
  refine Pays.of (plainFor_of_name (by first | (simp [plainName, overriddenIn]; done) | decide +kernel)) ?_
  intro p e s m below meth c s₁ hx hby hml hown hnm hret hlk hZ e0 X0
  have N0 := Fr.nil n0
  have K0 : Keep h0 h0 [] := Keep.refl _ _
  refine Goes.go (U' := (s₁.setTop (mkF m 0 #[sI_ (0 : Int32)] []))) (fun t kt => castTop (ef_rm_of0 m (0 : Int32)) kt) ?_
  refine Goes.go (U' := (s₁.setTop (mkF m 10 #[sI_ (0 : Int32)] []))) (fun t kt => ?_) ?_
  · skip
    refine XS.iloadN X0.here hx rfl (hb hby d_rm_of0_0) rfl ?_
    refine XS.ifYes X0.here hx rfl (pc0 := 1) (pc' := 10) rfl (hb hby d_rm_of0_1) rfl (XT.i0_eq_t (by decide)) (by decide) (by decide) ?_
    exact kt
  obtain ⟨T_1, X_1, e_1, st_1⟩ := getS X0 hx hZ hown (host := "") (wdOf hw 79 rfl) Via.refl e0 S0 (g := (mkF m 10 #[sI_ (0 : Int32)] [])) rfl (hb hby d_rm_of0_10)
  refine Goes.go (U' := (T_1.setTop (mkF m 13 #[sI_ (0 : Int32)] [(.ref rx)]))) st_1 ?_
  refine Goes.retA X_1 hx hlk hret rfl rfl (hb hby d_rm_of0_13) (by decide) (by decide) ?_
  try rw [e_1]
  exact ⟨rfl, N0, rfl⟩
theorem d_rm_cmi1_0 : decode jdk_52_method_21_code 0 = .ok (.iconst 0, 1) := by decide +kernel
theorem d_rm_cmi1_1 : decode jdk_52_method_21_code 1 = .ok (.istore 5, 2) := by decide +kernel
theorem d_rm_cmi1_3 : decode jdk_52_method_21_code 3 = .ok (.iload 5, 2) := by decide +kernel
theorem d_rm_cmi1_5 : decode jdk_52_method_21_code 5 = .ok (.iload 4, 2) := by decide +kernel
theorem d_rm_cmi1_7 : decode jdk_52_method_21_code 7 = .ok (.if_icmp .ge 37, 3) := by decide +kernel
theorem d_rm_cmi1_10 : decode jdk_52_method_21_code 10 = .ok (.aload_n 0, 1) := by decide +kernel
theorem d_rm_cmi1_11 : decode jdk_52_method_21_code 11 = .ok (.iload_n 1, 1) := by decide +kernel
theorem d_rm_cmi1_12 : decode jdk_52_method_21_code 12 = .ok (.caload, 1) := by decide +kernel
theorem d_rm_cmi1_13 : decode jdk_52_method_21_code 13 = .ok (.istore 6, 2) := by decide +kernel
theorem d_rm_cmi1_15 : decode jdk_52_method_21_code 15 = .ok (.iload 6, 2) := by decide +kernel
theorem d_rm_cmi1_17 : decode jdk_52_method_21_code 17 = .ok (.sipush 255, 3) := by decide +kernel
theorem d_rm_cmi1_20 : decode jdk_52_method_21_code 20 = .ok (.if_icmp .le 6, 3) := by decide +kernel
theorem d_rm_cmi1_26 : decode jdk_52_method_21_code 26 = .ok (.aload_n 2, 1) := by decide +kernel
theorem d_rm_cmi1_27 : decode jdk_52_method_21_code 27 = .ok (.iload_n 3, 1) := by decide +kernel
theorem d_rm_cmi1_28 : decode jdk_52_method_21_code 28 = .ok (.iload 6, 2) := by decide +kernel
theorem d_rm_cmi1_30 : decode jdk_52_method_21_code 30 = .ok (.i2b, 1) := by decide +kernel
theorem d_rm_cmi1_31 : decode jdk_52_method_21_code 31 = .ok (.bastore, 1) := by decide +kernel
theorem d_rm_cmi1_32 : decode jdk_52_method_21_code 32 = .ok (.iinc 1 1, 3) := by decide +kernel
theorem d_rm_cmi1_35 : decode jdk_52_method_21_code 35 = .ok (.iinc 3 1, 3) := by decide +kernel
theorem d_rm_cmi1_38 : decode jdk_52_method_21_code 38 = .ok (.iinc 5 1, 3) := by decide +kernel
theorem d_rm_cmi1_41 : decode jdk_52_method_21_code 41 = .ok (.goto (-38), 3) := by decide +kernel
theorem d_rm_cmi1_44 : decode jdk_52_method_21_code 44 = .ok (.iload 4, 2) := by decide +kernel
theorem d_rm_cmi1_46 : decode jdk_52_method_21_code 46 = .ok (.ireturn, 1) := by decide +kernel
set_option maxHeartbeats 4000000 in
theorem ef_rm_cmi1 (m : MethodId) (x0 : Addr) (x1 : Int32) (x2 : Addr) (x3 : Int32) (x4 : Int32)  : entryFrame m #[(.ref x0), (.int x1), (.ref x2), (.int x3), (.int x4)] 7 = mkF m 0 #[.val (.ref x0), .val (.int x1), .val (.ref x2), .val (.int x3), .val (.int x4), .unset, .unset] [] := by first | (simp [entryFrame, mkF, argsToLocals, catR, catN, catI, catJ]; done) | rfl
set_option maxRecDepth 65536 in
set_option maxHeartbeats 40000000 in
theorem rm_cmi1 (l : Launch) (Z : State) (a0 : Array Value) (hw : ∀ d ∈ tables_1, d.before a0 Z = true) (ws : List Jvm.Cond) (ca ba : Addr) (kc kb : ClassId) (c0 : Int32) (h0 : Heap) (n0 : Nat) (Z0 : n0 ≤ h0.size) (o0 : n0 ≤ ba) (nb : ca ≠ ba) (Vc : Arv Z h0 ca kc .char (1 : Int32) [(.int c0)] (.int (0 : Int32))) (Vb : Arv Z h0 ba kb .byte (1 : Int32) [(.int (0 : Int32))] (.int (0 : Int32))) (hc0 : ¬ (255 : Int32) < c0) :
    Pays l Z (⟨"java/lang/StringUTF16", "compress", "([CI[BII)I"⟩ : MethodName) jdk_52_method_21_code 7 (some .int) ws ({ frames := 0, cells := 0, slots := 0, locals := 0 } : Room) #[(.ref ca), (.int (0 : Int32)), (.ref ba), (.int (0 : Int32)), (.int (1 : Int32))] h0 (fun v h L => v = some (.int (1 : Int32)) ∧ Fr n0 L ∧ Keep h0 h [ba] ∧ Arv Z h ba kb .byte (1 : Int32) [(.int (c0.toInt8.toInt32).toInt8.toInt32)] (.int (0 : Int32))) := by
  refine Pays.of (plainFor_of_name (by first | (simp [plainName, overriddenIn]; done) | decide +kernel)) ?_
  intro p e s m below meth c s₁ hx hby hml hown hnm hret hlk hZ e0 X0
  have N0 := Fr.nil n0
  have K0 : Keep h0 h0 [ba] := Keep.refl _ _
  refine Goes.go (U' := (s₁.setTop (mkF m 0 #[sR_ ca, sI_ (0 : Int32), sR_ ba, sI_ (0 : Int32), sI_ (1 : Int32), sU_, sU_] []))) (fun t kt => castTop (ef_rm_cmi1 m ca (0 : Int32) ba (0 : Int32) (1 : Int32)) kt) ?_
  refine Goes.go (U' := (s₁.setTop (mkF m 12 #[sR_ ca, sI_ (0 : Int32), sR_ ba, sI_ (0 : Int32), sI_ (1 : Int32), sI_ (0 : Int32), sU_] [(.int (0 : Int32)), (.ref ca)]))) (fun t kt => ?_) ?_
  · skip
    refine XS.iconst X0.here hx rfl (hb hby d_rm_cmi1_0) ?_
    refine XS.istore X0.here hx rfl (hb hby d_rm_cmi1_1) rfl (l' := #[sR_ ca, sI_ (0 : Int32), sR_ ba, sI_ (0 : Int32), sI_ (1 : Int32), sI_ (0 : Int32), sU_]) rfl ?_
    refine XS.iload X0.here hx rfl (hb hby d_rm_cmi1_3) rfl ?_
    refine XS.iload X0.here hx rfl (hb hby d_rm_cmi1_5) rfl ?_
    refine XS.icmpNo X0.here hx rfl (hb hby d_rm_cmi1_7) rfl (XT.ii_ge_f (by decide)) ?_
    refine XS.aloadN X0.here hx rfl (hb hby d_rm_cmi1_10) rfl rfl ?_
    refine XS.iloadN X0.here hx rfl (hb hby d_rm_cmi1_11) rfl ?_
    exact kt
  obtain ⟨cl_1, Ar_1, q_1, S_1, M_1, H_1, G_1⟩ := id Vc
  have hin_1 : ¬ ((0 : Int32) < 0 ∨ cl_1.slots.size ≤ ((0 : Int32)).toNatClampNeg) := inb_of S_1 ⟨by decide, by decide⟩
  have hat_1 : cl_1.slots[((0 : Int32)).toNatClampNeg]? = some (.int c0) := H_1.at hin_1 rfl
  refine Goes.go (U' := (s₁.setTop (mkF m 13 #[sR_ ca, sI_ (0 : Int32), sR_ ba, sI_ (0 : Int32), sI_ (1 : Int32), sI_ (0 : Int32), sU_] [(.int c0)]))) (fun t kt => ?_) ?_
  · skip
    refine X0.caload hx (j := (0 : Int32)) (v := (.int c0)) (by rw [e0]; exact Ar_1.1) (State.isArrayOf_alike hZ.alike Ar_1.2.1) Ar_1.2.2 hin_1 hat_1 (g := (mkF m 12 #[sR_ ca, sI_ (0 : Int32), sR_ ba, sI_ (0 : Int32), sI_ (1 : Int32), sI_ (0 : Int32), sU_] [(.int (0 : Int32)), (.ref ca)])) rfl rfl (hb hby d_rm_cmi1_12) _ ?_
    exact kt
  refine Goes.go (U' := (s₁.setTop (mkF m 31 #[sR_ ca, sI_ (0 : Int32), sR_ ba, sI_ (0 : Int32), sI_ (1 : Int32), sI_ (0 : Int32), sI_ c0] [(.int (c0.toInt8.toInt32)), (.int (0 : Int32)), (.ref ba)]))) (fun t kt => ?_) ?_
  · skip
    refine XS.istore X0.here hx rfl (hb hby d_rm_cmi1_13) rfl (l' := #[sR_ ca, sI_ (0 : Int32), sR_ ba, sI_ (0 : Int32), sI_ (1 : Int32), sI_ (0 : Int32), sI_ c0]) rfl ?_
    refine XS.iload X0.here hx rfl (hb hby d_rm_cmi1_15) rfl ?_
    refine XS.sipush X0.here hx rfl (hb hby d_rm_cmi1_17) ?_
    refine XS.icmpYes X0.here hx rfl (pc0 := 20) (pc' := 26) rfl (hb hby d_rm_cmi1_20) rfl (XT.ii_le_t hc0) (by decide) (by decide) ?_
    refine XS.aloadN X0.here hx rfl (hb hby d_rm_cmi1_26) rfl rfl ?_
    refine XS.iloadN X0.here hx rfl (hb hby d_rm_cmi1_27) rfl ?_
    refine XS.iload X0.here hx rfl (hb hby d_rm_cmi1_28) rfl ?_
    refine XS.i2b X0.here hx rfl (hb hby d_rm_cmi1_30) rfl ?_
    exact kt
  obtain ⟨cl_2, Ar_2, q_2, S_2, M_2, H_2, G_2⟩ := id Vb
  have hin_2 : ¬ ((0 : Int32) < 0 ∨ cl_2.slots.size ≤ ((0 : Int32)).toNatClampNeg) := inb_of S_2 ⟨by decide, by decide⟩
  obtain ⟨T_2, h_2, X_2, e_2, W_2, st_2⟩ := stB X0 hx hZ e0 Ar_2 (j := (0 : Int32)) hin_2 (g := (mkF m 31 #[sR_ ca, sI_ (0 : Int32), sR_ ba, sI_ (0 : Int32), sI_ (1 : Int32), sI_ (0 : Int32), sI_ c0] [(.int (c0.toInt8.toInt32)), (.int (0 : Int32)), (.ref ba)])) rfl rfl (hb hby d_rm_cmi1_31)
  have V_2 : Arv Z h_2 ba kb .byte (1 : Int32) [(.int (c0.toInt8.toInt32).toInt8.toInt32)] (.int (0 : Int32)) := Arv.set Ar_2 q_2 S_2 M_2 H_2 G_2 (fits_nar_byte _) W_2 0 rfl (Nat.le_of_ble_eq_true rfl)
  have N_2 := Fr.snoc X_2 N0 o0
  have f_3 : Arv Z h_2 ca kc .char (1 : Int32) [(.int c0)] (.int (0 : Int32)) := Vc.other W_2 nb
  have K_5 : Keep h0 h_2 [ba] := K0.wr W_2 (Or.inl (List.mem_of_getElem? (i := 0) rfl))
  have y_5 : n0 ≤ h_2.size := Nat.le_trans Z0 K_5.1
  refine Goes.go (U' := (T_2.setTop (mkF m 32 #[sR_ ca, sI_ (0 : Int32), sR_ ba, sI_ (0 : Int32), sI_ (1 : Int32), sI_ (0 : Int32), sI_ c0] []))) st_2 ?_
  refine Goes.go (U' := (T_2.setTop (mkF m 46 #[sR_ ca, sI_ (1 : Int32), sR_ ba, sI_ (1 : Int32), sI_ (1 : Int32), sI_ (1 : Int32), sI_ c0] [(.int (1 : Int32))]))) (fun t kt => ?_) ?_
  · skip
    refine XS.iinc X_2.here hx rfl (hb hby d_rm_cmi1_32) rfl (l' := #[sR_ ca, sI_ (1 : Int32), sR_ ba, sI_ (0 : Int32), sI_ (1 : Int32), sI_ (0 : Int32), sI_ c0]) rfl ?_
    refine XS.iinc X_2.here hx rfl (hb hby d_rm_cmi1_35) rfl (l' := #[sR_ ca, sI_ (1 : Int32), sR_ ba, sI_ (1 : Int32), sI_ (1 : Int32), sI_ (0 : Int32), sI_ c0]) rfl ?_
    refine XS.iinc X_2.here hx rfl (hb hby d_rm_cmi1_38) rfl (l' := #[sR_ ca, sI_ (1 : Int32), sR_ ba, sI_ (1 : Int32), sI_ (1 : Int32), sI_ (1 : Int32), sI_ c0]) rfl ?_
    refine XS.goto X_2.here hx rfl (pc0 := 41) (pc' := 3) rfl (hb hby d_rm_cmi1_41) (by decide) (by decide) ?_
    refine XS.iload X_2.here hx rfl (hb hby d_rm_cmi1_3) rfl ?_
    refine XS.iload X_2.here hx rfl (hb hby d_rm_cmi1_5) rfl ?_
    refine XS.icmpYes X_2.here hx rfl (pc0 := 7) (pc' := 44) rfl (hb hby d_rm_cmi1_7) rfl (XT.ii_ge_t (by decide)) (by decide) (by decide) ?_
    refine XS.iload X_2.here hx rfl (hb hby d_rm_cmi1_44) rfl ?_
    exact kt
  refine Goes.retI X_2 hx hlk hret (hb hby d_rm_cmi1_46) (by decide) (by decide) ?_
  try rw [e_2]
  exact ⟨rfl, N_2, K_5, V_2⟩
theorem d_rm_cm1_0 : decode jdk_52_method_16_code 0 = .ok (.iload_n 2, 1) := by decide +kernel
theorem d_rm_cm1_1 : decode jdk_52_method_16_code 1 = .ok (.newarray .byte, 2) := by decide +kernel
theorem d_rm_cm1_3 : decode jdk_52_method_16_code 3 = .ok (.astore_n 3, 1) := by decide +kernel
theorem d_rm_cm1_4 : decode jdk_52_method_16_code 4 = .ok (.aload_n 0, 1) := by decide +kernel
theorem d_rm_cm1_5 : decode jdk_52_method_16_code 5 = .ok (.iload_n 1, 1) := by decide +kernel
theorem d_rm_cm1_6 : decode jdk_52_method_16_code 6 = .ok (.aload_n 3, 1) := by decide +kernel
theorem d_rm_cm1_7 : decode jdk_52_method_16_code 7 = .ok (.iconst 0, 1) := by decide +kernel
theorem d_rm_cm1_8 : decode jdk_52_method_16_code 8 = .ok (.iload_n 2, 1) := by decide +kernel
theorem d_rm_cm1_9 : decode jdk_52_method_16_code 9 = .ok (.invokestatic 115, 3) := by decide +kernel
theorem d_rm_cm1_12 : decode jdk_52_method_16_code 12 = .ok (.istore 4, 2) := by decide +kernel
theorem d_rm_cm1_14 : decode jdk_52_method_16_code 14 = .ok (.iload 4, 2) := by decide +kernel
theorem d_rm_cm1_16 : decode jdk_52_method_16_code 16 = .ok (.iload_n 2, 1) := by decide +kernel
theorem d_rm_cm1_17 : decode jdk_52_method_16_code 17 = .ok (.if_icmp .eq 40, 3) := by decide +kernel
theorem d_rm_cm1_57 : decode jdk_52_method_16_code 57 = .ok (.aload_n 3, 1) := by decide +kernel
theorem d_rm_cm1_58 : decode jdk_52_method_16_code 58 = .ok (.areturn, 1) := by decide +kernel
set_option maxHeartbeats 4000000 in
theorem ef_rm_cm1 (m : MethodId) (x0 : Addr) (x1 : Int32) (x2 : Int32)  : entryFrame m #[(.ref x0), (.int x1), (.int x2)] 6 = mkF m 0 #[.val (.ref x0), .val (.int x1), .val (.int x2), .unset, .unset, .unset] [] := by first | (simp [entryFrame, mkF, argsToLocals, catR, catN, catI, catJ]; done) | rfl
set_option maxRecDepth 65536 in
set_option maxHeartbeats 40000000 in
theorem rm_cm1 (l : Launch) (Z : State) (a0 : Array Value) (hw : ∀ d ∈ tables_1, d.before a0 Z = true) (ws : List Jvm.Cond) (ca : Addr) (kc : ClassId) (c0 : Int32) (h0 : Heap) (n0 : Nat) (Z0 : n0 ≤ h0.size) (Vc : Arv Z h0 ca kc .char (1 : Int32) [(.int c0)] (.int (0 : Int32))) (hc0 : ¬ (255 : Int32) < c0) :
    Pays l Z (⟨"java/lang/StringUTF16", "compress", "([CII)[B"⟩ : MethodName) jdk_52_method_16_code 6 (some (.array .byte)) ws ({ frames := 1, cells := 1, slots := 1, locals := 18 } : Room) #[(.ref ca), (.int (0 : Int32)), (.int (1 : Int32))] h0 (fun v h L => ∃ r kb, v = some (.ref r) ∧ Fr n0 L ∧ Ext h0 h ∧ Arv Z h r kb .byte (1 : Int32) [(.int (c0.toInt8.toInt32).toInt8.toInt32)] (.int (0 : Int32))) := by
  refine Pays.of (plainFor_of_name (by first | (simp [plainName, overriddenIn]; done) | decide +kernel)) ?_
  intro p e s m below meth c s₁ hx hby hml hown hnm hret hlk hZ e0 X0
  have N0 := Fr.nil n0
  have K0 : Keep h0 h0 [] := Keep.refl _ _
  refine Goes.go (U' := (s₁.setTop (mkF m 0 #[sR_ ca, sI_ (0 : Int32), sI_ (1 : Int32), sU_, sU_, sU_] []))) (fun t kt => castTop (ef_rm_cm1 m ca (0 : Int32) (1 : Int32)) kt) ?_
  refine Goes.go (U' := (s₁.setTop (mkF m 1 #[sR_ ca, sI_ (0 : Int32), sI_ (1 : Int32), sU_, sU_, sU_] [(.int (1 : Int32))]))) (fun t kt => ?_) ?_
  · skip
    refine XS.iloadN X0.here hx rfl (hb hby d_rm_cm1_0) rfl ?_
    exact kt
  obtain ⟨T_1, h_1, k_1, X_1, e_1, E_1, A_1, st_1⟩ := newP X0 hx hZ (wdOf hw 48 rfl) e0 (g := (mkF m 1 #[sR_ ca, sI_ (0 : Int32), sI_ (1 : Int32), sU_, sU_, sU_] [(.int (1 : Int32))])) rfl (hb hby d_rm_cm1_1) rfl (by decide) (cap := 1) (by decide) (by decide) (by decide) (by decide)
  obtain ⟨b_1, g_1⟩ : ∃ z, z = h0.size := ⟨_, rfl⟩
  rw [← g_1] at A_1 st_1
  have ne_2 : ca ≠ b_1 := Nat.ne_of_lt (Nat.lt_of_lt_of_le Vc.lt (Nat.le_of_eq g_1.symm))
  have o_1 : n0 ≤ b_1 := Nat.le_trans Z0 (Nat.le_of_eq g_1.symm)
  have z_1 : h0.size ≤ b_1 := Nat.le_trans K0.1 (Nat.le_of_eq g_1.symm)
  have f_3 : Arv Z h_1 ca kc .char (1 : Int32) [(.int c0)] (.int (0 : Int32)) := Vc.ext E_1
  have V_1 : Arv Z h_1 b_1 k_1 .byte (1 : Int32) [(.int (0 : Int32))] (.int (0 : Int32)) := (Arv.new A_1 (by decide)).pad (pad_rep [] (.int (0 : Int32)) 1)
  have K_4 : Keep h0 h_1 [] := K0.ext E_1
  have y_4 : n0 ≤ h_1.size := Nat.le_trans Z0 K_4.1
  refine Goes.go (U' := (T_1.setTop (mkF m 3 #[sR_ ca, sI_ (0 : Int32), sI_ (1 : Int32), sU_, sU_, sU_] [(.ref b_1)]))) st_1 ?_
  refine Goes.go (U' := (T_1.setTop (mkF m 9 #[sR_ ca, sI_ (0 : Int32), sI_ (1 : Int32), sR_ b_1, sU_, sU_] [(.int (1 : Int32)), (.int (0 : Int32)), (.ref b_1), (.int (0 : Int32)), (.ref ca)]))) (fun t kt => ?_) ?_
  · skip
    refine XS.astoreN X_1.here hx rfl (hb hby d_rm_cm1_3) rfl rfl (l' := #[sR_ ca, sI_ (0 : Int32), sI_ (1 : Int32), sR_ b_1, sU_, sU_]) rfl ?_
    refine XS.aloadN X_1.here hx rfl (hb hby d_rm_cm1_4) rfl rfl ?_
    refine XS.iloadN X_1.here hx rfl (hb hby d_rm_cm1_5) rfl ?_
    refine XS.aloadN X_1.here hx rfl (hb hby d_rm_cm1_6) rfl rfl ?_
    refine XS.iconst X_1.here hx rfl (hb hby d_rm_cm1_7) ?_
    refine XS.iloadN X_1.here hx rfl (hb hby d_rm_cm1_8) rfl ?_
    exact kt
  obtain ⟨v_5, T_5, L_5, X_5, q_5, st_5⟩ := callStatic X_1 hx hZ (y := (⟨"java/lang/StringUTF16", "compress", "([CI[BII)I"⟩ : MethodName)) (W := 0) hown (wdOf hw 49 rfl) (wdOf hw 50 rfl) (wdOf hw 46 rfl) (wdOf hw 51 rfl) (by decide) (rm_cmi1 l Z a0 hw [] ca b_1 kc k_1 c0 h_1 n0 y_4 o_1 ne_2 f_3 V_1 hc0) (by decide) (by decide) (by decide) (by decide) e_1 (g := (mkF m 9 #[sR_ ca, sI_ (0 : Int32), sI_ (1 : Int32), sR_ b_1, sU_, sU_] [(.int (1 : Int32)), (.int (0 : Int32)), (.ref b_1), (.int (0 : Int32)), (.ref ca)])) rfl (by rw [hml]; rfl) (argsL := [(.ref ca), (.int (0 : Int32)), (.ref b_1), (.int (0 : Int32)), (.int (1 : Int32))]) (rest := []) (lenOf pd_2 rfl) rfl rfl (Nat.le_refl _) (hb hby d_rm_cm1_9)
  obtain ⟨rfl, n_5, K_5, Vq_5⟩ := q_5
  have N_5 := Fr.app N0 n_5
  have f_6 : Arv Z T_5.heap ca kc .char (1 : Int32) [(.int c0)] (.int (0 : Int32)) := f_3.keep K_5 (ninS ne_2 nin0)
  have K_8 : Keep h0 T_5.heap [] := K_4.trans K_5 (allS (P := fun x => x ∈ [] ∨ h0.size ≤ x) (Or.inr z_1) all0)
  have y_8 : n0 ≤ T_5.heap.size := Nat.le_trans Z0 K_8.1
  refine Goes.go (U' := (T_5.setTop (mkF m 12 #[sR_ ca, sI_ (0 : Int32), sI_ (1 : Int32), sR_ b_1, sU_, sU_] [(.int (1 : Int32))]))) st_5 ?_
  refine Goes.go (U' := (T_5.setTop (mkF m 58 #[sR_ ca, sI_ (0 : Int32), sI_ (1 : Int32), sR_ b_1, sI_ (1 : Int32), sU_] [(.ref b_1)]))) (fun t kt => ?_) ?_
  · skip
    refine XS.istore X_5.here hx rfl (hb hby d_rm_cm1_12) rfl (l' := #[sR_ ca, sI_ (0 : Int32), sI_ (1 : Int32), sR_ b_1, sI_ (1 : Int32), sU_]) rfl ?_
    refine XS.iload X_5.here hx rfl (hb hby d_rm_cm1_14) rfl ?_
    refine XS.iloadN X_5.here hx rfl (hb hby d_rm_cm1_16) rfl ?_
    refine XS.icmpYes X_5.here hx rfl (pc0 := 17) (pc' := 57) rfl (hb hby d_rm_cm1_17) rfl (XT.ii_eq_t (by decide)) (by decide) (by decide) ?_
    refine XS.aloadN X_5.here hx rfl (hb hby d_rm_cm1_57) rfl rfl ?_
    exact kt
  refine Goes.retA X_5 hx hlk hret rfl rfl (hb hby d_rm_cm1_58) (by decide) (by decide) ?_
  try rw [(rfl : T_5.heap = T_5.heap)]
  exact ⟨_, _, rfl, N_5, Ext.of_keep K_8, Vq_5⟩
theorem d_rm_cfa1_0 : decode jdk_52_method_15_code 0 = .ok (.iload_n 1, 1) := by decide +kernel
theorem d_rm_cfa1_1 : decode jdk_52_method_15_code 1 = .ok (.aload_n 0, 1) := by decide +kernel
theorem d_rm_cfa1_2 : decode jdk_52_method_15_code 2 = .ok (.arraylength, 1) := by decide +kernel
theorem d_rm_cfa1_3 : decode jdk_52_method_15_code 3 = .ok (.isub, 1) := by decide +kernel
theorem d_rm_cfa1_4 : decode jdk_52_method_15_code 4 = .ok (.bipush 31, 2) := by decide +kernel
theorem d_rm_cfa1_6 : decode jdk_52_method_15_code 6 = .ok (.iushr, 1) := by decide +kernel
theorem d_rm_cfa1_7 : decode jdk_52_method_15_code 7 = .ok (.i2b, 1) := by decide +kernel
theorem d_rm_cfa1_8 : decode jdk_52_method_15_code 8 = .ok (.ireturn, 1) := by decide +kernel
set_option maxHeartbeats 4000000 in
theorem ef_rm_cfa1 (m : MethodId) (x0 : Addr) (x1 : Int32)  : entryFrame m #[(.ref x0), (.int x1)] 2 = mkF m 0 #[.val (.ref x0), .val (.int x1)] [] := by first | (simp [entryFrame, mkF, argsToLocals, catR, catN, catI, catJ]; done) | rfl
set_option maxRecDepth 65536 in
set_option maxHeartbeats 40000000 in
theorem rm_cfa1 (l : Launch) (Z : State) (a0 : Array Value) (hw : ∀ d ∈ tables_1, d.before a0 Z = true) (ws : List Jvm.Cond) (ba : Addr) (kb : ClassId) (c0 : Int32) (h0 : Heap) (n0 : Nat) (Z0 : n0 ≤ h0.size) (Vb : Arv Z h0 ba kb .byte (1 : Int32) [(.int (c0.toInt8.toInt32).toInt8.toInt32)] (.int (0 : Int32))) :
    Pays l Z (⟨"java/lang/StringUTF16", "coderFromArrayLen", "([BI)B"⟩ : MethodName) jdk_52_method_15_code 2 (some .byte) ws ({ frames := 0, cells := 0, slots := 0, locals := 0 } : Room) #[(.ref ba), (.int (1 : Int32))] h0 (fun v h L => v = some (.int (0 : Int32)) ∧ Fr n0 L ∧ h = h0) := by
  refine Pays.of (plainFor_of_name (by first | (simp [plainName, overriddenIn]; done) | decide +kernel)) ?_
  intro p e s m below meth c s₁ hx hby hml hown hnm hret hlk hZ e0 X0
  have N0 := Fr.nil n0
  have K0 : Keep h0 h0 [] := Keep.refl _ _
  refine Goes.go (U' := (s₁.setTop (mkF m 0 #[sR_ ba, sI_ (1 : Int32)] []))) (fun t kt => castTop (ef_rm_cfa1 m ba (1 : Int32)) kt) ?_
  refine Goes.go (U' := (s₁.setTop (mkF m 2 #[sR_ ba, sI_ (1 : Int32)] [(.ref ba), (.int (1 : Int32))]))) (fun t kt => ?_) ?_
  · skip
    refine XS.iloadN X0.here hx rfl (hb hby d_rm_cfa1_0) rfl ?_
    refine XS.aloadN X0.here hx rfl (hb hby d_rm_cfa1_1) rfl rfl ?_
    exact kt
  obtain ⟨cl_1, Ar_1, q_1, S_1, M_1, H_1, G_1⟩ := id Vb
  refine Goes.go (U' := (s₁.setTop (mkF m 3 #[sR_ ba, sI_ (1 : Int32)] [(.int (1 : Int32)), (.int (1 : Int32))]))) (fun t kt => ?_) ?_
  · skip
    refine X0.arraylength hx (by rw [e0]; exact Ar_1.1) (State.isArrayOf_alike hZ.alike Ar_1.2.1) (g := (mkF m 2 #[sR_ ba, sI_ (1 : Int32)] [(.ref ba), (.int (1 : Int32))])) rfl rfl (hb hby d_rm_cfa1_2) _ ?_
    rw [len_of S_1 M_1]
    exact kt
  refine Goes.go (U' := (s₁.setTop (mkF m 8 #[sR_ ba, sI_ (1 : Int32)] [(.int (((((1 : Int32) - (1 : Int32)).toUInt32 >>> ((31 : Int32) &&& 31).toUInt32).toInt32).toInt8.toInt32))]))) (fun t kt => ?_) ?_
  · skip
    refine XS.isub X0.here hx rfl (hb hby d_rm_cfa1_3) rfl ?_
    refine XS.bipush X0.here hx rfl (hb hby d_rm_cfa1_4) ?_
    refine XS.iushr X0.here hx rfl (hb hby d_rm_cfa1_6) rfl ?_
    refine XS.i2b X0.here hx rfl (hb hby d_rm_cfa1_7) rfl ?_
    exact kt
  refine Goes.retY X0 hx hlk hret (hb hby d_rm_cfa1_8) (by decide) (by decide) ?_
  try rw [e0]
  exact ⟨by decide, N0, rfl⟩
theorem d_rm_sv1_0 : decode jdk_42_method_149_code 0 = .ok (.aload_n 0, 1) := by decide +kernel
theorem d_rm_sv1_1 : decode jdk_42_method_149_code 1 = .ok (.invokespecial 1, 3) := by decide +kernel
theorem d_rm_sv1_4 : decode jdk_42_method_149_code 4 = .ok (.iload_n 3, 1) := by decide +kernel
theorem d_rm_sv1_5 : decode jdk_42_method_149_code 5 = .ok (.ifCond .ne 22, 3) := by decide +kernel
theorem d_rm_sv1_27 : decode jdk_42_method_149_code 27 = .ok (.getstatic 38, 3) := by decide +kernel
theorem d_rm_sv1_30 : decode jdk_42_method_149_code 30 = .ok (.ifCond .eq 28, 3) := by decide +kernel
theorem d_rm_sv1_33 : decode jdk_42_method_149_code 33 = .ok (.aload_n 1, 1) := by decide +kernel
theorem d_rm_sv1_34 : decode jdk_42_method_149_code 34 = .ok (.iload_n 2, 1) := by decide +kernel
theorem d_rm_sv1_35 : decode jdk_42_method_149_code 35 = .ok (.iload_n 3, 1) := by decide +kernel
theorem d_rm_sv1_36 : decode jdk_42_method_149_code 36 = .ok (.invokestatic 177, 3) := by decide +kernel
theorem d_rm_sv1_39 : decode jdk_42_method_149_code 39 = .ok (.astore 5, 2) := by decide +kernel
theorem d_rm_sv1_41 : decode jdk_42_method_149_code 41 = .ok (.aload_n 0, 1) := by decide +kernel
theorem d_rm_sv1_42 : decode jdk_42_method_149_code 42 = .ok (.aload 5, 2) := by decide +kernel
theorem d_rm_sv1_44 : decode jdk_42_method_149_code 44 = .ok (.iload_n 3, 1) := by decide +kernel
theorem d_rm_sv1_45 : decode jdk_42_method_149_code 45 = .ok (.invokestatic 47, 3) := by decide +kernel
theorem d_rm_sv1_48 : decode jdk_42_method_149_code 48 = .ok (.putfield 15, 3) := by decide +kernel
theorem d_rm_sv1_51 : decode jdk_42_method_149_code 51 = .ok (.aload_n 0, 1) := by decide +kernel
theorem d_rm_sv1_52 : decode jdk_42_method_149_code 52 = .ok (.aload 5, 2) := by decide +kernel
theorem d_rm_sv1_54 : decode jdk_42_method_149_code 54 = .ok (.putfield 9, 3) := by decide +kernel
theorem d_rm_sv1_57 : decode jdk_42_method_149_code 57 = .ok (.return_, 1) := by decide +kernel
set_option maxHeartbeats 4000000 in
theorem ef_rm_sv1 (m : MethodId) (x0 : Addr) (x1 : Addr) (x2 : Int32) (x3 : Int32)  : entryFrame m #[(.ref x0), (.ref x1), (.int x2), (.int x3), .null] 6 = mkF m 0 #[.val (.ref x0), .val (.ref x1), .val (.int x2), .val (.int x3), .val .null, .unset] [] := by first | (simp [entryFrame, mkF, argsToLocals, catR, catN, catI, catJ]; done) | rfl
set_option maxRecDepth 65536 in
set_option maxHeartbeats 40000000 in
theorem rm_sv1 (l : Launch) (Z : State) (a0 : Array Value) (hw : ∀ d ∈ tables_1, d.before a0 Z = true) (ws : List Jvm.Cond) (ax ca : Addr) (kc : ClassId) (cs : Int32) (c0 : Int32) (h0 : Heap) (n0 : Nat) (Z0 : n0 ≤ h0.size) (O : Old Z n0 h0) (SC : Sta Z Z.heap "java/lang/String" "COMPACT_STRINGS" "Z" (.int cs)) (hcs : ¬ cs = 0) (o0 : n0 ≤ ax) (E0 : Exa Z h0 ax "java/lang/String") (F0_value : Fld Z h0 ax "java/lang/String" "value" "[B" .null) (F0_coder : Fld Z h0 ax "java/lang/String" "coder" "B" (.int (0 : Int32))) (Vc : Arv Z h0 ca kc .char (1 : Int32) [(.int c0)] (.int (0 : Int32))) (hc0 : ¬ (255 : Int32) < c0) :
    Pays l Z (⟨"java/lang/String", "<init>", "([CIILjava/lang/Void;)V"⟩ : MethodName) jdk_42_method_149_code 6 none ws ({ frames := 2, cells := 1, slots := 1, locals := 35 } : Room) #[(.ref ax), (.ref ca), (.int (0 : Int32)), (.int (1 : Int32)), .null] h0 (fun v h L => v = none ∧ Fr n0 L ∧ Keep h0 h [ax] ∧ Exa Z h ax "java/lang/String") := by
  refine Pays.of (plainFor_of_name (by first | (simp [plainName, overriddenIn]; done) | decide +kernel)) ?_
  intro p e s m below meth c s₁ hx hby hml hown hnm hret hlk hZ e0 X0
  have N0 := Fr.nil n0
  have K0 : Keep h0 h0 [ax] := Keep.refl _ _
  refine Goes.go (U' := (s₁.setTop (mkF m 0 #[sR_ ax, sR_ ca, sI_ (0 : Int32), sI_ (1 : Int32), .val .null, sU_] []))) (fun t kt => castTop (ef_rm_sv1 m ax ca (0 : Int32) (1 : Int32)) kt) ?_
  refine Goes.go (U' := (s₁.setTop (mkF m 1 #[sR_ ax, sR_ ca, sI_ (0 : Int32), sI_ (1 : Int32), .val .null, sU_] [(.ref ax)]))) (fun t kt => ?_) ?_
  · skip
    refine XS.aloadN X0.here hx rfl (hb hby d_rm_sv1_0) rfl rfl ?_
    exact kt
  obtain ⟨T_1, X_1, e_1, st_1⟩ := initO X0 hx hZ hown (wdOf hw 42 rfl) (wdOf hw 8 rfl) (wdOf hw 9 rfl) e0 (g := (mkF m 1 #[sR_ ax, sR_ ca, sI_ (0 : Int32), sI_ (1 : Int32), .val .null, sU_] [(.ref ax)])) rfl (by rw [hml]; rfl) rfl (hb hby d_rm_sv1_1) (by decide) (W := 0) (Nat.le_refl _) (by decide)
  refine Goes.go (U' := (T_1.setTop (mkF m 4 #[sR_ ax, sR_ ca, sI_ (0 : Int32), sI_ (1 : Int32), .val .null, sU_] []))) st_1 ?_
  refine Goes.go (U' := (T_1.setTop (mkF m 27 #[sR_ ax, sR_ ca, sI_ (0 : Int32), sI_ (1 : Int32), .val .null, sU_] []))) (fun t kt => ?_) ?_
  · skip
    refine XS.iloadN X_1.here hx rfl (hb hby d_rm_sv1_4) rfl ?_
    refine XS.ifYes X_1.here hx rfl (pc0 := 5) (pc' := 27) rfl (hb hby d_rm_sv1_5) rfl (XT.i0_ne_t (by decide)) (by decide) (by decide) ?_
    exact kt
  obtain ⟨T_2, X_2, e_2, st_2⟩ := getS X_1 hx hZ hown (host := "") (wdOf hw 43 rfl) Via.refl e_1 (SC.ext O.2) (g := (mkF m 27 #[sR_ ax, sR_ ca, sI_ (0 : Int32), sI_ (1 : Int32), .val .null, sU_] [])) rfl (hb hby d_rm_sv1_27)
  refine Goes.go (U' := (T_2.setTop (mkF m 30 #[sR_ ax, sR_ ca, sI_ (0 : Int32), sI_ (1 : Int32), .val .null, sU_] [(.int cs)]))) st_2 ?_
  refine Goes.go (U' := (T_2.setTop (mkF m 36 #[sR_ ax, sR_ ca, sI_ (0 : Int32), sI_ (1 : Int32), .val .null, sU_] [(.int (1 : Int32)), (.int (0 : Int32)), (.ref ca)]))) (fun t kt => ?_) ?_
  · skip
    refine XS.ifNo X_2.here hx rfl (hb hby d_rm_sv1_30) rfl (XT.i0_eq_f hcs) ?_
    refine XS.aloadN X_2.here hx rfl (hb hby d_rm_sv1_33) rfl rfl ?_
    refine XS.iloadN X_2.here hx rfl (hb hby d_rm_sv1_34) rfl ?_
    refine XS.iloadN X_2.here hx rfl (hb hby d_rm_sv1_35) rfl ?_
    exact kt
  obtain ⟨v_3, T_3, L_3, X_3, q_3, st_3⟩ := callStatic X_2 hx hZ (y := (⟨"java/lang/StringUTF16", "compress", "([CII)[B"⟩ : MethodName)) (W := 0) hown (wdOf hw 44 rfl) (wdOf hw 45 rfl) (wdOf hw 46 rfl) (wdOf hw 47 rfl) (by decide) (rm_cm1 l Z a0 hw [] ca kc c0 h0 n0 Z0 Vc hc0) (by decide) (by decide) (by decide) (by decide) e_2 (g := (mkF m 36 #[sR_ ax, sR_ ca, sI_ (0 : Int32), sI_ (1 : Int32), .val .null, sU_] [(.int (1 : Int32)), (.int (0 : Int32)), (.ref ca)])) rfl (by rw [hml]; rfl) (argsL := [(.ref ca), (.int (0 : Int32)), (.int (1 : Int32))]) (rest := []) (lenOf pd_3 rfl) rfl rfl (Nat.le_refl _) (hb hby d_rm_sv1_36)
  obtain ⟨r_3, kb_3, rfl, n_3, K_3, Vq_3⟩ := q_3
  have N_3 := Fr.app N0 n_3
  have f_4 : Exa Z T_3.heap ax "java/lang/String" := E0.ext K_3
  have f_5 : Fld Z T_3.heap ax "java/lang/String" "value" "[B" .null := F0_value.ext K_3
  have f_6 : Fld Z T_3.heap ax "java/lang/String" "coder" "B" (.int (0 : Int32)) := F0_coder.ext K_3
  have f_7 : Arv Z T_3.heap ca kc .char (1 : Int32) [(.int c0)] (.int (0 : Int32)) := Vc.ext K_3
  have f_8 : Sta Z T_3.heap "java/lang/String" "COMPACT_STRINGS" "Z" (.int cs) := (SC.ext O.2).ext K_3
  have K_9 : Keep h0 T_3.heap [ax] := K0.ext K_3
  have y_9 : n0 ≤ T_3.heap.size := Nat.le_trans Z0 K_9.1
  refine Goes.go (U' := (T_3.setTop (mkF m 39 #[sR_ ax, sR_ ca, sI_ (0 : Int32), sI_ (1 : Int32), .val .null, sU_] [(.ref r_3)]))) st_3 ?_
  have nrs : r_3 ≠ ax := (f_4.neArv Vq_3 (wdOf hw 33 rfl)).symm
  have ncs : ca ≠ ax := (f_4.neArv f_7 (wdOf hw 33 rfl)).symm
  refine Goes.go (U' := (T_3.setTop (mkF m 45 #[sR_ ax, sR_ ca, sI_ (0 : Int32), sI_ (1 : Int32), .val .null, sR_ r_3] [(.int (1 : Int32)), (.ref r_3), (.ref ax)]))) (fun t kt => ?_) ?_
  · skip
    refine XS.astore X_3.here hx rfl (hb hby d_rm_sv1_39) rfl rfl (l' := #[sR_ ax, sR_ ca, sI_ (0 : Int32), sI_ (1 : Int32), .val .null, sR_ r_3]) rfl ?_
    refine XS.aloadN X_3.here hx rfl (hb hby d_rm_sv1_41) rfl rfl ?_
    refine XS.aload X_3.here hx rfl (hb hby d_rm_sv1_42) rfl rfl ?_
    refine XS.iloadN X_3.here hx rfl (hb hby d_rm_sv1_44) rfl ?_
    exact kt
  obtain ⟨v_10, T_10, L_10, X_10, q_10, st_10⟩ := callStatic X_3 hx hZ (y := (⟨"java/lang/StringUTF16", "coderFromArrayLen", "([BI)B"⟩ : MethodName)) (W := 1) hown (wdOf hw 52 rfl) (wdOf hw 53 rfl) (wdOf hw 46 rfl) (wdOf hw 54 rfl) (by decide) (rm_cfa1 l Z a0 hw [] r_3 kb_3 c0 T_3.heap n0 y_9 Vq_3) (by decide) (by decide) (by decide) (by decide) (rfl : T_3.heap = T_3.heap) (g := (mkF m 45 #[sR_ ax, sR_ ca, sI_ (0 : Int32), sI_ (1 : Int32), .val .null, sR_ r_3] [(.int (1 : Int32)), (.ref r_3), (.ref ax)])) rfl (by rw [hml]; rfl) (argsL := [(.ref r_3), (.int (1 : Int32))]) (rest := [(.ref ax)]) (lenOf pd_4 rfl) rfl rfl (Nat.le_refl _) (hb hby d_rm_sv1_45)
  obtain ⟨rfl, n_10, K_10⟩ := q_10
  have N_10 := Fr.app N_3 n_10
  refine Goes.go (U' := (T_10.setTop (mkF m 48 #[sR_ ax, sR_ ca, sI_ (0 : Int32), sI_ (1 : Int32), .val .null, sR_ r_3] [(.int (0 : Int32)), (.ref ax)]))) st_10 ?_
  obtain ⟨T_11, h_11, X_11, e_11, W_11, st_11⟩ := putFN X_10 hx hZ hown (wdOf hw 55 rfl) Via.refl K_10 f_6 f_4 (Or.inr ⟨wdOf hw 56 rfl, rfl, hnm⟩) (wdOf hw 33 rfl) (ty := .byte) (v' := (.int (0 : Int32))) (by decide) rfl rfl (g := (mkF m 48 #[sR_ ax, sR_ ca, sI_ (0 : Int32), sI_ (1 : Int32), .val .null, sR_ r_3] [(.int (0 : Int32)), (.ref ax)])) rfl rfl (hb hby d_rm_sv1_48)
  have N_11 := Fr.snoc X_11 N_10 o0
  have f_12 : Exa Z h_11 ax "java/lang/String" := f_4.wr W_11
  have f_13 : Fld Z h_11 ax "java/lang/String" "value" "[B" .null := f_5.other W_11 (Or.inr (slot_ne (Or.inr (wdOf hw 58 rfl)) (Or.inr (wdOf hw 56 rfl)) (by decide) (t := (.array .byte)) (t' := .byte) (by decide) (by decide)))
  have f_14 : Fld Z h_11 ax "java/lang/String" "coder" "B" (.int (0 : Int32)) := f_6.same W_11
  have f_15 : Arv Z h_11 ca kc .char (1 : Int32) [(.int c0)] (.int (0 : Int32)) := f_7.other W_11 ncs
  have f_16 : Sta Z h_11 "java/lang/String" "COMPACT_STRINGS" "Z" (.int cs) := f_8.wr W_11
  have f_17 : Arv Z h_11 r_3 kb_3 .byte (1 : Int32) [(.int (c0.toInt8.toInt32).toInt8.toInt32)] (.int (0 : Int32)) := Vq_3.other W_11 nrs
  have K_18 : Keep h0 h_11 [ax] := K_9.wr W_11 (Or.inl (List.mem_of_getElem? (i := 0) rfl))
  have y_18 : n0 ≤ h_11.size := Nat.le_trans Z0 K_18.1
  refine Goes.go (U' := (T_11.setTop (mkF m 51 #[sR_ ax, sR_ ca, sI_ (0 : Int32), sI_ (1 : Int32), .val .null, sR_ r_3] []))) st_11 ?_
  refine Goes.go (U' := (T_11.setTop (mkF m 54 #[sR_ ax, sR_ ca, sI_ (0 : Int32), sI_ (1 : Int32), .val .null, sR_ r_3] [(.ref r_3), (.ref ax)]))) (fun t kt => ?_) ?_
  · skip
    refine XS.aloadN X_11.here hx rfl (hb hby d_rm_sv1_51) rfl rfl ?_
    refine XS.aload X_11.here hx rfl (hb hby d_rm_sv1_52) rfl rfl ?_
    exact kt
  obtain ⟨T_19, h_19, X_19, e_19, W_19, st_19⟩ := putF X_11 hx hZ hown (host := "") (Or.inl (wdOf hw 57 rfl)) Via.refl e_11 f_13 f_12 (Or.inr ⟨wdOf hw 58 rfl, rfl, hnm⟩) (wdOf hw 33 rfl) (ty := (.array .byte)) (by decide) rfl rfl (g := (mkF m 54 #[sR_ ax, sR_ ca, sI_ (0 : Int32), sI_ (1 : Int32), .val .null, sR_ r_3] [(.ref r_3), (.ref ax)])) rfl rfl (hb hby d_rm_sv1_54)
  have N_19 := Fr.snoc X_19 N_11 o0
  have f_20 : Exa Z h_19 ax "java/lang/String" := f_12.wr W_19
  have f_21 : Fld Z h_19 ax "java/lang/String" "value" "[B" (.ref r_3) := f_13.same W_19
  have f_22 : Fld Z h_19 ax "java/lang/String" "coder" "B" (.int (0 : Int32)) := f_14.other W_19 (Or.inr (slot_ne (Or.inr (wdOf hw 56 rfl)) (Or.inr (wdOf hw 58 rfl)) (by decide) (t := .byte) (t' := (.array .byte)) (by decide) (by decide)))
  have f_23 : Arv Z h_19 ca kc .char (1 : Int32) [(.int c0)] (.int (0 : Int32)) := f_15.other W_19 ncs
  have f_24 : Sta Z h_19 "java/lang/String" "COMPACT_STRINGS" "Z" (.int cs) := f_16.wr W_19
  have f_25 : Arv Z h_19 r_3 kb_3 .byte (1 : Int32) [(.int (c0.toInt8.toInt32).toInt8.toInt32)] (.int (0 : Int32)) := f_17.other W_19 nrs
  have K_26 : Keep h0 h_19 [ax] := K_18.wr W_19 (Or.inl (List.mem_of_getElem? (i := 0) rfl))
  have y_26 : n0 ≤ h_19.size := Nat.le_trans Z0 K_26.1
  refine Goes.go (U' := (T_19.setTop (mkF m 57 #[sR_ ax, sR_ ca, sI_ (0 : Int32), sI_ (1 : Int32), .val .null, sR_ r_3] []))) st_19 ?_
  refine Goes.retV X_19 hx hlk hret (hb hby d_rm_sv1_57) (by decide) (by decide) ?_
  try rw [e_19]
  exact ⟨rfl, N_19, K_26, f_20⟩
theorem d_rm_sc1_0 : decode jdk_42_method_3_code 0 = .ok (.aload_n 0, 1) := by decide +kernel
theorem d_rm_sc1_1 : decode jdk_42_method_3_code 1 = .ok (.aload_n 1, 1) := by decide +kernel
theorem d_rm_sc1_2 : decode jdk_42_method_3_code 2 = .ok (.iconst 0, 1) := by decide +kernel
theorem d_rm_sc1_3 : decode jdk_42_method_3_code 3 = .ok (.aload_n 1, 1) := by decide +kernel
theorem d_rm_sc1_4 : decode jdk_42_method_3_code 4 = .ok (.arraylength, 1) := by decide +kernel
theorem d_rm_sc1_5 : decode jdk_42_method_3_code 5 = .ok (.aconst_null, 1) := by decide +kernel
theorem d_rm_sc1_6 : decode jdk_42_method_3_code 6 = .ok (.invokespecial 27, 3) := by decide +kernel
theorem d_rm_sc1_9 : decode jdk_42_method_3_code 9 = .ok (.return_, 1) := by decide +kernel
set_option maxHeartbeats 4000000 in
theorem ef_rm_sc1 (m : MethodId) (x0 : Addr) (x1 : Addr)  : entryFrame m #[(.ref x0), (.ref x1)] 2 = mkF m 0 #[.val (.ref x0), .val (.ref x1)] [] := by first | (simp [entryFrame, mkF, argsToLocals, catR, catN, catI, catJ]; done) | rfl
set_option maxRecDepth 65536 in
set_option maxHeartbeats 40000000 in
theorem rm_sc1 (l : Launch) (Z : State) (a0 : Array Value) (hw : ∀ d ∈ tables_1, d.before a0 Z = true) (ws : List Jvm.Cond) (ax ca : Addr) (kc : ClassId) (cs : Int32) (c0 : Int32) (h0 : Heap) (n0 : Nat) (Z0 : n0 ≤ h0.size) (O : Old Z n0 h0) (SC : Sta Z Z.heap "java/lang/String" "COMPACT_STRINGS" "Z" (.int cs)) (hcs : ¬ cs = 0) (o0 : n0 ≤ ax) (E0 : Exa Z h0 ax "java/lang/String") (F0_value : Fld Z h0 ax "java/lang/String" "value" "[B" .null) (F0_coder : Fld Z h0 ax "java/lang/String" "coder" "B" (.int (0 : Int32))) (Vc : Arv Z h0 ca kc .char (1 : Int32) [(.int c0)] (.int (0 : Int32))) (hc0 : ¬ (255 : Int32) < c0) :
    Pays l Z (⟨"java/lang/String", "<init>", "([C)V"⟩ : MethodName) jdk_42_method_3_code 2 none ws ({ frames := 3, cells := 1, slots := 1, locals := 52 } : Room) #[(.ref ax), (.ref ca)] h0 (fun v h L => v = none ∧ Fr n0 L ∧ Keep h0 h [ax] ∧ Exa Z h ax "java/lang/String") := by
  refine Pays.of (plainFor_of_name (by first | (simp [plainName, overriddenIn]; done) | decide +kernel)) ?_
  intro p e s m below meth c s₁ hx hby hml hown hnm hret hlk hZ e0 X0
  have N0 := Fr.nil n0
  have K0 : Keep h0 h0 [ax] := Keep.refl _ _
  refine Goes.go (U' := (s₁.setTop (mkF m 0 #[sR_ ax, sR_ ca] []))) (fun t kt => castTop (ef_rm_sc1 m ax ca) kt) ?_
  refine Goes.go (U' := (s₁.setTop (mkF m 4 #[sR_ ax, sR_ ca] [(.ref ca), (.int (0 : Int32)), (.ref ca), (.ref ax)]))) (fun t kt => ?_) ?_
  · skip
    refine XS.aloadN X0.here hx rfl (hb hby d_rm_sc1_0) rfl rfl ?_
    refine XS.aloadN X0.here hx rfl (hb hby d_rm_sc1_1) rfl rfl ?_
    refine XS.iconst X0.here hx rfl (hb hby d_rm_sc1_2) ?_
    refine XS.aloadN X0.here hx rfl (hb hby d_rm_sc1_3) rfl rfl ?_
    exact kt
  obtain ⟨cl_1, Ar_1, q_1, S_1, M_1, H_1, G_1⟩ := id Vc
  refine Goes.go (U' := (s₁.setTop (mkF m 5 #[sR_ ax, sR_ ca] [(.int (1 : Int32)), (.int (0 : Int32)), (.ref ca), (.ref ax)]))) (fun t kt => ?_) ?_
  · skip
    refine X0.arraylength hx (by rw [e0]; exact Ar_1.1) (State.isArrayOf_alike hZ.alike Ar_1.2.1) (g := (mkF m 4 #[sR_ ax, sR_ ca] [(.ref ca), (.int (0 : Int32)), (.ref ca), (.ref ax)])) rfl rfl (hb hby d_rm_sc1_4) _ ?_
    rw [len_of S_1 M_1]
    exact kt
  refine Goes.go (U' := (s₁.setTop (mkF m 6 #[sR_ ax, sR_ ca] [.null, (.int (1 : Int32)), (.int (0 : Int32)), (.ref ca), (.ref ax)]))) (fun t kt => ?_) ?_
  · skip
    refine XS.aconstNull X0.here hx rfl (hb hby d_rm_sc1_5) ?_
    exact kt
  obtain ⟨v_2, T_2, L_2, X_2, q_2, st_2⟩ := callInit X0 hx hZ (y := (⟨"java/lang/String", "<init>", "([CIILjava/lang/Void;)V"⟩ : MethodName)) (W := 0) rfl hown (wdOf hw 38 rfl) (wdOf hw 39 rfl) (wdOf hw 34 rfl) (wdOf hw 41 rfl) (by decide) (rm_sv1 l Z a0 hw [] ax ca kc cs c0 h0 n0 Z0 O SC hcs o0 E0 F0_value F0_coder Vc hc0) (by decide) (by decide) (by decide) (by decide) e0 (b := ax) (g := (mkF m 6 #[sR_ ax, sR_ ca] [.null, (.int (1 : Int32)), (.int (0 : Int32)), (.ref ca), (.ref ax)])) rfl (by rw [hml]; rfl) (argsL := [(.ref ca), (.int (0 : Int32)), (.int (1 : Int32)), .null]) (rest := []) (lenOf pd_5 rfl) rfl rfl (Nat.le_refl _) (hb hby d_rm_sc1_6)
  obtain ⟨rfl, n_2, K_2, Eq_2⟩ := q_2
  have N_2 := Fr.app N0 n_2
  have f_3 : Exa Z T_2.heap ax "java/lang/String" := E0.keep K_2
  have K_6 : Keep h0 T_2.heap [ax] := K0.trans K_2 (allS (P := fun x => x ∈ [ax] ∨ h0.size ≤ x) (Or.inl (List.mem_of_getElem? (i := 0) rfl)) all0)
  have y_6 : n0 ≤ T_2.heap.size := Nat.le_trans Z0 K_6.1
  refine Goes.go (U' := (T_2.setTop (mkF m 9 #[sR_ ax, sR_ ca] []))) st_2 ?_
  refine Goes.retV X_2 hx hlk hret (hb hby d_rm_sc1_9) (by decide) (by decide) ?_
  try rw [(rfl : T_2.heap = T_2.heap)]
  exact ⟨rfl, N_2, K_6, f_3⟩
theorem d_rm_rn_0 : decode jdk_31_method_11_code 0 = .ok (.aload_n 0, 1) := by decide +kernel
theorem d_rm_rn_1 : decode jdk_31_method_11_code 1 = .ok (.ifnonnull 12, 3) := by decide +kernel
theorem d_rm_rn_13 : decode jdk_31_method_11_code 13 = .ok (.aload_n 0, 1) := by decide +kernel
theorem d_rm_rn_14 : decode jdk_31_method_11_code 14 = .ok (.areturn, 1) := by decide +kernel
set_option maxHeartbeats 4000000 in
theorem ef_rm_rn (m : MethodId) (x0 : Addr) (x1 : Addr)  : entryFrame m #[(.ref x0), (.ref x1)] 2 = mkF m 0 #[.val (.ref x0), .val (.ref x1)] [] := by first | (simp [entryFrame, mkF, argsToLocals, catR, catN, catI, catJ]; done) | rfl
set_option maxRecDepth 65536 in
set_option maxHeartbeats 40000000 in
theorem rm_rn (l : Launch) (Z : State) (a0 : Array Value) (hw : ∀ d ∈ tables_1, d.before a0 Z = true) (ws : List Jvm.Cond) (ax bx : Addr) (h0 : Heap) (n0 : Nat) (Z0 : n0 ≤ h0.size)  :
    Pays l Z (⟨"java/util/Objects", "requireNonNull", "(Ljava/lang/Object;Ljava/lang/String;)Ljava/lang/Object;"⟩ : MethodName) jdk_31_method_11_code 2 (some (.object "java/lang/Object")) ws ({ frames := 0, cells := 0, slots := 0, locals := 0 } : Room) #[(.ref ax), (.ref bx)] h0 (fun v h L => v = some (.ref ax) ∧ Fr n0 L ∧ h = h0) := by
  refine Pays.of (plainFor_of_name (by first | (simp [plainName, overriddenIn]; done) | decide +kernel)) ?_
  intro p e s m below meth c s₁ hx hby hml hown hnm hret hlk hZ e0 X0
  have N0 := Fr.nil n0
  have K0 : Keep h0 h0 [] := Keep.refl _ _
  refine Goes.go (U' := (s₁.setTop (mkF m 0 #[sR_ ax, sR_ bx] []))) (fun t kt => castTop (ef_rm_rn m ax bx) kt) ?_
  refine Goes.go (U' := (s₁.setTop (mkF m 14 #[sR_ ax, sR_ bx] [(.ref ax)]))) (fun t kt => ?_) ?_
  · skip
    refine XS.aloadN X0.here hx rfl (hb hby d_rm_rn_0) rfl rfl ?_
    refine XS.ifnonnullYes X0.here hx rfl (pc0 := 1) (pc' := 13) rfl (hb hby d_rm_rn_1) rfl (by decide) (by decide) ?_
    refine XS.aloadN X0.here hx rfl (hb hby d_rm_rn_13) rfl rfl ?_
    exact kt
  refine Goes.retA X0 hx hlk hret rfl rfl (hb hby d_rm_rn_14) (by decide) (by decide) ?_
  try rw [e0]
  exact ⟨rfl, N0, rfl⟩
theorem own_sa {Z : State} {a0 : Array Value} (hw : ∀ d ∈ tables_1, d.before a0 Z = true) : ∀ d ∈ Bundle.stringAtoms, d.before a0 Z = true := fun d hd => by
  simp only [Bundle.stringAtoms, Bundle.sN, List.mem_cons, List.not_mem_nil, or_false] at hd
  rcases hd with rfl | rfl | rfl | rfl | rfl | rfl | rfl
  · exact (wdOf hw 34 rfl)
  · exact (wdOf hw 33 rfl)
  · exact (wdOf hw 48 rfl)
  · exact (wdOf hw 58 rfl)
  · exact (wdOf hw 56 rfl)
  · exact (wdOf hw 64 rfl)
  · exact (wdOf hw 65 rfl)
theorem d_rm_svi_0 : decode prog_80_method_1_code 0 = .ok (.aload_n 0, 1) := by decide +kernel
theorem d_rm_svi_1 : decode prog_80_method_1_code 1 = .ok (.invokespecial 1, 3) := by decide +kernel
theorem d_rm_svi_4 : decode prog_80_method_1_code 4 = .ok (.aload_n 0, 1) := by decide +kernel
theorem d_rm_svi_5 : decode prog_80_method_1_code 5 = .ok (.aload_n 1, 1) := by decide +kernel
theorem d_rm_svi_6 : decode prog_80_method_1_code 6 = .ok (.ldc 7, 2) := by decide +kernel
theorem d_rm_svi_8 : decode prog_80_method_1_code 8 = .ok (.invokestatic 9, 3) := by decide +kernel
theorem d_rm_svi_11 : decode prog_80_method_1_code 11 = .ok (.checkcast 15, 3) := by decide +kernel
theorem d_rm_svi_14 : decode prog_80_method_1_code 14 = .ok (.putfield 17, 3) := by decide +kernel
theorem d_rm_svi_17 : decode prog_80_method_1_code 17 = .ok (.return_, 1) := by decide +kernel
set_option maxHeartbeats 4000000 in
theorem ef_rm_svi (m : MethodId) (x0 : Addr) (x1 : Addr)  : entryFrame m #[(.ref x0), (.ref x1)] 2 = mkF m 0 #[.val (.ref x0), .val (.ref x1)] [] := by first | (simp [entryFrame, mkF, argsToLocals, catR, catN, catI, catJ]; done) | rfl
set_option maxRecDepth 65536 in
set_option maxHeartbeats 40000000 in
theorem rm_svi (l : Launch) (Z : State) (a0 : Array Value) (hw : ∀ d ∈ tables_1, d.before a0 Z = true) (ws : List Jvm.Cond) (ax sx : Addr) (h0 : Heap) (n0 : Nat) (Z0 : n0 ≤ h0.size) (o0 : n0 ≤ ax) (E0 : Exa Z h0 ax "com/example/thistle/thistle/language/StringValue") (F0_text : Fld Z h0 ax "com/example/thistle/thistle/language/StringValue" "text" "Ljava/lang/String;" .null) (Es : Exa Z h0 sx "java/lang/String") :
    PaysW l Z (⟨"com/example/thistle/thistle/language/StringValue", "<init>", "(Ljava/lang/String;)V"⟩ : MethodName) prog_80_method_1_code 2 none ws ({ frames := 1, cells := 2, slots := 20, locals := 14 } : Room) #[(.ref ax), (.ref sx)] h0 (LIv Z) (fun v V L => v = none ∧ Fr n0 L ∧ Keep h0 V.heap [ax] ∧ LIv Z V.vm V.heap ∧ Exa Z V.heap ax "com/example/thistle/thistle/language/StringValue") := by
  refine PaysW.of (plainFor_of_name (by first | (simp [plainName, overriddenIn]; done) | decide +kernel)) ?_
  intro p e s m below meth c s₁ hx hby hml hown hnm hret hlk hZ e0 hsh hLI hS X0
  have hk0 : 0 ≤ h0.size := Nat.zero_le _
  replace hLI : LIv Z s.vm h0 := hLI
  have N0 := Fr.nil n0
  have K0 : Keep h0 h0 [ax] := Keep.refl _ _
  refine GoesW.go (U' := (s₁.setTop (mkF m 0 #[sR_ ax, sR_ sx] []))) (fun t kt => castTop (ef_rm_svi m ax sx) kt) ?_
  refine GoesW.go (U' := (s₁.setTop (mkF m 1 #[sR_ ax, sR_ sx] [(.ref ax)]))) (fun t kt => ?_) ?_
  · skip
    refine XS.aloadN X0.here hx rfl (hb hby d_rm_svi_0) rfl rfl ?_
    exact kt
  obtain ⟨T_1, X_1, e_1, st_1⟩ := initO X0 hx hZ hown (wdOf hw 62 rfl) (wdOf hw 8 rfl) (wdOf hw 9 rfl) e0 (g := (mkF m 1 #[sR_ ax, sR_ sx] [(.ref ax)])) rfl (by rw [hml]; rfl) rfl (hb hby d_rm_svi_1) (by decide) (W := 0) (Nat.le_refl _) (by decide)
  refine GoesW.go (U' := (T_1.setTop (mkF m 4 #[sR_ ax, sR_ sx] []))) st_1 ?_
  refine GoesW.go (U' := (T_1.setTop (mkF m 6 #[sR_ ax, sR_ sx] [(.ref sx), (.ref ax)]))) (fun t kt => ?_) ?_
  · skip
    refine XS.aloadN X_1.here hx rfl (hb hby d_rm_svi_4) rfl rfl ?_
    refine XS.aloadN X_1.here hx rfl (hb hby d_rm_svi_5) rfl rfl ?_
    exact kt
  obtain ⟨la, T1, h1, k1, X1, e1, E1, hS1, hk1, hZ, hown, st1⟩ := ldcS X_1 hx hZ hown (wdOf hw 63 rfl) (own_sa hw) e_1 hS hk0 (g := (mkF m 6 #[sR_ ax, sR_ sx] [(.ref sx), (.ref ax)])) rfl (hb hby d_rm_svi_6) (n := 16) (by decide) (by decide) (by decide) (by decide)
  have f_2 : Exa Z h1 ax "com/example/thistle/thistle/language/StringValue" := E0.ext E1
  have f_3 : Fld Z h1 ax "com/example/thistle/thistle/language/StringValue" "text" "Ljava/lang/String;" .null := F0_text.ext E1
  have f_4 : Exa Z h1 sx "java/lang/String" := Es.ext E1
  have K_5 : Keep h0 h1 [ax] := K0.ext E1
  have y_5 : n0 ≤ h1.size := Nat.le_trans Z0 K_5.1
  have hk_5 := Nat.le_trans hk0 E1.1
  refine GoesW.go (U' := (T1.setTop (mkF m 8 #[sR_ ax, sR_ sx] [(.ref la), (.ref sx), (.ref ax)]))) st1 ?_
  obtain ⟨v_6, T_6, L_6, X_6, q_6, st_6⟩ := callStatic X1 hx hZ (y := (⟨"java/util/Objects", "requireNonNull", "(Ljava/lang/Object;Ljava/lang/String;)Ljava/lang/Object;"⟩ : MethodName)) (W := 1) hown (wdOf hw 66 rfl) (wdOf hw 67 rfl) (wdOf hw 68 rfl) (wdOf hw 69 rfl) (by decide) (rm_rn l Z a0 hw [] sx la h1 n0 y_5) (by decide) (by decide) (by decide) (by decide) e1 (g := (mkF m 8 #[sR_ ax, sR_ sx] [(.ref la), (.ref sx), (.ref ax)])) rfl (by rw [hml]; rfl) (argsL := [(.ref sx), (.ref la)]) (rest := [(.ref ax)]) (lenOf pd_6 rfl) rfl rfl (Nat.le_refl _) (hb hby d_rm_svi_8)
  obtain ⟨rfl, n_6, K_6⟩ := q_6
  have N_6 := Fr.app N0 n_6
  refine GoesW.go (U' := (T_6.setTop (mkF m 11 #[sR_ ax, sR_ sx] [(.ref sx), (.ref ax)]))) st_6 ?_
  obtain ⟨T_7, X_7, e_7, st_7⟩ := castY X_6 hx hZ hown (wdOf hw 70 rfl) K_6 (Ins.self f_4) (g := (mkF m 11 #[sR_ ax, sR_ sx] [(.ref sx), (.ref ax)])) rfl rfl (hb hby d_rm_svi_11)
  refine GoesW.go (U' := (T_7.setTop (mkF m 14 #[sR_ ax, sR_ sx] [(.ref sx), (.ref ax)]))) st_7 ?_
  obtain ⟨T_8, h_8, X_8, e_8, W_8, st_8⟩ := putF X_7 hx hZ hown (host := "") (Or.inl (wdOf hw 71 rfl)) Via.refl e_7 f_3 f_2 (Or.inr ⟨wdOf hw 72 rfl, rfl, hnm⟩) (wdOf hw 30 rfl) (ty := (.object "java/lang/String")) (by decide) rfl rfl (g := (mkF m 14 #[sR_ ax, sR_ sx] [(.ref sx), (.ref ax)])) rfl rfl (hb hby d_rm_svi_14)
  have N_8 := Fr.snoc X_8 N_6 o0
  have f_9 : Exa Z h_8 ax "com/example/thistle/thistle/language/StringValue" := f_2.wr W_8
  have f_10 : Fld Z h_8 ax "com/example/thistle/thistle/language/StringValue" "text" "Ljava/lang/String;" (.ref sx) := f_3.same W_8
  have f_11 : Exa Z h_8 sx "java/lang/String" := f_4.wr W_8
  have K_12 : Keep h0 h_8 [ax] := K_5.wr W_8 (Or.inl (List.mem_of_getElem? (i := 0) rfl))
  have y_12 : n0 ≤ h_8.size := Nat.le_trans Z0 K_12.1
  have hk_12 := Nat.le_trans hk1 (Nat.le_of_eq W_8.size.symm)
  refine GoesW.go (U' := (T_8.setTop (mkF m 17 #[sR_ ax, sR_ sx] []))) st_8 ?_
  refine GoesW.retV X_8 hx hS1 (by rw [e_8]; exact hk_12) hlk hret (hb hby d_rm_svi_17) (by decide) (by decide) ?_
  intro V vh vv
  try rw [vv]
  try rw [vh]
  try rw [e_8]
  exact ⟨rfl, N_8, K_12, LIv.tt, f_9⟩
set_option maxRecDepth 65536 in
set_option maxHeartbeats 40000000 in
theorem law_127 (l : Launch) (Z : State) (a0 : Array Value) (hw : ∀ d ∈ tables_1, d.before a0 Z = true) (q0 q1 q2 q3 cs : Int32) (rt rf : Addr) (g4 g5 g6 kd bb : Int32) (la lb : Int64) (dx dy : UInt64) (h0 : Heap) (n0 : Nat) (Z0 : n0 ≤ h0.size) (p : Program) (e : Env) (s : State) (m : MethodId) (below : List Frame) (meth : Method) (c : Code) (vm0 : Vm) (k0 : Nat) (hx : p.tables.exec = Jvm.exec) (hby : c.code = code) (hml : c.maxLocals = maxLocals) (hown : (s.setVm vm0).vm.findClass "com/example/thistle/thistle/language/NumberValueEqualsPinLaw" = some m.cls) (hnm : meth.name = "law") (hret : meth.sig.returnType = ret) (hlk : meth.locks = false) (hZ : Z.Warmed39 (s.setVm vm0).vm) (h : Heap) (T : State) (locs : List Loc) (X : Stand p l e room_1 (s.setVm vm0) m #[(.int q0), (.int q1), (.int q2), (.int q3)] below meth c T locs 0 0) (eT : T.heap = h) (N : Fr n0 locs) (K0 : Keep h0 h []) (O : Old Z n0 h) (SC : Sta Z Z.heap "java/lang/String" "COMPACT_STRINGS" "Z" (.int cs)) (hcs : ¬ cs = 0) (S1 : Sta Z Z.heap "com/example/thistle/thistle/language/BooleanValue" "TRUE" "Lcom/example/thistle/thistle/language/BooleanValue;" (.ref rt)) (E1 : Exa Z Z.heap rt "com/example/thistle/thistle/language/BooleanValue") (S0 : Sta Z Z.heap "com/example/thistle/thistle/language/BooleanValue" "FALSE" "Lcom/example/thistle/thistle/language/BooleanValue;" (.ref rf)) (E0 : Exa Z Z.heap rf "com/example/thistle/thistle/language/BooleanValue") (Qx : Qrt la.toInt dx) (Qy : Qrt lb.toInt dy) (hS : s.Since vm0 k0) (hk : k0 ≤ h.size) (LI0 : LIv Z vm0 h) :
    GoesW p e s below (fun v V L => v = some (.int 1) ∧ Fr n0 L) room_1.cells room_1.slots (T.setTop (mkF m 127 #[sI_ q0, sI_ q1, sI_ q2, sI_ q3, sI_ g4, sI_ g5, sI_ g6, sI_ kd, sI_ bb, sJ_ la, sS_, sJ_ lb, sS_, .val (.double dx), sS_, .val (.double dy), sS_, sU_, sU_, sU_] [])) := by
  have sz0 : n0 ≤ h.size := Nat.le_trans Z0 K0.1
  obtain ⟨T_1, h_1, X_1, e_1, E_1, A_1, D_1, -, st_1⟩ := newO X hx hZ hown (wdOf hw 1 rfl) (wdOf hw 2 rfl) (wdOf hw 3 rfl) eT (g := (mkF m 127 #[sI_ q0, sI_ q1, sI_ q2, sI_ q3, sI_ g4, sI_ g5, sI_ g6, sI_ kd, sI_ bb, sJ_ la, sS_, sJ_ lb, sS_, .val (.double dx), sS_, .val (.double dy), sS_, sU_, sU_, sU_] [])) rfl (hb hby at_127) (by decide) (by decide)
  obtain ⟨b_1, g_1⟩ : ∃ z, z = h.size := ⟨_, rfl⟩
  rw [← g_1] at A_1 D_1 st_1
  have o_1 : n0 ≤ b_1 := Nat.le_trans sz0 (Nat.le_of_eq g_1.symm)
  have z_1 : h0.size ≤ b_1 := Nat.le_trans K0.1 (Nat.le_of_eq g_1.symm)
  have f_2 : Old Z n0 h_1 := O.ext E_1
  have f_3 : Fld Z h_1 b_1 "com/example/thistle/thistle/language/NumberValue" "number" "D" (.double 0) := D_1 (Or.inr (wdOf hw 20 rfl)) (ty := .double) (by decide)
  have K_4 : Keep h0 h_1 [] := K0.ext E_1
  have y_4 : n0 ≤ h_1.size := Nat.le_trans Z0 K_4.1
  have hk_4 := Nat.le_trans hk E_1.1
  refine GoesW.go (U' := (T_1.setTop (mkF m 130 #[sI_ q0, sI_ q1, sI_ q2, sI_ q3, sI_ g4, sI_ g5, sI_ g6, sI_ kd, sI_ bb, sJ_ la, sS_, sJ_ lb, sS_, .val (.double dx), sS_, .val (.double dy), sS_, sU_, sU_, sU_] [(.ref b_1)]))) st_1 ?_
  refine GoesW.go (U' := (T_1.setTop (mkF m 133 #[sI_ q0, sI_ q1, sI_ q2, sI_ q3, sI_ g4, sI_ g5, sI_ g6, sI_ kd, sI_ bb, sJ_ la, sS_, sJ_ lb, sS_, .val (.double dx), sS_, .val (.double dy), sS_, sU_, sU_, sU_] [(.double dx), (.ref b_1), (.ref b_1)]))) (fun t kt => ?_) ?_
  · skip
    refine XS.dup X_1.here hx rfl (hb hby at_130) rfl rfl ?_
    refine XS.dload X_1.here hx rfl (hb hby at_131) rfl ?_
    exact kt
  obtain ⟨v_5, T_5, L_5, X_5, q_5, st_5⟩ := callInit X_1 hx hZ (y := (⟨"com/example/thistle/thistle/language/NumberValue", "<init>", "(D)V"⟩ : MethodName)) (W := 1) rfl hown (wdOf hw 4 rfl) (wdOf hw 5 rfl) (wdOf hw 3 rfl) (wdOf hw 6 rfl) (by decide) (rm_nvi l Z a0 hw [] b_1 dx h_1 n0 y_4 Qx.fin o_1 A_1 f_3) (by decide) (by decide) (by decide) (by decide) e_1 (b := b_1) (g := (mkF m 133 #[sI_ q0, sI_ q1, sI_ q2, sI_ q3, sI_ g4, sI_ g5, sI_ g6, sI_ kd, sI_ bb, sJ_ la, sS_, sJ_ lb, sS_, .val (.double dx), sS_, .val (.double dy), sS_, sU_, sU_, sU_] [(.double dx), (.ref b_1), (.ref b_1)])) rfl (by rw [hml]; rfl) (argsL := [(.double dx)]) (rest := [(.ref b_1)]) (lenOf pd_7 rfl) rfl rfl (Nat.le_refl _) (hb hby at_133)
  obtain ⟨rfl, n_5, K_5, Eq_5, Fq_5⟩ := q_5
  have N_5 := Fr.app N n_5
  have f_6 : Old Z n0 T_5.heap := f_2.keep K_5 (allS o_1 all0)
  have f_7 : Exa Z T_5.heap b_1 "com/example/thistle/thistle/language/NumberValue" := A_1.keep K_5
  have K_9 : Keep h0 T_5.heap [] := K_4.trans K_5 (allS (P := fun x => x ∈ [] ∨ h0.size ≤ x) (Or.inr z_1) all0)
  have y_9 : n0 ≤ T_5.heap.size := Nat.le_trans Z0 K_9.1
  have hk_9 := Nat.le_trans hk_4 K_5.1
  refine GoesW.go (U' := (T_5.setTop (mkF m 136 #[sI_ q0, sI_ q1, sI_ q2, sI_ q3, sI_ g4, sI_ g5, sI_ g6, sI_ kd, sI_ bb, sJ_ la, sS_, sJ_ lb, sS_, .val (.double dx), sS_, .val (.double dy), sS_, sU_, sU_, sU_] [(.ref b_1)]))) st_5 ?_
  refine GoesW.go (U' := (T_5.setTop (mkF m 140 #[sI_ q0, sI_ q1, sI_ q2, sI_ q3, sI_ g4, sI_ g5, sI_ g6, sI_ kd, sI_ bb, sJ_ la, sS_, sJ_ lb, sS_, .val (.double dx), sS_, .val (.double dy), sS_, sR_ b_1, sU_, sU_] [(.int kd)]))) (fun t kt => ?_) ?_
  · skip
    refine XS.astore X_5.here hx rfl (hb hby at_136) rfl rfl (l' := #[sI_ q0, sI_ q1, sI_ q2, sI_ q3, sI_ g4, sI_ g5, sI_ g6, sI_ kd, sI_ bb, sJ_ la, sS_, sJ_ lb, sS_, .val (.double dx), sS_, .val (.double dy), sS_, sR_ b_1, sU_, sU_]) rfl ?_
    refine XS.iload X_5.here hx rfl (hb hby at_138) rfl ?_
    exact kt
  by_cases k0 : kd = 0
  · -- kd = 0
    refine GoesW.go (U' := (T_5.setTop (mkF m 143 #[sI_ q0, sI_ q1, sI_ q2, sI_ q3, sI_ g4, sI_ g5, sI_ g6, sI_ kd, sI_ bb, sJ_ la, sS_, sJ_ lb, sS_, .val (.double dx), sS_, .val (.double dy), sS_, sR_ b_1, sU_, sU_] []))) (fun t kt => ?_) ?_
    · skip
      refine XS.ifNo X_5.here hx rfl (hb hby at_140) rfl (XT.i0_ne_f k0) ?_
      exact kt
    obtain ⟨T_10, h_10, X_10, e_10, E_10, A_10, D_10, -, st_10⟩ := newO X_5 hx hZ hown (wdOf hw 1 rfl) (wdOf hw 2 rfl) (wdOf hw 3 rfl) (rfl : T_5.heap = T_5.heap) (g := (mkF m 143 #[sI_ q0, sI_ q1, sI_ q2, sI_ q3, sI_ g4, sI_ g5, sI_ g6, sI_ kd, sI_ bb, sJ_ la, sS_, sJ_ lb, sS_, .val (.double dx), sS_, .val (.double dy), sS_, sR_ b_1, sU_, sU_] [])) rfl (hb hby at_143) (by decide) (by decide)
    obtain ⟨b_10, g_10⟩ : ∃ z, z = T_5.heap.size := ⟨_, rfl⟩
    rw [← g_10] at A_10 D_10 st_10
    have ne_11 : b_1 ≠ b_10 := Nat.ne_of_lt (Nat.lt_of_lt_of_le f_7.lt (Nat.le_of_eq g_10.symm))
    have o_10 : n0 ≤ b_10 := Nat.le_trans y_9 (Nat.le_of_eq g_10.symm)
    have z_10 : h0.size ≤ b_10 := Nat.le_trans K_9.1 (Nat.le_of_eq g_10.symm)
    have f_12 : Old Z n0 h_10 := f_6.ext E_10
    have f_13 : Exa Z h_10 b_1 "com/example/thistle/thistle/language/NumberValue" := f_7.ext E_10
    have f_14 : Fld Z h_10 b_1 "com/example/thistle/thistle/language/NumberValue" "number" "D" (.double dx) := Fq_5.ext E_10
    have f_15 : Fld Z h_10 b_10 "com/example/thistle/thistle/language/NumberValue" "number" "D" (.double 0) := D_10 (Or.inr (wdOf hw 20 rfl)) (ty := .double) (by decide)
    have K_16 : Keep h0 h_10 [] := K_9.ext E_10
    have y_16 : n0 ≤ h_10.size := Nat.le_trans Z0 K_16.1
    have hk_16 := Nat.le_trans hk_9 E_10.1
    refine GoesW.go (U' := (T_10.setTop (mkF m 146 #[sI_ q0, sI_ q1, sI_ q2, sI_ q3, sI_ g4, sI_ g5, sI_ g6, sI_ kd, sI_ bb, sJ_ la, sS_, sJ_ lb, sS_, .val (.double dx), sS_, .val (.double dy), sS_, sR_ b_1, sU_, sU_] [(.ref b_10)]))) st_10 ?_
    refine GoesW.go (U' := (T_10.setTop (mkF m 149 #[sI_ q0, sI_ q1, sI_ q2, sI_ q3, sI_ g4, sI_ g5, sI_ g6, sI_ kd, sI_ bb, sJ_ la, sS_, sJ_ lb, sS_, .val (.double dx), sS_, .val (.double dy), sS_, sR_ b_1, sU_, sU_] [(.double dy), (.ref b_10), (.ref b_10)]))) (fun t kt => ?_) ?_
    · skip
      refine XS.dup X_10.here hx rfl (hb hby at_146) rfl rfl ?_
      refine XS.dload X_10.here hx rfl (hb hby at_147) rfl ?_
      exact kt
    obtain ⟨v_17, T_17, L_17, X_17, q_17, st_17⟩ := callInit X_10 hx hZ (y := (⟨"com/example/thistle/thistle/language/NumberValue", "<init>", "(D)V"⟩ : MethodName)) (W := 1) rfl hown (wdOf hw 4 rfl) (wdOf hw 5 rfl) (wdOf hw 3 rfl) (wdOf hw 6 rfl) (by decide) (rm_nvi l Z a0 hw [] b_10 dy h_10 n0 y_16 Qy.fin o_10 A_10 f_15) (by decide) (by decide) (by decide) (by decide) e_10 (b := b_10) (g := (mkF m 149 #[sI_ q0, sI_ q1, sI_ q2, sI_ q3, sI_ g4, sI_ g5, sI_ g6, sI_ kd, sI_ bb, sJ_ la, sS_, sJ_ lb, sS_, .val (.double dx), sS_, .val (.double dy), sS_, sR_ b_1, sU_, sU_] [(.double dy), (.ref b_10), (.ref b_10)])) rfl (by rw [hml]; rfl) (argsL := [(.double dy)]) (rest := [(.ref b_10)]) (lenOf pd_7 rfl) rfl rfl (Nat.le_refl _) (hb hby at_149)
    obtain ⟨rfl, n_17, K_17, Eq_17, Fq_17⟩ := q_17
    have N_17 := Fr.app N_5 n_17
    have f_18 : Old Z n0 T_17.heap := f_12.keep K_17 (allS o_10 all0)
    have f_19 : Exa Z T_17.heap b_1 "com/example/thistle/thistle/language/NumberValue" := f_13.keep K_17
    have f_20 : Fld Z T_17.heap b_1 "com/example/thistle/thistle/language/NumberValue" "number" "D" (.double dx) := f_14.keep K_17 (ninS ne_11 nin0)
    have f_21 : Exa Z T_17.heap b_10 "com/example/thistle/thistle/language/NumberValue" := A_10.keep K_17
    have K_23 : Keep h0 T_17.heap [] := K_16.trans K_17 (allS (P := fun x => x ∈ [] ∨ h0.size ≤ x) (Or.inr z_10) all0)
    have y_23 : n0 ≤ T_17.heap.size := Nat.le_trans Z0 K_23.1
    have hk_23 := Nat.le_trans hk_16 K_17.1
    refine GoesW.go (U' := (T_17.setTop (mkF m 152 #[sI_ q0, sI_ q1, sI_ q2, sI_ q3, sI_ g4, sI_ g5, sI_ g6, sI_ kd, sI_ bb, sJ_ la, sS_, sJ_ lb, sS_, .val (.double dx), sS_, .val (.double dy), sS_, sR_ b_1, sU_, sU_] [(.ref b_10)]))) st_17 ?_
    refine GoesW.go (U' := (T_17.setTop (mkF m 159 #[sI_ q0, sI_ q1, sI_ q2, sI_ q3, sI_ g4, sI_ g5, sI_ g6, sI_ kd, sI_ bb, sJ_ la, sS_, sJ_ lb, sS_, .val (.double dx), sS_, .val (.double dy), sS_, sR_ b_1, sR_ b_10, sU_] [(.int (XT.cmpL la lb))]))) (fun t kt => ?_) ?_
    · skip
      refine XS.astore X_17.here hx rfl (hb hby at_152) rfl rfl (l' := #[sI_ q0, sI_ q1, sI_ q2, sI_ q3, sI_ g4, sI_ g5, sI_ g6, sI_ kd, sI_ bb, sJ_ la, sS_, sJ_ lb, sS_, .val (.double dx), sS_, .val (.double dy), sS_, sR_ b_1, sR_ b_10, sU_]) rfl ?_
      refine XS.lload X_17.here hx rfl (hb hby at_154) rfl ?_
      refine XS.lload X_17.here hx rfl (hb hby at_156) rfl ?_
      refine XT.lcmp X_17.here hx rfl (hb hby at_158) rfl ?_
      exact kt
    by_cases ce : la = lb
    · -- la = lb
      refine GoesW.go (U' := (T_17.setTop (mkF m 173 #[sI_ q0, sI_ q1, sI_ q2, sI_ q3, sI_ g4, sI_ g5, sI_ g6, sI_ kd, sI_ bb, sJ_ la, sS_, sJ_ lb, sS_, .val (.double dx), sS_, .val (.double dy), sS_, sR_ b_1, sR_ b_10, sI_ (1 : Int32)] [(.ref b_10), (.ref b_1)]))) (fun t kt => ?_) ?_
      · skip
        refine XS.ifNo X_17.here hx rfl (hb hby at_159) rfl (XT.ll_ne_f ce) ?_
        refine XS.iconst X_17.here hx rfl (hb hby at_162) ?_
        refine XS.goto X_17.here hx rfl (pc0 := 163) (pc' := 167) rfl (hb hby at_163) (by decide) (by decide) ?_
        refine XS.istore X_17.here hx rfl (hb hby at_167) rfl (l' := #[sI_ q0, sI_ q1, sI_ q2, sI_ q3, sI_ g4, sI_ g5, sI_ g6, sI_ kd, sI_ bb, sJ_ la, sS_, sJ_ lb, sS_, .val (.double dx), sS_, .val (.double dy), sS_, sR_ b_1, sR_ b_10, sI_ (1 : Int32)]) rfl ?_
        refine XS.aload X_17.here hx rfl (hb hby at_169) rfl rfl ?_
        refine XS.aload X_17.here hx rfl (hb hby at_171) rfl rfl ?_
        exact kt
      obtain ⟨v_24, T_24, L_24, X_24, q_24, st_24⟩ := callVirtual X_17 hx hZ (y := (⟨"com/example/thistle/thistle/language/NumberValue", "equals", "(Ljava/lang/Object;)Z"⟩ : MethodName)) (z := (⟨"com/example/thistle/thistle/language/NumberValue", "equals", "(Ljava/lang/Object;)Z"⟩ : MethodName)) (W := 0) hown (wdOf hw 21 rfl) (wdOf hw 22 rfl) (notFace_of_selects (args := #[]) (mvT hZ (wdOf hw 24 rfl))) (wdOf hw 24 rfl) (wdOf hw 23 rfl) (wdOf hw 3 rfl) (wdOf hw 25 rfl) (by decide) (rm_eqy l Z a0 hw [] b_1 b_10 dx dy T_17.heap n0 y_23 f_19 f_20 f_21 Fq_17 (Qx.eq Qy ce)) (by decide) (by decide) (by decide) (by decide) (rfl : T_17.heap = T_17.heap) f_19 (g := (mkF m 173 #[sI_ q0, sI_ q1, sI_ q2, sI_ q3, sI_ g4, sI_ g5, sI_ g6, sI_ kd, sI_ bb, sJ_ la, sS_, sJ_ lb, sS_, .val (.double dx), sS_, .val (.double dy), sS_, sR_ b_1, sR_ b_10, sI_ (1 : Int32)] [(.ref b_10), (.ref b_1)])) rfl (by rw [hml]; rfl) (argsL := [(.ref b_10)]) (rest := []) (lenOf pd_8 rfl) rfl rfl (Nat.le_refl _) (hb hby at_173)
      obtain ⟨rfl, n_24, K_24⟩ := q_24
      have N_24 := Fr.app N_17 n_24
      refine GoesW.go (U' := (T_24.setTop (mkF m 176 #[sI_ q0, sI_ q1, sI_ q2, sI_ q3, sI_ g4, sI_ g5, sI_ g6, sI_ kd, sI_ bb, sJ_ la, sS_, sJ_ lb, sS_, .val (.double dx), sS_, .val (.double dy), sS_, sR_ b_1, sR_ b_10, sI_ (1 : Int32)] [(.int (1 : Int32))]))) st_24 ?_
      refine GoesW.go (U' := (T_24.setTop (mkF m 185 #[sI_ q0, sI_ q1, sI_ q2, sI_ q3, sI_ g4, sI_ g5, sI_ g6, sI_ kd, sI_ bb, sJ_ la, sS_, sJ_ lb, sS_, .val (.double dx), sS_, .val (.double dy), sS_, sR_ b_1, sR_ b_10, sI_ (1 : Int32)] [(.ref b_1), (.ref b_10)]))) (fun t kt => ?_) ?_
      · skip
        refine XS.iload X_24.here hx rfl (hb hby at_176) rfl ?_
        refine XS.icmpNo X_24.here hx rfl (hb hby at_178) rfl (XT.ii_ne_f (by decide)) ?_
        refine XS.aload X_24.here hx rfl (hb hby at_181) rfl rfl ?_
        refine XS.aload X_24.here hx rfl (hb hby at_183) rfl rfl ?_
        exact kt
      obtain ⟨v_25, T_25, L_25, X_25, q_25, st_25⟩ := callVirtual X_24 hx hZ (y := (⟨"com/example/thistle/thistle/language/NumberValue", "equals", "(Ljava/lang/Object;)Z"⟩ : MethodName)) (z := (⟨"com/example/thistle/thistle/language/NumberValue", "equals", "(Ljava/lang/Object;)Z"⟩ : MethodName)) (W := 0) hown (wdOf hw 21 rfl) (wdOf hw 22 rfl) (notFace_of_selects (args := #[]) (mvT hZ (wdOf hw 24 rfl))) (wdOf hw 24 rfl) (wdOf hw 23 rfl) (wdOf hw 3 rfl) (wdOf hw 25 rfl) (by decide) (rm_eqy l Z a0 hw [] b_10 b_1 dy dx T_17.heap n0 y_23 f_21 Fq_17 f_19 f_20 (Qy.eq Qx ce.symm)) (by decide) (by decide) (by decide) (by decide) K_24 f_21 (g := (mkF m 185 #[sI_ q0, sI_ q1, sI_ q2, sI_ q3, sI_ g4, sI_ g5, sI_ g6, sI_ kd, sI_ bb, sJ_ la, sS_, sJ_ lb, sS_, .val (.double dx), sS_, .val (.double dy), sS_, sR_ b_1, sR_ b_10, sI_ (1 : Int32)] [(.ref b_1), (.ref b_10)])) rfl (by rw [hml]; rfl) (argsL := [(.ref b_1)]) (rest := []) (lenOf pd_8 rfl) rfl rfl (Nat.le_refl _) (hb hby at_185)
      obtain ⟨rfl, n_25, K_25⟩ := q_25
      have N_25 := Fr.app N_24 n_25
      refine GoesW.go (U' := (T_25.setTop (mkF m 188 #[sI_ q0, sI_ q1, sI_ q2, sI_ q3, sI_ g4, sI_ g5, sI_ g6, sI_ kd, sI_ bb, sJ_ la, sS_, sJ_ lb, sS_, .val (.double dx), sS_, .val (.double dy), sS_, sR_ b_1, sR_ b_10, sI_ (1 : Int32)] [(.int (1 : Int32))]))) st_25 ?_
      refine GoesW.go (U' := (T_25.setTop (mkF m 198 #[sI_ q0, sI_ q1, sI_ q2, sI_ q3, sI_ g4, sI_ g5, sI_ g6, sI_ kd, sI_ bb, sJ_ la, sS_, sJ_ lb, sS_, .val (.double dx), sS_, .val (.double dy), sS_, sR_ b_1, sR_ b_10, sI_ (1 : Int32)] [(.int (1 : Int32))]))) (fun t kt => ?_) ?_
      · skip
        refine XS.iload X_25.here hx rfl (hb hby at_188) rfl ?_
        refine XS.icmpNo X_25.here hx rfl (hb hby at_190) rfl (XT.ii_ne_f (by decide)) ?_
        refine XS.iconst X_25.here hx rfl (hb hby at_193) ?_
        refine XS.goto X_25.here hx rfl (pc0 := 194) (pc' := 198) rfl (hb hby at_194) (by decide) (by decide) ?_
        exact kt
      refine GoesW.retB X_25 hx hS (by rw [K_25]; exact hk_23) hlk hret (hb hby at_198) (by decide) (by decide) ?_
      intro V vh vv
      try rw [vv]
      try rw [vh]
      try rw [K_25]
      exact ⟨rfl, N_25⟩
    · -- not la = lb
      refine GoesW.go (U' := (T_17.setTop (mkF m 173 #[sI_ q0, sI_ q1, sI_ q2, sI_ q3, sI_ g4, sI_ g5, sI_ g6, sI_ kd, sI_ bb, sJ_ la, sS_, sJ_ lb, sS_, .val (.double dx), sS_, .val (.double dy), sS_, sR_ b_1, sR_ b_10, sI_ (0 : Int32)] [(.ref b_10), (.ref b_1)]))) (fun t kt => ?_) ?_
      · skip
        refine XS.ifYes X_17.here hx rfl (pc0 := 159) (pc' := 166) rfl (hb hby at_159) rfl (XT.ll_ne_t ce) (by decide) (by decide) ?_
        refine XS.iconst X_17.here hx rfl (hb hby at_166) ?_
        refine XS.istore X_17.here hx rfl (hb hby at_167) rfl (l' := #[sI_ q0, sI_ q1, sI_ q2, sI_ q3, sI_ g4, sI_ g5, sI_ g6, sI_ kd, sI_ bb, sJ_ la, sS_, sJ_ lb, sS_, .val (.double dx), sS_, .val (.double dy), sS_, sR_ b_1, sR_ b_10, sI_ (0 : Int32)]) rfl ?_
        refine XS.aload X_17.here hx rfl (hb hby at_169) rfl rfl ?_
        refine XS.aload X_17.here hx rfl (hb hby at_171) rfl rfl ?_
        exact kt
      obtain ⟨v_26, T_26, L_26, X_26, q_26, st_26⟩ := callVirtual X_17 hx hZ (y := (⟨"com/example/thistle/thistle/language/NumberValue", "equals", "(Ljava/lang/Object;)Z"⟩ : MethodName)) (z := (⟨"com/example/thistle/thistle/language/NumberValue", "equals", "(Ljava/lang/Object;)Z"⟩ : MethodName)) (W := 0) hown (wdOf hw 21 rfl) (wdOf hw 22 rfl) (notFace_of_selects (args := #[]) (mvT hZ (wdOf hw 24 rfl))) (wdOf hw 24 rfl) (wdOf hw 23 rfl) (wdOf hw 3 rfl) (wdOf hw 25 rfl) (by decide) (rm_eqn l Z a0 hw [] b_1 b_10 dx dy T_17.heap n0 y_23 f_19 f_20 f_21 Fq_17 (Qx.ne Qy ce)) (by decide) (by decide) (by decide) (by decide) (rfl : T_17.heap = T_17.heap) f_19 (g := (mkF m 173 #[sI_ q0, sI_ q1, sI_ q2, sI_ q3, sI_ g4, sI_ g5, sI_ g6, sI_ kd, sI_ bb, sJ_ la, sS_, sJ_ lb, sS_, .val (.double dx), sS_, .val (.double dy), sS_, sR_ b_1, sR_ b_10, sI_ (0 : Int32)] [(.ref b_10), (.ref b_1)])) rfl (by rw [hml]; rfl) (argsL := [(.ref b_10)]) (rest := []) (lenOf pd_8 rfl) rfl rfl (Nat.le_refl _) (hb hby at_173)
      obtain ⟨rfl, n_26, K_26⟩ := q_26
      have N_26 := Fr.app N_17 n_26
      refine GoesW.go (U' := (T_26.setTop (mkF m 176 #[sI_ q0, sI_ q1, sI_ q2, sI_ q3, sI_ g4, sI_ g5, sI_ g6, sI_ kd, sI_ bb, sJ_ la, sS_, sJ_ lb, sS_, .val (.double dx), sS_, .val (.double dy), sS_, sR_ b_1, sR_ b_10, sI_ (0 : Int32)] [(.int (0 : Int32))]))) st_26 ?_
      refine GoesW.go (U' := (T_26.setTop (mkF m 185 #[sI_ q0, sI_ q1, sI_ q2, sI_ q3, sI_ g4, sI_ g5, sI_ g6, sI_ kd, sI_ bb, sJ_ la, sS_, sJ_ lb, sS_, .val (.double dx), sS_, .val (.double dy), sS_, sR_ b_1, sR_ b_10, sI_ (0 : Int32)] [(.ref b_1), (.ref b_10)]))) (fun t kt => ?_) ?_
      · skip
        refine XS.iload X_26.here hx rfl (hb hby at_176) rfl ?_
        refine XS.icmpNo X_26.here hx rfl (hb hby at_178) rfl (XT.ii_ne_f (by decide)) ?_
        refine XS.aload X_26.here hx rfl (hb hby at_181) rfl rfl ?_
        refine XS.aload X_26.here hx rfl (hb hby at_183) rfl rfl ?_
        exact kt
      obtain ⟨v_27, T_27, L_27, X_27, q_27, st_27⟩ := callVirtual X_26 hx hZ (y := (⟨"com/example/thistle/thistle/language/NumberValue", "equals", "(Ljava/lang/Object;)Z"⟩ : MethodName)) (z := (⟨"com/example/thistle/thistle/language/NumberValue", "equals", "(Ljava/lang/Object;)Z"⟩ : MethodName)) (W := 0) hown (wdOf hw 21 rfl) (wdOf hw 22 rfl) (notFace_of_selects (args := #[]) (mvT hZ (wdOf hw 24 rfl))) (wdOf hw 24 rfl) (wdOf hw 23 rfl) (wdOf hw 3 rfl) (wdOf hw 25 rfl) (by decide) (rm_eqn l Z a0 hw [] b_10 b_1 dy dx T_17.heap n0 y_23 f_21 Fq_17 f_19 f_20 (Qy.ne Qx (Ne.symm ce))) (by decide) (by decide) (by decide) (by decide) K_26 f_21 (g := (mkF m 185 #[sI_ q0, sI_ q1, sI_ q2, sI_ q3, sI_ g4, sI_ g5, sI_ g6, sI_ kd, sI_ bb, sJ_ la, sS_, sJ_ lb, sS_, .val (.double dx), sS_, .val (.double dy), sS_, sR_ b_1, sR_ b_10, sI_ (0 : Int32)] [(.ref b_1), (.ref b_10)])) rfl (by rw [hml]; rfl) (argsL := [(.ref b_1)]) (rest := []) (lenOf pd_8 rfl) rfl rfl (Nat.le_refl _) (hb hby at_185)
      obtain ⟨rfl, n_27, K_27⟩ := q_27
      have N_27 := Fr.app N_26 n_27
      refine GoesW.go (U' := (T_27.setTop (mkF m 188 #[sI_ q0, sI_ q1, sI_ q2, sI_ q3, sI_ g4, sI_ g5, sI_ g6, sI_ kd, sI_ bb, sJ_ la, sS_, sJ_ lb, sS_, .val (.double dx), sS_, .val (.double dy), sS_, sR_ b_1, sR_ b_10, sI_ (0 : Int32)] [(.int (0 : Int32))]))) st_27 ?_
      refine GoesW.go (U' := (T_27.setTop (mkF m 198 #[sI_ q0, sI_ q1, sI_ q2, sI_ q3, sI_ g4, sI_ g5, sI_ g6, sI_ kd, sI_ bb, sJ_ la, sS_, sJ_ lb, sS_, .val (.double dx), sS_, .val (.double dy), sS_, sR_ b_1, sR_ b_10, sI_ (0 : Int32)] [(.int (1 : Int32))]))) (fun t kt => ?_) ?_
      · skip
        refine XS.iload X_27.here hx rfl (hb hby at_188) rfl ?_
        refine XS.icmpNo X_27.here hx rfl (hb hby at_190) rfl (XT.ii_ne_f (by decide)) ?_
        refine XS.iconst X_27.here hx rfl (hb hby at_193) ?_
        refine XS.goto X_27.here hx rfl (pc0 := 194) (pc' := 198) rfl (hb hby at_194) (by decide) (by decide) ?_
        exact kt
      refine GoesW.retB X_27 hx hS (by rw [K_27]; exact hk_23) hlk hret (hb hby at_198) (by decide) (by decide) ?_
      intro V vh vv
      try rw [vv]
      try rw [vh]
      try rw [K_27]
      exact ⟨rfl, N_27⟩
  · -- not kd = 0
    refine GoesW.go (U' := (T_5.setTop (mkF m 202 #[sI_ q0, sI_ q1, sI_ q2, sI_ q3, sI_ g4, sI_ g5, sI_ g6, sI_ kd, sI_ bb, sJ_ la, sS_, sJ_ lb, sS_, .val (.double dx), sS_, .val (.double dy), sS_, sR_ b_1, sU_, sU_] [(.int (1 : Int32)), (.int kd)]))) (fun t kt => ?_) ?_
    · skip
      refine XS.ifYes X_5.here hx rfl (pc0 := 140) (pc' := 199) rfl (hb hby at_140) rfl (XT.i0_ne_t k0) (by decide) (by decide) ?_
      refine XS.iload X_5.here hx rfl (hb hby at_199) rfl ?_
      refine XS.iconst X_5.here hx rfl (hb hby at_201) ?_
      exact kt
    by_cases k1 : kd = (1 : Int32)
    · -- kd = (1 : Int32)
      refine GoesW.go (U' := (T_5.setTop (mkF m 208 #[sI_ q0, sI_ q1, sI_ q2, sI_ q3, sI_ g4, sI_ g5, sI_ g6, sI_ kd, sI_ bb, sJ_ la, sS_, sJ_ lb, sS_, .val (.double dx), sS_, .val (.double dy), sS_, sR_ b_1, sU_, sU_] [.null, (.ref b_1)]))) (fun t kt => ?_) ?_
      · skip
        refine XS.icmpNo X_5.here hx rfl (hb hby at_202) rfl (XT.ii_ne_f k1) ?_
        refine XS.aload X_5.here hx rfl (hb hby at_205) rfl rfl ?_
        refine XS.aconstNull X_5.here hx rfl (hb hby at_207) ?_
        exact kt
      obtain ⟨v_28, T_28, L_28, X_28, q_28, st_28⟩ := callVirtual X_5 hx hZ (y := (⟨"com/example/thistle/thistle/language/NumberValue", "equals", "(Ljava/lang/Object;)Z"⟩ : MethodName)) (z := (⟨"com/example/thistle/thistle/language/NumberValue", "equals", "(Ljava/lang/Object;)Z"⟩ : MethodName)) (W := 0) hown (wdOf hw 21 rfl) (wdOf hw 22 rfl) (notFace_of_selects (args := #[]) (mvT hZ (wdOf hw 24 rfl))) (wdOf hw 24 rfl) (wdOf hw 23 rfl) (wdOf hw 3 rfl) (wdOf hw 25 rfl) (by decide) (rm_eq0 l Z a0 hw [] b_1 T_5.heap n0 y_9) (by decide) (by decide) (by decide) (by decide) (rfl : T_5.heap = T_5.heap) f_7 (g := (mkF m 208 #[sI_ q0, sI_ q1, sI_ q2, sI_ q3, sI_ g4, sI_ g5, sI_ g6, sI_ kd, sI_ bb, sJ_ la, sS_, sJ_ lb, sS_, .val (.double dx), sS_, .val (.double dy), sS_, sR_ b_1, sU_, sU_] [.null, (.ref b_1)])) rfl (by rw [hml]; rfl) (argsL := [.null]) (rest := []) (lenOf pd_8 rfl) rfl rfl (Nat.le_refl _) (hb hby at_208)
      obtain ⟨rfl, n_28, K_28⟩ := q_28
      have N_28 := Fr.app N_5 n_28
      refine GoesW.go (U' := (T_28.setTop (mkF m 211 #[sI_ q0, sI_ q1, sI_ q2, sI_ q3, sI_ g4, sI_ g5, sI_ g6, sI_ kd, sI_ bb, sJ_ la, sS_, sJ_ lb, sS_, .val (.double dx), sS_, .val (.double dy), sS_, sR_ b_1, sU_, sU_] [(.int (0 : Int32))]))) st_28 ?_
      refine GoesW.go (U' := (T_28.setTop (mkF m 219 #[sI_ q0, sI_ q1, sI_ q2, sI_ q3, sI_ g4, sI_ g5, sI_ g6, sI_ kd, sI_ bb, sJ_ la, sS_, sJ_ lb, sS_, .val (.double dx), sS_, .val (.double dy), sS_, sR_ b_1, sU_, sU_] [(.int (1 : Int32))]))) (fun t kt => ?_) ?_
      · skip
        refine XS.ifNo X_28.here hx rfl (hb hby at_211) rfl (XT.i0_ne_f (by decide)) ?_
        refine XS.iconst X_28.here hx rfl (hb hby at_214) ?_
        refine XS.goto X_28.here hx rfl (pc0 := 215) (pc' := 219) rfl (hb hby at_215) (by decide) (by decide) ?_
        exact kt
      refine GoesW.retB X_28 hx hS (by rw [K_28]; exact hk_9) hlk hret (hb hby at_219) (by decide) (by decide) ?_
      intro V vh vv
      try rw [vv]
      try rw [vh]
      try rw [K_28]
      exact ⟨rfl, N_28⟩
    · -- not kd = (1 : Int32)
      refine GoesW.go (U' := (T_5.setTop (mkF m 223 #[sI_ q0, sI_ q1, sI_ q2, sI_ q3, sI_ g4, sI_ g5, sI_ g6, sI_ kd, sI_ bb, sJ_ la, sS_, sJ_ lb, sS_, .val (.double dx), sS_, .val (.double dy), sS_, sR_ b_1, sU_, sU_] [(.int (2 : Int32)), (.int kd)]))) (fun t kt => ?_) ?_
      · skip
        refine XS.icmpYes X_5.here hx rfl (pc0 := 202) (pc' := 220) rfl (hb hby at_202) rfl (XT.ii_ne_t k1) (by decide) (by decide) ?_
        refine XS.iload X_5.here hx rfl (hb hby at_220) rfl ?_
        refine XS.iconst X_5.here hx rfl (hb hby at_222) ?_
        exact kt
      by_cases k2 : kd = (2 : Int32)
      · -- kd = (2 : Int32)
        refine GoesW.go (U' := (T_5.setTop (mkF m 231 #[sI_ q0, sI_ q1, sI_ q2, sI_ q3, sI_ g4, sI_ g5, sI_ g6, sI_ kd, sI_ bb, sJ_ la, sS_, sJ_ lb, sS_, .val (.double dx), sS_, .val (.double dy), sS_, sR_ b_1, sU_, sU_] [(.int (q3 &&& (1 : Int32))), (.ref b_1)]))) (fun t kt => ?_) ?_
        · skip
          refine XS.icmpNo X_5.here hx rfl (hb hby at_223) rfl (XT.ii_ne_f k2) ?_
          refine XS.aload X_5.here hx rfl (hb hby at_226) rfl rfl ?_
          refine XS.iloadN X_5.here hx rfl (hb hby at_228) rfl ?_
          refine XS.iconst X_5.here hx rfl (hb hby at_229) ?_
          refine XS.iand X_5.here hx rfl (hb hby at_230) rfl ?_
          exact kt
        by_cases c0 : (q3 &&& (1 : Int32)) = 0
        · -- (q3 &&& (1 : Int32)) = 0
          refine GoesW.go (U' := (T_5.setTop (mkF m 239 #[sI_ q0, sI_ q1, sI_ q2, sI_ q3, sI_ g4, sI_ g5, sI_ g6, sI_ kd, sI_ bb, sJ_ la, sS_, sJ_ lb, sS_, .val (.double dx), sS_, .val (.double dy), sS_, sR_ b_1, sU_, sU_] [(.int (0 : Int32)), (.ref b_1)]))) (fun t kt => ?_) ?_
          · skip
            refine XS.ifYes X_5.here hx rfl (pc0 := 231) (pc' := 238) rfl (hb hby at_231) rfl (XT.i0_eq_t c0) (by decide) (by decide) ?_
            refine XS.iconst X_5.here hx rfl (hb hby at_238) ?_
            exact kt
          obtain ⟨v_29, T_29, L_29, X_29, q_29, st_29⟩ := callStatic X_5 hx hZ (y := (⟨"com/example/thistle/thistle/language/BooleanValue", "of", "(Z)Lcom/example/thistle/thistle/language/BooleanValue;"⟩ : MethodName)) (W := 1) hown (wdOf hw 75 rfl) (wdOf hw 76 rfl) (wdOf hw 77 rfl) (wdOf hw 78 rfl) (by decide) (rm_of0 l Z a0 hw [] rf T_5.heap n0 y_9 (S0.ext f_6.2)) (by decide) (by decide) (by decide) (by decide) (rfl : T_5.heap = T_5.heap) (g := (mkF m 239 #[sI_ q0, sI_ q1, sI_ q2, sI_ q3, sI_ g4, sI_ g5, sI_ g6, sI_ kd, sI_ bb, sJ_ la, sS_, sJ_ lb, sS_, .val (.double dx), sS_, .val (.double dy), sS_, sR_ b_1, sU_, sU_] [(.int (0 : Int32)), (.ref b_1)])) rfl (by rw [hml]; rfl) (argsL := [(.int (0 : Int32))]) (rest := [(.ref b_1)]) (lenOf pd_9 rfl) rfl rfl (Nat.le_refl _) (hb hby at_239)
          obtain ⟨rfl, n_29, K_29⟩ := q_29
          have N_29 := Fr.app N_5 n_29
          refine GoesW.go (U' := (T_29.setTop (mkF m 242 #[sI_ q0, sI_ q1, sI_ q2, sI_ q3, sI_ g4, sI_ g5, sI_ g6, sI_ kd, sI_ bb, sJ_ la, sS_, sJ_ lb, sS_, .val (.double dx), sS_, .val (.double dy), sS_, sR_ b_1, sU_, sU_] [(.ref rf), (.ref b_1)]))) st_29 ?_
          obtain ⟨v_30, T_30, L_30, X_30, q_30, st_30⟩ := callVirtual X_29 hx hZ (y := (⟨"com/example/thistle/thistle/language/NumberValue", "equals", "(Ljava/lang/Object;)Z"⟩ : MethodName)) (z := (⟨"com/example/thistle/thistle/language/NumberValue", "equals", "(Ljava/lang/Object;)Z"⟩ : MethodName)) (W := 0) hown (wdOf hw 21 rfl) (wdOf hw 22 rfl) (notFace_of_selects (args := #[]) (mvT hZ (wdOf hw 24 rfl))) (wdOf hw 24 rfl) (wdOf hw 23 rfl) (wdOf hw 3 rfl) (wdOf hw 25 rfl) (by decide) (rm_eqb l Z a0 hw [] b_1 rf T_5.heap n0 y_9 (E0.ext f_6.2)) (by decide) (by decide) (by decide) (by decide) K_29 f_7 (g := (mkF m 242 #[sI_ q0, sI_ q1, sI_ q2, sI_ q3, sI_ g4, sI_ g5, sI_ g6, sI_ kd, sI_ bb, sJ_ la, sS_, sJ_ lb, sS_, .val (.double dx), sS_, .val (.double dy), sS_, sR_ b_1, sU_, sU_] [(.ref rf), (.ref b_1)])) rfl (by rw [hml]; rfl) (argsL := [(.ref rf)]) (rest := []) (lenOf pd_8 rfl) rfl rfl (Nat.le_refl _) (hb hby at_242)
          obtain ⟨rfl, n_30, K_30⟩ := q_30
          have N_30 := Fr.app N_29 n_30
          refine GoesW.go (U' := (T_30.setTop (mkF m 245 #[sI_ q0, sI_ q1, sI_ q2, sI_ q3, sI_ g4, sI_ g5, sI_ g6, sI_ kd, sI_ bb, sJ_ la, sS_, sJ_ lb, sS_, .val (.double dx), sS_, .val (.double dy), sS_, sR_ b_1, sU_, sU_] [(.int (0 : Int32))]))) st_30 ?_
          refine GoesW.go (U' := (T_30.setTop (mkF m 253 #[sI_ q0, sI_ q1, sI_ q2, sI_ q3, sI_ g4, sI_ g5, sI_ g6, sI_ kd, sI_ bb, sJ_ la, sS_, sJ_ lb, sS_, .val (.double dx), sS_, .val (.double dy), sS_, sR_ b_1, sU_, sU_] [(.int (1 : Int32))]))) (fun t kt => ?_) ?_
          · skip
            refine XS.ifNo X_30.here hx rfl (hb hby at_245) rfl (XT.i0_ne_f (by decide)) ?_
            refine XS.iconst X_30.here hx rfl (hb hby at_248) ?_
            refine XS.goto X_30.here hx rfl (pc0 := 249) (pc' := 253) rfl (hb hby at_249) (by decide) (by decide) ?_
            exact kt
          refine GoesW.retB X_30 hx hS (by rw [K_30]; exact hk_9) hlk hret (hb hby at_253) (by decide) (by decide) ?_
          intro V vh vv
          try rw [vv]
          try rw [vh]
          try rw [K_30]
          exact ⟨rfl, N_30⟩
        · -- not (q3 &&& (1 : Int32)) = 0
          refine GoesW.go (U' := (T_5.setTop (mkF m 239 #[sI_ q0, sI_ q1, sI_ q2, sI_ q3, sI_ g4, sI_ g5, sI_ g6, sI_ kd, sI_ bb, sJ_ la, sS_, sJ_ lb, sS_, .val (.double dx), sS_, .val (.double dy), sS_, sR_ b_1, sU_, sU_] [(.int (1 : Int32)), (.ref b_1)]))) (fun t kt => ?_) ?_
          · skip
            refine XS.ifNo X_5.here hx rfl (hb hby at_231) rfl (XT.i0_eq_f c0) ?_
            refine XS.iconst X_5.here hx rfl (hb hby at_234) ?_
            refine XS.goto X_5.here hx rfl (pc0 := 235) (pc' := 239) rfl (hb hby at_235) (by decide) (by decide) ?_
            exact kt
          obtain ⟨v_31, T_31, L_31, X_31, q_31, st_31⟩ := callStatic X_5 hx hZ (y := (⟨"com/example/thistle/thistle/language/BooleanValue", "of", "(Z)Lcom/example/thistle/thistle/language/BooleanValue;"⟩ : MethodName)) (W := 1) hown (wdOf hw 75 rfl) (wdOf hw 76 rfl) (wdOf hw 77 rfl) (wdOf hw 78 rfl) (by decide) (rm_of1 l Z a0 hw [] rt T_5.heap n0 y_9 (S1.ext f_6.2)) (by decide) (by decide) (by decide) (by decide) (rfl : T_5.heap = T_5.heap) (g := (mkF m 239 #[sI_ q0, sI_ q1, sI_ q2, sI_ q3, sI_ g4, sI_ g5, sI_ g6, sI_ kd, sI_ bb, sJ_ la, sS_, sJ_ lb, sS_, .val (.double dx), sS_, .val (.double dy), sS_, sR_ b_1, sU_, sU_] [(.int (1 : Int32)), (.ref b_1)])) rfl (by rw [hml]; rfl) (argsL := [(.int (1 : Int32))]) (rest := [(.ref b_1)]) (lenOf pd_9 rfl) rfl rfl (Nat.le_refl _) (hb hby at_239)
          obtain ⟨rfl, n_31, K_31⟩ := q_31
          have N_31 := Fr.app N_5 n_31
          refine GoesW.go (U' := (T_31.setTop (mkF m 242 #[sI_ q0, sI_ q1, sI_ q2, sI_ q3, sI_ g4, sI_ g5, sI_ g6, sI_ kd, sI_ bb, sJ_ la, sS_, sJ_ lb, sS_, .val (.double dx), sS_, .val (.double dy), sS_, sR_ b_1, sU_, sU_] [(.ref rt), (.ref b_1)]))) st_31 ?_
          obtain ⟨v_32, T_32, L_32, X_32, q_32, st_32⟩ := callVirtual X_31 hx hZ (y := (⟨"com/example/thistle/thistle/language/NumberValue", "equals", "(Ljava/lang/Object;)Z"⟩ : MethodName)) (z := (⟨"com/example/thistle/thistle/language/NumberValue", "equals", "(Ljava/lang/Object;)Z"⟩ : MethodName)) (W := 0) hown (wdOf hw 21 rfl) (wdOf hw 22 rfl) (notFace_of_selects (args := #[]) (mvT hZ (wdOf hw 24 rfl))) (wdOf hw 24 rfl) (wdOf hw 23 rfl) (wdOf hw 3 rfl) (wdOf hw 25 rfl) (by decide) (rm_eqb l Z a0 hw [] b_1 rt T_5.heap n0 y_9 (E1.ext f_6.2)) (by decide) (by decide) (by decide) (by decide) K_31 f_7 (g := (mkF m 242 #[sI_ q0, sI_ q1, sI_ q2, sI_ q3, sI_ g4, sI_ g5, sI_ g6, sI_ kd, sI_ bb, sJ_ la, sS_, sJ_ lb, sS_, .val (.double dx), sS_, .val (.double dy), sS_, sR_ b_1, sU_, sU_] [(.ref rt), (.ref b_1)])) rfl (by rw [hml]; rfl) (argsL := [(.ref rt)]) (rest := []) (lenOf pd_8 rfl) rfl rfl (Nat.le_refl _) (hb hby at_242)
          obtain ⟨rfl, n_32, K_32⟩ := q_32
          have N_32 := Fr.app N_31 n_32
          refine GoesW.go (U' := (T_32.setTop (mkF m 245 #[sI_ q0, sI_ q1, sI_ q2, sI_ q3, sI_ g4, sI_ g5, sI_ g6, sI_ kd, sI_ bb, sJ_ la, sS_, sJ_ lb, sS_, .val (.double dx), sS_, .val (.double dy), sS_, sR_ b_1, sU_, sU_] [(.int (0 : Int32))]))) st_32 ?_
          refine GoesW.go (U' := (T_32.setTop (mkF m 253 #[sI_ q0, sI_ q1, sI_ q2, sI_ q3, sI_ g4, sI_ g5, sI_ g6, sI_ kd, sI_ bb, sJ_ la, sS_, sJ_ lb, sS_, .val (.double dx), sS_, .val (.double dy), sS_, sR_ b_1, sU_, sU_] [(.int (1 : Int32))]))) (fun t kt => ?_) ?_
          · skip
            refine XS.ifNo X_32.here hx rfl (hb hby at_245) rfl (XT.i0_ne_f (by decide)) ?_
            refine XS.iconst X_32.here hx rfl (hb hby at_248) ?_
            refine XS.goto X_32.here hx rfl (pc0 := 249) (pc' := 253) rfl (hb hby at_249) (by decide) (by decide) ?_
            exact kt
          refine GoesW.retB X_32 hx hS (by rw [K_32]; exact hk_9) hlk hret (hb hby at_253) (by decide) (by decide) ?_
          intro V vh vv
          try rw [vv]
          try rw [vh]
          try rw [K_32]
          exact ⟨rfl, N_32⟩
      · -- not kd = (2 : Int32)
        refine GoesW.go (U' := (T_5.setTop (mkF m 255 #[sI_ q0, sI_ q1, sI_ q2, sI_ q3, sI_ g4, sI_ g5, sI_ g6, sI_ kd, sI_ bb, sJ_ la, sS_, sJ_ lb, sS_, .val (.double dx), sS_, .val (.double dy), sS_, sR_ b_1, sU_, sU_] [(.int (1 : Int32))]))) (fun t kt => ?_) ?_
        · skip
          refine XS.icmpYes X_5.here hx rfl (pc0 := 223) (pc' := 254) rfl (hb hby at_223) rfl (XT.ii_ne_t k2) (by decide) (by decide) ?_
          refine XS.iconst X_5.here hx rfl (hb hby at_254) ?_
          exact kt
        obtain ⟨T_33, h_33, k_33, X_33, e_33, E_33, A_33, st_33⟩ := newP X_5 hx hZ (wdOf hw 28 rfl) (rfl : T_5.heap = T_5.heap) (g := (mkF m 255 #[sI_ q0, sI_ q1, sI_ q2, sI_ q3, sI_ g4, sI_ g5, sI_ g6, sI_ kd, sI_ bb, sJ_ la, sS_, sJ_ lb, sS_, .val (.double dx), sS_, .val (.double dy), sS_, sR_ b_1, sU_, sU_] [(.int (1 : Int32))])) rfl (hb hby at_255) rfl (by decide) (cap := 1) (by decide) (by decide) (by decide) (by decide)
        obtain ⟨b_33, g_33⟩ : ∃ z, z = T_5.heap.size := ⟨_, rfl⟩
        rw [← g_33] at A_33 st_33
        have ne_34 : b_1 ≠ b_33 := Nat.ne_of_lt (Nat.lt_of_lt_of_le f_7.lt (Nat.le_of_eq g_33.symm))
        have o_33 : n0 ≤ b_33 := Nat.le_trans y_9 (Nat.le_of_eq g_33.symm)
        have z_33 : h0.size ≤ b_33 := Nat.le_trans K_9.1 (Nat.le_of_eq g_33.symm)
        have f_35 : Old Z n0 h_33 := f_6.ext E_33
        have f_36 : Exa Z h_33 b_1 "com/example/thistle/thistle/language/NumberValue" := f_7.ext E_33
        have f_37 : Fld Z h_33 b_1 "com/example/thistle/thistle/language/NumberValue" "number" "D" (.double dx) := Fq_5.ext E_33
        have V_33 : Arv Z h_33 b_33 k_33 .char (1 : Int32) [(.int (0 : Int32))] (.int (0 : Int32)) := (Arv.new A_33 (by decide)).pad (pad_rep [] (.int (0 : Int32)) 1)
        have K_38 : Keep h0 h_33 [] := K_9.ext E_33
        have y_38 : n0 ≤ h_33.size := Nat.le_trans Z0 K_38.1
        have hk_38 := Nat.le_trans hk_9 E_33.1
        refine GoesW.go (U' := (T_33.setTop (mkF m 257 #[sI_ q0, sI_ q1, sI_ q2, sI_ q3, sI_ g4, sI_ g5, sI_ g6, sI_ kd, sI_ bb, sJ_ la, sS_, sJ_ lb, sS_, .val (.double dx), sS_, .val (.double dy), sS_, sR_ b_1, sU_, sU_] [(.ref b_33)]))) st_33 ?_
        refine GoesW.go (U' := (T_33.setTop (mkF m 265 #[sI_ q0, sI_ q1, sI_ q2, sI_ q3, sI_ g4, sI_ g5, sI_ g6, sI_ kd, sI_ bb, sJ_ la, sS_, sJ_ lb, sS_, .val (.double dx), sS_, .val (.double dy), sS_, sR_ b_1, sU_, sU_] [(.int ((q3 &&& (255 : Int32)).toUInt32.toUInt16.toUInt32.toInt32)), (.int (0 : Int32)), (.ref b_33), (.ref b_33)]))) (fun t kt => ?_) ?_
        · skip
          refine XS.dup X_33.here hx rfl (hb hby at_257) rfl rfl ?_
          refine XS.iconst X_33.here hx rfl (hb hby at_258) ?_
          refine XS.iloadN X_33.here hx rfl (hb hby at_259) rfl ?_
          refine XS.sipush X_33.here hx rfl (hb hby at_260) ?_
          refine XS.iand X_33.here hx rfl (hb hby at_263) rfl ?_
          refine XS.i2c X_33.here hx rfl (hb hby at_264) rfl ?_
          exact kt
        obtain ⟨cl_39, Ar_39, q_39, S_39, M_39, H_39, G_39⟩ := id V_33
        have hin_39 : ¬ ((0 : Int32) < 0 ∨ cl_39.slots.size ≤ ((0 : Int32)).toNatClampNeg) := inb_of S_39 ⟨by decide, by decide⟩
        obtain ⟨T_39, h_39, X_39, e_39, W_39, st_39⟩ := stC X_33 hx hZ e_33 Ar_39 (j := (0 : Int32)) hin_39 (g := (mkF m 265 #[sI_ q0, sI_ q1, sI_ q2, sI_ q3, sI_ g4, sI_ g5, sI_ g6, sI_ kd, sI_ bb, sJ_ la, sS_, sJ_ lb, sS_, .val (.double dx), sS_, .val (.double dy), sS_, sR_ b_1, sU_, sU_] [(.int ((q3 &&& (255 : Int32)).toUInt32.toUInt16.toUInt32.toInt32)), (.int (0 : Int32)), (.ref b_33), (.ref b_33)])) rfl rfl (hb hby at_265)
        have V_39 : Arv Z h_39 b_33 k_33 .char (1 : Int32) [(.int (nar .char ((q3 &&& (255 : Int32)).toUInt32.toUInt16.toUInt32.toInt32)))] (.int (0 : Int32)) := Arv.set Ar_39 q_39 S_39 M_39 H_39 G_39 (fits_nar_char _) W_39 0 rfl (Nat.le_of_ble_eq_true rfl)
        have N_39 := Fr.snoc X_39 N_5 o_33
        have f_40 : Old Z n0 h_39 := f_35.wr W_39 o_33
        have f_41 : Exa Z h_39 b_1 "com/example/thistle/thistle/language/NumberValue" := f_36.wr W_39
        have f_42 : Fld Z h_39 b_1 "com/example/thistle/thistle/language/NumberValue" "number" "D" (.double dx) := f_37.other W_39 (Or.inl ne_34)
        have K_44 : Keep h0 h_39 [] := K_38.wr W_39 (Or.inr z_33)
        have y_44 : n0 ≤ h_39.size := Nat.le_trans Z0 K_44.1
        have hk_44 := Nat.le_trans hk_38 (Nat.le_of_eq W_39.size.symm)
        refine GoesW.go (U' := (T_39.setTop (mkF m 266 #[sI_ q0, sI_ q1, sI_ q2, sI_ q3, sI_ g4, sI_ g5, sI_ g6, sI_ kd, sI_ bb, sJ_ la, sS_, sJ_ lb, sS_, .val (.double dx), sS_, .val (.double dy), sS_, sR_ b_1, sU_, sU_] [(.ref b_33)]))) st_39 ?_
        refine GoesW.go (U' := (T_39.setTop (mkF m 270 #[sI_ q0, sI_ q1, sI_ q2, sI_ q3, sI_ g4, sI_ g5, sI_ g6, sI_ kd, sI_ bb, sJ_ la, sS_, sJ_ lb, sS_, .val (.double dx), sS_, .val (.double dy), sS_, sR_ b_1, sR_ b_33, sU_] [(.ref b_1)]))) (fun t kt => ?_) ?_
        · skip
          refine XS.astore X_39.here hx rfl (hb hby at_266) rfl rfl (l' := #[sI_ q0, sI_ q1, sI_ q2, sI_ q3, sI_ g4, sI_ g5, sI_ g6, sI_ kd, sI_ bb, sJ_ la, sS_, sJ_ lb, sS_, .val (.double dx), sS_, .val (.double dy), sS_, sR_ b_1, sR_ b_33, sU_]) rfl ?_
          refine XS.aload X_39.here hx rfl (hb hby at_268) rfl rfl ?_
          exact kt
        obtain ⟨T_45, h_45, X_45, e_45, E_45, A_45, D_45, -, st_45⟩ := newO X_39 hx hZ hown (wdOf hw 29 rfl) (wdOf hw 30 rfl) (wdOf hw 31 rfl) e_39 (g := (mkF m 270 #[sI_ q0, sI_ q1, sI_ q2, sI_ q3, sI_ g4, sI_ g5, sI_ g6, sI_ kd, sI_ bb, sJ_ la, sS_, sJ_ lb, sS_, .val (.double dx), sS_, .val (.double dy), sS_, sR_ b_1, sR_ b_33, sU_] [(.ref b_1)])) rfl (hb hby at_270) (by decide) (by decide)
        obtain ⟨b_45, g_45⟩ : ∃ z, z = h_39.size := ⟨_, rfl⟩
        rw [← g_45] at A_45 D_45 st_45
        have ne_46 : b_1 ≠ b_45 := Nat.ne_of_lt (Nat.lt_of_lt_of_le f_41.lt (Nat.le_of_eq g_45.symm))
        have ne_47 : b_33 ≠ b_45 := Nat.ne_of_lt (Nat.lt_of_lt_of_le V_39.lt (Nat.le_of_eq g_45.symm))
        have o_45 : n0 ≤ b_45 := Nat.le_trans y_44 (Nat.le_of_eq g_45.symm)
        have z_45 : h0.size ≤ b_45 := Nat.le_trans K_44.1 (Nat.le_of_eq g_45.symm)
        have f_48 : Old Z n0 h_45 := f_40.ext E_45
        have f_49 : Exa Z h_45 b_1 "com/example/thistle/thistle/language/NumberValue" := f_41.ext E_45
        have f_50 : Fld Z h_45 b_1 "com/example/thistle/thistle/language/NumberValue" "number" "D" (.double dx) := f_42.ext E_45
        have f_51 : Arv Z h_45 b_33 k_33 .char (1 : Int32) [(.int (nar .char ((q3 &&& (255 : Int32)).toUInt32.toUInt16.toUInt32.toInt32)))] (.int (0 : Int32)) := V_39.ext E_45
        have f_52 : Fld Z h_45 b_45 "com/example/thistle/thistle/language/StringValue" "text" "Ljava/lang/String;" .null := D_45 (Or.inr (wdOf hw 72 rfl)) (ty := (.object "java/lang/String")) (by decide)
        have K_53 : Keep h0 h_45 [] := K_44.ext E_45
        have y_53 : n0 ≤ h_45.size := Nat.le_trans Z0 K_53.1
        have hk_53 := Nat.le_trans hk_44 E_45.1
        refine GoesW.go (U' := (T_45.setTop (mkF m 273 #[sI_ q0, sI_ q1, sI_ q2, sI_ q3, sI_ g4, sI_ g5, sI_ g6, sI_ kd, sI_ bb, sJ_ la, sS_, sJ_ lb, sS_, .val (.double dx), sS_, .val (.double dy), sS_, sR_ b_1, sR_ b_33, sU_] [(.ref b_45), (.ref b_1)]))) st_45 ?_
        refine GoesW.go (U' := (T_45.setTop (mkF m 274 #[sI_ q0, sI_ q1, sI_ q2, sI_ q3, sI_ g4, sI_ g5, sI_ g6, sI_ kd, sI_ bb, sJ_ la, sS_, sJ_ lb, sS_, .val (.double dx), sS_, .val (.double dy), sS_, sR_ b_1, sR_ b_33, sU_] [(.ref b_45), (.ref b_45), (.ref b_1)]))) (fun t kt => ?_) ?_
        · skip
          refine XS.dup X_45.here hx rfl (hb hby at_273) rfl rfl ?_
          exact kt
        obtain ⟨T_54, h_54, X_54, e_54, E_54, A_54, D_54, -, st_54⟩ := newO X_45 hx hZ hown (wdOf hw 32 rfl) (wdOf hw 33 rfl) (wdOf hw 34 rfl) e_45 (g := (mkF m 274 #[sI_ q0, sI_ q1, sI_ q2, sI_ q3, sI_ g4, sI_ g5, sI_ g6, sI_ kd, sI_ bb, sJ_ la, sS_, sJ_ lb, sS_, .val (.double dx), sS_, .val (.double dy), sS_, sR_ b_1, sR_ b_33, sU_] [(.ref b_45), (.ref b_45), (.ref b_1)])) rfl (hb hby at_274) (by decide) (by decide)
        obtain ⟨b_54, g_54⟩ : ∃ z, z = h_45.size := ⟨_, rfl⟩
        rw [← g_54] at A_54 D_54 st_54
        have ne_55 : b_1 ≠ b_54 := Nat.ne_of_lt (Nat.lt_of_lt_of_le f_49.lt (Nat.le_of_eq g_54.symm))
        have ne_56 : b_33 ≠ b_54 := Nat.ne_of_lt (Nat.lt_of_lt_of_le f_51.lt (Nat.le_of_eq g_54.symm))
        have ne_57 : b_45 ≠ b_54 := Nat.ne_of_lt (Nat.lt_of_lt_of_le A_45.lt (Nat.le_of_eq g_54.symm))
        have o_54 : n0 ≤ b_54 := Nat.le_trans y_53 (Nat.le_of_eq g_54.symm)
        have z_54 : h0.size ≤ b_54 := Nat.le_trans K_53.1 (Nat.le_of_eq g_54.symm)
        have f_58 : Old Z n0 h_54 := f_48.ext E_54
        have f_59 : Exa Z h_54 b_1 "com/example/thistle/thistle/language/NumberValue" := f_49.ext E_54
        have f_60 : Fld Z h_54 b_1 "com/example/thistle/thistle/language/NumberValue" "number" "D" (.double dx) := f_50.ext E_54
        have f_61 : Arv Z h_54 b_33 k_33 .char (1 : Int32) [(.int (nar .char ((q3 &&& (255 : Int32)).toUInt32.toUInt16.toUInt32.toInt32)))] (.int (0 : Int32)) := f_51.ext E_54
        have f_62 : Exa Z h_54 b_45 "com/example/thistle/thistle/language/StringValue" := A_45.ext E_54
        have f_63 : Fld Z h_54 b_45 "com/example/thistle/thistle/language/StringValue" "text" "Ljava/lang/String;" .null := f_52.ext E_54
        have f_64 : Fld Z h_54 b_54 "java/lang/String" "coder" "B" (.int (0 : Int32)) := D_54 (Or.inr (wdOf hw 56 rfl)) (ty := .byte) (by decide)
        have f_65 : Fld Z h_54 b_54 "java/lang/String" "value" "[B" .null := D_54 (Or.inr (wdOf hw 58 rfl)) (ty := (.array .byte)) (by decide)
        have K_66 : Keep h0 h_54 [] := K_53.ext E_54
        have y_66 : n0 ≤ h_54.size := Nat.le_trans Z0 K_66.1
        have hk_66 := Nat.le_trans hk_53 E_54.1
        refine GoesW.go (U' := (T_54.setTop (mkF m 277 #[sI_ q0, sI_ q1, sI_ q2, sI_ q3, sI_ g4, sI_ g5, sI_ g6, sI_ kd, sI_ bb, sJ_ la, sS_, sJ_ lb, sS_, .val (.double dx), sS_, .val (.double dy), sS_, sR_ b_1, sR_ b_33, sU_] [(.ref b_54), (.ref b_45), (.ref b_45), (.ref b_1)]))) st_54 ?_
        refine GoesW.go (U' := (T_54.setTop (mkF m 280 #[sI_ q0, sI_ q1, sI_ q2, sI_ q3, sI_ g4, sI_ g5, sI_ g6, sI_ kd, sI_ bb, sJ_ la, sS_, sJ_ lb, sS_, .val (.double dx), sS_, .val (.double dy), sS_, sR_ b_1, sR_ b_33, sU_] [(.ref b_33), (.ref b_54), (.ref b_54), (.ref b_45), (.ref b_45), (.ref b_1)]))) (fun t kt => ?_) ?_
        · skip
          refine XS.dup X_54.here hx rfl (hb hby at_277) rfl rfl ?_
          refine XS.aload X_54.here hx rfl (hb hby at_278) rfl rfl ?_
          exact kt
        obtain ⟨v_67, T_67, L_67, X_67, q_67, st_67⟩ := callInit X_54 hx hZ (y := (⟨"java/lang/String", "<init>", "([C)V"⟩ : MethodName)) (W := 4) rfl hown (wdOf hw 35 rfl) (wdOf hw 36 rfl) (wdOf hw 34 rfl) (wdOf hw 37 rfl) (by decide) (rm_sc1 l Z a0 hw [] b_54 b_33 k_33 cs ((nar .char ((q3 &&& (255 : Int32)).toUInt32.toUInt16.toUInt32.toInt32))) h_54 n0 y_66 f_58 SC hcs o_54 A_54 f_65 f_64 f_61 (own_nff _)) (by decide) (by decide) (by decide) (by decide) e_54 (b := b_54) (g := (mkF m 280 #[sI_ q0, sI_ q1, sI_ q2, sI_ q3, sI_ g4, sI_ g5, sI_ g6, sI_ kd, sI_ bb, sJ_ la, sS_, sJ_ lb, sS_, .val (.double dx), sS_, .val (.double dy), sS_, sR_ b_1, sR_ b_33, sU_] [(.ref b_33), (.ref b_54), (.ref b_54), (.ref b_45), (.ref b_45), (.ref b_1)])) rfl (by rw [hml]; rfl) (argsL := [(.ref b_33)]) (rest := [(.ref b_54), (.ref b_45), (.ref b_45), (.ref b_1)]) (lenOf pd_10 rfl) rfl rfl (Nat.le_refl _) (hb hby at_280)
        obtain ⟨rfl, n_67, K_67, Eq_67⟩ := q_67
        have N_67 := Fr.app N_39 n_67
        have f_68 : Old Z n0 T_67.heap := f_58.keep K_67 (allS o_54 all0)
        have f_69 : Exa Z T_67.heap b_1 "com/example/thistle/thistle/language/NumberValue" := f_59.keep K_67
        have f_70 : Fld Z T_67.heap b_1 "com/example/thistle/thistle/language/NumberValue" "number" "D" (.double dx) := f_60.keep K_67 (ninS ne_55 nin0)
        have f_71 : Exa Z T_67.heap b_45 "com/example/thistle/thistle/language/StringValue" := f_62.keep K_67
        have f_72 : Fld Z T_67.heap b_45 "com/example/thistle/thistle/language/StringValue" "text" "Ljava/lang/String;" .null := f_63.keep K_67 (ninS ne_57 nin0)
        have f_73 : Exa Z T_67.heap b_54 "java/lang/String" := A_54.keep K_67
        have K_76 : Keep h0 T_67.heap [] := K_66.trans K_67 (allS (P := fun x => x ∈ [] ∨ h0.size ≤ x) (Or.inr z_54) all0)
        have y_76 : n0 ≤ T_67.heap.size := Nat.le_trans Z0 K_76.1
        have hk_76 := Nat.le_trans hk_66 K_67.1
        refine GoesW.go (U' := (T_67.setTop (mkF m 283 #[sI_ q0, sI_ q1, sI_ q2, sI_ q3, sI_ g4, sI_ g5, sI_ g6, sI_ kd, sI_ bb, sJ_ la, sS_, sJ_ lb, sS_, .val (.double dx), sS_, .val (.double dy), sS_, sR_ b_1, sR_ b_33, sU_] [(.ref b_54), (.ref b_45), (.ref b_45), (.ref b_1)]))) st_67 ?_
        obtain ⟨v_77, T_77, V_77, L_77, X_77, ve_77, vv_77, q_77, hS_77, hZ, hown, st_77⟩ := callInitW X_67 hx hZ (y := (⟨"com/example/thistle/thistle/language/StringValue", "<init>", "(Ljava/lang/String;)V"⟩ : MethodName)) (W := 2) rfl hown (wdOf hw 59 rfl) (wdOf hw 60 rfl) (wdOf hw 31 rfl) (wdOf hw 61 rfl) (by decide) (rm_svi l Z a0 hw [] b_45 b_54 T_67.heap n0 y_76 o_45 f_71 f_72 f_73) (by decide) (by decide) (by decide) (by decide) (rfl : T_67.heap = T_67.heap) (fun _ q => (LIv.tt (Z := Z) (h := T_67.heap)).warm q) hS hk_76 (b := b_45) (g := (mkF m 283 #[sI_ q0, sI_ q1, sI_ q2, sI_ q3, sI_ g4, sI_ g5, sI_ g6, sI_ kd, sI_ bb, sJ_ la, sS_, sJ_ lb, sS_, .val (.double dx), sS_, .val (.double dy), sS_, sR_ b_1, sR_ b_33, sU_] [(.ref b_54), (.ref b_45), (.ref b_45), (.ref b_1)])) rfl (by rw [hml]; rfl) (argsL := [(.ref b_54)]) (rest := [(.ref b_45), (.ref b_1)]) (lenOf pd_11 rfl) rfl rfl (Nat.le_refl _) (hb hby at_283)
        rw [ve_77, vv_77] at q_77
        obtain ⟨rfl, n_77, K_77, LI_77, Eq_77⟩ := q_77
        have N_77 := Fr.app N_67 n_77
        have f_78 : Old Z n0 T_77.heap := f_68.keep K_77 (allS o_45 all0)
        have f_79 : Exa Z T_77.heap b_1 "com/example/thistle/thistle/language/NumberValue" := f_69.keep K_77
        have f_80 : Fld Z T_77.heap b_1 "com/example/thistle/thistle/language/NumberValue" "number" "D" (.double dx) := f_70.keep K_77 (ninS ne_46 nin0)
        have f_81 : Exa Z T_77.heap b_45 "com/example/thistle/thistle/language/StringValue" := f_71.keep K_77
        have f_83 : Exa Z T_77.heap b_54 "java/lang/String" := f_73.keep K_77
        have K_84 : Keep h0 T_77.heap [] := K_76.trans K_77 (allS (P := fun x => x ∈ [] ∨ h0.size ≤ x) (Or.inr z_45) all0)
        have y_84 : n0 ≤ T_77.heap.size := Nat.le_trans Z0 K_84.1
        have hk_84 := Nat.le_trans hk_76 K_77.1
        refine GoesW.go (U' := (T_77.setTop (mkF m 286 #[sI_ q0, sI_ q1, sI_ q2, sI_ q3, sI_ g4, sI_ g5, sI_ g6, sI_ kd, sI_ bb, sJ_ la, sS_, sJ_ lb, sS_, .val (.double dx), sS_, .val (.double dy), sS_, sR_ b_1, sR_ b_33, sU_] [(.ref b_45), (.ref b_1)]))) st_77 ?_
        obtain ⟨v_85, T_85, L_85, X_85, q_85, st_85⟩ := callVirtual X_77 hx hZ (y := (⟨"com/example/thistle/thistle/language/NumberValue", "equals", "(Ljava/lang/Object;)Z"⟩ : MethodName)) (z := (⟨"com/example/thistle/thistle/language/NumberValue", "equals", "(Ljava/lang/Object;)Z"⟩ : MethodName)) (W := 0) hown (wdOf hw 21 rfl) (wdOf hw 22 rfl) (notFace_of_selects (args := #[]) (mvT hZ (wdOf hw 24 rfl))) (wdOf hw 24 rfl) (wdOf hw 23 rfl) (wdOf hw 3 rfl) (wdOf hw 25 rfl) (by decide) (rm_eqs l Z a0 hw [] b_1 b_45 T_77.heap n0 y_84 f_81) (by decide) (by decide) (by decide) (by decide) (rfl : T_77.heap = T_77.heap) f_79 (g := (mkF m 286 #[sI_ q0, sI_ q1, sI_ q2, sI_ q3, sI_ g4, sI_ g5, sI_ g6, sI_ kd, sI_ bb, sJ_ la, sS_, sJ_ lb, sS_, .val (.double dx), sS_, .val (.double dy), sS_, sR_ b_1, sR_ b_33, sU_] [(.ref b_45), (.ref b_1)])) rfl (by rw [hml]; rfl) (argsL := [(.ref b_45)]) (rest := []) (lenOf pd_8 rfl) rfl rfl (Nat.le_refl _) (hb hby at_286)
        obtain ⟨rfl, n_85, K_85⟩ := q_85
        have N_85 := Fr.app N_77 n_85
        refine GoesW.go (U' := (T_85.setTop (mkF m 289 #[sI_ q0, sI_ q1, sI_ q2, sI_ q3, sI_ g4, sI_ g5, sI_ g6, sI_ kd, sI_ bb, sJ_ la, sS_, sJ_ lb, sS_, .val (.double dx), sS_, .val (.double dy), sS_, sR_ b_1, sR_ b_33, sU_] [(.int (0 : Int32))]))) st_85 ?_
        refine GoesW.go (U' := (T_85.setTop (mkF m 297 #[sI_ q0, sI_ q1, sI_ q2, sI_ q3, sI_ g4, sI_ g5, sI_ g6, sI_ kd, sI_ bb, sJ_ la, sS_, sJ_ lb, sS_, .val (.double dx), sS_, .val (.double dy), sS_, sR_ b_1, sR_ b_33, sU_] [(.int (1 : Int32))]))) (fun t kt => ?_) ?_
        · skip
          refine XS.ifNo X_85.here hx rfl (hb hby at_289) rfl (XT.i0_ne_f (by decide)) ?_
          refine XS.iconst X_85.here hx rfl (hb hby at_292) ?_
          refine XS.goto X_85.here hx rfl (pc0 := 293) (pc' := 297) rfl (hb hby at_293) (by decide) (by decide) ?_
          exact kt
        refine GoesW.retB X_85 hx hS_77 (by rw [K_85]; exact (Nat.le_refl _)) hlk hret (hb hby at_297) (by decide) (by decide) ?_
        intro V vh vv
        try rw [vv]
        try rw [vh]
        try rw [K_85]
        exact ⟨rfl, N_85⟩
set_option maxHeartbeats 4000000 in
theorem ef_rm_law (m : MethodId) (x0 : Int32) (x1 : Int32) (x2 : Int32) (x3 : Int32)  : entryFrame m #[(.int x0), (.int x1), (.int x2), (.int x3)] maxLocals = mkF m 0 #[.val (.int x0), .val (.int x1), .val (.int x2), .val (.int x3), .unset, .unset, .unset, .unset, .unset, .unset, .unset, .unset, .unset, .unset, .unset, .unset, .unset, .unset, .unset, .unset] [] := by first | (simp [entryFrame, mkF, argsToLocals, catR, catN, catI, catJ, maxLocals]; done) | rfl
set_option maxRecDepth 65536 in
set_option maxHeartbeats 40000000 in
theorem rm_law (l : Launch) (Z : State) (a0 : Array Value) (hw : ∀ d ∈ tables_1, d.before a0 Z = true) (ws : List Jvm.Cond) (q0 q1 q2 q3 cs : Int32) (rt rf : Addr) (h0 : Heap) (n0 : Nat) (Z0 : n0 ≤ h0.size) (O : Old Z n0 h0) (SC : Sta Z Z.heap "java/lang/String" "COMPACT_STRINGS" "Z" (.int cs)) (hcs : ¬ cs = 0) (S1 : Sta Z Z.heap "com/example/thistle/thistle/language/BooleanValue" "TRUE" "Lcom/example/thistle/thistle/language/BooleanValue;" (.ref rt)) (E1 : Exa Z Z.heap rt "com/example/thistle/thistle/language/BooleanValue") (S0 : Sta Z Z.heap "com/example/thistle/thistle/language/BooleanValue" "FALSE" "Lcom/example/thistle/thistle/language/BooleanValue;" (.ref rf)) (E0 : Exa Z Z.heap rf "com/example/thistle/thistle/language/BooleanValue") :
    PaysW l Z x code maxLocals ret ws room_1 #[(.int q0), (.int q1), (.int q2), (.int q3)] h0 (LIv Z) (fun v V L => v = some (.int 1) ∧ Fr n0 L) := by
  refine PaysW.of (plainFor_of_name (by first | (simp [plainName, overriddenIn]; done) | decide +kernel)) ?_
  intro p e s m below meth c s₁ hx hby hml hown hnm hret hlk hZ e0 hsh hLI hS X0
  have hk0 : 0 ≤ h0.size := Nat.zero_le _
  replace hLI : LIv Z s.vm h0 := hLI
  have N0 := Fr.nil n0
  have K0 : Keep h0 h0 [] := Keep.refl _ _
  refine GoesW.go (U' := (s₁.setTop (mkF m 0 #[sI_ q0, sI_ q1, sI_ q2, sI_ q3, sU_, sU_, sU_, sU_, sU_, sU_, sU_, sU_, sU_, sU_, sU_, sU_, sU_, sU_, sU_, sU_] []))) (fun t kt => castTop (ef_rm_law m q0 q1 q2 q3) kt) ?_
  refine GoesW.go (U' := (s₁.setTop (mkF m 3 #[sI_ q0, sI_ q1, sI_ q2, sI_ q3, sU_, sU_, sU_, sU_, sU_, sU_, sU_, sU_, sU_, sU_, sU_, sU_, sU_, sU_, sU_, sU_] [(.int (q2 &&& (1 : Int32)))]))) (fun t kt => ?_) ?_
  · skip
    refine XS.iloadN X0.here hx rfl (hb hby at_0) rfl ?_
    refine XS.iconst X0.here hx rfl (hb hby at_1) ?_
    refine XS.iand X0.here hx rfl (hb hby at_2) rfl ?_
    exact kt
  by_cases c0 : (q2 &&& (1 : Int32)) = 0
  · -- (q2 &&& (1 : Int32)) = 0
    refine GoesW.go (U' := (s₁.setTop (mkF m 16 #[sI_ q0, sI_ q1, sI_ q2, sI_ q3, sI_ (0 : Int32), sU_, sU_, sU_, sU_, sU_, sU_, sU_, sU_, sU_, sU_, sU_, sU_, sU_, sU_, sU_] [(.int (q2 &&& (2 : Int32)))]))) (fun t kt => ?_) ?_
    · skip
      refine XS.ifYes X0.here hx rfl (pc0 := 3) (pc' := 10) rfl (hb hby at_3) rfl (XT.i0_eq_t c0) (by decide) (by decide) ?_
      refine XS.iconst X0.here hx rfl (hb hby at_10) ?_
      refine XS.istore X0.here hx rfl (hb hby at_11) rfl (l' := #[sI_ q0, sI_ q1, sI_ q2, sI_ q3, sI_ (0 : Int32), sU_, sU_, sU_, sU_, sU_, sU_, sU_, sU_, sU_, sU_, sU_, sU_, sU_, sU_, sU_]) rfl ?_
      refine XS.iloadN X0.here hx rfl (hb hby at_13) rfl ?_
      refine XS.iconst X0.here hx rfl (hb hby at_14) ?_
      refine XS.iand X0.here hx rfl (hb hby at_15) rfl ?_
      exact kt
    by_cases c1 : (q2 &&& (2 : Int32)) = 0
    · -- (q2 &&& (2 : Int32)) = 0
      refine GoesW.go (U' := (s₁.setTop (mkF m 29 #[sI_ q0, sI_ q1, sI_ q2, sI_ q3, sI_ (0 : Int32), sI_ (0 : Int32), sU_, sU_, sU_, sU_, sU_, sU_, sU_, sU_, sU_, sU_, sU_, sU_, sU_, sU_] [(.int (q2 &&& (4 : Int32)))]))) (fun t kt => ?_) ?_
      · skip
        refine XS.ifYes X0.here hx rfl (pc0 := 16) (pc' := 23) rfl (hb hby at_16) rfl (XT.i0_eq_t c1) (by decide) (by decide) ?_
        refine XS.iconst X0.here hx rfl (hb hby at_23) ?_
        refine XS.istore X0.here hx rfl (hb hby at_24) rfl (l' := #[sI_ q0, sI_ q1, sI_ q2, sI_ q3, sI_ (0 : Int32), sI_ (0 : Int32), sU_, sU_, sU_, sU_, sU_, sU_, sU_, sU_, sU_, sU_, sU_, sU_, sU_, sU_]) rfl ?_
        refine XS.iloadN X0.here hx rfl (hb hby at_26) rfl ?_
        refine XS.iconst X0.here hx rfl (hb hby at_27) ?_
        refine XS.iand X0.here hx rfl (hb hby at_28) rfl ?_
        exact kt
      by_cases c2 : (q2 &&& (4 : Int32)) = 0
      · -- (q2 &&& (4 : Int32)) = 0
        refine GoesW.go (U' := (s₁.setTop (mkF m 127 #[sI_ q0, sI_ q1, sI_ q2, sI_ q3, sI_ (0 : Int32), sI_ (0 : Int32), sI_ (0 : Int32), sI_ (((q2.toUInt32 >>> ((3 : Int32) &&& 31).toUInt32).toInt32) &&& (3 : Int32)), sI_ q1, sJ_ (q0.toInt64), sS_, sJ_ (q1.toInt64), sS_, .val (.double (FP.ddiv (FP.i2d q0) (4616189618054758400 : UInt64))), sS_, .val (.double (FP.ddiv (FP.i2d q1) (4616189618054758400 : UInt64))), sS_, sU_, sU_, sU_] []))) (fun t kt => ?_) ?_
        · skip
          refine XS.ifYes X0.here hx rfl (pc0 := 29) (pc' := 36) rfl (hb hby at_29) rfl (XT.i0_eq_t c2) (by decide) (by decide) ?_
          refine XS.iconst X0.here hx rfl (hb hby at_36) ?_
          refine XS.istore X0.here hx rfl (hb hby at_37) rfl (l' := #[sI_ q0, sI_ q1, sI_ q2, sI_ q3, sI_ (0 : Int32), sI_ (0 : Int32), sI_ (0 : Int32), sU_, sU_, sU_, sU_, sU_, sU_, sU_, sU_, sU_, sU_, sU_, sU_, sU_]) rfl ?_
          refine XS.iloadN X0.here hx rfl (hb hby at_39) rfl ?_
          refine XS.iconst X0.here hx rfl (hb hby at_40) ?_
          refine XS.iushr X0.here hx rfl (hb hby at_41) rfl ?_
          refine XS.iconst X0.here hx rfl (hb hby at_42) ?_
          refine XS.iand X0.here hx rfl (hb hby at_43) rfl ?_
          show Steps p.tables e below (s₁.setTop (mkF m 44 #[sI_ q0, sI_ q1, sI_ q2, sI_ q3, sI_ (0 : Int32), sI_ (0 : Int32), sI_ (0 : Int32), sU_, sU_, sU_, sU_, sU_, sU_, sU_, sU_, sU_, sU_, sU_, sU_, sU_] [(.int (((q2.toUInt32 >>> ((3 : Int32) &&& 31).toUInt32).toInt32) &&& (3 : Int32)))])) t
          refine XS.istore X0.here hx rfl (hb hby at_44) rfl (l' := #[sI_ q0, sI_ q1, sI_ q2, sI_ q3, sI_ (0 : Int32), sI_ (0 : Int32), sI_ (0 : Int32), sI_ (((q2.toUInt32 >>> ((3 : Int32) &&& 31).toUInt32).toInt32) &&& (3 : Int32)), sU_, sU_, sU_, sU_, sU_, sU_, sU_, sU_, sU_, sU_, sU_, sU_]) rfl ?_
          refine XS.iload X0.here hx rfl (hb hby at_46) rfl ?_
          refine XS.ifYes X0.here hx rfl (pc0 := 48) (pc' := 55) rfl (hb hby at_48) rfl (XT.i0_eq_t (by decide)) (by decide) (by decide) ?_
          refine XS.iloadN X0.here hx rfl (hb hby at_55) rfl ?_
          refine XS.istore X0.here hx rfl (hb hby at_56) rfl (l' := #[sI_ q0, sI_ q1, sI_ q2, sI_ q3, sI_ (0 : Int32), sI_ (0 : Int32), sI_ (0 : Int32), sI_ (((q2.toUInt32 >>> ((3 : Int32) &&& 31).toUInt32).toInt32) &&& (3 : Int32)), sI_ q1, sU_, sU_, sU_, sU_, sU_, sU_, sU_, sU_, sU_, sU_, sU_]) rfl ?_
          refine XS.iload X0.here hx rfl (hb hby at_58) rfl ?_
          refine XS.ifYes X0.here hx rfl (pc0 := 60) (pc' := 69) rfl (hb hby at_60) rfl (XT.i0_eq_t (by decide)) (by decide) (by decide) ?_
          refine XS.iloadN X0.here hx rfl (hb hby at_69) rfl ?_
          show Steps p.tables e below (s₁.setTop (mkF m 70 #[sI_ q0, sI_ q1, sI_ q2, sI_ q3, sI_ (0 : Int32), sI_ (0 : Int32), sI_ (0 : Int32), sI_ (((q2.toUInt32 >>> ((3 : Int32) &&& 31).toUInt32).toInt32) &&& (3 : Int32)), sI_ q1, sU_, sU_, sU_, sU_, sU_, sU_, sU_, sU_, sU_, sU_, sU_] [(.int q0)])) t
          refine XS.i2l X0.here hx rfl (hb hby at_70) rfl ?_
          refine XS.lstore X0.here hx rfl (hb hby at_71) rfl (l' := #[sI_ q0, sI_ q1, sI_ q2, sI_ q3, sI_ (0 : Int32), sI_ (0 : Int32), sI_ (0 : Int32), sI_ (((q2.toUInt32 >>> ((3 : Int32) &&& 31).toUInt32).toInt32) &&& (3 : Int32)), sI_ q1, sJ_ (q0.toInt64), sS_, sU_, sU_, sU_, sU_, sU_, sU_, sU_, sU_, sU_]) rfl ?_
          refine XS.iload X0.here hx rfl (hb hby at_73) rfl ?_
          refine XS.ifYes X0.here hx rfl (pc0 := 75) (pc' := 85) rfl (hb hby at_75) rfl (XT.i0_eq_t (by decide)) (by decide) (by decide) ?_
          refine XS.iload X0.here hx rfl (hb hby at_85) rfl ?_
          refine XS.i2l X0.here hx rfl (hb hby at_87) rfl ?_
          refine XS.lstore X0.here hx rfl (hb hby at_88) rfl (l' := #[sI_ q0, sI_ q1, sI_ q2, sI_ q3, sI_ (0 : Int32), sI_ (0 : Int32), sI_ (0 : Int32), sI_ (((q2.toUInt32 >>> ((3 : Int32) &&& 31).toUInt32).toInt32) &&& (3 : Int32)), sI_ q1, sJ_ (q0.toInt64), sS_, sJ_ (q1.toInt64), sS_, sU_, sU_, sU_, sU_, sU_, sU_, sU_]) rfl ?_
          refine XS.iloadN X0.here hx rfl (hb hby at_90) rfl ?_
          show Steps p.tables e below (s₁.setTop (mkF m 91 #[sI_ q0, sI_ q1, sI_ q2, sI_ q3, sI_ (0 : Int32), sI_ (0 : Int32), sI_ (0 : Int32), sI_ (((q2.toUInt32 >>> ((3 : Int32) &&& 31).toUInt32).toInt32) &&& (3 : Int32)), sI_ q1, sJ_ (q0.toInt64), sS_, sJ_ (q1.toInt64), sS_, sU_, sU_, sU_, sU_, sU_, sU_, sU_] [(.int q0)])) t
          refine XS.i2dS X0.here hx rfl (hb hby at_91) rfl rfl ?_
          refine X0.ldc2DoubleC hx hown (mvT hZ (wdOf hw 0 rfl)) (g := (mkF m 92 #[sI_ q0, sI_ q1, sI_ q2, sI_ q3, sI_ (0 : Int32), sI_ (0 : Int32), sI_ (0 : Int32), sI_ (((q2.toUInt32 >>> ((3 : Int32) &&& 31).toUInt32).toInt32) &&& (3 : Int32)), sI_ q1, sJ_ (q0.toInt64), sS_, sJ_ (q1.toInt64), sS_, sU_, sU_, sU_, sU_, sU_, sU_, sU_] [(.double (FP.i2d q0))])) rfl (hb hby at_92) _ ?_
          refine XS.ddivS X0.here hx rfl (hb hby at_95) rfl (Qrt.noNaN _) rfl ?_
          refine XS.dstore X0.here hx rfl (hb hby at_96) rfl (l' := #[sI_ q0, sI_ q1, sI_ q2, sI_ q3, sI_ (0 : Int32), sI_ (0 : Int32), sI_ (0 : Int32), sI_ (((q2.toUInt32 >>> ((3 : Int32) &&& 31).toUInt32).toInt32) &&& (3 : Int32)), sI_ q1, sJ_ (q0.toInt64), sS_, sJ_ (q1.toInt64), sS_, .val (.double (FP.ddiv (FP.i2d q0) (4616189618054758400 : UInt64))), sS_, sU_, sU_, sU_, sU_, sU_]) rfl ?_
          refine XS.iload X0.here hx rfl (hb hby at_98) rfl ?_
          refine XS.ifYes X0.here hx rfl (pc0 := 100) (pc' := 108) rfl (hb hby at_100) rfl (XT.i0_eq_t (by decide)) (by decide) (by decide) ?_
          refine XS.iload X0.here hx rfl (hb hby at_108) rfl ?_
          refine XS.i2dS X0.here hx rfl (hb hby at_110) rfl rfl ?_
          show Steps p.tables e below (s₁.setTop (mkF m 111 #[sI_ q0, sI_ q1, sI_ q2, sI_ q3, sI_ (0 : Int32), sI_ (0 : Int32), sI_ (0 : Int32), sI_ (((q2.toUInt32 >>> ((3 : Int32) &&& 31).toUInt32).toInt32) &&& (3 : Int32)), sI_ q1, sJ_ (q0.toInt64), sS_, sJ_ (q1.toInt64), sS_, .val (.double (FP.ddiv (FP.i2d q0) (4616189618054758400 : UInt64))), sS_, sU_, sU_, sU_, sU_, sU_] [(.double (FP.i2d q1))])) t
          refine X0.ldc2DoubleC hx hown (mvT hZ (wdOf hw 0 rfl)) (g := (mkF m 111 #[sI_ q0, sI_ q1, sI_ q2, sI_ q3, sI_ (0 : Int32), sI_ (0 : Int32), sI_ (0 : Int32), sI_ (((q2.toUInt32 >>> ((3 : Int32) &&& 31).toUInt32).toInt32) &&& (3 : Int32)), sI_ q1, sJ_ (q0.toInt64), sS_, sJ_ (q1.toInt64), sS_, .val (.double (FP.ddiv (FP.i2d q0) (4616189618054758400 : UInt64))), sS_, sU_, sU_, sU_, sU_, sU_] [(.double (FP.i2d q1))])) rfl (hb hby at_111) _ ?_
          refine XS.ddivS X0.here hx rfl (hb hby at_114) rfl (Qrt.noNaN _) rfl ?_
          refine XS.dstore X0.here hx rfl (hb hby at_115) rfl (l' := #[sI_ q0, sI_ q1, sI_ q2, sI_ q3, sI_ (0 : Int32), sI_ (0 : Int32), sI_ (0 : Int32), sI_ (((q2.toUInt32 >>> ((3 : Int32) &&& 31).toUInt32).toInt32) &&& (3 : Int32)), sI_ q1, sJ_ (q0.toInt64), sS_, sJ_ (q1.toInt64), sS_, .val (.double (FP.ddiv (FP.i2d q0) (4616189618054758400 : UInt64))), sS_, .val (.double (FP.ddiv (FP.i2d q1) (4616189618054758400 : UInt64))), sS_, sU_, sU_, sU_]) rfl ?_
          refine XS.iload X0.here hx rfl (hb hby at_117) rfl ?_
          refine XS.ifYes X0.here hx rfl (pc0 := 119) (pc' := 127) rfl (hb hby at_119) rfl (XT.i0_eq_t (by decide)) (by decide) (by decide) ?_
          exact kt
        exact law_127 l Z a0 hw q0 q1 q2 q3 cs rt rf (0 : Int32) (0 : Int32) (0 : Int32) (((q2.toUInt32 >>> ((3 : Int32) &&& 31).toUInt32).toInt32) &&& (3 : Int32)) q1 (q0.toInt64) (q1.toInt64) (FP.ddiv (FP.i2d q0) (4616189618054758400 : UInt64)) (FP.ddiv (FP.i2d q1) (4616189618054758400 : UInt64)) h0 n0 Z0 p e s m below meth c _ _ hx hby hml hown hnm hret hlk hZ _ _ _ X0 e0 N0 K0 O SC hcs S1 E1 S0 E0 (Qrt.pos64 q0) (Qrt.pos64 q1) hS hk0 LIv.tt
      · -- not (q2 &&& (4 : Int32)) = 0
        refine GoesW.go (U' := (s₁.setTop (mkF m 127 #[sI_ q0, sI_ q1, sI_ q2, sI_ q3, sI_ (0 : Int32), sI_ (0 : Int32), sI_ (1 : Int32), sI_ (((q2.toUInt32 >>> ((3 : Int32) &&& 31).toUInt32).toInt32) &&& (3 : Int32)), sI_ q0, sJ_ (q0.toInt64), sS_, sJ_ (q0.toInt64), sS_, .val (.double (FP.ddiv (FP.i2d q0) (4616189618054758400 : UInt64))), sS_, .val (.double (FP.ddiv (FP.i2d q0) (4616189618054758400 : UInt64))), sS_, sU_, sU_, sU_] []))) (fun t kt => ?_) ?_
        · skip
          refine XS.ifNo X0.here hx rfl (hb hby at_29) rfl (XT.i0_eq_f c2) ?_
          refine XS.iconst X0.here hx rfl (hb hby at_32) ?_
          refine XS.goto X0.here hx rfl (pc0 := 33) (pc' := 37) rfl (hb hby at_33) (by decide) (by decide) ?_
          refine XS.istore X0.here hx rfl (hb hby at_37) rfl (l' := #[sI_ q0, sI_ q1, sI_ q2, sI_ q3, sI_ (0 : Int32), sI_ (0 : Int32), sI_ (1 : Int32), sU_, sU_, sU_, sU_, sU_, sU_, sU_, sU_, sU_, sU_, sU_, sU_, sU_]) rfl ?_
          refine XS.iloadN X0.here hx rfl (hb hby at_39) rfl ?_
          refine XS.iconst X0.here hx rfl (hb hby at_40) ?_
          refine XS.iushr X0.here hx rfl (hb hby at_41) rfl ?_
          refine XS.iconst X0.here hx rfl (hb hby at_42) ?_
          show Steps p.tables e below (s₁.setTop (mkF m 43 #[sI_ q0, sI_ q1, sI_ q2, sI_ q3, sI_ (0 : Int32), sI_ (0 : Int32), sI_ (1 : Int32), sU_, sU_, sU_, sU_, sU_, sU_, sU_, sU_, sU_, sU_, sU_, sU_, sU_] [(.int (3 : Int32)), (.int ((q2.toUInt32 >>> ((3 : Int32) &&& 31).toUInt32).toInt32))])) t
          refine XS.iand X0.here hx rfl (hb hby at_43) rfl ?_
          refine XS.istore X0.here hx rfl (hb hby at_44) rfl (l' := #[sI_ q0, sI_ q1, sI_ q2, sI_ q3, sI_ (0 : Int32), sI_ (0 : Int32), sI_ (1 : Int32), sI_ (((q2.toUInt32 >>> ((3 : Int32) &&& 31).toUInt32).toInt32) &&& (3 : Int32)), sU_, sU_, sU_, sU_, sU_, sU_, sU_, sU_, sU_, sU_, sU_, sU_]) rfl ?_
          refine XS.iload X0.here hx rfl (hb hby at_46) rfl ?_
          refine XS.ifNo X0.here hx rfl (hb hby at_48) rfl (XT.i0_eq_f (by decide)) ?_
          refine XS.iloadN X0.here hx rfl (hb hby at_51) rfl ?_
          refine XS.goto X0.here hx rfl (pc0 := 52) (pc' := 56) rfl (hb hby at_52) (by decide) (by decide) ?_
          refine XS.istore X0.here hx rfl (hb hby at_56) rfl (l' := #[sI_ q0, sI_ q1, sI_ q2, sI_ q3, sI_ (0 : Int32), sI_ (0 : Int32), sI_ (1 : Int32), sI_ (((q2.toUInt32 >>> ((3 : Int32) &&& 31).toUInt32).toInt32) &&& (3 : Int32)), sI_ q0, sU_, sU_, sU_, sU_, sU_, sU_, sU_, sU_, sU_, sU_, sU_]) rfl ?_
          refine XS.iload X0.here hx rfl (hb hby at_58) rfl ?_
          show Steps p.tables e below (s₁.setTop (mkF m 60 #[sI_ q0, sI_ q1, sI_ q2, sI_ q3, sI_ (0 : Int32), sI_ (0 : Int32), sI_ (1 : Int32), sI_ (((q2.toUInt32 >>> ((3 : Int32) &&& 31).toUInt32).toInt32) &&& (3 : Int32)), sI_ q0, sU_, sU_, sU_, sU_, sU_, sU_, sU_, sU_, sU_, sU_, sU_] [(.int (0 : Int32))])) t
          refine XS.ifYes X0.here hx rfl (pc0 := 60) (pc' := 69) rfl (hb hby at_60) rfl (XT.i0_eq_t (by decide)) (by decide) (by decide) ?_
          refine XS.iloadN X0.here hx rfl (hb hby at_69) rfl ?_
          refine XS.i2l X0.here hx rfl (hb hby at_70) rfl ?_
          refine XS.lstore X0.here hx rfl (hb hby at_71) rfl (l' := #[sI_ q0, sI_ q1, sI_ q2, sI_ q3, sI_ (0 : Int32), sI_ (0 : Int32), sI_ (1 : Int32), sI_ (((q2.toUInt32 >>> ((3 : Int32) &&& 31).toUInt32).toInt32) &&& (3 : Int32)), sI_ q0, sJ_ (q0.toInt64), sS_, sU_, sU_, sU_, sU_, sU_, sU_, sU_, sU_, sU_]) rfl ?_
          refine XS.iload X0.here hx rfl (hb hby at_73) rfl ?_
          refine XS.ifYes X0.here hx rfl (pc0 := 75) (pc' := 85) rfl (hb hby at_75) rfl (XT.i0_eq_t (by decide)) (by decide) (by decide) ?_
          refine XS.iload X0.here hx rfl (hb hby at_85) rfl ?_
          refine XS.i2l X0.here hx rfl (hb hby at_87) rfl ?_
          show Steps p.tables e below (s₁.setTop (mkF m 88 #[sI_ q0, sI_ q1, sI_ q2, sI_ q3, sI_ (0 : Int32), sI_ (0 : Int32), sI_ (1 : Int32), sI_ (((q2.toUInt32 >>> ((3 : Int32) &&& 31).toUInt32).toInt32) &&& (3 : Int32)), sI_ q0, sJ_ (q0.toInt64), sS_, sU_, sU_, sU_, sU_, sU_, sU_, sU_, sU_, sU_] [(.long (q0.toInt64))])) t
          refine XS.lstore X0.here hx rfl (hb hby at_88) rfl (l' := #[sI_ q0, sI_ q1, sI_ q2, sI_ q3, sI_ (0 : Int32), sI_ (0 : Int32), sI_ (1 : Int32), sI_ (((q2.toUInt32 >>> ((3 : Int32) &&& 31).toUInt32).toInt32) &&& (3 : Int32)), sI_ q0, sJ_ (q0.toInt64), sS_, sJ_ (q0.toInt64), sS_, sU_, sU_, sU_, sU_, sU_, sU_, sU_]) rfl ?_
          refine XS.iloadN X0.here hx rfl (hb hby at_90) rfl ?_
          refine XS.i2dS X0.here hx rfl (hb hby at_91) rfl rfl ?_
          refine X0.ldc2DoubleC hx hown (mvT hZ (wdOf hw 0 rfl)) (g := (mkF m 92 #[sI_ q0, sI_ q1, sI_ q2, sI_ q3, sI_ (0 : Int32), sI_ (0 : Int32), sI_ (1 : Int32), sI_ (((q2.toUInt32 >>> ((3 : Int32) &&& 31).toUInt32).toInt32) &&& (3 : Int32)), sI_ q0, sJ_ (q0.toInt64), sS_, sJ_ (q0.toInt64), sS_, sU_, sU_, sU_, sU_, sU_, sU_, sU_] [(.double (FP.i2d q0))])) rfl (hb hby at_92) _ ?_
          refine XS.ddivS X0.here hx rfl (hb hby at_95) rfl (Qrt.noNaN _) rfl ?_
          refine XS.dstore X0.here hx rfl (hb hby at_96) rfl (l' := #[sI_ q0, sI_ q1, sI_ q2, sI_ q3, sI_ (0 : Int32), sI_ (0 : Int32), sI_ (1 : Int32), sI_ (((q2.toUInt32 >>> ((3 : Int32) &&& 31).toUInt32).toInt32) &&& (3 : Int32)), sI_ q0, sJ_ (q0.toInt64), sS_, sJ_ (q0.toInt64), sS_, .val (.double (FP.ddiv (FP.i2d q0) (4616189618054758400 : UInt64))), sS_, sU_, sU_, sU_, sU_, sU_]) rfl ?_
          refine XS.iload X0.here hx rfl (hb hby at_98) rfl ?_
          refine XS.ifYes X0.here hx rfl (pc0 := 100) (pc' := 108) rfl (hb hby at_100) rfl (XT.i0_eq_t (by decide)) (by decide) (by decide) ?_
          show Steps p.tables e below (s₁.setTop (mkF m 108 #[sI_ q0, sI_ q1, sI_ q2, sI_ q3, sI_ (0 : Int32), sI_ (0 : Int32), sI_ (1 : Int32), sI_ (((q2.toUInt32 >>> ((3 : Int32) &&& 31).toUInt32).toInt32) &&& (3 : Int32)), sI_ q0, sJ_ (q0.toInt64), sS_, sJ_ (q0.toInt64), sS_, .val (.double (FP.ddiv (FP.i2d q0) (4616189618054758400 : UInt64))), sS_, sU_, sU_, sU_, sU_, sU_] [])) t
          refine XS.iload X0.here hx rfl (hb hby at_108) rfl ?_
          refine XS.i2dS X0.here hx rfl (hb hby at_110) rfl rfl ?_
          refine X0.ldc2DoubleC hx hown (mvT hZ (wdOf hw 0 rfl)) (g := (mkF m 111 #[sI_ q0, sI_ q1, sI_ q2, sI_ q3, sI_ (0 : Int32), sI_ (0 : Int32), sI_ (1 : Int32), sI_ (((q2.toUInt32 >>> ((3 : Int32) &&& 31).toUInt32).toInt32) &&& (3 : Int32)), sI_ q0, sJ_ (q0.toInt64), sS_, sJ_ (q0.toInt64), sS_, .val (.double (FP.ddiv (FP.i2d q0) (4616189618054758400 : UInt64))), sS_, sU_, sU_, sU_, sU_, sU_] [(.double (FP.i2d q0))])) rfl (hb hby at_111) _ ?_
          refine XS.ddivS X0.here hx rfl (hb hby at_114) rfl (Qrt.noNaN _) rfl ?_
          refine XS.dstore X0.here hx rfl (hb hby at_115) rfl (l' := #[sI_ q0, sI_ q1, sI_ q2, sI_ q3, sI_ (0 : Int32), sI_ (0 : Int32), sI_ (1 : Int32), sI_ (((q2.toUInt32 >>> ((3 : Int32) &&& 31).toUInt32).toInt32) &&& (3 : Int32)), sI_ q0, sJ_ (q0.toInt64), sS_, sJ_ (q0.toInt64), sS_, .val (.double (FP.ddiv (FP.i2d q0) (4616189618054758400 : UInt64))), sS_, .val (.double (FP.ddiv (FP.i2d q0) (4616189618054758400 : UInt64))), sS_, sU_, sU_, sU_]) rfl ?_
          refine XS.iload X0.here hx rfl (hb hby at_117) rfl ?_
          refine XS.ifYes X0.here hx rfl (pc0 := 119) (pc' := 127) rfl (hb hby at_119) rfl (XT.i0_eq_t (by decide)) (by decide) (by decide) ?_
          exact kt
        exact law_127 l Z a0 hw q0 q1 q2 q3 cs rt rf (0 : Int32) (0 : Int32) (1 : Int32) (((q2.toUInt32 >>> ((3 : Int32) &&& 31).toUInt32).toInt32) &&& (3 : Int32)) q0 (q0.toInt64) (q0.toInt64) (FP.ddiv (FP.i2d q0) (4616189618054758400 : UInt64)) (FP.ddiv (FP.i2d q0) (4616189618054758400 : UInt64)) h0 n0 Z0 p e s m below meth c _ _ hx hby hml hown hnm hret hlk hZ _ _ _ X0 e0 N0 K0 O SC hcs S1 E1 S0 E0 (Qrt.pos64 q0) (Qrt.pos64 q0) hS hk0 LIv.tt
    · -- not (q2 &&& (2 : Int32)) = 0
      refine GoesW.go (U' := (s₁.setTop (mkF m 29 #[sI_ q0, sI_ q1, sI_ q2, sI_ q3, sI_ (0 : Int32), sI_ (1 : Int32), sU_, sU_, sU_, sU_, sU_, sU_, sU_, sU_, sU_, sU_, sU_, sU_, sU_, sU_] [(.int (q2 &&& (4 : Int32)))]))) (fun t kt => ?_) ?_
      · skip
        refine XS.ifNo X0.here hx rfl (hb hby at_16) rfl (XT.i0_eq_f c1) ?_
        refine XS.iconst X0.here hx rfl (hb hby at_19) ?_
        refine XS.goto X0.here hx rfl (pc0 := 20) (pc' := 24) rfl (hb hby at_20) (by decide) (by decide) ?_
        refine XS.istore X0.here hx rfl (hb hby at_24) rfl (l' := #[sI_ q0, sI_ q1, sI_ q2, sI_ q3, sI_ (0 : Int32), sI_ (1 : Int32), sU_, sU_, sU_, sU_, sU_, sU_, sU_, sU_, sU_, sU_, sU_, sU_, sU_, sU_]) rfl ?_
        refine XS.iloadN X0.here hx rfl (hb hby at_26) rfl ?_
        refine XS.iconst X0.here hx rfl (hb hby at_27) ?_
        refine XS.iand X0.here hx rfl (hb hby at_28) rfl ?_
        exact kt
      by_cases c2 : (q2 &&& (4 : Int32)) = 0
      · -- (q2 &&& (4 : Int32)) = 0
        refine GoesW.go (U' := (s₁.setTop (mkF m 127 #[sI_ q0, sI_ q1, sI_ q2, sI_ q3, sI_ (0 : Int32), sI_ (1 : Int32), sI_ (0 : Int32), sI_ (((q2.toUInt32 >>> ((3 : Int32) &&& 31).toUInt32).toInt32) &&& (3 : Int32)), sI_ q1, sJ_ (q0.toInt64), sS_, sJ_ (-(q1.toInt64)), sS_, .val (.double (FP.ddiv (FP.i2d q0) (4616189618054758400 : UInt64))), sS_, .val (.double (FP.dneg (FP.ddiv (FP.i2d q1) (4616189618054758400 : UInt64)))), sS_, sU_, sU_, sU_] []))) (fun t kt => ?_) ?_
        · skip
          refine XS.ifYes X0.here hx rfl (pc0 := 29) (pc' := 36) rfl (hb hby at_29) rfl (XT.i0_eq_t c2) (by decide) (by decide) ?_
          refine XS.iconst X0.here hx rfl (hb hby at_36) ?_
          refine XS.istore X0.here hx rfl (hb hby at_37) rfl (l' := #[sI_ q0, sI_ q1, sI_ q2, sI_ q3, sI_ (0 : Int32), sI_ (1 : Int32), sI_ (0 : Int32), sU_, sU_, sU_, sU_, sU_, sU_, sU_, sU_, sU_, sU_, sU_, sU_, sU_]) rfl ?_
          refine XS.iloadN X0.here hx rfl (hb hby at_39) rfl ?_
          refine XS.iconst X0.here hx rfl (hb hby at_40) ?_
          refine XS.iushr X0.here hx rfl (hb hby at_41) rfl ?_
          refine XS.iconst X0.here hx rfl (hb hby at_42) ?_
          refine XS.iand X0.here hx rfl (hb hby at_43) rfl ?_
          show Steps p.tables e below (s₁.setTop (mkF m 44 #[sI_ q0, sI_ q1, sI_ q2, sI_ q3, sI_ (0 : Int32), sI_ (1 : Int32), sI_ (0 : Int32), sU_, sU_, sU_, sU_, sU_, sU_, sU_, sU_, sU_, sU_, sU_, sU_, sU_] [(.int (((q2.toUInt32 >>> ((3 : Int32) &&& 31).toUInt32).toInt32) &&& (3 : Int32)))])) t
          refine XS.istore X0.here hx rfl (hb hby at_44) rfl (l' := #[sI_ q0, sI_ q1, sI_ q2, sI_ q3, sI_ (0 : Int32), sI_ (1 : Int32), sI_ (0 : Int32), sI_ (((q2.toUInt32 >>> ((3 : Int32) &&& 31).toUInt32).toInt32) &&& (3 : Int32)), sU_, sU_, sU_, sU_, sU_, sU_, sU_, sU_, sU_, sU_, sU_, sU_]) rfl ?_
          refine XS.iload X0.here hx rfl (hb hby at_46) rfl ?_
          refine XS.ifYes X0.here hx rfl (pc0 := 48) (pc' := 55) rfl (hb hby at_48) rfl (XT.i0_eq_t (by decide)) (by decide) (by decide) ?_
          refine XS.iloadN X0.here hx rfl (hb hby at_55) rfl ?_
          refine XS.istore X0.here hx rfl (hb hby at_56) rfl (l' := #[sI_ q0, sI_ q1, sI_ q2, sI_ q3, sI_ (0 : Int32), sI_ (1 : Int32), sI_ (0 : Int32), sI_ (((q2.toUInt32 >>> ((3 : Int32) &&& 31).toUInt32).toInt32) &&& (3 : Int32)), sI_ q1, sU_, sU_, sU_, sU_, sU_, sU_, sU_, sU_, sU_, sU_, sU_]) rfl ?_
          refine XS.iload X0.here hx rfl (hb hby at_58) rfl ?_
          refine XS.ifYes X0.here hx rfl (pc0 := 60) (pc' := 69) rfl (hb hby at_60) rfl (XT.i0_eq_t (by decide)) (by decide) (by decide) ?_
          refine XS.iloadN X0.here hx rfl (hb hby at_69) rfl ?_
          show Steps p.tables e below (s₁.setTop (mkF m 70 #[sI_ q0, sI_ q1, sI_ q2, sI_ q3, sI_ (0 : Int32), sI_ (1 : Int32), sI_ (0 : Int32), sI_ (((q2.toUInt32 >>> ((3 : Int32) &&& 31).toUInt32).toInt32) &&& (3 : Int32)), sI_ q1, sU_, sU_, sU_, sU_, sU_, sU_, sU_, sU_, sU_, sU_, sU_] [(.int q0)])) t
          refine XS.i2l X0.here hx rfl (hb hby at_70) rfl ?_
          refine XS.lstore X0.here hx rfl (hb hby at_71) rfl (l' := #[sI_ q0, sI_ q1, sI_ q2, sI_ q3, sI_ (0 : Int32), sI_ (1 : Int32), sI_ (0 : Int32), sI_ (((q2.toUInt32 >>> ((3 : Int32) &&& 31).toUInt32).toInt32) &&& (3 : Int32)), sI_ q1, sJ_ (q0.toInt64), sS_, sU_, sU_, sU_, sU_, sU_, sU_, sU_, sU_, sU_]) rfl ?_
          refine XS.iload X0.here hx rfl (hb hby at_73) rfl ?_
          refine XS.ifNo X0.here hx rfl (hb hby at_75) rfl (XT.i0_eq_f (by decide)) ?_
          refine XS.iload X0.here hx rfl (hb hby at_78) rfl ?_
          refine XS.i2l X0.here hx rfl (hb hby at_80) rfl ?_
          refine XS.lneg X0.here hx rfl (hb hby at_81) rfl ?_
          refine XS.goto X0.here hx rfl (pc0 := 82) (pc' := 88) rfl (hb hby at_82) (by decide) (by decide) ?_
          show Steps p.tables e below (s₁.setTop (mkF m 88 #[sI_ q0, sI_ q1, sI_ q2, sI_ q3, sI_ (0 : Int32), sI_ (1 : Int32), sI_ (0 : Int32), sI_ (((q2.toUInt32 >>> ((3 : Int32) &&& 31).toUInt32).toInt32) &&& (3 : Int32)), sI_ q1, sJ_ (q0.toInt64), sS_, sU_, sU_, sU_, sU_, sU_, sU_, sU_, sU_, sU_] [(.long (-(q1.toInt64)))])) t
          refine XS.lstore X0.here hx rfl (hb hby at_88) rfl (l' := #[sI_ q0, sI_ q1, sI_ q2, sI_ q3, sI_ (0 : Int32), sI_ (1 : Int32), sI_ (0 : Int32), sI_ (((q2.toUInt32 >>> ((3 : Int32) &&& 31).toUInt32).toInt32) &&& (3 : Int32)), sI_ q1, sJ_ (q0.toInt64), sS_, sJ_ (-(q1.toInt64)), sS_, sU_, sU_, sU_, sU_, sU_, sU_, sU_]) rfl ?_
          refine XS.iloadN X0.here hx rfl (hb hby at_90) rfl ?_
          refine XS.i2dS X0.here hx rfl (hb hby at_91) rfl rfl ?_
          refine X0.ldc2DoubleC hx hown (mvT hZ (wdOf hw 0 rfl)) (g := (mkF m 92 #[sI_ q0, sI_ q1, sI_ q2, sI_ q3, sI_ (0 : Int32), sI_ (1 : Int32), sI_ (0 : Int32), sI_ (((q2.toUInt32 >>> ((3 : Int32) &&& 31).toUInt32).toInt32) &&& (3 : Int32)), sI_ q1, sJ_ (q0.toInt64), sS_, sJ_ (-(q1.toInt64)), sS_, sU_, sU_, sU_, sU_, sU_, sU_, sU_] [(.double (FP.i2d q0))])) rfl (hb hby at_92) _ ?_
          refine XS.ddivS X0.here hx rfl (hb hby at_95) rfl (Qrt.noNaN _) rfl ?_
          refine XS.dstore X0.here hx rfl (hb hby at_96) rfl (l' := #[sI_ q0, sI_ q1, sI_ q2, sI_ q3, sI_ (0 : Int32), sI_ (1 : Int32), sI_ (0 : Int32), sI_ (((q2.toUInt32 >>> ((3 : Int32) &&& 31).toUInt32).toInt32) &&& (3 : Int32)), sI_ q1, sJ_ (q0.toInt64), sS_, sJ_ (-(q1.toInt64)), sS_, .val (.double (FP.ddiv (FP.i2d q0) (4616189618054758400 : UInt64))), sS_, sU_, sU_, sU_, sU_, sU_]) rfl ?_
          refine XS.iload X0.here hx rfl (hb hby at_98) rfl ?_
          refine XS.ifYes X0.here hx rfl (pc0 := 100) (pc' := 108) rfl (hb hby at_100) rfl (XT.i0_eq_t (by decide)) (by decide) (by decide) ?_
          show Steps p.tables e below (s₁.setTop (mkF m 108 #[sI_ q0, sI_ q1, sI_ q2, sI_ q3, sI_ (0 : Int32), sI_ (1 : Int32), sI_ (0 : Int32), sI_ (((q2.toUInt32 >>> ((3 : Int32) &&& 31).toUInt32).toInt32) &&& (3 : Int32)), sI_ q1, sJ_ (q0.toInt64), sS_, sJ_ (-(q1.toInt64)), sS_, .val (.double (FP.ddiv (FP.i2d q0) (4616189618054758400 : UInt64))), sS_, sU_, sU_, sU_, sU_, sU_] [])) t
          refine XS.iload X0.here hx rfl (hb hby at_108) rfl ?_
          refine XS.i2dS X0.here hx rfl (hb hby at_110) rfl rfl ?_
          refine X0.ldc2DoubleC hx hown (mvT hZ (wdOf hw 0 rfl)) (g := (mkF m 111 #[sI_ q0, sI_ q1, sI_ q2, sI_ q3, sI_ (0 : Int32), sI_ (1 : Int32), sI_ (0 : Int32), sI_ (((q2.toUInt32 >>> ((3 : Int32) &&& 31).toUInt32).toInt32) &&& (3 : Int32)), sI_ q1, sJ_ (q0.toInt64), sS_, sJ_ (-(q1.toInt64)), sS_, .val (.double (FP.ddiv (FP.i2d q0) (4616189618054758400 : UInt64))), sS_, sU_, sU_, sU_, sU_, sU_] [(.double (FP.i2d q1))])) rfl (hb hby at_111) _ ?_
          refine XS.ddivS X0.here hx rfl (hb hby at_114) rfl (Qrt.noNaN _) rfl ?_
          refine XS.dstore X0.here hx rfl (hb hby at_115) rfl (l' := #[sI_ q0, sI_ q1, sI_ q2, sI_ q3, sI_ (0 : Int32), sI_ (1 : Int32), sI_ (0 : Int32), sI_ (((q2.toUInt32 >>> ((3 : Int32) &&& 31).toUInt32).toInt32) &&& (3 : Int32)), sI_ q1, sJ_ (q0.toInt64), sS_, sJ_ (-(q1.toInt64)), sS_, .val (.double (FP.ddiv (FP.i2d q0) (4616189618054758400 : UInt64))), sS_, .val (.double (FP.ddiv (FP.i2d q1) (4616189618054758400 : UInt64))), sS_, sU_, sU_, sU_]) rfl ?_
          refine XS.iload X0.here hx rfl (hb hby at_117) rfl ?_
          refine XS.ifNo X0.here hx rfl (hb hby at_119) rfl (XT.i0_eq_f (by decide)) ?_
          refine XS.dload X0.here hx rfl (hb hby at_122) rfl ?_
          show Steps p.tables e below (s₁.setTop (mkF m 124 #[sI_ q0, sI_ q1, sI_ q2, sI_ q3, sI_ (0 : Int32), sI_ (1 : Int32), sI_ (0 : Int32), sI_ (((q2.toUInt32 >>> ((3 : Int32) &&& 31).toUInt32).toInt32) &&& (3 : Int32)), sI_ q1, sJ_ (q0.toInt64), sS_, sJ_ (-(q1.toInt64)), sS_, .val (.double (FP.ddiv (FP.i2d q0) (4616189618054758400 : UInt64))), sS_, .val (.double (FP.ddiv (FP.i2d q1) (4616189618054758400 : UInt64))), sS_, sU_, sU_, sU_] [(.double (FP.ddiv (FP.i2d q1) (4616189618054758400 : UInt64)))])) t
          refine XS.dnegS X0.here hx rfl (hb hby at_124) rfl rfl ?_
          refine XS.dstore X0.here hx rfl (hb hby at_125) rfl (l' := #[sI_ q0, sI_ q1, sI_ q2, sI_ q3, sI_ (0 : Int32), sI_ (1 : Int32), sI_ (0 : Int32), sI_ (((q2.toUInt32 >>> ((3 : Int32) &&& 31).toUInt32).toInt32) &&& (3 : Int32)), sI_ q1, sJ_ (q0.toInt64), sS_, sJ_ (-(q1.toInt64)), sS_, .val (.double (FP.ddiv (FP.i2d q0) (4616189618054758400 : UInt64))), sS_, .val (.double (FP.dneg (FP.ddiv (FP.i2d q1) (4616189618054758400 : UInt64)))), sS_, sU_, sU_, sU_]) rfl ?_
          exact kt
        exact law_127 l Z a0 hw q0 q1 q2 q3 cs rt rf (0 : Int32) (1 : Int32) (0 : Int32) (((q2.toUInt32 >>> ((3 : Int32) &&& 31).toUInt32).toInt32) &&& (3 : Int32)) q1 (q0.toInt64) (-(q1.toInt64)) (FP.ddiv (FP.i2d q0) (4616189618054758400 : UInt64)) (FP.dneg (FP.ddiv (FP.i2d q1) (4616189618054758400 : UInt64))) h0 n0 Z0 p e s m below meth c _ _ hx hby hml hown hnm hret hlk hZ _ _ _ X0 e0 N0 K0 O SC hcs S1 E1 S0 E0 (Qrt.pos64 q0) (Qrt.neg64 q1) hS hk0 LIv.tt
      · -- not (q2 &&& (4 : Int32)) = 0
        refine GoesW.go (U' := (s₁.setTop (mkF m 127 #[sI_ q0, sI_ q1, sI_ q2, sI_ q3, sI_ (0 : Int32), sI_ (1 : Int32), sI_ (1 : Int32), sI_ (((q2.toUInt32 >>> ((3 : Int32) &&& 31).toUInt32).toInt32) &&& (3 : Int32)), sI_ q0, sJ_ (q0.toInt64), sS_, sJ_ (-(q0.toInt64)), sS_, .val (.double (FP.ddiv (FP.i2d q0) (4616189618054758400 : UInt64))), sS_, .val (.double (FP.dneg (FP.ddiv (FP.i2d q0) (4616189618054758400 : UInt64)))), sS_, sU_, sU_, sU_] []))) (fun t kt => ?_) ?_
        · skip
          refine XS.ifNo X0.here hx rfl (hb hby at_29) rfl (XT.i0_eq_f c2) ?_
          refine XS.iconst X0.here hx rfl (hb hby at_32) ?_
          refine XS.goto X0.here hx rfl (pc0 := 33) (pc' := 37) rfl (hb hby at_33) (by decide) (by decide) ?_
          refine XS.istore X0.here hx rfl (hb hby at_37) rfl (l' := #[sI_ q0, sI_ q1, sI_ q2, sI_ q3, sI_ (0 : Int32), sI_ (1 : Int32), sI_ (1 : Int32), sU_, sU_, sU_, sU_, sU_, sU_, sU_, sU_, sU_, sU_, sU_, sU_, sU_]) rfl ?_
          refine XS.iloadN X0.here hx rfl (hb hby at_39) rfl ?_
          refine XS.iconst X0.here hx rfl (hb hby at_40) ?_
          refine XS.iushr X0.here hx rfl (hb hby at_41) rfl ?_
          refine XS.iconst X0.here hx rfl (hb hby at_42) ?_
          show Steps p.tables e below (s₁.setTop (mkF m 43 #[sI_ q0, sI_ q1, sI_ q2, sI_ q3, sI_ (0 : Int32), sI_ (1 : Int32), sI_ (1 : Int32), sU_, sU_, sU_, sU_, sU_, sU_, sU_, sU_, sU_, sU_, sU_, sU_, sU_] [(.int (3 : Int32)), (.int ((q2.toUInt32 >>> ((3 : Int32) &&& 31).toUInt32).toInt32))])) t
          refine XS.iand X0.here hx rfl (hb hby at_43) rfl ?_
          refine XS.istore X0.here hx rfl (hb hby at_44) rfl (l' := #[sI_ q0, sI_ q1, sI_ q2, sI_ q3, sI_ (0 : Int32), sI_ (1 : Int32), sI_ (1 : Int32), sI_ (((q2.toUInt32 >>> ((3 : Int32) &&& 31).toUInt32).toInt32) &&& (3 : Int32)), sU_, sU_, sU_, sU_, sU_, sU_, sU_, sU_, sU_, sU_, sU_, sU_]) rfl ?_
          refine XS.iload X0.here hx rfl (hb hby at_46) rfl ?_
          refine XS.ifNo X0.here hx rfl (hb hby at_48) rfl (XT.i0_eq_f (by decide)) ?_
          refine XS.iloadN X0.here hx rfl (hb hby at_51) rfl ?_
          refine XS.goto X0.here hx rfl (pc0 := 52) (pc' := 56) rfl (hb hby at_52) (by decide) (by decide) ?_
          refine XS.istore X0.here hx rfl (hb hby at_56) rfl (l' := #[sI_ q0, sI_ q1, sI_ q2, sI_ q3, sI_ (0 : Int32), sI_ (1 : Int32), sI_ (1 : Int32), sI_ (((q2.toUInt32 >>> ((3 : Int32) &&& 31).toUInt32).toInt32) &&& (3 : Int32)), sI_ q0, sU_, sU_, sU_, sU_, sU_, sU_, sU_, sU_, sU_, sU_, sU_]) rfl ?_
          refine XS.iload X0.here hx rfl (hb hby at_58) rfl ?_
          show Steps p.tables e below (s₁.setTop (mkF m 60 #[sI_ q0, sI_ q1, sI_ q2, sI_ q3, sI_ (0 : Int32), sI_ (1 : Int32), sI_ (1 : Int32), sI_ (((q2.toUInt32 >>> ((3 : Int32) &&& 31).toUInt32).toInt32) &&& (3 : Int32)), sI_ q0, sU_, sU_, sU_, sU_, sU_, sU_, sU_, sU_, sU_, sU_, sU_] [(.int (0 : Int32))])) t
          refine XS.ifYes X0.here hx rfl (pc0 := 60) (pc' := 69) rfl (hb hby at_60) rfl (XT.i0_eq_t (by decide)) (by decide) (by decide) ?_
          refine XS.iloadN X0.here hx rfl (hb hby at_69) rfl ?_
          refine XS.i2l X0.here hx rfl (hb hby at_70) rfl ?_
          refine XS.lstore X0.here hx rfl (hb hby at_71) rfl (l' := #[sI_ q0, sI_ q1, sI_ q2, sI_ q3, sI_ (0 : Int32), sI_ (1 : Int32), sI_ (1 : Int32), sI_ (((q2.toUInt32 >>> ((3 : Int32) &&& 31).toUInt32).toInt32) &&& (3 : Int32)), sI_ q0, sJ_ (q0.toInt64), sS_, sU_, sU_, sU_, sU_, sU_, sU_, sU_, sU_, sU_]) rfl ?_
          refine XS.iload X0.here hx rfl (hb hby at_73) rfl ?_
          refine XS.ifNo X0.here hx rfl (hb hby at_75) rfl (XT.i0_eq_f (by decide)) ?_
          refine XS.iload X0.here hx rfl (hb hby at_78) rfl ?_
          refine XS.i2l X0.here hx rfl (hb hby at_80) rfl ?_
          show Steps p.tables e below (s₁.setTop (mkF m 81 #[sI_ q0, sI_ q1, sI_ q2, sI_ q3, sI_ (0 : Int32), sI_ (1 : Int32), sI_ (1 : Int32), sI_ (((q2.toUInt32 >>> ((3 : Int32) &&& 31).toUInt32).toInt32) &&& (3 : Int32)), sI_ q0, sJ_ (q0.toInt64), sS_, sU_, sU_, sU_, sU_, sU_, sU_, sU_, sU_, sU_] [(.long (q0.toInt64))])) t
          refine XS.lneg X0.here hx rfl (hb hby at_81) rfl ?_
          refine XS.goto X0.here hx rfl (pc0 := 82) (pc' := 88) rfl (hb hby at_82) (by decide) (by decide) ?_
          refine XS.lstore X0.here hx rfl (hb hby at_88) rfl (l' := #[sI_ q0, sI_ q1, sI_ q2, sI_ q3, sI_ (0 : Int32), sI_ (1 : Int32), sI_ (1 : Int32), sI_ (((q2.toUInt32 >>> ((3 : Int32) &&& 31).toUInt32).toInt32) &&& (3 : Int32)), sI_ q0, sJ_ (q0.toInt64), sS_, sJ_ (-(q0.toInt64)), sS_, sU_, sU_, sU_, sU_, sU_, sU_, sU_]) rfl ?_
          refine XS.iloadN X0.here hx rfl (hb hby at_90) rfl ?_
          refine XS.i2dS X0.here hx rfl (hb hby at_91) rfl rfl ?_
          refine X0.ldc2DoubleC hx hown (mvT hZ (wdOf hw 0 rfl)) (g := (mkF m 92 #[sI_ q0, sI_ q1, sI_ q2, sI_ q3, sI_ (0 : Int32), sI_ (1 : Int32), sI_ (1 : Int32), sI_ (((q2.toUInt32 >>> ((3 : Int32) &&& 31).toUInt32).toInt32) &&& (3 : Int32)), sI_ q0, sJ_ (q0.toInt64), sS_, sJ_ (-(q0.toInt64)), sS_, sU_, sU_, sU_, sU_, sU_, sU_, sU_] [(.double (FP.i2d q0))])) rfl (hb hby at_92) _ ?_
          refine XS.ddivS X0.here hx rfl (hb hby at_95) rfl (Qrt.noNaN _) rfl ?_
          refine XS.dstore X0.here hx rfl (hb hby at_96) rfl (l' := #[sI_ q0, sI_ q1, sI_ q2, sI_ q3, sI_ (0 : Int32), sI_ (1 : Int32), sI_ (1 : Int32), sI_ (((q2.toUInt32 >>> ((3 : Int32) &&& 31).toUInt32).toInt32) &&& (3 : Int32)), sI_ q0, sJ_ (q0.toInt64), sS_, sJ_ (-(q0.toInt64)), sS_, .val (.double (FP.ddiv (FP.i2d q0) (4616189618054758400 : UInt64))), sS_, sU_, sU_, sU_, sU_, sU_]) rfl ?_
          show Steps p.tables e below (s₁.setTop (mkF m 98 #[sI_ q0, sI_ q1, sI_ q2, sI_ q3, sI_ (0 : Int32), sI_ (1 : Int32), sI_ (1 : Int32), sI_ (((q2.toUInt32 >>> ((3 : Int32) &&& 31).toUInt32).toInt32) &&& (3 : Int32)), sI_ q0, sJ_ (q0.toInt64), sS_, sJ_ (-(q0.toInt64)), sS_, .val (.double (FP.ddiv (FP.i2d q0) (4616189618054758400 : UInt64))), sS_, sU_, sU_, sU_, sU_, sU_] [])) t
          refine XS.iload X0.here hx rfl (hb hby at_98) rfl ?_
          refine XS.ifYes X0.here hx rfl (pc0 := 100) (pc' := 108) rfl (hb hby at_100) rfl (XT.i0_eq_t (by decide)) (by decide) (by decide) ?_
          refine XS.iload X0.here hx rfl (hb hby at_108) rfl ?_
          refine XS.i2dS X0.here hx rfl (hb hby at_110) rfl rfl ?_
          refine X0.ldc2DoubleC hx hown (mvT hZ (wdOf hw 0 rfl)) (g := (mkF m 111 #[sI_ q0, sI_ q1, sI_ q2, sI_ q3, sI_ (0 : Int32), sI_ (1 : Int32), sI_ (1 : Int32), sI_ (((q2.toUInt32 >>> ((3 : Int32) &&& 31).toUInt32).toInt32) &&& (3 : Int32)), sI_ q0, sJ_ (q0.toInt64), sS_, sJ_ (-(q0.toInt64)), sS_, .val (.double (FP.ddiv (FP.i2d q0) (4616189618054758400 : UInt64))), sS_, sU_, sU_, sU_, sU_, sU_] [(.double (FP.i2d q0))])) rfl (hb hby at_111) _ ?_
          refine XS.ddivS X0.here hx rfl (hb hby at_114) rfl (Qrt.noNaN _) rfl ?_
          refine XS.dstore X0.here hx rfl (hb hby at_115) rfl (l' := #[sI_ q0, sI_ q1, sI_ q2, sI_ q3, sI_ (0 : Int32), sI_ (1 : Int32), sI_ (1 : Int32), sI_ (((q2.toUInt32 >>> ((3 : Int32) &&& 31).toUInt32).toInt32) &&& (3 : Int32)), sI_ q0, sJ_ (q0.toInt64), sS_, sJ_ (-(q0.toInt64)), sS_, .val (.double (FP.ddiv (FP.i2d q0) (4616189618054758400 : UInt64))), sS_, .val (.double (FP.ddiv (FP.i2d q0) (4616189618054758400 : UInt64))), sS_, sU_, sU_, sU_]) rfl ?_
          refine XS.iload X0.here hx rfl (hb hby at_117) rfl ?_
          show Steps p.tables e below (s₁.setTop (mkF m 119 #[sI_ q0, sI_ q1, sI_ q2, sI_ q3, sI_ (0 : Int32), sI_ (1 : Int32), sI_ (1 : Int32), sI_ (((q2.toUInt32 >>> ((3 : Int32) &&& 31).toUInt32).toInt32) &&& (3 : Int32)), sI_ q0, sJ_ (q0.toInt64), sS_, sJ_ (-(q0.toInt64)), sS_, .val (.double (FP.ddiv (FP.i2d q0) (4616189618054758400 : UInt64))), sS_, .val (.double (FP.ddiv (FP.i2d q0) (4616189618054758400 : UInt64))), sS_, sU_, sU_, sU_] [(.int (1 : Int32))])) t
          refine XS.ifNo X0.here hx rfl (hb hby at_119) rfl (XT.i0_eq_f (by decide)) ?_
          refine XS.dload X0.here hx rfl (hb hby at_122) rfl ?_
          refine XS.dnegS X0.here hx rfl (hb hby at_124) rfl rfl ?_
          refine XS.dstore X0.here hx rfl (hb hby at_125) rfl (l' := #[sI_ q0, sI_ q1, sI_ q2, sI_ q3, sI_ (0 : Int32), sI_ (1 : Int32), sI_ (1 : Int32), sI_ (((q2.toUInt32 >>> ((3 : Int32) &&& 31).toUInt32).toInt32) &&& (3 : Int32)), sI_ q0, sJ_ (q0.toInt64), sS_, sJ_ (-(q0.toInt64)), sS_, .val (.double (FP.ddiv (FP.i2d q0) (4616189618054758400 : UInt64))), sS_, .val (.double (FP.dneg (FP.ddiv (FP.i2d q0) (4616189618054758400 : UInt64)))), sS_, sU_, sU_, sU_]) rfl ?_
          exact kt
        exact law_127 l Z a0 hw q0 q1 q2 q3 cs rt rf (0 : Int32) (1 : Int32) (1 : Int32) (((q2.toUInt32 >>> ((3 : Int32) &&& 31).toUInt32).toInt32) &&& (3 : Int32)) q0 (q0.toInt64) (-(q0.toInt64)) (FP.ddiv (FP.i2d q0) (4616189618054758400 : UInt64)) (FP.dneg (FP.ddiv (FP.i2d q0) (4616189618054758400 : UInt64))) h0 n0 Z0 p e s m below meth c _ _ hx hby hml hown hnm hret hlk hZ _ _ _ X0 e0 N0 K0 O SC hcs S1 E1 S0 E0 (Qrt.pos64 q0) (Qrt.neg64 q0) hS hk0 LIv.tt
  · -- not (q2 &&& (1 : Int32)) = 0
    refine GoesW.go (U' := (s₁.setTop (mkF m 16 #[sI_ q0, sI_ q1, sI_ q2, sI_ q3, sI_ (1 : Int32), sU_, sU_, sU_, sU_, sU_, sU_, sU_, sU_, sU_, sU_, sU_, sU_, sU_, sU_, sU_] [(.int (q2 &&& (2 : Int32)))]))) (fun t kt => ?_) ?_
    · skip
      refine XS.ifNo X0.here hx rfl (hb hby at_3) rfl (XT.i0_eq_f c0) ?_
      refine XS.iconst X0.here hx rfl (hb hby at_6) ?_
      refine XS.goto X0.here hx rfl (pc0 := 7) (pc' := 11) rfl (hb hby at_7) (by decide) (by decide) ?_
      refine XS.istore X0.here hx rfl (hb hby at_11) rfl (l' := #[sI_ q0, sI_ q1, sI_ q2, sI_ q3, sI_ (1 : Int32), sU_, sU_, sU_, sU_, sU_, sU_, sU_, sU_, sU_, sU_, sU_, sU_, sU_, sU_, sU_]) rfl ?_
      refine XS.iloadN X0.here hx rfl (hb hby at_13) rfl ?_
      refine XS.iconst X0.here hx rfl (hb hby at_14) ?_
      refine XS.iand X0.here hx rfl (hb hby at_15) rfl ?_
      exact kt
    by_cases c1 : (q2 &&& (2 : Int32)) = 0
    · -- (q2 &&& (2 : Int32)) = 0
      refine GoesW.go (U' := (s₁.setTop (mkF m 29 #[sI_ q0, sI_ q1, sI_ q2, sI_ q3, sI_ (1 : Int32), sI_ (0 : Int32), sU_, sU_, sU_, sU_, sU_, sU_, sU_, sU_, sU_, sU_, sU_, sU_, sU_, sU_] [(.int (q2 &&& (4 : Int32)))]))) (fun t kt => ?_) ?_
      · skip
        refine XS.ifYes X0.here hx rfl (pc0 := 16) (pc' := 23) rfl (hb hby at_16) rfl (XT.i0_eq_t c1) (by decide) (by decide) ?_
        refine XS.iconst X0.here hx rfl (hb hby at_23) ?_
        refine XS.istore X0.here hx rfl (hb hby at_24) rfl (l' := #[sI_ q0, sI_ q1, sI_ q2, sI_ q3, sI_ (1 : Int32), sI_ (0 : Int32), sU_, sU_, sU_, sU_, sU_, sU_, sU_, sU_, sU_, sU_, sU_, sU_, sU_, sU_]) rfl ?_
        refine XS.iloadN X0.here hx rfl (hb hby at_26) rfl ?_
        refine XS.iconst X0.here hx rfl (hb hby at_27) ?_
        refine XS.iand X0.here hx rfl (hb hby at_28) rfl ?_
        exact kt
      by_cases c2 : (q2 &&& (4 : Int32)) = 0
      · -- (q2 &&& (4 : Int32)) = 0
        refine GoesW.go (U' := (s₁.setTop (mkF m 127 #[sI_ q0, sI_ q1, sI_ q2, sI_ q3, sI_ (1 : Int32), sI_ (0 : Int32), sI_ (0 : Int32), sI_ (((q2.toUInt32 >>> ((3 : Int32) &&& 31).toUInt32).toInt32) &&& (3 : Int32)), sI_ q1, sJ_ (-(q0.toInt64)), sS_, sJ_ (q1.toInt64), sS_, .val (.double (FP.dneg (FP.ddiv (FP.i2d q0) (4616189618054758400 : UInt64)))), sS_, .val (.double (FP.ddiv (FP.i2d q1) (4616189618054758400 : UInt64))), sS_, sU_, sU_, sU_] []))) (fun t kt => ?_) ?_
        · skip
          refine XS.ifYes X0.here hx rfl (pc0 := 29) (pc' := 36) rfl (hb hby at_29) rfl (XT.i0_eq_t c2) (by decide) (by decide) ?_
          refine XS.iconst X0.here hx rfl (hb hby at_36) ?_
          refine XS.istore X0.here hx rfl (hb hby at_37) rfl (l' := #[sI_ q0, sI_ q1, sI_ q2, sI_ q3, sI_ (1 : Int32), sI_ (0 : Int32), sI_ (0 : Int32), sU_, sU_, sU_, sU_, sU_, sU_, sU_, sU_, sU_, sU_, sU_, sU_, sU_]) rfl ?_
          refine XS.iloadN X0.here hx rfl (hb hby at_39) rfl ?_
          refine XS.iconst X0.here hx rfl (hb hby at_40) ?_
          refine XS.iushr X0.here hx rfl (hb hby at_41) rfl ?_
          refine XS.iconst X0.here hx rfl (hb hby at_42) ?_
          refine XS.iand X0.here hx rfl (hb hby at_43) rfl ?_
          show Steps p.tables e below (s₁.setTop (mkF m 44 #[sI_ q0, sI_ q1, sI_ q2, sI_ q3, sI_ (1 : Int32), sI_ (0 : Int32), sI_ (0 : Int32), sU_, sU_, sU_, sU_, sU_, sU_, sU_, sU_, sU_, sU_, sU_, sU_, sU_] [(.int (((q2.toUInt32 >>> ((3 : Int32) &&& 31).toUInt32).toInt32) &&& (3 : Int32)))])) t
          refine XS.istore X0.here hx rfl (hb hby at_44) rfl (l' := #[sI_ q0, sI_ q1, sI_ q2, sI_ q3, sI_ (1 : Int32), sI_ (0 : Int32), sI_ (0 : Int32), sI_ (((q2.toUInt32 >>> ((3 : Int32) &&& 31).toUInt32).toInt32) &&& (3 : Int32)), sU_, sU_, sU_, sU_, sU_, sU_, sU_, sU_, sU_, sU_, sU_, sU_]) rfl ?_
          refine XS.iload X0.here hx rfl (hb hby at_46) rfl ?_
          refine XS.ifYes X0.here hx rfl (pc0 := 48) (pc' := 55) rfl (hb hby at_48) rfl (XT.i0_eq_t (by decide)) (by decide) (by decide) ?_
          refine XS.iloadN X0.here hx rfl (hb hby at_55) rfl ?_
          refine XS.istore X0.here hx rfl (hb hby at_56) rfl (l' := #[sI_ q0, sI_ q1, sI_ q2, sI_ q3, sI_ (1 : Int32), sI_ (0 : Int32), sI_ (0 : Int32), sI_ (((q2.toUInt32 >>> ((3 : Int32) &&& 31).toUInt32).toInt32) &&& (3 : Int32)), sI_ q1, sU_, sU_, sU_, sU_, sU_, sU_, sU_, sU_, sU_, sU_, sU_]) rfl ?_
          refine XS.iload X0.here hx rfl (hb hby at_58) rfl ?_
          refine XS.ifNo X0.here hx rfl (hb hby at_60) rfl (XT.i0_eq_f (by decide)) ?_
          refine XS.iloadN X0.here hx rfl (hb hby at_63) rfl ?_
          show Steps p.tables e below (s₁.setTop (mkF m 64 #[sI_ q0, sI_ q1, sI_ q2, sI_ q3, sI_ (1 : Int32), sI_ (0 : Int32), sI_ (0 : Int32), sI_ (((q2.toUInt32 >>> ((3 : Int32) &&& 31).toUInt32).toInt32) &&& (3 : Int32)), sI_ q1, sU_, sU_, sU_, sU_, sU_, sU_, sU_, sU_, sU_, sU_, sU_] [(.int q0)])) t
          refine XS.i2l X0.here hx rfl (hb hby at_64) rfl ?_
          refine XS.lneg X0.here hx rfl (hb hby at_65) rfl ?_
          refine XS.goto X0.here hx rfl (pc0 := 66) (pc' := 71) rfl (hb hby at_66) (by decide) (by decide) ?_
          refine XS.lstore X0.here hx rfl (hb hby at_71) rfl (l' := #[sI_ q0, sI_ q1, sI_ q2, sI_ q3, sI_ (1 : Int32), sI_ (0 : Int32), sI_ (0 : Int32), sI_ (((q2.toUInt32 >>> ((3 : Int32) &&& 31).toUInt32).toInt32) &&& (3 : Int32)), sI_ q1, sJ_ (-(q0.toInt64)), sS_, sU_, sU_, sU_, sU_, sU_, sU_, sU_, sU_, sU_]) rfl ?_
          refine XS.iload X0.here hx rfl (hb hby at_73) rfl ?_
          refine XS.ifYes X0.here hx rfl (pc0 := 75) (pc' := 85) rfl (hb hby at_75) rfl (XT.i0_eq_t (by decide)) (by decide) (by decide) ?_
          refine XS.iload X0.here hx rfl (hb hby at_85) rfl ?_
          refine XS.i2l X0.here hx rfl (hb hby at_87) rfl ?_
          show Steps p.tables e below (s₁.setTop (mkF m 88 #[sI_ q0, sI_ q1, sI_ q2, sI_ q3, sI_ (1 : Int32), sI_ (0 : Int32), sI_ (0 : Int32), sI_ (((q2.toUInt32 >>> ((3 : Int32) &&& 31).toUInt32).toInt32) &&& (3 : Int32)), sI_ q1, sJ_ (-(q0.toInt64)), sS_, sU_, sU_, sU_, sU_, sU_, sU_, sU_, sU_, sU_] [(.long (q1.toInt64))])) t
          refine XS.lstore X0.here hx rfl (hb hby at_88) rfl (l' := #[sI_ q0, sI_ q1, sI_ q2, sI_ q3, sI_ (1 : Int32), sI_ (0 : Int32), sI_ (0 : Int32), sI_ (((q2.toUInt32 >>> ((3 : Int32) &&& 31).toUInt32).toInt32) &&& (3 : Int32)), sI_ q1, sJ_ (-(q0.toInt64)), sS_, sJ_ (q1.toInt64), sS_, sU_, sU_, sU_, sU_, sU_, sU_, sU_]) rfl ?_
          refine XS.iloadN X0.here hx rfl (hb hby at_90) rfl ?_
          refine XS.i2dS X0.here hx rfl (hb hby at_91) rfl rfl ?_
          refine X0.ldc2DoubleC hx hown (mvT hZ (wdOf hw 0 rfl)) (g := (mkF m 92 #[sI_ q0, sI_ q1, sI_ q2, sI_ q3, sI_ (1 : Int32), sI_ (0 : Int32), sI_ (0 : Int32), sI_ (((q2.toUInt32 >>> ((3 : Int32) &&& 31).toUInt32).toInt32) &&& (3 : Int32)), sI_ q1, sJ_ (-(q0.toInt64)), sS_, sJ_ (q1.toInt64), sS_, sU_, sU_, sU_, sU_, sU_, sU_, sU_] [(.double (FP.i2d q0))])) rfl (hb hby at_92) _ ?_
          refine XS.ddivS X0.here hx rfl (hb hby at_95) rfl (Qrt.noNaN _) rfl ?_
          refine XS.dstore X0.here hx rfl (hb hby at_96) rfl (l' := #[sI_ q0, sI_ q1, sI_ q2, sI_ q3, sI_ (1 : Int32), sI_ (0 : Int32), sI_ (0 : Int32), sI_ (((q2.toUInt32 >>> ((3 : Int32) &&& 31).toUInt32).toInt32) &&& (3 : Int32)), sI_ q1, sJ_ (-(q0.toInt64)), sS_, sJ_ (q1.toInt64), sS_, .val (.double (FP.ddiv (FP.i2d q0) (4616189618054758400 : UInt64))), sS_, sU_, sU_, sU_, sU_, sU_]) rfl ?_
          refine XS.iload X0.here hx rfl (hb hby at_98) rfl ?_
          refine XS.ifNo X0.here hx rfl (hb hby at_100) rfl (XT.i0_eq_f (by decide)) ?_
          show Steps p.tables e below (s₁.setTop (mkF m 103 #[sI_ q0, sI_ q1, sI_ q2, sI_ q3, sI_ (1 : Int32), sI_ (0 : Int32), sI_ (0 : Int32), sI_ (((q2.toUInt32 >>> ((3 : Int32) &&& 31).toUInt32).toInt32) &&& (3 : Int32)), sI_ q1, sJ_ (-(q0.toInt64)), sS_, sJ_ (q1.toInt64), sS_, .val (.double (FP.ddiv (FP.i2d q0) (4616189618054758400 : UInt64))), sS_, sU_, sU_, sU_, sU_, sU_] [])) t
          refine XS.dload X0.here hx rfl (hb hby at_103) rfl ?_
          refine XS.dnegS X0.here hx rfl (hb hby at_105) rfl rfl ?_
          refine XS.dstore X0.here hx rfl (hb hby at_106) rfl (l' := #[sI_ q0, sI_ q1, sI_ q2, sI_ q3, sI_ (1 : Int32), sI_ (0 : Int32), sI_ (0 : Int32), sI_ (((q2.toUInt32 >>> ((3 : Int32) &&& 31).toUInt32).toInt32) &&& (3 : Int32)), sI_ q1, sJ_ (-(q0.toInt64)), sS_, sJ_ (q1.toInt64), sS_, .val (.double (FP.dneg (FP.ddiv (FP.i2d q0) (4616189618054758400 : UInt64)))), sS_, sU_, sU_, sU_, sU_, sU_]) rfl ?_
          refine XS.iload X0.here hx rfl (hb hby at_108) rfl ?_
          refine XS.i2dS X0.here hx rfl (hb hby at_110) rfl rfl ?_
          refine X0.ldc2DoubleC hx hown (mvT hZ (wdOf hw 0 rfl)) (g := (mkF m 111 #[sI_ q0, sI_ q1, sI_ q2, sI_ q3, sI_ (1 : Int32), sI_ (0 : Int32), sI_ (0 : Int32), sI_ (((q2.toUInt32 >>> ((3 : Int32) &&& 31).toUInt32).toInt32) &&& (3 : Int32)), sI_ q1, sJ_ (-(q0.toInt64)), sS_, sJ_ (q1.toInt64), sS_, .val (.double (FP.dneg (FP.ddiv (FP.i2d q0) (4616189618054758400 : UInt64)))), sS_, sU_, sU_, sU_, sU_, sU_] [(.double (FP.i2d q1))])) rfl (hb hby at_111) _ ?_
          refine XS.ddivS X0.here hx rfl (hb hby at_114) rfl (Qrt.noNaN _) rfl ?_
          refine XS.dstore X0.here hx rfl (hb hby at_115) rfl (l' := #[sI_ q0, sI_ q1, sI_ q2, sI_ q3, sI_ (1 : Int32), sI_ (0 : Int32), sI_ (0 : Int32), sI_ (((q2.toUInt32 >>> ((3 : Int32) &&& 31).toUInt32).toInt32) &&& (3 : Int32)), sI_ q1, sJ_ (-(q0.toInt64)), sS_, sJ_ (q1.toInt64), sS_, .val (.double (FP.dneg (FP.ddiv (FP.i2d q0) (4616189618054758400 : UInt64)))), sS_, .val (.double (FP.ddiv (FP.i2d q1) (4616189618054758400 : UInt64))), sS_, sU_, sU_, sU_]) rfl ?_
          show Steps p.tables e below (s₁.setTop (mkF m 117 #[sI_ q0, sI_ q1, sI_ q2, sI_ q3, sI_ (1 : Int32), sI_ (0 : Int32), sI_ (0 : Int32), sI_ (((q2.toUInt32 >>> ((3 : Int32) &&& 31).toUInt32).toInt32) &&& (3 : Int32)), sI_ q1, sJ_ (-(q0.toInt64)), sS_, sJ_ (q1.toInt64), sS_, .val (.double (FP.dneg (FP.ddiv (FP.i2d q0) (4616189618054758400 : UInt64)))), sS_, .val (.double (FP.ddiv (FP.i2d q1) (4616189618054758400 : UInt64))), sS_, sU_, sU_, sU_] [])) t
          refine XS.iload X0.here hx rfl (hb hby at_117) rfl ?_
          refine XS.ifYes X0.here hx rfl (pc0 := 119) (pc' := 127) rfl (hb hby at_119) rfl (XT.i0_eq_t (by decide)) (by decide) (by decide) ?_
          exact kt
        exact law_127 l Z a0 hw q0 q1 q2 q3 cs rt rf (1 : Int32) (0 : Int32) (0 : Int32) (((q2.toUInt32 >>> ((3 : Int32) &&& 31).toUInt32).toInt32) &&& (3 : Int32)) q1 (-(q0.toInt64)) (q1.toInt64) (FP.dneg (FP.ddiv (FP.i2d q0) (4616189618054758400 : UInt64))) (FP.ddiv (FP.i2d q1) (4616189618054758400 : UInt64)) h0 n0 Z0 p e s m below meth c _ _ hx hby hml hown hnm hret hlk hZ _ _ _ X0 e0 N0 K0 O SC hcs S1 E1 S0 E0 (Qrt.neg64 q0) (Qrt.pos64 q1) hS hk0 LIv.tt
      · -- not (q2 &&& (4 : Int32)) = 0
        refine GoesW.go (U' := (s₁.setTop (mkF m 127 #[sI_ q0, sI_ q1, sI_ q2, sI_ q3, sI_ (1 : Int32), sI_ (0 : Int32), sI_ (1 : Int32), sI_ (((q2.toUInt32 >>> ((3 : Int32) &&& 31).toUInt32).toInt32) &&& (3 : Int32)), sI_ q0, sJ_ (-(q0.toInt64)), sS_, sJ_ (q0.toInt64), sS_, .val (.double (FP.dneg (FP.ddiv (FP.i2d q0) (4616189618054758400 : UInt64)))), sS_, .val (.double (FP.ddiv (FP.i2d q0) (4616189618054758400 : UInt64))), sS_, sU_, sU_, sU_] []))) (fun t kt => ?_) ?_
        · skip
          refine XS.ifNo X0.here hx rfl (hb hby at_29) rfl (XT.i0_eq_f c2) ?_
          refine XS.iconst X0.here hx rfl (hb hby at_32) ?_
          refine XS.goto X0.here hx rfl (pc0 := 33) (pc' := 37) rfl (hb hby at_33) (by decide) (by decide) ?_
          refine XS.istore X0.here hx rfl (hb hby at_37) rfl (l' := #[sI_ q0, sI_ q1, sI_ q2, sI_ q3, sI_ (1 : Int32), sI_ (0 : Int32), sI_ (1 : Int32), sU_, sU_, sU_, sU_, sU_, sU_, sU_, sU_, sU_, sU_, sU_, sU_, sU_]) rfl ?_
          refine XS.iloadN X0.here hx rfl (hb hby at_39) rfl ?_
          refine XS.iconst X0.here hx rfl (hb hby at_40) ?_
          refine XS.iushr X0.here hx rfl (hb hby at_41) rfl ?_
          refine XS.iconst X0.here hx rfl (hb hby at_42) ?_
          show Steps p.tables e below (s₁.setTop (mkF m 43 #[sI_ q0, sI_ q1, sI_ q2, sI_ q3, sI_ (1 : Int32), sI_ (0 : Int32), sI_ (1 : Int32), sU_, sU_, sU_, sU_, sU_, sU_, sU_, sU_, sU_, sU_, sU_, sU_, sU_] [(.int (3 : Int32)), (.int ((q2.toUInt32 >>> ((3 : Int32) &&& 31).toUInt32).toInt32))])) t
          refine XS.iand X0.here hx rfl (hb hby at_43) rfl ?_
          refine XS.istore X0.here hx rfl (hb hby at_44) rfl (l' := #[sI_ q0, sI_ q1, sI_ q2, sI_ q3, sI_ (1 : Int32), sI_ (0 : Int32), sI_ (1 : Int32), sI_ (((q2.toUInt32 >>> ((3 : Int32) &&& 31).toUInt32).toInt32) &&& (3 : Int32)), sU_, sU_, sU_, sU_, sU_, sU_, sU_, sU_, sU_, sU_, sU_, sU_]) rfl ?_
          refine XS.iload X0.here hx rfl (hb hby at_46) rfl ?_
          refine XS.ifNo X0.here hx rfl (hb hby at_48) rfl (XT.i0_eq_f (by decide)) ?_
          refine XS.iloadN X0.here hx rfl (hb hby at_51) rfl ?_
          refine XS.goto X0.here hx rfl (pc0 := 52) (pc' := 56) rfl (hb hby at_52) (by decide) (by decide) ?_
          refine XS.istore X0.here hx rfl (hb hby at_56) rfl (l' := #[sI_ q0, sI_ q1, sI_ q2, sI_ q3, sI_ (1 : Int32), sI_ (0 : Int32), sI_ (1 : Int32), sI_ (((q2.toUInt32 >>> ((3 : Int32) &&& 31).toUInt32).toInt32) &&& (3 : Int32)), sI_ q0, sU_, sU_, sU_, sU_, sU_, sU_, sU_, sU_, sU_, sU_, sU_]) rfl ?_
          refine XS.iload X0.here hx rfl (hb hby at_58) rfl ?_
          show Steps p.tables e below (s₁.setTop (mkF m 60 #[sI_ q0, sI_ q1, sI_ q2, sI_ q3, sI_ (1 : Int32), sI_ (0 : Int32), sI_ (1 : Int32), sI_ (((q2.toUInt32 >>> ((3 : Int32) &&& 31).toUInt32).toInt32) &&& (3 : Int32)), sI_ q0, sU_, sU_, sU_, sU_, sU_, sU_, sU_, sU_, sU_, sU_, sU_] [(.int (1 : Int32))])) t
          refine XS.ifNo X0.here hx rfl (hb hby at_60) rfl (XT.i0_eq_f (by decide)) ?_
          refine XS.iloadN X0.here hx rfl (hb hby at_63) rfl ?_
          refine XS.i2l X0.here hx rfl (hb hby at_64) rfl ?_
          refine XS.lneg X0.here hx rfl (hb hby at_65) rfl ?_
          refine XS.goto X0.here hx rfl (pc0 := 66) (pc' := 71) rfl (hb hby at_66) (by decide) (by decide) ?_
          refine XS.lstore X0.here hx rfl (hb hby at_71) rfl (l' := #[sI_ q0, sI_ q1, sI_ q2, sI_ q3, sI_ (1 : Int32), sI_ (0 : Int32), sI_ (1 : Int32), sI_ (((q2.toUInt32 >>> ((3 : Int32) &&& 31).toUInt32).toInt32) &&& (3 : Int32)), sI_ q0, sJ_ (-(q0.toInt64)), sS_, sU_, sU_, sU_, sU_, sU_, sU_, sU_, sU_, sU_]) rfl ?_
          refine XS.iload X0.here hx rfl (hb hby at_73) rfl ?_
          refine XS.ifYes X0.here hx rfl (pc0 := 75) (pc' := 85) rfl (hb hby at_75) rfl (XT.i0_eq_t (by decide)) (by decide) (by decide) ?_
          show Steps p.tables e below (s₁.setTop (mkF m 85 #[sI_ q0, sI_ q1, sI_ q2, sI_ q3, sI_ (1 : Int32), sI_ (0 : Int32), sI_ (1 : Int32), sI_ (((q2.toUInt32 >>> ((3 : Int32) &&& 31).toUInt32).toInt32) &&& (3 : Int32)), sI_ q0, sJ_ (-(q0.toInt64)), sS_, sU_, sU_, sU_, sU_, sU_, sU_, sU_, sU_, sU_] [])) t
          refine XS.iload X0.here hx rfl (hb hby at_85) rfl ?_
          refine XS.i2l X0.here hx rfl (hb hby at_87) rfl ?_
          refine XS.lstore X0.here hx rfl (hb hby at_88) rfl (l' := #[sI_ q0, sI_ q1, sI_ q2, sI_ q3, sI_ (1 : Int32), sI_ (0 : Int32), sI_ (1 : Int32), sI_ (((q2.toUInt32 >>> ((3 : Int32) &&& 31).toUInt32).toInt32) &&& (3 : Int32)), sI_ q0, sJ_ (-(q0.toInt64)), sS_, sJ_ (q0.toInt64), sS_, sU_, sU_, sU_, sU_, sU_, sU_, sU_]) rfl ?_
          refine XS.iloadN X0.here hx rfl (hb hby at_90) rfl ?_
          refine XS.i2dS X0.here hx rfl (hb hby at_91) rfl rfl ?_
          refine X0.ldc2DoubleC hx hown (mvT hZ (wdOf hw 0 rfl)) (g := (mkF m 92 #[sI_ q0, sI_ q1, sI_ q2, sI_ q3, sI_ (1 : Int32), sI_ (0 : Int32), sI_ (1 : Int32), sI_ (((q2.toUInt32 >>> ((3 : Int32) &&& 31).toUInt32).toInt32) &&& (3 : Int32)), sI_ q0, sJ_ (-(q0.toInt64)), sS_, sJ_ (q0.toInt64), sS_, sU_, sU_, sU_, sU_, sU_, sU_, sU_] [(.double (FP.i2d q0))])) rfl (hb hby at_92) _ ?_
          refine XS.ddivS X0.here hx rfl (hb hby at_95) rfl (Qrt.noNaN _) rfl ?_
          refine XS.dstore X0.here hx rfl (hb hby at_96) rfl (l' := #[sI_ q0, sI_ q1, sI_ q2, sI_ q3, sI_ (1 : Int32), sI_ (0 : Int32), sI_ (1 : Int32), sI_ (((q2.toUInt32 >>> ((3 : Int32) &&& 31).toUInt32).toInt32) &&& (3 : Int32)), sI_ q0, sJ_ (-(q0.toInt64)), sS_, sJ_ (q0.toInt64), sS_, .val (.double (FP.ddiv (FP.i2d q0) (4616189618054758400 : UInt64))), sS_, sU_, sU_, sU_, sU_, sU_]) rfl ?_
          show Steps p.tables e below (s₁.setTop (mkF m 98 #[sI_ q0, sI_ q1, sI_ q2, sI_ q3, sI_ (1 : Int32), sI_ (0 : Int32), sI_ (1 : Int32), sI_ (((q2.toUInt32 >>> ((3 : Int32) &&& 31).toUInt32).toInt32) &&& (3 : Int32)), sI_ q0, sJ_ (-(q0.toInt64)), sS_, sJ_ (q0.toInt64), sS_, .val (.double (FP.ddiv (FP.i2d q0) (4616189618054758400 : UInt64))), sS_, sU_, sU_, sU_, sU_, sU_] [])) t
          refine XS.iload X0.here hx rfl (hb hby at_98) rfl ?_
          refine XS.ifNo X0.here hx rfl (hb hby at_100) rfl (XT.i0_eq_f (by decide)) ?_
          refine XS.dload X0.here hx rfl (hb hby at_103) rfl ?_
          refine XS.dnegS X0.here hx rfl (hb hby at_105) rfl rfl ?_
          refine XS.dstore X0.here hx rfl (hb hby at_106) rfl (l' := #[sI_ q0, sI_ q1, sI_ q2, sI_ q3, sI_ (1 : Int32), sI_ (0 : Int32), sI_ (1 : Int32), sI_ (((q2.toUInt32 >>> ((3 : Int32) &&& 31).toUInt32).toInt32) &&& (3 : Int32)), sI_ q0, sJ_ (-(q0.toInt64)), sS_, sJ_ (q0.toInt64), sS_, .val (.double (FP.dneg (FP.ddiv (FP.i2d q0) (4616189618054758400 : UInt64)))), sS_, sU_, sU_, sU_, sU_, sU_]) rfl ?_
          refine XS.iload X0.here hx rfl (hb hby at_108) rfl ?_
          refine XS.i2dS X0.here hx rfl (hb hby at_110) rfl rfl ?_
          refine X0.ldc2DoubleC hx hown (mvT hZ (wdOf hw 0 rfl)) (g := (mkF m 111 #[sI_ q0, sI_ q1, sI_ q2, sI_ q3, sI_ (1 : Int32), sI_ (0 : Int32), sI_ (1 : Int32), sI_ (((q2.toUInt32 >>> ((3 : Int32) &&& 31).toUInt32).toInt32) &&& (3 : Int32)), sI_ q0, sJ_ (-(q0.toInt64)), sS_, sJ_ (q0.toInt64), sS_, .val (.double (FP.dneg (FP.ddiv (FP.i2d q0) (4616189618054758400 : UInt64)))), sS_, sU_, sU_, sU_, sU_, sU_] [(.double (FP.i2d q0))])) rfl (hb hby at_111) _ ?_
          show Steps p.tables e below (s₁.setTop (mkF m 114 #[sI_ q0, sI_ q1, sI_ q2, sI_ q3, sI_ (1 : Int32), sI_ (0 : Int32), sI_ (1 : Int32), sI_ (((q2.toUInt32 >>> ((3 : Int32) &&& 31).toUInt32).toInt32) &&& (3 : Int32)), sI_ q0, sJ_ (-(q0.toInt64)), sS_, sJ_ (q0.toInt64), sS_, .val (.double (FP.dneg (FP.ddiv (FP.i2d q0) (4616189618054758400 : UInt64)))), sS_, sU_, sU_, sU_, sU_, sU_] [(.double (4616189618054758400 : UInt64)), (.double (FP.i2d q0))])) t
          refine XS.ddivS X0.here hx rfl (hb hby at_114) rfl (Qrt.noNaN _) rfl ?_
          refine XS.dstore X0.here hx rfl (hb hby at_115) rfl (l' := #[sI_ q0, sI_ q1, sI_ q2, sI_ q3, sI_ (1 : Int32), sI_ (0 : Int32), sI_ (1 : Int32), sI_ (((q2.toUInt32 >>> ((3 : Int32) &&& 31).toUInt32).toInt32) &&& (3 : Int32)), sI_ q0, sJ_ (-(q0.toInt64)), sS_, sJ_ (q0.toInt64), sS_, .val (.double (FP.dneg (FP.ddiv (FP.i2d q0) (4616189618054758400 : UInt64)))), sS_, .val (.double (FP.ddiv (FP.i2d q0) (4616189618054758400 : UInt64))), sS_, sU_, sU_, sU_]) rfl ?_
          refine XS.iload X0.here hx rfl (hb hby at_117) rfl ?_
          refine XS.ifYes X0.here hx rfl (pc0 := 119) (pc' := 127) rfl (hb hby at_119) rfl (XT.i0_eq_t (by decide)) (by decide) (by decide) ?_
          exact kt
        exact law_127 l Z a0 hw q0 q1 q2 q3 cs rt rf (1 : Int32) (0 : Int32) (1 : Int32) (((q2.toUInt32 >>> ((3 : Int32) &&& 31).toUInt32).toInt32) &&& (3 : Int32)) q0 (-(q0.toInt64)) (q0.toInt64) (FP.dneg (FP.ddiv (FP.i2d q0) (4616189618054758400 : UInt64))) (FP.ddiv (FP.i2d q0) (4616189618054758400 : UInt64)) h0 n0 Z0 p e s m below meth c _ _ hx hby hml hown hnm hret hlk hZ _ _ _ X0 e0 N0 K0 O SC hcs S1 E1 S0 E0 (Qrt.neg64 q0) (Qrt.pos64 q0) hS hk0 LIv.tt
    · -- not (q2 &&& (2 : Int32)) = 0
      refine GoesW.go (U' := (s₁.setTop (mkF m 29 #[sI_ q0, sI_ q1, sI_ q2, sI_ q3, sI_ (1 : Int32), sI_ (1 : Int32), sU_, sU_, sU_, sU_, sU_, sU_, sU_, sU_, sU_, sU_, sU_, sU_, sU_, sU_] [(.int (q2 &&& (4 : Int32)))]))) (fun t kt => ?_) ?_
      · skip
        refine XS.ifNo X0.here hx rfl (hb hby at_16) rfl (XT.i0_eq_f c1) ?_
        refine XS.iconst X0.here hx rfl (hb hby at_19) ?_
        refine XS.goto X0.here hx rfl (pc0 := 20) (pc' := 24) rfl (hb hby at_20) (by decide) (by decide) ?_
        refine XS.istore X0.here hx rfl (hb hby at_24) rfl (l' := #[sI_ q0, sI_ q1, sI_ q2, sI_ q3, sI_ (1 : Int32), sI_ (1 : Int32), sU_, sU_, sU_, sU_, sU_, sU_, sU_, sU_, sU_, sU_, sU_, sU_, sU_, sU_]) rfl ?_
        refine XS.iloadN X0.here hx rfl (hb hby at_26) rfl ?_
        refine XS.iconst X0.here hx rfl (hb hby at_27) ?_
        refine XS.iand X0.here hx rfl (hb hby at_28) rfl ?_
        exact kt
      by_cases c2 : (q2 &&& (4 : Int32)) = 0
      · -- (q2 &&& (4 : Int32)) = 0
        refine GoesW.go (U' := (s₁.setTop (mkF m 127 #[sI_ q0, sI_ q1, sI_ q2, sI_ q3, sI_ (1 : Int32), sI_ (1 : Int32), sI_ (0 : Int32), sI_ (((q2.toUInt32 >>> ((3 : Int32) &&& 31).toUInt32).toInt32) &&& (3 : Int32)), sI_ q1, sJ_ (-(q0.toInt64)), sS_, sJ_ (-(q1.toInt64)), sS_, .val (.double (FP.dneg (FP.ddiv (FP.i2d q0) (4616189618054758400 : UInt64)))), sS_, .val (.double (FP.dneg (FP.ddiv (FP.i2d q1) (4616189618054758400 : UInt64)))), sS_, sU_, sU_, sU_] []))) (fun t kt => ?_) ?_
        · skip
          refine XS.ifYes X0.here hx rfl (pc0 := 29) (pc' := 36) rfl (hb hby at_29) rfl (XT.i0_eq_t c2) (by decide) (by decide) ?_
          refine XS.iconst X0.here hx rfl (hb hby at_36) ?_
          refine XS.istore X0.here hx rfl (hb hby at_37) rfl (l' := #[sI_ q0, sI_ q1, sI_ q2, sI_ q3, sI_ (1 : Int32), sI_ (1 : Int32), sI_ (0 : Int32), sU_, sU_, sU_, sU_, sU_, sU_, sU_, sU_, sU_, sU_, sU_, sU_, sU_]) rfl ?_
          refine XS.iloadN X0.here hx rfl (hb hby at_39) rfl ?_
          refine XS.iconst X0.here hx rfl (hb hby at_40) ?_
          refine XS.iushr X0.here hx rfl (hb hby at_41) rfl ?_
          refine XS.iconst X0.here hx rfl (hb hby at_42) ?_
          refine XS.iand X0.here hx rfl (hb hby at_43) rfl ?_
          show Steps p.tables e below (s₁.setTop (mkF m 44 #[sI_ q0, sI_ q1, sI_ q2, sI_ q3, sI_ (1 : Int32), sI_ (1 : Int32), sI_ (0 : Int32), sU_, sU_, sU_, sU_, sU_, sU_, sU_, sU_, sU_, sU_, sU_, sU_, sU_] [(.int (((q2.toUInt32 >>> ((3 : Int32) &&& 31).toUInt32).toInt32) &&& (3 : Int32)))])) t
          refine XS.istore X0.here hx rfl (hb hby at_44) rfl (l' := #[sI_ q0, sI_ q1, sI_ q2, sI_ q3, sI_ (1 : Int32), sI_ (1 : Int32), sI_ (0 : Int32), sI_ (((q2.toUInt32 >>> ((3 : Int32) &&& 31).toUInt32).toInt32) &&& (3 : Int32)), sU_, sU_, sU_, sU_, sU_, sU_, sU_, sU_, sU_, sU_, sU_, sU_]) rfl ?_
          refine XS.iload X0.here hx rfl (hb hby at_46) rfl ?_
          refine XS.ifYes X0.here hx rfl (pc0 := 48) (pc' := 55) rfl (hb hby at_48) rfl (XT.i0_eq_t (by decide)) (by decide) (by decide) ?_
          refine XS.iloadN X0.here hx rfl (hb hby at_55) rfl ?_
          refine XS.istore X0.here hx rfl (hb hby at_56) rfl (l' := #[sI_ q0, sI_ q1, sI_ q2, sI_ q3, sI_ (1 : Int32), sI_ (1 : Int32), sI_ (0 : Int32), sI_ (((q2.toUInt32 >>> ((3 : Int32) &&& 31).toUInt32).toInt32) &&& (3 : Int32)), sI_ q1, sU_, sU_, sU_, sU_, sU_, sU_, sU_, sU_, sU_, sU_, sU_]) rfl ?_
          refine XS.iload X0.here hx rfl (hb hby at_58) rfl ?_
          refine XS.ifNo X0.here hx rfl (hb hby at_60) rfl (XT.i0_eq_f (by decide)) ?_
          refine XS.iloadN X0.here hx rfl (hb hby at_63) rfl ?_
          show Steps p.tables e below (s₁.setTop (mkF m 64 #[sI_ q0, sI_ q1, sI_ q2, sI_ q3, sI_ (1 : Int32), sI_ (1 : Int32), sI_ (0 : Int32), sI_ (((q2.toUInt32 >>> ((3 : Int32) &&& 31).toUInt32).toInt32) &&& (3 : Int32)), sI_ q1, sU_, sU_, sU_, sU_, sU_, sU_, sU_, sU_, sU_, sU_, sU_] [(.int q0)])) t
          refine XS.i2l X0.here hx rfl (hb hby at_64) rfl ?_
          refine XS.lneg X0.here hx rfl (hb hby at_65) rfl ?_
          refine XS.goto X0.here hx rfl (pc0 := 66) (pc' := 71) rfl (hb hby at_66) (by decide) (by decide) ?_
          refine XS.lstore X0.here hx rfl (hb hby at_71) rfl (l' := #[sI_ q0, sI_ q1, sI_ q2, sI_ q3, sI_ (1 : Int32), sI_ (1 : Int32), sI_ (0 : Int32), sI_ (((q2.toUInt32 >>> ((3 : Int32) &&& 31).toUInt32).toInt32) &&& (3 : Int32)), sI_ q1, sJ_ (-(q0.toInt64)), sS_, sU_, sU_, sU_, sU_, sU_, sU_, sU_, sU_, sU_]) rfl ?_
          refine XS.iload X0.here hx rfl (hb hby at_73) rfl ?_
          refine XS.ifNo X0.here hx rfl (hb hby at_75) rfl (XT.i0_eq_f (by decide)) ?_
          refine XS.iload X0.here hx rfl (hb hby at_78) rfl ?_
          refine XS.i2l X0.here hx rfl (hb hby at_80) rfl ?_
          show Steps p.tables e below (s₁.setTop (mkF m 81 #[sI_ q0, sI_ q1, sI_ q2, sI_ q3, sI_ (1 : Int32), sI_ (1 : Int32), sI_ (0 : Int32), sI_ (((q2.toUInt32 >>> ((3 : Int32) &&& 31).toUInt32).toInt32) &&& (3 : Int32)), sI_ q1, sJ_ (-(q0.toInt64)), sS_, sU_, sU_, sU_, sU_, sU_, sU_, sU_, sU_, sU_] [(.long (q1.toInt64))])) t
          refine XS.lneg X0.here hx rfl (hb hby at_81) rfl ?_
          refine XS.goto X0.here hx rfl (pc0 := 82) (pc' := 88) rfl (hb hby at_82) (by decide) (by decide) ?_
          refine XS.lstore X0.here hx rfl (hb hby at_88) rfl (l' := #[sI_ q0, sI_ q1, sI_ q2, sI_ q3, sI_ (1 : Int32), sI_ (1 : Int32), sI_ (0 : Int32), sI_ (((q2.toUInt32 >>> ((3 : Int32) &&& 31).toUInt32).toInt32) &&& (3 : Int32)), sI_ q1, sJ_ (-(q0.toInt64)), sS_, sJ_ (-(q1.toInt64)), sS_, sU_, sU_, sU_, sU_, sU_, sU_, sU_]) rfl ?_
          refine XS.iloadN X0.here hx rfl (hb hby at_90) rfl ?_
          refine XS.i2dS X0.here hx rfl (hb hby at_91) rfl rfl ?_
          refine X0.ldc2DoubleC hx hown (mvT hZ (wdOf hw 0 rfl)) (g := (mkF m 92 #[sI_ q0, sI_ q1, sI_ q2, sI_ q3, sI_ (1 : Int32), sI_ (1 : Int32), sI_ (0 : Int32), sI_ (((q2.toUInt32 >>> ((3 : Int32) &&& 31).toUInt32).toInt32) &&& (3 : Int32)), sI_ q1, sJ_ (-(q0.toInt64)), sS_, sJ_ (-(q1.toInt64)), sS_, sU_, sU_, sU_, sU_, sU_, sU_, sU_] [(.double (FP.i2d q0))])) rfl (hb hby at_92) _ ?_
          refine XS.ddivS X0.here hx rfl (hb hby at_95) rfl (Qrt.noNaN _) rfl ?_
          refine XS.dstore X0.here hx rfl (hb hby at_96) rfl (l' := #[sI_ q0, sI_ q1, sI_ q2, sI_ q3, sI_ (1 : Int32), sI_ (1 : Int32), sI_ (0 : Int32), sI_ (((q2.toUInt32 >>> ((3 : Int32) &&& 31).toUInt32).toInt32) &&& (3 : Int32)), sI_ q1, sJ_ (-(q0.toInt64)), sS_, sJ_ (-(q1.toInt64)), sS_, .val (.double (FP.ddiv (FP.i2d q0) (4616189618054758400 : UInt64))), sS_, sU_, sU_, sU_, sU_, sU_]) rfl ?_
          show Steps p.tables e below (s₁.setTop (mkF m 98 #[sI_ q0, sI_ q1, sI_ q2, sI_ q3, sI_ (1 : Int32), sI_ (1 : Int32), sI_ (0 : Int32), sI_ (((q2.toUInt32 >>> ((3 : Int32) &&& 31).toUInt32).toInt32) &&& (3 : Int32)), sI_ q1, sJ_ (-(q0.toInt64)), sS_, sJ_ (-(q1.toInt64)), sS_, .val (.double (FP.ddiv (FP.i2d q0) (4616189618054758400 : UInt64))), sS_, sU_, sU_, sU_, sU_, sU_] [])) t
          refine XS.iload X0.here hx rfl (hb hby at_98) rfl ?_
          refine XS.ifNo X0.here hx rfl (hb hby at_100) rfl (XT.i0_eq_f (by decide)) ?_
          refine XS.dload X0.here hx rfl (hb hby at_103) rfl ?_
          refine XS.dnegS X0.here hx rfl (hb hby at_105) rfl rfl ?_
          refine XS.dstore X0.here hx rfl (hb hby at_106) rfl (l' := #[sI_ q0, sI_ q1, sI_ q2, sI_ q3, sI_ (1 : Int32), sI_ (1 : Int32), sI_ (0 : Int32), sI_ (((q2.toUInt32 >>> ((3 : Int32) &&& 31).toUInt32).toInt32) &&& (3 : Int32)), sI_ q1, sJ_ (-(q0.toInt64)), sS_, sJ_ (-(q1.toInt64)), sS_, .val (.double (FP.dneg (FP.ddiv (FP.i2d q0) (4616189618054758400 : UInt64)))), sS_, sU_, sU_, sU_, sU_, sU_]) rfl ?_
          refine XS.iload X0.here hx rfl (hb hby at_108) rfl ?_
          refine XS.i2dS X0.here hx rfl (hb hby at_110) rfl rfl ?_
          refine X0.ldc2DoubleC hx hown (mvT hZ (wdOf hw 0 rfl)) (g := (mkF m 111 #[sI_ q0, sI_ q1, sI_ q2, sI_ q3, sI_ (1 : Int32), sI_ (1 : Int32), sI_ (0 : Int32), sI_ (((q2.toUInt32 >>> ((3 : Int32) &&& 31).toUInt32).toInt32) &&& (3 : Int32)), sI_ q1, sJ_ (-(q0.toInt64)), sS_, sJ_ (-(q1.toInt64)), sS_, .val (.double (FP.dneg (FP.ddiv (FP.i2d q0) (4616189618054758400 : UInt64)))), sS_, sU_, sU_, sU_, sU_, sU_] [(.double (FP.i2d q1))])) rfl (hb hby at_111) _ ?_
          show Steps p.tables e below (s₁.setTop (mkF m 114 #[sI_ q0, sI_ q1, sI_ q2, sI_ q3, sI_ (1 : Int32), sI_ (1 : Int32), sI_ (0 : Int32), sI_ (((q2.toUInt32 >>> ((3 : Int32) &&& 31).toUInt32).toInt32) &&& (3 : Int32)), sI_ q1, sJ_ (-(q0.toInt64)), sS_, sJ_ (-(q1.toInt64)), sS_, .val (.double (FP.dneg (FP.ddiv (FP.i2d q0) (4616189618054758400 : UInt64)))), sS_, sU_, sU_, sU_, sU_, sU_] [(.double (4616189618054758400 : UInt64)), (.double (FP.i2d q1))])) t
          refine XS.ddivS X0.here hx rfl (hb hby at_114) rfl (Qrt.noNaN _) rfl ?_
          refine XS.dstore X0.here hx rfl (hb hby at_115) rfl (l' := #[sI_ q0, sI_ q1, sI_ q2, sI_ q3, sI_ (1 : Int32), sI_ (1 : Int32), sI_ (0 : Int32), sI_ (((q2.toUInt32 >>> ((3 : Int32) &&& 31).toUInt32).toInt32) &&& (3 : Int32)), sI_ q1, sJ_ (-(q0.toInt64)), sS_, sJ_ (-(q1.toInt64)), sS_, .val (.double (FP.dneg (FP.ddiv (FP.i2d q0) (4616189618054758400 : UInt64)))), sS_, .val (.double (FP.ddiv (FP.i2d q1) (4616189618054758400 : UInt64))), sS_, sU_, sU_, sU_]) rfl ?_
          refine XS.iload X0.here hx rfl (hb hby at_117) rfl ?_
          refine XS.ifNo X0.here hx rfl (hb hby at_119) rfl (XT.i0_eq_f (by decide)) ?_
          refine XS.dload X0.here hx rfl (hb hby at_122) rfl ?_
          refine XS.dnegS X0.here hx rfl (hb hby at_124) rfl rfl ?_
          refine XS.dstore X0.here hx rfl (hb hby at_125) rfl (l' := #[sI_ q0, sI_ q1, sI_ q2, sI_ q3, sI_ (1 : Int32), sI_ (1 : Int32), sI_ (0 : Int32), sI_ (((q2.toUInt32 >>> ((3 : Int32) &&& 31).toUInt32).toInt32) &&& (3 : Int32)), sI_ q1, sJ_ (-(q0.toInt64)), sS_, sJ_ (-(q1.toInt64)), sS_, .val (.double (FP.dneg (FP.ddiv (FP.i2d q0) (4616189618054758400 : UInt64)))), sS_, .val (.double (FP.dneg (FP.ddiv (FP.i2d q1) (4616189618054758400 : UInt64)))), sS_, sU_, sU_, sU_]) rfl ?_
          exact kt
        exact law_127 l Z a0 hw q0 q1 q2 q3 cs rt rf (1 : Int32) (1 : Int32) (0 : Int32) (((q2.toUInt32 >>> ((3 : Int32) &&& 31).toUInt32).toInt32) &&& (3 : Int32)) q1 (-(q0.toInt64)) (-(q1.toInt64)) (FP.dneg (FP.ddiv (FP.i2d q0) (4616189618054758400 : UInt64))) (FP.dneg (FP.ddiv (FP.i2d q1) (4616189618054758400 : UInt64))) h0 n0 Z0 p e s m below meth c _ _ hx hby hml hown hnm hret hlk hZ _ _ _ X0 e0 N0 K0 O SC hcs S1 E1 S0 E0 (Qrt.neg64 q0) (Qrt.neg64 q1) hS hk0 LIv.tt
      · -- not (q2 &&& (4 : Int32)) = 0
        refine GoesW.go (U' := (s₁.setTop (mkF m 127 #[sI_ q0, sI_ q1, sI_ q2, sI_ q3, sI_ (1 : Int32), sI_ (1 : Int32), sI_ (1 : Int32), sI_ (((q2.toUInt32 >>> ((3 : Int32) &&& 31).toUInt32).toInt32) &&& (3 : Int32)), sI_ q0, sJ_ (-(q0.toInt64)), sS_, sJ_ (-(q0.toInt64)), sS_, .val (.double (FP.dneg (FP.ddiv (FP.i2d q0) (4616189618054758400 : UInt64)))), sS_, .val (.double (FP.dneg (FP.ddiv (FP.i2d q0) (4616189618054758400 : UInt64)))), sS_, sU_, sU_, sU_] []))) (fun t kt => ?_) ?_
        · skip
          refine XS.ifNo X0.here hx rfl (hb hby at_29) rfl (XT.i0_eq_f c2) ?_
          refine XS.iconst X0.here hx rfl (hb hby at_32) ?_
          refine XS.goto X0.here hx rfl (pc0 := 33) (pc' := 37) rfl (hb hby at_33) (by decide) (by decide) ?_
          refine XS.istore X0.here hx rfl (hb hby at_37) rfl (l' := #[sI_ q0, sI_ q1, sI_ q2, sI_ q3, sI_ (1 : Int32), sI_ (1 : Int32), sI_ (1 : Int32), sU_, sU_, sU_, sU_, sU_, sU_, sU_, sU_, sU_, sU_, sU_, sU_, sU_]) rfl ?_
          refine XS.iloadN X0.here hx rfl (hb hby at_39) rfl ?_
          refine XS.iconst X0.here hx rfl (hb hby at_40) ?_
          refine XS.iushr X0.here hx rfl (hb hby at_41) rfl ?_
          refine XS.iconst X0.here hx rfl (hb hby at_42) ?_
          show Steps p.tables e below (s₁.setTop (mkF m 43 #[sI_ q0, sI_ q1, sI_ q2, sI_ q3, sI_ (1 : Int32), sI_ (1 : Int32), sI_ (1 : Int32), sU_, sU_, sU_, sU_, sU_, sU_, sU_, sU_, sU_, sU_, sU_, sU_, sU_] [(.int (3 : Int32)), (.int ((q2.toUInt32 >>> ((3 : Int32) &&& 31).toUInt32).toInt32))])) t
          refine XS.iand X0.here hx rfl (hb hby at_43) rfl ?_
          refine XS.istore X0.here hx rfl (hb hby at_44) rfl (l' := #[sI_ q0, sI_ q1, sI_ q2, sI_ q3, sI_ (1 : Int32), sI_ (1 : Int32), sI_ (1 : Int32), sI_ (((q2.toUInt32 >>> ((3 : Int32) &&& 31).toUInt32).toInt32) &&& (3 : Int32)), sU_, sU_, sU_, sU_, sU_, sU_, sU_, sU_, sU_, sU_, sU_, sU_]) rfl ?_
          refine XS.iload X0.here hx rfl (hb hby at_46) rfl ?_
          refine XS.ifNo X0.here hx rfl (hb hby at_48) rfl (XT.i0_eq_f (by decide)) ?_
          refine XS.iloadN X0.here hx rfl (hb hby at_51) rfl ?_
          refine XS.goto X0.here hx rfl (pc0 := 52) (pc' := 56) rfl (hb hby at_52) (by decide) (by decide) ?_
          refine XS.istore X0.here hx rfl (hb hby at_56) rfl (l' := #[sI_ q0, sI_ q1, sI_ q2, sI_ q3, sI_ (1 : Int32), sI_ (1 : Int32), sI_ (1 : Int32), sI_ (((q2.toUInt32 >>> ((3 : Int32) &&& 31).toUInt32).toInt32) &&& (3 : Int32)), sI_ q0, sU_, sU_, sU_, sU_, sU_, sU_, sU_, sU_, sU_, sU_, sU_]) rfl ?_
          refine XS.iload X0.here hx rfl (hb hby at_58) rfl ?_
          show Steps p.tables e below (s₁.setTop (mkF m 60 #[sI_ q0, sI_ q1, sI_ q2, sI_ q3, sI_ (1 : Int32), sI_ (1 : Int32), sI_ (1 : Int32), sI_ (((q2.toUInt32 >>> ((3 : Int32) &&& 31).toUInt32).toInt32) &&& (3 : Int32)), sI_ q0, sU_, sU_, sU_, sU_, sU_, sU_, sU_, sU_, sU_, sU_, sU_] [(.int (1 : Int32))])) t
          refine XS.ifNo X0.here hx rfl (hb hby at_60) rfl (XT.i0_eq_f (by decide)) ?_
          refine XS.iloadN X0.here hx rfl (hb hby at_63) rfl ?_
          refine XS.i2l X0.here hx rfl (hb hby at_64) rfl ?_
          refine XS.lneg X0.here hx rfl (hb hby at_65) rfl ?_
          refine XS.goto X0.here hx rfl (pc0 := 66) (pc' := 71) rfl (hb hby at_66) (by decide) (by decide) ?_
          refine XS.lstore X0.here hx rfl (hb hby at_71) rfl (l' := #[sI_ q0, sI_ q1, sI_ q2, sI_ q3, sI_ (1 : Int32), sI_ (1 : Int32), sI_ (1 : Int32), sI_ (((q2.toUInt32 >>> ((3 : Int32) &&& 31).toUInt32).toInt32) &&& (3 : Int32)), sI_ q0, sJ_ (-(q0.toInt64)), sS_, sU_, sU_, sU_, sU_, sU_, sU_, sU_, sU_, sU_]) rfl ?_
          refine XS.iload X0.here hx rfl (hb hby at_73) rfl ?_
          refine XS.ifNo X0.here hx rfl (hb hby at_75) rfl (XT.i0_eq_f (by decide)) ?_
          show Steps p.tables e below (s₁.setTop (mkF m 78 #[sI_ q0, sI_ q1, sI_ q2, sI_ q3, sI_ (1 : Int32), sI_ (1 : Int32), sI_ (1 : Int32), sI_ (((q2.toUInt32 >>> ((3 : Int32) &&& 31).toUInt32).toInt32) &&& (3 : Int32)), sI_ q0, sJ_ (-(q0.toInt64)), sS_, sU_, sU_, sU_, sU_, sU_, sU_, sU_, sU_, sU_] [])) t
          refine XS.iload X0.here hx rfl (hb hby at_78) rfl ?_
          refine XS.i2l X0.here hx rfl (hb hby at_80) rfl ?_
          refine XS.lneg X0.here hx rfl (hb hby at_81) rfl ?_
          refine XS.goto X0.here hx rfl (pc0 := 82) (pc' := 88) rfl (hb hby at_82) (by decide) (by decide) ?_
          refine XS.lstore X0.here hx rfl (hb hby at_88) rfl (l' := #[sI_ q0, sI_ q1, sI_ q2, sI_ q3, sI_ (1 : Int32), sI_ (1 : Int32), sI_ (1 : Int32), sI_ (((q2.toUInt32 >>> ((3 : Int32) &&& 31).toUInt32).toInt32) &&& (3 : Int32)), sI_ q0, sJ_ (-(q0.toInt64)), sS_, sJ_ (-(q0.toInt64)), sS_, sU_, sU_, sU_, sU_, sU_, sU_, sU_]) rfl ?_
          refine XS.iloadN X0.here hx rfl (hb hby at_90) rfl ?_
          refine XS.i2dS X0.here hx rfl (hb hby at_91) rfl rfl ?_
          refine X0.ldc2DoubleC hx hown (mvT hZ (wdOf hw 0 rfl)) (g := (mkF m 92 #[sI_ q0, sI_ q1, sI_ q2, sI_ q3, sI_ (1 : Int32), sI_ (1 : Int32), sI_ (1 : Int32), sI_ (((q2.toUInt32 >>> ((3 : Int32) &&& 31).toUInt32).toInt32) &&& (3 : Int32)), sI_ q0, sJ_ (-(q0.toInt64)), sS_, sJ_ (-(q0.toInt64)), sS_, sU_, sU_, sU_, sU_, sU_, sU_, sU_] [(.double (FP.i2d q0))])) rfl (hb hby at_92) _ ?_
          show Steps p.tables e below (s₁.setTop (mkF m 95 #[sI_ q0, sI_ q1, sI_ q2, sI_ q3, sI_ (1 : Int32), sI_ (1 : Int32), sI_ (1 : Int32), sI_ (((q2.toUInt32 >>> ((3 : Int32) &&& 31).toUInt32).toInt32) &&& (3 : Int32)), sI_ q0, sJ_ (-(q0.toInt64)), sS_, sJ_ (-(q0.toInt64)), sS_, sU_, sU_, sU_, sU_, sU_, sU_, sU_] [(.double (4616189618054758400 : UInt64)), (.double (FP.i2d q0))])) t
          refine XS.ddivS X0.here hx rfl (hb hby at_95) rfl (Qrt.noNaN _) rfl ?_
          refine XS.dstore X0.here hx rfl (hb hby at_96) rfl (l' := #[sI_ q0, sI_ q1, sI_ q2, sI_ q3, sI_ (1 : Int32), sI_ (1 : Int32), sI_ (1 : Int32), sI_ (((q2.toUInt32 >>> ((3 : Int32) &&& 31).toUInt32).toInt32) &&& (3 : Int32)), sI_ q0, sJ_ (-(q0.toInt64)), sS_, sJ_ (-(q0.toInt64)), sS_, .val (.double (FP.ddiv (FP.i2d q0) (4616189618054758400 : UInt64))), sS_, sU_, sU_, sU_, sU_, sU_]) rfl ?_
          refine XS.iload X0.here hx rfl (hb hby at_98) rfl ?_
          refine XS.ifNo X0.here hx rfl (hb hby at_100) rfl (XT.i0_eq_f (by decide)) ?_
          refine XS.dload X0.here hx rfl (hb hby at_103) rfl ?_
          refine XS.dnegS X0.here hx rfl (hb hby at_105) rfl rfl ?_
          refine XS.dstore X0.here hx rfl (hb hby at_106) rfl (l' := #[sI_ q0, sI_ q1, sI_ q2, sI_ q3, sI_ (1 : Int32), sI_ (1 : Int32), sI_ (1 : Int32), sI_ (((q2.toUInt32 >>> ((3 : Int32) &&& 31).toUInt32).toInt32) &&& (3 : Int32)), sI_ q0, sJ_ (-(q0.toInt64)), sS_, sJ_ (-(q0.toInt64)), sS_, .val (.double (FP.dneg (FP.ddiv (FP.i2d q0) (4616189618054758400 : UInt64)))), sS_, sU_, sU_, sU_, sU_, sU_]) rfl ?_
          refine XS.iload X0.here hx rfl (hb hby at_108) rfl ?_
          show Steps p.tables e below (s₁.setTop (mkF m 110 #[sI_ q0, sI_ q1, sI_ q2, sI_ q3, sI_ (1 : Int32), sI_ (1 : Int32), sI_ (1 : Int32), sI_ (((q2.toUInt32 >>> ((3 : Int32) &&& 31).toUInt32).toInt32) &&& (3 : Int32)), sI_ q0, sJ_ (-(q0.toInt64)), sS_, sJ_ (-(q0.toInt64)), sS_, .val (.double (FP.dneg (FP.ddiv (FP.i2d q0) (4616189618054758400 : UInt64)))), sS_, sU_, sU_, sU_, sU_, sU_] [(.int q0)])) t
          refine XS.i2dS X0.here hx rfl (hb hby at_110) rfl rfl ?_
          refine X0.ldc2DoubleC hx hown (mvT hZ (wdOf hw 0 rfl)) (g := (mkF m 111 #[sI_ q0, sI_ q1, sI_ q2, sI_ q3, sI_ (1 : Int32), sI_ (1 : Int32), sI_ (1 : Int32), sI_ (((q2.toUInt32 >>> ((3 : Int32) &&& 31).toUInt32).toInt32) &&& (3 : Int32)), sI_ q0, sJ_ (-(q0.toInt64)), sS_, sJ_ (-(q0.toInt64)), sS_, .val (.double (FP.dneg (FP.ddiv (FP.i2d q0) (4616189618054758400 : UInt64)))), sS_, sU_, sU_, sU_, sU_, sU_] [(.double (FP.i2d q0))])) rfl (hb hby at_111) _ ?_
          refine XS.ddivS X0.here hx rfl (hb hby at_114) rfl (Qrt.noNaN _) rfl ?_
          refine XS.dstore X0.here hx rfl (hb hby at_115) rfl (l' := #[sI_ q0, sI_ q1, sI_ q2, sI_ q3, sI_ (1 : Int32), sI_ (1 : Int32), sI_ (1 : Int32), sI_ (((q2.toUInt32 >>> ((3 : Int32) &&& 31).toUInt32).toInt32) &&& (3 : Int32)), sI_ q0, sJ_ (-(q0.toInt64)), sS_, sJ_ (-(q0.toInt64)), sS_, .val (.double (FP.dneg (FP.ddiv (FP.i2d q0) (4616189618054758400 : UInt64)))), sS_, .val (.double (FP.ddiv (FP.i2d q0) (4616189618054758400 : UInt64))), sS_, sU_, sU_, sU_]) rfl ?_
          refine XS.iload X0.here hx rfl (hb hby at_117) rfl ?_
          refine XS.ifNo X0.here hx rfl (hb hby at_119) rfl (XT.i0_eq_f (by decide)) ?_
          refine XS.dload X0.here hx rfl (hb hby at_122) rfl ?_
          refine XS.dnegS X0.here hx rfl (hb hby at_124) rfl rfl ?_
          show Steps p.tables e below (s₁.setTop (mkF m 125 #[sI_ q0, sI_ q1, sI_ q2, sI_ q3, sI_ (1 : Int32), sI_ (1 : Int32), sI_ (1 : Int32), sI_ (((q2.toUInt32 >>> ((3 : Int32) &&& 31).toUInt32).toInt32) &&& (3 : Int32)), sI_ q0, sJ_ (-(q0.toInt64)), sS_, sJ_ (-(q0.toInt64)), sS_, .val (.double (FP.dneg (FP.ddiv (FP.i2d q0) (4616189618054758400 : UInt64)))), sS_, .val (.double (FP.ddiv (FP.i2d q0) (4616189618054758400 : UInt64))), sS_, sU_, sU_, sU_] [(.double (FP.dneg (FP.ddiv (FP.i2d q0) (4616189618054758400 : UInt64))))])) t
          refine XS.dstore X0.here hx rfl (hb hby at_125) rfl (l' := #[sI_ q0, sI_ q1, sI_ q2, sI_ q3, sI_ (1 : Int32), sI_ (1 : Int32), sI_ (1 : Int32), sI_ (((q2.toUInt32 >>> ((3 : Int32) &&& 31).toUInt32).toInt32) &&& (3 : Int32)), sI_ q0, sJ_ (-(q0.toInt64)), sS_, sJ_ (-(q0.toInt64)), sS_, .val (.double (FP.dneg (FP.ddiv (FP.i2d q0) (4616189618054758400 : UInt64)))), sS_, .val (.double (FP.dneg (FP.ddiv (FP.i2d q0) (4616189618054758400 : UInt64)))), sS_, sU_, sU_, sU_]) rfl ?_
          exact kt
        exact law_127 l Z a0 hw q0 q1 q2 q3 cs rt rf (1 : Int32) (1 : Int32) (1 : Int32) (((q2.toUInt32 >>> ((3 : Int32) &&& 31).toUInt32).toInt32) &&& (3 : Int32)) q0 (-(q0.toInt64)) (-(q0.toInt64)) (FP.dneg (FP.ddiv (FP.i2d q0) (4616189618054758400 : UInt64))) (FP.dneg (FP.ddiv (FP.i2d q0) (4616189618054758400 : UInt64))) h0 n0 Z0 p e s m below meth c _ _ hx hby hml hown hnm hret hlk hZ _ _ _ X0 e0 N0 K0 O SC hcs S1 E1 S0 E0 (Qrt.neg64 q0) (Qrt.neg64 q0) hS hk0 LIv.tt
set_option maxRecDepth 65536 in
set_option maxHeartbeats 40000000 in
theorem comes_1 {Post : Tables → Env → Array Value → State → Outcome → State → Prop} (hpost : ∀ tb e args s v u, (limb_1_1.after args s (.returned v) u = true ∧ limb_1_2.after args s (.returned v) u = true) → ReturnedEndW s (.returned v) u (Jvm.fieldLocs frame_1_writes args s ++ Jvm.arrayLocs frame_1_arrays args s ++ Jvm.staticLocs frame_1_statics s) 24 1152 → Post tb e args s (.returned v) u) :
    ArmFor flags0 classFile x code maxLocals ret World_1 tables_1 room_1 Calls_1 rest_1 Pre_1 Post := by
  intro l hfl _ _ p e ha hc hk s m args below hf hA hF happ hP
  obtain ⟨hcalls, hrest, hpre⟩ := hP
  obtain ⟨-, -, -, hnamed, -, -, -, hat⟩ := (Spec.applies_iff hf).mp happ
  obtain ⟨hg, hn⟩ := and_e (Cond.before_iff.mp (show (Jvm.Cond.and given_1 narrow_1).before args s = true from hpre))
  obtain ⟨gc, gs⟩ := and_e hg
  obtain ⟨ga0, gs⟩ := and_e gs
  obtain ⟨ga1, gs⟩ := and_e gs
  obtain ⟨ga2, gs⟩ := and_e gs
  have ga3 := gs
  obtain ⟨w0, w1, w2, w3, rfl⟩ : ∃ w0 w1 w2 w3 : Value, args = #[w0, w1, w2, w3] := by
    have hs : args.size = 4 := by simpa [Cond.value, given_1] using gc
    obtain ⟨L⟩ := args
    match L, hs with
    | [w0, w1, w2, w3], _ => exact ⟨w0, w1, w2, w3, rfl⟩
  have hw := fun d (hd : d ∈ tables_1) => atoms_spec (ws := Jvm.Cond.code x code maxLocals ret :: tables_1) hat d (List.mem_cons_of_mem _ hd)
  have hfit : Fit s := fun {y c} hc i hi => by
    obtain ⟨ha, rfl⟩ := Array.getElem?_eq_some_iff.mp hc
    have q := List.all_eq_true.mp ((Array.all_eq_true_iff_forall_mem.mp hF) _ (Array.getElem_mem ha)) i (List.mem_range.mpr hi)
    simpa [Array.getElem?_eq_getElem hi] using q
  obtain ⟨i0, ei0⟩ := is_v ga0
  obtain rfl : w0 = (.int i0) := Option.some.inj ei0
  obtain ⟨i1, ei1⟩ := is_v ga1
  obtain rfl : w1 = (.int i1) := Option.some.inj ei1
  obtain ⟨i2, ei2⟩ := is_v ga2
  obtain rfl : w2 = (.int i2) := Option.some.inj ei2
  obtain ⟨i3, ei3⟩ := is_v ga3
  obtain rfl : w3 = (.int i3) := Option.some.inj ei3
  obtain ⟨hsets, hown0⟩ := atoms_of _ (rest_1_c_eq ▸ (show rest_1_c.before _ s = true from hrest))
  obtain ⟨cs, ecs⟩ := is_v (Cond.before_iff.mp (wdOf hsets 1 rfl))
  have SC : Sta s s.heap "java/lang/String" "COMPACT_STRINGS" "Z" (.int cs) := Sta.start ecs (Or.inl (wdOf hsets 0 rfl))
  have hcs : ¬ cs = 0 := own_cs ecs (Cond.before_iff.mp (wdOf hsets 2 rfl))
  obtain ⟨hn0, hn⟩ := and_e hn
  have hn1 := hn
  obtain ⟨r_FALSE, ev_FALSE⟩ := exa_v hn0
  have E_FALSE : Exa s s.heap r_FALSE "com/example/thistle/thistle/language/BooleanValue" := Exa.start ev_FALSE hn0
  have S_FALSE : Sta s s.heap "com/example/thistle/thistle/language/BooleanValue" "FALSE" "Lcom/example/thistle/thistle/language/BooleanValue;" (.ref r_FALSE) := Sta.start ev_FALSE (Or.inr ⟨(wdOf hw 77 rfl), (wdOf hw 80 rfl)⟩)
  obtain ⟨r_TRUE, ev_TRUE⟩ := exa_v hn1
  have E_TRUE : Exa s s.heap r_TRUE "com/example/thistle/thistle/language/BooleanValue" := Exa.start ev_TRUE hn1
  have S_TRUE : Sta s s.heap "com/example/thistle/thistle/language/BooleanValue" "TRUE" "Lcom/example/thistle/thistle/language/BooleanValue;" (.ref r_TRUE) := Sta.start ev_TRUE (Or.inr ⟨(wdOf hw 77 rfl), (wdOf hw 84 rfl)⟩)
  obtain ⟨n, o, h1, h2, h3, _, L, rfl, ⟨rfl, N⟩, hq⟩ := rm_law l s _ hw tables_1 i0 i1 i2 i3 cs r_TRUE r_FALSE s.heap s.heap.size (Nat.le_refl _) (Old.start s) SC hcs S_TRUE E_TRUE S_FALSE E_FALSE p e ha hc hk s m _ below hf ((Spec.applies_iff_loose hf).mp happ).1 ⟨rfl, State.Warmed39.refl s, rfl, LIv.tt⟩ trivial
  refine ⟨n, _, h1, h2, h3, hpost _ _ _ _ _ _ ⟨Cond.after_iff.mpr rfl, Cond.after_iff.mpr (eq_i res_at (Term.int_eval (1)) rfl)⟩ ⟨hq.1, hq.2.1, hq.2.2.1, (hq.2.2.2.sift fun y hy => Or.inr (N y hy)).mono (by decide) (by decide)⟩⟩
theorem main_1_1 : Claimed_1_1 := comes_1 fun _ _ _ _ _ _ h hF => ⟨h.1, hF⟩
theorem main_1_2 : Claimed_1_2 := comes_1 fun _ _ _ _ _ _ h hF => ⟨h.2, hF⟩
end Jvm.Pilot.@@N@@
namespace Jvm.Pilot.@@N@@
open Jvm Jvm.ClassFile Sem Op Lib Jvm.Free Jvm.Stand Jvm.Pilot.@@N@@.Jvm.D
/-! MADE BY PROGRAM (witnessworld.py) out of the Statement's table words and the real class files: 28 classes; the members and pool entries that the words name. The judged class is class 1, her method 1. -/
namespace start1
open Jvm.ClassFile
def u (s : String) : CpInfo := .utf8 (stringToUtf16 s)
/-- a pool by its gaps: so many unusable entries, then the entry; so many at the end -/
def gap : Nat → List CpInfo → List CpInfo
  | 0, r => r
  | n + 1, r => .unusable :: gap n r
def poolList (es : List (Nat × CpInfo)) (last : Nat) : List CpInfo := es.foldr (fun e r => gap e.1 (e.2 :: r)) (gap last [])
def pool (es : List (Nat × CpInfo)) (last : Nat) : Array CpInfo := ⟨poolList es last⟩
def fileOf (pool : Array CpInfo) (this : Nat) (attrs : Array Attribute := #[]) (ms : Array MethodInfo := #[]) (fl : Nat := 33) (sup : Nat := 0) (ifs : Array Nat := #[]) (fds : Array FieldInfo := #[]) : ClassFile where
  minorVersion := 0
  majorVersion := 65
  constantPool := pool
  accessFlags := fl
  thisClass := this
  superClass := sup
  interfaces := ifs
  fields := fds
  methods := ms
  attributes := attrs
def plain (name : String) (sup : Option ClassId) : Class where
  name := name
  kind := .ordinary
  loader := none
  accessFlags := 33
  super := sup
  interfaces := #[]
  cf := none
  fields := #[]
  methods := #[]
  instanceTypes := #[]
  staticTypes := #[]
  resolved := #[]
  callSites := []
  init := .initialized
  statics := none
  mirror := none

def pool0 : Array CpInfo := pool [(5, u "<init>"), (0, u "()V"), (1, .class_ 10), (1, u "java/lang/Object")] 113

def k0c0 : Code := { maxStack := 0, maxLocals := 1, code := object_method_1_code, exceptionTable := #[], attributes := #[] }
def k0m0 : Method := { name := "<init>", desc := "()V", sig := { parameters := [], returnType := none }, accessFlags := 1, code := some k0c0 }
/-- java/lang/Object -/
def k0 : Class := { plain "java/lang/Object" none with
  accessFlags := 33
  interfaces := #[]
  cf := some (fileOf pool0 8 #[] #[{ accessFlags := 1, nameIndex := 5, descriptorIndex := 6, attributes := #[] }] 33 0 #[] #[])
  fields := #[]
  methods := #[k0m0]
  instanceTypes := #[]
  staticTypes := #[]
  resolved := Array.replicate 124 none
  statics := none }

def pool1 : Array CpInfo := pool [(2, .class_ 4), (1, u "java/lang/Object"), (0, u "<init>"), (0, u "()V"), (0, .double 4616189618054758400), (1, .class_ 10), (0, u "com/example/thistle/thistle/language/NumberValue"), (0, .methodref 9 12), (0, .nameAndType 5 13), (0, u "(D)V"), (0, .methodref 9 15), (0, .nameAndType 16 17), (0, u "equals"), (0, u "(Ljava/lang/Object;)Z"), (0, .methodref 19 20), (0, .class_ 21), (0, .nameAndType 22 23), (0, u "com/example/thistle/thistle/language/BooleanValue"), (0, u "of"), (0, u "(Z)Lcom/example/thistle/thistle/language/BooleanValue;"), (0, .class_ 25), (0, u "com/example/thistle/thistle/language/StringValue"), (0, .class_ 27), (0, u "java/lang/String"), (0, .methodref 26 29), (0, .nameAndType 5 30), (0, u "([C)V"), (0, .methodref 24 32), (0, .nameAndType 5 33), (0, u "(Ljava/lang/String;)V"), (0, .class_ 35), (0, u "com/example/thistle/thistle/language/NumberValueEqualsPinLaw"), (2, u "law"), (0, u "(IIII)Z")] 5

def k1m0 : Method := { name := "<init>", desc := "()V", sig := { parameters := [], returnType := none }, accessFlags := 1, code := none }
def k1c1 : Code := { maxStack := 6, maxLocals := 20, code := code, exceptionTable := #[], attributes := #[] }
def k1m1 : Method := { name := "law", desc := "(IIII)Z", sig := { parameters := [.int, .int, .int, .int], returnType := some .boolean }, accessFlags := 9, code := some k1c1 }
/-- com/example/thistle/thistle/language/NumberValueEqualsPinLaw -/
def k1 : Class := { plain "com/example/thistle/thistle/language/NumberValueEqualsPinLaw" (some 0) with
  accessFlags := 49
  interfaces := #[]
  cf := some (fileOf pool1 34 #[] #[{ accessFlags := 1, nameIndex := 5, descriptorIndex := 6, attributes := #[] }, { accessFlags := 9, nameIndex := 38, descriptorIndex := 39, attributes := #[] }] 49 2 #[] #[])
  fields := #[]
  methods := #[k1m0, k1m1]
  instanceTypes := #[]
  staticTypes := #[]
  resolved := Array.replicate 45 none
  statics := none }

def pool2 : Array CpInfo := pool [(1, .class_ 2), (0, u "com/example/thistle/thistle/language/Value"), (0, .class_ 4), (0, u "java/lang/Object")] 13

/-- com/example/thistle/thistle/language/Value -/
def k2 : Class := { plain "com/example/thistle/thistle/language/Value" (some 0) with
  accessFlags := 1537
  interfaces := #[]
  cf := some (fileOf pool2 1 #[] #[] 1537 3 #[] #[])
  fields := #[]
  methods := #[]
  instanceTypes := #[]
  staticTypes := #[]
  resolved := Array.replicate 18 none
  statics := none }

def pool3 : Array CpInfo := pool [(1, .methodref 2 3), (0, .class_ 4), (0, .nameAndType 5 6), (0, u "java/lang/Object"), (0, u "<init>"), (0, u "()V"), (0, .methodref 8 9), (0, .class_ 10), (0, .nameAndType 11 12), (0, u "java/lang/Double"), (0, u "isFinite"), (0, u "(D)Z"), (9, .fieldref 23 24), (0, .class_ 25), (0, .nameAndType 26 27), (0, u "com/example/thistle/thistle/language/NumberValue"), (0, u "number"), (0, u "D"), (7, .class_ 36), (0, u "com/example/thistle/thistle/language/Value"), (0, u "(D)V"), (4, u "equals"), (0, u "(Ljava/lang/Object;)Z")] 19

def k3c0 : Code := { maxStack := 4, maxLocals := 3, code := prog_58_method_1_code, exceptionTable := #[], attributes := #[] }
def k3m0 : Method := { name := "<init>", desc := "(D)V", sig := { parameters := [.double], returnType := none }, accessFlags := 1, code := some k3c0 }
def k3c1 : Code := { maxStack := 4, maxLocals := 3, code := prog_58_method_3_code, exceptionTable := #[], attributes := #[] }
def k3m1 : Method := { name := "equals", desc := "(Ljava/lang/Object;)Z", sig := { parameters := [(.object "java/lang/Object")], returnType := some .boolean }, accessFlags := 1, code := some k3c1 }
/-- com/example/thistle/thistle/language/NumberValue -/
def k3 : Class := { plain "com/example/thistle/thistle/language/NumberValue" (some 0) with
  accessFlags := 49
  interfaces := #[2]
  cf := some (fileOf pool3 23 #[] #[{ accessFlags := 1, nameIndex := 5, descriptorIndex := 37, attributes := #[] }, { accessFlags := 1, nameIndex := 42, descriptorIndex := 43, attributes := #[] }] 49 2 #[35] #[{ accessFlags := 18, nameIndex := 26, descriptorIndex := 27, attributes := #[] }])
  fields := #[{ name := "number", type := .double, accessFlags := 18, slot := 0, constantValue := 0 }]
  methods := #[k3m0, k3m1]
  instanceTypes := #[.double]
  staticTypes := #[]
  resolved := Array.replicate 63 none
  statics := none }

def pool4 : Array CpInfo := pool [(1, .class_ 2), (0, u "java/io/Serializable"), (0, .class_ 4), (0, u "java/lang/Object")] 2

/-- java/io/Serializable -/
def k4 : Class := { plain "java/io/Serializable" (some 0) with
  accessFlags := 1537
  interfaces := #[]
  cf := some (fileOf pool4 1 #[] #[] 1537 3 #[] #[])
  fields := #[]
  methods := #[]
  instanceTypes := #[]
  staticTypes := #[]
  resolved := Array.replicate 7 none
  statics := none }

def pool5 : Array CpInfo := pool [(2, .class_ 4), (1, u "java/lang/Object"), (0, u "<init>"), (0, u "()V"), (1, .class_ 10), (1, u "java/lang/Number"), (2, .class_ 14), (0, u "java/io/Serializable"), (0, u "serialVersionUID"), (0, u "J")] 20

def k5m0 : Method := { name := "<init>", desc := "()V", sig := { parameters := [], returnType := none }, accessFlags := 1, code := none }
/-- java/lang/Number -/
def k5 : Class := { plain "java/lang/Number" (some 0) with
  accessFlags := 1057
  interfaces := #[4]
  cf := some (fileOf pool5 8 #[] #[{ accessFlags := 1, nameIndex := 5, descriptorIndex := 6, attributes := #[] }] 1057 2 #[13] #[{ accessFlags := 26, nameIndex := 15, descriptorIndex := 16, attributes := #[] }])
  fields := #[{ name := "serialVersionUID", type := .long, accessFlags := 26, slot := 0, constantValue := 0 }]
  methods := #[k5m0]
  instanceTypes := #[]
  staticTypes := #[.long]
  resolved := Array.replicate 37 none
  statics := none }

def pool6 : Array CpInfo := pool [(1, .class_ 2), (0, u "java/lang/Comparable"), (0, .class_ 4), (0, u "java/lang/Object")] 7

/-- java/lang/Comparable -/
def k6 : Class := { plain "java/lang/Comparable" (some 0) with
  accessFlags := 1537
  interfaces := #[]
  cf := some (fileOf pool6 1 #[] #[] 1537 3 #[] #[])
  fields := #[]
  methods := #[]
  instanceTypes := #[]
  staticTypes := #[]
  resolved := Array.replicate 12 none
  statics := none }

def pool7 : Array CpInfo := pool [(1, .class_ 2), (0, u "java/lang/constant/Constable"), (0, .class_ 4), (0, u "java/lang/Object")] 6

/-- java/lang/constant/Constable -/
def k7 : Class := { plain "java/lang/constant/Constable" (some 0) with
  accessFlags := 1537
  interfaces := #[]
  cf := some (fileOf pool7 1 #[] #[] 1537 3 #[] #[])
  fields := #[]
  methods := #[]
  instanceTypes := #[]
  staticTypes := #[]
  resolved := Array.replicate 11 none
  statics := none }

def pool8 : Array CpInfo := pool [(1, .class_ 2), (0, u "java/lang/constant/ConstantDesc"), (0, .class_ 4), (0, u "java/lang/Object")] 32

/-- java/lang/constant/ConstantDesc -/
def k8 : Class := { plain "java/lang/constant/ConstantDesc" (some 0) with
  accessFlags := 1537
  interfaces := #[]
  cf := some (fileOf pool8 1 #[] #[] 1537 3 #[] #[])
  fields := #[]
  methods := #[]
  instanceTypes := #[]
  staticTypes := #[]
  resolved := Array.replicate 37 none
  statics := none }

def pool9 : Array CpInfo := pool [(1, .class_ 2), (0, u "java/lang/Double"), (10, u "isFinite"), (0, u "(D)Z"), (8, .class_ 25), (1, u "java/lang/Math"), (12, .methodref 23 39), (0, .nameAndType 40 41), (0, u "abs"), (0, u "(D)D"), (69, .double 9218868437227405311), (2, .class_ 116), (1, u "java/lang/Number"), (3, u "value"), (0, u "D"), (51, u "TYPE"), (0, u "Ljava/lang/Class;"), (0, .class_ 176), (0, u "java/lang/Comparable"), (0, .class_ 178), (0, u "java/lang/constant/Constable"), (0, .class_ 180), (0, u "java/lang/constant/ConstantDesc"), (0, u "POSITIVE_INFINITY"), (3, u "NEGATIVE_INFINITY"), (2, u "NaN"), (2, u "MAX_VALUE"), (0, u "MIN_NORMAL"), (0, u "MIN_VALUE"), (2, u "SIZE"), (0, u "I"), (1, u "PRECISION"), (1, u "MAX_EXPONENT"), (1, u "MIN_EXPONENT"), (1, u "BYTES"), (3, u "serialVersionUID"), (0, u "J")] 79

def k9c0 : Code := { maxStack := 4, maxLocals := 2, code := jdk_117_method_8_code, exceptionTable := #[], attributes := #[] }
def k9m0 : Method := { name := "isFinite", desc := "(D)Z", sig := { parameters := [.double], returnType := some .boolean }, accessFlags := 9, code := some k9c0 }
/-- java/lang/Double -/
def k9 : Class := { plain "java/lang/Double" (some 5) with
  accessFlags := 49
  interfaces := #[6, 7, 8]
  cf := some (fileOf pool9 1 #[] #[{ accessFlags := 9, nameIndex := 13, descriptorIndex := 14, attributes := #[] }] 49 114 #[175, 177, 179] #[{ accessFlags := 25, nameIndex := 181, descriptorIndex := 121, attributes := #[] }, { accessFlags := 25, nameIndex := 185, descriptorIndex := 121, attributes := #[] }, { accessFlags := 25, nameIndex := 188, descriptorIndex := 121, attributes := #[] }, { accessFlags := 25, nameIndex := 191, descriptorIndex := 121, attributes := #[] }, { accessFlags := 25, nameIndex := 192, descriptorIndex := 121, attributes := #[] }, { accessFlags := 25, nameIndex := 193, descriptorIndex := 121, attributes := #[] }, { accessFlags := 25, nameIndex := 196, descriptorIndex := 197, attributes := #[] }, { accessFlags := 25, nameIndex := 199, descriptorIndex := 197, attributes := #[] }, { accessFlags := 25, nameIndex := 201, descriptorIndex := 197, attributes := #[] }, { accessFlags := 25, nameIndex := 203, descriptorIndex := 197, attributes := #[] }, { accessFlags := 25, nameIndex := 205, descriptorIndex := 197, attributes := #[] }, { accessFlags := 25, nameIndex := 173, descriptorIndex := 174, attributes := #[] }, { accessFlags := 18, nameIndex := 120, descriptorIndex := 121, attributes := #[] }, { accessFlags := 26, nameIndex := 209, descriptorIndex := 210, attributes := #[] }])
  fields := #[{ name := "POSITIVE_INFINITY", type := .double, accessFlags := 25, slot := 0, constantValue := 0 }, { name := "NEGATIVE_INFINITY", type := .double, accessFlags := 25, slot := 1, constantValue := 0 }, { name := "NaN", type := .double, accessFlags := 25, slot := 2, constantValue := 0 }, { name := "MAX_VALUE", type := .double, accessFlags := 25, slot := 3, constantValue := 0 }, { name := "MIN_NORMAL", type := .double, accessFlags := 25, slot := 4, constantValue := 0 }, { name := "MIN_VALUE", type := .double, accessFlags := 25, slot := 5, constantValue := 0 }, { name := "SIZE", type := .int, accessFlags := 25, slot := 6, constantValue := 0 }, { name := "PRECISION", type := .int, accessFlags := 25, slot := 7, constantValue := 0 }, { name := "MAX_EXPONENT", type := .int, accessFlags := 25, slot := 8, constantValue := 0 }, { name := "MIN_EXPONENT", type := .int, accessFlags := 25, slot := 9, constantValue := 0 }, { name := "BYTES", type := .int, accessFlags := 25, slot := 10, constantValue := 0 }, { name := "TYPE", type := (.object "java/lang/Class"), accessFlags := 25, slot := 11, constantValue := 0 }, { name := "value", type := .double, accessFlags := 18, slot := 0, constantValue := 0 }, { name := "serialVersionUID", type := .long, accessFlags := 26, slot := 12, constantValue := 0 }]
  methods := #[k9m0]
  instanceTypes := #[.double]
  staticTypes := #[.double, .double, .double, .double, .double, .double, .int, .int, .int, .int, .int, (.object "java/lang/Class"), .long]
  resolved := Array.replicate 290 none
  statics := none }

def pool10 : Array CpInfo := pool [(1, .class_ 2), (0, u "java/lang/Math"), (1, .class_ 6), (1, u "java/lang/Object"), (0, u "<init>"), (0, u "()V"), (5, u "(D)D"), (83, .class_ 100), (1, u "java/lang/Math$RandomNumberGeneratorHolder"), (23, u "abs"), (47, u "negativeZeroFloatBits"), (0, u "J"), (2, u "negativeZeroDoubleBits"), (68, u "$assertionsDisabled"), (0, u "Z"), (91, u "twoToTheDoubleScaleDown"), (0, u "D"), (4, u "twoToTheDoubleScaleUp"), (9, u "E"), (3, u "PI"), (2, u "TAU"), (2, u "DEGREES_TO_RADIANS"), (0, u "RADIANS_TO_DEGREES")] 94

def k10m0 : Method := { name := "<init>", desc := "()V", sig := { parameters := [], returnType := none }, accessFlags := 2, code := none }
def k10c1 : Code := { maxStack := 4, maxLocals := 2, code := jdk_29_method_64_code, exceptionTable := #[], attributes := #[] }
def k10m1 : Method := { name := "abs", desc := "(D)D", sig := { parameters := [.double], returnType := some .double }, accessFlags := 9, code := some k10c1 }
/-- java/lang/Math -/
def k10 : Class := { plain "java/lang/Math" (some 0) with
  accessFlags := 49
  interfaces := #[]
  cf := some (fileOf pool10 1 #[.nestMembers #[98]] #[{ accessFlags := 2, nameIndex := 7, descriptorIndex := 8, attributes := #[] }, { accessFlags := 9, nameIndex := 124, descriptorIndex := 14, attributes := #[] }] 49 4 #[] #[{ accessFlags := 25, nameIndex := 354, descriptorIndex := 339, attributes := #[] }, { accessFlags := 25, nameIndex := 358, descriptorIndex := 339, attributes := #[] }, { accessFlags := 25, nameIndex := 361, descriptorIndex := 339, attributes := #[] }, { accessFlags := 26, nameIndex := 364, descriptorIndex := 339, attributes := #[] }, { accessFlags := 26, nameIndex := 365, descriptorIndex := 339, attributes := #[] }, { accessFlags := 26, nameIndex := 172, descriptorIndex := 173, attributes := #[] }, { accessFlags := 26, nameIndex := 176, descriptorIndex := 173, attributes := #[] }, { accessFlags := 8, nameIndex := 344, descriptorIndex := 339, attributes := #[] }, { accessFlags := 8, nameIndex := 338, descriptorIndex := 339, attributes := #[] }, { accessFlags := 4120, nameIndex := 245, descriptorIndex := 246, attributes := #[] }])
  fields := #[{ name := "E", type := .double, accessFlags := 25, slot := 0, constantValue := 0 }, { name := "PI", type := .double, accessFlags := 25, slot := 1, constantValue := 0 }, { name := "TAU", type := .double, accessFlags := 25, slot := 2, constantValue := 0 }, { name := "DEGREES_TO_RADIANS", type := .double, accessFlags := 26, slot := 3, constantValue := 0 }, { name := "RADIANS_TO_DEGREES", type := .double, accessFlags := 26, slot := 4, constantValue := 0 }, { name := "negativeZeroFloatBits", type := .long, accessFlags := 26, slot := 5, constantValue := 0 }, { name := "negativeZeroDoubleBits", type := .long, accessFlags := 26, slot := 6, constantValue := 0 }, { name := "twoToTheDoubleScaleUp", type := .double, accessFlags := 8, slot := 7, constantValue := 0 }, { name := "twoToTheDoubleScaleDown", type := .double, accessFlags := 8, slot := 8, constantValue := 0 }, { name := "$assertionsDisabled", type := .boolean, accessFlags := 4120, slot := 9, constantValue := 0 }]
  methods := #[k10m0, k10m1]
  instanceTypes := #[]
  staticTypes := #[.double, .double, .double, .double, .double, .long, .long, .double, .double, .boolean]
  resolved := Array.replicate 460 none
  statics := none }

def pool11 : Array CpInfo := pool [(1, .methodref 2 3), (0, .class_ 4), (0, .nameAndType 5 6), (0, u "java/lang/Object"), (0, u "<init>"), (0, u "()V"), (0, .string 8), (0, u "text"), (0, .methodref 10 11), (0, .class_ 12), (0, .nameAndType 13 14), (0, u "java/util/Objects"), (0, u "requireNonNull"), (0, u "(Ljava/lang/Object;Ljava/lang/String;)Ljava/lang/Object;"), (0, .class_ 16), (0, u "java/lang/String"), (0, .fieldref 18 19), (0, .class_ 20), (0, .nameAndType 8 21), (0, u "com/example/thistle/thistle/language/StringValue"), (0, u "Ljava/lang/String;"), (51, .class_ 74), (0, u "com/example/thistle/thistle/language/Value"), (0, u "(Ljava/lang/String;)V")] 5

def k11c0 : Code := { maxStack := 3, maxLocals := 2, code := prog_80_method_1_code, exceptionTable := #[], attributes := #[] }
def k11m0 : Method := { name := "<init>", desc := "(Ljava/lang/String;)V", sig := { parameters := [(.object "java/lang/String")], returnType := none }, accessFlags := 1, code := some k11c0 }
/-- com/example/thistle/thistle/language/StringValue -/
def k11 : Class := { plain "com/example/thistle/thistle/language/StringValue" (some 0) with
  accessFlags := 49
  interfaces := #[2]
  cf := some (fileOf pool11 18 #[] #[{ accessFlags := 1, nameIndex := 5, descriptorIndex := 75, attributes := #[] }] 49 2 #[73] #[{ accessFlags := 18, nameIndex := 8, descriptorIndex := 21, attributes := #[] }])
  fields := #[{ name := "text", type := (.object "java/lang/String"), accessFlags := 18, slot := 0, constantValue := 0 }]
  methods := #[k11m0]
  instanceTypes := #[(.object "java/lang/String")]
  staticTypes := #[]
  resolved := Array.replicate 81 none
  statics := none }

def pool12 : Array CpInfo := pool [(2, .class_ 4), (1, u "java/lang/CharSequence"), (42, .class_ 48), (0, u "java/lang/CharSequence$1CodePointIterator"), (10, .class_ 60), (0, u "java/lang/CharSequence$1CharIterator"), (5, .class_ 67), (0, u "java/lang/Object")] 63

/-- java/lang/CharSequence -/
def k12 : Class := { plain "java/lang/CharSequence" (some 0) with
  accessFlags := 1537
  interfaces := #[]
  cf := some (fileOf pool12 2 #[.nestMembers #[47, 59]] #[] 1537 66 #[] #[])
  fields := #[]
  methods := #[]
  instanceTypes := #[]
  staticTypes := #[]
  resolved := Array.replicate 131 none
  statics := none }

def pool13 : Array CpInfo := pool [(1, .methodref 2 3), (0, .class_ 4), (0, .nameAndType 5 6), (0, u "java/lang/Object"), (0, u "<init>"), (0, u "()V"), (2, .fieldref 10 11), (0, .class_ 12), (0, .nameAndType 13 14), (0, u "java/lang/String"), (0, u "value"), (0, u "[B"), (0, .fieldref 10 16), (0, .nameAndType 17 18), (0, u "coder"), (0, u "B"), (2, u "hash"), (0, u "I"), (2, u "hashIsZero"), (0, u "Z"), (0, .methodref 10 28), (0, .nameAndType 5 29), (0, u "([CIILjava/lang/Void;)V"), (8, .fieldref 10 39), (0, .nameAndType 40 26), (0, u "COMPACT_STRINGS"), (1, .class_ 44), (1, u "java/lang/StringUTF16"), (0, u "compress"), (1, .methodref 42 48), (0, .nameAndType 49 50), (0, u "coderFromArrayLen"), (0, u "([BI)B"), (126, .methodref 42 178), (0, .nameAndType 45 179), (0, u "([CII)[B"), (395, .class_ 576), (0, u "java/lang/CharSequence"), (22, u "CASE_INSENSITIVE_ORDER"), (0, u "Ljava/util/Comparator;"), (409, u "([C)V"), (90, u "serialPersistentFields"), (0, u "[Ljava/io/ObjectStreamField;"), (0, .class_ 1104), (0, u "java/lang/String$CaseInsensitiveComparator"), (1, .class_ 1107), (0, u "java/io/Serializable"), (0, .class_ 1109), (0, u "java/lang/Comparable"), (0, .class_ 1111), (0, u "java/lang/constant/Constable"), (0, .class_ 1113), (0, u "java/lang/constant/ConstantDesc"), (2, u "serialVersionUID"), (0, u "J"), (3, u "REPL"), (0, u "C"), (2, u "LATIN1"), (1, u "UTF16")] 323

def k13m0 : Method := { name := "<init>", desc := "()V", sig := { parameters := [], returnType := none }, accessFlags := 1, code := none }
def k13c1 : Code := { maxStack := 5, maxLocals := 2, code := jdk_42_method_3_code, exceptionTable := #[], attributes := #[] }
def k13m1 : Method := { name := "<init>", desc := "([C)V", sig := { parameters := [(.array .char)], returnType := none }, accessFlags := 1, code := some k13c1 }
def k13c2 : Code := { maxStack := 4, maxLocals := 6, code := jdk_42_method_149_code, exceptionTable := #[], attributes := #[] }
def k13m2 : Method := { name := "<init>", desc := "([CIILjava/lang/Void;)V", sig := { parameters := [(.array .char), .int, .int, (.object "java/lang/Void")], returnType := none }, accessFlags := 2, code := some k13c2 }
/-- java/lang/String -/
def k13 : Class := { plain "java/lang/String" (some 0) with
  accessFlags := 49
  interfaces := #[4, 6, 12, 7, 8]
  cf := some (fileOf pool13 10 #[.nestMembers #[1103]] #[{ accessFlags := 1, nameIndex := 5, descriptorIndex := 6, attributes := #[] }, { accessFlags := 1, nameIndex := 5, descriptorIndex := 1010, attributes := #[] }, { accessFlags := 2, nameIndex := 5, descriptorIndex := 29, attributes := #[] }] 49 2 #[1106, 1108, 575, 1110, 1112] #[{ accessFlags := 18, nameIndex := 13, descriptorIndex := 14, attributes := #[] }, { accessFlags := 18, nameIndex := 17, descriptorIndex := 18, attributes := #[] }, { accessFlags := 2, nameIndex := 21, descriptorIndex := 22, attributes := #[] }, { accessFlags := 2, nameIndex := 25, descriptorIndex := 26, attributes := #[] }, { accessFlags := 26, nameIndex := 1116, descriptorIndex := 1117, attributes := #[] }, { accessFlags := 24, nameIndex := 40, descriptorIndex := 26, attributes := #[] }, { accessFlags := 26, nameIndex := 1101, descriptorIndex := 1102, attributes := #[] }, { accessFlags := 26, nameIndex := 1121, descriptorIndex := 1122, attributes := #[] }, { accessFlags := 25, nameIndex := 599, descriptorIndex := 600, attributes := #[] }, { accessFlags := 24, nameIndex := 1125, descriptorIndex := 18, attributes := #[] }, { accessFlags := 24, nameIndex := 1127, descriptorIndex := 18, attributes := #[] }])
  fields := #[{ name := "value", type := (.array .byte), accessFlags := 18, slot := 0, constantValue := 0 }, { name := "coder", type := .byte, accessFlags := 18, slot := 1, constantValue := 0 }, { name := "hash", type := .int, accessFlags := 2, slot := 2, constantValue := 0 }, { name := "hashIsZero", type := .boolean, accessFlags := 2, slot := 3, constantValue := 0 }, { name := "serialVersionUID", type := .long, accessFlags := 26, slot := 0, constantValue := 0 }, { name := "COMPACT_STRINGS", type := .boolean, accessFlags := 24, slot := 1, constantValue := 0 }, { name := "serialPersistentFields", type := (.array (.object "java/io/ObjectStreamField")), accessFlags := 26, slot := 2, constantValue := 0 }, { name := "REPL", type := .char, accessFlags := 26, slot := 3, constantValue := 0 }, { name := "CASE_INSENSITIVE_ORDER", type := (.object "java/util/Comparator"), accessFlags := 25, slot := 4, constantValue := 0 }, { name := "LATIN1", type := .byte, accessFlags := 24, slot := 5, constantValue := 0 }, { name := "UTF16", type := .byte, accessFlags := 24, slot := 6, constantValue := 0 }]
  methods := #[k13m0, k13m1, k13m2]
  instanceTypes := #[(.array .byte), .byte, .int, .boolean]
  staticTypes := #[.long, .boolean, (.array (.object "java/io/ObjectStreamField")), .char, (.object "java/util/Comparator"), .byte, .byte]
  resolved := Array.replicate 1451 none
  statics := some 0 }

def pool14 : Array CpInfo := pool [(6, .class_ 8), (1, u "java/lang/Object"), (0, u "<init>"), (0, u "()V"), (1, .class_ 14), (1, u "java/lang/StringUTF16"), (31, u "$assertionsDisabled"), (0, u "Z"), (13, u "HI_BYTE_SHIFT"), (0, u "I"), (2, u "LO_BYTE_SHIFT"), (49, .methodref 12 116), (0, .nameAndType 117 118), (0, u "compress"), (0, u "([CI[BII)I"), (3, u "([CII)[B"), (138, u "coderFromArrayLen"), (0, u "([BI)B"), (106, .class_ 371), (1, u "java/lang/StringUTF16$LinesSpliterator"), (58, u "MAX_LENGTH"), (196, .class_ 628), (0, u "java/lang/StringUTF16$CodePointsSpliterator"), (0, .class_ 630), (0, u "java/lang/StringUTF16$CharsSpliterator")] 4

def k14m0 : Method := { name := "<init>", desc := "()V", sig := { parameters := [], returnType := none }, accessFlags := 0, code := none }
def k14c1 : Code := { maxStack := 2, maxLocals := 2, code := jdk_52_method_15_code, exceptionTable := #[], attributes := #[] }
def k14m1 : Method := { name := "coderFromArrayLen", desc := "([BI)B", sig := { parameters := [(.array .byte), .int], returnType := some .byte }, accessFlags := 8, code := some k14c1 }
def k14c2 : Code := { maxStack := 5, maxLocals := 6, code := jdk_52_method_16_code, exceptionTable := #[], attributes := #[] }
def k14m2 : Method := { name := "compress", desc := "([CII)[B", sig := { parameters := [(.array .char), .int, .int], returnType := some (.array .byte) }, accessFlags := 9, code := some k14c2 }
def k14c3 : Code := { maxStack := 3, maxLocals := 7, code := jdk_52_method_21_code, exceptionTable := #[], attributes := #[] }
def k14m3 : Method := { name := "compress", desc := "([CI[BII)I", sig := { parameters := [(.array .char), .int, (.array .byte), .int, .int], returnType := some .int }, accessFlags := 9, code := some k14c3 }
/-- java/lang/StringUTF16 -/
def k14 : Class := { plain "java/lang/StringUTF16" (some 0) with
  accessFlags := 48
  interfaces := #[]
  cf := some (fileOf pool14 12 #[.nestMembers #[627, 629, 369]] #[{ accessFlags := 0, nameIndex := 9, descriptorIndex := 10, attributes := #[] }, { accessFlags := 8, nameIndex := 261, descriptorIndex := 262, attributes := #[] }, { accessFlags := 9, nameIndex := 117, descriptorIndex := 122, attributes := #[] }, { accessFlags := 9, nameIndex := 117, descriptorIndex := 118, attributes := #[] }] 48 6 #[] #[{ accessFlags := 26, nameIndex := 61, descriptorIndex := 62, attributes := #[] }, { accessFlags := 26, nameIndex := 65, descriptorIndex := 62, attributes := #[] }, { accessFlags := 24, nameIndex := 430, descriptorIndex := 62, attributes := #[] }, { accessFlags := 4120, nameIndex := 46, descriptorIndex := 47, attributes := #[] }])
  fields := #[{ name := "HI_BYTE_SHIFT", type := .int, accessFlags := 26, slot := 0, constantValue := 0 }, { name := "LO_BYTE_SHIFT", type := .int, accessFlags := 26, slot := 1, constantValue := 0 }, { name := "MAX_LENGTH", type := .int, accessFlags := 24, slot := 2, constantValue := 0 }, { name := "$assertionsDisabled", type := .boolean, accessFlags := 4120, slot := 3, constantValue := 0 }]
  methods := #[k14m0, k14m1, k14m2, k14m3]
  instanceTypes := #[]
  staticTypes := #[.int, .int, .int, .boolean]
  resolved := Array.replicate 635 none
  statics := none }

def pool15 : Array CpInfo := pool [(2, .class_ 4), (1, u "java/lang/Object"), (0, u "<init>"), (0, u "()V"), (35, .class_ 44), (1, u "java/util/Objects"), (0, u "requireNonNull"), (48, u "(Ljava/lang/Object;Ljava/lang/String;)Ljava/lang/Object;")] 89

def k15m0 : Method := { name := "<init>", desc := "()V", sig := { parameters := [], returnType := none }, accessFlags := 2, code := none }
def k15c1 : Code := { maxStack := 3, maxLocals := 2, code := jdk_31_method_11_code, exceptionTable := #[], attributes := #[] }
def k15m1 : Method := { name := "requireNonNull", desc := "(Ljava/lang/Object;Ljava/lang/String;)Ljava/lang/Object;", sig := { parameters := [(.object "java/lang/Object"), (.object "java/lang/String")], returnType := some (.object "java/lang/Object") }, accessFlags := 9, code := some k15c1 }
/-- java/util/Objects -/
def k15 : Class := { plain "java/util/Objects" (some 0) with
  accessFlags := 49
  interfaces := #[]
  cf := some (fileOf pool15 42 #[] #[{ accessFlags := 2, nameIndex := 5, descriptorIndex := 6, attributes := #[] }, { accessFlags := 9, nameIndex := 45, descriptorIndex := 94, attributes := #[] }] 49 2 #[] #[])
  fields := #[]
  methods := #[k15m0, k15m1]
  instanceTypes := #[]
  staticTypes := #[]
  resolved := Array.replicate 184 none
  statics := none }

def pool16 : Array CpInfo := pool [(2, .class_ 4), (1, u "java/lang/Enum"), (0, u "name"), (0, u "Ljava/lang/String;"), (2, u "ordinal"), (0, u "I"), (1, .class_ 14), (1, u "java/lang/Object"), (4, u "hash"), (86, .class_ 108), (1, u "java/lang/Enum$EnumDesc"), (2, .class_ 112), (0, u "java/lang/constant/Constable"), (0, .class_ 114), (0, u "java/lang/Comparable"), (0, .class_ 116), (0, u "java/io/Serializable")] 87

/-- java/lang/Enum -/
def k16 : Class := { plain "java/lang/Enum" (some 0) with
  accessFlags := 1057
  interfaces := #[7, 6, 4]
  cf := some (fileOf pool16 2 #[.nestMembers #[106]] #[] 1057 12 #[111, 113, 115] #[{ accessFlags := 18, nameIndex := 5, descriptorIndex := 6, attributes := #[] }, { accessFlags := 18, nameIndex := 9, descriptorIndex := 10, attributes := #[] }, { accessFlags := 2, nameIndex := 19, descriptorIndex := 10, attributes := #[] }])
  fields := #[{ name := "name", type := (.object "java/lang/String"), accessFlags := 18, slot := 0, constantValue := 0 }, { name := "ordinal", type := .int, accessFlags := 18, slot := 1, constantValue := 0 }, { name := "hash", type := .int, accessFlags := 2, slot := 2, constantValue := 0 }]
  methods := #[]
  instanceTypes := #[(.object "java/lang/String"), .int, .int]
  staticTypes := #[]
  resolved := Array.replicate 204 none
  statics := none }

def pool17 : Array CpInfo := pool [(1, .class_ 2), (0, u "com/example/thistle/thistle/language/BooleanValue"), (0, .fieldref 1 4), (0, .nameAndType 5 6), (0, u "TRUE"), (0, u "Lcom/example/thistle/thistle/language/BooleanValue;"), (0, .fieldref 1 8), (0, .nameAndType 9 6), (0, u "FALSE"), (2, u "$VALUES"), (0, u "[Lcom/example/thistle/thistle/language/BooleanValue;"), (6, .class_ 22), (1, u "java/lang/Enum"), (17, .class_ 41), (0, u "com/example/thistle/thistle/language/Value"), (7, u "of"), (0, u "(Z)Lcom/example/thistle/thistle/language/BooleanValue;")] 9

def k17c0 : Code := { maxStack := 1, maxLocals := 1, code := prog_44_method_4_code, exceptionTable := #[], attributes := #[] }
def k17m0 : Method := { name := "of", desc := "(Z)Lcom/example/thistle/thistle/language/BooleanValue;", sig := { parameters := [.boolean], returnType := some (.object "com/example/thistle/thistle/language/BooleanValue") }, accessFlags := 9, code := some k17c0 }
/-- com/example/thistle/thistle/language/BooleanValue -/
def k17 : Class := { plain "com/example/thistle/thistle/language/BooleanValue" (some 16) with
  accessFlags := 16433
  interfaces := #[2]
  cf := some (fileOf pool17 1 #[] #[{ accessFlags := 9, nameIndex := 49, descriptorIndex := 50, attributes := #[] }] 16433 20 #[40] #[{ accessFlags := 16409, nameIndex := 5, descriptorIndex := 6, attributes := #[] }, { accessFlags := 16409, nameIndex := 9, descriptorIndex := 6, attributes := #[] }, { accessFlags := 4122, nameIndex := 12, descriptorIndex := 13, attributes := #[] }])
  fields := #[{ name := "TRUE", type := (.object "com/example/thistle/thistle/language/BooleanValue"), accessFlags := 16409, slot := 0, constantValue := 0 }, { name := "FALSE", type := (.object "com/example/thistle/thistle/language/BooleanValue"), accessFlags := 16409, slot := 1, constantValue := 0 }, { name := "$VALUES", type := (.array (.object "com/example/thistle/thistle/language/BooleanValue")), accessFlags := 4122, slot := 2, constantValue := 0 }]
  methods := #[k17m0]
  instanceTypes := #[(.object "java/lang/String"), .int, .int]
  staticTypes := #[(.object "com/example/thistle/thistle/language/BooleanValue"), (.object "com/example/thistle/thistle/language/BooleanValue"), (.array (.object "com/example/thistle/thistle/language/BooleanValue"))]
  resolved := Array.replicate 60 none
  statics := some 1 }

def pool18 : Array CpInfo := pool [(4, .class_ 6), (1, u "java/lang/Object"), (0, u "<init>"), (0, u "()V"), (5, .class_ 16), (1, u "java/lang/StringLatin1"), (104, u "$assertionsDisabled"), (0, u "Z"), (98, .class_ 223), (1, u "java/lang/StringLatin1$LinesSpliterator"), (166, .class_ 391), (0, u "java/lang/StringLatin1$CharsSpliterator")] 3

def k18m0 : Method := { name := "<init>", desc := "()V", sig := { parameters := [], returnType := none }, accessFlags := 0, code := none }
/-- java/lang/StringLatin1 -/
def k18 : Class := { plain "java/lang/StringLatin1" (some 0) with
  accessFlags := 48
  interfaces := #[]
  cf := some (fileOf pool18 14 #[.nestMembers #[390, 221]] #[{ accessFlags := 0, nameIndex := 7, descriptorIndex := 8, attributes := #[] }] 48 4 #[] #[{ accessFlags := 4120, nameIndex := 121, descriptorIndex := 122, attributes := #[] }])
  fields := #[{ name := "$assertionsDisabled", type := .boolean, accessFlags := 4120, slot := 0, constantValue := 0 }]
  methods := #[k18m0]
  instanceTypes := #[]
  staticTypes := #[.boolean]
  resolved := Array.replicate 395 none
  statics := none }

def pool19 : Array CpInfo := pool [(2, .class_ 4), (1, u "java/lang/Object"), (0, u "<init>"), (0, u "()V"), (17, .class_ 26), (1, u "jdk/internal/util/Preconditions"), (28, .class_ 56), (0, u "jdk/internal/util/Preconditions$4"), (57, .class_ 115), (0, u "jdk/internal/util/Preconditions$1"), (7, u "SIOOBE_FORMATTER"), (0, u "Ljava/util/function/BiFunction;"), (0, .class_ 126), (0, u "jdk/internal/util/Preconditions$2"), (3, u "AIOOBE_FORMATTER"), (0, .class_ 132), (0, u "jdk/internal/util/Preconditions$3"), (3, u "IOOBE_FORMATTER")] 57

def k19m0 : Method := { name := "<init>", desc := "()V", sig := { parameters := [], returnType := none }, accessFlags := 1, code := none }
/-- jdk/internal/util/Preconditions -/
def k19 : Class := { plain "jdk/internal/util/Preconditions" (some 0) with
  accessFlags := 33
  interfaces := #[]
  cf := some (fileOf pool19 24 #[.nestMembers #[55, 131, 125, 114]] #[{ accessFlags := 1, nameIndex := 5, descriptorIndex := 6, attributes := #[] }] 33 2 #[] #[{ accessFlags := 25, nameIndex := 123, descriptorIndex := 124, attributes := #[] }, { accessFlags := 25, nameIndex := 130, descriptorIndex := 124, attributes := #[] }, { accessFlags := 25, nameIndex := 136, descriptorIndex := 124, attributes := #[] }])
  fields := #[{ name := "SIOOBE_FORMATTER", type := (.object "java/util/function/BiFunction"), accessFlags := 25, slot := 0, constantValue := 0 }, { name := "AIOOBE_FORMATTER", type := (.object "java/util/function/BiFunction"), accessFlags := 25, slot := 1, constantValue := 0 }, { name := "IOOBE_FORMATTER", type := (.object "java/util/function/BiFunction"), accessFlags := 25, slot := 2, constantValue := 0 }]
  methods := #[k19m0]
  instanceTypes := #[]
  staticTypes := #[(.object "java/util/function/BiFunction"), (.object "java/util/function/BiFunction"), (.object "java/util/function/BiFunction")]
  resolved := Array.replicate 194 none
  statics := some 2 }

def pool20 : Array CpInfo := pool [(9, u "<init>"), (6, .class_ 18), (1, u "java/lang/Object"), (0, u "()V"), (1, .class_ 23), (1, u "jdk/internal/util/ArraysSupport"), (0, u "LOG2_ARRAY_LONG_INDEX_SCALE"), (0, u "I"), (2, u "U"), (0, u "Ljdk/internal/misc/Unsafe;"), (8, u "BIG_ENDIAN"), (0, u "Z"), (8, u "LOG2_BYTE_BIT_SIZE"), (4, u "LOG2_ARRAY_INT_INDEX_SCALE"), (54, u "JLA"), (0, u "Ljdk/internal/access/JavaLangAccess;"), (11, u "LOG2_ARRAY_BOOLEAN_INDEX_SCALE"), (9, u "LOG2_ARRAY_BYTE_INDEX_SCALE"), (5, u "LOG2_ARRAY_CHAR_INDEX_SCALE"), (5, u "LOG2_ARRAY_SHORT_INDEX_SCALE"), (18, u "LOG2_ARRAY_FLOAT_INDEX_SCALE"), (24, u "LOG2_ARRAY_DOUBLE_INDEX_SCALE"), (89, u "T_BOOLEAN"), (2, u "T_CHAR"), (1, u "T_FLOAT"), (1, u "T_DOUBLE"), (1, u "T_BYTE"), (1, u "T_SHORT"), (1, u "T_INT"), (1, u "T_LONG"), (1, u "SOFT_MAX_ARRAY_LENGTH")] 83

def k20m0 : Method := { name := "<init>", desc := "()V", sig := { parameters := [], returnType := none }, accessFlags := 2, code := none }
/-- jdk/internal/util/ArraysSupport -/
def k20 : Class := { plain "jdk/internal/util/ArraysSupport" (some 0) with
  accessFlags := 33
  interfaces := #[]
  cf := some (fileOf pool20 21 #[] #[{ accessFlags := 2, nameIndex := 9, descriptorIndex := 19, attributes := #[] }] 33 16 #[] #[{ accessFlags := 24, nameIndex := 28, descriptorIndex := 29, attributes := #[] }, { accessFlags := 26, nameIndex := 38, descriptorIndex := 39, attributes := #[] }, { accessFlags := 25, nameIndex := 121, descriptorIndex := 25, attributes := #[] }, { accessFlags := 25, nameIndex := 131, descriptorIndex := 25, attributes := #[] }, { accessFlags := 25, nameIndex := 137, descriptorIndex := 25, attributes := #[] }, { accessFlags := 25, nameIndex := 143, descriptorIndex := 25, attributes := #[] }, { accessFlags := 25, nameIndex := 53, descriptorIndex := 25, attributes := #[] }, { accessFlags := 25, nameIndex := 24, descriptorIndex := 25, attributes := #[] }, { accessFlags := 25, nameIndex := 162, descriptorIndex := 25, attributes := #[] }, { accessFlags := 25, nameIndex := 187, descriptorIndex := 25, attributes := #[] }, { accessFlags := 26, nameIndex := 48, descriptorIndex := 25, attributes := #[] }, { accessFlags := 25, nameIndex := 277, descriptorIndex := 25, attributes := #[] }, { accessFlags := 25, nameIndex := 280, descriptorIndex := 25, attributes := #[] }, { accessFlags := 25, nameIndex := 282, descriptorIndex := 25, attributes := #[] }, { accessFlags := 25, nameIndex := 284, descriptorIndex := 25, attributes := #[] }, { accessFlags := 25, nameIndex := 286, descriptorIndex := 25, attributes := #[] }, { accessFlags := 25, nameIndex := 288, descriptorIndex := 25, attributes := #[] }, { accessFlags := 25, nameIndex := 290, descriptorIndex := 25, attributes := #[] }, { accessFlags := 25, nameIndex := 292, descriptorIndex := 25, attributes := #[] }, { accessFlags := 26, nameIndex := 108, descriptorIndex := 109, attributes := #[] }, { accessFlags := 25, nameIndex := 294, descriptorIndex := 25, attributes := #[] }])
  fields := #[{ name := "U", type := (.object "jdk/internal/misc/Unsafe"), accessFlags := 24, slot := 0, constantValue := 0 }, { name := "BIG_ENDIAN", type := .boolean, accessFlags := 26, slot := 1, constantValue := 0 }, { name := "LOG2_ARRAY_BOOLEAN_INDEX_SCALE", type := .int, accessFlags := 25, slot := 2, constantValue := 0 }, { name := "LOG2_ARRAY_BYTE_INDEX_SCALE", type := .int, accessFlags := 25, slot := 3, constantValue := 0 }, { name := "LOG2_ARRAY_CHAR_INDEX_SCALE", type := .int, accessFlags := 25, slot := 4, constantValue := 0 }, { name := "LOG2_ARRAY_SHORT_INDEX_SCALE", type := .int, accessFlags := 25, slot := 5, constantValue := 0 }, { name := "LOG2_ARRAY_INT_INDEX_SCALE", type := .int, accessFlags := 25, slot := 6, constantValue := 0 }, { name := "LOG2_ARRAY_LONG_INDEX_SCALE", type := .int, accessFlags := 25, slot := 7, constantValue := 0 }, { name := "LOG2_ARRAY_FLOAT_INDEX_SCALE", type := .int, accessFlags := 25, slot := 8, constantValue := 0 }, { name := "LOG2_ARRAY_DOUBLE_INDEX_SCALE", type := .int, accessFlags := 25, slot := 9, constantValue := 0 }, { name := "LOG2_BYTE_BIT_SIZE", type := .int, accessFlags := 26, slot := 10, constantValue := 0 }, { name := "T_BOOLEAN", type := .int, accessFlags := 25, slot := 11, constantValue := 0 }, { name := "T_CHAR", type := .int, accessFlags := 25, slot := 12, constantValue := 0 }, { name := "T_FLOAT", type := .int, accessFlags := 25, slot := 13, constantValue := 0 }, { name := "T_DOUBLE", type := .int, accessFlags := 25, slot := 14, constantValue := 0 }, { name := "T_BYTE", type := .int, accessFlags := 25, slot := 15, constantValue := 0 }, { name := "T_SHORT", type := .int, accessFlags := 25, slot := 16, constantValue := 0 }, { name := "T_INT", type := .int, accessFlags := 25, slot := 17, constantValue := 0 }, { name := "T_LONG", type := .int, accessFlags := 25, slot := 18, constantValue := 0 }, { name := "JLA", type := (.object "jdk/internal/access/JavaLangAccess"), accessFlags := 26, slot := 19, constantValue := 0 }, { name := "SOFT_MAX_ARRAY_LENGTH", type := .int, accessFlags := 25, slot := 20, constantValue := 0 }]
  methods := #[k20m0]
  instanceTypes := #[]
  staticTypes := #[(.object "jdk/internal/misc/Unsafe"), .boolean, .int, .int, .int, .int, .int, .int, .int, .int, .int, .int, .int, .int, .int, .int, .int, .int, .int, (.object "jdk/internal/access/JavaLangAccess"), .int]
  resolved := Array.replicate 378 none
  statics := none }

def pool21 : Array CpInfo := pool [(1, u "java/lang/Cloneable"), (0, .class_ 1), (0, u "java/lang/Object"), (0, .class_ 3)] 3

/-- java/lang/Cloneable -/
def k21 : Class := { plain "java/lang/Cloneable" (some 0) with
  accessFlags := 1537
  interfaces := #[]
  cf := some (fileOf pool21 2 #[] #[] 1537 4 #[] #[])
  fields := #[]
  methods := #[]
  instanceTypes := #[]
  staticTypes := #[]
  resolved := Array.replicate 8 none
  statics := none }

/-- the primitive byte -/
def k22 : Class := { plain "byte" none with kind := .primitive 'B', accessFlags := 0x411 }
/-- [B -/
def k23 : Class := { plain "[B" (some 0) with kind := .array 22 .byte, interfaces := #[21, 4], accessFlags := 1041 }

/-- the primitive char -/
def k24 : Class := { plain "char" none with kind := .primitive 'C', accessFlags := 0x411 }
/-- [C -/
def k25 : Class := { plain "[C" (some 0) with kind := .array 24 .char, interfaces := #[21, 4], accessFlags := 1041 }

/-- the primitive int -/
def k26 : Class := { plain "int" none with kind := .primitive 'I', accessFlags := 0x411 }
/-- [I -/
def k27 : Class := { plain "[I" (some 0) with kind := .array 26 .int, interfaces := #[21, 4], accessFlags := 1041 }

def heap : Heap := #[{ cls := 13, slots := #[.long 0, .int 1, .null, .int 0, .null, .int 0, .int 0], vm := .statics 13 },
  { cls := 17, slots := #[.ref 4, .ref 3, .null], vm := .statics 17 },
  { cls := 19, slots := #[.null, .null, .null], vm := .statics 19 },
  { cls := 17, slots := #[.null, .int 0, .int 0], vm := .none },
  { cls := 17, slots := #[.null, .int 1, .int 0], vm := .none }]
def classes : Array Class := #[k0, k1, k2, k3, k4, k5, k6, k7, k8, k9, k10, k11, k12, k13, k14, k15, k16, k17, k18, k19, k20, k21, k22, k23, k24, k25, k26, k27]
def interned : List (Array UInt16 × Addr) := []
def slotsUsed : Nat := 19
def theMethod : MethodId := ⟨1, 1⟩
def args0 : Array Value := #[.int 5, .int 5, .int 5, .int 5]
def aboutOver (below : List Frame) : State where
  vm := { classes := classes, interned := interned.toArray }
  heap := heap
  slotsUsed := slotsUsed
  threads := #[{ frames := .invoking theMethod args0 :: below }]
def below0 : List Frame := [.native { method := ⟨0, 0⟩, args := #[] }]
def about1 : State := aboutOver below0
def p0 : Program := .bare "" "" ""
def e0 : Env := launch0.env 0 0 0
theorem w_frames : about1.frames = Frame.invoking theMethod args0 :: below0 := rfl
set_option maxRecDepth 65536 in
theorem w_args : argsFit about1.vm theMethod args0 = true := by decide +kernel
set_option maxRecDepth 65536 in
theorem w_heap : heapFits about1 = true := by decide +kernel
set_option maxRecDepth 65536 in
theorem w_runnable : about1.curStatus? = some .runnable := by decide +kernel
set_option maxRecDepth 65536 in
theorem w_alone : about1.alone = true := by decide +kernel
set_option maxRecDepth 65536 in
theorem w_named : about1.methodNamed? x = some theMethod := by decide +kernel
set_option maxRecDepth 65536 in
theorem w_hears : about1.hears theMethod below0 = true := by decide +kernel
set_option maxRecDepth 65536 in
theorem w_ripe : about1.ripe theMethod args0 below0 = true := by decide +kernel
theorem w_running : about1.status = .running := rfl
set_option maxRecDepth 65536 in
theorem w_room : about1.hasRoom e0.platform room_1 = true :=
  launch0.hasRoom_least _ room_1 (by decide +kernel) (by decide +kernel) (by decide +kernel) (by decide +kernel) (by decide +kernel) (by decide +kernel)
theorem allAtoms_all (ts : List Jvm.Cond) (a : Array Jvm.Value) (st : Jvm.State) : (allAtoms ts).before a st = ts.all (fun c => c.before a st) := by
  induction ts with
  | nil => rfl
  | cons c t ih =>
    show (Jvm.Cond.and c (allAtoms t)).before a st = _
    rw [Jvm.Cond.before_and, ih, List.all_cons]
def words1 : List Jvm.Cond := Jvm.Cond.code x code maxLocals ret :: tables_1
/-- a 'code' word, met by the world's own term for the bytes: nothing is compared byte by byte -/
theorem code_word {y : MethodName} {bytes : ByteArray} {mx : Nat} {rt : Option FieldType} {a : Array Value} {s : State} {m : MethodId} {meth : Method} {c : Code} (h1 : s.methodNamed? y = some m) (h2 : s.vm.method? m = some meth) (h3 : meth.code = some c) (h4 : c.code = bytes)
    (h5 : (c.maxLocals == mx && c.exceptionTable.isEmpty && decide (c.maxStack ≤ mostOperands) && decide (meth.sig.returnType = rt) && !meth.locks && decide (parseMethodDescriptor y.desc = some meth.sig)) = true) : (Jvm.Cond.code y bytes mx rt).before a s = true := by
  simp only [Bool.and_eq_true, beq_iff_eq, Bool.not_eq_true', decide_eq_true_eq] at h5
  obtain ⟨⟨⟨⟨⟨g1, g2⟩, g3⟩, g4⟩, g5⟩, g6⟩ := h5
  simp [Cond.before, Cond.holds, Cond.value, h1, h2, h3, h4, g1, g2, g3, g4, g5, g6]
def isCode : Jvm.Cond → Bool
  | .code _ _ _ _ => true
  | _ => false
theorem all_split {L : List Jvm.Cond} {P : Jvm.Cond → Bool} (h1 : L.all (fun c => isCode c || P c) = true) (h2 : ∀ c ∈ L.filter isCode, P c = true) : L.all P = true := by
  refine List.all_eq_true.mpr fun c hc => ?_
  have h := List.all_eq_true.mp h1 c hc
  rcases Bool.eq_false_or_eq_true (isCode c) with hi | hi
  · exact h2 c (List.mem_filter.mpr ⟨hc, hi⟩)
  · simpa [hi] using h
set_option maxRecDepth 65536 in
theorem w_c0 : (Jvm.Cond.code x code maxLocals ret).before args0 about1 = true := code_word (m := ⟨1, 1⟩) (meth := k1m1) (c := k1c1) (by decide +kernel) rfl rfl rfl (by decide +kernel)
set_option maxRecDepth 65536 in
theorem w_c1 : (Jvm.Cond.code ({ cls := "com/example/thistle/thistle/language/NumberValue", name := "<init>", desc := "(D)V" } : Jvm.MethodName) prog_58_method_1_code (3 : Nat) (Option.none : Option Jvm.ClassFile.FieldType)).before args0 about1 = true := code_word (m := ⟨3, 0⟩) (meth := k3m0) (c := k3c0) (by decide +kernel) rfl rfl rfl (by decide +kernel)
set_option maxRecDepth 65536 in
theorem w_c2 : (Jvm.Cond.code ({ cls := "java/lang/Object", name := "<init>", desc := "()V" } : Jvm.MethodName) object_method_1_code (1 : Nat) (Option.none : Option Jvm.ClassFile.FieldType)).before args0 about1 = true := code_word (m := ⟨0, 0⟩) (meth := k0m0) (c := k0c0) (by decide +kernel) rfl rfl rfl (by decide +kernel)
set_option maxRecDepth 65536 in
theorem w_c3 : (Jvm.Cond.code ({ cls := "java/lang/Double", name := "isFinite", desc := "(D)Z" } : Jvm.MethodName) jdk_117_method_8_code (2 : Nat) (Option.some Jvm.ClassFile.FieldType.boolean)).before args0 about1 = true := code_word (m := ⟨9, 0⟩) (meth := k9m0) (c := k9c0) (by decide +kernel) rfl rfl rfl (by decide +kernel)
set_option maxRecDepth 65536 in
theorem w_c4 : (Jvm.Cond.code ({ cls := "java/lang/Math", name := "abs", desc := "(D)D" } : Jvm.MethodName) jdk_29_method_64_code (2 : Nat) (Option.some Jvm.ClassFile.FieldType.double)).before args0 about1 = true := code_word (m := ⟨10, 1⟩) (meth := k10m1) (c := k10c1) (by decide +kernel) rfl rfl rfl (by decide +kernel)
set_option maxRecDepth 65536 in
theorem w_c5 : (Jvm.Cond.code ({ cls := "com/example/thistle/thistle/language/NumberValue", name := "equals", desc := "(Ljava/lang/Object;)Z" } : Jvm.MethodName) prog_58_method_3_code (3 : Nat) (Option.some Jvm.ClassFile.FieldType.boolean)).before args0 about1 = true := code_word (m := ⟨3, 1⟩) (meth := k3m1) (c := k3c1) (by decide +kernel) rfl rfl rfl (by decide +kernel)
set_option maxRecDepth 65536 in
theorem w_c6 : (Jvm.Cond.code ({ cls := "java/lang/String", name := "<init>", desc := "([C)V" } : Jvm.MethodName) jdk_42_method_3_code (2 : Nat) (Option.none : Option Jvm.ClassFile.FieldType)).before args0 about1 = true := code_word (m := ⟨13, 1⟩) (meth := k13m1) (c := k13c1) (by decide +kernel) rfl rfl rfl (by decide +kernel)
set_option maxRecDepth 65536 in
theorem w_c7 : (Jvm.Cond.code ({ cls := "java/lang/String", name := "<init>", desc := "([CIILjava/lang/Void;)V" } : Jvm.MethodName) jdk_42_method_149_code (6 : Nat) (Option.none : Option Jvm.ClassFile.FieldType)).before args0 about1 = true := code_word (m := ⟨13, 2⟩) (meth := k13m2) (c := k13c2) (by decide +kernel) rfl rfl rfl (by decide +kernel)
set_option maxRecDepth 65536 in
theorem w_c8 : (Jvm.Cond.code ({ cls := "java/lang/StringUTF16", name := "compress", desc := "([CII)[B" } : Jvm.MethodName) jdk_52_method_16_code (6 : Nat) (Option.some (Jvm.ClassFile.FieldType.array Jvm.ClassFile.FieldType.byte))).before args0 about1 = true := code_word (m := ⟨14, 2⟩) (meth := k14m2) (c := k14c2) (by decide +kernel) rfl rfl rfl (by decide +kernel)
set_option maxRecDepth 65536 in
theorem w_c9 : (Jvm.Cond.code ({ cls := "java/lang/StringUTF16", name := "compress", desc := "([CI[BII)I" } : Jvm.MethodName) jdk_52_method_21_code (7 : Nat) (Option.some Jvm.ClassFile.FieldType.int)).before args0 about1 = true := code_word (m := ⟨14, 3⟩) (meth := k14m3) (c := k14c3) (by decide +kernel) rfl rfl rfl (by decide +kernel)
set_option maxRecDepth 65536 in
theorem w_c10 : (Jvm.Cond.code ({ cls := "java/lang/StringUTF16", name := "coderFromArrayLen", desc := "([BI)B" } : Jvm.MethodName) jdk_52_method_15_code (2 : Nat) (Option.some Jvm.ClassFile.FieldType.byte)).before args0 about1 = true := code_word (m := ⟨14, 1⟩) (meth := k14m1) (c := k14c1) (by decide +kernel) rfl rfl rfl (by decide +kernel)
set_option maxRecDepth 65536 in
theorem w_c11 : (Jvm.Cond.code ({ cls := "com/example/thistle/thistle/language/StringValue", name := "<init>", desc := "(Ljava/lang/String;)V" } : Jvm.MethodName) prog_80_method_1_code (2 : Nat) (Option.none : Option Jvm.ClassFile.FieldType)).before args0 about1 = true := code_word (m := ⟨11, 0⟩) (meth := k11m0) (c := k11c0) (by decide +kernel) rfl rfl rfl (by decide +kernel)
set_option maxRecDepth 65536 in
theorem w_c12 : (Jvm.Cond.code ({ cls := "java/util/Objects", name := "requireNonNull", desc := "(Ljava/lang/Object;Ljava/lang/String;)Ljava/lang/Object;" } : Jvm.MethodName) jdk_31_method_11_code (2 : Nat) (Option.some (Jvm.ClassFile.FieldType.object "java/lang/Object"))).before args0 about1 = true := code_word (m := ⟨15, 1⟩) (meth := k15m1) (c := k15c1) (by decide +kernel) rfl rfl rfl (by decide +kernel)
set_option maxRecDepth 65536 in
theorem w_c13 : (Jvm.Cond.code ({ cls := "com/example/thistle/thistle/language/BooleanValue", name := "of", desc := "(Z)Lcom/example/thistle/thistle/language/BooleanValue;" } : Jvm.MethodName) prog_44_method_4_code (1 : Nat) (Option.some (Jvm.ClassFile.FieldType.object "com/example/thistle/thistle/language/BooleanValue"))).before args0 about1 = true := code_word (m := ⟨17, 0⟩) (meth := k17m0) (c := k17c0) (by decide +kernel) rfl rfl rfl (by decide +kernel)
def codes1 : List Jvm.Cond := [Jvm.Cond.code x code maxLocals ret, Jvm.Cond.code ({ cls := "com/example/thistle/thistle/language/NumberValue", name := "<init>", desc := "(D)V" } : Jvm.MethodName) prog_58_method_1_code (3 : Nat) (Option.none : Option Jvm.ClassFile.FieldType), Jvm.Cond.code ({ cls := "java/lang/Object", name := "<init>", desc := "()V" } : Jvm.MethodName) object_method_1_code (1 : Nat) (Option.none : Option Jvm.ClassFile.FieldType), Jvm.Cond.code ({ cls := "java/lang/Double", name := "isFinite", desc := "(D)Z" } : Jvm.MethodName) jdk_117_method_8_code (2 : Nat) (Option.some Jvm.ClassFile.FieldType.boolean), Jvm.Cond.code ({ cls := "java/lang/Math", name := "abs", desc := "(D)D" } : Jvm.MethodName) jdk_29_method_64_code (2 : Nat) (Option.some Jvm.ClassFile.FieldType.double), Jvm.Cond.code ({ cls := "com/example/thistle/thistle/language/NumberValue", name := "equals", desc := "(Ljava/lang/Object;)Z" } : Jvm.MethodName) prog_58_method_3_code (3 : Nat) (Option.some Jvm.ClassFile.FieldType.boolean), Jvm.Cond.code ({ cls := "java/lang/String", name := "<init>", desc := "([C)V" } : Jvm.MethodName) jdk_42_method_3_code (2 : Nat) (Option.none : Option Jvm.ClassFile.FieldType), Jvm.Cond.code ({ cls := "java/lang/String", name := "<init>", desc := "([CIILjava/lang/Void;)V" } : Jvm.MethodName) jdk_42_method_149_code (6 : Nat) (Option.none : Option Jvm.ClassFile.FieldType), Jvm.Cond.code ({ cls := "java/lang/StringUTF16", name := "compress", desc := "([CII)[B" } : Jvm.MethodName) jdk_52_method_16_code (6 : Nat) (Option.some (Jvm.ClassFile.FieldType.array Jvm.ClassFile.FieldType.byte)), Jvm.Cond.code ({ cls := "java/lang/StringUTF16", name := "compress", desc := "([CI[BII)I" } : Jvm.MethodName) jdk_52_method_21_code (7 : Nat) (Option.some Jvm.ClassFile.FieldType.int), Jvm.Cond.code ({ cls := "java/lang/StringUTF16", name := "coderFromArrayLen", desc := "([BI)B" } : Jvm.MethodName) jdk_52_method_15_code (2 : Nat) (Option.some Jvm.ClassFile.FieldType.byte), Jvm.Cond.code ({ cls := "com/example/thistle/thistle/language/StringValue", name := "<init>", desc := "(Ljava/lang/String;)V" } : Jvm.MethodName) prog_80_method_1_code (2 : Nat) (Option.none : Option Jvm.ClassFile.FieldType), Jvm.Cond.code ({ cls := "java/util/Objects", name := "requireNonNull", desc := "(Ljava/lang/Object;Ljava/lang/String;)Ljava/lang/Object;" } : Jvm.MethodName) jdk_31_method_11_code (2 : Nat) (Option.some (Jvm.ClassFile.FieldType.object "java/lang/Object")), Jvm.Cond.code ({ cls := "com/example/thistle/thistle/language/BooleanValue", name := "of", desc := "(Z)Lcom/example/thistle/thistle/language/BooleanValue;" } : Jvm.MethodName) prog_44_method_4_code (1 : Nat) (Option.some (Jvm.ClassFile.FieldType.object "com/example/thistle/thistle/language/BooleanValue"))]
set_option maxRecDepth 65536 in
theorem codes_eq : words1.filter isCode = codes1 := rfl
theorem w_codes : ∀ c ∈ words1.filter isCode, c.before args0 about1 = true := by
  rw [codes_eq]
  intro c hc
  simp only [codes1, List.mem_cons, List.not_mem_nil, or_false] at hc
  rcases hc with rfl | rfl | rfl | rfl | rfl | rfl | rfl | rfl | rfl | rfl | rfl | rfl | rfl | rfl
  · exact w_c0
  · exact w_c1
  · exact w_c2
  · exact w_c3
  · exact w_c4
  · exact w_c5
  · exact w_c6
  · exact w_c7
  · exact w_c8
  · exact w_c9
  · exact w_c10
  · exact w_c11
  · exact w_c12
  · exact w_c13
set_option maxRecDepth 65536 in
theorem w_t1 : (words1.take 24).all (fun c => isCode c || c.before args0 about1) = true := by decide +kernel
set_option maxRecDepth 65536 in
theorem w_t2 : ((words1.drop 24).take 24).all (fun c => isCode c || c.before args0 about1) = true := by decide +kernel
set_option maxRecDepth 65536 in
theorem w_t3 : (((words1.drop 24).drop 24).take 24).all (fun c => isCode c || c.before args0 about1) = true := by decide +kernel
set_option maxRecDepth 65536 in
theorem w_t4 : (((words1.drop 24).drop 24).drop 24).all (fun c => isCode c || c.before args0 about1) = true := by decide +kernel
theorem w_tables : (allAtoms (Jvm.Cond.code x code maxLocals ret :: tables_1)).before args0 about1 = true := by
  rw [allAtoms_all]
  show words1.all (fun c => c.before args0 about1) = true
  refine all_split ?_ w_codes
  rw [← List.take_append_drop 24 words1, List.all_append, w_t1, ← List.take_append_drop 24 (words1.drop 24), List.all_append, w_t2, ← List.take_append_drop 24 ((words1.drop 24).drop 24), List.all_append, w_t3, w_t4]
  rfl
set_option maxRecDepth 65536 in
theorem w_rest : rest_1_c.before args0 about1 = true := by decide +kernel
set_option maxRecDepth 65536 in
theorem w_case : (Jvm.Cond.and given_1 narrow_1).before args0 about1 = true := by decide +kernel
theorem w_applies : (headSpec (Jvm.Cond.code x code maxLocals ret :: tables_1) room_1).applies x e0.platform about1 = true :=
  (Spec.applies_iff w_frames).mpr ⟨w_running, w_runnable, w_alone, w_named, w_hears, w_ripe, w_room, w_tables⟩
theorem atStart : AtStart classFile x code maxLocals ret World_1 tables_1 room_1 Calls_1 rest_1 Pre_1 launch0 p0 e0 about1 theMethod args0 below0 :=
  ⟨lists_1, trivial, launch0.admits_env _ _ _, launch0.least_env, fairChoices_fair.cas, fairChoices_fair.clock, w_frames, w_args, w_heap, w_applies, trivial, w_rest, w_case⟩
end start1
theorem witness_1 : WitnessClaimed_1 := ⟨start1.p0, start1.e0, start1.about1, start1.theMethod, start1.args0, start1.below0, start1.atStart⟩
end Jvm.Pilot.@@N@@
