import JvmDerived
import JvmDerived.Pilot.@@N@@Statement
import JvmDerived.Pilot.@@N@@Code
set_option linter.unusedVariables false
set_option linter.unusedSimpArgs false
namespace Jvm.RoadKit
open Sem ClassFile Op Lib Jvm.Stand Jvm.Free Jvm.LawKit
abbrev sI_ (x : Int32) : Slot := .val (.int x)
abbrev sJ_ (x : Int64) : Slot := .val (.long x)
abbrev sR_ (x : Addr) : Slot := .val (.ref x)
abbrev sU_ : Slot := .unset
abbrev sS_ : Slot := .second
theorem catR (a : Addr) : (Value.ref a).category = 1 := rfl
theorem catN : Value.null.category = 1 := rfl
theorem catI (x : Int32) : (Value.int x).category = 1 := rfl
theorem catJ (x : Int64) : (Value.long x).category = 2 := rfl
section Own
variable {p : Program} {l : Launch} {e : Env} {R : Room} {s : State} {m : MethodId} {args : Array Value} {below : List Frame} {meth : Method} {c : Code} {T U U' : State} {locs : List Loc} {cells slots : Nat} {Z : State} {a0 : Array Value} {h : Heap} {Q : Option Value → Heap → List Loc → Prop} {C S : Nat}
/-- what is left to show at a point of a walk: from U the body comes to its end, and Q holds there -/
def Goes (p : Program) (e : Env) (s : State) (below : List Frame) (Q : Option Value → Heap → List Loc → Prop) (C S : Nat) (U : State) : Prop :=
  ∃ s₂ o, Steps p.tables e below U s₂ ∧ s₂.status = .running ∧ Ended s₂ below o ∧ ∃ v L, o = .returned v ∧ Q v s₂.heap L ∧ FrameEnd s o s₂ L C S
theorem Goes.go (st : ∀ t, Steps p.tables e below U' t → Steps p.tables e below U t) (k : Goes p e s below Q C S U') : Goes p e s below Q C S U := by
  obtain ⟨s₂, o, h1, h2⟩ := k
  exact ⟨s₂, o, st _ h1, h2⟩
theorem Goes.leave {v : Option Value} (X : Stand p l e R s m args below meth c T locs cells slots) (hlk : meth.locks = false) (hv : meth.sig.returnType = none → v = none) (hQ : Q v T.heap locs) (hc : cells ≤ C) (hs : slots ≤ S)
    (st : ∀ fs, (∀ (f : JFrame) (acts : List Action), f.method = m → f.locked = none → f.entered = [] → (doReturn e (T.setTop f) acts v).1 = T.setFrames fs) → Steps p.tables e below U (T.setFrames fs)) : Goes p e s below Q C S U := by
  obtain ⟨fs, hr, hrun, hended, hW, hsame⟩ := X.leave (v := v) hv hlk
  exact ⟨_, _, st fs hr, hrun, hended, _, _, rfl, hQ, ⟨_, rfl⟩, hW, hsame.mono hc hs⟩
theorem Goes.retB {pc : Nat} {Ls : Array Slot} {z : Int32} {rest : List Value} (X : Stand p l e R s m args below meth c T locs cells slots) (hx : p.tables.exec = Jvm.exec) (hlk : meth.locks = false) (hret : meth.sig.returnType = some .boolean) (hd : decode c.code pc = .ok (.ireturn, 1)) (hc : cells ≤ C) (hs : slots ≤ S) (hQ : Q (some (.int (nar .boolean z))) T.heap locs) : Goes p e s below Q C S (T.setTop (mkF m pc Ls (.int z :: rest))) :=
  Goes.leave X hlk (fun h => by rw [hret] at h; cases h) hQ hc hs fun fs hr => retN X hx (t := .boolean) hret (by simp) hd hr
theorem Goes.retC {pc : Nat} {Ls : Array Slot} {z : Int32} {rest : List Value} (X : Stand p l e R s m args below meth c T locs cells slots) (hx : p.tables.exec = Jvm.exec) (hlk : meth.locks = false) (hret : meth.sig.returnType = some .char) (hd : decode c.code pc = .ok (.ireturn, 1)) (hc : cells ≤ C) (hs : slots ≤ S) (hQ : Q (some (.int (nar .char z))) T.heap locs) : Goes p e s below Q C S (T.setTop (mkF m pc Ls (.int z :: rest))) :=
  Goes.leave X hlk (fun h => by rw [hret] at h; cases h) hQ hc hs fun fs hr => retN X hx (t := .char) hret (by simp) hd hr
theorem Goes.retY {pc : Nat} {Ls : Array Slot} {z : Int32} {rest : List Value} (X : Stand p l e R s m args below meth c T locs cells slots) (hx : p.tables.exec = Jvm.exec) (hlk : meth.locks = false) (hret : meth.sig.returnType = some .byte) (hd : decode c.code pc = .ok (.ireturn, 1)) (hc : cells ≤ C) (hs : slots ≤ S) (hQ : Q (some (.int (nar .byte z))) T.heap locs) : Goes p e s below Q C S (T.setTop (mkF m pc Ls (.int z :: rest))) :=
  Goes.leave X hlk (fun h => by rw [hret] at h; cases h) hQ hc hs fun fs hr => retN X hx (t := .byte) hret (by simp) hd hr
theorem Goes.retI {pc : Nat} {Ls : Array Slot} {z : Int32} {rest : List Value} (X : Stand p l e R s m args below meth c T locs cells slots) (hx : p.tables.exec = Jvm.exec) (hlk : meth.locks = false) (hret : meth.sig.returnType = some .int) (hd : decode c.code pc = .ok (.ireturn, 1)) (hc : cells ≤ C) (hs : slots ≤ S) (hQ : Q (some (.int z)) T.heap locs) : Goes p e s below Q C S (T.setTop (mkF m pc Ls (.int z :: rest))) :=
  Goes.leave X hlk (fun h => by rw [hret] at h; cases h) hQ hc hs fun fs hr => retOut X hx hret rfl (Or.inl ⟨rfl, Or.inl rfl, _, rfl⟩) hd hr
theorem Goes.retJ {pc : Nat} {Ls : Array Slot} {z : Int64} {rest : List Value} (X : Stand p l e R s m args below meth c T locs cells slots) (hx : p.tables.exec = Jvm.exec) (hlk : meth.locks = false) (hret : meth.sig.returnType = some .long) (hd : decode c.code pc = .ok (.lreturn, 1)) (hc : cells ≤ C) (hs : slots ≤ S) (hQ : Q (some (.long z)) T.heap locs) : Goes p e s below Q C S (T.setTop (mkF m pc Ls (.long z :: rest))) :=
  Goes.leave X hlk (fun h => by rw [hret] at h; cases h) hQ hc hs fun fs hr => retOut X hx hret rfl (Or.inr (Or.inl ⟨rfl, rfl, _, rfl⟩)) hd hr
theorem ownNarrow {t : FieldType} {v : Value} (hv : v.isRef = true) (ht : t.isReference = true) : narrow t v = v := by
  rcases ref_cases hv with rfl | ⟨a, rfl⟩ <;> cases t <;> first | rfl | cases ht
theorem Goes.retA {pc : Nat} {Ls : Array Slot} {v : Value} {t : FieldType} {rest : List Value} (X : Stand p l e R s m args below meth c T locs cells slots) (hx : p.tables.exec = Jvm.exec) (hlk : meth.locks = false) (hret : meth.sig.returnType = some t) (ht : t.isReference = true) (hv : v.isRef = true) (hd : decode c.code pc = .ok (.areturn, 1)) (hc : cells ≤ C) (hs : slots ≤ S) (hQ : Q (some v) T.heap locs) : Goes p e s below Q C S (T.setTop (mkF m pc Ls (v :: rest))) :=
  Goes.leave X hlk (fun h => by rw [hret] at h; cases h) hQ hc hs fun fs hr => retOut X hx hret (ownNarrow hv ht) (Or.inr (Or.inr (Or.inr (Or.inr ⟨rfl, ht, hv⟩)))) hd hr
theorem Goes.retV {pc : Nat} {Ls : Array Slot} (X : Stand p l e R s m args below meth c T locs cells slots) (hx : p.tables.exec = Jvm.exec) (hlk : meth.locks = false) (hret : meth.sig.returnType = none) (hd : decode c.code pc = .ok (.return_, 1)) (hc : cells ≤ C) (hs : slots ≤ S) (hQ : Q none T.heap locs) : Goes p e s below Q C S (T.setTop (mkF m pc Ls [])) :=
  Goes.leave X hlk (fun _ => rfl) hQ hc hs fun fs hr => X.returnOut hx hret hd hr
/-- a body's contract: with these arguments over this heap it returns, and Q holds -/
def Pays (l : Launch) (Z : State) (y : MethodName) (bytes : ByteArray) (maxL : Nat) (ret : Option FieldType) (ws : List Jvm.Cond) (rm : Room) (as' : Array Value) (h : Heap) (Q : Option Value → Heap → List Loc → Prop) : Prop :=
  MetFree l y (head1 (Jvm.Cond.code y bytes maxL ret :: ws) rm) (fun a U => a = as' ∧ Z.Warmed39 U.vm ∧ U.heap = h) (fun _ _ _ _ _ => True) (fun _ U o U' => ∃ v L, o = .returned v ∧ Q v U'.heap L ∧ FrameEnd U o U' L rm.cells rm.slots)
theorem Pays.of {y : MethodName} {bytes : ByteArray} {maxL : Nat} {ret : Option FieldType} {ws : List Jvm.Cond} {rm : Room} {as' : Array Value} (hpl : plainFor y = true)
    (body : ∀ (p : Program) (e : Env) (s : State) (m : MethodId) (below : List Frame) (meth : Method) (c : Code) (s₁ : State), p.tables.exec = Jvm.exec → c.code = bytes → c.maxLocals = maxL → s.vm.findClass y.cls = some m.cls → meth.name = y.name → meth.sig.returnType = ret → meth.locks = false → Z.Warmed39 s.vm → s₁.heap = h → Stand p l e rm s m as' below meth c s₁ [] 0 0 → Goes p e s below Q rm.cells rm.slots (s₁.setTop (entryFrame m as' maxL))) :
    Pays l Z y bytes maxL ret ws rm as' h Q := by
  refine MetFree.of_bodySF hpl hisR ?_
  intro p e s m args below meth c s₁ Bd hml hP hK
  obtain ⟨rfl, hZ, hh⟩ := hP
  obtain ⟨s₂, o, h1, h2, h3, h4⟩ := body p e s m below meth c s₁ Bd.exec Bd.bytes hml (findClass_of_methodNamed Bd.named) (name_of_methodNamed Bd.named Bd.method).1 Bd.returns Bd.notSynchronized hZ (by rw [← hh, Bd.state]; rfl) (Stand.of_body Bd)
  exact ⟨s₂, o, h1, h2, h3, h4⟩
theorem callStatic (X : Stand p l e R s m args below meth c T locs cells slots) (hx : p.tables.exec = Jvm.exec) (hZ : Z.Warmed39 s.vm) {own : String} {index : Nat} {y : MethodName} {bytes : ByteArray} {maxL W : Nat} {ret : Option FieldType} {rm : Room} {as' : Array Value}
    (hown : s.vm.findClass own = some m.cls) (w1 : (Jvm.Cond.methodLink own index y).before a0 Z = true) (w2 : (Jvm.Cond.static y).before a0 Z = true) (w3 : (Jvm.Cond.initialized y.cls).before a0 Z = true) (w4 : (Jvm.Cond.code y bytes maxL ret).before a0 Z = true) (hy : y.cls ≠ "java/lang/invoke/MethodHandle" ∧ y.cls ≠ "java/lang/invoke/VarHandle")
    (M : Pays l Z y bytes maxL ret [] rm as' h Q) (hf : rm.frames + 1 ≤ R.frames) (hl : W + (maxL + 11) + rm.locals ≤ R.locals) (hc : cells + rm.cells ≤ R.cells) (hs : slots + rm.slots ≤ R.slots) (eT : T.heap = h)
    {g : JFrame} (hg : g.method = m) (hsize : g.locals.size = c.maxLocals) {argsL rest : List Value} (hlen : ∀ sig, parseMethodDescriptor y.desc = some sig → argsL.length = sig.parameters.length) (hstack : g.stack = argsL.reverse ++ rest) (has : argsL.toArray = as') (hW : 2 * g.monitorRoom + (rest.map fun v => v.category).sum ≤ W) (hdg : decode c.code g.pc = .ok (.invokestatic index, 3)) :
    ∃ (v : Option Value) (T' : State) (L : List Loc), Stand p l e R s m args below meth c T' (locs ++ L) (cells + rm.cells) (slots + rm.slots) ∧ Q v T'.heap L ∧ ∀ t, Steps p.tables e below (T'.setTop { g with pc := g.pc + 3, stack := v.toList ++ rest }) t → Steps p.tables e below (T.setTop g) t := by
  obtain ⟨v, vm1, ⟨T', L', k', n'⟩, -, X', ⟨Lc, hQ, l1, y1, z1⟩, st⟩ := Jvm.LawKit.callS X hx (y := y) hown (mvT hZ w1) (mvT hZ w2) (mvT hZ w3) (mvT hZ w4) hy (backOf (W := W) M hZ w4 w3 hf hl) hg hsize (argsL := argsL) (rest := rest) hlen hstack hW hdg (fun _ _ => ⟨has, eT, hc, hs⟩)
  dsimp only [Pt.U, Pt.locs, Pt.cells, Pt.slots] at X' l1 y1 z1 st hQ
  subst l1 y1 z1
  exact ⟨v, T', Lc, X', hQ, st⟩
theorem callVirtual (X : Stand p l e R s m args below meth c T locs cells slots) (hx : p.tables.exec = Jvm.exec) (hZ : Z.Warmed39 s.vm) {own K : String} {index : Nat} {y z : MethodName} {bytes : ByteArray} {maxL W : Nat} {ret : Option FieldType} {rm : Room} {as' : Array Value}
    (hown : s.vm.findClass own = some m.cls) (w1 : (Jvm.Cond.methodLink own index y).before a0 Z = true) (w2 : (Jvm.Cond.declares y).before a0 Z = true) (nf : NotFace s y) (w3 : (Jvm.Cond.selects K y z).before a0 Z = true) (w5 : (Jvm.Cond.instanceMethod z).before a0 Z = true) (w6 : (Jvm.Cond.initialized z.cls).before a0 Z = true) (w4 : (Jvm.Cond.code z bytes maxL ret).before a0 Z = true) (hy : y.cls ≠ "java/lang/invoke/MethodHandle" ∧ y.cls ≠ "java/lang/invoke/VarHandle")
    (M : Pays l Z z bytes maxL ret [] rm as' h Q) (hf : rm.frames + 1 ≤ R.frames) (hl : W + (maxL + 11) + rm.locals ≤ R.locals) (hc : cells + rm.cells ≤ R.cells) (hs : slots + rm.slots ≤ R.slots) (eT : T.heap = h) {b : Addr} (E : Exa Z h b K)
    {g : JFrame} (hg : g.method = m) (hsize : g.locals.size = c.maxLocals) {argsL rest : List Value} (hlen : ∀ sig, parseMethodDescriptor y.desc = some sig → argsL.length = sig.parameters.length) (hstack : g.stack = argsL.reverse ++ .ref b :: rest) (has : (.ref b :: argsL).toArray = as') (hW : 2 * g.monitorRoom + (rest.map fun v => v.category).sum ≤ W) (hdg : decode c.code g.pc = .ok (.invokevirtual index, 3)) :
    ∃ (v : Option Value) (T' : State) (L : List Loc), Stand p l e R s m args below meth c T' (locs ++ L) (cells + rm.cells) (slots + rm.slots) ∧ Q v T'.heap L ∧ ∀ t, Steps p.tables e below (T'.setTop { g with pc := g.pc + 3, stack := v.toList ++ rest }) t → Steps p.tables e below (T.setTop g) t := by
  obtain ⟨cq, kq, qa, -, qc⟩ := isOf (T := T) hZ eT E
  obtain ⟨v, vm1, ⟨T', L', k', n'⟩, -, X', ⟨Lc, hQ, l1, y1, z1⟩, st⟩ := X.virtualBack hx (y := y) (z := z) hown (mvT hZ w1) (mvT hZ w2) nf (mvT hZ w3) (mvT hZ w5) hy (backOf (W := W) M hZ w4 w6 hf hl) qa qc hg hsize (Steps.refl _) (argsL := argsL) (rest := rest) hlen hstack hW hdg (fun _ _ => ⟨has, eT, hc, hs⟩)
  dsimp only [Pt.U, Pt.locs, Pt.cells, Pt.slots] at X' l1 y1 z1 st hQ
  subst l1 y1 z1
  exact ⟨v, T', Lc, X', hQ, fun t k => st.trans k⟩
theorem callInit (X : Stand p l e R s m args below meth c T locs cells slots) (hx : p.tables.exec = Jvm.exec) (hZ : Z.Warmed39 s.vm) {own : String} {index : Nat} {y : MethodName} {bytes : ByteArray} {maxL W : Nat} {rm : Room} {as' : Array Value}
    (hy1 : y.name = "<init>") (hown : s.vm.findClass own = some m.cls) (w1 : (Jvm.Cond.methodLink own index y).before a0 Z = true) (w5 : (Jvm.Cond.instanceMethod y).before a0 Z = true) (w6 : (Jvm.Cond.initialized y.cls).before a0 Z = true) (w4 : (Jvm.Cond.code y bytes maxL none).before a0 Z = true) (hy : y.cls ≠ "java/lang/invoke/MethodHandle" ∧ y.cls ≠ "java/lang/invoke/VarHandle")
    (M : Pays l Z y bytes maxL none [] rm as' h Q) (hf : rm.frames + 1 ≤ R.frames) (hl : W + (maxL + 11) + rm.locals ≤ R.locals) (hc : cells + rm.cells ≤ R.cells) (hs : slots + rm.slots ≤ R.slots) (eT : T.heap = h) {b : Addr}
    {g : JFrame} (hg : g.method = m) (hsize : g.locals.size = c.maxLocals) {argsL rest : List Value} (hlen : ∀ sig, parseMethodDescriptor y.desc = some sig → argsL.length = sig.parameters.length) (hstack : g.stack = argsL.reverse ++ .ref b :: rest) (has : (.ref b :: argsL).toArray = as') (hW : 2 * g.monitorRoom + (rest.map fun v => v.category).sum ≤ W) (hdg : decode c.code g.pc = .ok (.invokespecial index, 3)) :
    ∃ (v : Option Value) (T' : State) (L : List Loc), Stand p l e R s m args below meth c T' (locs ++ L) (cells + rm.cells) (slots + rm.slots) ∧ Q v T'.heap L ∧ ∀ t, Steps p.tables e below (T'.setTop { g with pc := g.pc + 3, stack := v.toList ++ rest }) t → Steps p.tables e below (T.setTop g) t := by
  obtain ⟨v, vm1, ⟨T', L', k', n'⟩, -, X', ⟨Lc, hQ, l1, y1, z1⟩, st⟩ := X.specialBack hx (y := y) hy1 hown (mvT hZ w1) (mvT hZ w5) (mvT hZ w4) hy (backOf (W := W) M hZ w4 w6 hf hl) hg hsize (Steps.refl _) (a := b) (argsL := argsL) (rest := rest) hlen hstack hW hdg (fun _ _ => ⟨has, eT, hc, hs⟩)
  dsimp only [Pt.U, Pt.locs, Pt.cells, Pt.slots] at X' l1 y1 z1 st hQ
  subst l1 y1 z1
  exact ⟨v, T', Lc, X', hQ, fun t k => st.trans k⟩
theorem callPrivate (X : Stand p l e R s m args below meth c T locs cells slots) (hx : p.tables.exec = Jvm.exec) (hZ : Z.Warmed39 s.vm) {own K : String} {index kk : Nat} {y : MethodName} {bytes : ByteArray} {maxL W : Nat} {ret : Option FieldType} {rm : Room} {as' : Array Value}
    (hown : s.vm.findClass own = some m.cls) (w1 : (Jvm.Cond.methodLink own index y).before a0 Z = true) (w5 : (Jvm.Cond.instanceMethod y).before a0 Z = true) (wp : (Jvm.Cond.privateMethod y).before a0 Z = true) (wi : (Jvm.Cond.instantiable y.cls kk).before a0 Z = true) (w6 : (Jvm.Cond.initialized y.cls).before a0 Z = true) (w4 : (Jvm.Cond.code y bytes maxL ret).before a0 Z = true) (hy : y.cls ≠ "java/lang/invoke/MethodHandle" ∧ y.cls ≠ "java/lang/invoke/VarHandle")
    (M : Pays l Z y bytes maxL ret [] rm as' h Q) (hf : rm.frames + 1 ≤ R.frames) (hl : W + (maxL + 11) + rm.locals ≤ R.locals) (hc : cells + rm.cells ≤ R.cells) (hs : slots + rm.slots ≤ R.slots) (eT : T.heap = h) {b : Addr} (E : Exa Z h b K)
    {g : JFrame} (hg : g.method = m) (hsize : g.locals.size = c.maxLocals) {argsL rest : List Value} (hlen : ∀ sig, parseMethodDescriptor y.desc = some sig → argsL.length = sig.parameters.length) (hstack : g.stack = argsL.reverse ++ .ref b :: rest) (has : (.ref b :: argsL).toArray = as') (hW : 2 * g.monitorRoom + (rest.map fun v => v.category).sum ≤ W) (hdg : decode c.code g.pc = .ok (.invokevirtual index, 3)) :
    ∃ (v : Option Value) (T' : State) (L : List Loc), Stand p l e R s m args below meth c T' (locs ++ L) (cells + rm.cells) (slots + rm.slots) ∧ Q v T'.heap L ∧ ∀ t, Steps p.tables e below (T'.setTop { g with pc := g.pc + 3, stack := v.toList ++ rest }) t → Steps p.tables e below (T.setTop g) t := by
  obtain ⟨cc, kc, i1, i2, -, i4, -⟩ := Cond.instantiable_spec (mvT (args := args) hZ wi)
  have i5 : kc.isInterface = false := by cases hq : kc.isInterface <;> simp_all
  have hpr := Cond.privateMethod_at (mvP (args := #[]) hZ wp)
  obtain ⟨cell, c1, c2⟩ := E.cell
  obtain ⟨v, vm1, ⟨T', L', k', n'⟩, -, X', ⟨Lc, hQ, l1, y1, z1⟩, st⟩ := X.privateBack hx (y := y) hown (mvT hZ w1) (mvT hZ w5) (selects_self_of_private i1 i2 i5 hpr (mvT hZ w5) hy) hpr (mvT hZ w4) hy (backOf (W := W) M hZ w4 w6 hf hl) hg hsize (Steps.refl _) (a := b) (cell := cell) (by rw [eT]; exact c1) c2 (argsL := argsL) (rest := rest) hlen hstack hW hdg (fun _ _ => ⟨has, eT, hc, hs⟩)
  dsimp only [Pt.U, Pt.locs, Pt.cells, Pt.slots] at X' l1 y1 z1 st hQ
  subst l1 y1 z1
  exact ⟨v, T', Lc, X', hQ, fun t k => st.trans k⟩
theorem callFace (X : Stand p l e R s m args below meth c T locs cells slots) (hx : p.tables.exec = Jvm.exec) (hZ : Z.Warmed39 s.vm) {own K : String} {index count : Nat} {y z : MethodName} {bytes : ByteArray} {maxL W : Nat} {ret : Option FieldType} {rm : Room} {as' : Array Value}
    (hown : s.vm.findClass own = some m.cls) (w1 : (Jvm.Cond.methodLink own index y).before a0 Z = true) (w2 : (Jvm.Cond.declares y).before a0 Z = true) (wf : (Jvm.Cond.interfaceMethod y.cls y.cls y.name y.desc).before args s = true) (w3 : (Jvm.Cond.selects K y z).before a0 Z = true) (w5 : (Jvm.Cond.instanceMethod z).before a0 Z = true) (wp : (Jvm.Cond.publicMethod z).before a0 Z = true) (wu : (Jvm.Cond.unhidden K y.name y.desc).before a0 Z = true) (wc : (Jvm.Cond.castable K y.cls).before a0 Z = true) (w6 : (Jvm.Cond.initialized z.cls).before a0 Z = true) (w4 : (Jvm.Cond.code z bytes maxL ret).before a0 Z = true) (hy : y.cls ≠ "java/lang/invoke/MethodHandle" ∧ y.cls ≠ "java/lang/invoke/VarHandle")
    (M : Pays l Z z bytes maxL ret [] rm as' h Q) (hf : rm.frames + 1 ≤ R.frames) (hl : W + (maxL + 11) + rm.locals ≤ R.locals) (hc : cells + rm.cells ≤ R.cells) (hs : slots + rm.slots ≤ R.slots) (eT : T.heap = h) {b : Addr} (E : Exa Z h b K)
    {g : JFrame} (hg : g.method = m) (hsize : g.locals.size = c.maxLocals) {argsL rest : List Value} (hlen : ∀ sig, parseMethodDescriptor y.desc = some sig → argsL.length = sig.parameters.length) (hstack : g.stack = argsL.reverse ++ .ref b :: rest) (has : (.ref b :: argsL).toArray = as') (hW : 2 * g.monitorRoom + (rest.map fun v => v.category).sum ≤ W) (hdg : decode c.code g.pc = .ok (.invokeinterface index count, 5)) :
    ∃ (v : Option Value) (T' : State) (L : List Loc), Stand p l e R s m args below meth c T' (locs ++ L) (cells + rm.cells) (slots + rm.slots) ∧ Q v T'.heap L ∧ ∀ t, Steps p.tables e below (T'.setTop { g with pc := g.pc + 5, stack := v.toList ++ rest }) t → Steps p.tables e below (T.setTop g) t := by
  obtain ⟨cq, kq, qa, qb, qc⟩ := isOf (T := T) hZ eT E
  obtain ⟨v, vm1, ⟨T', L', k', n'⟩, -, X', ⟨Lc, hQ, l1, y1, z1⟩, st⟩ := X.interfaceBack hx (xi := y) (y := z) hown (mvT hZ w1) (mvT hZ w2) wf (mvT hZ w3) (mvT hZ w5) (mvT hZ wp) (mvT hZ wu) (mvT hZ wc) hy (backOf (W := W) M hZ w4 w6 hf hl) qa qb qc hg hsize (Steps.refl _) (argsL := argsL) (rest := rest) hlen hstack hW hdg (fun _ _ => ⟨has, eT, hc, hs⟩)
  dsimp only [Pt.U, Pt.locs, Pt.cells, Pt.slots] at X' l1 y1 z1 st hQ
  subst l1 y1 z1
  exact ⟨v, T', Lc, X', hQ, fun t k => st.trans k⟩
theorem castV (X : Stand p l e R s m args below meth c T locs cells slots) (hx : p.tables.exec = Jvm.exec) (hZ : Z.Warmed39 s.vm) {own K : String} {index : Nat} (hown : s.vm.findClass own = some m.cls) (w : (Jvm.Cond.classLink own index K).before a0 Z = true) (eT : T.heap = h) {v : Value} (F : v = .null ∨ ∃ a, v = .ref a ∧ Ins Z h a K true)
    {g : JFrame} (hg : g.method = m) {rest : List Value} (hs : g.stack = v :: rest) (hd : decode c.code g.pc = .ok (.checkcast index, 3)) : ∃ T', Stand p l e R s m args below meth c T' locs cells slots ∧ T'.heap = h ∧ ∀ target, Steps p.tables e below (T'.setTop { g with pc := g.pc + 3 }) target → Steps p.tables e below (T.setTop g) target := by
  rcases F with rfl | ⟨a, rfl, I⟩
  · exact ⟨T, X, eT, fun t k => X.checkcastNull hx (g := g) hg hs hd t k⟩
  · exact castY X hx hZ hown w eT I hg hs hd
theorem moreRoom {cells' slots' : Nat} (X : Stand p l e R s m args below meth c T locs cells slots) (h1 : cells ≤ cells') (h2 : slots ≤ slots') : Stand p l e R s m args below meth c T locs cells' slots' :=
  { X with same := X.same.mono h1 h2 }
theorem wdOf {ts : List Jvm.Cond} (hw : ∀ d ∈ ts, d.before a0 Z = true) {d : Jvm.Cond} (k : Nat) (hk : ts[k]? = some d) : d.before a0 Z = true := hw _ (List.mem_of_getElem? hk)
end Own
end Jvm.RoadKit
namespace Jvm.RoadKit
open Sem ClassFile Op Lib Jvm.Stand Jvm.Free Jvm.LawKit
section OwnWords
variable {args : Array Value} {first s : State} {o : Option Outcome} {idx : List Nat} {t : Term}
theorem eqInt_v {k : Int32} (h : (Jvm.Cond.eq t (.int k)).value args first o s idx = some true) : t.eval args first o idx s = some (.int k) := by
  simp only [Jvm.Cond.value, Term.eval] at h
  cases ht : t.eval args first o idx s with
  | none => simp [ht] at h
  | some x => cases x <;> simp [ht] at h ⊢; exact h
theorem ownFits {ty : FieldType} {v : Value} (hv : v.isRef = true) (ht : ty.isReference = true) : fits ty v = true := by
  rcases ref_cases hv with rfl | ⟨a, rfl⟩ <;> cases ty <;> first | rfl | cases ht
theorem Sta.keepN {Z : State} {h h' : Heap} {C n d : String} {v : Value} {ws : List Addr} (F : Sta Z h C n d v) (K : Keep h h' ws) (hn : ∀ a ∈ ws, ∃ c : Cell, h[a]? = some c ∧ ∀ q, c.vm ≠ .statics q) : Sta Z h' C n d v := by
  obtain ⟨cf, i, k, f, st, cell, h1, h2, h3, h4, h5, h6, h7⟩ := F
  refine ⟨cf, i, k, f, st, cell, h1, h2, h3, h4, K.2.1 _ _ h5 fun hm => ?_, h6, h7⟩
  obtain ⟨c, g1, g2⟩ := hn st hm
  cases h5.symm.trans g1
  cases hq : cell.vm <;> first | (rw [hq] at h6; exact Bool.noConfusion h6) | exact g2 _ hq
theorem NSr {Z : State} {a0 : Array Value} {O K : String} {n : Nat} (w : (Jvm.Cond.noSuperclass O).before a0 Z = true) (wi : (Jvm.Cond.instantiable K n).before a0 Z = true) (hn : O ≠ K) : NS Z O K := by
  obtain ⟨c, k, h1, h2, h3, -, -⟩ := Cond.noSuperclass_spec w
  obtain ⟨t, kt, g1, -⟩ := Cond.instantiable_spec wi
  refine ⟨c, t, h1, g1, fun fuel => ?_⟩
  cases fuel with
  | zero => rfl
  | succ f => simp [Vm.isSubclassAux, ids_ne h1 g1 hn, h2, h3]
theorem NSno {Z : State} {a0 : Array Value} {C S K : String} {n : Nat} (w : (Jvm.Cond.superclass C S).before a0 Z = true) (wi : (Jvm.Cond.instantiable K n).before a0 Z = true) (q : NS Z C K) (hn : C ≠ K) : ∃ c t, Z.vm.findClass C = some c ∧ Z.vm.findClass K = some t ∧ Z.vm.assignable c t = false := by
  obtain ⟨c, t, h0, g0, n3⟩ := q
  obtain ⟨_, k, _, -, h2, -, -, h5, -, -⟩ := Cond.superclass_spec h0 w
  obtain ⟨t', k', g1, g2, g5, g7, -⟩ := Cond.instantiable_spec wi
  cases g0.symm.trans g1
  have g8 : k'.isInterface = false := by cases hq : k'.isInterface <;> simp_all
  refine ⟨c, t, h0, g0, ?_⟩
  show Z.vm.assignableAux (255 + 1) c t = false
  simp [Vm.assignableAux, ids_ne h0 g0 hn, h2, g2, h5, g5, g8, Vm.isSubclass, n3]
theorem Ext.of_keep {h h' : Heap} (K : Keep h h' []) : Ext h h' := ⟨K.1, fun a c q => K.2.1 a c q nin0⟩
theorem Keep.of_ext {h h' : Heap} (E : Ext h h') (ws : List Addr) : Keep h h' ws := (Keep.refl h ws).ext E
theorem ofInt {x : Int32} (n : Int32) (h : x.toInt = n.toInt) : x = n := Int32.toInt_inj.mp h
end OwnWords
end Jvm.RoadKit
namespace Jvm.RoadKit
open Sem ClassFile Op Lib Jvm.Stand Jvm.Free Jvm.LawKit
section OwnCold
variable {p : Program} {l : Launch} {e : Env} {R : Room} {s : State} {m : MethodId} {args : Array Value} {below : List Frame} {meth : Method} {c : Code} {T U U' : State} {locs : List Loc} {cells slots : Nat} {Z : State} {a0 : Array Value} {h h' : Heap} {Q : Option Value → State → List Loc → Prop} {C S : Nat} {vm0 vm1 : Vm}
/-- as Goes, but the body may have interned a String constant -/
def GoesW (p : Program) (e : Env) (s : State) (below : List Frame) (Q : Option Value → State → List Loc → Prop) (C S : Nat) (U : State) : Prop :=
  ∃ s₂ o, Steps p.tables e below U s₂ ∧ s₂.status = .running ∧ Ended s₂ below o ∧ ∃ v L, o = .returned v ∧ Q v s₂ L ∧ ReturnedEndW s o s₂ L C S
theorem GoesW.go (st : ∀ t, Steps p.tables e below U' t → Steps p.tables e below U t) (k : GoesW p e s below Q C S U') : GoesW p e s below Q C S U := by
  obtain ⟨s₂, o, h1, h2⟩ := k
  exact ⟨s₂, o, st _ h1, h2⟩
theorem GoesW.leave {n : Nat} {v : Option Value} (X : Stand p l e R (s.setVm vm0) m args below meth c T locs cells slots) (hS : s.Since vm0 n) (hn : n ≤ T.heap.size) (hlk : meth.locks = false) (hv : meth.sig.returnType = none → v = none) (hQ : ∀ V : State, V.heap = T.heap → V.vm = T.vm → Q v V locs) (hc : cells ≤ C) (hs : slots ≤ S)
    (st : ∀ fs, (∀ (f : JFrame) (acts : List Action), f.method = m → f.locked = none → f.entered = [] → (doReturn e (T.setTop f) acts v).1 = T.setFrames fs) → Steps p.tables e below U (T.setFrames fs)) : GoesW p e s below Q C S U := by
  obtain ⟨fs, hr, hrun, hended, h1, h2, h3, h4⟩ := X.leaveW hS hn (v := v) hv hlk
  exact ⟨_, _, st fs hr, hrun, hended, _, _, rfl, hQ _ rfl rfl, h1, h2, h3, h4.mono hc hs⟩
theorem GoesW.retA {n pc : Nat} {Ls : Array Slot} {v : Value} {t : FieldType} {rest : List Value} (X : Stand p l e R (s.setVm vm0) m args below meth c T locs cells slots) (hx : p.tables.exec = Jvm.exec) (hS : s.Since vm0 n) (hn : n ≤ T.heap.size) (hlk : meth.locks = false) (hret : meth.sig.returnType = some t) (ht : t.isReference = true) (hv : v.isRef = true) (hd : decode c.code pc = .ok (.areturn, 1)) (hc : cells ≤ C) (hs : slots ≤ S) (hQ : ∀ V : State, V.heap = T.heap → V.vm = T.vm → Q (some v) V locs) : GoesW p e s below Q C S (T.setTop (mkF m pc Ls (v :: rest))) :=
  GoesW.leave X hS hn hlk (fun h => by rw [hret] at h; cases h) hQ hc hs fun fs hr => retOut X hx hret (ownNarrow hv ht) (Or.inr (Or.inr (Or.inr (Or.inr ⟨rfl, ht, hv⟩)))) hd hr
theorem GoesW.retV {n pc : Nat} {Ls : Array Slot} (X : Stand p l e R (s.setVm vm0) m args below meth c T locs cells slots) (hx : p.tables.exec = Jvm.exec) (hS : s.Since vm0 n) (hn : n ≤ T.heap.size) (hlk : meth.locks = false) (hret : meth.sig.returnType = none) (hd : decode c.code pc = .ok (.return_, 1)) (hc : cells ≤ C) (hs : slots ≤ S) (hQ : ∀ V : State, V.heap = T.heap → V.vm = T.vm → Q none V locs) : GoesW p e s below Q C S (T.setTop (mkF m pc Ls [])) :=
  GoesW.leave X hS hn hlk (fun _ => rfl) hQ hc hs fun fs hr => X.returnOut hx hret hd hr
theorem GoesW.retB {n pc : Nat} {Ls : Array Slot} {z : Int32} {rest : List Value} (X : Stand p l e R (s.setVm vm0) m args below meth c T locs cells slots) (hx : p.tables.exec = Jvm.exec) (hS : s.Since vm0 n) (hn : n ≤ T.heap.size) (hlk : meth.locks = false) (hret : meth.sig.returnType = some .boolean) (hd : decode c.code pc = .ok (.ireturn, 1)) (hc : cells ≤ C) (hs : slots ≤ S) (hQ : ∀ V : State, V.heap = T.heap → V.vm = T.vm → Q (some (.int (nar .boolean z))) V locs) : GoesW p e s below Q C S (T.setTop (mkF m pc Ls (.int z :: rest))) :=
  GoesW.leave X hS hn hlk (fun h => by rw [hret] at h; cases h) hQ hc hs fun fs hr => retN X hx (t := .boolean) hret (by simp) hd hr
/-- a contract of a body that may intern: LI is what is known of the tables and the heap at its start -/
def PaysW (l : Launch) (Z : State) (y : MethodName) (bytes : ByteArray) (maxL : Nat) (ret : Option FieldType) (ws : List Jvm.Cond) (rm : Room) (as' : Array Value) (h : Heap) (LI : Vm → Heap → Prop) (Q : Option Value → State → List Loc → Prop) : Prop :=
  MetFree l y (head1 (Jvm.Cond.code y bytes maxL ret :: ws) rm) (fun a U => a = as' ∧ Z.Warmed39 U.vm ∧ U.heap = h ∧ LI U.vm U.heap) (fun _ _ _ _ _ => True) (fun _ U o U' => ∃ v L, o = .returned v ∧ Q v U' L ∧ ReturnedEndW U o U' L rm.cells rm.slots)
theorem PaysW.of {LI : Vm → Heap → Prop} {y : MethodName} {bytes : ByteArray} {maxL : Nat} {ret : Option FieldType} {ws : List Jvm.Cond} {rm : Room} {as' : Array Value} (hpl : plainFor y = true)
    (body : ∀ (p : Program) (e : Env) (s : State) (m : MethodId) (below : List Frame) (meth : Method) (c : Code) (s₁ : State), p.tables.exec = Jvm.exec → c.code = bytes → c.maxLocals = maxL → (s.setVm s.vm).vm.findClass y.cls = some m.cls → meth.name = y.name → meth.sig.returnType = ret → meth.locks = false → Z.Warmed39 (s.setVm s.vm).vm → s₁.heap = h → s.heap = h → LI (s.setVm s.vm).vm h → s.Since s.vm 0 → Stand p l e rm (s.setVm s.vm) m as' below meth c s₁ [] 0 0 → GoesW p e s below Q rm.cells rm.slots (s₁.setTop (entryFrame m as' maxL))) :
    PaysW l Z y bytes maxL ret ws rm as' h LI Q := by
  refine MetFree.of_bodySF hpl hisR ?_
  intro p e s m args below meth c s₁ Bd hml hP hK
  obtain ⟨rfl, hZ, hh, hLI⟩ := hP
  obtain ⟨s₂, o, h1, h2, h3, h4⟩ := body p e s m below meth c s₁ Bd.exec Bd.bytes hml (findClass_of_methodNamed Bd.named) (name_of_methodNamed Bd.named Bd.method).1 Bd.returns Bd.notSynchronized hZ (by rw [← hh, Bd.state]; rfl) hh (hh ▸ hLI) ((State.WarmedH.refl s).since 0) (Stand.of_body Bd)
  exact ⟨s₂, o, h1, h2, h3, h4⟩
theorem backW {LI : Vm → Heap → Prop} {y : MethodName} {bytes : ByteArray} {maxL : Nat} {ret : Option FieldType} {rm : Room} {len W : Nat} {as' : Array Value} (hM : PaysW l Z y bytes maxL ret [] rm as' h LI Q) (hZ : Z.Warmed39 s.vm) (wc : (Jvm.Cond.code y bytes maxL ret).before a0 Z = true) (wz : (Jvm.Cond.initialized y.cls).before a0 Z = true) (hf : rm.frames + 1 ≤ R.frames) (hl : W + (maxL + 11) + rm.locals ≤ R.locals) :
    BackS l R p e below s args y len W (fun A a => a = as' ∧ A.U.heap = h ∧ LI A.U.vm A.U.heap ∧ A.cells + rm.cells ≤ R.cells ∧ A.slots + rm.slots ≤ R.slots)
      (fun A _ v B => ∃ (L : List Loc) (V : State), V.heap = B.U.heap ∧ V.vm = B.U.vm ∧ Q v V L ∧ B.locs = A.locs ++ L ∧ B.cells = A.cells + rm.cells ∧ B.slots = A.slots + rm.slots) :=
  BackS.of_freeW (bytes := bytes) (maxL := maxL) (ret := ret) (E := fun _ _ o t L k n => k = rm.cells ∧ n = rm.slots ∧ ∃ v, o = .returned v ∧ Q v t L) hM hf hl
    (fun m meth c A a Y hp => have hU : Z.Warmed39 A.U.vm := wtrans hZ Y.warmed
      ⟨by show (Jvm.Cond.and _ .tt).before a A.U = true; rw [Cond.before_and, mv hU wc]; rfl, mv hU wc, mv hU wz, hp.2.2.2.1, hp.2.2.2.2⟩)
    (fun m meth c A a g mk Y hp => ⟨hp.1, wtrans hZ Y.warmed, hp.2.1, hp.2.2.1⟩) (fun _ _ _ _ _ _ _ _ _ => trivial)
    (fun _ _ _ _ ⟨v, L, h1, h2, h3⟩ => ⟨L, _, _, h3, rfl, rfl, v, h1, h2⟩)
    (fun m meth c A a g mk v t L k n Y hp _ _ ⟨e1, e2, v', e3, e4⟩ => by cases e3; subst e1 e2; exact ⟨L, t, rfl, rfl, e4, rfl, rfl, rfl⟩)
theorem callStaticW {LI : Vm → Heap → Prop} (X : Stand p l e R (s.setVm vm0) m args below meth c T locs cells slots) (hx : p.tables.exec = Jvm.exec) (hZ : Z.Warmed39 (s.setVm vm0).vm) {own : String} {index : Nat} {y : MethodName} {bytes : ByteArray} {maxL W k0 : Nat} {ret : Option FieldType} {rm : Room} {as' : Array Value}
    (hown : (s.setVm vm0).vm.findClass own = some m.cls) (w1 : (Jvm.Cond.methodLink own index y).before a0 Z = true) (w2 : (Jvm.Cond.static y).before a0 Z = true) (w3 : (Jvm.Cond.initialized y.cls).before a0 Z = true) (w4 : (Jvm.Cond.code y bytes maxL ret).before a0 Z = true) (hy : y.cls ≠ "java/lang/invoke/MethodHandle" ∧ y.cls ≠ "java/lang/invoke/VarHandle")
    (M : PaysW l Z y bytes maxL ret [] rm as' h LI Q) (hf : rm.frames + 1 ≤ R.frames) (hl : W + (maxL + 11) + rm.locals ≤ R.locals) (hc : cells + rm.cells ≤ R.cells) (hs : slots + rm.slots ≤ R.slots) (eT : T.heap = h) (hLI : ∀ vm₁, (s.setVm vm0).WarmedH vm₁ → LI vm₁ h) (hS : s.Since vm0 k0) (hk : k0 ≤ h.size)
    {g : JFrame} (hg : g.method = m) (hsize : g.locals.size = c.maxLocals) {argsL rest : List Value} (hlen : ∀ sig, parseMethodDescriptor y.desc = some sig → argsL.length = sig.parameters.length) (hstack : g.stack = argsL.reverse ++ rest) (has : argsL.toArray = as') (hW : 2 * g.monitorRoom + (rest.map fun v => v.category).sum ≤ W) (hdg : decode c.code g.pc = .ok (.invokestatic index, 3)) :
    ∃ (v : Option Value) (T' V : State) (L : List Loc), Stand p l e R (s.setVm T'.vm) m args below meth c T' (locs ++ L) (cells + rm.cells) (slots + rm.slots) ∧ V.heap = T'.heap ∧ V.vm = T'.vm ∧ Q v V L ∧ s.Since T'.vm T'.heap.size ∧ Z.Warmed39 (s.setVm T'.vm).vm ∧ (s.setVm T'.vm).vm.findClass own = some m.cls ∧ ∀ t, Steps p.tables e below (T'.setTop { g with pc := g.pc + 3, stack := v.toList ++ rest }) t → Steps p.tables e below (T.setTop g) t := by
  obtain ⟨v, vm1, ⟨T', L', k', n'⟩, -, X', h2, hgr, ⟨Lc, V, v1, v2, hQ, l1, y1, z1⟩, st⟩ := callSS X hx (y := y) hown (mvT hZ w1) (mvT hZ w2) (mvT hZ w3) (mvT hZ w4) hy (backW (W := W) M hZ w4 w3 hf hl) hg hsize (argsL := argsL) (rest := rest) hlen hstack hW hdg (fun vm1 q => ⟨has, eT, by show LI vm1 T.heap; rw [eT]; exact hLI vm1 q, hc, hs⟩)
  dsimp only [Pt.U, Pt.locs, Pt.cells, Pt.slots] at X' l1 y1 z1 st hQ h2 hgr v1 v2
  subst l1 y1 z1
  obtain ⟨r1, r2, r3, r4⟩ := rebS (n1 := h.size) hS hk X' h2 (by rw [← eT]; exact hgr) hZ hown
  exact ⟨v, T', V, Lc, r1, v1, v2, hQ, r2, r3, r4, fun t k => st.trans k⟩
theorem callInitW {LI : Vm → Heap → Prop} (X : Stand p l e R (s.setVm vm0) m args below meth c T locs cells slots) (hx : p.tables.exec = Jvm.exec) (hZ : Z.Warmed39 (s.setVm vm0).vm) {own : String} {index : Nat} {y : MethodName} {bytes : ByteArray} {maxL W k0 : Nat} {rm : Room} {as' : Array Value}
    (hy1 : y.name = "<init>") (hown : (s.setVm vm0).vm.findClass own = some m.cls) (w1 : (Jvm.Cond.methodLink own index y).before a0 Z = true) (w5 : (Jvm.Cond.instanceMethod y).before a0 Z = true) (w6 : (Jvm.Cond.initialized y.cls).before a0 Z = true) (w4 : (Jvm.Cond.code y bytes maxL none).before a0 Z = true) (hy : y.cls ≠ "java/lang/invoke/MethodHandle" ∧ y.cls ≠ "java/lang/invoke/VarHandle")
    (M : PaysW l Z y bytes maxL none [] rm as' h LI Q) (hf : rm.frames + 1 ≤ R.frames) (hl : W + (maxL + 11) + rm.locals ≤ R.locals) (hc : cells + rm.cells ≤ R.cells) (hs : slots + rm.slots ≤ R.slots) (eT : T.heap = h) (hLI : ∀ vm₁, (s.setVm vm0).WarmedH vm₁ → LI vm₁ h) (hS : s.Since vm0 k0) (hk : k0 ≤ h.size) {b : Addr}
    {g : JFrame} (hg : g.method = m) (hsize : g.locals.size = c.maxLocals) {argsL rest : List Value} (hlen : ∀ sig, parseMethodDescriptor y.desc = some sig → argsL.length = sig.parameters.length) (hstack : g.stack = argsL.reverse ++ .ref b :: rest) (has : (.ref b :: argsL).toArray = as') (hW : 2 * g.monitorRoom + (rest.map fun v => v.category).sum ≤ W) (hdg : decode c.code g.pc = .ok (.invokespecial index, 3)) :
    ∃ (v : Option Value) (T' V : State) (L : List Loc), Stand p l e R (s.setVm T'.vm) m args below meth c T' (locs ++ L) (cells + rm.cells) (slots + rm.slots) ∧ V.heap = T'.heap ∧ V.vm = T'.vm ∧ Q v V L ∧ s.Since T'.vm T'.heap.size ∧ Z.Warmed39 (s.setVm T'.vm).vm ∧ (s.setVm T'.vm).vm.findClass own = some m.cls ∧ ∀ t, Steps p.tables e below (T'.setTop { g with pc := g.pc + 3, stack := v.toList ++ rest }) t → Steps p.tables e below (T.setTop g) t := by
  obtain ⟨v, vm1, ⟨T', L', k', n'⟩, -, X', h2, hgr, ⟨Lc, V, v1, v2, hQ, l1, y1, z1⟩, st⟩ := X.specialBackS hx (y := y) hy1 hown (mvT hZ w1) (mvT hZ w5) (mvT hZ w4) hy (backW (W := W) M hZ w4 w6 hf hl) hg hsize (Steps.refl _) (a := b) (argsL := argsL) (rest := rest) hlen hstack hW hdg (fun vm1 q => ⟨has, eT, by show LI vm1 T.heap; rw [eT]; exact hLI vm1 q, hc, hs⟩)
  dsimp only [Pt.U, Pt.locs, Pt.cells, Pt.slots] at X' l1 y1 z1 st hQ h2 hgr v1 v2
  subst l1 y1 z1
  obtain ⟨r1, r2, r3, r4⟩ := rebS (n1 := h.size) hS hk X' h2 (by rw [← eT]; exact hgr) hZ hown
  exact ⟨v, T', V, Lc, r1, v1, v2, hQ, r2, r3, r4, fun t k => st.trans k⟩
def EL1 : List (String × Nat) := [("com/example/dead_letter_replay/deadletterreplay/page/Html", 93), ("com/example/dead_letter_replay/deadletterreplay/page/HtmlEndPinLaw", 28)]
/-- the text's two entries: what is booked of them at the start is a String of that text -/
def LIv (Z : State) (vm : Vm) (h : Heap) : Prop := CHv Z EL1 vm Z.heap
theorem LIv.warm (hZ : Z.Warmed39 vm0) (hw : EW Z a0 EL1) (F : CHv Z EL1 vm0 Z.heap) (hW : (s.setVm vm0).WarmedH vm1) : CHv Z EL1 vm1 Z.heap := (CHv.later (h' := Z.heap) hZ (show (Wst Z vm0 Z.heap).Warmed39 vm1 from hW.wide) hw ⟨Nat.le_refl _, fun _ _ q => q⟩ (Or.inl hW.interned_eq) F).1
end OwnCold
end Jvm.RoadKit
namespace Jvm.RoadKit
open Sem ClassFile Op Lib Jvm.Stand Jvm.Free Jvm.LawKit
section OwnHtml
variable {p : Program} {l : Launch} {e : Env} {R : Room} {s : State} {m : MethodId} {args : Array Value} {below : List Frame} {meth : Method} {c : Code} {T : State} {locs : List Loc} {cells slots : Nat} {Z : State} {a0 : Array Value} {h h' : Heap} {Q : Option Value → Heap → List Loc → Prop}
/-- the class of a method that some call selects is no interface: so none of its methods is one's -/
theorem faceOf {K : String} {y z x : MethodName} (w : (Jvm.Cond.selects K y z).before args s = true) (hc : z.cls = x.cls) : NotFace s x := fun r0 hn => by
  obtain ⟨c2, r2, m2, -, -, q3, -, kP, hkP, hkPi⟩ := Cond.selects_spec w
  have e1 := findClass_of_methodNamed q3
  have e2 := findClass_of_methodNamed hn
  rw [hc] at e1
  have e3 : r0.cls = m2.cls := Option.some.inj (e2.symm.trans e1)
  exact ⟨kP, by rw [e3]; exact hkP, hkPi⟩
theorem sameOf {K : String} {y z x : MethodName} (w : (Jvm.Cond.selects K y z).before a0 Z = true) (hc : z.cls = x.cls) (wi : (Jvm.Cond.instanceMethod x).before a0 Z = true) (hx : x.cls ≠ "java/lang/invoke/MethodHandle" ∧ x.cls ≠ "java/lang/invoke/VarHandle") : (Jvm.Cond.sameMethod x.cls x.cls x.name x.desc).before a0 Z = true := by
  obtain ⟨mk, methM, hnamed, hmethM, -, -⟩ := Cond.instanceMethod_spec wi
  have hf := State.methodFound?_of_named hnamed hx
  obtain ⟨kr, hkr, hni⟩ := faceOf w hc mk hnamed
  have hcn := findClass_of_methodNamed hnamed
  have hn' : Z.methodNamed? ⟨x.cls, x.name, x.desc⟩ = some mk := hnamed
  simp [Jvm.Cond.before, Jvm.Cond.holds, Jvm.Cond.value, hcn, hf, hn', hkr, hni]
theorem callSuper (X : Stand p l e R s m args below meth c T locs cells slots) (hx : p.tables.exec = Jvm.exec) (hZ : Z.Warmed39 s.vm) {own K : String} {index : Nat} {y : MethodName} {bytes : ByteArray} {maxL W : Nat} {ret : Option FieldType} {rm : Room} {as' : Array Value}
    (hn : y.name ≠ "<init>") (hown : s.vm.findClass own = some m.cls) (w1 : (Jvm.Cond.methodLink own index y).before a0 Z = true) (wm : (Jvm.Cond.sameMethod y.cls y.cls y.name y.desc).before a0 Z = true) (w5 : (Jvm.Cond.instanceMethod y).before a0 Z = true) (ws : (Jvm.Cond.superclass own y.cls).before a0 Z = true) (w6 : (Jvm.Cond.initialized y.cls).before a0 Z = true) (w4 : (Jvm.Cond.code y bytes maxL ret).before a0 Z = true)
    (M : Pays l Z y bytes maxL ret [] rm as' h Q) (hf : rm.frames + 1 ≤ R.frames) (hl : W + (maxL + 11) + rm.locals ≤ R.locals) (hc : cells + rm.cells ≤ R.cells) (hs : slots + rm.slots ≤ R.slots) (eT : T.heap = h) {b : Addr} (I : Ins Z h b K true)
    {g : JFrame} (hg : g.method = m) (hsize : g.locals.size = c.maxLocals) {argsL rest : List Value} (hlen : ∀ sig, parseMethodDescriptor y.desc = some sig → argsL.length = sig.parameters.length) (hstack : g.stack = argsL.reverse ++ .ref b :: rest) (has : (.ref b :: argsL).toArray = as') (hW : 2 * g.monitorRoom + (rest.map fun v => v.category).sum ≤ W) (hdg : decode c.code g.pc = .ok (.invokespecial index, 3)) :
    ∃ (v : Option Value) (T' : State) (L : List Loc), Stand p l e R s m args below meth c T' (locs ++ L) (cells + rm.cells) (slots + rm.slots) ∧ Q v T'.heap L ∧ ∀ t, Steps p.tables e below (T'.setTop { g with pc := g.pc + 3, stack := v.toList ++ rest }) t → Steps p.tables e below (T.setTop g) t := by
  obtain ⟨v, vm1, ⟨T', L', k', n'⟩, -, X', ⟨Lc, hQ, l1, y1, z1⟩, st⟩ := superBack X hx hZ (y := y) hown w1 wm w5 ws hn (backOf (W := W) M hZ w4 w6 hf hl) eT I hg hsize w4 (argsL := argsL) (rest := rest) hlen hstack hW hdg (fun _ _ => ⟨has, eT, hc, hs⟩)
  dsimp only [Pt.U, Pt.locs, Pt.cells, Pt.slots] at X' l1 y1 z1 st hQ
  subst l1 y1 z1
  exact ⟨v, T', Lc, X', hQ, fun t k => st.trans k⟩
theorem callPrivSel (X : Stand p l e R s m args below meth c T locs cells slots) (hx : p.tables.exec = Jvm.exec) (hZ : Z.Warmed39 s.vm) {own K K' : String} {index : Nat} {y : MethodName} {bytes : ByteArray} {maxL W : Nat} {ret : Option FieldType} {rm : Room} {as' : Array Value}
    (hown : s.vm.findClass own = some m.cls) (w1 : (Jvm.Cond.methodLink own index y).before a0 Z = true) (w5 : (Jvm.Cond.instanceMethod y).before a0 Z = true) (wp : (Jvm.Cond.privateMethod y).before a0 Z = true) (wl : (Jvm.Cond.selects K' y y).before a0 Z = true) (w6 : (Jvm.Cond.initialized y.cls).before a0 Z = true) (w4 : (Jvm.Cond.code y bytes maxL ret).before a0 Z = true) (hy : y.cls ≠ "java/lang/invoke/MethodHandle" ∧ y.cls ≠ "java/lang/invoke/VarHandle")
    (M : Pays l Z y bytes maxL ret [] rm as' h Q) (hf : rm.frames + 1 ≤ R.frames) (hl : W + (maxL + 11) + rm.locals ≤ R.locals) (hc : cells + rm.cells ≤ R.cells) (hs : slots + rm.slots ≤ R.slots) (eT : T.heap = h) {b : Addr} (E : Exa Z h b K)
    {g : JFrame} (hg : g.method = m) (hsize : g.locals.size = c.maxLocals) {argsL rest : List Value} (hlen : ∀ sig, parseMethodDescriptor y.desc = some sig → argsL.length = sig.parameters.length) (hstack : g.stack = argsL.reverse ++ .ref b :: rest) (has : (.ref b :: argsL).toArray = as') (hW : 2 * g.monitorRoom + (rest.map fun v => v.category).sum ≤ W) (hdg : decode c.code g.pc = .ok (.invokevirtual index, 3)) :
    ∃ (v : Option Value) (T' : State) (L : List Loc), Stand p l e R s m args below meth c T' (locs ++ L) (cells + rm.cells) (slots + rm.slots) ∧ Q v T'.heap L ∧ ∀ t, Steps p.tables e below (T'.setTop { g with pc := g.pc + 3, stack := v.toList ++ rest }) t → Steps p.tables e below (T.setTop g) t := by
  obtain ⟨c2, r2, m2, -, -, q3, -, kP, hkP, hkPi⟩ := Cond.selects_spec (mvT (args := args) hZ wl)
  have hpr := Cond.privateMethod_at (mvP (args := #[]) hZ wp)
  obtain ⟨cell, c1, c2⟩ := E.cell
  obtain ⟨v, vm1, ⟨T', L', k', n'⟩, -, X', ⟨Lc, hQ, l1, y1, z1⟩, st⟩ := X.privateBack hx (y := y) hown (mvT hZ w1) (mvT hZ w5) (selects_self_of_private (findClass_of_methodNamed q3) hkP hkPi hpr (mvT hZ w5) hy) hpr (mvT hZ w4) hy (backOf (W := W) M hZ w4 w6 hf hl) hg hsize (Steps.refl _) (a := b) (cell := cell) (by rw [eT]; exact c1) c2 (argsL := argsL) (rest := rest) hlen hstack hW hdg (fun _ _ => ⟨has, eT, hc, hs⟩)
  dsimp only [Pt.U, Pt.locs, Pt.cells, Pt.slots] at X' l1 y1 z1 st hQ
  subst l1 y1 z1
  exact ⟨v, T', Lc, X', hQ, fun t k => st.trans k⟩
theorem callVirtualW {vm0 : Vm} {Q : Option Value → State → List Loc → Prop} {LI : Vm → Heap → Prop} (X : Stand p l e R (s.setVm vm0) m args below meth c T locs cells slots) (hx : p.tables.exec = Jvm.exec) (hZ : Z.Warmed39 (s.setVm vm0).vm) {own K : String} {index : Nat} {y z : MethodName} {bytes : ByteArray} {maxL W k0 : Nat} {ret : Option FieldType} {rm : Room} {as' : Array Value}
    (hown : (s.setVm vm0).vm.findClass own = some m.cls) (w1 : (Jvm.Cond.methodLink own index y).before a0 Z = true) (w2 : (Jvm.Cond.declares y).before a0 Z = true) (nf : NotFace (s.setVm vm0) y) (w3 : (Jvm.Cond.selects K y z).before a0 Z = true) (w5 : (Jvm.Cond.instanceMethod z).before a0 Z = true) (w6 : (Jvm.Cond.initialized z.cls).before a0 Z = true) (w4 : (Jvm.Cond.code z bytes maxL ret).before a0 Z = true) (hy : y.cls ≠ "java/lang/invoke/MethodHandle" ∧ y.cls ≠ "java/lang/invoke/VarHandle")
    (M : PaysW l Z z bytes maxL ret [] rm as' h LI Q) (hf : rm.frames + 1 ≤ R.frames) (hl : W + (maxL + 11) + rm.locals ≤ R.locals) (hc : cells + rm.cells ≤ R.cells) (hs : slots + rm.slots ≤ R.slots) (eT : T.heap = h) (hLI : ∀ vm₁, (s.setVm vm0).WarmedH vm₁ → LI vm₁ h) (hS : s.Since vm0 k0) (hk : k0 ≤ h.size) {b : Addr} (E : Exa Z h b K)
    {g : JFrame} (hg : g.method = m) (hsize : g.locals.size = c.maxLocals) {argsL rest : List Value} (hlen : ∀ sig, parseMethodDescriptor y.desc = some sig → argsL.length = sig.parameters.length) (hstack : g.stack = argsL.reverse ++ .ref b :: rest) (has : (.ref b :: argsL).toArray = as') (hW : 2 * g.monitorRoom + (rest.map fun v => v.category).sum ≤ W) (hdg : decode c.code g.pc = .ok (.invokevirtual index, 3)) :
    ∃ (v : Option Value) (T' V : State) (L : List Loc), Stand p l e R (s.setVm T'.vm) m args below meth c T' (locs ++ L) (cells + rm.cells) (slots + rm.slots) ∧ V.heap = T'.heap ∧ V.vm = T'.vm ∧ Q v V L ∧ s.Since T'.vm T'.heap.size ∧ Z.Warmed39 (s.setVm T'.vm).vm ∧ (s.setVm T'.vm).vm.findClass own = some m.cls ∧ ∀ t, Steps p.tables e below (T'.setTop { g with pc := g.pc + 3, stack := v.toList ++ rest }) t → Steps p.tables e below (T.setTop g) t := by
  obtain ⟨cq, kq, qa, -, qc⟩ := isOf (T := T) hZ eT E
  obtain ⟨v, vm1, ⟨T', L', k', n'⟩, -, X', h2, hgr, ⟨Lc, V, v1, v2, hQ, l1, y1, z1⟩, st⟩ := X.virtualBackS hx (y := y) (z := z) hown (mvT hZ w1) (mvT hZ w2) nf (mvT hZ w3) (mvT hZ w5) hy (backW (W := W) M hZ w4 w6 hf hl) qa qc hg hsize (Steps.refl _) (argsL := argsL) (rest := rest) hlen hstack hW hdg (fun vm1 q => ⟨has, eT, by show LI vm1 T.heap; rw [eT]; exact hLI vm1 q, hc, hs⟩)
  dsimp only [Pt.U, Pt.locs, Pt.cells, Pt.slots] at X' l1 y1 z1 st hQ h2 hgr v1 v2
  subst l1 y1 z1
  obtain ⟨r1, r2, r3, r4⟩ := rebS (n1 := h.size) hS hk X' h2 (by rw [← eT]; exact hgr) hZ hown
  exact ⟨v, T', V, Lc, r1, v1, v2, hQ, r2, r3, r4, fun t k => st.trans k⟩
end OwnHtml
section OwnBytes
variable {Z : State} {h h' : Heap} {a b : Addr} {k : ClassId} {ty : FieldType} {z j : Int32} {vs vs' : List Value} {dv v : Value}
theorem Arv.len {n n' : Int32} (V : Arv Z h a k ty n vs dv) (q : n = n') : Arv Z h a k ty n' vs dv := q ▸ V
theorem Arv.list (V : Arv Z h a k ty z vs dv) (q : vs = vs') : Arv Z h a k ty z vs' dv := q ▸ V
theorem Arv.snoc {c : Cell} (A : Arr Z h a c ty) (q1 : c.cls = k) (S : c.slots.size = z.toNatClampNeg) (q3 : ¬ z < 0) (H : Has c vs dv) (G : ∀ i, i < c.slots.size → fits ty (vs.getD i dv) = true) (hv : fits ty v = true) (W : Wr h h' a j.toNatClampNeg v) (hj : j.toNatClampNeg = vs.length) : Arv Z h' a k ty z (vs ++ [v]) dv := by
  have e : ∀ i, (vs ++ [dv]).getD i dv = vs.getD i dv := pad_rep vs dv 1
  have r := Arv.set A q1 S q3 (vs := vs ++ [dv]) (fun i hi => by rw [e]; exact H i hi) (fun i hi => by rw [e]; exact G i hi) hv W vs.length hj (by simp)
  have q : (vs ++ [dv]).set vs.length v = vs ++ [v] := by simp [List.set_append]
  rw [q] at r; exact r
theorem inN {c : Cell} {t : Nat} (S : c.slots.size = z.toNatClampNeg) (q0 : ¬ j < 0) (q1 : j.toNatClampNeg = t) (q2 : t < z.toNatClampNeg) : ¬ (j < 0 ∨ c.slots.size ≤ j.toNatClampNeg) := by
  rw [S, q1]; rintro (q | q)
  · exact q0 q
  · omega
theorem splice (vs vd r : List Value) (dv : Value) (sp dp nn : Nat) (hr : ∀ j, r.getD j dv = if dp ≤ j ∧ j < dp + nn then vs.getD (sp + (j - dp)) dv else vd.getD j dv) :
    ∀ j, r.getD j dv = ((vd ++ List.replicate (dp + nn) dv).take dp ++ ((List.range nn).map fun i => vs.getD (sp + i) dv) ++ (vd ++ List.replicate (dp + nn) dv).drop (dp + nn)).getD j dv := fun j => by
  have lt : ((vd ++ List.replicate (dp + nn) dv).take dp).length = dp := by simp; omega
  have lu : ((List.range nn).map fun i => vs.getD (sp + i) dv).length = nn := by simp
  rw [hr j, ← pad_rep vd dv (dp + nn) j]
  generalize vd ++ List.replicate (dp + nn) dv = w at lt ⊢
  simp only [List.getD_eq_getElem?_getD] at lu ⊢
  by_cases c1 : j < dp
  · rw [if_neg (by omega), List.append_assoc, List.getElem?_append_left (by omega), List.getElem?_take_of_lt c1]
  · by_cases c2 : j < dp + nn
    · rw [if_pos ⟨by omega, c2⟩, List.getElem?_append_left (by rw [List.length_append]; omega), List.getElem?_append_right (by omega), lt]
      simp [show j - dp < nn by omega]
    · rw [if_neg (by omega), List.getElem?_append_right (by rw [List.length_append]; omega), List.length_append, lt, lu, List.getElem?_drop, show dp + nn + (j - (dp + nn)) = j by omega]
theorem spl0 {nn : Int32} (hl : vs.length ≤ nn.toNatClampNeg) : ∀ j, vs.getD j dv = if (0 : Int32).toNatClampNeg ≤ j ∧ j < (0 : Int32).toNatClampNeg + nn.toNatClampNeg then vs.getD ((0 : Int32).toNatClampNeg + (j - (0 : Int32).toNatClampNeg)) dv else ([] : List Value).getD j dv := fun j => by
  have z0 : (0 : Int32).toNatClampNeg = 0 := rfl
  rw [z0]
  by_cases c : j < nn.toNatClampNeg
  · rw [if_pos ⟨by omega, by omega⟩]; simp
  · rw [if_neg (by omega)]; simp only [List.getD_eq_getElem?_getD]; rw [List.getElem?_eq_none (by omega)]; simp
theorem splApp {vd us : List Value} {dp nn : Int32} (h1 : dp.toNatClampNeg = vd.length) (h2 : nn.toNatClampNeg = us.length) : ∀ j, (vd ++ us).getD j dv = if dp.toNatClampNeg ≤ j ∧ j < dp.toNatClampNeg + nn.toNatClampNeg then us.getD ((0 : Int32).toNatClampNeg + (j - dp.toNatClampNeg)) dv else vd.getD j dv := fun j => by
  have z0 : (0 : Int32).toNatClampNeg = 0 := rfl
  rw [z0, h1, h2]
  simp only [List.getD_eq_getElem?_getD]
  by_cases c : j < vd.length
  · rw [if_neg (by omega), List.getElem?_append_left c]
  · rw [List.getElem?_append_right (by omega)]
    by_cases c2 : j < vd.length + us.length
    · rw [if_pos ⟨by omega, c2⟩, Nat.zero_add]
    · rw [if_neg (by omega), List.getElem?_eq_none (by omega), List.getElem?_eq_none (by omega)]
variable {p : Program} {l : Launch} {e : Env} {R : Room} {s : State} {m : MethodId} {args : Array Value} {below : List Frame} {meth : Method} {c : Code} {T : State} {locs : List Loc} {cells slots : Nat}
theorem cpB (X : Stand p l e R s m args below meth c T locs cells slots) (hx : p.tables.exec = Jvm.exec) (hZ : Z.Warmed39 s.vm) {a0 : Array Value} {own : String} {index : Nat} (hown : s.vm.findClass own = some m.cls)
    (w1 : (Jvm.Cond.methodLink own index Jvm.Stand.acN).before a0 Z = true) (w2 : (Jvm.Cond.native Jvm.Stand.acN).before a0 Z = true) (w3 : (Jvm.Cond.static Jvm.Stand.acN).before a0 Z = true) (w4 : (Jvm.Cond.initialized "java/lang/System").before a0 Z = true) (eT : T.heap = h)
    {k' : ClassId} {z' sp dp nn : Int32} {vd r : List Value} (A : Arv Z h a k .byte z vs dv) (B : Arv Z h b k' .byte z' vd dv)
    (h1 : ¬ sp < 0) (h2 : ¬ dp < 0) (h3 : ¬ nn < 0) (h4 : sp.toNatClampNeg + nn.toNatClampNeg ≤ z.toNatClampNeg) (h5 : dp.toNatClampNeg + nn.toNatClampNeg ≤ z'.toNatClampNeg)
    (hr : ∀ j, r.getD j dv = if dp.toNatClampNeg ≤ j ∧ j < dp.toNatClampNeg + nn.toNatClampNeg then vs.getD (sp.toNatClampNeg + (j - dp.toNatClampNeg)) dv else vd.getD j dv) {n0 : Nat} (N : Fr n0 locs) (ge : n0 ≤ b)
    {g : JFrame} (hg : g.method = m) (hsize : g.locals.size = c.maxLocals) {rest : List Value} (hs : g.stack = .int nn :: .int dp :: .ref b :: .int sp :: .ref a :: rest) (hd : decode c.code g.pc = .ok (.invokestatic index, 3))
    (hf : 1 ≤ R.frames) {W : Nat} (hW : 2 * g.monitorRoom + (rest.map fun v => v.category).sum ≤ W) (hlo : W + (nativeFrameWords "java/lang/System" "arraycopy" 5 + 11) ≤ R.locals) :
    ∃ T' h' L, Stand p l e R s m args below meth c T' L cells slots ∧ T'.heap = h' ∧ Fr n0 L ∧ Keep h h' [b] ∧ Arv Z h' b k' .byte z' r dv ∧
      ∀ target, Steps p.tables e below (T'.setTop { g with pc := g.pc + 3, stack := rest }) target → Steps p.tables e below (T.setTop g) target := by
  obtain ⟨T', h', L, q1, q2, q3, q4, q5, q6⟩ := cpA X hx hZ hown w1 w2 w3 w4 eT A (B.pad (pad_rep vd dv (dp.toNatClampNeg + nn.toNatClampNeg))) (Or.inl ⟨rfl, rfl⟩) h1 h2 h3 h4 h5 rfl (by simp) N ge hg hsize hs hd hf hW hlo
  exact ⟨T', h', L, q1, q2, q3, q4, q5.pad (splice vs vd r dv _ _ _ hr), q6⟩
end OwnBytes
section OwnChars
/-- a small length -/
def Sz (z : Int32) (n : Nat) : Prop := z = Int32.ofNat n ∧ n < 64
def Lc (c : Int32) : Prop := ∃ n : Fin 256, c = Int32.ofNat n.val
def Ch (c : Int32) : Prop := ∃ a b : Fin 256, c = Int32.ofNat (256 * a.val + b.val)
def L1 (cs : List Int32) : List Value := cs.map fun c => .int c.toInt8.toInt32
def U2 : List Int32 → List Value
  | [] => []
  | c :: r => .int c.toInt8.toInt32 :: .int (c >>> 8).toInt8.toInt32 :: U2 r
theorem L1_app (xs ys : List Int32) : L1 (xs ++ ys) = L1 xs ++ L1 ys := by simp [L1]
theorem L1_len (xs : List Int32) : (L1 xs).length = xs.length := by simp [L1]
theorem U2_app : ∀ (xs ys : List Int32), U2 (xs ++ ys) = U2 xs ++ U2 ys
  | [], _ => rfl
  | x :: r, ys => by show _ :: _ :: U2 (r ++ ys) = _; rw [U2_app r ys]; rfl
theorem U2_len : ∀ (xs : List Int32), (U2 xs).length = 2 * xs.length
  | [] => rfl
  | x :: r => by show (U2 r).length + 1 + 1 = 2 * (r.length + 1); rw [U2_len r]; omega
theorem L1_at {cs : List Int32} {n : Nat} {c : Int32} {dv : Value} (q : cs[n]? = some c) : (L1 cs).getD n dv = .int c.toInt8.toInt32 := by simp [L1, List.getD_eq_getElem?_getD, q]
theorem U2_at {dv : Value} : ∀ {cs : List Int32} {n : Nat} {c : Int32}, cs[n]? = some c → (U2 cs).getD (2 * n) dv = .int c.toInt8.toInt32 ∧ (U2 cs).getD (2 * n + 1) dv = .int (c >>> 8).toInt8.toInt32
  | [], _, _, q => by simp at q
  | x :: r, 0, c, q => by simp at q; subst q; exact ⟨rfl, rfl⟩
  | x :: r, n + 1, c, q => U2_at (cs := r) (n := n) (c := c) (by simpa using q)
theorem b8 (x : Int32) : x.toInt8.toInt32.toInt8.toInt32 = x.toInt8.toInt32 := by simp
theorem shr0 (x : Int32) : x >>> ((0 : Int32) &&& 31) = x := by simp
theorem U2_put (zs : List Int32) (c : Int32) : ((U2 zs ++ [.int ((c >>> ((0 : Int32) &&& 31)).toInt8.toInt32).toInt8.toInt32]) ++ [.int ((c >>> ((8 : Int32) &&& 31)).toInt8.toInt32).toInt8.toInt32]) = U2 (zs ++ [c]) := by
  rw [b8, b8, shr0, show ((8 : Int32) &&& 31) = 8 from by decide, U2_app, List.append_assoc]; rfl
theorem lc_and : ∀ n : Fin 256, ((Int32.ofNat n.val).toInt8.toInt32 &&& (255 : Int32)) = Int32.ofNat n.val := by decide +kernel
theorem lc_chr : ∀ n : Fin 256, nar .char (((Int32.ofNat n.val).toInt8.toInt32 &&& (255 : Int32)).toUInt32.toUInt16.toUInt32.toInt32) = Int32.ofNat n.val := by decide +kernel
theorem Lc.and {c : Int32} (q : Lc c) : (c.toInt8.toInt32 &&& (255 : Int32)) = c := by obtain ⟨n, rfl⟩ := q; exact lc_and n
theorem Lc.chr {c : Int32} (q : Lc c) : nar .char ((c.toInt8.toInt32 &&& (255 : Int32)).toUInt32.toUInt16.toUInt32.toInt32) = c := by obtain ⟨n, rfl⟩ := q; exact lc_chr n
theorem Lc.ch {c : Int32} (q : Lc c) : Ch c := by obtain ⟨n, rfl⟩ := q; exact ⟨⟨0, by decide⟩, n, by simp⟩
theorem bits8 (v : BitVec 32) (hv : v.toNat < 65536) : ((((v.setWidth 8).signExtend 32 &&& 255#32) ||| ((((v.sshiftRight 8).setWidth 8).signExtend 32 &&& 255#32) <<< 8))) = v := by
  apply BitVec.eq_of_getLsbD_eq
  intro i hi
  have hb : ∀ j, 16 ≤ j → v.getLsbD j = false := fun j hj => by
    rw [BitVec.getLsbD]; exact Nat.testBit_lt_two_pow (Nat.lt_of_lt_of_le hv (by have := Nat.pow_le_pow_right (n := 2) (by decide) hj; simpa using this))
  have h255 : ∀ j, j < 8 → (255#32).getLsbD j = true := by decide
  have h256 : ∀ j, 8 ≤ j → (255#32).getLsbD j = false := fun j h1 => by
    rw [BitVec.getLsbD]; exact Nat.testBit_lt_two_pow (Nat.lt_of_lt_of_le (show (255#32).toNat < 2 ^ 8 by decide) (Nat.pow_le_pow_right (by decide) h1))
  simp only [BitVec.getLsbD_or, BitVec.getLsbD_and, BitVec.getLsbD_signExtend, BitVec.getLsbD_shiftLeft]
  by_cases c1 : i < 8
  · rw [h255 i c1]; simp only [c1, hi, decide_true, if_true, BitVec.getLsbD_setWidth, Bool.true_and, Bool.and_true, Bool.not_true, Bool.false_and, Bool.and_false, Bool.or_false]
  · rw [h256 i (by omega)]
    by_cases c2 : i < 16
    · rw [h255 (i - 8) (by omega)]
      have c3 : i - 8 < 8 := by omega
      have e : 8 + (i - 8) = i := by omega
      simp only [c1, c3, hi, show i - 8 < 32 by omega, decide_true, decide_false, if_true, BitVec.getLsbD_setWidth, BitVec.getLsbD_sshiftRight, e, Bool.true_and, Bool.and_true, Bool.not_false, Bool.false_and, Bool.and_false, Bool.false_or]
      have : i - 8 < 32 := by omega
      simp [hi, this]
    · rw [h256 (i - 8) (by omega), hb i (by omega)]
      simp
theorem ch_all (c : Int32) (hc : c.toBitVec.toNat < 65536) : ((c.toInt8.toInt32 &&& (255 : Int32)) <<< ((0 : Int32) &&& 31)) ||| (((c >>> 8).toInt8.toInt32 &&& (255 : Int32)) <<< ((8 : Int32) &&& 31)) = c := by
  apply Int32.toBitVec_inj.mp
  have h := bits8 c.toBitVec hc
  rw [show ((0 : Int32) &&& 31) = 0 from by decide, show ((8 : Int32) &&& 31) = 8 from by decide]
  have e1 : (c >>> 8).toBitVec = c.toBitVec.sshiftRight 8 := rfl
  have e2 : ∀ y : Int32, (y <<< 8).toBitVec = y.toBitVec <<< 8 := fun y => rfl
  have e3 : ∀ y : Int32, (y <<< 0).toBitVec = y.toBitVec := fun y => by simp
  have e4 : ∀ y : Int32, (y.toInt8.toInt32 &&& (255 : Int32)).toBitVec = (y.toBitVec.setWidth 8).signExtend 32 &&& 255#32 := fun y => by simp [BitVec.signExtend_eq_setWidth_of_le]
  rw [Int32.toBitVec_or, e3, e2, e4, e4, e1]
  exact h
theorem Ch.lt {c : Int32} (q : Ch c) : c.toBitVec.toNat < 65536 := by
  obtain ⟨a, b, rfl⟩ := q
  have ha := a.isLt; have hb := b.isLt
  show (256 * a.val + b.val) % 2 ^ 32 < 65536
  omega
theorem i2c_id (c : Int32) (h : c.toBitVec.toNat < 65536) : c.toUInt32.toUInt16.toUInt32.toInt32 = c := by
  apply Int32.toBitVec_inj.mp
  apply BitVec.eq_of_toNat_eq
  have e1 : c.toUInt32.toUInt16.toUInt32.toInt32.toBitVec.toNat = c.toUInt32.toUInt16.toUInt32.toNat := rfl
  rw [e1, UInt16.toNat_toUInt32, UInt32.toNat_toUInt16]
  show c.toBitVec.toNat % 2 ^ 16 = _
  omega
theorem Ch.nar {c : Int32} (q : Ch c) : Jvm.RoadKit.nar .char c = c := i2c_id c q.lt
theorem Ch.chr {c : Int32} (q : Ch c) : Jvm.RoadKit.nar .char ((((c.toInt8.toInt32 &&& (255 : Int32)) <<< ((0 : Int32) &&& 31)) ||| (((c >>> 8).toInt8.toInt32 &&& (255 : Int32)) <<< ((8 : Int32) &&& 31))).toUInt32.toUInt16.toUInt32.toInt32) = c := by
  rw [ch_all c q.lt, i2c_id c q.lt]; exact q.nar
theorem ofN {n : Nat} (q : n < 2 ^ 31) : (Int32.ofNat n).toInt = n := Int32.toInt_ofNat_small q
theorem Ch.i2c (x : Int32) : Ch x.toUInt32.toUInt16.toUInt32.toInt32 := by
  have hl : x.toUInt32.toUInt16.toNat < 65536 := x.toUInt32.toUInt16.toNat_lt
  refine ⟨⟨x.toUInt32.toUInt16.toNat / 256, by omega⟩, ⟨x.toUInt32.toUInt16.toNat % 256, by omega⟩, ?_⟩
  have e : 256 * (x.toUInt32.toUInt16.toNat / 256) + x.toUInt32.toUInt16.toNat % 256 = x.toUInt32.toUInt16.toNat := by omega
  show _ = Int32.ofNat (256 * (x.toUInt32.toUInt16.toNat / 256) + x.toUInt32.toUInt16.toNat % 256)
  rw [e]
  apply Int32.toBitVec_inj.mp
  apply BitVec.eq_of_toNat_eq
  have e1 : x.toUInt32.toUInt16.toUInt32.toInt32.toBitVec.toNat = x.toUInt32.toUInt16.toUInt32.toNat := rfl
  have e2 : (Int32.ofNat x.toUInt32.toUInt16.toNat).toBitVec.toNat = x.toUInt32.toUInt16.toNat % 2 ^ 32 := rfl
  rw [e1, e2, UInt16.toNat_toUInt32]; omega
theorem Ch.low {c : Int32} (q : Ch c) (hc : ¬ (255 : Int32) < c) : Lc c := by
  obtain ⟨a, b, rfl⟩ := q
  have ha := a.isLt; have hb := b.isLt
  rw [Int32.lt_iff_toInt_lt, ofN (by omega)] at hc
  have e5 : (255 : Int32).toInt = 255 := rfl
  exact ⟨⟨256 * a.val + b.val, by omega⟩, rfl⟩
theorem sz_nat : ∀ n : Fin 64, (Int32.ofNat n.val).toNatClampNeg = n.val ∧ ¬ Int32.ofNat n.val < 0 := by decide +kernel
theorem sz_sh0 : ∀ n : Fin 64, (Int32.ofNat n.val <<< ((0 : Int32) &&& 31)).toNatClampNeg = n.val ∧ ¬ (Int32.ofNat n.val <<< ((0 : Int32) &&& 31)) < 0 ∧ (Int32.ofNat n.val >>> ((0 : Int32) &&& 31)) = Int32.ofNat n.val := by decide +kernel
theorem sz_sh1 : ∀ n : Fin 64, (Int32.ofNat n.val <<< ((1 : Int32) &&& 31)).toNatClampNeg = 2 * n.val ∧ ¬ (Int32.ofNat n.val <<< ((1 : Int32) &&& 31)) < 0 ∧ ((Int32.ofNat n.val <<< ((1 : Int32) &&& 31)) + (1 : Int32)).toNatClampNeg = 2 * n.val + 1 ∧ ¬ ((Int32.ofNat n.val <<< ((1 : Int32) &&& 31)) + (1 : Int32)) < 0 ∧ ((Int32.ofNat n.val <<< ((1 : Int32) &&& 31)) >>> ((1 : Int32) &&& 31)) = Int32.ofNat n.val := by decide +kernel
variable {z w : Int32} {n k : Nat}
theorem Sz.nat (q : Sz z n) : z.toNatClampNeg = n := by obtain ⟨rfl, q⟩ := q; exact (sz_nat ⟨n, q⟩).1
theorem Sz.pos (q : Sz z n) : ¬ z < 0 := by obtain ⟨rfl, q⟩ := q; exact (sz_nat ⟨n, q⟩).2
theorem Sz.shl0 (q : Sz z n) : (z <<< ((0 : Int32) &&& 31)).toNatClampNeg = n := by obtain ⟨rfl, q⟩ := q; exact (sz_sh0 ⟨n, q⟩).1
theorem Sz.shl0p (q : Sz z n) : ¬ (z <<< ((0 : Int32) &&& 31)) < 0 := by obtain ⟨rfl, q⟩ := q; exact (sz_sh0 ⟨n, q⟩).2.1
theorem Sz.sar0 (q : Sz z n) : (z >>> ((0 : Int32) &&& 31)) = z := by obtain ⟨rfl, q⟩ := q; exact (sz_sh0 ⟨n, q⟩).2.2
theorem Sz.shl1 (q : Sz z n) : (z <<< ((1 : Int32) &&& 31)).toNatClampNeg = 2 * n := by obtain ⟨rfl, q⟩ := q; exact (sz_sh1 ⟨n, q⟩).1
theorem Sz.shl1p (q : Sz z n) : ¬ (z <<< ((1 : Int32) &&& 31)) < 0 := by obtain ⟨rfl, q⟩ := q; exact (sz_sh1 ⟨n, q⟩).2.1
theorem Sz.shl1s (q : Sz z n) : ((z <<< ((1 : Int32) &&& 31)) + (1 : Int32)).toNatClampNeg = 2 * n + 1 := by obtain ⟨rfl, q⟩ := q; exact (sz_sh1 ⟨n, q⟩).2.2.1
theorem Sz.shl1sp (q : Sz z n) : ¬ ((z <<< ((1 : Int32) &&& 31)) + (1 : Int32)) < 0 := by obtain ⟨rfl, q⟩ := q; exact (sz_sh1 ⟨n, q⟩).2.2.2.1
theorem Sz.back (q : Sz z n) : ((z <<< ((1 : Int32) &&& 31)) >>> ((1 : Int32) &&& 31)) = z := by obtain ⟨rfl, q⟩ := q; exact (sz_sh1 ⟨n, q⟩).2.2.2.2
theorem Sz.add (q : Sz z n) (r : Sz w k) (hl : n + k < 64) : Sz (z + w) (n + k) := by obtain ⟨rfl, -⟩ := q; obtain ⟨rfl, -⟩ := r; exact ⟨by simp, hl⟩
theorem Sz.succ (q : Sz z n) (hl : n + 1 < 64) : Sz (z + (1 : Int32)) (n + 1) := q.add (w := 1) (k := 1) ⟨rfl, by decide⟩ hl
theorem Sz.lt (q : Sz z n) (r : Sz w k) (hl : n < k) : z < w := by
  obtain ⟨rfl, q⟩ := q; obtain ⟨rfl, r⟩ := r
  rw [Int32.lt_iff_toInt_lt, ofN (by omega), ofN (by omega)]; omega
theorem Sz.nlt (q : Sz z n) (r : Sz w k) (hl : k ≤ n) : ¬ z < w := by
  obtain ⟨rfl, q⟩ := q; obtain ⟨rfl, r⟩ := r
  rw [Int32.lt_iff_toInt_lt, ofN (by omega), ofN (by omega)]; omega
theorem Sz.four (q : Sz z n) (hl : n ≤ 3) : z = 0 ∨ z = 1 ∨ z = 2 ∨ z = 3 := by
  obtain ⟨rfl, -⟩ := q
  have : n = 0 ∨ n = 1 ∨ n = 2 ∨ n = 3 := by omega
  rcases this with rfl | rfl | rfl | rfl <;> simp
theorem lt_of {x y : Int32} (q : ¬ x < 0) (r : x.toNatClampNeg < y.toNatClampNeg) : x < y := by
  rw [Int32.lt_iff_toInt_lt] at q ⊢
  have e0 : (0 : Int32).toInt = 0 := rfl
  simp only [Int32.toNatClampNeg] at r; omega
theorem app_at (cs : List Int32) {ds : List Int32} {i : Nat} {x : Int32} (q : ds[i]? = some x) : (cs ++ ds)[cs.length + i]? = some x := by
  rw [List.getElem?_append_right (by omega), Nat.add_sub_cancel_left]; exact q
theorem own_and3 (k : Int32) : (k &&& (3 : Int32)) = (0 : Int32) ∨ (k &&& (3 : Int32)) = (1 : Int32) ∨ (k &&& (3 : Int32)) = (2 : Int32) ∨ (k &&& (3 : Int32)) = (3 : Int32) := by
  have h := c_mask k 3 2 (by decide) (by decide)
  have h1 : (k &&& 3).toInt = 0 ∨ (k &&& 3).toInt = 1 ∨ (k &&& 3).toInt = 2 ∨ (k &&& 3).toInt = 3 := by omega
  rcases h1 with q | q | q | q
  · exact Or.inl (ofInt 0 q)
  · exact Or.inr (Or.inl (ofInt 1 q))
  · exact Or.inr (Or.inr (Or.inl (ofInt 2 q)))
  · exact Or.inr (Or.inr (Or.inr (ofInt 3 q)))
theorem L1one {Z : State} {h : Heap} {r : Addr} {k : ClassId} {n x : Int32} {d : Value} (V : Arv Z h r k .byte n [(.int (x.toInt8.toInt32).toInt8.toInt32)] d) : Arv Z h r k .byte n (L1 [x]) d := by rw [b8] at V; exact V
theorem Sz.cong (q : Sz z n) (e : n = k) : Sz z k := e ▸ q
theorem all1 {P : Int32 → Prop} {x : Int32} (q : P x) : ∀ c ∈ [x], P c := fun c hc => by cases List.mem_singleton.mp hc; exact q
theorem allA {P : Int32 → Prop} {xs ys : List Int32} (q : ∀ c ∈ xs, P c) (r : ∀ c ∈ ys, P c) : ∀ c ∈ xs ++ ys, P c := fun c hc => (List.mem_append.mp hc).elim (q c) (r c)
theorem allCh {xs : List Int32} (q : ∀ c ∈ xs, Lc c) : ∀ c ∈ xs, Ch c := fun c hc => (q c hc).ch
end OwnChars
section OwnStrs
variable {Z : State} {h h' : Heap} {r rb ax ba hx : Addr} {z : Int32} {cs : List Int32}
def Str0 (Z : State) (h : Heap) (r rb : Addr) (z : Int32) (cs : List Int32) : Prop := ∃ k, Exa Z h r "java/lang/String" ∧ Fld Z h r "java/lang/String" "value" "[B" (.ref rb) ∧ Fld Z h r "java/lang/String" "coder" "B" (.int (0 : Int32)) ∧ Arv Z h rb k .byte z (L1 cs) (.int (0 : Int32))
def Str1 (Z : State) (h : Heap) (r rb : Addr) (z : Int32) (cs : List Int32) : Prop := ∃ k, Exa Z h r "java/lang/String" ∧ Fld Z h r "java/lang/String" "value" "[B" (.ref rb) ∧ Fld Z h r "java/lang/String" "coder" "B" (.int (1 : Int32)) ∧ Arv Z h rb k .byte (z <<< ((1 : Int32) &&& 31)) (U2 cs) (.int (0 : Int32))
def Str (Z : State) (h : Heap) (r rb : Addr) (z : Int32) (cs : List Int32) : Prop := Sz z cs.length ∧ ((Str0 Z h r rb z cs ∧ ∀ c ∈ cs, Lc c) ∨ (Str1 Z h r rb z cs ∧ ∀ c ∈ cs, Ch c))
theorem Str0.ext (S : Str0 Z h r rb z cs) (E : Ext h h') : Str0 Z h' r rb z cs := by obtain ⟨k, a, b, c, d⟩ := S; exact ⟨k, a.ext E, b.ext E, c.ext E, d.ext E⟩
theorem Str1.ext (S : Str1 Z h r rb z cs) (E : Ext h h') : Str1 Z h' r rb z cs := by obtain ⟨k, a, b, c, d⟩ := S; exact ⟨k, a.ext E, b.ext E, c.ext E, d.ext E⟩
theorem Str.ext (S : Str Z h r rb z cs) (E : Ext h h') : Str Z h' r rb z cs := ⟨S.1, S.2.imp (fun q => ⟨q.1.ext E, q.2⟩) fun q => ⟨q.1.ext E, q.2⟩⟩
theorem Str.exa (S : Str Z h r rb z cs) : Exa Z h r "java/lang/String" := by
  rcases S.2 with ⟨⟨k, a, -⟩, -⟩ | ⟨⟨k, a, -⟩, -⟩ <;> exact a
def Bld0 (Z : State) (h : Heap) (ax ba : Addr) (z : Int32) (cs : List Int32) : Prop := ∃ k, Exa Z h ax "java/lang/StringBuilder" ∧ Fld Z h ax "java/lang/AbstractStringBuilder" "value" "[B" (.ref ba) ∧ Fld Z h ax "java/lang/AbstractStringBuilder" "coder" "B" (.int (0 : Int32)) ∧ Fld Z h ax "java/lang/AbstractStringBuilder" "count" "I" (.int z) ∧ Fld Z h ax "java/lang/AbstractStringBuilder" "maybeLatin1" "Z" (.int (0 : Int32)) ∧ Arv Z h ba k .byte (16 : Int32) (L1 cs) (.int (0 : Int32))
def Bld1 (Z : State) (h : Heap) (ax ba : Addr) (z : Int32) (cs : List Int32) : Prop := ∃ k, Exa Z h ax "java/lang/StringBuilder" ∧ Fld Z h ax "java/lang/AbstractStringBuilder" "value" "[B" (.ref ba) ∧ Fld Z h ax "java/lang/AbstractStringBuilder" "coder" "B" (.int (1 : Int32)) ∧ Fld Z h ax "java/lang/AbstractStringBuilder" "count" "I" (.int z) ∧ Fld Z h ax "java/lang/AbstractStringBuilder" "maybeLatin1" "Z" (.int (0 : Int32)) ∧ Arv Z h ba k .byte (32 : Int32) (U2 cs) (.int (0 : Int32))
theorem Bld0.ext (S : Bld0 Z h ax ba z cs) (E : Ext h h') : Bld0 Z h' ax ba z cs := by obtain ⟨k, a, b, c, d, e, f⟩ := S; exact ⟨k, a.ext E, b.ext E, c.ext E, d.ext E, e.ext E, f.ext E⟩
theorem Bld1.ext (S : Bld1 Z h ax ba z cs) (E : Ext h h') : Bld1 Z h' ax ba z cs := by obtain ⟨k, a, b, c, d, e, f⟩ := S; exact ⟨k, a.ext E, b.ext E, c.ext E, d.ext E, e.ext E, f.ext E⟩
/-- the page: its builder and what is written -/
def Hob (Z : State) (h : Heap) (hx ax ba : Addr) (z : Int32) (cs : List Int32) : Prop := Exa Z h hx "com/example/dead_letter_replay/deadletterreplay/page/Html" ∧ Fld Z h hx "com/example/dead_letter_replay/deadletterreplay/page/Html" "html" "Ljava/lang/StringBuilder;" (.ref ax) ∧ Sz z cs.length ∧ ((Bld0 Z h ax ba z cs ∧ ∀ c ∈ cs, Lc c) ∨ (Bld1 Z h ax ba z cs ∧ ∀ c ∈ cs, Ch c))
theorem Hob.ext (S : Hob Z h hx ax ba z cs) (E : Ext h h') : Hob Z h' hx ax ba z cs := ⟨S.1.ext E, S.2.1.ext E, S.2.2.1, S.2.2.2.imp (fun q => ⟨q.1.ext E, q.2⟩) fun q => ⟨q.1.ext E, q.2⟩⟩
theorem Hob.lt (S : Hob Z h hx ax ba z cs) : ba < h.size := by
  rcases S.2.2.2 with ⟨⟨k, -, -, -, -, -, V⟩, -⟩ | ⟨⟨k, -, -, -, -, -, V⟩, -⟩ <;> exact V.lt
/-- the statics that the sheet assumes -/
def Stt (Z : State) (k : Int32) (v : Value) : Prop := Sta Z Z.heap "java/lang/String" "COMPACT_STRINGS" "Z" (.int k) ∧ ¬ k = 0 ∧ Sta Z Z.heap "jdk/internal/util/Preconditions" "SIOOBE_FORMATTER" "Ljava/util/function/BiFunction;" v ∧ v.isRef = true ∧ Sta Z Z.heap "java/lang/StringUTF16" "$assertionsDisabled" "Z" (.int (1 : Int32)) ∧ Sta Z Z.heap "java/lang/StringUTF16" "HI_BYTE_SHIFT" "I" (.int (0 : Int32)) ∧ Sta Z Z.heap "java/lang/StringUTF16" "LO_BYTE_SHIFT" "I" (.int (8 : Int32))
end OwnStrs
section OwnLits
variable {Z : State} {EL : List (String × Nat)} {vm vm0 vm1 : Vm} {h h0 : Heap} {x y : Addr} {s : State} {a0 : Array Value}
theorem Bk.lt (B : Bk Z EL vm h y) : y < h.size := by
  obtain ⟨p, hp, u, a, hb, q, hq, F, hy⟩ := B
  rcases hy with rfl | rfl
  · exact (Array.getElem?_eq_some_iff.mp F.ha).1
  · exact (Array.getElem?_eq_some_iff.mp F.hd).1
theorem safeNew (H : CHv Z EL vm h0) (E : Ext h0 h) (q : h0.size ≤ x) : Safe Z EL vm h x := fun B => absurd (Bk.lt ((H.step fun _ _ _ r => E.2 _ _ r).2 _ B)) (Nat.not_lt.mpr q)
end OwnLits
end Jvm.RoadKit
namespace Jvm.Pilot.@@N@@
open Jvm Jvm.ClassFile Sem Op Lib Jvm.Free Jvm.Stand Jvm.LawKit Jvm.RoadKit Bundle Jvm.Pilot.@@N@@.Jvm.D
theorem pd_0 : parseMethodDescriptor "(IIILjava/util/function/BiFunction;)I" = some ⟨[.int, .int, .int, (.object "java/util/function/BiFunction")], some .int⟩ := by decide +kernel
theorem pd_1 : parseMethodDescriptor "([B)I" = some ⟨[(.array .byte)], some .int⟩ := by decide +kernel
theorem pd_2 : parseMethodDescriptor "(III)I" = some ⟨[.int, .int, .int], some .int⟩ := by decide +kernel
theorem pd_3 : parseMethodDescriptor "(IILjava/util/function/BiFunction;)I" = some ⟨[.int, .int, (.object "java/util/function/BiFunction")], some .int⟩ := by decide +kernel
theorem pd_4 : parseMethodDescriptor "(II)V" = some ⟨[.int, .int], none⟩ := by decide +kernel
theorem pd_5 : parseMethodDescriptor "([BII)V" = some ⟨[(.array .byte), .int, .int], none⟩ := by decide +kernel
theorem pd_6 : parseMethodDescriptor "(I)I" = some ⟨[.int], some .int⟩ := by decide +kernel
theorem pd_7 : parseMethodDescriptor "(II)I" = some ⟨[.int, .int], some .int⟩ := by decide +kernel
theorem pd_8 : parseMethodDescriptor "([BII)[B" = some ⟨[(.array .byte), .int, .int], some (.array .byte)⟩ := by decide +kernel
theorem pd_9 : parseMethodDescriptor "(II[B)V" = some ⟨[.int, .int, (.array .byte)], none⟩ := by decide +kernel
theorem pd_10 : parseMethodDescriptor "([BI[BII)V" = some ⟨[(.array .byte), .int, (.array .byte), .int, .int], none⟩ := by decide +kernel
theorem pd_11 : parseMethodDescriptor "(C)Z" = some ⟨[.char], some .boolean⟩ := by decide +kernel
theorem pd_12 : parseMethodDescriptor "(C)[B" = some ⟨[.char], some (.array .byte)⟩ := by decide +kernel
theorem pd_13 : parseMethodDescriptor "([BB)V" = some ⟨[(.array .byte), .byte], none⟩ := by decide +kernel
theorem pd_14 : parseMethodDescriptor "()B" = some ⟨[], some .byte⟩ := by decide +kernel
theorem pd_15 : parseMethodDescriptor "(I[B)V" = some ⟨[.int, (.array .byte)], none⟩ := by decide +kernel
theorem pd_16 : parseMethodDescriptor "([BI)C" = some ⟨[(.array .byte), .int], some .char⟩ := by decide +kernel
theorem pd_17 : parseMethodDescriptor "()Z" = some ⟨[], some .boolean⟩ := by decide +kernel
theorem pd_18 : parseMethodDescriptor "(I)C" = some ⟨[.int], some .char⟩ := by decide +kernel
theorem pd_19 : parseMethodDescriptor "(I)[B" = some ⟨[.int], some (.array .byte)⟩ := by decide +kernel
theorem pd_20 : parseMethodDescriptor "()V" = some ⟨[], none⟩ := by decide +kernel
theorem pd_21 : parseMethodDescriptor "([BI)[B" = some ⟨[(.array .byte), .int], some (.array .byte)⟩ := by decide +kernel
theorem pd_22 : parseMethodDescriptor "(Ljava/lang/String;)V" = some ⟨[(.object "java/lang/String")], none⟩ := by decide +kernel
theorem pd_23 : parseMethodDescriptor "([BIB)V" = some ⟨[(.array .byte), .int, .byte], none⟩ := by decide +kernel
theorem pd_24 : parseMethodDescriptor "()I" = some ⟨[], some .int⟩ := by decide +kernel
theorem pd_25 : parseMethodDescriptor "(I)V" = some ⟨[.int], none⟩ := by decide +kernel
theorem pd_26 : parseMethodDescriptor "(ILjava/lang/String;)V" = some ⟨[.int, (.object "java/lang/String")], none⟩ := by decide +kernel
theorem pd_27 : parseMethodDescriptor "(Ljava/lang/String;)Ljava/lang/AbstractStringBuilder;" = some ⟨[(.object "java/lang/String")], some (.object "java/lang/AbstractStringBuilder")⟩ := by decide +kernel
theorem pd_28 : parseMethodDescriptor "(Ljava/lang/String;)Ljava/lang/StringBuilder;" = some ⟨[(.object "java/lang/String")], some (.object "java/lang/StringBuilder")⟩ := by decide +kernel
theorem pd_29 : parseMethodDescriptor "()[B" = some ⟨[], some (.array .byte)⟩ := by decide +kernel
theorem pd_30 : parseMethodDescriptor "(Ljava/lang/AbstractStringBuilder;Ljava/lang/Void;)V" = some ⟨[(.object "java/lang/AbstractStringBuilder"), (.object "java/lang/Void")], none⟩ := by decide +kernel
theorem pd_31 : parseMethodDescriptor "(Ljava/lang/StringBuilder;)V" = some ⟨[(.object "java/lang/StringBuilder")], none⟩ := by decide +kernel
theorem pd_32 : parseMethodDescriptor "()Ljava/lang/String;" = some ⟨[], some (.object "java/lang/String")⟩ := by decide +kernel
theorem pd_33 : parseMethodDescriptor "(C)Ljava/lang/String;" = some ⟨[.char], some (.object "java/lang/String")⟩ := by decide +kernel
theorem pd_34 : parseMethodDescriptor "(Ljava/lang/String;)Lcom/example/dead_letter_replay/deadletterreplay/page/Html;" = some ⟨[(.object "java/lang/String")], some (.object "com/example/dead_letter_replay/deadletterreplay/page/Html")⟩ := by decide +kernel
theorem pd_35 : parseMethodDescriptor "(Ljava/lang/String;ILjava/lang/String;I)Z" = some ⟨[(.object "java/lang/String"), .int, (.object "java/lang/String"), .int], some .boolean⟩ := by decide +kernel
theorem own_ff (x : Int32) : ¬ (255 : Int32) < ((x &&& (255 : Int32)).toUInt32.toUInt16.toUInt32.toInt32) := by
  rw [i2c_mask, Int32.lt_iff_toInt_lt, c_mask x 255 8 (by decide) (by decide)]
  show ¬ (255 : Int) < _
  omega
theorem own_cs {args : Array Value} {s : State} {t : Term} {k : Int32} (e : t.eval args s none [] s = some (.int k)) (h : (Jvm.Cond.not (.eq t (.int 0))).value args s none s [] = some true) : ¬ k = 0 := fun q => by
  subst q
  have h1 := not_v h
  rw [eq_i e (Term.int_eval 0) rfl] at h1
  cases h1
def TXT : List Int32 := [60, 47, 109, 97, 105, 110, 62, 10, 60, 47, 98, 111, 100, 121, 62, 10, 60, 47, 104, 116, 109, 108, 62, 10]
theorem own_txt : (∀ c ∈ "</main>\n</body>\n</html>\n".toList, c.toNat < 256) ∧ "</main>\n</body>\n</html>\n".toList.map (fun c => Value.int (Jvm.Lit.byteI c.toNat.toUInt16)) = L1 TXT := ⟨by decide, by decide⟩
theorem own_lc : ∀ c ∈ TXT, Lc c := fun c hc => by
  simp only [TXT, List.mem_cons, List.not_mem_nil, or_false] at hc
  rcases hc with rfl | rfl | rfl | rfl | rfl | rfl | rfl | rfl | rfl | rfl | rfl | rfl | rfl | rfl | rfl | rfl | rfl | rfl | rfl | rfl | rfl | rfl | rfl | rfl
  · exact ⟨⟨60, by decide⟩, rfl⟩
  · exact ⟨⟨47, by decide⟩, rfl⟩
  · exact ⟨⟨109, by decide⟩, rfl⟩
  · exact ⟨⟨97, by decide⟩, rfl⟩
  · exact ⟨⟨105, by decide⟩, rfl⟩
  · exact ⟨⟨110, by decide⟩, rfl⟩
  · exact ⟨⟨62, by decide⟩, rfl⟩
  · exact ⟨⟨10, by decide⟩, rfl⟩
  · exact ⟨⟨60, by decide⟩, rfl⟩
  · exact ⟨⟨47, by decide⟩, rfl⟩
  · exact ⟨⟨98, by decide⟩, rfl⟩
  · exact ⟨⟨111, by decide⟩, rfl⟩
  · exact ⟨⟨100, by decide⟩, rfl⟩
  · exact ⟨⟨121, by decide⟩, rfl⟩
  · exact ⟨⟨62, by decide⟩, rfl⟩
  · exact ⟨⟨10, by decide⟩, rfl⟩
  · exact ⟨⟨60, by decide⟩, rfl⟩
  · exact ⟨⟨47, by decide⟩, rfl⟩
  · exact ⟨⟨104, by decide⟩, rfl⟩
  · exact ⟨⟨116, by decide⟩, rfl⟩
  · exact ⟨⟨109, by decide⟩, rfl⟩
  · exact ⟨⟨108, by decide⟩, rfl⟩
  · exact ⟨⟨62, by decide⟩, rfl⟩
  · exact ⟨⟨10, by decide⟩, rfl⟩
theorem d_rm_ce1_0 : decode jdk_43_method_3_code 0 = .ok (.iload_n 0, 1) := by decide +kernel
theorem d_rm_ce1_1 : decode jdk_43_method_3_code 1 = .ok (.sipush 255, 3) := by decide +kernel
theorem d_rm_ce1_4 : decode jdk_43_method_3_code 4 = .ok (.if_icmp .gt 7, 3) := by decide +kernel
theorem d_rm_ce1_7 : decode jdk_43_method_3_code 7 = .ok (.iconst 1, 1) := by decide +kernel
theorem d_rm_ce1_8 : decode jdk_43_method_3_code 8 = .ok (.goto 4, 3) := by decide +kernel
theorem d_rm_ce1_12 : decode jdk_43_method_3_code 12 = .ok (.ireturn, 1) := by decide +kernel
set_option maxHeartbeats 4000000 in
theorem ef_rm_ce1 (m : MethodId) (x0 : Int32)  : entryFrame m #[(.int x0)] 1 = mkF m 0 #[.val (.int x0)] [] := by first | (simp [entryFrame, mkF, argsToLocals, catR, catN, catI, catJ]; done) | rfl
set_option maxRecDepth 65536 in
set_option maxHeartbeats 40000000 in
theorem rm_ce1 (l : Launch) (Z : State) (a0 : Array Value) (hw : ∀ d ∈ tables_1, d.before a0 Z = true) (ws : List Jvm.Cond) (kc : Int32) (sx : Value) (xc : Int32) (h0 : Heap) (n0 : Nat) (Z0 : n0 ≤ h0.size) (G : Stt Z kc sx) (O : Old Z n0 h0)  (hc : ¬ (255 : Int32) < xc) :
    Pays l Z (⟨"java/lang/StringLatin1", "canEncode", "(C)Z"⟩ : MethodName) jdk_43_method_3_code 1 (some .boolean) ws ({ frames := 0, cells := 0, slots := 0, locals := 0 } : Room) #[(.int xc)] h0 (fun v h L => v = some (.int (1 : Int32)) ∧ Fr n0 L ∧ h = h0) := by
  refine Pays.of (plainFor_of_name (by first | (simp [plainName, overriddenIn]; done) | decide +kernel)) ?_
  intro p e s m below meth c s₁ hx hby hml hown hnm hret hlk hZ e0 X0
  have N0 := Fr.nil n0
  have K0 : Keep h0 h0 [] := Keep.refl _ _
  refine Goes.go (U' := (s₁.setTop (mkF m 0 #[sI_ xc] []))) (fun t kt => castTop (ef_rm_ce1 m xc) kt) ?_
  refine Goes.go (U' := (s₁.setTop (mkF m 12 #[sI_ xc] [(.int (1 : Int32))]))) (fun t kt => ?_) ?_
  · skip
    refine XS.iloadN X0.here hx rfl (hb hby d_rm_ce1_0) rfl ?_
    refine XS.sipush X0.here hx rfl (hb hby d_rm_ce1_1) ?_
    refine XS.icmpNo X0.here hx rfl (hb hby d_rm_ce1_4) rfl (XT.ii_gt_f hc) ?_
    refine XS.iconst X0.here hx rfl (hb hby d_rm_ce1_7) ?_
    refine XS.goto X0.here hx rfl (pc0 := 8) (pc' := 12) rfl (hb hby d_rm_ce1_8) (by decide) (by decide) ?_
    exact kt
  refine Goes.retB X0 hx hlk hret (hb hby d_rm_ce1_12) (by decide) (by decide) ?_
  try rw [e0]
  exact ⟨rfl, N0, rfl⟩
theorem d_rm_ce0_0 : decode jdk_43_method_3_code 0 = .ok (.iload_n 0, 1) := by decide +kernel
theorem d_rm_ce0_1 : decode jdk_43_method_3_code 1 = .ok (.sipush 255, 3) := by decide +kernel
theorem d_rm_ce0_4 : decode jdk_43_method_3_code 4 = .ok (.if_icmp .gt 7, 3) := by decide +kernel
theorem d_rm_ce0_11 : decode jdk_43_method_3_code 11 = .ok (.iconst 0, 1) := by decide +kernel
theorem d_rm_ce0_12 : decode jdk_43_method_3_code 12 = .ok (.ireturn, 1) := by decide +kernel
set_option maxHeartbeats 4000000 in
theorem ef_rm_ce0 (m : MethodId) (x0 : Int32)  : entryFrame m #[(.int x0)] 1 = mkF m 0 #[.val (.int x0)] [] := by first | (simp [entryFrame, mkF, argsToLocals, catR, catN, catI, catJ]; done) | rfl
set_option maxRecDepth 65536 in
set_option maxHeartbeats 40000000 in
theorem rm_ce0 (l : Launch) (Z : State) (a0 : Array Value) (hw : ∀ d ∈ tables_1, d.before a0 Z = true) (ws : List Jvm.Cond) (kc : Int32) (sx : Value) (xc : Int32) (h0 : Heap) (n0 : Nat) (Z0 : n0 ≤ h0.size) (G : Stt Z kc sx) (O : Old Z n0 h0)  (hc : (255 : Int32) < xc) :
    Pays l Z (⟨"java/lang/StringLatin1", "canEncode", "(C)Z"⟩ : MethodName) jdk_43_method_3_code 1 (some .boolean) ws ({ frames := 0, cells := 0, slots := 0, locals := 0 } : Room) #[(.int xc)] h0 (fun v h L => v = some (.int (0 : Int32)) ∧ Fr n0 L ∧ h = h0) := by
  refine Pays.of (plainFor_of_name (by first | (simp [plainName, overriddenIn]; done) | decide +kernel)) ?_
  intro p e s m below meth c s₁ hx hby hml hown hnm hret hlk hZ e0 X0
  have N0 := Fr.nil n0
  have K0 : Keep h0 h0 [] := Keep.refl _ _
  refine Goes.go (U' := (s₁.setTop (mkF m 0 #[sI_ xc] []))) (fun t kt => castTop (ef_rm_ce0 m xc) kt) ?_
  refine Goes.go (U' := (s₁.setTop (mkF m 12 #[sI_ xc] [(.int (0 : Int32))]))) (fun t kt => ?_) ?_
  · skip
    refine XS.iloadN X0.here hx rfl (hb hby d_rm_ce0_0) rfl ?_
    refine XS.sipush X0.here hx rfl (hb hby d_rm_ce0_1) ?_
    refine XS.icmpYes X0.here hx rfl (pc0 := 4) (pc' := 11) rfl (hb hby d_rm_ce0_4) rfl (XT.ii_gt_t hc) (by decide) (by decide) ?_
    refine XS.iconst X0.here hx rfl (hb hby d_rm_ce0_11) ?_
    exact kt
  refine Goes.retB X0 hx hlk hret (hb hby d_rm_ce0_12) (by decide) (by decide) ?_
  try rw [e0]
  exact ⟨rfl, N0, rfl⟩
theorem d_rm_max_0 : decode jdk_29_method_65_code 0 = .ok (.iload_n 0, 1) := by decide +kernel
theorem d_rm_max_1 : decode jdk_29_method_65_code 1 = .ok (.iload_n 1, 1) := by decide +kernel
theorem d_rm_max_2 : decode jdk_29_method_65_code 2 = .ok (.if_icmp .lt 7, 3) := by decide +kernel
theorem d_rm_max_9 : decode jdk_29_method_65_code 9 = .ok (.iload_n 1, 1) := by decide +kernel
theorem d_rm_max_10 : decode jdk_29_method_65_code 10 = .ok (.ireturn, 1) := by decide +kernel
set_option maxHeartbeats 4000000 in
theorem ef_rm_max (m : MethodId) (x0 : Int32) (x1 : Int32)  : entryFrame m #[(.int x0), (.int x1)] 2 = mkF m 0 #[.val (.int x0), .val (.int x1)] [] := by first | (simp [entryFrame, mkF, argsToLocals, catR, catN, catI, catJ]; done) | rfl
set_option maxRecDepth 65536 in
set_option maxHeartbeats 40000000 in
theorem rm_max (l : Launch) (Z : State) (a0 : Array Value) (hw : ∀ d ∈ tables_1, d.before a0 Z = true) (ws : List Jvm.Cond) (kc : Int32) (sx : Value) (xa xb : Int32) (h0 : Heap) (n0 : Nat) (Z0 : n0 ≤ h0.size) (G : Stt Z kc sx) (O : Old Z n0 h0)  (hc : xa < xb) :
    Pays l Z (⟨"java/lang/Math", "max", "(II)I"⟩ : MethodName) jdk_29_method_65_code 2 (some .int) ws ({ frames := 0, cells := 0, slots := 0, locals := 0 } : Room) #[(.int xa), (.int xb)] h0 (fun v h L => v = some (.int xb) ∧ Fr n0 L ∧ h = h0) := by
  refine Pays.of (by decide +kernel) ?_
  intro p e s m below meth c s₁ hx hby hml hown hnm hret hlk hZ e0 X0
  have N0 := Fr.nil n0
  have K0 : Keep h0 h0 [] := Keep.refl _ _
  refine Goes.go (U' := (s₁.setTop (mkF m 0 #[sI_ xa, sI_ xb] []))) (fun t kt => castTop (ef_rm_max m xa xb) kt) ?_
  refine Goes.go (U' := (s₁.setTop (mkF m 10 #[sI_ xa, sI_ xb] [(.int xb)]))) (fun t kt => ?_) ?_
  · skip
    refine XS.iloadN X0.here hx rfl (hb hby d_rm_max_0) rfl ?_
    refine XS.iloadN X0.here hx rfl (hb hby d_rm_max_1) rfl ?_
    refine XS.icmpYes X0.here hx rfl (pc0 := 2) (pc' := 9) rfl (hb hby d_rm_max_2) rfl (XT.ii_lt_t hc) (by decide) (by decide) ?_
    refine XS.iloadN X0.here hx rfl (hb hby d_rm_max_9) rfl ?_
    exact kt
  refine Goes.retI X0 hx hlk hret (hb hby d_rm_max_10) (by decide) (by decide) ?_
  try rw [e0]
  exact ⟨rfl, N0, rfl⟩
theorem d_rm_min1_0 : decode jdk_29_method_69_code 0 = .ok (.iload_n 0, 1) := by decide +kernel
theorem d_rm_min1_1 : decode jdk_29_method_69_code 1 = .ok (.iload_n 1, 1) := by decide +kernel
theorem d_rm_min1_2 : decode jdk_29_method_69_code 2 = .ok (.if_icmp .gt 7, 3) := by decide +kernel
theorem d_rm_min1_5 : decode jdk_29_method_69_code 5 = .ok (.iload_n 0, 1) := by decide +kernel
theorem d_rm_min1_6 : decode jdk_29_method_69_code 6 = .ok (.goto 4, 3) := by decide +kernel
theorem d_rm_min1_10 : decode jdk_29_method_69_code 10 = .ok (.ireturn, 1) := by decide +kernel
set_option maxHeartbeats 4000000 in
theorem ef_rm_min1 (m : MethodId) (x0 : Int32) (x1 : Int32)  : entryFrame m #[(.int x0), (.int x1)] 2 = mkF m 0 #[.val (.int x0), .val (.int x1)] [] := by first | (simp [entryFrame, mkF, argsToLocals, catR, catN, catI, catJ]; done) | rfl
set_option maxRecDepth 65536 in
set_option maxHeartbeats 40000000 in
theorem rm_min1 (l : Launch) (Z : State) (a0 : Array Value) (hw : ∀ d ∈ tables_1, d.before a0 Z = true) (ws : List Jvm.Cond) (kc : Int32) (sx : Value) (xa xb : Int32) (h0 : Heap) (n0 : Nat) (Z0 : n0 ≤ h0.size) (G : Stt Z kc sx) (O : Old Z n0 h0)  (hc : ¬ xb < xa) :
    Pays l Z (⟨"java/lang/Math", "min", "(II)I"⟩ : MethodName) jdk_29_method_69_code 2 (some .int) ws ({ frames := 0, cells := 0, slots := 0, locals := 0 } : Room) #[(.int xa), (.int xb)] h0 (fun v h L => v = some (.int xa) ∧ Fr n0 L ∧ h = h0) := by
  refine Pays.of (by decide +kernel) ?_
  intro p e s m below meth c s₁ hx hby hml hown hnm hret hlk hZ e0 X0
  have N0 := Fr.nil n0
  have K0 : Keep h0 h0 [] := Keep.refl _ _
  refine Goes.go (U' := (s₁.setTop (mkF m 0 #[sI_ xa, sI_ xb] []))) (fun t kt => castTop (ef_rm_min1 m xa xb) kt) ?_
  refine Goes.go (U' := (s₁.setTop (mkF m 10 #[sI_ xa, sI_ xb] [(.int xa)]))) (fun t kt => ?_) ?_
  · skip
    refine XS.iloadN X0.here hx rfl (hb hby d_rm_min1_0) rfl ?_
    refine XS.iloadN X0.here hx rfl (hb hby d_rm_min1_1) rfl ?_
    refine XS.icmpNo X0.here hx rfl (hb hby d_rm_min1_2) rfl (XT.ii_gt_f hc) ?_
    refine XS.iloadN X0.here hx rfl (hb hby d_rm_min1_5) rfl ?_
    refine XS.goto X0.here hx rfl (pc0 := 6) (pc' := 10) rfl (hb hby d_rm_min1_6) (by decide) (by decide) ?_
    exact kt
  refine Goes.retI X0 hx hlk hret (hb hby d_rm_min1_10) (by decide) (by decide) ?_
  try rw [e0]
  exact ⟨rfl, N0, rfl⟩
theorem d_rm_min0_0 : decode jdk_29_method_69_code 0 = .ok (.iload_n 0, 1) := by decide +kernel
theorem d_rm_min0_1 : decode jdk_29_method_69_code 1 = .ok (.iload_n 1, 1) := by decide +kernel
theorem d_rm_min0_2 : decode jdk_29_method_69_code 2 = .ok (.if_icmp .gt 7, 3) := by decide +kernel
theorem d_rm_min0_9 : decode jdk_29_method_69_code 9 = .ok (.iload_n 1, 1) := by decide +kernel
theorem d_rm_min0_10 : decode jdk_29_method_69_code 10 = .ok (.ireturn, 1) := by decide +kernel
set_option maxHeartbeats 4000000 in
theorem ef_rm_min0 (m : MethodId) (x0 : Int32) (x1 : Int32)  : entryFrame m #[(.int x0), (.int x1)] 2 = mkF m 0 #[.val (.int x0), .val (.int x1)] [] := by first | (simp [entryFrame, mkF, argsToLocals, catR, catN, catI, catJ]; done) | rfl
set_option maxRecDepth 65536 in
set_option maxHeartbeats 40000000 in
theorem rm_min0 (l : Launch) (Z : State) (a0 : Array Value) (hw : ∀ d ∈ tables_1, d.before a0 Z = true) (ws : List Jvm.Cond) (kc : Int32) (sx : Value) (xa xb : Int32) (h0 : Heap) (n0 : Nat) (Z0 : n0 ≤ h0.size) (G : Stt Z kc sx) (O : Old Z n0 h0)  (hc : xb < xa) :
    Pays l Z (⟨"java/lang/Math", "min", "(II)I"⟩ : MethodName) jdk_29_method_69_code 2 (some .int) ws ({ frames := 0, cells := 0, slots := 0, locals := 0 } : Room) #[(.int xa), (.int xb)] h0 (fun v h L => v = some (.int xb) ∧ Fr n0 L ∧ h = h0) := by
  refine Pays.of (by decide +kernel) ?_
  intro p e s m below meth c s₁ hx hby hml hown hnm hret hlk hZ e0 X0
  have N0 := Fr.nil n0
  have K0 : Keep h0 h0 [] := Keep.refl _ _
  refine Goes.go (U' := (s₁.setTop (mkF m 0 #[sI_ xa, sI_ xb] []))) (fun t kt => castTop (ef_rm_min0 m xa xb) kt) ?_
  refine Goes.go (U' := (s₁.setTop (mkF m 10 #[sI_ xa, sI_ xb] [(.int xb)]))) (fun t kt => ?_) ?_
  · skip
    refine XS.iloadN X0.here hx rfl (hb hby d_rm_min0_0) rfl ?_
    refine XS.iloadN X0.here hx rfl (hb hby d_rm_min0_1) rfl ?_
    refine XS.icmpYes X0.here hx rfl (pc0 := 2) (pc' := 9) rfl (hb hby d_rm_min0_2) rfl (XT.ii_gt_t hc) (by decide) (by decide) ?_
    refine XS.iloadN X0.here hx rfl (hb hby d_rm_min0_9) rfl ?_
    exact kt
  refine Goes.retI X0 hx hlk hret (hb hby d_rm_min0_10) (by decide) (by decide) ?_
  try rw [e0]
  exact ⟨rfl, N0, rfl⟩
theorem d_rm_ul_0 : decode jdk_52_method_6_code 0 = .ok (.aload_n 0, 1) := by decide +kernel
theorem d_rm_ul_1 : decode jdk_52_method_6_code 1 = .ok (.arraylength, 1) := by decide +kernel
theorem d_rm_ul_2 : decode jdk_52_method_6_code 2 = .ok (.iconst 1, 1) := by decide +kernel
theorem d_rm_ul_3 : decode jdk_52_method_6_code 3 = .ok (.ishr, 1) := by decide +kernel
theorem d_rm_ul_4 : decode jdk_52_method_6_code 4 = .ok (.ireturn, 1) := by decide +kernel
set_option maxHeartbeats 4000000 in
theorem ef_rm_ul (m : MethodId) (x0 : Addr)  : entryFrame m #[(.ref x0)] 1 = mkF m 0 #[.val (.ref x0)] [] := by first | (simp [entryFrame, mkF, argsToLocals, catR, catN, catI, catJ]; done) | rfl
set_option maxRecDepth 65536 in
set_option maxHeartbeats 40000000 in
theorem rm_ul (l : Launch) (Z : State) (a0 : Array Value) (hw : ∀ d ∈ tables_1, d.before a0 Z = true) (ws : List Jvm.Cond) (kc : Int32) (sx : Value) (b : Addr) (kb : ClassId) (n : Int32) (vs : List Value) (h0 : Heap) (n0 : Nat) (Z0 : n0 ≤ h0.size) (G : Stt Z kc sx) (O : Old Z n0 h0) (Vb : Arv Z h0 b kb .byte n vs (.int (0 : Int32)))  :
    Pays l Z (⟨"java/lang/StringUTF16", "length", "([B)I"⟩ : MethodName) jdk_52_method_6_code 1 (some .int) ws ({ frames := 0, cells := 0, slots := 0, locals := 0 } : Room) #[(.ref b)] h0 (fun v h L => v = some (.int (n >>> ((1 : Int32) &&& 31))) ∧ Fr n0 L ∧ h = h0) := by
  refine Pays.of (plainFor_of_name (by first | (simp [plainName, overriddenIn]; done) | decide +kernel)) ?_
  intro p e s m below meth c s₁ hx hby hml hown hnm hret hlk hZ e0 X0
  have N0 := Fr.nil n0
  have K0 : Keep h0 h0 [] := Keep.refl _ _
  refine Goes.go (U' := (s₁.setTop (mkF m 0 #[sR_ b] []))) (fun t kt => castTop (ef_rm_ul m b) kt) ?_
  refine Goes.go (U' := (s₁.setTop (mkF m 1 #[sR_ b] [(.ref b)]))) (fun t kt => ?_) ?_
  · skip
    refine XS.aloadN X0.here hx rfl (hb hby d_rm_ul_0) rfl rfl ?_
    exact kt
  obtain ⟨cl_1, Ar_1, q_1, S_1, M_1, H_1, G_1⟩ := id Vb
  refine Goes.go (U' := (s₁.setTop (mkF m 2 #[sR_ b] [(.int n)]))) (fun t kt => ?_) ?_
  · skip
    refine X0.arraylength hx (by rw [e0]; exact Ar_1.1) (State.isArrayOf_alike hZ.alike Ar_1.2.1) (g := (mkF m 1 #[sR_ b] [(.ref b)])) rfl rfl (hb hby d_rm_ul_1) _ ?_
    rw [len_of S_1 M_1]
    exact kt
  refine Goes.go (U' := (s₁.setTop (mkF m 4 #[sR_ b] [(.int (n >>> ((1 : Int32) &&& 31)))]))) (fun t kt => ?_) ?_
  · skip
    refine XS.iconst X0.here hx rfl (hb hby d_rm_ul_2) ?_
    refine XS.ishr X0.here hx rfl (hb hby d_rm_ul_3) rfl ?_
    exact kt
  refine Goes.retI X0 hx hlk hret (hb hby d_rm_ul_4) (by decide) (by decide) ?_
  try rw [e0]
  exact ⟨rfl, N0, rfl⟩
theorem d_rm_pcf_0 : decode jdk_41_method_13_code 0 = .ok (.iload_n 2, 1) := by decide +kernel
theorem d_rm_pcf_1 : decode jdk_41_method_13_code 1 = .ok (.iload_n 0, 1) := by decide +kernel
theorem d_rm_pcf_2 : decode jdk_41_method_13_code 2 = .ok (.ior, 1) := by decide +kernel
theorem d_rm_pcf_3 : decode jdk_41_method_13_code 3 = .ok (.iload_n 1, 1) := by decide +kernel
theorem d_rm_pcf_4 : decode jdk_41_method_13_code 4 = .ok (.ior, 1) := by decide +kernel
theorem d_rm_pcf_5 : decode jdk_41_method_13_code 5 = .ok (.ifCond .lt 10, 3) := by decide +kernel
theorem d_rm_pcf_8 : decode jdk_41_method_13_code 8 = .ok (.iload_n 1, 1) := by decide +kernel
theorem d_rm_pcf_9 : decode jdk_41_method_13_code 9 = .ok (.iload_n 2, 1) := by decide +kernel
theorem d_rm_pcf_10 : decode jdk_41_method_13_code 10 = .ok (.iload_n 0, 1) := by decide +kernel
theorem d_rm_pcf_11 : decode jdk_41_method_13_code 11 = .ok (.isub, 1) := by decide +kernel
theorem d_rm_pcf_12 : decode jdk_41_method_13_code 12 = .ok (.if_icmp .le 11, 3) := by decide +kernel
theorem d_rm_pcf_23 : decode jdk_41_method_13_code 23 = .ok (.iload_n 0, 1) := by decide +kernel
theorem d_rm_pcf_24 : decode jdk_41_method_13_code 24 = .ok (.ireturn, 1) := by decide +kernel
set_option maxHeartbeats 4000000 in
theorem ef_rm_pcf (m : MethodId) (x0 : Int32) (x1 : Int32) (x2 : Int32) (x3 : Value) (rx3 : x3.isRef = true) : entryFrame m #[(.int x0), (.int x1), (.int x2), x3] 4 = mkF m 0 #[.val (.int x0), .val (.int x1), .val (.int x2), .val x3] [] := by simp [entryFrame, mkF, argsToLocals, catR, catN, catI, catJ, XT.cat1 rx3]
set_option maxRecDepth 65536 in
set_option maxHeartbeats 40000000 in
theorem rm_pcf (l : Launch) (Z : State) (a0 : Array Value) (hw : ∀ d ∈ tables_1, d.before a0 Z = true) (ws : List Jvm.Cond) (kc : Int32) (sx : Value) (xo xc xn : Int32) (h0 : Heap) (n0 : Nat) (Z0 : n0 ≤ h0.size) (G : Stt Z kc sx) (O : Old Z n0 h0)  (h1 : ¬ ((xn ||| xo) ||| xc) < 0) (h2 : ¬ (xn - xo) < xc) :
    Pays l Z (⟨"jdk/internal/util/Preconditions", "checkFromIndexSize", "(IIILjava/util/function/BiFunction;)I"⟩ : MethodName) jdk_41_method_13_code 4 (some .int) ws ({ frames := 0, cells := 0, slots := 0, locals := 0 } : Room) #[(.int xo), (.int xc), (.int xn), sx] h0 (fun v h L => v = some (.int xo) ∧ Fr n0 L ∧ h = h0) := by
  refine Pays.of (plainFor_of_name (by first | (simp [plainName, overriddenIn]; done) | decide +kernel)) ?_
  intro p e s m below meth c s₁ hx hby hml hown hnm hret hlk hZ e0 X0
  have N0 := Fr.nil n0
  have K0 : Keep h0 h0 [] := Keep.refl _ _
  refine Goes.go (U' := (s₁.setTop (mkF m 0 #[sI_ xo, sI_ xc, sI_ xn, .val sx] []))) (fun t kt => castTop (ef_rm_pcf m xo xc xn sx G.2.2.2.1) kt) ?_
  refine Goes.go (U' := (s₁.setTop (mkF m 24 #[sI_ xo, sI_ xc, sI_ xn, .val sx] [(.int xo)]))) (fun t kt => ?_) ?_
  · skip
    refine XS.iloadN X0.here hx rfl (hb hby d_rm_pcf_0) rfl ?_
    refine XS.iloadN X0.here hx rfl (hb hby d_rm_pcf_1) rfl ?_
    refine XS.ior X0.here hx rfl (hb hby d_rm_pcf_2) rfl ?_
    refine XS.iloadN X0.here hx rfl (hb hby d_rm_pcf_3) rfl ?_
    refine XS.ior X0.here hx rfl (hb hby d_rm_pcf_4) rfl ?_
    refine XS.ifNo X0.here hx rfl (hb hby d_rm_pcf_5) rfl (XT.i0_lt_f h1) ?_
    refine XS.iloadN X0.here hx rfl (hb hby d_rm_pcf_8) rfl ?_
    refine XS.iloadN X0.here hx rfl (hb hby d_rm_pcf_9) rfl ?_
    show Steps p.tables e below (s₁.setTop (mkF m 10 #[sI_ xo, sI_ xc, sI_ xn, .val sx] [(.int xn), (.int xc)])) t
    refine XS.iloadN X0.here hx rfl (hb hby d_rm_pcf_10) rfl ?_
    refine XS.isub X0.here hx rfl (hb hby d_rm_pcf_11) rfl ?_
    refine XS.icmpYes X0.here hx rfl (pc0 := 12) (pc' := 23) rfl (hb hby d_rm_pcf_12) rfl (XT.ii_le_t h2) (by decide) (by decide) ?_
    refine XS.iloadN X0.here hx rfl (hb hby d_rm_pcf_23) rfl ?_
    exact kt
  refine Goes.retI X0 hx hlk hret (hb hby d_rm_pcf_24) (by decide) (by decide) ?_
  try rw [e0]
  exact ⟨rfl, N0, rfl⟩
theorem d_rm_scb_0 : decode jdk_42_method_157_code 0 = .ok (.iload_n 0, 1) := by decide +kernel
theorem d_rm_scb_1 : decode jdk_42_method_157_code 1 = .ok (.iload_n 1, 1) := by decide +kernel
theorem d_rm_scb_2 : decode jdk_42_method_157_code 2 = .ok (.iload_n 2, 1) := by decide +kernel
theorem d_rm_scb_3 : decode jdk_42_method_157_code 3 = .ok (.getstatic 1053, 3) := by decide +kernel
theorem d_rm_scb_6 : decode jdk_42_method_157_code 6 = .ok (.invokestatic 1065, 3) := by decide +kernel
theorem d_rm_scb_9 : decode jdk_42_method_157_code 9 = .ok (.ireturn, 1) := by decide +kernel
set_option maxHeartbeats 4000000 in
theorem ef_rm_scb (m : MethodId) (x0 : Int32) (x1 : Int32) (x2 : Int32)  : entryFrame m #[(.int x0), (.int x1), (.int x2)] 3 = mkF m 0 #[.val (.int x0), .val (.int x1), .val (.int x2)] [] := by first | (simp [entryFrame, mkF, argsToLocals, catR, catN, catI, catJ]; done) | rfl
set_option maxRecDepth 65536 in
set_option maxHeartbeats 40000000 in
theorem rm_scb (l : Launch) (Z : State) (a0 : Array Value) (hw : ∀ d ∈ tables_1, d.before a0 Z = true) (ws : List Jvm.Cond) (kc : Int32) (sx : Value) (xo xc xn : Int32) (h0 : Heap) (n0 : Nat) (Z0 : n0 ≤ h0.size) (G : Stt Z kc sx) (O : Old Z n0 h0)  (h1 : ¬ ((xn ||| xo) ||| xc) < 0) (h2 : ¬ (xn - xo) < xc) :
    Pays l Z (⟨"java/lang/String", "checkBoundsOffCount", "(III)I"⟩ : MethodName) jdk_42_method_157_code 3 (some .int) ws ({ frames := 1, cells := 0, slots := 0, locals := 15 } : Room) #[(.int xo), (.int xc), (.int xn)] h0 (fun v h L => v = some (.int xo) ∧ Fr n0 L ∧ h = h0) := by
  refine Pays.of (plainFor_of_name (by first | (simp [plainName, overriddenIn]; done) | decide +kernel)) ?_
  intro p e s m below meth c s₁ hx hby hml hown hnm hret hlk hZ e0 X0
  have N0 := Fr.nil n0
  have K0 : Keep h0 h0 [] := Keep.refl _ _
  refine Goes.go (U' := (s₁.setTop (mkF m 0 #[sI_ xo, sI_ xc, sI_ xn] []))) (fun t kt => castTop (ef_rm_scb m xo xc xn) kt) ?_
  refine Goes.go (U' := (s₁.setTop (mkF m 3 #[sI_ xo, sI_ xc, sI_ xn] [(.int xn), (.int xc), (.int xo)]))) (fun t kt => ?_) ?_
  · skip
    refine XS.iloadN X0.here hx rfl (hb hby d_rm_scb_0) rfl ?_
    refine XS.iloadN X0.here hx rfl (hb hby d_rm_scb_1) rfl ?_
    refine XS.iloadN X0.here hx rfl (hb hby d_rm_scb_2) rfl ?_
    exact kt
  obtain ⟨T_1, X_1, e_1, st_1⟩ := getS X0 hx hZ hown (host := "") (wdOf hw 193 rfl) Via.refl e0 (G.2.2.1.ext O.2) (g := (mkF m 3 #[sI_ xo, sI_ xc, sI_ xn] [(.int xn), (.int xc), (.int xo)])) rfl (hb hby d_rm_scb_3)
  refine Goes.go (U' := (T_1.setTop (mkF m 6 #[sI_ xo, sI_ xc, sI_ xn] [sx, (.int xn), (.int xc), (.int xo)]))) st_1 ?_
  obtain ⟨v_2, T_2, L_2, X_2, q_2, st_2⟩ := callStatic X_1 hx hZ (y := (⟨"jdk/internal/util/Preconditions", "checkFromIndexSize", "(IIILjava/util/function/BiFunction;)I"⟩ : MethodName)) (W := 0) hown (wdOf hw 240 rfl) (wdOf hw 241 rfl) (wdOf hw 194 rfl) (wdOf hw 242 rfl) (by decide) (rm_pcf l Z a0 hw [] kc sx xo xc xn h0 n0 Z0 G O h1 h2) (by decide) (by decide) (by decide) (by decide) e_1 (g := (mkF m 6 #[sI_ xo, sI_ xc, sI_ xn] [sx, (.int xn), (.int xc), (.int xo)])) rfl (by rw [hml]; rfl) (argsL := [(.int xo), (.int xc), (.int xn), sx]) (rest := []) (lenOf pd_0 rfl) rfl rfl (Nat.le_refl _) (hb hby d_rm_scb_6)
  obtain ⟨rfl, n_2, K_2⟩ := q_2
  have N_2 := Fr.app N0 n_2
  refine Goes.go (U' := (T_2.setTop (mkF m 9 #[sI_ xo, sI_ xc, sI_ xn] [(.int xo)]))) st_2 ?_
  refine Goes.retI X_2 hx hlk hret (hb hby d_rm_scb_9) (by decide) (by decide) ?_
  try rw [K_2]
  exact ⟨rfl, N_2, rfl⟩
theorem d_rm_cbo_0 : decode jdk_52_method_94_code 0 = .ok (.iload_n 0, 1) := by decide +kernel
theorem d_rm_cbo_1 : decode jdk_52_method_94_code 1 = .ok (.iload_n 1, 1) := by decide +kernel
theorem d_rm_cbo_2 : decode jdk_52_method_94_code 2 = .ok (.aload_n 2, 1) := by decide +kernel
theorem d_rm_cbo_3 : decode jdk_52_method_94_code 3 = .ok (.invokestatic 48, 3) := by decide +kernel
theorem d_rm_cbo_6 : decode jdk_52_method_94_code 6 = .ok (.invokestatic 419, 3) := by decide +kernel
theorem d_rm_cbo_9 : decode jdk_52_method_94_code 9 = .ok (.pop, 1) := by decide +kernel
theorem d_rm_cbo_10 : decode jdk_52_method_94_code 10 = .ok (.return_, 1) := by decide +kernel
set_option maxHeartbeats 4000000 in
theorem ef_rm_cbo (m : MethodId) (x0 : Int32) (x1 : Int32) (x2 : Addr)  : entryFrame m #[(.int x0), (.int x1), (.ref x2)] 3 = mkF m 0 #[.val (.int x0), .val (.int x1), .val (.ref x2)] [] := by first | (simp [entryFrame, mkF, argsToLocals, catR, catN, catI, catJ]; done) | rfl
set_option maxRecDepth 65536 in
set_option maxHeartbeats 40000000 in
theorem rm_cbo (l : Launch) (Z : State) (a0 : Array Value) (hw : ∀ d ∈ tables_1, d.before a0 Z = true) (ws : List Jvm.Cond) (kc : Int32) (sx : Value) (xo xc : Int32) (b : Addr) (kb : ClassId) (n : Int32) (vs : List Value) (h0 : Heap) (n0 : Nat) (Z0 : n0 ≤ h0.size) (G : Stt Z kc sx) (O : Old Z n0 h0) (Vb : Arv Z h0 b kb .byte n vs (.int (0 : Int32))) (h1 : ¬ (((n >>> ((1 : Int32) &&& 31)) ||| xo) ||| xc) < 0) (h2 : ¬ ((n >>> ((1 : Int32) &&& 31)) - xo) < xc) :
    Pays l Z (⟨"java/lang/StringUTF16", "checkBoundsOffCount", "(II[B)V"⟩ : MethodName) jdk_52_method_94_code 3 none ws ({ frames := 2, cells := 0, slots := 0, locals := 29 } : Room) #[(.int xo), (.int xc), (.ref b)] h0 (fun v h L => v = none ∧ Fr n0 L ∧ h = h0) := by
  refine Pays.of (plainFor_of_name (by first | (simp [plainName, overriddenIn]; done) | decide +kernel)) ?_
  intro p e s m below meth c s₁ hx hby hml hown hnm hret hlk hZ e0 X0
  have N0 := Fr.nil n0
  have K0 : Keep h0 h0 [] := Keep.refl _ _
  refine Goes.go (U' := (s₁.setTop (mkF m 0 #[sI_ xo, sI_ xc, sR_ b] []))) (fun t kt => castTop (ef_rm_cbo m xo xc b) kt) ?_
  refine Goes.go (U' := (s₁.setTop (mkF m 3 #[sI_ xo, sI_ xc, sR_ b] [(.ref b), (.int xc), (.int xo)]))) (fun t kt => ?_) ?_
  · skip
    refine XS.iloadN X0.here hx rfl (hb hby d_rm_cbo_0) rfl ?_
    refine XS.iloadN X0.here hx rfl (hb hby d_rm_cbo_1) rfl ?_
    refine XS.aloadN X0.here hx rfl (hb hby d_rm_cbo_2) rfl rfl ?_
    exact kt
  obtain ⟨v_1, T_1, L_1, X_1, q_1, st_1⟩ := callStatic X0 hx hZ (y := (⟨"java/lang/StringUTF16", "length", "([B)I"⟩ : MethodName)) (W := 2) hown (wdOf hw 234 rfl) (wdOf hw 235 rfl) (wdOf hw 204 rfl) (wdOf hw 236 rfl) (by decide) (rm_ul l Z a0 hw [] kc sx b kb n vs h0 n0 Z0 G O Vb) (by decide) (by decide) (by decide) (by decide) e0 (g := (mkF m 3 #[sI_ xo, sI_ xc, sR_ b] [(.ref b), (.int xc), (.int xo)])) rfl (by rw [hml]; rfl) (argsL := [(.ref b)]) (rest := [(.int xc), (.int xo)]) (lenOf pd_1 rfl) rfl rfl (Nat.le_refl _) (hb hby d_rm_cbo_3)
  obtain ⟨rfl, n_1, K_1⟩ := q_1
  have N_1 := Fr.app N0 n_1
  refine Goes.go (U' := (T_1.setTop (mkF m 6 #[sI_ xo, sI_ xc, sR_ b] [(.int (n >>> ((1 : Int32) &&& 31))), (.int xc), (.int xo)]))) st_1 ?_
  obtain ⟨v_2, T_2, L_2, X_2, q_2, st_2⟩ := callStatic X_1 hx hZ (y := (⟨"java/lang/String", "checkBoundsOffCount", "(III)I"⟩ : MethodName)) (W := 0) hown (wdOf hw 237 rfl) (wdOf hw 238 rfl) (wdOf hw 23 rfl) (wdOf hw 239 rfl) (by decide) (rm_scb l Z a0 hw [] kc sx xo xc (n >>> ((1 : Int32) &&& 31)) h0 n0 Z0 G O h1 h2) (by decide) (by decide) (by decide) (by decide) K_1 (g := (mkF m 6 #[sI_ xo, sI_ xc, sR_ b] [(.int (n >>> ((1 : Int32) &&& 31))), (.int xc), (.int xo)])) rfl (by rw [hml]; rfl) (argsL := [(.int xo), (.int xc), (.int (n >>> ((1 : Int32) &&& 31)))]) (rest := []) (lenOf pd_2 rfl) rfl rfl (Nat.le_refl _) (hb hby d_rm_cbo_6)
  obtain ⟨rfl, n_2, K_2⟩ := q_2
  have N_2 := Fr.app N_1 n_2
  refine Goes.go (U' := (T_2.setTop (mkF m 9 #[sI_ xo, sI_ xc, sR_ b] [(.int xo)]))) st_2 ?_
  refine Goes.go (U' := (T_2.setTop (mkF m 10 #[sI_ xo, sI_ xc, sR_ b] []))) (fun t kt => ?_) ?_
  · skip
    refine XS.pop X_2.here hx rfl (hb hby d_rm_cbo_9) rfl rfl ?_
    exact kt
  refine Goes.retV X_2 hx hlk hret (hb hby d_rm_cbo_10) (by decide) (by decide) ?_
  try rw [K_2]
  exact ⟨rfl, N_2, rfl⟩
theorem d_rm_pci_0 : decode jdk_41_method_11_code 0 = .ok (.iload_n 0, 1) := by decide +kernel
theorem d_rm_pci_1 : decode jdk_41_method_11_code 1 = .ok (.ifCond .lt 8, 3) := by decide +kernel
theorem d_rm_pci_4 : decode jdk_41_method_11_code 4 = .ok (.iload_n 0, 1) := by decide +kernel
theorem d_rm_pci_5 : decode jdk_41_method_11_code 5 = .ok (.iload_n 1, 1) := by decide +kernel
theorem d_rm_pci_6 : decode jdk_41_method_11_code 6 = .ok (.if_icmp .lt 10, 3) := by decide +kernel
theorem d_rm_pci_16 : decode jdk_41_method_11_code 16 = .ok (.iload_n 0, 1) := by decide +kernel
theorem d_rm_pci_17 : decode jdk_41_method_11_code 17 = .ok (.ireturn, 1) := by decide +kernel
set_option maxHeartbeats 4000000 in
theorem ef_rm_pci (m : MethodId) (x0 : Int32) (x1 : Int32) (x2 : Value) (rx2 : x2.isRef = true) : entryFrame m #[(.int x0), (.int x1), x2] 3 = mkF m 0 #[.val (.int x0), .val (.int x1), .val x2] [] := by simp [entryFrame, mkF, argsToLocals, catR, catN, catI, catJ, XT.cat1 rx2]
set_option maxRecDepth 65536 in
set_option maxHeartbeats 40000000 in
theorem rm_pci (l : Launch) (Z : State) (a0 : Array Value) (hw : ∀ d ∈ tables_1, d.before a0 Z = true) (ws : List Jvm.Cond) (kc : Int32) (sx : Value) (xi xn : Int32) (h0 : Heap) (n0 : Nat) (Z0 : n0 ≤ h0.size) (G : Stt Z kc sx) (O : Old Z n0 h0)  (h1 : ¬ xi < 0) (h2 : xi < xn) :
    Pays l Z (⟨"jdk/internal/util/Preconditions", "checkIndex", "(IILjava/util/function/BiFunction;)I"⟩ : MethodName) jdk_41_method_11_code 3 (some .int) ws ({ frames := 0, cells := 0, slots := 0, locals := 0 } : Room) #[(.int xi), (.int xn), sx] h0 (fun v h L => v = some (.int xi) ∧ Fr n0 L ∧ h = h0) := by
  refine Pays.of (plainFor_of_name (by first | (simp [plainName, overriddenIn]; done) | decide +kernel)) ?_
  intro p e s m below meth c s₁ hx hby hml hown hnm hret hlk hZ e0 X0
  have N0 := Fr.nil n0
  have K0 : Keep h0 h0 [] := Keep.refl _ _
  refine Goes.go (U' := (s₁.setTop (mkF m 0 #[sI_ xi, sI_ xn, .val sx] []))) (fun t kt => castTop (ef_rm_pci m xi xn sx G.2.2.2.1) kt) ?_
  refine Goes.go (U' := (s₁.setTop (mkF m 17 #[sI_ xi, sI_ xn, .val sx] [(.int xi)]))) (fun t kt => ?_) ?_
  · skip
    refine XS.iloadN X0.here hx rfl (hb hby d_rm_pci_0) rfl ?_
    refine XS.ifNo X0.here hx rfl (hb hby d_rm_pci_1) rfl (XT.i0_lt_f h1) ?_
    refine XS.iloadN X0.here hx rfl (hb hby d_rm_pci_4) rfl ?_
    refine XS.iloadN X0.here hx rfl (hb hby d_rm_pci_5) rfl ?_
    refine XS.icmpYes X0.here hx rfl (pc0 := 6) (pc' := 16) rfl (hb hby d_rm_pci_6) rfl (XT.ii_lt_t h2) (by decide) (by decide) ?_
    refine XS.iloadN X0.here hx rfl (hb hby d_rm_pci_16) rfl ?_
    exact kt
  refine Goes.retI X0 hx hlk hret (hb hby d_rm_pci_17) (by decide) (by decide) ?_
  try rw [e0]
  exact ⟨rfl, N0, rfl⟩
theorem d_rm_ci_0 : decode jdk_42_method_155_code 0 = .ok (.iload_n 0, 1) := by decide +kernel
theorem d_rm_ci_1 : decode jdk_42_method_155_code 1 = .ok (.iload_n 1, 1) := by decide +kernel
theorem d_rm_ci_2 : decode jdk_42_method_155_code 2 = .ok (.getstatic 1053, 3) := by decide +kernel
theorem d_rm_ci_5 : decode jdk_42_method_155_code 5 = .ok (.invokestatic 1059, 3) := by decide +kernel
theorem d_rm_ci_8 : decode jdk_42_method_155_code 8 = .ok (.pop, 1) := by decide +kernel
theorem d_rm_ci_9 : decode jdk_42_method_155_code 9 = .ok (.return_, 1) := by decide +kernel
set_option maxHeartbeats 4000000 in
theorem ef_rm_ci (m : MethodId) (x0 : Int32) (x1 : Int32)  : entryFrame m #[(.int x0), (.int x1)] 2 = mkF m 0 #[.val (.int x0), .val (.int x1)] [] := by first | (simp [entryFrame, mkF, argsToLocals, catR, catN, catI, catJ]; done) | rfl
set_option maxRecDepth 65536 in
set_option maxHeartbeats 40000000 in
theorem rm_ci (l : Launch) (Z : State) (a0 : Array Value) (hw : ∀ d ∈ tables_1, d.before a0 Z = true) (ws : List Jvm.Cond) (kc : Int32) (sx : Value) (xi xn : Int32) (h0 : Heap) (n0 : Nat) (Z0 : n0 ≤ h0.size) (G : Stt Z kc sx) (O : Old Z n0 h0)  (h1 : ¬ xi < 0) (h2 : xi < xn) :
    Pays l Z (⟨"java/lang/String", "checkIndex", "(II)V"⟩ : MethodName) jdk_42_method_155_code 2 none ws ({ frames := 1, cells := 0, slots := 0, locals := 14 } : Room) #[(.int xi), (.int xn)] h0 (fun v h L => v = none ∧ Fr n0 L ∧ h = h0) := by
  refine Pays.of (plainFor_of_name (by first | (simp [plainName, overriddenIn]; done) | decide +kernel)) ?_
  intro p e s m below meth c s₁ hx hby hml hown hnm hret hlk hZ e0 X0
  have N0 := Fr.nil n0
  have K0 : Keep h0 h0 [] := Keep.refl _ _
  refine Goes.go (U' := (s₁.setTop (mkF m 0 #[sI_ xi, sI_ xn] []))) (fun t kt => castTop (ef_rm_ci m xi xn) kt) ?_
  refine Goes.go (U' := (s₁.setTop (mkF m 2 #[sI_ xi, sI_ xn] [(.int xn), (.int xi)]))) (fun t kt => ?_) ?_
  · skip
    refine XS.iloadN X0.here hx rfl (hb hby d_rm_ci_0) rfl ?_
    refine XS.iloadN X0.here hx rfl (hb hby d_rm_ci_1) rfl ?_
    exact kt
  obtain ⟨T_1, X_1, e_1, st_1⟩ := getS X0 hx hZ hown (host := "") (wdOf hw 193 rfl) Via.refl e0 (G.2.2.1.ext O.2) (g := (mkF m 2 #[sI_ xi, sI_ xn] [(.int xn), (.int xi)])) rfl (hb hby d_rm_ci_2)
  refine Goes.go (U' := (T_1.setTop (mkF m 5 #[sI_ xi, sI_ xn] [sx, (.int xn), (.int xi)]))) st_1 ?_
  obtain ⟨v_2, T_2, L_2, X_2, q_2, st_2⟩ := callStatic X_1 hx hZ (y := (⟨"jdk/internal/util/Preconditions", "checkIndex", "(IILjava/util/function/BiFunction;)I"⟩ : MethodName)) (W := 0) hown (wdOf hw 195 rfl) (wdOf hw 196 rfl) (wdOf hw 194 rfl) (wdOf hw 197 rfl) (by decide) (rm_pci l Z a0 hw [] kc sx xi xn h0 n0 Z0 G O h1 h2) (by decide) (by decide) (by decide) (by decide) e_1 (g := (mkF m 5 #[sI_ xi, sI_ xn] [sx, (.int xn), (.int xi)])) rfl (by rw [hml]; rfl) (argsL := [(.int xi), (.int xn), sx]) (rest := []) (lenOf pd_3 rfl) rfl rfl (Nat.le_refl _) (hb hby d_rm_ci_5)
  obtain ⟨rfl, n_2, K_2⟩ := q_2
  have N_2 := Fr.app N0 n_2
  refine Goes.go (U' := (T_2.setTop (mkF m 8 #[sI_ xi, sI_ xn] [(.int xi)]))) st_2 ?_
  refine Goes.go (U' := (T_2.setTop (mkF m 9 #[sI_ xi, sI_ xn] []))) (fun t kt => ?_) ?_
  · skip
    refine XS.pop X_2.here hx rfl (hb hby d_rm_ci_8) rfl rfl ?_
    exact kt
  refine Goes.retV X_2 hx hlk hret (hb hby d_rm_ci_9) (by decide) (by decide) ?_
  try rw [K_2]
  exact ⟨rfl, N_2, rfl⟩
theorem d_rm_uci_0 : decode jdk_52_method_91_code 0 = .ok (.iload_n 0, 1) := by decide +kernel
theorem d_rm_uci_1 : decode jdk_52_method_91_code 1 = .ok (.aload_n 1, 1) := by decide +kernel
theorem d_rm_uci_2 : decode jdk_52_method_91_code 2 = .ok (.invokestatic 48, 3) := by decide +kernel
theorem d_rm_uci_5 : decode jdk_52_method_91_code 5 = .ok (.invokestatic 414, 3) := by decide +kernel
theorem d_rm_uci_8 : decode jdk_52_method_91_code 8 = .ok (.return_, 1) := by decide +kernel
set_option maxHeartbeats 4000000 in
theorem ef_rm_uci (m : MethodId) (x0 : Int32) (x1 : Addr)  : entryFrame m #[(.int x0), (.ref x1)] 2 = mkF m 0 #[.val (.int x0), .val (.ref x1)] [] := by first | (simp [entryFrame, mkF, argsToLocals, catR, catN, catI, catJ]; done) | rfl
set_option maxRecDepth 65536 in
set_option maxHeartbeats 40000000 in
theorem rm_uci (l : Launch) (Z : State) (a0 : Array Value) (hw : ∀ d ∈ tables_1, d.before a0 Z = true) (ws : List Jvm.Cond) (kc : Int32) (sx : Value) (xi : Int32) (b : Addr) (kb : ClassId) (n : Int32) (vs : List Value) (h0 : Heap) (n0 : Nat) (Z0 : n0 ≤ h0.size) (G : Stt Z kc sx) (O : Old Z n0 h0) (Vb : Arv Z h0 b kb .byte n vs (.int (0 : Int32))) (h1 : ¬ xi < 0) (h2 : xi < (n >>> ((1 : Int32) &&& 31))) :
    Pays l Z (⟨"java/lang/StringUTF16", "checkIndex", "(I[B)V"⟩ : MethodName) jdk_52_method_91_code 2 none ws ({ frames := 2, cells := 0, slots := 0, locals := 27 } : Room) #[(.int xi), (.ref b)] h0 (fun v h L => v = none ∧ Fr n0 L ∧ h = h0) := by
  refine Pays.of (plainFor_of_name (by first | (simp [plainName, overriddenIn]; done) | decide +kernel)) ?_
  intro p e s m below meth c s₁ hx hby hml hown hnm hret hlk hZ e0 X0
  have N0 := Fr.nil n0
  have K0 : Keep h0 h0 [] := Keep.refl _ _
  refine Goes.go (U' := (s₁.setTop (mkF m 0 #[sI_ xi, sR_ b] []))) (fun t kt => castTop (ef_rm_uci m xi b) kt) ?_
  refine Goes.go (U' := (s₁.setTop (mkF m 2 #[sI_ xi, sR_ b] [(.ref b), (.int xi)]))) (fun t kt => ?_) ?_
  · skip
    refine XS.iloadN X0.here hx rfl (hb hby d_rm_uci_0) rfl ?_
    refine XS.aloadN X0.here hx rfl (hb hby d_rm_uci_1) rfl rfl ?_
    exact kt
  obtain ⟨v_1, T_1, L_1, X_1, q_1, st_1⟩ := callStatic X0 hx hZ (y := (⟨"java/lang/StringUTF16", "length", "([B)I"⟩ : MethodName)) (W := 1) hown (wdOf hw 234 rfl) (wdOf hw 235 rfl) (wdOf hw 204 rfl) (wdOf hw 236 rfl) (by decide) (rm_ul l Z a0 hw [] kc sx b kb n vs h0 n0 Z0 G O Vb) (by decide) (by decide) (by decide) (by decide) e0 (g := (mkF m 2 #[sI_ xi, sR_ b] [(.ref b), (.int xi)])) rfl (by rw [hml]; rfl) (argsL := [(.ref b)]) (rest := [(.int xi)]) (lenOf pd_1 rfl) rfl rfl (Nat.le_refl _) (hb hby d_rm_uci_2)
  obtain ⟨rfl, n_1, K_1⟩ := q_1
  have N_1 := Fr.app N0 n_1
  refine Goes.go (U' := (T_1.setTop (mkF m 5 #[sI_ xi, sR_ b] [(.int (n >>> ((1 : Int32) &&& 31))), (.int xi)]))) st_1 ?_
  obtain ⟨v_2, T_2, L_2, X_2, q_2, st_2⟩ := callStatic X_1 hx hZ (y := (⟨"java/lang/String", "checkIndex", "(II)V"⟩ : MethodName)) (W := 0) hown (wdOf hw 252 rfl) (wdOf hw 191 rfl) (wdOf hw 23 rfl) (wdOf hw 192 rfl) (by decide) (rm_ci l Z a0 hw [] kc sx xi (n >>> ((1 : Int32) &&& 31)) h0 n0 Z0 G O h1 h2) (by decide) (by decide) (by decide) (by decide) K_1 (g := (mkF m 5 #[sI_ xi, sR_ b] [(.int (n >>> ((1 : Int32) &&& 31))), (.int xi)])) rfl (by rw [hml]; rfl) (argsL := [(.int xi), (.int (n >>> ((1 : Int32) &&& 31)))]) (rest := []) (lenOf pd_4 rfl) rfl rfl (Nat.le_refl _) (hb hby d_rm_uci_5)
  obtain ⟨rfl, n_2, K_2⟩ := q_2
  have N_2 := Fr.app N_1 n_2
  refine Goes.go (U' := (T_2.setTop (mkF m 8 #[sI_ xi, sR_ b] []))) st_2 ?_
  refine Goes.retV X_2 hx hlk hret (hb hby d_rm_uci_8) (by decide) (by decide) ?_
  try rw [K_2]
  exact ⟨rfl, N_2, rfl⟩
theorem d_rm_tb0_0 : decode jdk_43_method_46_code 0 = .ok (.iconst 1, 1) := by decide +kernel
theorem d_rm_tb0_1 : decode jdk_43_method_46_code 1 = .ok (.newarray .byte, 2) := by decide +kernel
theorem d_rm_tb0_3 : decode jdk_43_method_46_code 3 = .ok (.dup, 1) := by decide +kernel
theorem d_rm_tb0_4 : decode jdk_43_method_46_code 4 = .ok (.iconst 0, 1) := by decide +kernel
theorem d_rm_tb0_5 : decode jdk_43_method_46_code 5 = .ok (.iload_n 0, 1) := by decide +kernel
theorem d_rm_tb0_6 : decode jdk_43_method_46_code 6 = .ok (.i2b, 1) := by decide +kernel
theorem d_rm_tb0_7 : decode jdk_43_method_46_code 7 = .ok (.bastore, 1) := by decide +kernel
theorem d_rm_tb0_8 : decode jdk_43_method_46_code 8 = .ok (.areturn, 1) := by decide +kernel
set_option maxHeartbeats 4000000 in
theorem ef_rm_tb0 (m : MethodId) (x0 : Int32)  : entryFrame m #[(.int x0)] 1 = mkF m 0 #[.val (.int x0)] [] := by first | (simp [entryFrame, mkF, argsToLocals, catR, catN, catI, catJ]; done) | rfl
set_option maxRecDepth 65536 in
set_option maxHeartbeats 40000000 in
theorem rm_tb0 (l : Launch) (Z : State) (a0 : Array Value) (hw : ∀ d ∈ tables_1, d.before a0 Z = true) (ws : List Jvm.Cond) (kc : Int32) (sx : Value) (xc : Int32) (h0 : Heap) (n0 : Nat) (Z0 : n0 ≤ h0.size) (G : Stt Z kc sx) (O : Old Z n0 h0)   :
    Pays l Z (⟨"java/lang/StringLatin1", "toBytes", "(C)[B"⟩ : MethodName) jdk_43_method_46_code 1 (some (.array .byte)) ws ({ frames := 0, cells := 1, slots := 1, locals := 0 } : Room) #[(.int xc)] h0 (fun v h L => ∃ r kb, v = some (.ref r) ∧ Fr n0 L ∧ Ext h0 h ∧ h0.size ≤ r ∧ Arv Z h r kb .byte (1 : Int32) (L1 [xc]) (.int (0 : Int32))) := by
  refine Pays.of (plainFor_of_name (by first | (simp [plainName, overriddenIn]; done) | decide +kernel)) ?_
  intro p e s m below meth c s₁ hx hby hml hown hnm hret hlk hZ e0 X0
  have N0 := Fr.nil n0
  have K0 : Keep h0 h0 [] := Keep.refl _ _
  refine Goes.go (U' := (s₁.setTop (mkF m 0 #[sI_ xc] []))) (fun t kt => castTop (ef_rm_tb0 m xc) kt) ?_
  refine Goes.go (U' := (s₁.setTop (mkF m 1 #[sI_ xc] [(.int (1 : Int32))]))) (fun t kt => ?_) ?_
  · skip
    refine XS.iconst X0.here hx rfl (hb hby d_rm_tb0_0) ?_
    exact kt
  obtain ⟨T_1, h_1, k_1, X_1, e_1, E_1, A_1, st_1⟩ := newP X0 hx hZ (wdOf hw 24 rfl) e0 (g := (mkF m 1 #[sI_ xc] [(.int (1 : Int32))])) rfl (hb hby d_rm_tb0_1) rfl (by decide) (cap := 1) (by decide) (by decide) (by decide) (by decide)
  obtain ⟨b_1, g_1⟩ : ∃ z, z = h0.size := ⟨_, rfl⟩
  rw [← g_1] at A_1 st_1
  have o_1 : n0 ≤ b_1 := Nat.le_trans Z0 (Nat.le_of_eq g_1.symm)
  have z_1 : h0.size ≤ b_1 := Nat.le_trans K0.1 (Nat.le_of_eq g_1.symm)
  have f_2 : Old Z n0 h_1 := O.ext E_1
  have V_1 : Arv Z h_1 b_1 k_1 .byte (1 : Int32) [(.int (0 : Int32))] (.int (0 : Int32)) := (Arv.new A_1 (by decide)).pad (pad_rep [] (.int (0 : Int32)) 1)
  have K_3 : Keep h0 h_1 [] := K0.ext E_1
  have y_3 : n0 ≤ h_1.size := Nat.le_trans Z0 K_3.1
  refine Goes.go (U' := (T_1.setTop (mkF m 3 #[sI_ xc] [(.ref b_1)]))) st_1 ?_
  refine Goes.go (U' := (T_1.setTop (mkF m 7 #[sI_ xc] [(.int (xc.toInt8.toInt32)), (.int (0 : Int32)), (.ref b_1), (.ref b_1)]))) (fun t kt => ?_) ?_
  · skip
    refine XS.dup X_1.here hx rfl (hb hby d_rm_tb0_3) rfl rfl ?_
    refine XS.iconst X_1.here hx rfl (hb hby d_rm_tb0_4) ?_
    refine XS.iloadN X_1.here hx rfl (hb hby d_rm_tb0_5) rfl ?_
    refine XS.i2b X_1.here hx rfl (hb hby d_rm_tb0_6) rfl ?_
    exact kt
  obtain ⟨cl_4, Ar_4, q_4, S_4, M_4, H_4, G_4⟩ := id V_1
  have hin_4 : ¬ ((0 : Int32) < 0 ∨ cl_4.slots.size ≤ ((0 : Int32)).toNatClampNeg) := inb_of S_4 ⟨by decide, by decide⟩
  obtain ⟨T_4, h_4, X_4, e_4, W_4, st_4⟩ := stB X_1 hx hZ e_1 Ar_4 (j := (0 : Int32)) hin_4 (g := (mkF m 7 #[sI_ xc] [(.int (xc.toInt8.toInt32)), (.int (0 : Int32)), (.ref b_1), (.ref b_1)])) rfl rfl (hb hby d_rm_tb0_7)
  have V_4 : Arv Z h_4 b_1 k_1 .byte (1 : Int32) [(.int (xc.toInt8.toInt32).toInt8.toInt32)] (.int (0 : Int32)) := Arv.set Ar_4 q_4 S_4 M_4 H_4 G_4 (fits_nar_byte _) W_4 0 rfl (Nat.le_of_ble_eq_true rfl)
  have N_4 := Fr.snoc X_4 N0 o_1
  have f_5 : Old Z n0 h_4 := f_2.wr W_4 o_1
  have K_7 : Keep h0 h_4 [] := K_3.wr W_4 (Or.inr z_1)
  have y_7 : n0 ≤ h_4.size := Nat.le_trans Z0 K_7.1
  refine Goes.go (U' := (T_4.setTop (mkF m 8 #[sI_ xc] [(.ref b_1)]))) st_4 ?_
  refine Goes.retA X_4 hx hlk hret rfl rfl (hb hby d_rm_tb0_8) (by decide) (by decide) ?_
  try rw [e_4]
  exact ⟨_, _, rfl, N_4, Ext.of_keep K_7, z_1, L1one V_4⟩
theorem d_rm_pc_0 : decode jdk_52_method_4_code 0 = .ok (.getstatic 44, 3) := by decide +kernel
theorem d_rm_pc_3 : decode jdk_52_method_4_code 3 = .ok (.ifCond .ne 25, 3) := by decide +kernel
theorem d_rm_pc_28 : decode jdk_52_method_4_code 28 = .ok (.iload_n 1, 1) := by decide +kernel
theorem d_rm_pc_29 : decode jdk_52_method_4_code 29 = .ok (.iconst 1, 1) := by decide +kernel
theorem d_rm_pc_30 : decode jdk_52_method_4_code 30 = .ok (.ishl, 1) := by decide +kernel
theorem d_rm_pc_31 : decode jdk_52_method_4_code 31 = .ok (.istore_n 1, 1) := by decide +kernel
theorem d_rm_pc_32 : decode jdk_52_method_4_code 32 = .ok (.aload_n 0, 1) := by decide +kernel
theorem d_rm_pc_33 : decode jdk_52_method_4_code 33 = .ok (.iload_n 1, 1) := by decide +kernel
theorem d_rm_pc_34 : decode jdk_52_method_4_code 34 = .ok (.iinc 1 1, 3) := by decide +kernel
theorem d_rm_pc_37 : decode jdk_52_method_4_code 37 = .ok (.iload_n 2, 1) := by decide +kernel
theorem d_rm_pc_38 : decode jdk_52_method_4_code 38 = .ok (.getstatic 59, 3) := by decide +kernel
theorem d_rm_pc_41 : decode jdk_52_method_4_code 41 = .ok (.ishr, 1) := by decide +kernel
theorem d_rm_pc_42 : decode jdk_52_method_4_code 42 = .ok (.i2b, 1) := by decide +kernel
theorem d_rm_pc_43 : decode jdk_52_method_4_code 43 = .ok (.bastore, 1) := by decide +kernel
theorem d_rm_pc_44 : decode jdk_52_method_4_code 44 = .ok (.aload_n 0, 1) := by decide +kernel
theorem d_rm_pc_45 : decode jdk_52_method_4_code 45 = .ok (.iload_n 1, 1) := by decide +kernel
theorem d_rm_pc_46 : decode jdk_52_method_4_code 46 = .ok (.iload_n 2, 1) := by decide +kernel
theorem d_rm_pc_47 : decode jdk_52_method_4_code 47 = .ok (.getstatic 63, 3) := by decide +kernel
theorem d_rm_pc_50 : decode jdk_52_method_4_code 50 = .ok (.ishr, 1) := by decide +kernel
theorem d_rm_pc_51 : decode jdk_52_method_4_code 51 = .ok (.i2b, 1) := by decide +kernel
theorem d_rm_pc_52 : decode jdk_52_method_4_code 52 = .ok (.bastore, 1) := by decide +kernel
theorem d_rm_pc_53 : decode jdk_52_method_4_code 53 = .ok (.return_, 1) := by decide +kernel
set_option maxHeartbeats 4000000 in
theorem ef_rm_pc (m : MethodId) (x0 : Addr) (x1 : Int32) (x2 : Int32)  : entryFrame m #[(.ref x0), (.int x1), (.int x2)] 3 = mkF m 0 #[.val (.ref x0), .val (.int x1), .val (.int x2)] [] := by first | (simp [entryFrame, mkF, argsToLocals, catR, catN, catI, catJ]; done) | rfl
set_option maxRecDepth 65536 in
set_option maxHeartbeats 40000000 in
theorem rm_pc (l : Launch) (Z : State) (a0 : Array Value) (hw : ∀ d ∈ tables_1, d.before a0 Z = true) (ws : List Jvm.Cond) (kc : Int32) (sx : Value) (b : Addr) (kb : ClassId) (j xc n : Int32) (zs : List Int32) (h0 : Heap) (n0 : Nat) (Z0 : n0 ≤ h0.size) (G : Stt Z kc sx) (O : Old Z n0 h0) (Vb : Arv Z h0 b kb .byte n (U2 zs) (.int (0 : Int32))) (o0 : n0 ≤ b) (hj : Sz j zs.length) (hn : 2 * zs.length + 2 ≤ n.toNatClampNeg) :
    Pays l Z (⟨"java/lang/StringUTF16", "putChar", "([BII)V"⟩ : MethodName) jdk_52_method_4_code 3 none ws ({ frames := 0, cells := 0, slots := 0, locals := 0 } : Room) #[(.ref b), (.int j), (.int xc)] h0 (fun v h L => v = none ∧ Fr n0 L ∧ Keep h0 h [b] ∧ Arv Z h b kb .byte n (U2 (zs ++ [xc])) (.int (0 : Int32))) := by
  refine Pays.of (plainFor_of_name (by first | (simp [plainName, overriddenIn]; done) | decide +kernel)) ?_
  intro p e s m below meth c s₁ hx hby hml hown hnm hret hlk hZ e0 X0
  have N0 := Fr.nil n0
  have K0 : Keep h0 h0 [b] := Keep.refl _ _
  refine Goes.go (U' := (s₁.setTop (mkF m 0 #[sR_ b, sI_ j, sI_ xc] []))) (fun t kt => castTop (ef_rm_pc m b j xc) kt) ?_
  obtain ⟨T_1, X_1, e_1, st_1⟩ := getS X0 hx hZ hown (host := "") (wdOf hw 209 rfl) Via.refl e0 (G.2.2.2.2.1.ext O.2) (g := (mkF m 0 #[sR_ b, sI_ j, sI_ xc] [])) rfl (hb hby d_rm_pc_0)
  refine Goes.go (U' := (T_1.setTop (mkF m 3 #[sR_ b, sI_ j, sI_ xc] [(.int (1 : Int32))]))) st_1 ?_
  refine Goes.go (U' := (T_1.setTop (mkF m 38 #[sR_ b, sI_ ((j <<< ((1 : Int32) &&& 31)) + (1 : Int32)), sI_ xc] [(.int xc), (.int (j <<< ((1 : Int32) &&& 31))), (.ref b)]))) (fun t kt => ?_) ?_
  · skip
    refine XS.ifYes X_1.here hx rfl (pc0 := 3) (pc' := 28) rfl (hb hby d_rm_pc_3) rfl (XT.i0_ne_t (by decide)) (by decide) (by decide) ?_
    refine XS.iloadN X_1.here hx rfl (hb hby d_rm_pc_28) rfl ?_
    refine XS.iconst X_1.here hx rfl (hb hby d_rm_pc_29) ?_
    refine XS.ishl X_1.here hx rfl (hb hby d_rm_pc_30) rfl ?_
    refine XS.istoreN X_1.here hx rfl (hb hby d_rm_pc_31) rfl (l' := #[sR_ b, sI_ (j <<< ((1 : Int32) &&& 31)), sI_ xc]) rfl ?_
    refine XS.aloadN X_1.here hx rfl (hb hby d_rm_pc_32) rfl rfl ?_
    refine XS.iloadN X_1.here hx rfl (hb hby d_rm_pc_33) rfl ?_
    refine XS.iinc X_1.here hx rfl (hb hby d_rm_pc_34) rfl (l' := #[sR_ b, sI_ ((j <<< ((1 : Int32) &&& 31)) + (1 : Int32)), sI_ xc]) rfl ?_
    show Steps p.tables e below (T_1.setTop (mkF m 37 #[sR_ b, sI_ ((j <<< ((1 : Int32) &&& 31)) + (1 : Int32)), sI_ xc] [(.int (j <<< ((1 : Int32) &&& 31))), (.ref b)])) t
    refine XS.iloadN X_1.here hx rfl (hb hby d_rm_pc_37) rfl ?_
    exact kt
  obtain ⟨T_2, X_2, e_2, st_2⟩ := getS X_1 hx hZ hown (host := "") (wdOf hw 210 rfl) Via.refl e_1 (G.2.2.2.2.2.1.ext O.2) (g := (mkF m 38 #[sR_ b, sI_ ((j <<< ((1 : Int32) &&& 31)) + (1 : Int32)), sI_ xc] [(.int xc), (.int (j <<< ((1 : Int32) &&& 31))), (.ref b)])) rfl (hb hby d_rm_pc_38)
  refine Goes.go (U' := (T_2.setTop (mkF m 41 #[sR_ b, sI_ ((j <<< ((1 : Int32) &&& 31)) + (1 : Int32)), sI_ xc] [(.int (0 : Int32)), (.int xc), (.int (j <<< ((1 : Int32) &&& 31))), (.ref b)]))) st_2 ?_
  refine Goes.go (U' := (T_2.setTop (mkF m 43 #[sR_ b, sI_ ((j <<< ((1 : Int32) &&& 31)) + (1 : Int32)), sI_ xc] [(.int ((xc >>> ((0 : Int32) &&& 31)).toInt8.toInt32)), (.int (j <<< ((1 : Int32) &&& 31))), (.ref b)]))) (fun t kt => ?_) ?_
  · skip
    refine XS.ishr X_2.here hx rfl (hb hby d_rm_pc_41) rfl ?_
    refine XS.i2b X_2.here hx rfl (hb hby d_rm_pc_42) rfl ?_
    exact kt
  obtain ⟨cl_3, Ar_3, q_3, S_3, M_3, H_3, G_3⟩ := id Vb
  have hj_3 : ((j <<< ((1 : Int32) &&& 31))).toNatClampNeg = ((U2 zs) : List Value).length := (hj.shl1.trans (U2_len _).symm)
  have hin_3 : ¬ ((j <<< ((1 : Int32) &&& 31)) < 0 ∨ cl_3.slots.size ≤ ((j <<< ((1 : Int32) &&& 31))).toNatClampNeg) := inN S_3 hj.shl1p hj_3 (by rw [U2_len]; omega)
  obtain ⟨T_3, h_3, X_3, e_3, W_3, st_3⟩ := stB X_2 hx hZ e_2 Ar_3 (j := (j <<< ((1 : Int32) &&& 31))) hin_3 (g := (mkF m 43 #[sR_ b, sI_ ((j <<< ((1 : Int32) &&& 31)) + (1 : Int32)), sI_ xc] [(.int ((xc >>> ((0 : Int32) &&& 31)).toInt8.toInt32)), (.int (j <<< ((1 : Int32) &&& 31))), (.ref b)])) rfl rfl (hb hby d_rm_pc_43)
  have V_3 : Arv Z h_3 b kb .byte n ((U2 zs) ++ [(.int ((xc >>> ((0 : Int32) &&& 31)).toInt8.toInt32).toInt8.toInt32)]) (.int (0 : Int32)) := Arv.snoc Ar_3 q_3 S_3 M_3 H_3 G_3 (fits_nar_byte _) W_3 hj_3
  have N_3 := Fr.snoc X_3 N0 o0
  have f_4 : Old Z n0 h_3 := O.wr W_3 o0
  have K_6 : Keep h0 h_3 [b] := K0.wr W_3 (Or.inl (List.mem_of_getElem? (i := 0) rfl))
  have y_6 : n0 ≤ h_3.size := Nat.le_trans Z0 K_6.1
  refine Goes.go (U' := (T_3.setTop (mkF m 44 #[sR_ b, sI_ ((j <<< ((1 : Int32) &&& 31)) + (1 : Int32)), sI_ xc] []))) st_3 ?_
  refine Goes.go (U' := (T_3.setTop (mkF m 47 #[sR_ b, sI_ ((j <<< ((1 : Int32) &&& 31)) + (1 : Int32)), sI_ xc] [(.int xc), (.int ((j <<< ((1 : Int32) &&& 31)) + (1 : Int32))), (.ref b)]))) (fun t kt => ?_) ?_
  · skip
    refine XS.aloadN X_3.here hx rfl (hb hby d_rm_pc_44) rfl rfl ?_
    refine XS.iloadN X_3.here hx rfl (hb hby d_rm_pc_45) rfl ?_
    refine XS.iloadN X_3.here hx rfl (hb hby d_rm_pc_46) rfl ?_
    exact kt
  obtain ⟨T_7, X_7, e_7, st_7⟩ := getS X_3 hx hZ hown (host := "") (wdOf hw 211 rfl) Via.refl e_3 (G.2.2.2.2.2.2.ext f_4.2) (g := (mkF m 47 #[sR_ b, sI_ ((j <<< ((1 : Int32) &&& 31)) + (1 : Int32)), sI_ xc] [(.int xc), (.int ((j <<< ((1 : Int32) &&& 31)) + (1 : Int32))), (.ref b)])) rfl (hb hby d_rm_pc_47)
  refine Goes.go (U' := (T_7.setTop (mkF m 50 #[sR_ b, sI_ ((j <<< ((1 : Int32) &&& 31)) + (1 : Int32)), sI_ xc] [(.int (8 : Int32)), (.int xc), (.int ((j <<< ((1 : Int32) &&& 31)) + (1 : Int32))), (.ref b)]))) st_7 ?_
  refine Goes.go (U' := (T_7.setTop (mkF m 52 #[sR_ b, sI_ ((j <<< ((1 : Int32) &&& 31)) + (1 : Int32)), sI_ xc] [(.int ((xc >>> ((8 : Int32) &&& 31)).toInt8.toInt32)), (.int ((j <<< ((1 : Int32) &&& 31)) + (1 : Int32))), (.ref b)]))) (fun t kt => ?_) ?_
  · skip
    refine XS.ishr X_7.here hx rfl (hb hby d_rm_pc_50) rfl ?_
    refine XS.i2b X_7.here hx rfl (hb hby d_rm_pc_51) rfl ?_
    exact kt
  obtain ⟨cl_8, Ar_8, q_8, S_8, M_8, H_8, G_8⟩ := id V_3
  have hj_8 : (((j <<< ((1 : Int32) &&& 31)) + (1 : Int32))).toNatClampNeg = (((U2 zs) ++ [(.int ((xc >>> ((0 : Int32) &&& 31)).toInt8.toInt32).toInt8.toInt32)]) : List Value).length := (by rw [List.length_append, U2_len]; exact hj.shl1s)
  have hin_8 : ¬ (((j <<< ((1 : Int32) &&& 31)) + (1 : Int32)) < 0 ∨ cl_8.slots.size ≤ (((j <<< ((1 : Int32) &&& 31)) + (1 : Int32))).toNatClampNeg) := inN S_8 hj.shl1sp hj_8 (by simp only [List.length_append, U2_len, List.length_cons, List.length_nil]; omega)
  obtain ⟨T_8, h_8, X_8, e_8, W_8, st_8⟩ := stB X_7 hx hZ e_7 Ar_8 (j := ((j <<< ((1 : Int32) &&& 31)) + (1 : Int32))) hin_8 (g := (mkF m 52 #[sR_ b, sI_ ((j <<< ((1 : Int32) &&& 31)) + (1 : Int32)), sI_ xc] [(.int ((xc >>> ((8 : Int32) &&& 31)).toInt8.toInt32)), (.int ((j <<< ((1 : Int32) &&& 31)) + (1 : Int32))), (.ref b)])) rfl rfl (hb hby d_rm_pc_52)
  have V_8 : Arv Z h_8 b kb .byte n (((U2 zs) ++ [(.int ((xc >>> ((0 : Int32) &&& 31)).toInt8.toInt32).toInt8.toInt32)]) ++ [(.int ((xc >>> ((8 : Int32) &&& 31)).toInt8.toInt32).toInt8.toInt32)]) (.int (0 : Int32)) := Arv.snoc Ar_8 q_8 S_8 M_8 H_8 G_8 (fits_nar_byte _) W_8 hj_8
  have N_8 := Fr.snoc X_8 N_3 o0
  have f_9 : Old Z n0 h_8 := f_4.wr W_8 o0
  have K_11 : Keep h0 h_8 [b] := K_6.wr W_8 (Or.inl (List.mem_of_getElem? (i := 0) rfl))
  have y_11 : n0 ≤ h_8.size := Nat.le_trans Z0 K_11.1
  refine Goes.go (U' := (T_8.setTop (mkF m 53 #[sR_ b, sI_ ((j <<< ((1 : Int32) &&& 31)) + (1 : Int32)), sI_ xc] []))) st_8 ?_
  refine Goes.retV X_8 hx hlk hret (hb hby d_rm_pc_53) (by decide) (by decide) ?_
  try rw [e_8]
  exact ⟨rfl, N_8, K_11, Arv.list V_8 (U2_put zs xc)⟩
theorem d_rm_tb1_0 : decode jdk_52_method_24_code 0 = .ok (.iconst 2, 1) := by decide +kernel
theorem d_rm_tb1_1 : decode jdk_52_method_24_code 1 = .ok (.newarray .byte, 2) := by decide +kernel
theorem d_rm_tb1_3 : decode jdk_52_method_24_code 3 = .ok (.astore_n 1, 1) := by decide +kernel
theorem d_rm_tb1_4 : decode jdk_52_method_24_code 4 = .ok (.aload_n 1, 1) := by decide +kernel
theorem d_rm_tb1_5 : decode jdk_52_method_24_code 5 = .ok (.iconst 0, 1) := by decide +kernel
theorem d_rm_tb1_6 : decode jdk_52_method_24_code 6 = .ok (.iload_n 0, 1) := by decide +kernel
theorem d_rm_tb1_7 : decode jdk_52_method_24_code 7 = .ok (.invokestatic 111, 3) := by decide +kernel
theorem d_rm_tb1_10 : decode jdk_52_method_24_code 10 = .ok (.aload_n 1, 1) := by decide +kernel
theorem d_rm_tb1_11 : decode jdk_52_method_24_code 11 = .ok (.areturn, 1) := by decide +kernel
set_option maxHeartbeats 4000000 in
theorem ef_rm_tb1 (m : MethodId) (x0 : Int32)  : entryFrame m #[(.int x0)] 2 = mkF m 0 #[.val (.int x0), .unset] [] := by first | (simp [entryFrame, mkF, argsToLocals, catR, catN, catI, catJ]; done) | rfl
set_option maxRecDepth 65536 in
set_option maxHeartbeats 40000000 in
theorem rm_tb1 (l : Launch) (Z : State) (a0 : Array Value) (hw : ∀ d ∈ tables_1, d.before a0 Z = true) (ws : List Jvm.Cond) (kc : Int32) (sx : Value) (xc : Int32) (h0 : Heap) (n0 : Nat) (Z0 : n0 ≤ h0.size) (G : Stt Z kc sx) (O : Old Z n0 h0)   :
    Pays l Z (⟨"java/lang/StringUTF16", "toBytes", "(C)[B"⟩ : MethodName) jdk_52_method_24_code 2 (some (.array .byte)) ws ({ frames := 1, cells := 1, slots := 2, locals := 14 } : Room) #[(.int xc)] h0 (fun v h L => ∃ r kb, v = some (.ref r) ∧ Fr n0 L ∧ Ext h0 h ∧ h0.size ≤ r ∧ Arv Z h r kb .byte ((1 : Int32) <<< ((1 : Int32) &&& 31)) (U2 [xc]) (.int (0 : Int32))) := by
  refine Pays.of (plainFor_of_name (by first | (simp [plainName, overriddenIn]; done) | decide +kernel)) ?_
  intro p e s m below meth c s₁ hx hby hml hown hnm hret hlk hZ e0 X0
  have N0 := Fr.nil n0
  have K0 : Keep h0 h0 [] := Keep.refl _ _
  refine Goes.go (U' := (s₁.setTop (mkF m 0 #[sI_ xc, sU_] []))) (fun t kt => castTop (ef_rm_tb1 m xc) kt) ?_
  refine Goes.go (U' := (s₁.setTop (mkF m 1 #[sI_ xc, sU_] [(.int (2 : Int32))]))) (fun t kt => ?_) ?_
  · skip
    refine XS.iconst X0.here hx rfl (hb hby d_rm_tb1_0) ?_
    exact kt
  obtain ⟨T_1, h_1, k_1, X_1, e_1, E_1, A_1, st_1⟩ := newP X0 hx hZ (wdOf hw 24 rfl) e0 (g := (mkF m 1 #[sI_ xc, sU_] [(.int (2 : Int32))])) rfl (hb hby d_rm_tb1_1) rfl (by decide) (cap := 2) (by decide) (by decide) (by decide) (by decide)
  obtain ⟨b_1, g_1⟩ : ∃ z, z = h0.size := ⟨_, rfl⟩
  rw [← g_1] at A_1 st_1
  have o_1 : n0 ≤ b_1 := Nat.le_trans Z0 (Nat.le_of_eq g_1.symm)
  have z_1 : h0.size ≤ b_1 := Nat.le_trans K0.1 (Nat.le_of_eq g_1.symm)
  have f_2 : Old Z n0 h_1 := O.ext E_1
  have V_1 : Arv Z h_1 b_1 k_1 .byte (2 : Int32) [] (.int (0 : Int32)) := Arv.new A_1 (by decide)
  have K_3 : Keep h0 h_1 [] := K0.ext E_1
  have y_3 : n0 ≤ h_1.size := Nat.le_trans Z0 K_3.1
  refine Goes.go (U' := (T_1.setTop (mkF m 3 #[sI_ xc, sU_] [(.ref b_1)]))) st_1 ?_
  refine Goes.go (U' := (T_1.setTop (mkF m 7 #[sI_ xc, sR_ b_1] [(.int xc), (.int (0 : Int32)), (.ref b_1)]))) (fun t kt => ?_) ?_
  · skip
    refine XS.astoreN X_1.here hx rfl (hb hby d_rm_tb1_3) rfl rfl (l' := #[sI_ xc, sR_ b_1]) rfl ?_
    refine XS.aloadN X_1.here hx rfl (hb hby d_rm_tb1_4) rfl rfl ?_
    refine XS.iconst X_1.here hx rfl (hb hby d_rm_tb1_5) ?_
    refine XS.iloadN X_1.here hx rfl (hb hby d_rm_tb1_6) rfl ?_
    exact kt
  obtain ⟨v_4, T_4, L_4, X_4, q_4, st_4⟩ := callStatic X_1 hx hZ (y := (⟨"java/lang/StringUTF16", "putChar", "([BII)V"⟩ : MethodName)) (W := 0) hown (wdOf hw 206 rfl) (wdOf hw 207 rfl) (wdOf hw 204 rfl) (wdOf hw 208 rfl) (by decide) (rm_pc l Z a0 hw [] kc sx b_1 k_1 (0 : Int32) xc (2 : Int32) [] h_1 n0 y_3 G f_2 V_1 o_1 ⟨rfl, by first | decide | simp⟩ (by decide)) (by decide) (by decide) (by decide) (by decide) e_1 (g := (mkF m 7 #[sI_ xc, sR_ b_1] [(.int xc), (.int (0 : Int32)), (.ref b_1)])) rfl (by rw [hml]; rfl) (argsL := [(.ref b_1), (.int (0 : Int32)), (.int xc)]) (rest := []) (lenOf pd_5 rfl) rfl rfl (Nat.le_refl _) (hb hby d_rm_tb1_7)
  obtain ⟨rfl, n_4, K_4, V_4⟩ := q_4
  have N_4 := Fr.app N0 n_4
  have f_5 : Old Z n0 T_4.heap := f_2.keep K_4 (allS o_1 all0)
  have K_7 : Keep h0 T_4.heap [] := K_3.trans K_4 (allS (P := fun x => x ∈ [] ∨ h0.size ≤ x) (Or.inr z_1) all0)
  have y_7 : n0 ≤ T_4.heap.size := Nat.le_trans Z0 K_7.1
  refine Goes.go (U' := (T_4.setTop (mkF m 10 #[sI_ xc, sR_ b_1] []))) st_4 ?_
  refine Goes.go (U' := (T_4.setTop (mkF m 11 #[sI_ xc, sR_ b_1] [(.ref b_1)]))) (fun t kt => ?_) ?_
  · skip
    refine XS.aloadN X_4.here hx rfl (hb hby d_rm_tb1_10) rfl rfl ?_
    exact kt
  refine Goes.retA X_4 hx hlk hret rfl rfl (hb hby d_rm_tb1_11) (by decide) (by decide) ?_
  try rw [(rfl : T_4.heap = T_4.heap)]
  exact ⟨_, _, rfl, N_4, Ext.of_keep K_7, z_1, Arv.len V_4 (by decide)⟩
theorem d_rm_nbl_0 : decode jdk_52_method_3_code 0 = .ok (.iload_n 0, 1) := by decide +kernel
theorem d_rm_nbl_1 : decode jdk_52_method_3_code 1 = .ok (.ifCond .ge 11, 3) := by decide +kernel
theorem d_rm_nbl_12 : decode jdk_52_method_3_code 12 = .ok (.iload_n 0, 1) := by decide +kernel
theorem d_rm_nbl_13 : decode jdk_52_method_3_code 13 = .ok (.ldc 20, 2) := by decide +kernel
theorem d_rm_nbl_15 : decode jdk_52_method_3_code 15 = .ok (.if_icmp .lt 40, 3) := by decide +kernel
theorem d_rm_nbl_55 : decode jdk_52_method_3_code 55 = .ok (.iload_n 0, 1) := by decide +kernel
theorem d_rm_nbl_56 : decode jdk_52_method_3_code 56 = .ok (.iconst 1, 1) := by decide +kernel
theorem d_rm_nbl_57 : decode jdk_52_method_3_code 57 = .ok (.ishl, 1) := by decide +kernel
theorem d_rm_nbl_58 : decode jdk_52_method_3_code 58 = .ok (.ireturn, 1) := by decide +kernel
set_option maxHeartbeats 4000000 in
theorem ef_rm_nbl (m : MethodId) (x0 : Int32)  : entryFrame m #[(.int x0)] 1 = mkF m 0 #[.val (.int x0)] [] := by first | (simp [entryFrame, mkF, argsToLocals, catR, catN, catI, catJ]; done) | rfl
set_option maxRecDepth 65536 in
set_option maxHeartbeats 40000000 in
theorem rm_nbl (l : Launch) (Z : State) (a0 : Array Value) (hw : ∀ d ∈ tables_1, d.before a0 Z = true) (ws : List Jvm.Cond) (kc : Int32) (sx : Value)  (h0 : Heap) (n0 : Nat) (Z0 : n0 ≤ h0.size) (G : Stt Z kc sx) (O : Old Z n0 h0)   :
    Pays l Z (⟨"java/lang/StringUTF16", "newBytesLength", "(I)I"⟩ : MethodName) jdk_52_method_3_code 1 (some .int) ws ({ frames := 0, cells := 0, slots := 0, locals := 0 } : Room) #[(.int (16 : Int32))] h0 (fun v h L => v = some (.int (32 : Int32)) ∧ Fr n0 L ∧ h = h0) := by
  refine Pays.of (plainFor_of_name (by first | (simp [plainName, overriddenIn]; done) | decide +kernel)) ?_
  intro p e s m below meth c s₁ hx hby hml hown hnm hret hlk hZ e0 X0
  have N0 := Fr.nil n0
  have K0 : Keep h0 h0 [] := Keep.refl _ _
  refine Goes.go (U' := (s₁.setTop (mkF m 0 #[sI_ (16 : Int32)] []))) (fun t kt => castTop (ef_rm_nbl m (16 : Int32)) kt) ?_
  refine Goes.go (U' := (s₁.setTop (mkF m 58 #[sI_ (16 : Int32)] [(.int ((16 : Int32) <<< ((1 : Int32) &&& 31)))]))) (fun t kt => ?_) ?_
  · skip
    refine XS.iloadN X0.here hx rfl (hb hby d_rm_nbl_0) rfl ?_
    refine XS.ifYes X0.here hx rfl (pc0 := 1) (pc' := 12) rfl (hb hby d_rm_nbl_1) rfl (XT.i0_ge_t (by decide)) (by decide) (by decide) ?_
    refine XS.iloadN X0.here hx rfl (hb hby d_rm_nbl_12) rfl ?_
    refine Jvm.Stand.ldcI X0 hx hown (mvT hZ (wdOf hw 224 rfl)) rfl (hb hby d_rm_nbl_13) ?_
    refine XS.icmpYes X0.here hx rfl (pc0 := 15) (pc' := 55) rfl (hb hby d_rm_nbl_15) rfl (XT.ii_lt_t (by decide)) (by decide) (by decide) ?_
    refine XS.iloadN X0.here hx rfl (hb hby d_rm_nbl_55) rfl ?_
    refine XS.iconst X0.here hx rfl (hb hby d_rm_nbl_56) ?_
    refine XS.ishl X0.here hx rfl (hb hby d_rm_nbl_57) rfl ?_
    exact kt
  rw [show ((16 : Int32) <<< ((1 : Int32) &&& 31)) = (32 : Int32) from by decide]
  refine Goes.retI X0 hx hlk hret (hb hby d_rm_nbl_58) (by decide) (by decide) ?_
  try rw [e0]
  exact ⟨rfl, N0, rfl⟩
theorem d_rm_nbf_0 : decode jdk_52_method_2_code 0 = .ok (.iload_n 0, 1) := by decide +kernel
theorem d_rm_nbf_1 : decode jdk_52_method_2_code 1 = .ok (.invokestatic 11, 3) := by decide +kernel
theorem d_rm_nbf_4 : decode jdk_52_method_2_code 4 = .ok (.newarray .byte, 2) := by decide +kernel
theorem d_rm_nbf_6 : decode jdk_52_method_2_code 6 = .ok (.areturn, 1) := by decide +kernel
set_option maxHeartbeats 4000000 in
theorem ef_rm_nbf (m : MethodId) (x0 : Int32)  : entryFrame m #[(.int x0)] 1 = mkF m 0 #[.val (.int x0)] [] := by first | (simp [entryFrame, mkF, argsToLocals, catR, catN, catI, catJ]; done) | rfl
set_option maxRecDepth 65536 in
set_option maxHeartbeats 40000000 in
theorem rm_nbf (l : Launch) (Z : State) (a0 : Array Value) (hw : ∀ d ∈ tables_1, d.before a0 Z = true) (ws : List Jvm.Cond) (kc : Int32) (sx : Value)  (h0 : Heap) (n0 : Nat) (Z0 : n0 ≤ h0.size) (G : Stt Z kc sx) (O : Old Z n0 h0)   :
    Pays l Z (⟨"java/lang/StringUTF16", "newBytesFor", "(I)[B"⟩ : MethodName) jdk_52_method_2_code 1 (some (.array .byte)) ws ({ frames := 1, cells := 1, slots := 32, locals := 12 } : Room) #[(.int (16 : Int32))] h0 (fun v h L => ∃ r kb, v = some (.ref r) ∧ Fr n0 L ∧ Ext h0 h ∧ h0.size ≤ r ∧ Arv Z h r kb .byte (32 : Int32) [] (.int (0 : Int32))) := by
  refine Pays.of (plainFor_of_name (by first | (simp [plainName, overriddenIn]; done) | decide +kernel)) ?_
  intro p e s m below meth c s₁ hx hby hml hown hnm hret hlk hZ e0 X0
  have N0 := Fr.nil n0
  have K0 : Keep h0 h0 [] := Keep.refl _ _
  refine Goes.go (U' := (s₁.setTop (mkF m 0 #[sI_ (16 : Int32)] []))) (fun t kt => castTop (ef_rm_nbf m (16 : Int32)) kt) ?_
  refine Goes.go (U' := (s₁.setTop (mkF m 1 #[sI_ (16 : Int32)] [(.int (16 : Int32))]))) (fun t kt => ?_) ?_
  · skip
    refine XS.iloadN X0.here hx rfl (hb hby d_rm_nbf_0) rfl ?_
    exact kt
  obtain ⟨v_1, T_1, L_1, X_1, q_1, st_1⟩ := callStatic X0 hx hZ (y := (⟨"java/lang/StringUTF16", "newBytesLength", "(I)I"⟩ : MethodName)) (W := 0) hown (wdOf hw 221 rfl) (wdOf hw 222 rfl) (wdOf hw 204 rfl) (wdOf hw 223 rfl) (by decide) (rm_nbl l Z a0 hw [] kc sx  h0 n0 Z0 G O ) (by decide) (by decide) (by decide) (by decide) e0 (g := (mkF m 1 #[sI_ (16 : Int32)] [(.int (16 : Int32))])) rfl (by rw [hml]; rfl) (argsL := [(.int (16 : Int32))]) (rest := []) (lenOf pd_6 rfl) rfl rfl (Nat.le_refl _) (hb hby d_rm_nbf_1)
  obtain ⟨rfl, n_1, K_1⟩ := q_1
  have N_1 := Fr.app N0 n_1
  refine Goes.go (U' := (T_1.setTop (mkF m 4 #[sI_ (16 : Int32)] [(.int (32 : Int32))]))) st_1 ?_
  obtain ⟨T_2, h_2, k_2, X_2, e_2, E_2, A_2, st_2⟩ := newP X_1 hx hZ (wdOf hw 24 rfl) K_1 (g := (mkF m 4 #[sI_ (16 : Int32)] [(.int (32 : Int32))])) rfl (hb hby d_rm_nbf_4) rfl (by decide) (cap := 32) (by decide) (by decide) (by decide) (by decide)
  obtain ⟨b_2, g_2⟩ : ∃ z, z = h0.size := ⟨_, rfl⟩
  rw [← g_2] at A_2 st_2
  have o_2 : n0 ≤ b_2 := Nat.le_trans Z0 (Nat.le_of_eq g_2.symm)
  have z_2 : h0.size ≤ b_2 := Nat.le_trans K0.1 (Nat.le_of_eq g_2.symm)
  have f_3 : Old Z n0 h_2 := O.ext E_2
  have V_2 : Arv Z h_2 b_2 k_2 .byte (32 : Int32) [] (.int (0 : Int32)) := Arv.new A_2 (by decide)
  have K_4 : Keep h0 h_2 [] := K0.ext E_2
  have y_4 : n0 ≤ h_2.size := Nat.le_trans Z0 K_4.1
  refine Goes.go (U' := (T_2.setTop (mkF m 6 #[sI_ (16 : Int32)] [(.ref b_2)]))) st_2 ?_
  refine Goes.retA X_2 hx hlk hret rfl rfl (hb hby d_rm_nbf_6) (by decide) (by decide) ?_
  try rw [e_2]
  exact ⟨_, _, rfl, N_1, Ext.of_keep K_4, z_2, V_2⟩
theorem d_rm_cp_0 : decode jdk_65_method_121_code 0 = .ok (.iload_n 1, 1) := by decide +kernel
theorem d_rm_cp_1 : decode jdk_65_method_121_code 1 = .ok (.aload_n 0, 1) := by decide +kernel
theorem d_rm_cp_2 : decode jdk_65_method_121_code 2 = .ok (.arraylength, 1) := by decide +kernel
theorem d_rm_cp_3 : decode jdk_65_method_121_code 3 = .ok (.if_icmp .ne 11, 3) := by decide +kernel
theorem d_rm_cp_14 : decode jdk_65_method_121_code 14 = .ok (.iload_n 1, 1) := by decide +kernel
theorem d_rm_cp_15 : decode jdk_65_method_121_code 15 = .ok (.newarray .byte, 2) := by decide +kernel
theorem d_rm_cp_17 : decode jdk_65_method_121_code 17 = .ok (.astore_n 2, 1) := by decide +kernel
theorem d_rm_cp_18 : decode jdk_65_method_121_code 18 = .ok (.aload_n 0, 1) := by decide +kernel
theorem d_rm_cp_19 : decode jdk_65_method_121_code 19 = .ok (.iconst 0, 1) := by decide +kernel
theorem d_rm_cp_20 : decode jdk_65_method_121_code 20 = .ok (.aload_n 2, 1) := by decide +kernel
theorem d_rm_cp_21 : decode jdk_65_method_121_code 21 = .ok (.iconst 0, 1) := by decide +kernel
theorem d_rm_cp_22 : decode jdk_65_method_121_code 22 = .ok (.aload_n 0, 1) := by decide +kernel
theorem d_rm_cp_23 : decode jdk_65_method_121_code 23 = .ok (.arraylength, 1) := by decide +kernel
theorem d_rm_cp_24 : decode jdk_65_method_121_code 24 = .ok (.iload_n 1, 1) := by decide +kernel
theorem d_rm_cp_25 : decode jdk_65_method_121_code 25 = .ok (.invokestatic 304, 3) := by decide +kernel
theorem d_rm_cp_28 : decode jdk_65_method_121_code 28 = .ok (.invokestatic 150, 3) := by decide +kernel
theorem d_rm_cp_31 : decode jdk_65_method_121_code 31 = .ok (.aload_n 2, 1) := by decide +kernel
theorem d_rm_cp_32 : decode jdk_65_method_121_code 32 = .ok (.areturn, 1) := by decide +kernel
set_option maxHeartbeats 4000000 in
theorem ef_rm_cp (m : MethodId) (x0 : Addr) (x1 : Int32)  : entryFrame m #[(.ref x0), (.int x1)] 3 = mkF m 0 #[.val (.ref x0), .val (.int x1), .unset] [] := by first | (simp [entryFrame, mkF, argsToLocals, catR, catN, catI, catJ]; done) | rfl
set_option maxRecDepth 65536 in
set_option maxHeartbeats 40000000 in
theorem rm_cp (l : Launch) (Z : State) (a0 : Array Value) (hw : ∀ d ∈ tables_1, d.before a0 Z = true) (ws : List Jvm.Cond) (kc : Int32) (sx : Value) (ca : Addr) (ka : ClassId) (nl na : Int32) (vs : List Value) (h0 : Heap) (n0 : Nat) (Z0 : n0 ≤ h0.size) (G : Stt Z kc sx) (O : Old Z n0 h0) (Va : Arv Z h0 ca ka .byte na vs (.int (0 : Int32))) (h1 : ¬ nl = na) (h2 : ¬ nl < 0) (h3 : nl.toNatClampNeg ≤ 68) (h4 : ¬ nl < na) (h5 : vs.length ≤ na.toNatClampNeg) (h6 : na.toNatClampNeg ≤ nl.toNatClampNeg) (h7 : ¬ na < 0) :
    Pays l Z (⟨"java/util/Arrays", "copyOf", "([BI)[B"⟩ : MethodName) jdk_65_method_121_code 3 (some (.array .byte)) ws ({ frames := 1, cells := 1, slots := 68, locals := 18 } : Room) #[(.ref ca), (.int nl)] h0 (fun v h L => ∃ r kb, v = some (.ref r) ∧ Fr n0 L ∧ Ext h0 h ∧ h0.size ≤ r ∧ Arv Z h r kb .byte nl vs (.int (0 : Int32))) := by
  refine Pays.of (plainFor_of_name (by first | (simp [plainName, overriddenIn]; done) | decide +kernel)) ?_
  intro p e s m below meth c s₁ hx hby hml hown hnm hret hlk hZ e0 X0
  have N0 := Fr.nil n0
  have K0 : Keep h0 h0 [] := Keep.refl _ _
  refine Goes.go (U' := (s₁.setTop (mkF m 0 #[sR_ ca, sI_ nl, sU_] []))) (fun t kt => castTop (ef_rm_cp m ca nl) kt) ?_
  refine Goes.go (U' := (s₁.setTop (mkF m 2 #[sR_ ca, sI_ nl, sU_] [(.ref ca), (.int nl)]))) (fun t kt => ?_) ?_
  · skip
    refine XS.iloadN X0.here hx rfl (hb hby d_rm_cp_0) rfl ?_
    refine XS.aloadN X0.here hx rfl (hb hby d_rm_cp_1) rfl rfl ?_
    exact kt
  obtain ⟨cl_1, Ar_1, q_1, S_1, M_1, H_1, G_1⟩ := id Va
  refine Goes.go (U' := (s₁.setTop (mkF m 3 #[sR_ ca, sI_ nl, sU_] [(.int na), (.int nl)]))) (fun t kt => ?_) ?_
  · skip
    refine X0.arraylength hx (by rw [e0]; exact Ar_1.1) (State.isArrayOf_alike hZ.alike Ar_1.2.1) (g := (mkF m 2 #[sR_ ca, sI_ nl, sU_] [(.ref ca), (.int nl)])) rfl rfl (hb hby d_rm_cp_2) _ ?_
    rw [len_of S_1 M_1]
    exact kt
  refine Goes.go (U' := (s₁.setTop (mkF m 15 #[sR_ ca, sI_ nl, sU_] [(.int nl)]))) (fun t kt => ?_) ?_
  · skip
    refine XS.icmpYes X0.here hx rfl (pc0 := 3) (pc' := 14) rfl (hb hby d_rm_cp_3) rfl (XT.ii_ne_t h1) (by decide) (by decide) ?_
    refine XS.iloadN X0.here hx rfl (hb hby d_rm_cp_14) rfl ?_
    exact kt
  obtain ⟨T_2, h_2, k_2, X_2, e_2, E_2, A_2, st_2⟩ := newP X0 hx hZ (wdOf hw 24 rfl) e0 (g := (mkF m 15 #[sR_ ca, sI_ nl, sU_] [(.int nl)])) rfl (hb hby d_rm_cp_15) rfl h2 (cap := 68) h3 (by decide) (by decide) (by decide)
  obtain ⟨b_2, g_2⟩ : ∃ z, z = h0.size := ⟨_, rfl⟩
  rw [← g_2] at A_2 st_2
  have ne_3 : ca ≠ b_2 := Nat.ne_of_lt (Nat.lt_of_lt_of_le Va.lt (Nat.le_of_eq g_2.symm))
  have o_2 : n0 ≤ b_2 := Nat.le_trans Z0 (Nat.le_of_eq g_2.symm)
  have z_2 : h0.size ≤ b_2 := Nat.le_trans K0.1 (Nat.le_of_eq g_2.symm)
  have f_4 : Old Z n0 h_2 := O.ext E_2
  have f_5 : Arv Z h_2 ca ka .byte na vs (.int (0 : Int32)) := Va.ext E_2
  have V_2 : Arv Z h_2 b_2 k_2 .byte nl [] (.int (0 : Int32)) := Arv.new A_2 h2
  have K_6 : Keep h0 h_2 [] := K0.ext E_2
  have y_6 : n0 ≤ h_2.size := Nat.le_trans Z0 K_6.1
  refine Goes.go (U' := (T_2.setTop (mkF m 17 #[sR_ ca, sI_ nl, sU_] [(.ref b_2)]))) st_2 ?_
  refine Goes.go (U' := (T_2.setTop (mkF m 23 #[sR_ ca, sI_ nl, sR_ b_2] [(.ref ca), (.int (0 : Int32)), (.ref b_2), (.int (0 : Int32)), (.ref ca)]))) (fun t kt => ?_) ?_
  · skip
    refine XS.astoreN X_2.here hx rfl (hb hby d_rm_cp_17) rfl rfl (l' := #[sR_ ca, sI_ nl, sR_ b_2]) rfl ?_
    refine XS.aloadN X_2.here hx rfl (hb hby d_rm_cp_18) rfl rfl ?_
    refine XS.iconst X_2.here hx rfl (hb hby d_rm_cp_19) ?_
    refine XS.aloadN X_2.here hx rfl (hb hby d_rm_cp_20) rfl rfl ?_
    refine XS.iconst X_2.here hx rfl (hb hby d_rm_cp_21) ?_
    refine XS.aloadN X_2.here hx rfl (hb hby d_rm_cp_22) rfl rfl ?_
    exact kt
  obtain ⟨cl_7, Ar_7, q_7, S_7, M_7, H_7, G_7⟩ := id f_5
  refine Goes.go (U' := (T_2.setTop (mkF m 24 #[sR_ ca, sI_ nl, sR_ b_2] [(.int na), (.int (0 : Int32)), (.ref b_2), (.int (0 : Int32)), (.ref ca)]))) (fun t kt => ?_) ?_
  · skip
    refine X_2.arraylength hx (by rw [e_2]; exact Ar_7.1) (State.isArrayOf_alike hZ.alike Ar_7.2.1) (g := (mkF m 23 #[sR_ ca, sI_ nl, sR_ b_2] [(.ref ca), (.int (0 : Int32)), (.ref b_2), (.int (0 : Int32)), (.ref ca)])) rfl rfl (hb hby d_rm_cp_23) _ ?_
    rw [len_of S_7 M_7]
    exact kt
  refine Goes.go (U' := (T_2.setTop (mkF m 25 #[sR_ ca, sI_ nl, sR_ b_2] [(.int nl), (.int na), (.int (0 : Int32)), (.ref b_2), (.int (0 : Int32)), (.ref ca)]))) (fun t kt => ?_) ?_
  · skip
    refine XS.iloadN X_2.here hx rfl (hb hby d_rm_cp_24) rfl ?_
    exact kt
  obtain ⟨v_8, T_8, L_8, X_8, q_8, st_8⟩ := callStatic X_2 hx hZ (y := (⟨"java/lang/Math", "min", "(II)I"⟩ : MethodName)) (W := 4) hown (wdOf hw 132 rfl) (wdOf hw 133 rfl) (wdOf hw 124 rfl) (wdOf hw 134 rfl) (by decide) (rm_min1 l Z a0 hw [] kc sx na nl h_2 n0 y_6 G f_4 h4) (by decide) (by decide) (by decide) (by decide) e_2 (g := (mkF m 25 #[sR_ ca, sI_ nl, sR_ b_2] [(.int nl), (.int na), (.int (0 : Int32)), (.ref b_2), (.int (0 : Int32)), (.ref ca)])) rfl (by rw [hml]; rfl) (argsL := [(.int na), (.int nl)]) (rest := [(.int (0 : Int32)), (.ref b_2), (.int (0 : Int32)), (.ref ca)]) (lenOf pd_7 rfl) rfl rfl (Nat.le_refl _) (hb hby d_rm_cp_25)
  obtain ⟨rfl, n_8, K_8⟩ := q_8
  have N_8 := Fr.app N0 n_8
  refine Goes.go (U' := (T_8.setTop (mkF m 28 #[sR_ ca, sI_ nl, sR_ b_2] [(.int na), (.int (0 : Int32)), (.ref b_2), (.int (0 : Int32)), (.ref ca)]))) st_8 ?_
  obtain ⟨T_9, h_9, L_9, X_9, e_9, N_9, K_9, V_9, st_9⟩ := cpB X_8 hx hZ hown (wdOf hw 135 rfl) (wdOf hw 104 rfl) (wdOf hw 102 rfl) (wdOf hw 103 rfl) K_8 f_5 V_2 (sp := (0 : Int32)) (dp := (0 : Int32)) (nn := na) (r := vs) (by decide) (by decide) h7 (Nat.le_of_eq (Nat.zero_add _)) (Nat.le_trans (Nat.le_of_eq (Nat.zero_add _)) h6) (spl0 h5) N_8 o_2 (g := (mkF m 28 #[sR_ ca, sI_ nl, sR_ b_2] [(.int na), (.int (0 : Int32)), (.ref b_2), (.int (0 : Int32)), (.ref ca)])) rfl (by rw [hml]; rfl) (rest := []) rfl (hb hby d_rm_cp_28) (by decide) (W := 0) (Nat.le_refl _) (by decide)
  have f_10 : Old Z n0 h_9 := f_4.keep K_9 (allS o_2 all0)
  have f_11 : Arv Z h_9 ca ka .byte na vs (.int (0 : Int32)) := f_5.keep K_9 (ninS ne_3 nin0)
  have K_13 : Keep h0 h_9 [] := K_6.trans K_9 (allS (P := fun x => x ∈ [] ∨ h0.size ≤ x) (Or.inr z_2) all0)
  have y_13 : n0 ≤ h_9.size := Nat.le_trans Z0 K_13.1
  refine Goes.go (U' := (T_9.setTop (mkF m 31 #[sR_ ca, sI_ nl, sR_ b_2] []))) st_9 ?_
  refine Goes.go (U' := (T_9.setTop (mkF m 32 #[sR_ ca, sI_ nl, sR_ b_2] [(.ref b_2)]))) (fun t kt => ?_) ?_
  · skip
    refine XS.aloadN X_9.here hx rfl (hb hby d_rm_cp_31) rfl rfl ?_
    exact kt
  refine Goes.retA X_9 hx hlk hret rfl rfl (hb hby d_rm_cp_32) (by decide) (by decide) ?_
  try rw [e_9]
  exact ⟨_, _, rfl, N_9, Ext.of_keep K_13, z_2, V_9⟩
theorem d_rm_cl_0 : decode jdk_65_method_131_code 0 = .ok (.iload_n 1, 1) := by decide +kernel
theorem d_rm_cl_1 : decode jdk_65_method_131_code 1 = .ok (.iload_n 0, 1) := by decide +kernel
theorem d_rm_cl_2 : decode jdk_65_method_131_code 2 = .ok (.if_icmp .ge 35, 3) := by decide +kernel
theorem d_rm_cl_37 : decode jdk_65_method_131_code 37 = .ok (.return_, 1) := by decide +kernel
set_option maxHeartbeats 4000000 in
theorem ef_rm_cl (m : MethodId) (x0 : Int32) (x1 : Int32)  : entryFrame m #[(.int x0), (.int x1)] 2 = mkF m 0 #[.val (.int x0), .val (.int x1)] [] := by first | (simp [entryFrame, mkF, argsToLocals, catR, catN, catI, catJ]; done) | rfl
set_option maxRecDepth 65536 in
set_option maxHeartbeats 40000000 in
theorem rm_cl (l : Launch) (Z : State) (a0 : Array Value) (hw : ∀ d ∈ tables_1, d.before a0 Z = true) (ws : List Jvm.Cond) (kc : Int32) (sx : Value) (xt : Int32) (h0 : Heap) (n0 : Nat) (Z0 : n0 ≤ h0.size) (G : Stt Z kc sx) (O : Old Z n0 h0)  (h1 : ¬ xt < (0 : Int32)) :
    Pays l Z (⟨"java/util/Arrays", "checkLength", "(II)V"⟩ : MethodName) jdk_65_method_131_code 2 none ws ({ frames := 0, cells := 0, slots := 0, locals := 0 } : Room) #[(.int (0 : Int32)), (.int xt)] h0 (fun v h L => v = none ∧ Fr n0 L ∧ h = h0) := by
  refine Pays.of (plainFor_of_name (by first | (simp [plainName, overriddenIn]; done) | decide +kernel)) ?_
  intro p e s m below meth c s₁ hx hby hml hown hnm hret hlk hZ e0 X0
  have N0 := Fr.nil n0
  have K0 : Keep h0 h0 [] := Keep.refl _ _
  refine Goes.go (U' := (s₁.setTop (mkF m 0 #[sI_ (0 : Int32), sI_ xt] []))) (fun t kt => castTop (ef_rm_cl m (0 : Int32) xt) kt) ?_
  refine Goes.go (U' := (s₁.setTop (mkF m 37 #[sI_ (0 : Int32), sI_ xt] []))) (fun t kt => ?_) ?_
  · skip
    refine XS.iloadN X0.here hx rfl (hb hby d_rm_cl_0) rfl ?_
    refine XS.iloadN X0.here hx rfl (hb hby d_rm_cl_1) rfl ?_
    refine XS.icmpYes X0.here hx rfl (pc0 := 2) (pc' := 37) rfl (hb hby d_rm_cl_2) rfl (XT.ii_ge_t h1) (by decide) (by decide) ?_
    exact kt
  refine Goes.retV X0 hx hlk hret (hb hby d_rm_cl_37) (by decide) (by decide) ?_
  try rw [e0]
  exact ⟨rfl, N0, rfl⟩
theorem d_rm_crb_0 : decode jdk_65_method_133_code 0 = .ok (.iload_n 1, 1) := by decide +kernel
theorem d_rm_crb_1 : decode jdk_65_method_133_code 1 = .ok (.iload_n 2, 1) := by decide +kernel
theorem d_rm_crb_2 : decode jdk_65_method_133_code 2 = .ok (.invokestatic 343, 3) := by decide +kernel
theorem d_rm_crb_5 : decode jdk_65_method_133_code 5 = .ok (.iload_n 2, 1) := by decide +kernel
theorem d_rm_crb_6 : decode jdk_65_method_133_code 6 = .ok (.iload_n 1, 1) := by decide +kernel
theorem d_rm_crb_7 : decode jdk_65_method_133_code 7 = .ok (.isub, 1) := by decide +kernel
theorem d_rm_crb_8 : decode jdk_65_method_133_code 8 = .ok (.istore_n 3, 1) := by decide +kernel
theorem d_rm_crb_9 : decode jdk_65_method_133_code 9 = .ok (.iload_n 3, 1) := by decide +kernel
theorem d_rm_crb_10 : decode jdk_65_method_133_code 10 = .ok (.newarray .byte, 2) := by decide +kernel
theorem d_rm_crb_12 : decode jdk_65_method_133_code 12 = .ok (.astore 4, 2) := by decide +kernel
theorem d_rm_crb_14 : decode jdk_65_method_133_code 14 = .ok (.aload_n 0, 1) := by decide +kernel
theorem d_rm_crb_15 : decode jdk_65_method_133_code 15 = .ok (.iload_n 1, 1) := by decide +kernel
theorem d_rm_crb_16 : decode jdk_65_method_133_code 16 = .ok (.aload 4, 2) := by decide +kernel
theorem d_rm_crb_18 : decode jdk_65_method_133_code 18 = .ok (.iconst 0, 1) := by decide +kernel
theorem d_rm_crb_19 : decode jdk_65_method_133_code 19 = .ok (.aload_n 0, 1) := by decide +kernel
theorem d_rm_crb_20 : decode jdk_65_method_133_code 20 = .ok (.arraylength, 1) := by decide +kernel
theorem d_rm_crb_21 : decode jdk_65_method_133_code 21 = .ok (.iload_n 1, 1) := by decide +kernel
theorem d_rm_crb_22 : decode jdk_65_method_133_code 22 = .ok (.isub, 1) := by decide +kernel
theorem d_rm_crb_23 : decode jdk_65_method_133_code 23 = .ok (.iload_n 3, 1) := by decide +kernel
theorem d_rm_crb_24 : decode jdk_65_method_133_code 24 = .ok (.invokestatic 304, 3) := by decide +kernel
theorem d_rm_crb_27 : decode jdk_65_method_133_code 27 = .ok (.invokestatic 150, 3) := by decide +kernel
theorem d_rm_crb_30 : decode jdk_65_method_133_code 30 = .ok (.aload 4, 2) := by decide +kernel
theorem d_rm_crb_32 : decode jdk_65_method_133_code 32 = .ok (.areturn, 1) := by decide +kernel
set_option maxHeartbeats 4000000 in
theorem ef_rm_crb (m : MethodId) (x0 : Addr) (x1 : Int32) (x2 : Int32)  : entryFrame m #[(.ref x0), (.int x1), (.int x2)] 5 = mkF m 0 #[.val (.ref x0), .val (.int x1), .val (.int x2), .unset, .unset] [] := by first | (simp [entryFrame, mkF, argsToLocals, catR, catN, catI, catJ]; done) | rfl
set_option maxRecDepth 65536 in
set_option maxHeartbeats 40000000 in
theorem rm_crb (l : Launch) (Z : State) (a0 : Array Value) (hw : ∀ d ∈ tables_1, d.before a0 Z = true) (ws : List Jvm.Cond) (kc : Int32) (sx : Value) (ca : Addr) (ka : ClassId) (xt na : Int32) (vs : List Value) (h0 : Heap) (n0 : Nat) (Z0 : n0 ≤ h0.size) (G : Stt Z kc sx) (O : Old Z n0 h0) (Va : Arv Z h0 ca ka .byte na vs (.int (0 : Int32))) (h1 : ¬ xt < (0 : Int32)) (h2 : xt < na) (h3 : xt.toNatClampNeg ≤ 54) (h5 : vs.length ≤ xt.toNatClampNeg) (h6 : xt.toNatClampNeg ≤ na.toNatClampNeg) :
    Pays l Z (⟨"java/util/Arrays", "copyOfRangeByte", "([BII)[B"⟩ : MethodName) jdk_65_method_133_code 5 (some (.array .byte)) ws ({ frames := 1, cells := 1, slots := 54, locals := 18 } : Room) #[(.ref ca), (.int (0 : Int32)), (.int xt)] h0 (fun v h L => ∃ r kb, v = some (.ref r) ∧ Fr n0 L ∧ Ext h0 h ∧ h0.size ≤ r ∧ Arv Z h r kb .byte xt vs (.int (0 : Int32))) := by
  refine Pays.of (plainFor_of_name (by first | (simp [plainName, overriddenIn]; done) | decide +kernel)) ?_
  intro p e s m below meth c s₁ hx hby hml hown hnm hret hlk hZ e0 X0
  have N0 := Fr.nil n0
  have K0 : Keep h0 h0 [] := Keep.refl _ _
  refine Goes.go (U' := (s₁.setTop (mkF m 0 #[sR_ ca, sI_ (0 : Int32), sI_ xt, sU_, sU_] []))) (fun t kt => castTop (ef_rm_crb m ca (0 : Int32) xt) kt) ?_
  refine Goes.go (U' := (s₁.setTop (mkF m 2 #[sR_ ca, sI_ (0 : Int32), sI_ xt, sU_, sU_] [(.int xt), (.int (0 : Int32))]))) (fun t kt => ?_) ?_
  · skip
    refine XS.iloadN X0.here hx rfl (hb hby d_rm_crb_0) rfl ?_
    refine XS.iloadN X0.here hx rfl (hb hby d_rm_crb_1) rfl ?_
    exact kt
  obtain ⟨v_1, T_1, L_1, X_1, q_1, st_1⟩ := callStatic X0 hx hZ (y := (⟨"java/util/Arrays", "checkLength", "(II)V"⟩ : MethodName)) (W := 0) hown (wdOf hw 172 rfl) (wdOf hw 173 rfl) (wdOf hw 130 rfl) (wdOf hw 174 rfl) (by decide) (rm_cl l Z a0 hw [] kc sx xt h0 n0 Z0 G O h1) (by decide) (by decide) (by decide) (by decide) e0 (g := (mkF m 2 #[sR_ ca, sI_ (0 : Int32), sI_ xt, sU_, sU_] [(.int xt), (.int (0 : Int32))])) rfl (by rw [hml]; rfl) (argsL := [(.int (0 : Int32)), (.int xt)]) (rest := []) (lenOf pd_4 rfl) rfl rfl (Nat.le_refl _) (hb hby d_rm_crb_2)
  obtain ⟨rfl, n_1, K_1⟩ := q_1
  have N_1 := Fr.app N0 n_1
  refine Goes.go (U' := (T_1.setTop (mkF m 5 #[sR_ ca, sI_ (0 : Int32), sI_ xt, sU_, sU_] []))) st_1 ?_
  refine Goes.go (U' := (T_1.setTop (mkF m 8 #[sR_ ca, sI_ (0 : Int32), sI_ xt, sU_, sU_] [(.int (xt - (0 : Int32)))]))) (fun t kt => ?_) ?_
  · skip
    refine XS.iloadN X_1.here hx rfl (hb hby d_rm_crb_5) rfl ?_
    refine XS.iloadN X_1.here hx rfl (hb hby d_rm_crb_6) rfl ?_
    refine XS.isub X_1.here hx rfl (hb hby d_rm_crb_7) rfl ?_
    exact kt
  rw [show (xt - (0 : Int32)) = xt from Int32.sub_zero _]
  refine Goes.go (U' := (T_1.setTop (mkF m 10 #[sR_ ca, sI_ (0 : Int32), sI_ xt, sI_ xt, sU_] [(.int xt)]))) (fun t kt => ?_) ?_
  · skip
    refine XS.istoreN X_1.here hx rfl (hb hby d_rm_crb_8) rfl (l' := #[sR_ ca, sI_ (0 : Int32), sI_ xt, sI_ xt, sU_]) rfl ?_
    refine XS.iloadN X_1.here hx rfl (hb hby d_rm_crb_9) rfl ?_
    exact kt
  obtain ⟨T_2, h_2, k_2, X_2, e_2, E_2, A_2, st_2⟩ := newP X_1 hx hZ (wdOf hw 24 rfl) K_1 (g := (mkF m 10 #[sR_ ca, sI_ (0 : Int32), sI_ xt, sI_ xt, sU_] [(.int xt)])) rfl (hb hby d_rm_crb_10) rfl h1 (cap := 54) h3 (by decide) (by decide) (by decide)
  obtain ⟨b_2, g_2⟩ : ∃ z, z = h0.size := ⟨_, rfl⟩
  rw [← g_2] at A_2 st_2
  have ne_3 : ca ≠ b_2 := Nat.ne_of_lt (Nat.lt_of_lt_of_le Va.lt (Nat.le_of_eq g_2.symm))
  have o_2 : n0 ≤ b_2 := Nat.le_trans Z0 (Nat.le_of_eq g_2.symm)
  have z_2 : h0.size ≤ b_2 := Nat.le_trans K0.1 (Nat.le_of_eq g_2.symm)
  have f_4 : Old Z n0 h_2 := O.ext E_2
  have f_5 : Arv Z h_2 ca ka .byte na vs (.int (0 : Int32)) := Va.ext E_2
  have V_2 : Arv Z h_2 b_2 k_2 .byte xt [] (.int (0 : Int32)) := Arv.new A_2 h1
  have K_6 : Keep h0 h_2 [] := K0.ext E_2
  have y_6 : n0 ≤ h_2.size := Nat.le_trans Z0 K_6.1
  refine Goes.go (U' := (T_2.setTop (mkF m 12 #[sR_ ca, sI_ (0 : Int32), sI_ xt, sI_ xt, sU_] [(.ref b_2)]))) st_2 ?_
  refine Goes.go (U' := (T_2.setTop (mkF m 20 #[sR_ ca, sI_ (0 : Int32), sI_ xt, sI_ xt, sR_ b_2] [(.ref ca), (.int (0 : Int32)), (.ref b_2), (.int (0 : Int32)), (.ref ca)]))) (fun t kt => ?_) ?_
  · skip
    refine XS.astore X_2.here hx rfl (hb hby d_rm_crb_12) rfl rfl (l' := #[sR_ ca, sI_ (0 : Int32), sI_ xt, sI_ xt, sR_ b_2]) rfl ?_
    refine XS.aloadN X_2.here hx rfl (hb hby d_rm_crb_14) rfl rfl ?_
    refine XS.iloadN X_2.here hx rfl (hb hby d_rm_crb_15) rfl ?_
    refine XS.aload X_2.here hx rfl (hb hby d_rm_crb_16) rfl rfl ?_
    refine XS.iconst X_2.here hx rfl (hb hby d_rm_crb_18) ?_
    refine XS.aloadN X_2.here hx rfl (hb hby d_rm_crb_19) rfl rfl ?_
    exact kt
  obtain ⟨cl_7, Ar_7, q_7, S_7, M_7, H_7, G_7⟩ := id f_5
  refine Goes.go (U' := (T_2.setTop (mkF m 21 #[sR_ ca, sI_ (0 : Int32), sI_ xt, sI_ xt, sR_ b_2] [(.int na), (.int (0 : Int32)), (.ref b_2), (.int (0 : Int32)), (.ref ca)]))) (fun t kt => ?_) ?_
  · skip
    refine X_2.arraylength hx (by rw [e_2]; exact Ar_7.1) (State.isArrayOf_alike hZ.alike Ar_7.2.1) (g := (mkF m 20 #[sR_ ca, sI_ (0 : Int32), sI_ xt, sI_ xt, sR_ b_2] [(.ref ca), (.int (0 : Int32)), (.ref b_2), (.int (0 : Int32)), (.ref ca)])) rfl rfl (hb hby d_rm_crb_20) _ ?_
    rw [len_of S_7 M_7]
    exact kt
  refine Goes.go (U' := (T_2.setTop (mkF m 24 #[sR_ ca, sI_ (0 : Int32), sI_ xt, sI_ xt, sR_ b_2] [(.int xt), (.int (na - (0 : Int32))), (.int (0 : Int32)), (.ref b_2), (.int (0 : Int32)), (.ref ca)]))) (fun t kt => ?_) ?_
  · skip
    refine XS.iloadN X_2.here hx rfl (hb hby d_rm_crb_21) rfl ?_
    refine XS.isub X_2.here hx rfl (hb hby d_rm_crb_22) rfl ?_
    refine XS.iloadN X_2.here hx rfl (hb hby d_rm_crb_23) rfl ?_
    exact kt
  rw [show (na - (0 : Int32)) = na from Int32.sub_zero _]
  obtain ⟨v_8, T_8, L_8, X_8, q_8, st_8⟩ := callStatic X_2 hx hZ (y := (⟨"java/lang/Math", "min", "(II)I"⟩ : MethodName)) (W := 4) hown (wdOf hw 132 rfl) (wdOf hw 133 rfl) (wdOf hw 124 rfl) (wdOf hw 134 rfl) (by decide) (rm_min0 l Z a0 hw [] kc sx na xt h_2 n0 y_6 G f_4 h2) (by decide) (by decide) (by decide) (by decide) e_2 (g := (mkF m 24 #[sR_ ca, sI_ (0 : Int32), sI_ xt, sI_ xt, sR_ b_2] [(.int xt), (.int na), (.int (0 : Int32)), (.ref b_2), (.int (0 : Int32)), (.ref ca)])) rfl (by rw [hml]; rfl) (argsL := [(.int na), (.int xt)]) (rest := [(.int (0 : Int32)), (.ref b_2), (.int (0 : Int32)), (.ref ca)]) (lenOf pd_7 rfl) rfl rfl (Nat.le_refl _) (hb hby d_rm_crb_24)
  obtain ⟨rfl, n_8, K_8⟩ := q_8
  have N_8 := Fr.app N_1 n_8
  refine Goes.go (U' := (T_8.setTop (mkF m 27 #[sR_ ca, sI_ (0 : Int32), sI_ xt, sI_ xt, sR_ b_2] [(.int xt), (.int (0 : Int32)), (.ref b_2), (.int (0 : Int32)), (.ref ca)]))) st_8 ?_
  obtain ⟨T_9, h_9, L_9, X_9, e_9, N_9, K_9, V_9, st_9⟩ := cpB X_8 hx hZ hown (wdOf hw 135 rfl) (wdOf hw 104 rfl) (wdOf hw 102 rfl) (wdOf hw 103 rfl) K_8 f_5 V_2 (sp := (0 : Int32)) (dp := (0 : Int32)) (nn := xt) (r := vs) (by decide) (by decide) h1 (Nat.le_trans (Nat.le_of_eq (Nat.zero_add _)) h6) (Nat.le_of_eq (Nat.zero_add _)) (spl0 h5) N_8 o_2 (g := (mkF m 27 #[sR_ ca, sI_ (0 : Int32), sI_ xt, sI_ xt, sR_ b_2] [(.int xt), (.int (0 : Int32)), (.ref b_2), (.int (0 : Int32)), (.ref ca)])) rfl (by rw [hml]; rfl) (rest := []) rfl (hb hby d_rm_crb_27) (by decide) (W := 0) (Nat.le_refl _) (by decide)
  have f_10 : Old Z n0 h_9 := f_4.keep K_9 (allS o_2 all0)
  have f_11 : Arv Z h_9 ca ka .byte na vs (.int (0 : Int32)) := f_5.keep K_9 (ninS ne_3 nin0)
  have K_13 : Keep h0 h_9 [] := K_6.trans K_9 (allS (P := fun x => x ∈ [] ∨ h0.size ≤ x) (Or.inr z_2) all0)
  have y_13 : n0 ≤ h_9.size := Nat.le_trans Z0 K_13.1
  refine Goes.go (U' := (T_9.setTop (mkF m 30 #[sR_ ca, sI_ (0 : Int32), sI_ xt, sI_ xt, sR_ b_2] []))) st_9 ?_
  refine Goes.go (U' := (T_9.setTop (mkF m 32 #[sR_ ca, sI_ (0 : Int32), sI_ xt, sI_ xt, sR_ b_2] [(.ref b_2)]))) (fun t kt => ?_) ?_
  · skip
    refine XS.aload X_9.here hx rfl (hb hby d_rm_crb_30) rfl rfl ?_
    exact kt
  refine Goes.retA X_9 hx hlk hret rfl rfl (hb hby d_rm_crb_32) (by decide) (by decide) ?_
  try rw [e_9]
  exact ⟨_, _, rfl, N_9, Ext.of_keep K_13, z_2, V_9⟩
theorem d_rm_cr_0 : decode jdk_65_method_132_code 0 = .ok (.iload_n 1, 1) := by decide +kernel
theorem d_rm_cr_1 : decode jdk_65_method_132_code 1 = .ok (.ifCond .ne 9, 3) := by decide +kernel
theorem d_rm_cr_4 : decode jdk_65_method_132_code 4 = .ok (.iload_n 2, 1) := by decide +kernel
theorem d_rm_cr_5 : decode jdk_65_method_132_code 5 = .ok (.aload_n 0, 1) := by decide +kernel
theorem d_rm_cr_6 : decode jdk_65_method_132_code 6 = .ok (.arraylength, 1) := by decide +kernel
theorem d_rm_cr_7 : decode jdk_65_method_132_code 7 = .ok (.if_icmp .eq 10, 3) := by decide +kernel
theorem d_rm_cr_10 : decode jdk_65_method_132_code 10 = .ok (.aload_n 0, 1) := by decide +kernel
theorem d_rm_cr_11 : decode jdk_65_method_132_code 11 = .ok (.iload_n 1, 1) := by decide +kernel
theorem d_rm_cr_12 : decode jdk_65_method_132_code 12 = .ok (.iload_n 2, 1) := by decide +kernel
theorem d_rm_cr_13 : decode jdk_65_method_132_code 13 = .ok (.invokestatic 339, 3) := by decide +kernel
theorem d_rm_cr_16 : decode jdk_65_method_132_code 16 = .ok (.areturn, 1) := by decide +kernel
set_option maxHeartbeats 4000000 in
theorem ef_rm_cr (m : MethodId) (x0 : Addr) (x1 : Int32) (x2 : Int32)  : entryFrame m #[(.ref x0), (.int x1), (.int x2)] 3 = mkF m 0 #[.val (.ref x0), .val (.int x1), .val (.int x2)] [] := by first | (simp [entryFrame, mkF, argsToLocals, catR, catN, catI, catJ]; done) | rfl
set_option maxRecDepth 65536 in
set_option maxHeartbeats 40000000 in
theorem rm_cr (l : Launch) (Z : State) (a0 : Array Value) (hw : ∀ d ∈ tables_1, d.before a0 Z = true) (ws : List Jvm.Cond) (kc : Int32) (sx : Value) (ca : Addr) (ka : ClassId) (xt na : Int32) (vs : List Value) (h0 : Heap) (n0 : Nat) (Z0 : n0 ≤ h0.size) (G : Stt Z kc sx) (O : Old Z n0 h0) (Va : Arv Z h0 ca ka .byte na vs (.int (0 : Int32))) (h0_ : ¬ xt = na) (h1 : ¬ xt < (0 : Int32)) (h2 : xt < na) (h3 : xt.toNatClampNeg ≤ 54) (h5 : vs.length ≤ xt.toNatClampNeg) (h6 : xt.toNatClampNeg ≤ na.toNatClampNeg) :
    Pays l Z (⟨"java/util/Arrays", "copyOfRange", "([BII)[B"⟩ : MethodName) jdk_65_method_132_code 3 (some (.array .byte)) ws ({ frames := 2, cells := 1, slots := 54, locals := 34 } : Room) #[(.ref ca), (.int (0 : Int32)), (.int xt)] h0 (fun v h L => ∃ r kb, v = some (.ref r) ∧ Fr n0 L ∧ Ext h0 h ∧ h0.size ≤ r ∧ Arv Z h r kb .byte xt vs (.int (0 : Int32))) := by
  refine Pays.of (plainFor_of_name (by first | (simp [plainName, overriddenIn]; done) | decide +kernel)) ?_
  intro p e s m below meth c s₁ hx hby hml hown hnm hret hlk hZ e0 X0
  have N0 := Fr.nil n0
  have K0 : Keep h0 h0 [] := Keep.refl _ _
  refine Goes.go (U' := (s₁.setTop (mkF m 0 #[sR_ ca, sI_ (0 : Int32), sI_ xt] []))) (fun t kt => castTop (ef_rm_cr m ca (0 : Int32) xt) kt) ?_
  refine Goes.go (U' := (s₁.setTop (mkF m 6 #[sR_ ca, sI_ (0 : Int32), sI_ xt] [(.ref ca), (.int xt)]))) (fun t kt => ?_) ?_
  · skip
    refine XS.iloadN X0.here hx rfl (hb hby d_rm_cr_0) rfl ?_
    refine XS.ifNo X0.here hx rfl (hb hby d_rm_cr_1) rfl (XT.i0_ne_f (by decide)) ?_
    refine XS.iloadN X0.here hx rfl (hb hby d_rm_cr_4) rfl ?_
    refine XS.aloadN X0.here hx rfl (hb hby d_rm_cr_5) rfl rfl ?_
    exact kt
  obtain ⟨cl_1, Ar_1, q_1, S_1, M_1, H_1, G_1⟩ := id Va
  refine Goes.go (U' := (s₁.setTop (mkF m 7 #[sR_ ca, sI_ (0 : Int32), sI_ xt] [(.int na), (.int xt)]))) (fun t kt => ?_) ?_
  · skip
    refine X0.arraylength hx (by rw [e0]; exact Ar_1.1) (State.isArrayOf_alike hZ.alike Ar_1.2.1) (g := (mkF m 6 #[sR_ ca, sI_ (0 : Int32), sI_ xt] [(.ref ca), (.int xt)])) rfl rfl (hb hby d_rm_cr_6) _ ?_
    rw [len_of S_1 M_1]
    exact kt
  refine Goes.go (U' := (s₁.setTop (mkF m 13 #[sR_ ca, sI_ (0 : Int32), sI_ xt] [(.int xt), (.int (0 : Int32)), (.ref ca)]))) (fun t kt => ?_) ?_
  · skip
    refine XS.icmpNo X0.here hx rfl (hb hby d_rm_cr_7) rfl (XT.ii_eq_f h0_) ?_
    refine XS.aloadN X0.here hx rfl (hb hby d_rm_cr_10) rfl rfl ?_
    refine XS.iloadN X0.here hx rfl (hb hby d_rm_cr_11) rfl ?_
    refine XS.iloadN X0.here hx rfl (hb hby d_rm_cr_12) rfl ?_
    exact kt
  obtain ⟨v_2, T_2, L_2, X_2, q_2, st_2⟩ := callStatic X0 hx hZ (y := (⟨"java/util/Arrays", "copyOfRangeByte", "([BII)[B"⟩ : MethodName)) (W := 0) hown (wdOf hw 169 rfl) (wdOf hw 170 rfl) (wdOf hw 130 rfl) (wdOf hw 171 rfl) (by decide) (rm_crb l Z a0 hw [] kc sx ca ka xt na vs h0 n0 Z0 G O Va h1 h2 h3 h5 h6) (by decide) (by decide) (by decide) (by decide) e0 (g := (mkF m 13 #[sR_ ca, sI_ (0 : Int32), sI_ xt] [(.int xt), (.int (0 : Int32)), (.ref ca)])) rfl (by rw [hml]; rfl) (argsL := [(.ref ca), (.int (0 : Int32)), (.int xt)]) (rest := []) (lenOf pd_8 rfl) rfl rfl (Nat.le_refl _) (hb hby d_rm_cr_13)
  obtain ⟨r_2, k_2, rfl, n_2, K_2, z_2, V_2⟩ := q_2
  have N_2 := Fr.app N0 n_2
  have f_3 : Old Z n0 T_2.heap := O.ext K_2
  have f_4 : Arv Z T_2.heap ca ka .byte na vs (.int (0 : Int32)) := Va.ext K_2
  have K_5 : Keep h0 T_2.heap [] := K0.ext K_2
  have y_5 : n0 ≤ T_2.heap.size := Nat.le_trans Z0 K_5.1
  refine Goes.go (U' := (T_2.setTop (mkF m 16 #[sR_ ca, sI_ (0 : Int32), sI_ xt] [(.ref r_2)]))) st_2 ?_
  refine Goes.retA X_2 hx hlk hret rfl rfl (hb hby d_rm_cr_16) (by decide) (by decide) ?_
  try rw [(rfl : T_2.heap = T_2.heap)]
  exact ⟨_, _, rfl, N_2, Ext.of_keep K_5, Nat.le_trans K0.1 z_2, V_2⟩
theorem d_rm_ui_0 : decode jdk_52_method_86_code 0 = .ok (.iload_n 3, 1) := by decide +kernel
theorem d_rm_ui_1 : decode jdk_52_method_86_code 1 = .ok (.iload 4, 2) := by decide +kernel
theorem d_rm_ui_3 : decode jdk_52_method_86_code 3 = .ok (.aload_n 2, 1) := by decide +kernel
theorem d_rm_ui_4 : decode jdk_52_method_86_code 4 = .ok (.invokestatic 173, 3) := by decide +kernel
theorem d_rm_ui_7 : decode jdk_52_method_86_code 7 = .ok (.iconst 0, 1) := by decide +kernel
theorem d_rm_ui_8 : decode jdk_52_method_86_code 8 = .ok (.istore 5, 2) := by decide +kernel
theorem d_rm_ui_10 : decode jdk_52_method_86_code 10 = .ok (.iload 5, 2) := by decide +kernel
theorem d_rm_ui_12 : decode jdk_52_method_86_code 12 = .ok (.iload 4, 2) := by decide +kernel
theorem d_rm_ui_14 : decode jdk_52_method_86_code 14 = .ok (.if_icmp .ge 27, 3) := by decide +kernel
theorem d_rm_ui_17 : decode jdk_52_method_86_code 17 = .ok (.aload_n 2, 1) := by decide +kernel
theorem d_rm_ui_18 : decode jdk_52_method_86_code 18 = .ok (.iload_n 3, 1) := by decide +kernel
theorem d_rm_ui_19 : decode jdk_52_method_86_code 19 = .ok (.iinc 3 1, 3) := by decide +kernel
theorem d_rm_ui_22 : decode jdk_52_method_86_code 22 = .ok (.aload_n 0, 1) := by decide +kernel
theorem d_rm_ui_23 : decode jdk_52_method_86_code 23 = .ok (.iload_n 1, 1) := by decide +kernel
theorem d_rm_ui_24 : decode jdk_52_method_86_code 24 = .ok (.iinc 1 1, 3) := by decide +kernel
theorem d_rm_ui_27 : decode jdk_52_method_86_code 27 = .ok (.baload, 1) := by decide +kernel
theorem d_rm_ui_28 : decode jdk_52_method_86_code 28 = .ok (.sipush 255, 3) := by decide +kernel
theorem d_rm_ui_31 : decode jdk_52_method_86_code 31 = .ok (.iand, 1) := by decide +kernel
theorem d_rm_ui_32 : decode jdk_52_method_86_code 32 = .ok (.invokestatic 111, 3) := by decide +kernel
theorem d_rm_ui_35 : decode jdk_52_method_86_code 35 = .ok (.iinc 5 1, 3) := by decide +kernel
theorem d_rm_ui_38 : decode jdk_52_method_86_code 38 = .ok (.goto (-28), 3) := by decide +kernel
theorem d_rm_ui_41 : decode jdk_52_method_86_code 41 = .ok (.return_, 1) := by decide +kernel
set_option maxRecDepth 65536 in
set_option maxHeartbeats 40000000 in
theorem inf_10 (l : Launch) (Z : State) (a0 : Array Value) (hw : ∀ d ∈ tables_1, d.before a0 Z = true) (kc : Int32) (sx : Value) (sa da : Addr) (ks kd : ClassId) (d0 ln ns nd i d : Int32) (ys us xs zs : List Int32) (h0 : Heap) (n0 : Nat) (Z0 : n0 ≤ h0.size) (p : Program) (e : Env) (s : State) (m : MethodId) (below : List Frame) (meth : Method) (c : Code) (hx : p.tables.exec = Jvm.exec) (hby : c.code = jdk_52_method_86_code) (hml : c.maxLocals = 6) (hown : s.vm.findClass "java/lang/StringUTF16" = some m.cls) (hnm : meth.name = "inflate") (hret : meth.sig.returnType = none) (hlk : meth.locks = false) (hZ : Z.Warmed39 s.vm) (h : Heap) (T : State) (locs : List Loc) (X : Stand p l e ({ frames := 3, cells := 0, slots := 0, locals := 43 } : Room) s m #[(.ref sa), (.int (0 : Int32)), (.ref da), (.int d0), (.int ln)] below meth c T locs 0 0) (eT : T.heap = h) (N : Fr n0 locs) (K0 : Keep h0 h [da]) (G : Stt Z kc sx) (O : Old Z n0 h) (Vs : Arv Z h sa ks .byte ns (L1 ys) (.int (0 : Int32))) (Vd : Arv Z h da kd .byte nd (U2 zs) (.int (0 : Int32))) (o0 : n0 ≤ da) (nb : sa ≠ da) (hy : ys = us ++ xs) (hlc : ∀ c ∈ ys, Lc c) (hi : Sz i us.length) (hd : Sz d zs.length) (hln : Sz ln (us.length + xs.length)) (hns : (us ++ xs).length ≤ ns.toNatClampNeg) (hnd : 2 * (zs.length + xs.length) ≤ nd.toNatClampNeg) (h64 : zs.length + xs.length < 64) :
    Goes p e s below (fun v h L => v = none ∧ Fr n0 L ∧ Keep h0 h [da] ∧ Arv Z h da kd .byte nd (U2 (zs ++ xs)) (.int (0 : Int32))) ({ frames := 3, cells := 0, slots := 0, locals := 43 } : Room).cells ({ frames := 3, cells := 0, slots := 0, locals := 43 } : Room).slots (T.setTop (mkF m 10 #[sR_ sa, sI_ i, sR_ da, sI_ d, sI_ ln, sI_ i] [])) := by
  have sz0 : n0 ≤ h.size := Nat.le_trans Z0 K0.1
  cases xs with
  | nil =>
    refine Goes.go (U' := (T.setTop (mkF m 41 #[sR_ sa, sI_ i, sR_ da, sI_ d, sI_ ln, sI_ i] []))) (fun t kt => ?_) ?_
    · skip
      refine XS.iload X.here hx rfl (hb hby d_rm_ui_10) rfl ?_
      refine XS.iload X.here hx rfl (hb hby d_rm_ui_12) rfl ?_
      refine XS.icmpYes X.here hx rfl (pc0 := 14) (pc' := 41) rfl (hb hby d_rm_ui_14) rfl (XT.ii_ge_t (hi.nlt hln (by simp))) (by decide) (by decide) ?_
      exact kt
    refine Goes.retV X hx hlk hret (hb hby d_rm_ui_41) (by decide) (by decide) ?_
    try rw [eT]
    exact ⟨rfl, N, K0, by rw [List.append_nil]; exact Vd⟩
  | cons x xr =>
    have hx1 : Lc x := hlc x (by rw [hy]; simp)
    simp only [List.length_cons, List.length_append] at hln hns hnd h64
    have hl2 := hln.2
    refine Goes.go (U' := (T.setTop (mkF m 27 #[sR_ sa, sI_ (i + (1 : Int32)), sR_ da, sI_ (d + (1 : Int32)), sI_ ln, sI_ i] [(.int i), (.ref sa), (.int d), (.ref da)]))) (fun t kt => ?_) ?_
    · skip
      refine XS.iload X.here hx rfl (hb hby d_rm_ui_10) rfl ?_
      refine XS.iload X.here hx rfl (hb hby d_rm_ui_12) rfl ?_
      refine XS.icmpNo X.here hx rfl (hb hby d_rm_ui_14) rfl (XT.ii_ge_f (hi.lt hln (by omega))) ?_
      refine XS.aloadN X.here hx rfl (hb hby d_rm_ui_17) rfl rfl ?_
      refine XS.iloadN X.here hx rfl (hb hby d_rm_ui_18) rfl ?_
      refine XS.iinc X.here hx rfl (hb hby d_rm_ui_19) rfl (l' := #[sR_ sa, sI_ i, sR_ da, sI_ (d + (1 : Int32)), sI_ ln, sI_ i]) rfl ?_
      refine XS.aloadN X.here hx rfl (hb hby d_rm_ui_22) rfl rfl ?_
      refine XS.iloadN X.here hx rfl (hb hby d_rm_ui_23) rfl ?_
      show Steps p.tables e below (T.setTop (mkF m 24 #[sR_ sa, sI_ i, sR_ da, sI_ (d + (1 : Int32)), sI_ ln, sI_ i] [(.int i), (.ref sa), (.int d), (.ref da)])) t
      refine XS.iinc X.here hx rfl (hb hby d_rm_ui_24) rfl (l' := #[sR_ sa, sI_ (i + (1 : Int32)), sR_ da, sI_ (d + (1 : Int32)), sI_ ln, sI_ i]) rfl ?_
      exact kt
    obtain ⟨cl_1, Ar_1, q_1, S_1, M_1, H_1, G_1⟩ := id Vs
    have hj_1 : (i).toNatClampNeg = us.length := hi.nat
    have hin_1 : ¬ (i < 0 ∨ cl_1.slots.size ≤ (i).toNatClampNeg) := inN S_1 hi.pos hj_1 (by omega)
    have hat_1 : cl_1.slots[(i).toNatClampNeg]? = some (.int x.toInt8.toInt32) := H_1.at hin_1 (by rw [hj_1]; exact (L1_at (by rw [hy]; simp)))
    refine Goes.go (U' := (T.setTop (mkF m 28 #[sR_ sa, sI_ (i + (1 : Int32)), sR_ da, sI_ (d + (1 : Int32)), sI_ ln, sI_ i] [(.int x.toInt8.toInt32), (.int d), (.ref da)]))) (fun t kt => ?_) ?_
    · skip
      refine X.baloadBytes hx (j := i) (v := (.int x.toInt8.toInt32)) (by rw [eT]; exact Ar_1.1) (State.isArrayOf_alike hZ.alike Ar_1.2.1) Ar_1.2.2 hin_1 hat_1 (g := (mkF m 27 #[sR_ sa, sI_ (i + (1 : Int32)), sR_ da, sI_ (d + (1 : Int32)), sI_ ln, sI_ i] [(.int i), (.ref sa), (.int d), (.ref da)])) rfl rfl (hb hby d_rm_ui_27) _ ?_
      exact kt
    refine Goes.go (U' := (T.setTop (mkF m 32 #[sR_ sa, sI_ (i + (1 : Int32)), sR_ da, sI_ (d + (1 : Int32)), sI_ ln, sI_ i] [(.int (x.toInt8.toInt32 &&& (255 : Int32))), (.int d), (.ref da)]))) (fun t kt => ?_) ?_
    · skip
      refine XS.sipush X.here hx rfl (hb hby d_rm_ui_28) ?_
      refine XS.iand X.here hx rfl (hb hby d_rm_ui_31) rfl ?_
      exact kt
    rw [show (x.toInt8.toInt32 &&& (255 : Int32)) = x from hx1.and]
    obtain ⟨v_2, T_2, L_2, X_2, q_2, st_2⟩ := callStatic X hx hZ (y := (⟨"java/lang/StringUTF16", "putChar", "([BII)V"⟩ : MethodName)) (W := 0) hown (wdOf hw 206 rfl) (wdOf hw 207 rfl) (wdOf hw 204 rfl) (wdOf hw 208 rfl) (by decide) (rm_pc l Z a0 hw [] kc sx da kd d x nd zs h n0 sz0 G O Vd o0 hd (by omega)) (by decide) (by decide) (by decide) (by decide) eT (g := (mkF m 32 #[sR_ sa, sI_ (i + (1 : Int32)), sR_ da, sI_ (d + (1 : Int32)), sI_ ln, sI_ i] [(.int x), (.int d), (.ref da)])) rfl (by rw [hml]; rfl) (argsL := [(.ref da), (.int d), (.int x)]) (rest := []) (lenOf pd_5 rfl) rfl rfl (Nat.le_refl _) (hb hby d_rm_ui_32)
    obtain ⟨rfl, n_2, K_2, V_2⟩ := q_2
    have N_2 := Fr.app N n_2
    have f_3 : Old Z n0 T_2.heap := O.keep K_2 (allS o0 all0)
    have f_4 : Arv Z T_2.heap sa ks .byte ns (L1 ys) (.int (0 : Int32)) := Vs.keep K_2 (ninS nb nin0)
    have K_6 : Keep h0 T_2.heap [da] := K0.trans K_2 (allS (P := fun x => x ∈ [da] ∨ h0.size ≤ x) (Or.inl (List.mem_of_getElem? (i := 0) rfl)) all0)
    have y_6 : n0 ≤ T_2.heap.size := Nat.le_trans Z0 K_6.1
    refine Goes.go (U' := (T_2.setTop (mkF m 35 #[sR_ sa, sI_ (i + (1 : Int32)), sR_ da, sI_ (d + (1 : Int32)), sI_ ln, sI_ i] []))) st_2 ?_
    refine Goes.go (U' := (T_2.setTop (mkF m 10 #[sR_ sa, sI_ (i + (1 : Int32)), sR_ da, sI_ (d + (1 : Int32)), sI_ ln, sI_ (i + (1 : Int32))] []))) (fun t kt => ?_) ?_
    · skip
      refine XS.iinc X_2.here hx rfl (hb hby d_rm_ui_35) rfl (l' := #[sR_ sa, sI_ (i + (1 : Int32)), sR_ da, sI_ (d + (1 : Int32)), sI_ ln, sI_ (i + (1 : Int32))]) rfl ?_
      refine XS.goto X_2.here hx rfl (pc0 := 38) (pc' := 10) rfl (hb hby d_rm_ui_38) (by decide) (by decide) ?_
      exact kt
    rw [show zs ++ x :: xr = (zs ++ [x]) ++ xr by simp]
    exact inf_10 l Z a0 hw kc sx sa da ks kd d0 ln ns nd (i + (1 : Int32)) (d + (1 : Int32)) ys (us ++ [x]) xr (zs ++ [x]) h0 n0 Z0 p e s m below meth c hx hby hml hown hnm hret hlk hZ _ _ _ X_2 (rfl : T_2.heap = T_2.heap) N_2 K_6 G f_3 f_4 V_2 o0 nb (by rw [hy]; simp) hlc ((hi.succ (by omega)).cong (by simp)) ((hd.succ (by omega)).cong (by simp)) (hln.cong (by simp only [List.length_append, List.length_cons, List.length_nil]; omega)) (by simp only [List.length_append, List.length_cons, List.length_nil]; omega) (by simp only [List.length_append, List.length_cons, List.length_nil]; omega) (by simp only [List.length_append, List.length_cons, List.length_nil]; omega)
set_option maxHeartbeats 4000000 in
theorem ef_rm_ui (m : MethodId) (x0 : Addr) (x1 : Int32) (x2 : Addr) (x3 : Int32) (x4 : Int32)  : entryFrame m #[(.ref x0), (.int x1), (.ref x2), (.int x3), (.int x4)] 6 = mkF m 0 #[.val (.ref x0), .val (.int x1), .val (.ref x2), .val (.int x3), .val (.int x4), .unset] [] := by first | (simp [entryFrame, mkF, argsToLocals, catR, catN, catI, catJ]; done) | rfl
set_option maxRecDepth 65536 in
set_option maxHeartbeats 40000000 in
theorem rm_ui (l : Launch) (Z : State) (a0 : Array Value) (hw : ∀ d ∈ tables_1, d.before a0 Z = true) (ws : List Jvm.Cond) (kc : Int32) (sx : Value) (sa da : Addr) (ks kd : ClassId) (d0 ln ns nd : Int32) (ys zs : List Int32) (h0 : Heap) (n0 : Nat) (Z0 : n0 ≤ h0.size) (G : Stt Z kc sx) (O : Old Z n0 h0) (Vs : Arv Z h0 sa ks .byte ns (L1 ys) (.int (0 : Int32))) (Vd : Arv Z h0 da kd .byte nd (U2 zs) (.int (0 : Int32))) (o0 : n0 ≤ da) (nb : sa ≠ da) (hlc : ∀ c ∈ ys, Lc c) (hd : Sz d0 zs.length) (hln : Sz ln ys.length) (hns : ys.length ≤ ns.toNatClampNeg) (hnd : 2 * (zs.length + ys.length) ≤ nd.toNatClampNeg) (h64 : zs.length + ys.length < 64) (hb1 : ¬ (((nd >>> ((1 : Int32) &&& 31)) ||| d0) ||| ln) < 0) (hb2 : ¬ ((nd >>> ((1 : Int32) &&& 31)) - d0) < ln) :
    Pays l Z (⟨"java/lang/StringUTF16", "inflate", "([BI[BII)V"⟩ : MethodName) jdk_52_method_86_code 6 none ws ({ frames := 3, cells := 0, slots := 0, locals := 43 } : Room) #[(.ref sa), (.int (0 : Int32)), (.ref da), (.int d0), (.int ln)] h0 (fun v h L => v = none ∧ Fr n0 L ∧ Keep h0 h [da] ∧ Arv Z h da kd .byte nd (U2 (zs ++ ys)) (.int (0 : Int32))) := by
  refine Pays.of (plainFor_of_name (by first | (simp [plainName, overriddenIn]; done) | decide +kernel)) ?_
  intro p e s m below meth c s₁ hx hby hml hown hnm hret hlk hZ e0 X0
  have N0 := Fr.nil n0
  have K0 : Keep h0 h0 [da] := Keep.refl _ _
  refine Goes.go (U' := (s₁.setTop (mkF m 0 #[sR_ sa, sI_ (0 : Int32), sR_ da, sI_ d0, sI_ ln, sU_] []))) (fun t kt => castTop (ef_rm_ui m sa (0 : Int32) da d0 ln) kt) ?_
  refine Goes.go (U' := (s₁.setTop (mkF m 4 #[sR_ sa, sI_ (0 : Int32), sR_ da, sI_ d0, sI_ ln, sU_] [(.ref da), (.int ln), (.int d0)]))) (fun t kt => ?_) ?_
  · skip
    refine XS.iloadN X0.here hx rfl (hb hby d_rm_ui_0) rfl ?_
    refine XS.iload X0.here hx rfl (hb hby d_rm_ui_1) rfl ?_
    refine XS.aloadN X0.here hx rfl (hb hby d_rm_ui_3) rfl rfl ?_
    exact kt
  obtain ⟨v_1, T_1, L_1, X_1, q_1, st_1⟩ := callStatic X0 hx hZ (y := (⟨"java/lang/StringUTF16", "checkBoundsOffCount", "(II[B)V"⟩ : MethodName)) (W := 0) hown (wdOf hw 231 rfl) (wdOf hw 232 rfl) (wdOf hw 204 rfl) (wdOf hw 233 rfl) (by decide) (rm_cbo l Z a0 hw [] kc sx d0 ln da kd nd (U2 zs) h0 n0 Z0 G O Vd hb1 hb2) (by decide) (by decide) (by decide) (by decide) e0 (g := (mkF m 4 #[sR_ sa, sI_ (0 : Int32), sR_ da, sI_ d0, sI_ ln, sU_] [(.ref da), (.int ln), (.int d0)])) rfl (by rw [hml]; rfl) (argsL := [(.int d0), (.int ln), (.ref da)]) (rest := []) (lenOf pd_9 rfl) rfl rfl (Nat.le_refl _) (hb hby d_rm_ui_4)
  obtain ⟨rfl, n_1, K_1⟩ := q_1
  have N_1 := Fr.app N0 n_1
  refine Goes.go (U' := (T_1.setTop (mkF m 7 #[sR_ sa, sI_ (0 : Int32), sR_ da, sI_ d0, sI_ ln, sU_] []))) st_1 ?_
  refine Goes.go (U' := (T_1.setTop (mkF m 10 #[sR_ sa, sI_ (0 : Int32), sR_ da, sI_ d0, sI_ ln, sI_ (0 : Int32)] []))) (fun t kt => ?_) ?_
  · skip
    refine XS.iconst X_1.here hx rfl (hb hby d_rm_ui_7) ?_
    refine XS.istore X_1.here hx rfl (hb hby d_rm_ui_8) rfl (l' := #[sR_ sa, sI_ (0 : Int32), sR_ da, sI_ d0, sI_ ln, sI_ (0 : Int32)]) rfl ?_
    exact kt
  exact inf_10 l Z a0 hw kc sx sa da ks kd d0 ln ns nd (0 : Int32) d0 ys [] ys zs h0 n0 Z0 p e s m below meth c hx hby hml hown hnm hret hlk hZ _ _ _ X_1 K_1 N_1 K0 G O Vs Vd o0 nb rfl hlc ⟨rfl, by first | decide | simp⟩ hd (hln.cong (by simp)) (by simpa using hns) hnd h64
theorem d_rm_li_0 : decode jdk_43_method_50_code 0 = .ok (.aload_n 0, 1) := by decide +kernel
theorem d_rm_li_1 : decode jdk_43_method_50_code 1 = .ok (.iload_n 1, 1) := by decide +kernel
theorem d_rm_li_2 : decode jdk_43_method_50_code 2 = .ok (.aload_n 2, 1) := by decide +kernel
theorem d_rm_li_3 : decode jdk_43_method_50_code 3 = .ok (.iload_n 3, 1) := by decide +kernel
theorem d_rm_li_4 : decode jdk_43_method_50_code 4 = .ok (.iload 4, 2) := by decide +kernel
theorem d_rm_li_6 : decode jdk_43_method_50_code 6 = .ok (.invokestatic 240, 3) := by decide +kernel
theorem d_rm_li_9 : decode jdk_43_method_50_code 9 = .ok (.return_, 1) := by decide +kernel
set_option maxHeartbeats 4000000 in
theorem ef_rm_li (m : MethodId) (x0 : Addr) (x1 : Int32) (x2 : Addr) (x3 : Int32) (x4 : Int32)  : entryFrame m #[(.ref x0), (.int x1), (.ref x2), (.int x3), (.int x4)] 5 = mkF m 0 #[.val (.ref x0), .val (.int x1), .val (.ref x2), .val (.int x3), .val (.int x4)] [] := by first | (simp [entryFrame, mkF, argsToLocals, catR, catN, catI, catJ]; done) | rfl
set_option maxRecDepth 65536 in
set_option maxHeartbeats 40000000 in
theorem rm_li (l : Launch) (Z : State) (a0 : Array Value) (hw : ∀ d ∈ tables_1, d.before a0 Z = true) (ws : List Jvm.Cond) (kc : Int32) (sx : Value) (sa da : Addr) (ks kd : ClassId) (d0 ln ns nd : Int32) (ys zs : List Int32) (h0 : Heap) (n0 : Nat) (Z0 : n0 ≤ h0.size) (G : Stt Z kc sx) (O : Old Z n0 h0) (Vs : Arv Z h0 sa ks .byte ns (L1 ys) (.int (0 : Int32))) (Vd : Arv Z h0 da kd .byte nd (U2 zs) (.int (0 : Int32))) (o0 : n0 ≤ da) (nb : sa ≠ da) (hlc : ∀ c ∈ ys, Lc c) (hd : Sz d0 zs.length) (hln : Sz ln ys.length) (hns : ys.length ≤ ns.toNatClampNeg) (hnd : 2 * (zs.length + ys.length) ≤ nd.toNatClampNeg) (h64 : zs.length + ys.length < 64) (hb1 : ¬ (((nd >>> ((1 : Int32) &&& 31)) ||| d0) ||| ln) < 0) (hb2 : ¬ ((nd >>> ((1 : Int32) &&& 31)) - d0) < ln) :
    Pays l Z (⟨"java/lang/StringLatin1", "inflate", "([BI[BII)V"⟩ : MethodName) jdk_43_method_50_code 5 none ws ({ frames := 4, cells := 0, slots := 0, locals := 60 } : Room) #[(.ref sa), (.int (0 : Int32)), (.ref da), (.int d0), (.int ln)] h0 (fun v h L => v = none ∧ Fr n0 L ∧ Keep h0 h [da] ∧ Arv Z h da kd .byte nd (U2 (zs ++ ys)) (.int (0 : Int32))) := by
  refine Pays.of (plainFor_of_name (by first | (simp [plainName, overriddenIn]; done) | decide +kernel)) ?_
  intro p e s m below meth c s₁ hx hby hml hown hnm hret hlk hZ e0 X0
  have N0 := Fr.nil n0
  have K0 : Keep h0 h0 [da] := Keep.refl _ _
  refine Goes.go (U' := (s₁.setTop (mkF m 0 #[sR_ sa, sI_ (0 : Int32), sR_ da, sI_ d0, sI_ ln] []))) (fun t kt => castTop (ef_rm_li m sa (0 : Int32) da d0 ln) kt) ?_
  refine Goes.go (U' := (s₁.setTop (mkF m 6 #[sR_ sa, sI_ (0 : Int32), sR_ da, sI_ d0, sI_ ln] [(.int ln), (.int d0), (.ref da), (.int (0 : Int32)), (.ref sa)]))) (fun t kt => ?_) ?_
  · skip
    refine XS.aloadN X0.here hx rfl (hb hby d_rm_li_0) rfl rfl ?_
    refine XS.iloadN X0.here hx rfl (hb hby d_rm_li_1) rfl ?_
    refine XS.aloadN X0.here hx rfl (hb hby d_rm_li_2) rfl rfl ?_
    refine XS.iloadN X0.here hx rfl (hb hby d_rm_li_3) rfl ?_
    refine XS.iload X0.here hx rfl (hb hby d_rm_li_4) rfl ?_
    exact kt
  obtain ⟨v_1, T_1, L_1, X_1, q_1, st_1⟩ := callStatic X0 hx hZ (y := (⟨"java/lang/StringUTF16", "inflate", "([BI[BII)V"⟩ : MethodName)) (W := 0) hown (wdOf hw 228 rfl) (wdOf hw 229 rfl) (wdOf hw 204 rfl) (wdOf hw 230 rfl) (by decide) (rm_ui l Z a0 hw [] kc sx sa da ks kd d0 ln ns nd ys zs h0 n0 Z0 G O Vs Vd o0 nb hlc hd hln hns hnd h64 hb1 hb2) (by decide) (by decide) (by decide) (by decide) e0 (g := (mkF m 6 #[sR_ sa, sI_ (0 : Int32), sR_ da, sI_ d0, sI_ ln] [(.int ln), (.int d0), (.ref da), (.int (0 : Int32)), (.ref sa)])) rfl (by rw [hml]; rfl) (argsL := [(.ref sa), (.int (0 : Int32)), (.ref da), (.int d0), (.int ln)]) (rest := []) (lenOf pd_10 rfl) rfl rfl (Nat.le_refl _) (hb hby d_rm_li_6)
  obtain ⟨rfl, n_1, K_1, V_1⟩ := q_1
  have N_1 := Fr.app N0 n_1
  have f_2 : Old Z n0 T_1.heap := O.keep K_1 (allS o0 all0)
  have f_3 : Arv Z T_1.heap sa ks .byte ns (L1 ys) (.int (0 : Int32)) := Vs.keep K_1 (ninS nb nin0)
  have K_5 : Keep h0 T_1.heap [da] := K0.trans K_1 (allS (P := fun x => x ∈ [da] ∨ h0.size ≤ x) (Or.inl (List.mem_of_getElem? (i := 0) rfl)) all0)
  have y_5 : n0 ≤ T_1.heap.size := Nat.le_trans Z0 K_5.1
  refine Goes.go (U' := (T_1.setTop (mkF m 9 #[sR_ sa, sI_ (0 : Int32), sR_ da, sI_ d0, sI_ ln] []))) st_1 ?_
  refine Goes.retV X_1 hx hlk hret (hb hby d_rm_li_9) (by decide) (by decide) ?_
  try rw [(rfl : T_1.heap = T_1.heap)]
  exact ⟨rfl, N_1, K_5, V_1⟩
theorem d_rm_si0_0 : decode jdk_42_method_151_code 0 = .ok (.aload_n 0, 1) := by decide +kernel
theorem d_rm_si0_1 : decode jdk_42_method_151_code 1 = .ok (.invokespecial 1, 3) := by decide +kernel
theorem d_rm_si0_4 : decode jdk_42_method_151_code 4 = .ok (.aload_n 0, 1) := by decide +kernel
theorem d_rm_si0_5 : decode jdk_42_method_151_code 5 = .ok (.aload_n 1, 1) := by decide +kernel
theorem d_rm_si0_6 : decode jdk_42_method_151_code 6 = .ok (.putfield 9, 3) := by decide +kernel
theorem d_rm_si0_9 : decode jdk_42_method_151_code 9 = .ok (.aload_n 0, 1) := by decide +kernel
theorem d_rm_si0_10 : decode jdk_42_method_151_code 10 = .ok (.iload_n 2, 1) := by decide +kernel
theorem d_rm_si0_11 : decode jdk_42_method_151_code 11 = .ok (.putfield 15, 3) := by decide +kernel
theorem d_rm_si0_14 : decode jdk_42_method_151_code 14 = .ok (.return_, 1) := by decide +kernel
set_option maxHeartbeats 4000000 in
theorem ef_rm_si0 (m : MethodId) (x0 : Addr) (x1 : Addr) (x2 : Int32)  : entryFrame m #[(.ref x0), (.ref x1), (.int x2)] 3 = mkF m 0 #[.val (.ref x0), .val (.ref x1), .val (.int x2)] [] := by first | (simp [entryFrame, mkF, argsToLocals, catR, catN, catI, catJ]; done) | rfl
set_option maxRecDepth 65536 in
set_option maxHeartbeats 40000000 in
theorem rm_si0 (l : Launch) (Z : State) (a0 : Array Value) (hw : ∀ d ∈ tables_1, d.before a0 Z = true) (ws : List Jvm.Cond) (kc : Int32) (sx : Value) (ax bx : Addr) (h0 : Heap) (n0 : Nat) (Z0 : n0 ≤ h0.size) (G : Stt Z kc sx) (O : Old Z n0 h0) (E0 : Exa Z h0 ax "java/lang/String") (F0_value : Fld Z h0 ax "java/lang/String" "value" "[B" .null) (F0_coder : Fld Z h0 ax "java/lang/String" "coder" "B" (.int (0 : Int32))) (o0 : n0 ≤ ax) :
    Pays l Z (⟨"java/lang/String", "<init>", "([BB)V"⟩ : MethodName) jdk_42_method_151_code 3 none ws ({ frames := 1, cells := 0, slots := 0, locals := 12 } : Room) #[(.ref ax), (.ref bx), (.int (0 : Int32))] h0 (fun v h L => v = none ∧ Fr n0 L ∧ Keep h0 h [ax] ∧ Exa Z h ax "java/lang/String" ∧ Fld Z h ax "java/lang/String" "value" "[B" (.ref bx) ∧ Fld Z h ax "java/lang/String" "coder" "B" (.int (0 : Int32))) := by
  refine Pays.of (plainFor_of_name (by first | (simp [plainName, overriddenIn]; done) | decide +kernel)) ?_
  intro p e s m below meth c s₁ hx hby hml hown hnm hret hlk hZ e0 X0
  have N0 := Fr.nil n0
  have K0 : Keep h0 h0 [ax] := Keep.refl _ _
  refine Goes.go (U' := (s₁.setTop (mkF m 0 #[sR_ ax, sR_ bx, sI_ (0 : Int32)] []))) (fun t kt => castTop (ef_rm_si0 m ax bx (0 : Int32)) kt) ?_
  refine Goes.go (U' := (s₁.setTop (mkF m 1 #[sR_ ax, sR_ bx, sI_ (0 : Int32)] [(.ref ax)]))) (fun t kt => ?_) ?_
  · skip
    refine XS.aloadN X0.here hx rfl (hb hby d_rm_si0_0) rfl rfl ?_
    exact kt
  obtain ⟨T_1, X_1, e_1, st_1⟩ := initO X0 hx hZ hown (wdOf hw 48 rfl) (wdOf hw 7 rfl) (wdOf hw 8 rfl) e0 (g := (mkF m 1 #[sR_ ax, sR_ bx, sI_ (0 : Int32)] [(.ref ax)])) rfl (by rw [hml]; rfl) rfl (hb hby d_rm_si0_1) (by decide) (W := 0) (Nat.le_refl _) (by decide)
  refine Goes.go (U' := (T_1.setTop (mkF m 4 #[sR_ ax, sR_ bx, sI_ (0 : Int32)] []))) st_1 ?_
  refine Goes.go (U' := (T_1.setTop (mkF m 6 #[sR_ ax, sR_ bx, sI_ (0 : Int32)] [(.ref bx), (.ref ax)]))) (fun t kt => ?_) ?_
  · skip
    refine XS.aloadN X_1.here hx rfl (hb hby d_rm_si0_4) rfl rfl ?_
    refine XS.aloadN X_1.here hx rfl (hb hby d_rm_si0_5) rfl rfl ?_
    exact kt
  obtain ⟨T_2, h_2, X_2, e_2, W_2, st_2⟩ := putF X_1 hx hZ hown (host := "") (Or.inl (wdOf hw 49 rfl)) Via.refl e_1 F0_value E0 (Or.inr ⟨wdOf hw 50 rfl, rfl, hnm⟩) (wdOf hw 40 rfl) (ty := (.array .byte)) (by decide) rfl rfl (g := (mkF m 6 #[sR_ ax, sR_ bx, sI_ (0 : Int32)] [(.ref bx), (.ref ax)])) rfl rfl (hb hby d_rm_si0_6)
  have N_2 := Fr.snoc X_2 N0 o0
  have f_3 : Old Z n0 h_2 := O.wr W_2 o0
  have f_4 : Exa Z h_2 ax "java/lang/String" := E0.wr W_2
  have f_5 : Fld Z h_2 ax "java/lang/String" "value" "[B" (.ref bx) := F0_value.same W_2
  have f_6 : Fld Z h_2 ax "java/lang/String" "coder" "B" (.int (0 : Int32)) := F0_coder.other W_2 (Or.inr (slot_ne (Or.inr (wdOf hw 52 rfl)) (Or.inr (wdOf hw 50 rfl)) (by decide) (t := .byte) (t' := (.array .byte)) (by decide) (by decide)))
  have K_7 : Keep h0 h_2 [ax] := K0.wr W_2 (Or.inl (List.mem_of_getElem? (i := 0) rfl))
  have y_7 : n0 ≤ h_2.size := Nat.le_trans Z0 K_7.1
  refine Goes.go (U' := (T_2.setTop (mkF m 9 #[sR_ ax, sR_ bx, sI_ (0 : Int32)] []))) st_2 ?_
  refine Goes.go (U' := (T_2.setTop (mkF m 11 #[sR_ ax, sR_ bx, sI_ (0 : Int32)] [(.int (0 : Int32)), (.ref ax)]))) (fun t kt => ?_) ?_
  · skip
    refine XS.aloadN X_2.here hx rfl (hb hby d_rm_si0_9) rfl rfl ?_
    refine XS.iloadN X_2.here hx rfl (hb hby d_rm_si0_10) rfl ?_
    exact kt
  obtain ⟨T_8, h_8, X_8, e_8, W_8, st_8⟩ := putFN X_2 hx hZ hown (wdOf hw 51 rfl) Via.refl e_2 f_6 f_4 (Or.inr ⟨wdOf hw 52 rfl, rfl, hnm⟩) (wdOf hw 40 rfl) (ty := .byte) (v' := (.int (0 : Int32))) (by decide) rfl rfl (g := (mkF m 11 #[sR_ ax, sR_ bx, sI_ (0 : Int32)] [(.int (0 : Int32)), (.ref ax)])) rfl rfl (hb hby d_rm_si0_11)
  have N_8 := Fr.snoc X_8 N_2 o0
  have f_9 : Old Z n0 h_8 := f_3.wr W_8 o0
  have f_10 : Exa Z h_8 ax "java/lang/String" := f_4.wr W_8
  have f_11 : Fld Z h_8 ax "java/lang/String" "value" "[B" (.ref bx) := f_5.other W_8 (Or.inr (slot_ne (Or.inr (wdOf hw 50 rfl)) (Or.inr (wdOf hw 52 rfl)) (by decide) (t := (.array .byte)) (t' := .byte) (by decide) (by decide)))
  have f_12 : Fld Z h_8 ax "java/lang/String" "coder" "B" (.int (0 : Int32)) := f_6.same W_8
  have K_13 : Keep h0 h_8 [ax] := K_7.wr W_8 (Or.inl (List.mem_of_getElem? (i := 0) rfl))
  have y_13 : n0 ≤ h_8.size := Nat.le_trans Z0 K_13.1
  refine Goes.go (U' := (T_8.setTop (mkF m 14 #[sR_ ax, sR_ bx, sI_ (0 : Int32)] []))) st_8 ?_
  refine Goes.retV X_8 hx hlk hret (hb hby d_rm_si0_14) (by decide) (by decide) ?_
  try rw [e_8]
  exact ⟨rfl, N_8, K_13, f_10, f_11, f_12⟩
theorem d_rm_si1_0 : decode jdk_42_method_151_code 0 = .ok (.aload_n 0, 1) := by decide +kernel
theorem d_rm_si1_1 : decode jdk_42_method_151_code 1 = .ok (.invokespecial 1, 3) := by decide +kernel
theorem d_rm_si1_4 : decode jdk_42_method_151_code 4 = .ok (.aload_n 0, 1) := by decide +kernel
theorem d_rm_si1_5 : decode jdk_42_method_151_code 5 = .ok (.aload_n 1, 1) := by decide +kernel
theorem d_rm_si1_6 : decode jdk_42_method_151_code 6 = .ok (.putfield 9, 3) := by decide +kernel
theorem d_rm_si1_9 : decode jdk_42_method_151_code 9 = .ok (.aload_n 0, 1) := by decide +kernel
theorem d_rm_si1_10 : decode jdk_42_method_151_code 10 = .ok (.iload_n 2, 1) := by decide +kernel
theorem d_rm_si1_11 : decode jdk_42_method_151_code 11 = .ok (.putfield 15, 3) := by decide +kernel
theorem d_rm_si1_14 : decode jdk_42_method_151_code 14 = .ok (.return_, 1) := by decide +kernel
set_option maxHeartbeats 4000000 in
theorem ef_rm_si1 (m : MethodId) (x0 : Addr) (x1 : Addr) (x2 : Int32)  : entryFrame m #[(.ref x0), (.ref x1), (.int x2)] 3 = mkF m 0 #[.val (.ref x0), .val (.ref x1), .val (.int x2)] [] := by first | (simp [entryFrame, mkF, argsToLocals, catR, catN, catI, catJ]; done) | rfl
set_option maxRecDepth 65536 in
set_option maxHeartbeats 40000000 in
theorem rm_si1 (l : Launch) (Z : State) (a0 : Array Value) (hw : ∀ d ∈ tables_1, d.before a0 Z = true) (ws : List Jvm.Cond) (kc : Int32) (sx : Value) (ax bx : Addr) (h0 : Heap) (n0 : Nat) (Z0 : n0 ≤ h0.size) (G : Stt Z kc sx) (O : Old Z n0 h0) (E0 : Exa Z h0 ax "java/lang/String") (F0_value : Fld Z h0 ax "java/lang/String" "value" "[B" .null) (F0_coder : Fld Z h0 ax "java/lang/String" "coder" "B" (.int (0 : Int32))) (o0 : n0 ≤ ax) :
    Pays l Z (⟨"java/lang/String", "<init>", "([BB)V"⟩ : MethodName) jdk_42_method_151_code 3 none ws ({ frames := 1, cells := 0, slots := 0, locals := 12 } : Room) #[(.ref ax), (.ref bx), (.int (1 : Int32))] h0 (fun v h L => v = none ∧ Fr n0 L ∧ Keep h0 h [ax] ∧ Exa Z h ax "java/lang/String" ∧ Fld Z h ax "java/lang/String" "value" "[B" (.ref bx) ∧ Fld Z h ax "java/lang/String" "coder" "B" (.int (1 : Int32))) := by
  refine Pays.of (plainFor_of_name (by first | (simp [plainName, overriddenIn]; done) | decide +kernel)) ?_
  intro p e s m below meth c s₁ hx hby hml hown hnm hret hlk hZ e0 X0
  have N0 := Fr.nil n0
  have K0 : Keep h0 h0 [ax] := Keep.refl _ _
  refine Goes.go (U' := (s₁.setTop (mkF m 0 #[sR_ ax, sR_ bx, sI_ (1 : Int32)] []))) (fun t kt => castTop (ef_rm_si1 m ax bx (1 : Int32)) kt) ?_
  refine Goes.go (U' := (s₁.setTop (mkF m 1 #[sR_ ax, sR_ bx, sI_ (1 : Int32)] [(.ref ax)]))) (fun t kt => ?_) ?_
  · skip
    refine XS.aloadN X0.here hx rfl (hb hby d_rm_si1_0) rfl rfl ?_
    exact kt
  obtain ⟨T_1, X_1, e_1, st_1⟩ := initO X0 hx hZ hown (wdOf hw 48 rfl) (wdOf hw 7 rfl) (wdOf hw 8 rfl) e0 (g := (mkF m 1 #[sR_ ax, sR_ bx, sI_ (1 : Int32)] [(.ref ax)])) rfl (by rw [hml]; rfl) rfl (hb hby d_rm_si1_1) (by decide) (W := 0) (Nat.le_refl _) (by decide)
  refine Goes.go (U' := (T_1.setTop (mkF m 4 #[sR_ ax, sR_ bx, sI_ (1 : Int32)] []))) st_1 ?_
  refine Goes.go (U' := (T_1.setTop (mkF m 6 #[sR_ ax, sR_ bx, sI_ (1 : Int32)] [(.ref bx), (.ref ax)]))) (fun t kt => ?_) ?_
  · skip
    refine XS.aloadN X_1.here hx rfl (hb hby d_rm_si1_4) rfl rfl ?_
    refine XS.aloadN X_1.here hx rfl (hb hby d_rm_si1_5) rfl rfl ?_
    exact kt
  obtain ⟨T_2, h_2, X_2, e_2, W_2, st_2⟩ := putF X_1 hx hZ hown (host := "") (Or.inl (wdOf hw 49 rfl)) Via.refl e_1 F0_value E0 (Or.inr ⟨wdOf hw 50 rfl, rfl, hnm⟩) (wdOf hw 40 rfl) (ty := (.array .byte)) (by decide) rfl rfl (g := (mkF m 6 #[sR_ ax, sR_ bx, sI_ (1 : Int32)] [(.ref bx), (.ref ax)])) rfl rfl (hb hby d_rm_si1_6)
  have N_2 := Fr.snoc X_2 N0 o0
  have f_3 : Old Z n0 h_2 := O.wr W_2 o0
  have f_4 : Exa Z h_2 ax "java/lang/String" := E0.wr W_2
  have f_5 : Fld Z h_2 ax "java/lang/String" "value" "[B" (.ref bx) := F0_value.same W_2
  have f_6 : Fld Z h_2 ax "java/lang/String" "coder" "B" (.int (0 : Int32)) := F0_coder.other W_2 (Or.inr (slot_ne (Or.inr (wdOf hw 52 rfl)) (Or.inr (wdOf hw 50 rfl)) (by decide) (t := .byte) (t' := (.array .byte)) (by decide) (by decide)))
  have K_7 : Keep h0 h_2 [ax] := K0.wr W_2 (Or.inl (List.mem_of_getElem? (i := 0) rfl))
  have y_7 : n0 ≤ h_2.size := Nat.le_trans Z0 K_7.1
  refine Goes.go (U' := (T_2.setTop (mkF m 9 #[sR_ ax, sR_ bx, sI_ (1 : Int32)] []))) st_2 ?_
  refine Goes.go (U' := (T_2.setTop (mkF m 11 #[sR_ ax, sR_ bx, sI_ (1 : Int32)] [(.int (1 : Int32)), (.ref ax)]))) (fun t kt => ?_) ?_
  · skip
    refine XS.aloadN X_2.here hx rfl (hb hby d_rm_si1_9) rfl rfl ?_
    refine XS.iloadN X_2.here hx rfl (hb hby d_rm_si1_10) rfl ?_
    exact kt
  obtain ⟨T_8, h_8, X_8, e_8, W_8, st_8⟩ := putFN X_2 hx hZ hown (wdOf hw 51 rfl) Via.refl e_2 f_6 f_4 (Or.inr ⟨wdOf hw 52 rfl, rfl, hnm⟩) (wdOf hw 40 rfl) (ty := .byte) (v' := (.int (1 : Int32))) (by decide) rfl rfl (g := (mkF m 11 #[sR_ ax, sR_ bx, sI_ (1 : Int32)] [(.int (1 : Int32)), (.ref ax)])) rfl rfl (hb hby d_rm_si1_11)
  have N_8 := Fr.snoc X_8 N_2 o0
  have f_9 : Old Z n0 h_8 := f_3.wr W_8 o0
  have f_10 : Exa Z h_8 ax "java/lang/String" := f_4.wr W_8
  have f_11 : Fld Z h_8 ax "java/lang/String" "value" "[B" (.ref bx) := f_5.other W_8 (Or.inr (slot_ne (Or.inr (wdOf hw 50 rfl)) (Or.inr (wdOf hw 52 rfl)) (by decide) (t := (.array .byte)) (t' := .byte) (by decide) (by decide)))
  have f_12 : Fld Z h_8 ax "java/lang/String" "coder" "B" (.int (1 : Int32)) := f_6.same W_8
  have K_13 : Keep h0 h_8 [ax] := K_7.wr W_8 (Or.inl (List.mem_of_getElem? (i := 0) rfl))
  have y_13 : n0 ≤ h_8.size := Nat.le_trans Z0 K_13.1
  refine Goes.go (U' := (T_8.setTop (mkF m 14 #[sR_ ax, sR_ bx, sI_ (1 : Int32)] []))) st_8 ?_
  refine Goes.retV X_8 hx hlk hret (hb hby d_rm_si1_14) (by decide) (by decide) ?_
  try rw [e_8]
  exact ⟨rfl, N_8, K_13, f_10, f_11, f_12⟩
theorem d_rm_sv_0 : decode jdk_42_method_139_code 0 = .ok (.getstatic 38, 3) := by decide +kernel
theorem d_rm_sv_3 : decode jdk_42_method_139_code 3 = .ok (.ifCond .eq 23, 3) := by decide +kernel
theorem d_rm_sv_6 : decode jdk_42_method_139_code 6 = .ok (.iload_n 0, 1) := by decide +kernel
theorem d_rm_sv_7 : decode jdk_42_method_139_code 7 = .ok (.invokestatic 1015, 3) := by decide +kernel
theorem d_rm_sv_10 : decode jdk_42_method_139_code 10 = .ok (.ifCond .eq 16, 3) := by decide +kernel
theorem d_rm_sv_13 : decode jdk_42_method_139_code 13 = .ok (.new 10, 3) := by decide +kernel
theorem d_rm_sv_16 : decode jdk_42_method_139_code 16 = .ok (.dup, 1) := by decide +kernel
theorem d_rm_sv_17 : decode jdk_42_method_139_code 17 = .ok (.iload_n 0, 1) := by decide +kernel
theorem d_rm_sv_18 : decode jdk_42_method_139_code 18 = .ok (.invokestatic 1018, 3) := by decide +kernel
theorem d_rm_sv_21 : decode jdk_42_method_139_code 21 = .ok (.iconst 0, 1) := by decide +kernel
theorem d_rm_sv_22 : decode jdk_42_method_139_code 22 = .ok (.invokespecial 209, 3) := by decide +kernel
theorem d_rm_sv_25 : decode jdk_42_method_139_code 25 = .ok (.areturn, 1) := by decide +kernel
theorem d_rm_sv_26 : decode jdk_42_method_139_code 26 = .ok (.new 10, 3) := by decide +kernel
theorem d_rm_sv_29 : decode jdk_42_method_139_code 29 = .ok (.dup, 1) := by decide +kernel
theorem d_rm_sv_30 : decode jdk_42_method_139_code 30 = .ok (.iload_n 0, 1) := by decide +kernel
theorem d_rm_sv_31 : decode jdk_42_method_139_code 31 = .ok (.invokestatic 1021, 3) := by decide +kernel
theorem d_rm_sv_34 : decode jdk_42_method_139_code 34 = .ok (.iconst 1, 1) := by decide +kernel
theorem d_rm_sv_35 : decode jdk_42_method_139_code 35 = .ok (.invokespecial 209, 3) := by decide +kernel
theorem d_rm_sv_38 : decode jdk_42_method_139_code 38 = .ok (.areturn, 1) := by decide +kernel
set_option maxHeartbeats 4000000 in
theorem ef_rm_sv (m : MethodId) (x0 : Int32)  : entryFrame m #[(.int x0)] 1 = mkF m 0 #[.val (.int x0)] [] := by first | (simp [entryFrame, mkF, argsToLocals, catR, catN, catI, catJ]; done) | rfl
set_option maxRecDepth 65536 in
set_option maxHeartbeats 40000000 in
theorem rm_sv (l : Launch) (Z : State) (a0 : Array Value) (hw : ∀ d ∈ tables_1, d.before a0 Z = true) (ws : List Jvm.Cond) (kc : Int32) (sx : Value) (xc : Int32) (h0 : Heap) (n0 : Nat) (Z0 : n0 ≤ h0.size) (G : Stt Z kc sx) (O : Old Z n0 h0)  (hch : Ch xc) :
    Pays l Z (⟨"java/lang/String", "valueOf", "(C)Ljava/lang/String;"⟩ : MethodName) jdk_42_method_139_code 1 (some (.object "java/lang/String")) ws ({ frames := 2, cells := 2, slots := 6, locals := 29 } : Room) #[(.int xc)] h0 (fun v h L => ∃ r rb, v = some (.ref r) ∧ Fr n0 L ∧ Ext h0 h ∧ h0.size ≤ rb ∧ Str Z h r rb (1 : Int32) [xc]) := by
  refine Pays.of (plainFor_of_name (by first | (simp [plainName, overriddenIn]; done) | decide +kernel)) ?_
  intro p e s m below meth c s₁ hx hby hml hown hnm hret hlk hZ e0 X0
  have N0 := Fr.nil n0
  have K0 : Keep h0 h0 [] := Keep.refl _ _
  refine Goes.go (U' := (s₁.setTop (mkF m 0 #[sI_ xc] []))) (fun t kt => castTop (ef_rm_sv m xc) kt) ?_
  obtain ⟨T_1, X_1, e_1, st_1⟩ := getS X0 hx hZ hown (host := "") (wdOf hw 34 rfl) Via.refl e0 (G.1.ext O.2) (g := (mkF m 0 #[sI_ xc] [])) rfl (hb hby d_rm_sv_0)
  refine Goes.go (U' := (T_1.setTop (mkF m 3 #[sI_ xc] [(.int kc)]))) st_1 ?_
  refine Goes.go (U' := (T_1.setTop (mkF m 7 #[sI_ xc] [(.int xc)]))) (fun t kt => ?_) ?_
  · skip
    refine XS.ifNo X_1.here hx rfl (hb hby d_rm_sv_3) rfl (XT.i0_eq_f G.2.1) ?_
    refine XS.iloadN X_1.here hx rfl (hb hby d_rm_sv_6) rfl ?_
    exact kt
  by_cases hc : (255 : Int32) < xc
  · -- coder 1
    obtain ⟨v_2, T_2, L_2, X_2, q_2, st_2⟩ := callStatic X_1 hx hZ (y := (⟨"java/lang/StringLatin1", "canEncode", "(C)Z"⟩ : MethodName)) (W := 0) hown (wdOf hw 35 rfl) (wdOf hw 36 rfl) (wdOf hw 37 rfl) (wdOf hw 38 rfl) (by decide) (rm_ce0 l Z a0 hw [] kc sx xc h0 n0 Z0 G O hc) (by decide) (by decide) (by decide) (by decide) e_1 (g := (mkF m 7 #[sI_ xc] [(.int xc)])) rfl (by rw [hml]; rfl) (argsL := [(.int xc)]) (rest := []) (lenOf pd_11 rfl) rfl rfl (Nat.le_refl _) (hb hby d_rm_sv_7)
    obtain ⟨rfl, n_2, K_2⟩ := q_2
    have N_2 := Fr.app N0 n_2
    refine Goes.go (U' := (T_2.setTop (mkF m 10 #[sI_ xc] [(.int (0 : Int32))]))) st_2 ?_
    refine Goes.go (U' := (T_2.setTop (mkF m 26 #[sI_ xc] []))) (fun t kt => ?_) ?_
    · skip
      refine XS.ifYes X_2.here hx rfl (pc0 := 10) (pc' := 26) rfl (hb hby d_rm_sv_10) rfl (XT.i0_eq_t (by decide)) (by decide) (by decide) ?_
      exact kt
    obtain ⟨T_3, h_3, X_3, e_3, E_3, A_3, D_3, -, st_3⟩ := newO X_2 hx hZ hown (wdOf hw 39 rfl) (wdOf hw 40 rfl) (wdOf hw 23 rfl) K_2 (g := (mkF m 26 #[sI_ xc] [])) rfl (hb hby d_rm_sv_26) (by decide) (by decide)
    obtain ⟨b_3, g_3⟩ : ∃ z, z = h0.size := ⟨_, rfl⟩
    rw [← g_3] at A_3 D_3 st_3
    have o_3 : n0 ≤ b_3 := Nat.le_trans Z0 (Nat.le_of_eq g_3.symm)
    have z_3 : h0.size ≤ b_3 := Nat.le_trans K0.1 (Nat.le_of_eq g_3.symm)
    have f_4 : Old Z n0 h_3 := O.ext E_3
    have f_5 : Fld Z h_3 b_3 "java/lang/String" "value" "[B" .null := D_3 (Or.inr (wdOf hw 50 rfl)) (ty := (.array .byte)) (by decide)
    have f_6 : Fld Z h_3 b_3 "java/lang/String" "coder" "B" (.int (0 : Int32)) := D_3 (Or.inr (wdOf hw 52 rfl)) (ty := .byte) (by decide)
    have K_7 : Keep h0 h_3 [] := K0.ext E_3
    have y_7 : n0 ≤ h_3.size := Nat.le_trans Z0 K_7.1
    refine Goes.go (U' := (T_3.setTop (mkF m 29 #[sI_ xc] [(.ref b_3)]))) st_3 ?_
    refine Goes.go (U' := (T_3.setTop (mkF m 31 #[sI_ xc] [(.int xc), (.ref b_3), (.ref b_3)]))) (fun t kt => ?_) ?_
    · skip
      refine XS.dup X_3.here hx rfl (hb hby d_rm_sv_29) rfl rfl ?_
      refine XS.iloadN X_3.here hx rfl (hb hby d_rm_sv_30) rfl ?_
      exact kt
    obtain ⟨v_8, T_8, L_8, X_8, q_8, st_8⟩ := callStatic X_3 hx hZ (y := (⟨"java/lang/StringUTF16", "toBytes", "(C)[B"⟩ : MethodName)) (W := 2) hown (wdOf hw 202 rfl) (wdOf hw 203 rfl) (wdOf hw 204 rfl) (wdOf hw 205 rfl) (by decide) (rm_tb1 l Z a0 hw [] kc sx xc h_3 n0 y_7 G f_4 ) (by decide) (by decide) (by decide) (by decide) e_3 (g := (mkF m 31 #[sI_ xc] [(.int xc), (.ref b_3), (.ref b_3)])) rfl (by rw [hml]; rfl) (argsL := [(.int xc)]) (rest := [(.ref b_3), (.ref b_3)]) (lenOf pd_12 rfl) rfl rfl (Nat.le_refl _) (hb hby d_rm_sv_31)
    obtain ⟨r_8, kb_8, rfl, n_8, K_8, z_8, V_8⟩ := q_8
    have ne_9 : b_3 ≠ r_8 := Nat.ne_of_lt (Nat.lt_of_lt_of_le A_3.lt z_8)
    have o_10 : n0 ≤ r_8 := Nat.le_trans y_7 z_8
    have z_11 : h0.size ≤ r_8 := Nat.le_trans K_7.1 z_8
    have N_8 := Fr.app N_2 n_8
    have f_12 : Old Z n0 T_8.heap := f_4.ext K_8
    have f_13 : Exa Z T_8.heap b_3 "java/lang/String" := A_3.ext K_8
    have f_14 : Fld Z T_8.heap b_3 "java/lang/String" "value" "[B" .null := f_5.ext K_8
    have f_15 : Fld Z T_8.heap b_3 "java/lang/String" "coder" "B" (.int (0 : Int32)) := f_6.ext K_8
    have K_16 : Keep h0 T_8.heap [] := K_7.ext K_8
    have y_16 : n0 ≤ T_8.heap.size := Nat.le_trans Z0 K_16.1
    refine Goes.go (U' := (T_8.setTop (mkF m 34 #[sI_ xc] [(.ref r_8), (.ref b_3), (.ref b_3)]))) st_8 ?_
    refine Goes.go (U' := (T_8.setTop (mkF m 35 #[sI_ xc] [(.int (1 : Int32)), (.ref r_8), (.ref b_3), (.ref b_3)]))) (fun t kt => ?_) ?_
    · skip
      refine XS.iconst X_8.here hx rfl (hb hby d_rm_sv_34) ?_
      exact kt
    obtain ⟨v_17, T_17, L_17, X_17, q_17, st_17⟩ := callInit X_8 hx hZ (y := (⟨"java/lang/String", "<init>", "([BB)V"⟩ : MethodName)) (W := 1) rfl hown (wdOf hw 44 rfl) (wdOf hw 45 rfl) (wdOf hw 23 rfl) (wdOf hw 47 rfl) (by decide) (rm_si1 l Z a0 hw [] kc sx b_3 r_8 T_8.heap n0 y_16 G f_12 f_13 f_14 f_15 o_3) (by decide) (by decide) (by decide) (by decide) (rfl : T_8.heap = T_8.heap) (b := b_3) (g := (mkF m 35 #[sI_ xc] [(.int (1 : Int32)), (.ref r_8), (.ref b_3), (.ref b_3)])) rfl (by rw [hml]; rfl) (argsL := [(.ref r_8), (.int (1 : Int32))]) (rest := [(.ref b_3)]) (lenOf pd_13 rfl) rfl rfl (Nat.le_refl _) (hb hby d_rm_sv_35)
    obtain ⟨rfl, n_17, K_17, GE_17, Gv_17, Gc_17⟩ := q_17
    have N_17 := Fr.app N_8 n_17
    have f_18 : Old Z n0 T_17.heap := f_12.keep K_17 (allS o_3 all0)
    have f_19 : Exa Z T_17.heap b_3 "java/lang/String" := f_13.keep K_17
    have f_22 : Arv Z T_17.heap r_8 kb_8 .byte ((1 : Int32) <<< ((1 : Int32) &&& 31)) (U2 [xc]) (.int (0 : Int32)) := V_8.keep K_17 (ninS (Ne.symm ne_9) nin0)
    have K_23 : Keep h0 T_17.heap [] := K_16.trans K_17 (allS (P := fun x => x ∈ [] ∨ h0.size ≤ x) (Or.inr z_3) all0)
    have y_23 : n0 ≤ T_17.heap.size := Nat.le_trans Z0 K_23.1
    refine Goes.go (U' := (T_17.setTop (mkF m 38 #[sI_ xc] [(.ref b_3)]))) st_17 ?_
    refine Goes.retA X_17 hx hlk hret rfl rfl (hb hby d_rm_sv_38) (by decide) (by decide) ?_
    try rw [(rfl : T_17.heap = T_17.heap)]
    exact ⟨_, _, rfl, N_17, Ext.of_keep K_23, z_11, ⟨⟨rfl, by first | decide | simp⟩, Or.inr ⟨⟨_, f_19, Gv_17, Gc_17, f_22⟩, all1 hch⟩⟩⟩
  · -- coder 0
    obtain ⟨v_24, T_24, L_24, X_24, q_24, st_24⟩ := callStatic X_1 hx hZ (y := (⟨"java/lang/StringLatin1", "canEncode", "(C)Z"⟩ : MethodName)) (W := 0) hown (wdOf hw 35 rfl) (wdOf hw 36 rfl) (wdOf hw 37 rfl) (wdOf hw 38 rfl) (by decide) (rm_ce1 l Z a0 hw [] kc sx xc h0 n0 Z0 G O hc) (by decide) (by decide) (by decide) (by decide) e_1 (g := (mkF m 7 #[sI_ xc] [(.int xc)])) rfl (by rw [hml]; rfl) (argsL := [(.int xc)]) (rest := []) (lenOf pd_11 rfl) rfl rfl (Nat.le_refl _) (hb hby d_rm_sv_7)
    obtain ⟨rfl, n_24, K_24⟩ := q_24
    have N_24 := Fr.app N0 n_24
    refine Goes.go (U' := (T_24.setTop (mkF m 10 #[sI_ xc] [(.int (1 : Int32))]))) st_24 ?_
    refine Goes.go (U' := (T_24.setTop (mkF m 13 #[sI_ xc] []))) (fun t kt => ?_) ?_
    · skip
      refine XS.ifNo X_24.here hx rfl (hb hby d_rm_sv_10) rfl (XT.i0_eq_f (by decide)) ?_
      exact kt
    obtain ⟨T_25, h_25, X_25, e_25, E_25, A_25, D_25, -, st_25⟩ := newO X_24 hx hZ hown (wdOf hw 39 rfl) (wdOf hw 40 rfl) (wdOf hw 23 rfl) K_24 (g := (mkF m 13 #[sI_ xc] [])) rfl (hb hby d_rm_sv_13) (by decide) (by decide)
    obtain ⟨b_25, g_25⟩ : ∃ z, z = h0.size := ⟨_, rfl⟩
    rw [← g_25] at A_25 D_25 st_25
    have o_25 : n0 ≤ b_25 := Nat.le_trans Z0 (Nat.le_of_eq g_25.symm)
    have z_25 : h0.size ≤ b_25 := Nat.le_trans K0.1 (Nat.le_of_eq g_25.symm)
    have f_26 : Old Z n0 h_25 := O.ext E_25
    have f_27 : Fld Z h_25 b_25 "java/lang/String" "value" "[B" .null := D_25 (Or.inr (wdOf hw 50 rfl)) (ty := (.array .byte)) (by decide)
    have f_28 : Fld Z h_25 b_25 "java/lang/String" "coder" "B" (.int (0 : Int32)) := D_25 (Or.inr (wdOf hw 52 rfl)) (ty := .byte) (by decide)
    have K_29 : Keep h0 h_25 [] := K0.ext E_25
    have y_29 : n0 ≤ h_25.size := Nat.le_trans Z0 K_29.1
    refine Goes.go (U' := (T_25.setTop (mkF m 16 #[sI_ xc] [(.ref b_25)]))) st_25 ?_
    refine Goes.go (U' := (T_25.setTop (mkF m 18 #[sI_ xc] [(.int xc), (.ref b_25), (.ref b_25)]))) (fun t kt => ?_) ?_
    · skip
      refine XS.dup X_25.here hx rfl (hb hby d_rm_sv_16) rfl rfl ?_
      refine XS.iloadN X_25.here hx rfl (hb hby d_rm_sv_17) rfl ?_
      exact kt
    obtain ⟨v_30, T_30, L_30, X_30, q_30, st_30⟩ := callStatic X_25 hx hZ (y := (⟨"java/lang/StringLatin1", "toBytes", "(C)[B"⟩ : MethodName)) (W := 2) hown (wdOf hw 41 rfl) (wdOf hw 42 rfl) (wdOf hw 37 rfl) (wdOf hw 43 rfl) (by decide) (rm_tb0 l Z a0 hw [] kc sx xc h_25 n0 y_29 G f_26 ) (by decide) (by decide) (by decide) (by decide) e_25 (g := (mkF m 18 #[sI_ xc] [(.int xc), (.ref b_25), (.ref b_25)])) rfl (by rw [hml]; rfl) (argsL := [(.int xc)]) (rest := [(.ref b_25), (.ref b_25)]) (lenOf pd_12 rfl) rfl rfl (Nat.le_refl _) (hb hby d_rm_sv_18)
    obtain ⟨r_30, kb_30, rfl, n_30, K_30, z_30, V_30⟩ := q_30
    have ne_31 : b_25 ≠ r_30 := Nat.ne_of_lt (Nat.lt_of_lt_of_le A_25.lt z_30)
    have o_32 : n0 ≤ r_30 := Nat.le_trans y_29 z_30
    have z_33 : h0.size ≤ r_30 := Nat.le_trans K_29.1 z_30
    have N_30 := Fr.app N_24 n_30
    have f_34 : Old Z n0 T_30.heap := f_26.ext K_30
    have f_35 : Exa Z T_30.heap b_25 "java/lang/String" := A_25.ext K_30
    have f_36 : Fld Z T_30.heap b_25 "java/lang/String" "value" "[B" .null := f_27.ext K_30
    have f_37 : Fld Z T_30.heap b_25 "java/lang/String" "coder" "B" (.int (0 : Int32)) := f_28.ext K_30
    have K_38 : Keep h0 T_30.heap [] := K_29.ext K_30
    have y_38 : n0 ≤ T_30.heap.size := Nat.le_trans Z0 K_38.1
    refine Goes.go (U' := (T_30.setTop (mkF m 21 #[sI_ xc] [(.ref r_30), (.ref b_25), (.ref b_25)]))) st_30 ?_
    refine Goes.go (U' := (T_30.setTop (mkF m 22 #[sI_ xc] [(.int (0 : Int32)), (.ref r_30), (.ref b_25), (.ref b_25)]))) (fun t kt => ?_) ?_
    · skip
      refine XS.iconst X_30.here hx rfl (hb hby d_rm_sv_21) ?_
      exact kt
    obtain ⟨v_39, T_39, L_39, X_39, q_39, st_39⟩ := callInit X_30 hx hZ (y := (⟨"java/lang/String", "<init>", "([BB)V"⟩ : MethodName)) (W := 1) rfl hown (wdOf hw 44 rfl) (wdOf hw 45 rfl) (wdOf hw 23 rfl) (wdOf hw 47 rfl) (by decide) (rm_si0 l Z a0 hw [] kc sx b_25 r_30 T_30.heap n0 y_38 G f_34 f_35 f_36 f_37 o_25) (by decide) (by decide) (by decide) (by decide) (rfl : T_30.heap = T_30.heap) (b := b_25) (g := (mkF m 22 #[sI_ xc] [(.int (0 : Int32)), (.ref r_30), (.ref b_25), (.ref b_25)])) rfl (by rw [hml]; rfl) (argsL := [(.ref r_30), (.int (0 : Int32))]) (rest := [(.ref b_25)]) (lenOf pd_13 rfl) rfl rfl (Nat.le_refl _) (hb hby d_rm_sv_22)
    obtain ⟨rfl, n_39, K_39, GE_39, Gv_39, Gc_39⟩ := q_39
    have N_39 := Fr.app N_30 n_39
    have f_40 : Old Z n0 T_39.heap := f_34.keep K_39 (allS o_25 all0)
    have f_41 : Exa Z T_39.heap b_25 "java/lang/String" := f_35.keep K_39
    have f_44 : Arv Z T_39.heap r_30 kb_30 .byte (1 : Int32) (L1 [xc]) (.int (0 : Int32)) := V_30.keep K_39 (ninS (Ne.symm ne_31) nin0)
    have K_45 : Keep h0 T_39.heap [] := K_38.trans K_39 (allS (P := fun x => x ∈ [] ∨ h0.size ≤ x) (Or.inr z_25) all0)
    have y_45 : n0 ≤ T_39.heap.size := Nat.le_trans Z0 K_45.1
    refine Goes.go (U' := (T_39.setTop (mkF m 25 #[sI_ xc] [(.ref b_25)]))) st_39 ?_
    refine Goes.retA X_39 hx hlk hret rfl rfl (hb hby d_rm_sv_25) (by decide) (by decide) ?_
    try rw [(rfl : T_39.heap = T_39.heap)]
    exact ⟨_, _, rfl, N_39, Ext.of_keep K_45, z_33, ⟨⟨rfl, by first | decide | simp⟩, Or.inl ⟨⟨_, f_41, Gv_39, Gc_39, f_44⟩, all1 (hch.low hc)⟩⟩⟩
theorem d_rm_co0_0 : decode jdk_42_method_152_code 0 = .ok (.getstatic 38, 3) := by decide +kernel
theorem d_rm_co0_3 : decode jdk_42_method_152_code 3 = .ok (.ifCond .eq 10, 3) := by decide +kernel
theorem d_rm_co0_6 : decode jdk_42_method_152_code 6 = .ok (.aload_n 0, 1) := by decide +kernel
theorem d_rm_co0_7 : decode jdk_42_method_152_code 7 = .ok (.getfield 15, 3) := by decide +kernel
theorem d_rm_co0_10 : decode jdk_42_method_152_code 10 = .ok (.goto 4, 3) := by decide +kernel
theorem d_rm_co0_14 : decode jdk_42_method_152_code 14 = .ok (.ireturn, 1) := by decide +kernel
set_option maxHeartbeats 4000000 in
theorem ef_rm_co0 (m : MethodId) (x0 : Addr)  : entryFrame m #[(.ref x0)] 1 = mkF m 0 #[.val (.ref x0)] [] := by first | (simp [entryFrame, mkF, argsToLocals, catR, catN, catI, catJ]; done) | rfl
set_option maxRecDepth 65536 in
set_option maxHeartbeats 40000000 in
theorem rm_co0 (l : Launch) (Z : State) (a0 : Array Value) (hw : ∀ d ∈ tables_1, d.before a0 Z = true) (ws : List Jvm.Cond) (kc : Int32) (sx : Value) (r : Addr) (h0 : Heap) (n0 : Nat) (Z0 : n0 ≤ h0.size) (G : Stt Z kc sx) (O : Old Z n0 h0) (Fc : Fld Z h0 r "java/lang/String" "coder" "B" (.int (0 : Int32)))  :
    Pays l Z (⟨"java/lang/String", "coder", "()B"⟩ : MethodName) jdk_42_method_152_code 1 (some .byte) ws ({ frames := 0, cells := 0, slots := 0, locals := 0 } : Room) #[(.ref r)] h0 (fun v h L => v = some (.int (0 : Int32)) ∧ Fr n0 L ∧ h = h0) := by
  refine Pays.of (plainFor_of_name (by first | (simp [plainName, overriddenIn]; done) | decide +kernel)) ?_
  intro p e s m below meth c s₁ hx hby hml hown hnm hret hlk hZ e0 X0
  have N0 := Fr.nil n0
  have K0 : Keep h0 h0 [] := Keep.refl _ _
  refine Goes.go (U' := (s₁.setTop (mkF m 0 #[sR_ r] []))) (fun t kt => castTop (ef_rm_co0 m r) kt) ?_
  obtain ⟨T_1, X_1, e_1, st_1⟩ := getS X0 hx hZ hown (host := "") (wdOf hw 34 rfl) Via.refl e0 (G.1.ext O.2) (g := (mkF m 0 #[sR_ r] [])) rfl (hb hby d_rm_co0_0)
  refine Goes.go (U' := (T_1.setTop (mkF m 3 #[sR_ r] [(.int kc)]))) st_1 ?_
  refine Goes.go (U' := (T_1.setTop (mkF m 7 #[sR_ r] [(.ref r)]))) (fun t kt => ?_) ?_
  · skip
    refine XS.ifNo X_1.here hx rfl (hb hby d_rm_co0_3) rfl (XT.i0_eq_f G.2.1) ?_
    refine XS.aloadN X_1.here hx rfl (hb hby d_rm_co0_6) rfl rfl ?_
    exact kt
  obtain ⟨T_2, X_2, e_2, st_2⟩ := getF X_1 hx hZ hown (host := "") (Or.inl (wdOf hw 51 rfl)) Via.refl e_1 Fc (g := (mkF m 7 #[sR_ r] [(.ref r)])) rfl rfl (hb hby d_rm_co0_7)
  refine Goes.go (U' := (T_2.setTop (mkF m 10 #[sR_ r] [(.int (0 : Int32))]))) st_2 ?_
  refine Goes.go (U' := (T_2.setTop (mkF m 14 #[sR_ r] [(.int (0 : Int32))]))) (fun t kt => ?_) ?_
  · skip
    refine XS.goto X_2.here hx rfl (pc0 := 10) (pc' := 14) rfl (hb hby d_rm_co0_10) (by decide) (by decide) ?_
    exact kt
  refine Goes.retY X_2 hx hlk hret (hb hby d_rm_co0_14) (by decide) (by decide) ?_
  try rw [e_2]
  exact ⟨by decide, N0, rfl⟩
theorem d_rm_sil0_0 : decode jdk_42_method_154_code 0 = .ok (.getstatic 38, 3) := by decide +kernel
theorem d_rm_sil0_3 : decode jdk_42_method_154_code 3 = .ok (.ifCond .eq 14, 3) := by decide +kernel
theorem d_rm_sil0_6 : decode jdk_42_method_154_code 6 = .ok (.aload_n 0, 1) := by decide +kernel
theorem d_rm_sil0_7 : decode jdk_42_method_154_code 7 = .ok (.getfield 15, 3) := by decide +kernel
theorem d_rm_sil0_10 : decode jdk_42_method_154_code 10 = .ok (.ifCond .ne 7, 3) := by decide +kernel
theorem d_rm_sil0_13 : decode jdk_42_method_154_code 13 = .ok (.iconst 1, 1) := by decide +kernel
theorem d_rm_sil0_14 : decode jdk_42_method_154_code 14 = .ok (.goto 4, 3) := by decide +kernel
theorem d_rm_sil0_18 : decode jdk_42_method_154_code 18 = .ok (.ireturn, 1) := by decide +kernel
set_option maxHeartbeats 4000000 in
theorem ef_rm_sil0 (m : MethodId) (x0 : Addr)  : entryFrame m #[(.ref x0)] 1 = mkF m 0 #[.val (.ref x0)] [] := by first | (simp [entryFrame, mkF, argsToLocals, catR, catN, catI, catJ]; done) | rfl
set_option maxRecDepth 65536 in
set_option maxHeartbeats 40000000 in
theorem rm_sil0 (l : Launch) (Z : State) (a0 : Array Value) (hw : ∀ d ∈ tables_1, d.before a0 Z = true) (ws : List Jvm.Cond) (kc : Int32) (sx : Value) (r : Addr) (h0 : Heap) (n0 : Nat) (Z0 : n0 ≤ h0.size) (G : Stt Z kc sx) (O : Old Z n0 h0) (Fc : Fld Z h0 r "java/lang/String" "coder" "B" (.int (0 : Int32)))  :
    Pays l Z (⟨"java/lang/String", "isLatin1", "()Z"⟩ : MethodName) jdk_42_method_154_code 1 (some .boolean) ws ({ frames := 0, cells := 0, slots := 0, locals := 0 } : Room) #[(.ref r)] h0 (fun v h L => v = some (.int (1 : Int32)) ∧ Fr n0 L ∧ h = h0) := by
  refine Pays.of (plainFor_of_name (by first | (simp [plainName, overriddenIn]; done) | decide +kernel)) ?_
  intro p e s m below meth c s₁ hx hby hml hown hnm hret hlk hZ e0 X0
  have N0 := Fr.nil n0
  have K0 : Keep h0 h0 [] := Keep.refl _ _
  refine Goes.go (U' := (s₁.setTop (mkF m 0 #[sR_ r] []))) (fun t kt => castTop (ef_rm_sil0 m r) kt) ?_
  obtain ⟨T_1, X_1, e_1, st_1⟩ := getS X0 hx hZ hown (host := "") (wdOf hw 34 rfl) Via.refl e0 (G.1.ext O.2) (g := (mkF m 0 #[sR_ r] [])) rfl (hb hby d_rm_sil0_0)
  refine Goes.go (U' := (T_1.setTop (mkF m 3 #[sR_ r] [(.int kc)]))) st_1 ?_
  refine Goes.go (U' := (T_1.setTop (mkF m 7 #[sR_ r] [(.ref r)]))) (fun t kt => ?_) ?_
  · skip
    refine XS.ifNo X_1.here hx rfl (hb hby d_rm_sil0_3) rfl (XT.i0_eq_f G.2.1) ?_
    refine XS.aloadN X_1.here hx rfl (hb hby d_rm_sil0_6) rfl rfl ?_
    exact kt
  obtain ⟨T_2, X_2, e_2, st_2⟩ := getF X_1 hx hZ hown (host := "") (Or.inl (wdOf hw 51 rfl)) Via.refl e_1 Fc (g := (mkF m 7 #[sR_ r] [(.ref r)])) rfl rfl (hb hby d_rm_sil0_7)
  refine Goes.go (U' := (T_2.setTop (mkF m 10 #[sR_ r] [(.int (0 : Int32))]))) st_2 ?_
  refine Goes.go (U' := (T_2.setTop (mkF m 18 #[sR_ r] [(.int (1 : Int32))]))) (fun t kt => ?_) ?_
  · skip
    refine XS.ifNo X_2.here hx rfl (hb hby d_rm_sil0_10) rfl (XT.i0_ne_f (by decide)) ?_
    refine XS.iconst X_2.here hx rfl (hb hby d_rm_sil0_13) ?_
    refine XS.goto X_2.here hx rfl (pc0 := 14) (pc' := 18) rfl (hb hby d_rm_sil0_14) (by decide) (by decide) ?_
    exact kt
  refine Goes.retB X_2 hx hlk hret (hb hby d_rm_sil0_18) (by decide) (by decide) ?_
  try rw [e_2]
  exact ⟨rfl, N0, rfl⟩
theorem d_rm_ail0_0 : decode jdk_68_method_68_code 0 = .ok (.getstatic 18, 3) := by decide +kernel
theorem d_rm_ail0_3 : decode jdk_68_method_68_code 3 = .ok (.ifCond .eq 14, 3) := by decide +kernel
theorem d_rm_ail0_6 : decode jdk_68_method_68_code 6 = .ok (.aload_n 0, 1) := by decide +kernel
theorem d_rm_ail0_7 : decode jdk_68_method_68_code 7 = .ok (.getfield 22, 3) := by decide +kernel
theorem d_rm_ail0_10 : decode jdk_68_method_68_code 10 = .ok (.ifCond .ne 7, 3) := by decide +kernel
theorem d_rm_ail0_13 : decode jdk_68_method_68_code 13 = .ok (.iconst 1, 1) := by decide +kernel
theorem d_rm_ail0_14 : decode jdk_68_method_68_code 14 = .ok (.goto 4, 3) := by decide +kernel
theorem d_rm_ail0_18 : decode jdk_68_method_68_code 18 = .ok (.ireturn, 1) := by decide +kernel
set_option maxHeartbeats 4000000 in
theorem ef_rm_ail0 (m : MethodId) (x0 : Addr)  : entryFrame m #[(.ref x0)] 1 = mkF m 0 #[.val (.ref x0)] [] := by first | (simp [entryFrame, mkF, argsToLocals, catR, catN, catI, catJ]; done) | rfl
set_option maxRecDepth 65536 in
set_option maxHeartbeats 40000000 in
theorem rm_ail0 (l : Launch) (Z : State) (a0 : Array Value) (hw : ∀ d ∈ tables_1, d.before a0 Z = true) (ws : List Jvm.Cond) (kc : Int32) (sx : Value) (ax : Addr) (h0 : Heap) (n0 : Nat) (Z0 : n0 ≤ h0.size) (G : Stt Z kc sx) (O : Old Z n0 h0) (Fc : Fld Z h0 ax "java/lang/AbstractStringBuilder" "coder" "B" (.int (0 : Int32)))  :
    Pays l Z (⟨"java/lang/AbstractStringBuilder", "isLatin1", "()Z"⟩ : MethodName) jdk_68_method_68_code 1 (some .boolean) ws ({ frames := 0, cells := 0, slots := 0, locals := 0 } : Room) #[(.ref ax)] h0 (fun v h L => v = some (.int (1 : Int32)) ∧ Fr n0 L ∧ h = h0) := by
  refine Pays.of (plainFor_of_name (by first | (simp [plainName, overriddenIn]; done) | decide +kernel)) ?_
  intro p e s m below meth c s₁ hx hby hml hown hnm hret hlk hZ e0 X0
  have N0 := Fr.nil n0
  have K0 : Keep h0 h0 [] := Keep.refl _ _
  refine Goes.go (U' := (s₁.setTop (mkF m 0 #[sR_ ax] []))) (fun t kt => castTop (ef_rm_ail0 m ax) kt) ?_
  obtain ⟨T_1, X_1, e_1, st_1⟩ := getS X0 hx hZ hown (host := "") (wdOf hw 22 rfl) Via.refl e0 (G.1.ext O.2) (g := (mkF m 0 #[sR_ ax] [])) rfl (hb hby d_rm_ail0_0)
  refine Goes.go (U' := (T_1.setTop (mkF m 3 #[sR_ ax] [(.int kc)]))) st_1 ?_
  refine Goes.go (U' := (T_1.setTop (mkF m 7 #[sR_ ax] [(.ref ax)]))) (fun t kt => ?_) ?_
  · skip
    refine XS.ifNo X_1.here hx rfl (hb hby d_rm_ail0_3) rfl (XT.i0_eq_f G.2.1) ?_
    refine XS.aloadN X_1.here hx rfl (hb hby d_rm_ail0_6) rfl rfl ?_
    exact kt
  obtain ⟨T_2, X_2, e_2, st_2⟩ := getF X_1 hx hZ hown (host := "") (Or.inl (wdOf hw 27 rfl)) Via.refl e_1 Fc (g := (mkF m 7 #[sR_ ax] [(.ref ax)])) rfl rfl (hb hby d_rm_ail0_7)
  refine Goes.go (U' := (T_2.setTop (mkF m 10 #[sR_ ax] [(.int (0 : Int32))]))) st_2 ?_
  refine Goes.go (U' := (T_2.setTop (mkF m 18 #[sR_ ax] [(.int (1 : Int32))]))) (fun t kt => ?_) ?_
  · skip
    refine XS.ifNo X_2.here hx rfl (hb hby d_rm_ail0_10) rfl (XT.i0_ne_f (by decide)) ?_
    refine XS.iconst X_2.here hx rfl (hb hby d_rm_ail0_13) ?_
    refine XS.goto X_2.here hx rfl (pc0 := 14) (pc' := 18) rfl (hb hby d_rm_ail0_14) (by decide) (by decide) ?_
    exact kt
  refine Goes.retB X_2 hx hlk hret (hb hby d_rm_ail0_18) (by decide) (by decide) ?_
  try rw [e_2]
  exact ⟨rfl, N0, rfl⟩
theorem d_rm_co1_0 : decode jdk_42_method_152_code 0 = .ok (.getstatic 38, 3) := by decide +kernel
theorem d_rm_co1_3 : decode jdk_42_method_152_code 3 = .ok (.ifCond .eq 10, 3) := by decide +kernel
theorem d_rm_co1_6 : decode jdk_42_method_152_code 6 = .ok (.aload_n 0, 1) := by decide +kernel
theorem d_rm_co1_7 : decode jdk_42_method_152_code 7 = .ok (.getfield 15, 3) := by decide +kernel
theorem d_rm_co1_10 : decode jdk_42_method_152_code 10 = .ok (.goto 4, 3) := by decide +kernel
theorem d_rm_co1_14 : decode jdk_42_method_152_code 14 = .ok (.ireturn, 1) := by decide +kernel
set_option maxHeartbeats 4000000 in
theorem ef_rm_co1 (m : MethodId) (x0 : Addr)  : entryFrame m #[(.ref x0)] 1 = mkF m 0 #[.val (.ref x0)] [] := by first | (simp [entryFrame, mkF, argsToLocals, catR, catN, catI, catJ]; done) | rfl
set_option maxRecDepth 65536 in
set_option maxHeartbeats 40000000 in
theorem rm_co1 (l : Launch) (Z : State) (a0 : Array Value) (hw : ∀ d ∈ tables_1, d.before a0 Z = true) (ws : List Jvm.Cond) (kc : Int32) (sx : Value) (r : Addr) (h0 : Heap) (n0 : Nat) (Z0 : n0 ≤ h0.size) (G : Stt Z kc sx) (O : Old Z n0 h0) (Fc : Fld Z h0 r "java/lang/String" "coder" "B" (.int (1 : Int32)))  :
    Pays l Z (⟨"java/lang/String", "coder", "()B"⟩ : MethodName) jdk_42_method_152_code 1 (some .byte) ws ({ frames := 0, cells := 0, slots := 0, locals := 0 } : Room) #[(.ref r)] h0 (fun v h L => v = some (.int (1 : Int32)) ∧ Fr n0 L ∧ h = h0) := by
  refine Pays.of (plainFor_of_name (by first | (simp [plainName, overriddenIn]; done) | decide +kernel)) ?_
  intro p e s m below meth c s₁ hx hby hml hown hnm hret hlk hZ e0 X0
  have N0 := Fr.nil n0
  have K0 : Keep h0 h0 [] := Keep.refl _ _
  refine Goes.go (U' := (s₁.setTop (mkF m 0 #[sR_ r] []))) (fun t kt => castTop (ef_rm_co1 m r) kt) ?_
  obtain ⟨T_1, X_1, e_1, st_1⟩ := getS X0 hx hZ hown (host := "") (wdOf hw 34 rfl) Via.refl e0 (G.1.ext O.2) (g := (mkF m 0 #[sR_ r] [])) rfl (hb hby d_rm_co1_0)
  refine Goes.go (U' := (T_1.setTop (mkF m 3 #[sR_ r] [(.int kc)]))) st_1 ?_
  refine Goes.go (U' := (T_1.setTop (mkF m 7 #[sR_ r] [(.ref r)]))) (fun t kt => ?_) ?_
  · skip
    refine XS.ifNo X_1.here hx rfl (hb hby d_rm_co1_3) rfl (XT.i0_eq_f G.2.1) ?_
    refine XS.aloadN X_1.here hx rfl (hb hby d_rm_co1_6) rfl rfl ?_
    exact kt
  obtain ⟨T_2, X_2, e_2, st_2⟩ := getF X_1 hx hZ hown (host := "") (Or.inl (wdOf hw 51 rfl)) Via.refl e_1 Fc (g := (mkF m 7 #[sR_ r] [(.ref r)])) rfl rfl (hb hby d_rm_co1_7)
  refine Goes.go (U' := (T_2.setTop (mkF m 10 #[sR_ r] [(.int (1 : Int32))]))) st_2 ?_
  refine Goes.go (U' := (T_2.setTop (mkF m 14 #[sR_ r] [(.int (1 : Int32))]))) (fun t kt => ?_) ?_
  · skip
    refine XS.goto X_2.here hx rfl (pc0 := 10) (pc' := 14) rfl (hb hby d_rm_co1_10) (by decide) (by decide) ?_
    exact kt
  refine Goes.retY X_2 hx hlk hret (hb hby d_rm_co1_14) (by decide) (by decide) ?_
  try rw [e_2]
  exact ⟨by decide, N0, rfl⟩
theorem d_rm_sil1_0 : decode jdk_42_method_154_code 0 = .ok (.getstatic 38, 3) := by decide +kernel
theorem d_rm_sil1_3 : decode jdk_42_method_154_code 3 = .ok (.ifCond .eq 14, 3) := by decide +kernel
theorem d_rm_sil1_6 : decode jdk_42_method_154_code 6 = .ok (.aload_n 0, 1) := by decide +kernel
theorem d_rm_sil1_7 : decode jdk_42_method_154_code 7 = .ok (.getfield 15, 3) := by decide +kernel
theorem d_rm_sil1_10 : decode jdk_42_method_154_code 10 = .ok (.ifCond .ne 7, 3) := by decide +kernel
theorem d_rm_sil1_17 : decode jdk_42_method_154_code 17 = .ok (.iconst 0, 1) := by decide +kernel
theorem d_rm_sil1_18 : decode jdk_42_method_154_code 18 = .ok (.ireturn, 1) := by decide +kernel
set_option maxHeartbeats 4000000 in
theorem ef_rm_sil1 (m : MethodId) (x0 : Addr)  : entryFrame m #[(.ref x0)] 1 = mkF m 0 #[.val (.ref x0)] [] := by first | (simp [entryFrame, mkF, argsToLocals, catR, catN, catI, catJ]; done) | rfl
set_option maxRecDepth 65536 in
set_option maxHeartbeats 40000000 in
theorem rm_sil1 (l : Launch) (Z : State) (a0 : Array Value) (hw : ∀ d ∈ tables_1, d.before a0 Z = true) (ws : List Jvm.Cond) (kc : Int32) (sx : Value) (r : Addr) (h0 : Heap) (n0 : Nat) (Z0 : n0 ≤ h0.size) (G : Stt Z kc sx) (O : Old Z n0 h0) (Fc : Fld Z h0 r "java/lang/String" "coder" "B" (.int (1 : Int32)))  :
    Pays l Z (⟨"java/lang/String", "isLatin1", "()Z"⟩ : MethodName) jdk_42_method_154_code 1 (some .boolean) ws ({ frames := 0, cells := 0, slots := 0, locals := 0 } : Room) #[(.ref r)] h0 (fun v h L => v = some (.int (0 : Int32)) ∧ Fr n0 L ∧ h = h0) := by
  refine Pays.of (plainFor_of_name (by first | (simp [plainName, overriddenIn]; done) | decide +kernel)) ?_
  intro p e s m below meth c s₁ hx hby hml hown hnm hret hlk hZ e0 X0
  have N0 := Fr.nil n0
  have K0 : Keep h0 h0 [] := Keep.refl _ _
  refine Goes.go (U' := (s₁.setTop (mkF m 0 #[sR_ r] []))) (fun t kt => castTop (ef_rm_sil1 m r) kt) ?_
  obtain ⟨T_1, X_1, e_1, st_1⟩ := getS X0 hx hZ hown (host := "") (wdOf hw 34 rfl) Via.refl e0 (G.1.ext O.2) (g := (mkF m 0 #[sR_ r] [])) rfl (hb hby d_rm_sil1_0)
  refine Goes.go (U' := (T_1.setTop (mkF m 3 #[sR_ r] [(.int kc)]))) st_1 ?_
  refine Goes.go (U' := (T_1.setTop (mkF m 7 #[sR_ r] [(.ref r)]))) (fun t kt => ?_) ?_
  · skip
    refine XS.ifNo X_1.here hx rfl (hb hby d_rm_sil1_3) rfl (XT.i0_eq_f G.2.1) ?_
    refine XS.aloadN X_1.here hx rfl (hb hby d_rm_sil1_6) rfl rfl ?_
    exact kt
  obtain ⟨T_2, X_2, e_2, st_2⟩ := getF X_1 hx hZ hown (host := "") (Or.inl (wdOf hw 51 rfl)) Via.refl e_1 Fc (g := (mkF m 7 #[sR_ r] [(.ref r)])) rfl rfl (hb hby d_rm_sil1_7)
  refine Goes.go (U' := (T_2.setTop (mkF m 10 #[sR_ r] [(.int (1 : Int32))]))) st_2 ?_
  refine Goes.go (U' := (T_2.setTop (mkF m 18 #[sR_ r] [(.int (0 : Int32))]))) (fun t kt => ?_) ?_
  · skip
    refine XS.ifYes X_2.here hx rfl (pc0 := 10) (pc' := 17) rfl (hb hby d_rm_sil1_10) rfl (XT.i0_ne_t (by decide)) (by decide) (by decide) ?_
    refine XS.iconst X_2.here hx rfl (hb hby d_rm_sil1_17) ?_
    exact kt
  refine Goes.retB X_2 hx hlk hret (hb hby d_rm_sil1_18) (by decide) (by decide) ?_
  try rw [e_2]
  exact ⟨rfl, N0, rfl⟩
theorem d_rm_ail1_0 : decode jdk_68_method_68_code 0 = .ok (.getstatic 18, 3) := by decide +kernel
theorem d_rm_ail1_3 : decode jdk_68_method_68_code 3 = .ok (.ifCond .eq 14, 3) := by decide +kernel
theorem d_rm_ail1_6 : decode jdk_68_method_68_code 6 = .ok (.aload_n 0, 1) := by decide +kernel
theorem d_rm_ail1_7 : decode jdk_68_method_68_code 7 = .ok (.getfield 22, 3) := by decide +kernel
theorem d_rm_ail1_10 : decode jdk_68_method_68_code 10 = .ok (.ifCond .ne 7, 3) := by decide +kernel
theorem d_rm_ail1_17 : decode jdk_68_method_68_code 17 = .ok (.iconst 0, 1) := by decide +kernel
theorem d_rm_ail1_18 : decode jdk_68_method_68_code 18 = .ok (.ireturn, 1) := by decide +kernel
set_option maxHeartbeats 4000000 in
theorem ef_rm_ail1 (m : MethodId) (x0 : Addr)  : entryFrame m #[(.ref x0)] 1 = mkF m 0 #[.val (.ref x0)] [] := by first | (simp [entryFrame, mkF, argsToLocals, catR, catN, catI, catJ]; done) | rfl
set_option maxRecDepth 65536 in
set_option maxHeartbeats 40000000 in
theorem rm_ail1 (l : Launch) (Z : State) (a0 : Array Value) (hw : ∀ d ∈ tables_1, d.before a0 Z = true) (ws : List Jvm.Cond) (kc : Int32) (sx : Value) (ax : Addr) (h0 : Heap) (n0 : Nat) (Z0 : n0 ≤ h0.size) (G : Stt Z kc sx) (O : Old Z n0 h0) (Fc : Fld Z h0 ax "java/lang/AbstractStringBuilder" "coder" "B" (.int (1 : Int32)))  :
    Pays l Z (⟨"java/lang/AbstractStringBuilder", "isLatin1", "()Z"⟩ : MethodName) jdk_68_method_68_code 1 (some .boolean) ws ({ frames := 0, cells := 0, slots := 0, locals := 0 } : Room) #[(.ref ax)] h0 (fun v h L => v = some (.int (0 : Int32)) ∧ Fr n0 L ∧ h = h0) := by
  refine Pays.of (plainFor_of_name (by first | (simp [plainName, overriddenIn]; done) | decide +kernel)) ?_
  intro p e s m below meth c s₁ hx hby hml hown hnm hret hlk hZ e0 X0
  have N0 := Fr.nil n0
  have K0 : Keep h0 h0 [] := Keep.refl _ _
  refine Goes.go (U' := (s₁.setTop (mkF m 0 #[sR_ ax] []))) (fun t kt => castTop (ef_rm_ail1 m ax) kt) ?_
  obtain ⟨T_1, X_1, e_1, st_1⟩ := getS X0 hx hZ hown (host := "") (wdOf hw 22 rfl) Via.refl e0 (G.1.ext O.2) (g := (mkF m 0 #[sR_ ax] [])) rfl (hb hby d_rm_ail1_0)
  refine Goes.go (U' := (T_1.setTop (mkF m 3 #[sR_ ax] [(.int kc)]))) st_1 ?_
  refine Goes.go (U' := (T_1.setTop (mkF m 7 #[sR_ ax] [(.ref ax)]))) (fun t kt => ?_) ?_
  · skip
    refine XS.ifNo X_1.here hx rfl (hb hby d_rm_ail1_3) rfl (XT.i0_eq_f G.2.1) ?_
    refine XS.aloadN X_1.here hx rfl (hb hby d_rm_ail1_6) rfl rfl ?_
    exact kt
  obtain ⟨T_2, X_2, e_2, st_2⟩ := getF X_1 hx hZ hown (host := "") (Or.inl (wdOf hw 27 rfl)) Via.refl e_1 Fc (g := (mkF m 7 #[sR_ ax] [(.ref ax)])) rfl rfl (hb hby d_rm_ail1_7)
  refine Goes.go (U' := (T_2.setTop (mkF m 10 #[sR_ ax] [(.int (1 : Int32))]))) st_2 ?_
  refine Goes.go (U' := (T_2.setTop (mkF m 18 #[sR_ ax] [(.int (0 : Int32))]))) (fun t kt => ?_) ?_
  · skip
    refine XS.ifYes X_2.here hx rfl (pc0 := 10) (pc' := 17) rfl (hb hby d_rm_ail1_10) rfl (XT.i0_ne_t (by decide)) (by decide) (by decide) ?_
    refine XS.iconst X_2.here hx rfl (hb hby d_rm_ail1_17) ?_
    exact kt
  refine Goes.retB X_2 hx hlk hret (hb hby d_rm_ail1_18) (by decide) (by decide) ?_
  try rw [e_2]
  exact ⟨rfl, N0, rfl⟩
theorem d_rm_ln_0 : decode jdk_42_method_54_code 0 = .ok (.aload_n 0, 1) := by decide +kernel
theorem d_rm_ln_1 : decode jdk_42_method_54_code 1 = .ok (.getfield 9, 3) := by decide +kernel
theorem d_rm_ln_4 : decode jdk_42_method_54_code 4 = .ok (.arraylength, 1) := by decide +kernel
theorem d_rm_ln_5 : decode jdk_42_method_54_code 5 = .ok (.aload_n 0, 1) := by decide +kernel
theorem d_rm_ln_6 : decode jdk_42_method_54_code 6 = .ok (.invokevirtual 335, 3) := by decide +kernel
theorem d_rm_ln_9 : decode jdk_42_method_54_code 9 = .ok (.ishr, 1) := by decide +kernel
theorem d_rm_ln_10 : decode jdk_42_method_54_code 10 = .ok (.ireturn, 1) := by decide +kernel
set_option maxHeartbeats 4000000 in
theorem ef_rm_ln (m : MethodId) (x0 : Addr)  : entryFrame m #[(.ref x0)] 1 = mkF m 0 #[.val (.ref x0)] [] := by first | (simp [entryFrame, mkF, argsToLocals, catR, catN, catI, catJ]; done) | rfl
set_option maxRecDepth 65536 in
set_option maxHeartbeats 40000000 in
theorem rm_ln (l : Launch) (Z : State) (a0 : Array Value) (hw : ∀ d ∈ tables_1, d.before a0 Z = true) (ws : List Jvm.Cond) (kc : Int32) (sx : Value) (r rb : Addr) (z : Int32) (cs : List Int32) (h0 : Heap) (n0 : Nat) (Z0 : n0 ≤ h0.size) (G : Stt Z kc sx) (O : Old Z n0 h0)  (S0 : Str Z h0 r rb z cs) :
    Pays l Z (⟨"java/lang/String", "length", "()I"⟩ : MethodName) jdk_42_method_54_code 1 (some .int) ws ({ frames := 1, cells := 0, slots := 0, locals := 13 } : Room) #[(.ref r)] h0 (fun v h L => v = some (.int z) ∧ Fr n0 L ∧ h = h0) := by
  refine Pays.of (plainFor_of_name (by first | (simp [plainName, overriddenIn]; done) | decide +kernel)) ?_
  intro p e s m below meth c s₁ hx hby hml hown hnm hret hlk hZ e0 X0
  have N0 := Fr.nil n0
  have K0 : Keep h0 h0 [] := Keep.refl _ _
  refine Goes.go (U' := (s₁.setTop (mkF m 0 #[sR_ r] []))) (fun t kt => castTop (ef_rm_ln m r) kt) ?_
  rcases S0 with ⟨hz, ⟨⟨k1, E1, F1_value, F1_coder, V1⟩, hl⟩ | ⟨⟨k1, E1, F1_value, F1_coder, V1⟩, hl⟩⟩
  · -- coder 0
    refine Goes.go (U' := (s₁.setTop (mkF m 1 #[sR_ r] [(.ref r)]))) (fun t kt => ?_) ?_
    · skip
      refine XS.aloadN X0.here hx rfl (hb hby d_rm_ln_0) rfl rfl ?_
      exact kt
    obtain ⟨T_1, X_1, e_1, st_1⟩ := getF X0 hx hZ hown (host := "") (Or.inl (wdOf hw 49 rfl)) Via.refl e0 F1_value (g := (mkF m 1 #[sR_ r] [(.ref r)])) rfl rfl (hb hby d_rm_ln_1)
    refine Goes.go (U' := (T_1.setTop (mkF m 4 #[sR_ r] [(.ref rb)]))) st_1 ?_
    obtain ⟨cl_2, Ar_2, q_2, S_2, M_2, H_2, G_2⟩ := id V1
    refine Goes.go (U' := (T_1.setTop (mkF m 5 #[sR_ r] [(.int z)]))) (fun t kt => ?_) ?_
    · skip
      refine X_1.arraylength hx (by rw [e_1]; exact Ar_2.1) (State.isArrayOf_alike hZ.alike Ar_2.2.1) (g := (mkF m 4 #[sR_ r] [(.ref rb)])) rfl rfl (hb hby d_rm_ln_4) _ ?_
      rw [len_of S_2 M_2]
      exact kt
    refine Goes.go (U' := (T_1.setTop (mkF m 6 #[sR_ r] [(.ref r), (.int z)]))) (fun t kt => ?_) ?_
    · skip
      refine XS.aloadN X_1.here hx rfl (hb hby d_rm_ln_5) rfl rfl ?_
      exact kt
    obtain ⟨v_3, T_3, L_3, X_3, q_3, st_3⟩ := callVirtual X_1 hx hZ (y := (⟨"java/lang/String", "coder", "()B"⟩ : MethodName)) (z := (⟨"java/lang/String", "coder", "()B"⟩ : MethodName)) (W := 1) hown (wdOf hw 73 rfl) (wdOf hw 74 rfl) (notFace_of_selects (args := #[]) (mvT hZ (wdOf hw 76 rfl))) (wdOf hw 76 rfl) (wdOf hw 75 rfl) (wdOf hw 23 rfl) (wdOf hw 77 rfl) (by decide) (rm_co0 l Z a0 hw [] kc sx r h0 n0 Z0 G O F1_coder) (by decide) (by decide) (by decide) (by decide) e_1 E1 (g := (mkF m 6 #[sR_ r] [(.ref r), (.int z)])) rfl (by rw [hml]; rfl) (argsL := []) (rest := [(.int z)]) (lenOf pd_14 rfl) rfl rfl (Nat.le_refl _) (hb hby d_rm_ln_6)
    obtain ⟨rfl, n_3, K_3⟩ := q_3
    have N_3 := Fr.app N0 n_3
    refine Goes.go (U' := (T_3.setTop (mkF m 9 #[sR_ r] [(.int (0 : Int32)), (.int z)]))) st_3 ?_
    refine Goes.go (U' := (T_3.setTop (mkF m 10 #[sR_ r] [(.int (z >>> ((0 : Int32) &&& 31)))]))) (fun t kt => ?_) ?_
    · skip
      refine XS.ishr X_3.here hx rfl (hb hby d_rm_ln_9) rfl ?_
      exact kt
    refine Goes.retI X_3 hx hlk hret (hb hby d_rm_ln_10) (by decide) (by decide) ?_
    try rw [K_3]
    exact ⟨congrArg (fun q => some (Value.int q)) hz.sar0, N_3, rfl⟩
  · -- coder 1
    refine Goes.go (U' := (s₁.setTop (mkF m 1 #[sR_ r] [(.ref r)]))) (fun t kt => ?_) ?_
    · skip
      refine XS.aloadN X0.here hx rfl (hb hby d_rm_ln_0) rfl rfl ?_
      exact kt
    obtain ⟨T_4, X_4, e_4, st_4⟩ := getF X0 hx hZ hown (host := "") (Or.inl (wdOf hw 49 rfl)) Via.refl e0 F1_value (g := (mkF m 1 #[sR_ r] [(.ref r)])) rfl rfl (hb hby d_rm_ln_1)
    refine Goes.go (U' := (T_4.setTop (mkF m 4 #[sR_ r] [(.ref rb)]))) st_4 ?_
    obtain ⟨cl_5, Ar_5, q_5, S_5, M_5, H_5, G_5⟩ := id V1
    refine Goes.go (U' := (T_4.setTop (mkF m 5 #[sR_ r] [(.int (z <<< ((1 : Int32) &&& 31)))]))) (fun t kt => ?_) ?_
    · skip
      refine X_4.arraylength hx (by rw [e_4]; exact Ar_5.1) (State.isArrayOf_alike hZ.alike Ar_5.2.1) (g := (mkF m 4 #[sR_ r] [(.ref rb)])) rfl rfl (hb hby d_rm_ln_4) _ ?_
      rw [len_of S_5 M_5]
      exact kt
    refine Goes.go (U' := (T_4.setTop (mkF m 6 #[sR_ r] [(.ref r), (.int (z <<< ((1 : Int32) &&& 31)))]))) (fun t kt => ?_) ?_
    · skip
      refine XS.aloadN X_4.here hx rfl (hb hby d_rm_ln_5) rfl rfl ?_
      exact kt
    obtain ⟨v_6, T_6, L_6, X_6, q_6, st_6⟩ := callVirtual X_4 hx hZ (y := (⟨"java/lang/String", "coder", "()B"⟩ : MethodName)) (z := (⟨"java/lang/String", "coder", "()B"⟩ : MethodName)) (W := 1) hown (wdOf hw 73 rfl) (wdOf hw 74 rfl) (notFace_of_selects (args := #[]) (mvT hZ (wdOf hw 76 rfl))) (wdOf hw 76 rfl) (wdOf hw 75 rfl) (wdOf hw 23 rfl) (wdOf hw 77 rfl) (by decide) (rm_co1 l Z a0 hw [] kc sx r h0 n0 Z0 G O F1_coder) (by decide) (by decide) (by decide) (by decide) e_4 E1 (g := (mkF m 6 #[sR_ r] [(.ref r), (.int (z <<< ((1 : Int32) &&& 31)))])) rfl (by rw [hml]; rfl) (argsL := []) (rest := [(.int (z <<< ((1 : Int32) &&& 31)))]) (lenOf pd_14 rfl) rfl rfl (Nat.le_refl _) (hb hby d_rm_ln_6)
    obtain ⟨rfl, n_6, K_6⟩ := q_6
    have N_6 := Fr.app N0 n_6
    refine Goes.go (U' := (T_6.setTop (mkF m 9 #[sR_ r] [(.int (1 : Int32)), (.int (z <<< ((1 : Int32) &&& 31)))]))) st_6 ?_
    refine Goes.go (U' := (T_6.setTop (mkF m 10 #[sR_ r] [(.int ((z <<< ((1 : Int32) &&& 31)) >>> ((1 : Int32) &&& 31)))]))) (fun t kt => ?_) ?_
    · skip
      refine XS.ishr X_6.here hx rfl (hb hby d_rm_ln_9) rfl ?_
      exact kt
    refine Goes.retI X_6 hx hlk hret (hb hby d_rm_ln_10) (by decide) (by decide) ?_
    try rw [K_6]
    exact ⟨congrArg (fun q => some (Value.int q)) hz.back, N_6, rfl⟩
theorem d_rm_lca_0 : decode jdk_43_method_2_code 0 = .ok (.iload_n 1, 1) := by decide +kernel
theorem d_rm_lca_1 : decode jdk_43_method_2_code 1 = .ok (.aload_n 0, 1) := by decide +kernel
theorem d_rm_lca_2 : decode jdk_43_method_2_code 2 = .ok (.arraylength, 1) := by decide +kernel
theorem d_rm_lca_3 : decode jdk_43_method_2_code 3 = .ok (.invokestatic 9, 3) := by decide +kernel
theorem d_rm_lca_6 : decode jdk_43_method_2_code 6 = .ok (.aload_n 0, 1) := by decide +kernel
theorem d_rm_lca_7 : decode jdk_43_method_2_code 7 = .ok (.iload_n 1, 1) := by decide +kernel
theorem d_rm_lca_8 : decode jdk_43_method_2_code 8 = .ok (.baload, 1) := by decide +kernel
theorem d_rm_lca_9 : decode jdk_43_method_2_code 9 = .ok (.sipush 255, 3) := by decide +kernel
theorem d_rm_lca_12 : decode jdk_43_method_2_code 12 = .ok (.iand, 1) := by decide +kernel
theorem d_rm_lca_13 : decode jdk_43_method_2_code 13 = .ok (.i2c, 1) := by decide +kernel
theorem d_rm_lca_14 : decode jdk_43_method_2_code 14 = .ok (.ireturn, 1) := by decide +kernel
set_option maxHeartbeats 4000000 in
theorem ef_rm_lca (m : MethodId) (x0 : Addr) (x1 : Int32)  : entryFrame m #[(.ref x0), (.int x1)] 2 = mkF m 0 #[.val (.ref x0), .val (.int x1)] [] := by first | (simp [entryFrame, mkF, argsToLocals, catR, catN, catI, catJ]; done) | rfl
set_option maxRecDepth 65536 in
set_option maxHeartbeats 40000000 in
theorem rm_lca (l : Launch) (Z : State) (a0 : Array Value) (hw : ∀ d ∈ tables_1, d.before a0 Z = true) (ws : List Jvm.Cond) (kc : Int32) (sx : Value) (b : Addr) (kb : ClassId) (xi z xc : Int32) (cs : List Int32) (q : Nat) (h0 : Heap) (n0 : Nat) (Z0 : n0 ≤ h0.size) (G : Stt Z kc sx) (O : Old Z n0 h0) (Vb : Arv Z h0 b kb .byte z (L1 cs) (.int (0 : Int32))) (hz : Sz z cs.length) (hi : Sz xi q) (hg : cs[q]? = some xc) (hl : Lc xc) :
    Pays l Z (⟨"java/lang/StringLatin1", "charAt", "([BI)C"⟩ : MethodName) jdk_43_method_2_code 2 (some .char) ws ({ frames := 2, cells := 0, slots := 0, locals := 27 } : Room) #[(.ref b), (.int xi)] h0 (fun v h L => v = some (.int xc) ∧ Fr n0 L ∧ h = h0) := by
  refine Pays.of (plainFor_of_name (by first | (simp [plainName, overriddenIn]; done) | decide +kernel)) ?_
  intro p e s m below meth c s₁ hx hby hml hown hnm hret hlk hZ e0 X0
  have N0 := Fr.nil n0
  have K0 : Keep h0 h0 [] := Keep.refl _ _
  refine Goes.go (U' := (s₁.setTop (mkF m 0 #[sR_ b, sI_ xi] []))) (fun t kt => castTop (ef_rm_lca m b xi) kt) ?_
  have hq : q < cs.length := (List.getElem?_eq_some_iff.mp hg).1
  refine Goes.go (U' := (s₁.setTop (mkF m 2 #[sR_ b, sI_ xi] [(.ref b), (.int xi)]))) (fun t kt => ?_) ?_
  · skip
    refine XS.iloadN X0.here hx rfl (hb hby d_rm_lca_0) rfl ?_
    refine XS.aloadN X0.here hx rfl (hb hby d_rm_lca_1) rfl rfl ?_
    exact kt
  obtain ⟨cl_1, Ar_1, q_1, S_1, M_1, H_1, G_1⟩ := id Vb
  refine Goes.go (U' := (s₁.setTop (mkF m 3 #[sR_ b, sI_ xi] [(.int z), (.int xi)]))) (fun t kt => ?_) ?_
  · skip
    refine X0.arraylength hx (by rw [e0]; exact Ar_1.1) (State.isArrayOf_alike hZ.alike Ar_1.2.1) (g := (mkF m 2 #[sR_ b, sI_ xi] [(.ref b), (.int xi)])) rfl rfl (hb hby d_rm_lca_2) _ ?_
    rw [len_of S_1 M_1]
    exact kt
  obtain ⟨v_2, T_2, L_2, X_2, q_2, st_2⟩ := callStatic X0 hx hZ (y := (⟨"java/lang/String", "checkIndex", "(II)V"⟩ : MethodName)) (W := 0) hown (wdOf hw 190 rfl) (wdOf hw 191 rfl) (wdOf hw 23 rfl) (wdOf hw 192 rfl) (by decide) (rm_ci l Z a0 hw [] kc sx xi z h0 n0 Z0 G O hi.pos (hi.lt hz hq)) (by decide) (by decide) (by decide) (by decide) e0 (g := (mkF m 3 #[sR_ b, sI_ xi] [(.int z), (.int xi)])) rfl (by rw [hml]; rfl) (argsL := [(.int xi), (.int z)]) (rest := []) (lenOf pd_4 rfl) rfl rfl (Nat.le_refl _) (hb hby d_rm_lca_3)
  obtain ⟨rfl, n_2, K_2⟩ := q_2
  have N_2 := Fr.app N0 n_2
  refine Goes.go (U' := (T_2.setTop (mkF m 6 #[sR_ b, sI_ xi] []))) st_2 ?_
  refine Goes.go (U' := (T_2.setTop (mkF m 8 #[sR_ b, sI_ xi] [(.int xi), (.ref b)]))) (fun t kt => ?_) ?_
  · skip
    refine XS.aloadN X_2.here hx rfl (hb hby d_rm_lca_6) rfl rfl ?_
    refine XS.iloadN X_2.here hx rfl (hb hby d_rm_lca_7) rfl ?_
    exact kt
  obtain ⟨cl_3, Ar_3, q_3, S_3, M_3, H_3, G_3⟩ := id Vb
  have hj_3 : (xi).toNatClampNeg = q := hi.nat
  have hin_3 : ¬ (xi < 0 ∨ cl_3.slots.size ≤ (xi).toNatClampNeg) := inN S_3 hi.pos hj_3 (by rw [hz.nat]; exact hq)
  have hat_3 : cl_3.slots[(xi).toNatClampNeg]? = some (.int xc.toInt8.toInt32) := H_3.at hin_3 (by rw [hj_3]; exact (L1_at hg))
  refine Goes.go (U' := (T_2.setTop (mkF m 9 #[sR_ b, sI_ xi] [(.int xc.toInt8.toInt32)]))) (fun t kt => ?_) ?_
  · skip
    refine X_2.baloadBytes hx (j := xi) (v := (.int xc.toInt8.toInt32)) (by rw [K_2]; exact Ar_3.1) (State.isArrayOf_alike hZ.alike Ar_3.2.1) Ar_3.2.2 hin_3 hat_3 (g := (mkF m 8 #[sR_ b, sI_ xi] [(.int xi), (.ref b)])) rfl rfl (hb hby d_rm_lca_8) _ ?_
    exact kt
  refine Goes.go (U' := (T_2.setTop (mkF m 14 #[sR_ b, sI_ xi] [(.int ((xc.toInt8.toInt32 &&& (255 : Int32)).toUInt32.toUInt16.toUInt32.toInt32))]))) (fun t kt => ?_) ?_
  · skip
    refine XS.sipush X_2.here hx rfl (hb hby d_rm_lca_9) ?_
    refine XS.iand X_2.here hx rfl (hb hby d_rm_lca_12) rfl ?_
    refine XS.i2c X_2.here hx rfl (hb hby d_rm_lca_13) rfl ?_
    exact kt
  refine Goes.retC X_2 hx hlk hret (hb hby d_rm_lca_14) (by decide) (by decide) ?_
  try rw [K_2]
  exact ⟨congrArg (fun q => some (Value.int q)) hl.chr, N_2, rfl⟩
theorem d_rm_gc_0 : decode jdk_52_method_5_code 0 = .ok (.getstatic 44, 3) := by decide +kernel
theorem d_rm_gc_3 : decode jdk_52_method_5_code 3 = .ok (.ifCond .ne 25, 3) := by decide +kernel
theorem d_rm_gc_28 : decode jdk_52_method_5_code 28 = .ok (.iload_n 1, 1) := by decide +kernel
theorem d_rm_gc_29 : decode jdk_52_method_5_code 29 = .ok (.iconst 1, 1) := by decide +kernel
theorem d_rm_gc_30 : decode jdk_52_method_5_code 30 = .ok (.ishl, 1) := by decide +kernel
theorem d_rm_gc_31 : decode jdk_52_method_5_code 31 = .ok (.istore_n 1, 1) := by decide +kernel
theorem d_rm_gc_32 : decode jdk_52_method_5_code 32 = .ok (.aload_n 0, 1) := by decide +kernel
theorem d_rm_gc_33 : decode jdk_52_method_5_code 33 = .ok (.iload_n 1, 1) := by decide +kernel
theorem d_rm_gc_34 : decode jdk_52_method_5_code 34 = .ok (.iinc 1 1, 3) := by decide +kernel
theorem d_rm_gc_37 : decode jdk_52_method_5_code 37 = .ok (.baload, 1) := by decide +kernel
theorem d_rm_gc_38 : decode jdk_52_method_5_code 38 = .ok (.sipush 255, 3) := by decide +kernel
theorem d_rm_gc_41 : decode jdk_52_method_5_code 41 = .ok (.iand, 1) := by decide +kernel
theorem d_rm_gc_42 : decode jdk_52_method_5_code 42 = .ok (.getstatic 59, 3) := by decide +kernel
theorem d_rm_gc_45 : decode jdk_52_method_5_code 45 = .ok (.ishl, 1) := by decide +kernel
theorem d_rm_gc_46 : decode jdk_52_method_5_code 46 = .ok (.aload_n 0, 1) := by decide +kernel
theorem d_rm_gc_47 : decode jdk_52_method_5_code 47 = .ok (.iload_n 1, 1) := by decide +kernel
theorem d_rm_gc_48 : decode jdk_52_method_5_code 48 = .ok (.baload, 1) := by decide +kernel
theorem d_rm_gc_49 : decode jdk_52_method_5_code 49 = .ok (.sipush 255, 3) := by decide +kernel
theorem d_rm_gc_52 : decode jdk_52_method_5_code 52 = .ok (.iand, 1) := by decide +kernel
theorem d_rm_gc_53 : decode jdk_52_method_5_code 53 = .ok (.getstatic 63, 3) := by decide +kernel
theorem d_rm_gc_56 : decode jdk_52_method_5_code 56 = .ok (.ishl, 1) := by decide +kernel
theorem d_rm_gc_57 : decode jdk_52_method_5_code 57 = .ok (.ior, 1) := by decide +kernel
theorem d_rm_gc_58 : decode jdk_52_method_5_code 58 = .ok (.i2c, 1) := by decide +kernel
theorem d_rm_gc_59 : decode jdk_52_method_5_code 59 = .ok (.ireturn, 1) := by decide +kernel
set_option maxHeartbeats 4000000 in
theorem ef_rm_gc (m : MethodId) (x0 : Addr) (x1 : Int32)  : entryFrame m #[(.ref x0), (.int x1)] 2 = mkF m 0 #[.val (.ref x0), .val (.int x1)] [] := by first | (simp [entryFrame, mkF, argsToLocals, catR, catN, catI, catJ]; done) | rfl
set_option maxRecDepth 65536 in
set_option maxHeartbeats 40000000 in
theorem rm_gc (l : Launch) (Z : State) (a0 : Array Value) (hw : ∀ d ∈ tables_1, d.before a0 Z = true) (ws : List Jvm.Cond) (kc : Int32) (sx : Value) (b : Addr) (kb : ClassId) (xi z xc : Int32) (cs : List Int32) (q : Nat) (h0 : Heap) (n0 : Nat) (Z0 : n0 ≤ h0.size) (G : Stt Z kc sx) (O : Old Z n0 h0) (Vb : Arv Z h0 b kb .byte (z <<< ((1 : Int32) &&& 31)) (U2 cs) (.int (0 : Int32))) (hz : Sz z cs.length) (hi : Sz xi q) (hg : cs[q]? = some xc) (hl : Ch xc) :
    Pays l Z (⟨"java/lang/StringUTF16", "getChar", "([BI)C"⟩ : MethodName) jdk_52_method_5_code 2 (some .char) ws ({ frames := 0, cells := 0, slots := 0, locals := 0 } : Room) #[(.ref b), (.int xi)] h0 (fun v h L => v = some (.int xc) ∧ Fr n0 L ∧ h = h0) := by
  refine Pays.of (plainFor_of_name (by first | (simp [plainName, overriddenIn]; done) | decide +kernel)) ?_
  intro p e s m below meth c s₁ hx hby hml hown hnm hret hlk hZ e0 X0
  have N0 := Fr.nil n0
  have K0 : Keep h0 h0 [] := Keep.refl _ _
  refine Goes.go (U' := (s₁.setTop (mkF m 0 #[sR_ b, sI_ xi] []))) (fun t kt => castTop (ef_rm_gc m b xi) kt) ?_
  have hq : q < cs.length := (List.getElem?_eq_some_iff.mp hg).1
  obtain ⟨T_1, X_1, e_1, st_1⟩ := getS X0 hx hZ hown (host := "") (wdOf hw 209 rfl) Via.refl e0 (G.2.2.2.2.1.ext O.2) (g := (mkF m 0 #[sR_ b, sI_ xi] [])) rfl (hb hby d_rm_gc_0)
  refine Goes.go (U' := (T_1.setTop (mkF m 3 #[sR_ b, sI_ xi] [(.int (1 : Int32))]))) st_1 ?_
  refine Goes.go (U' := (T_1.setTop (mkF m 37 #[sR_ b, sI_ ((xi <<< ((1 : Int32) &&& 31)) + (1 : Int32))] [(.int (xi <<< ((1 : Int32) &&& 31))), (.ref b)]))) (fun t kt => ?_) ?_
  · skip
    refine XS.ifYes X_1.here hx rfl (pc0 := 3) (pc' := 28) rfl (hb hby d_rm_gc_3) rfl (XT.i0_ne_t (by decide)) (by decide) (by decide) ?_
    refine XS.iloadN X_1.here hx rfl (hb hby d_rm_gc_28) rfl ?_
    refine XS.iconst X_1.here hx rfl (hb hby d_rm_gc_29) ?_
    refine XS.ishl X_1.here hx rfl (hb hby d_rm_gc_30) rfl ?_
    refine XS.istoreN X_1.here hx rfl (hb hby d_rm_gc_31) rfl (l' := #[sR_ b, sI_ (xi <<< ((1 : Int32) &&& 31))]) rfl ?_
    refine XS.aloadN X_1.here hx rfl (hb hby d_rm_gc_32) rfl rfl ?_
    refine XS.iloadN X_1.here hx rfl (hb hby d_rm_gc_33) rfl ?_
    refine XS.iinc X_1.here hx rfl (hb hby d_rm_gc_34) rfl (l' := #[sR_ b, sI_ ((xi <<< ((1 : Int32) &&& 31)) + (1 : Int32))]) rfl ?_
    exact kt
  obtain ⟨cl_2, Ar_2, q_2, S_2, M_2, H_2, G_2⟩ := id Vb
  have hj_2 : ((xi <<< ((1 : Int32) &&& 31))).toNatClampNeg = 2 * q := hi.shl1
  have hin_2 : ¬ ((xi <<< ((1 : Int32) &&& 31)) < 0 ∨ cl_2.slots.size ≤ ((xi <<< ((1 : Int32) &&& 31))).toNatClampNeg) := inN S_2 hi.shl1p hj_2 (by rw [hz.shl1]; omega)
  have hat_2 : cl_2.slots[((xi <<< ((1 : Int32) &&& 31))).toNatClampNeg]? = some (.int xc.toInt8.toInt32) := H_2.at hin_2 (by rw [hj_2]; exact (U2_at hg).1)
  refine Goes.go (U' := (T_1.setTop (mkF m 38 #[sR_ b, sI_ ((xi <<< ((1 : Int32) &&& 31)) + (1 : Int32))] [(.int xc.toInt8.toInt32)]))) (fun t kt => ?_) ?_
  · skip
    refine X_1.baloadBytes hx (j := (xi <<< ((1 : Int32) &&& 31))) (v := (.int xc.toInt8.toInt32)) (by rw [e_1]; exact Ar_2.1) (State.isArrayOf_alike hZ.alike Ar_2.2.1) Ar_2.2.2 hin_2 hat_2 (g := (mkF m 37 #[sR_ b, sI_ ((xi <<< ((1 : Int32) &&& 31)) + (1 : Int32))] [(.int (xi <<< ((1 : Int32) &&& 31))), (.ref b)])) rfl rfl (hb hby d_rm_gc_37) _ ?_
    exact kt
  refine Goes.go (U' := (T_1.setTop (mkF m 42 #[sR_ b, sI_ ((xi <<< ((1 : Int32) &&& 31)) + (1 : Int32))] [(.int (xc.toInt8.toInt32 &&& (255 : Int32)))]))) (fun t kt => ?_) ?_
  · skip
    refine XS.sipush X_1.here hx rfl (hb hby d_rm_gc_38) ?_
    refine XS.iand X_1.here hx rfl (hb hby d_rm_gc_41) rfl ?_
    exact kt
  obtain ⟨T_3, X_3, e_3, st_3⟩ := getS X_1 hx hZ hown (host := "") (wdOf hw 210 rfl) Via.refl e_1 (G.2.2.2.2.2.1.ext O.2) (g := (mkF m 42 #[sR_ b, sI_ ((xi <<< ((1 : Int32) &&& 31)) + (1 : Int32))] [(.int (xc.toInt8.toInt32 &&& (255 : Int32)))])) rfl (hb hby d_rm_gc_42)
  refine Goes.go (U' := (T_3.setTop (mkF m 45 #[sR_ b, sI_ ((xi <<< ((1 : Int32) &&& 31)) + (1 : Int32))] [(.int (0 : Int32)), (.int (xc.toInt8.toInt32 &&& (255 : Int32)))]))) st_3 ?_
  refine Goes.go (U' := (T_3.setTop (mkF m 48 #[sR_ b, sI_ ((xi <<< ((1 : Int32) &&& 31)) + (1 : Int32))] [(.int ((xi <<< ((1 : Int32) &&& 31)) + (1 : Int32))), (.ref b), (.int ((xc.toInt8.toInt32 &&& (255 : Int32)) <<< ((0 : Int32) &&& 31)))]))) (fun t kt => ?_) ?_
  · skip
    refine XS.ishl X_3.here hx rfl (hb hby d_rm_gc_45) rfl ?_
    refine XS.aloadN X_3.here hx rfl (hb hby d_rm_gc_46) rfl rfl ?_
    refine XS.iloadN X_3.here hx rfl (hb hby d_rm_gc_47) rfl ?_
    exact kt
  obtain ⟨cl_4, Ar_4, q_4, S_4, M_4, H_4, G_4⟩ := id Vb
  have hj_4 : (((xi <<< ((1 : Int32) &&& 31)) + (1 : Int32))).toNatClampNeg = 2 * q + 1 := hi.shl1s
  have hin_4 : ¬ (((xi <<< ((1 : Int32) &&& 31)) + (1 : Int32)) < 0 ∨ cl_4.slots.size ≤ (((xi <<< ((1 : Int32) &&& 31)) + (1 : Int32))).toNatClampNeg) := inN S_4 hi.shl1sp hj_4 (by rw [hz.shl1]; omega)
  have hat_4 : cl_4.slots[(((xi <<< ((1 : Int32) &&& 31)) + (1 : Int32))).toNatClampNeg]? = some (.int (xc >>> 8).toInt8.toInt32) := H_4.at hin_4 (by rw [hj_4]; exact (U2_at hg).2)
  refine Goes.go (U' := (T_3.setTop (mkF m 49 #[sR_ b, sI_ ((xi <<< ((1 : Int32) &&& 31)) + (1 : Int32))] [(.int (xc >>> 8).toInt8.toInt32), (.int ((xc.toInt8.toInt32 &&& (255 : Int32)) <<< ((0 : Int32) &&& 31)))]))) (fun t kt => ?_) ?_
  · skip
    refine X_3.baloadBytes hx (j := ((xi <<< ((1 : Int32) &&& 31)) + (1 : Int32))) (v := (.int (xc >>> 8).toInt8.toInt32)) (by rw [e_3]; exact Ar_4.1) (State.isArrayOf_alike hZ.alike Ar_4.2.1) Ar_4.2.2 hin_4 hat_4 (g := (mkF m 48 #[sR_ b, sI_ ((xi <<< ((1 : Int32) &&& 31)) + (1 : Int32))] [(.int ((xi <<< ((1 : Int32) &&& 31)) + (1 : Int32))), (.ref b), (.int ((xc.toInt8.toInt32 &&& (255 : Int32)) <<< ((0 : Int32) &&& 31)))])) rfl rfl (hb hby d_rm_gc_48) _ ?_
    exact kt
  refine Goes.go (U' := (T_3.setTop (mkF m 53 #[sR_ b, sI_ ((xi <<< ((1 : Int32) &&& 31)) + (1 : Int32))] [(.int ((xc >>> 8).toInt8.toInt32 &&& (255 : Int32))), (.int ((xc.toInt8.toInt32 &&& (255 : Int32)) <<< ((0 : Int32) &&& 31)))]))) (fun t kt => ?_) ?_
  · skip
    refine XS.sipush X_3.here hx rfl (hb hby d_rm_gc_49) ?_
    refine XS.iand X_3.here hx rfl (hb hby d_rm_gc_52) rfl ?_
    exact kt
  obtain ⟨T_5, X_5, e_5, st_5⟩ := getS X_3 hx hZ hown (host := "") (wdOf hw 211 rfl) Via.refl e_3 (G.2.2.2.2.2.2.ext O.2) (g := (mkF m 53 #[sR_ b, sI_ ((xi <<< ((1 : Int32) &&& 31)) + (1 : Int32))] [(.int ((xc >>> 8).toInt8.toInt32 &&& (255 : Int32))), (.int ((xc.toInt8.toInt32 &&& (255 : Int32)) <<< ((0 : Int32) &&& 31)))])) rfl (hb hby d_rm_gc_53)
  refine Goes.go (U' := (T_5.setTop (mkF m 56 #[sR_ b, sI_ ((xi <<< ((1 : Int32) &&& 31)) + (1 : Int32))] [(.int (8 : Int32)), (.int ((xc >>> 8).toInt8.toInt32 &&& (255 : Int32))), (.int ((xc.toInt8.toInt32 &&& (255 : Int32)) <<< ((0 : Int32) &&& 31)))]))) st_5 ?_
  refine Goes.go (U' := (T_5.setTop (mkF m 59 #[sR_ b, sI_ ((xi <<< ((1 : Int32) &&& 31)) + (1 : Int32))] [(.int ((((xc.toInt8.toInt32 &&& (255 : Int32)) <<< ((0 : Int32) &&& 31)) ||| (((xc >>> 8).toInt8.toInt32 &&& (255 : Int32)) <<< ((8 : Int32) &&& 31))).toUInt32.toUInt16.toUInt32.toInt32))]))) (fun t kt => ?_) ?_
  · skip
    refine XS.ishl X_5.here hx rfl (hb hby d_rm_gc_56) rfl ?_
    refine XS.ior X_5.here hx rfl (hb hby d_rm_gc_57) rfl ?_
    refine XS.i2c X_5.here hx rfl (hb hby d_rm_gc_58) rfl ?_
    exact kt
  refine Goes.retC X_5 hx hlk hret (hb hby d_rm_gc_59) (by decide) (by decide) ?_
  try rw [e_5]
  exact ⟨congrArg (fun q => some (Value.int q)) hl.chr, N0, rfl⟩
theorem d_rm_uca_0 : decode jdk_52_method_83_code 0 = .ok (.iload_n 1, 1) := by decide +kernel
theorem d_rm_uca_1 : decode jdk_52_method_83_code 1 = .ok (.aload_n 0, 1) := by decide +kernel
theorem d_rm_uca_2 : decode jdk_52_method_83_code 2 = .ok (.invokestatic 67, 3) := by decide +kernel
theorem d_rm_uca_5 : decode jdk_52_method_83_code 5 = .ok (.aload_n 0, 1) := by decide +kernel
theorem d_rm_uca_6 : decode jdk_52_method_83_code 6 = .ok (.iload_n 1, 1) := by decide +kernel
theorem d_rm_uca_7 : decode jdk_52_method_83_code 7 = .ok (.invokestatic 71, 3) := by decide +kernel
theorem d_rm_uca_10 : decode jdk_52_method_83_code 10 = .ok (.ireturn, 1) := by decide +kernel
set_option maxHeartbeats 4000000 in
theorem ef_rm_uca (m : MethodId) (x0 : Addr) (x1 : Int32)  : entryFrame m #[(.ref x0), (.int x1)] 2 = mkF m 0 #[.val (.ref x0), .val (.int x1)] [] := by first | (simp [entryFrame, mkF, argsToLocals, catR, catN, catI, catJ]; done) | rfl
set_option maxRecDepth 65536 in
set_option maxHeartbeats 40000000 in
theorem rm_uca (l : Launch) (Z : State) (a0 : Array Value) (hw : ∀ d ∈ tables_1, d.before a0 Z = true) (ws : List Jvm.Cond) (kc : Int32) (sx : Value) (b : Addr) (kb : ClassId) (xi z xc : Int32) (cs : List Int32) (q : Nat) (h0 : Heap) (n0 : Nat) (Z0 : n0 ≤ h0.size) (G : Stt Z kc sx) (O : Old Z n0 h0) (Vb : Arv Z h0 b kb .byte (z <<< ((1 : Int32) &&& 31)) (U2 cs) (.int (0 : Int32))) (hz : Sz z cs.length) (hi : Sz xi q) (hg : cs[q]? = some xc) (hl : Ch xc) :
    Pays l Z (⟨"java/lang/StringUTF16", "charAt", "([BI)C"⟩ : MethodName) jdk_52_method_83_code 2 (some .char) ws ({ frames := 3, cells := 0, slots := 0, locals := 40 } : Room) #[(.ref b), (.int xi)] h0 (fun v h L => v = some (.int xc) ∧ Fr n0 L ∧ h = h0) := by
  refine Pays.of (plainFor_of_name (by first | (simp [plainName, overriddenIn]; done) | decide +kernel)) ?_
  intro p e s m below meth c s₁ hx hby hml hown hnm hret hlk hZ e0 X0
  have N0 := Fr.nil n0
  have K0 : Keep h0 h0 [] := Keep.refl _ _
  refine Goes.go (U' := (s₁.setTop (mkF m 0 #[sR_ b, sI_ xi] []))) (fun t kt => castTop (ef_rm_uca m b xi) kt) ?_
  have hq : q < cs.length := (List.getElem?_eq_some_iff.mp hg).1
  refine Goes.go (U' := (s₁.setTop (mkF m 2 #[sR_ b, sI_ xi] [(.ref b), (.int xi)]))) (fun t kt => ?_) ?_
  · skip
    refine XS.iloadN X0.here hx rfl (hb hby d_rm_uca_0) rfl ?_
    refine XS.aloadN X0.here hx rfl (hb hby d_rm_uca_1) rfl rfl ?_
    exact kt
  obtain ⟨v_1, T_1, L_1, X_1, q_1, st_1⟩ := callStatic X0 hx hZ (y := (⟨"java/lang/StringUTF16", "checkIndex", "(I[B)V"⟩ : MethodName)) (W := 0) hown (wdOf hw 249 rfl) (wdOf hw 250 rfl) (wdOf hw 204 rfl) (wdOf hw 251 rfl) (by decide) (rm_uci l Z a0 hw [] kc sx xi b kb (z <<< ((1 : Int32) &&& 31)) (U2 cs) h0 n0 Z0 G O Vb hi.pos (by rw [hz.back]; exact hi.lt hz hq)) (by decide) (by decide) (by decide) (by decide) e0 (g := (mkF m 2 #[sR_ b, sI_ xi] [(.ref b), (.int xi)])) rfl (by rw [hml]; rfl) (argsL := [(.int xi), (.ref b)]) (rest := []) (lenOf pd_15 rfl) rfl rfl (Nat.le_refl _) (hb hby d_rm_uca_2)
  obtain ⟨rfl, n_1, K_1⟩ := q_1
  have N_1 := Fr.app N0 n_1
  refine Goes.go (U' := (T_1.setTop (mkF m 5 #[sR_ b, sI_ xi] []))) st_1 ?_
  refine Goes.go (U' := (T_1.setTop (mkF m 7 #[sR_ b, sI_ xi] [(.int xi), (.ref b)]))) (fun t kt => ?_) ?_
  · skip
    refine XS.aloadN X_1.here hx rfl (hb hby d_rm_uca_5) rfl rfl ?_
    refine XS.iloadN X_1.here hx rfl (hb hby d_rm_uca_6) rfl ?_
    exact kt
  obtain ⟨v_2, T_2, L_2, X_2, q_2, st_2⟩ := callStatic X_1 hx hZ (y := (⟨"java/lang/StringUTF16", "getChar", "([BI)C"⟩ : MethodName)) (W := 0) hown (wdOf hw 253 rfl) (wdOf hw 254 rfl) (wdOf hw 204 rfl) (wdOf hw 255 rfl) (by decide) (rm_gc l Z a0 hw [] kc sx b kb xi z xc cs q h0 n0 Z0 G O Vb hz hi hg hl) (by decide) (by decide) (by decide) (by decide) K_1 (g := (mkF m 7 #[sR_ b, sI_ xi] [(.int xi), (.ref b)])) rfl (by rw [hml]; rfl) (argsL := [(.ref b), (.int xi)]) (rest := []) (lenOf pd_16 rfl) rfl rfl (Nat.le_refl _) (hb hby d_rm_uca_7)
  obtain ⟨rfl, n_2, K_2⟩ := q_2
  have N_2 := Fr.app N_1 n_2
  refine Goes.go (U' := (T_2.setTop (mkF m 10 #[sR_ b, sI_ xi] [(.int xc)]))) st_2 ?_
  refine Goes.retC X_2 hx hlk hret (hb hby d_rm_uca_10) (by decide) (by decide) ?_
  try rw [K_2]
  exact ⟨congrArg (fun q => some (Value.int q)) hl.nar, N_2, rfl⟩
theorem d_rm_ca_0 : decode jdk_42_method_56_code 0 = .ok (.aload_n 0, 1) := by decide +kernel
theorem d_rm_ca_1 : decode jdk_42_method_56_code 1 = .ok (.invokevirtual 492, 3) := by decide +kernel
theorem d_rm_ca_4 : decode jdk_42_method_56_code 4 = .ok (.ifCond .eq 12, 3) := by decide +kernel
theorem d_rm_ca_7 : decode jdk_42_method_56_code 7 = .ok (.aload_n 0, 1) := by decide +kernel
theorem d_rm_ca_8 : decode jdk_42_method_56_code 8 = .ok (.getfield 9, 3) := by decide +kernel
theorem d_rm_ca_11 : decode jdk_42_method_56_code 11 = .ok (.iload_n 1, 1) := by decide +kernel
theorem d_rm_ca_12 : decode jdk_42_method_56_code 12 = .ok (.invokestatic 495, 3) := by decide +kernel
theorem d_rm_ca_15 : decode jdk_42_method_56_code 15 = .ok (.ireturn, 1) := by decide +kernel
theorem d_rm_ca_16 : decode jdk_42_method_56_code 16 = .ok (.aload_n 0, 1) := by decide +kernel
theorem d_rm_ca_17 : decode jdk_42_method_56_code 17 = .ok (.getfield 9, 3) := by decide +kernel
theorem d_rm_ca_20 : decode jdk_42_method_56_code 20 = .ok (.iload_n 1, 1) := by decide +kernel
theorem d_rm_ca_21 : decode jdk_42_method_56_code 21 = .ok (.invokestatic 498, 3) := by decide +kernel
theorem d_rm_ca_24 : decode jdk_42_method_56_code 24 = .ok (.ireturn, 1) := by decide +kernel
set_option maxHeartbeats 4000000 in
theorem ef_rm_ca (m : MethodId) (x0 : Addr) (x1 : Int32)  : entryFrame m #[(.ref x0), (.int x1)] 2 = mkF m 0 #[.val (.ref x0), .val (.int x1)] [] := by first | (simp [entryFrame, mkF, argsToLocals, catR, catN, catI, catJ]; done) | rfl
set_option maxRecDepth 65536 in
set_option maxHeartbeats 40000000 in
theorem rm_ca (l : Launch) (Z : State) (a0 : Array Value) (hw : ∀ d ∈ tables_1, d.before a0 Z = true) (ws : List Jvm.Cond) (kc : Int32) (sx : Value) (r rb : Addr) (xi z xc : Int32) (cs : List Int32) (q : Nat) (h0 : Heap) (n0 : Nat) (Z0 : n0 ≤ h0.size) (G : Stt Z kc sx) (O : Old Z n0 h0)  (S0 : Str Z h0 r rb z cs) (hi : Sz xi q) (hg : cs[q]? = some xc) :
    Pays l Z (⟨"java/lang/String", "charAt", "(I)C"⟩ : MethodName) jdk_42_method_56_code 2 (some .char) ws ({ frames := 4, cells := 0, slots := 0, locals := 53 } : Room) #[(.ref r), (.int xi)] h0 (fun v h L => v = some (.int xc) ∧ Fr n0 L ∧ h = h0) := by
  refine Pays.of (plainFor_of_name (by first | (simp [plainName, overriddenIn]; done) | decide +kernel)) ?_
  intro p e s m below meth c s₁ hx hby hml hown hnm hret hlk hZ e0 X0
  have N0 := Fr.nil n0
  have K0 : Keep h0 h0 [] := Keep.refl _ _
  refine Goes.go (U' := (s₁.setTop (mkF m 0 #[sR_ r, sI_ xi] []))) (fun t kt => castTop (ef_rm_ca m r xi) kt) ?_
  rcases S0 with ⟨hz, ⟨⟨k1, E1, F1_value, F1_coder, V1⟩, hl⟩ | ⟨⟨k1, E1, F1_value, F1_coder, V1⟩, hl⟩⟩
  · -- coder 0
    have hm := hl xc (List.mem_of_getElem? hg)
    refine Goes.go (U' := (s₁.setTop (mkF m 1 #[sR_ r, sI_ xi] [(.ref r)]))) (fun t kt => ?_) ?_
    · skip
      refine XS.aloadN X0.here hx rfl (hb hby d_rm_ca_0) rfl rfl ?_
      exact kt
    obtain ⟨v_1, T_1, L_1, X_1, q_1, st_1⟩ := callVirtual X0 hx hZ (y := (⟨"java/lang/String", "isLatin1", "()Z"⟩ : MethodName)) (z := (⟨"java/lang/String", "isLatin1", "()Z"⟩ : MethodName)) (W := 0) hown (wdOf hw 182 rfl) (wdOf hw 183 rfl) (notFace_of_selects (args := #[]) (mvT hZ (wdOf hw 185 rfl))) (wdOf hw 185 rfl) (wdOf hw 184 rfl) (wdOf hw 23 rfl) (wdOf hw 186 rfl) (by decide) (rm_sil0 l Z a0 hw [] kc sx r h0 n0 Z0 G O F1_coder) (by decide) (by decide) (by decide) (by decide) e0 E1 (g := (mkF m 1 #[sR_ r, sI_ xi] [(.ref r)])) rfl (by rw [hml]; rfl) (argsL := []) (rest := []) (lenOf pd_17 rfl) rfl rfl (Nat.le_refl _) (hb hby d_rm_ca_1)
    obtain ⟨rfl, n_1, K_1⟩ := q_1
    have N_1 := Fr.app N0 n_1
    refine Goes.go (U' := (T_1.setTop (mkF m 4 #[sR_ r, sI_ xi] [(.int (1 : Int32))]))) st_1 ?_
    refine Goes.go (U' := (T_1.setTop (mkF m 8 #[sR_ r, sI_ xi] [(.ref r)]))) (fun t kt => ?_) ?_
    · skip
      refine XS.ifNo X_1.here hx rfl (hb hby d_rm_ca_4) rfl (XT.i0_eq_f (by decide)) ?_
      refine XS.aloadN X_1.here hx rfl (hb hby d_rm_ca_7) rfl rfl ?_
      exact kt
    obtain ⟨T_2, X_2, e_2, st_2⟩ := getF X_1 hx hZ hown (host := "") (Or.inl (wdOf hw 49 rfl)) Via.refl K_1 F1_value (g := (mkF m 8 #[sR_ r, sI_ xi] [(.ref r)])) rfl rfl (hb hby d_rm_ca_8)
    refine Goes.go (U' := (T_2.setTop (mkF m 11 #[sR_ r, sI_ xi] [(.ref rb)]))) st_2 ?_
    refine Goes.go (U' := (T_2.setTop (mkF m 12 #[sR_ r, sI_ xi] [(.int xi), (.ref rb)]))) (fun t kt => ?_) ?_
    · skip
      refine XS.iloadN X_2.here hx rfl (hb hby d_rm_ca_11) rfl ?_
      exact kt
    obtain ⟨v_3, T_3, L_3, X_3, q_3, st_3⟩ := callStatic X_2 hx hZ (y := (⟨"java/lang/StringLatin1", "charAt", "([BI)C"⟩ : MethodName)) (W := 0) hown (wdOf hw 187 rfl) (wdOf hw 188 rfl) (wdOf hw 37 rfl) (wdOf hw 189 rfl) (by decide) (rm_lca l Z a0 hw [] kc sx rb k1 xi z xc cs q h0 n0 Z0 G O V1 hz hi hg hm) (by decide) (by decide) (by decide) (by decide) e_2 (g := (mkF m 12 #[sR_ r, sI_ xi] [(.int xi), (.ref rb)])) rfl (by rw [hml]; rfl) (argsL := [(.ref rb), (.int xi)]) (rest := []) (lenOf pd_16 rfl) rfl rfl (Nat.le_refl _) (hb hby d_rm_ca_12)
    obtain ⟨rfl, n_3, K_3⟩ := q_3
    have N_3 := Fr.app N_1 n_3
    refine Goes.go (U' := (T_3.setTop (mkF m 15 #[sR_ r, sI_ xi] [(.int xc)]))) st_3 ?_
    refine Goes.retC X_3 hx hlk hret (hb hby d_rm_ca_15) (by decide) (by decide) ?_
    try rw [K_3]
    exact ⟨congrArg (fun q => some (Value.int q)) hm.ch.nar, N_3, rfl⟩
  · -- coder 1
    have hm := hl xc (List.mem_of_getElem? hg)
    refine Goes.go (U' := (s₁.setTop (mkF m 1 #[sR_ r, sI_ xi] [(.ref r)]))) (fun t kt => ?_) ?_
    · skip
      refine XS.aloadN X0.here hx rfl (hb hby d_rm_ca_0) rfl rfl ?_
      exact kt
    obtain ⟨v_4, T_4, L_4, X_4, q_4, st_4⟩ := callVirtual X0 hx hZ (y := (⟨"java/lang/String", "isLatin1", "()Z"⟩ : MethodName)) (z := (⟨"java/lang/String", "isLatin1", "()Z"⟩ : MethodName)) (W := 0) hown (wdOf hw 182 rfl) (wdOf hw 183 rfl) (notFace_of_selects (args := #[]) (mvT hZ (wdOf hw 185 rfl))) (wdOf hw 185 rfl) (wdOf hw 184 rfl) (wdOf hw 23 rfl) (wdOf hw 186 rfl) (by decide) (rm_sil1 l Z a0 hw [] kc sx r h0 n0 Z0 G O F1_coder) (by decide) (by decide) (by decide) (by decide) e0 E1 (g := (mkF m 1 #[sR_ r, sI_ xi] [(.ref r)])) rfl (by rw [hml]; rfl) (argsL := []) (rest := []) (lenOf pd_17 rfl) rfl rfl (Nat.le_refl _) (hb hby d_rm_ca_1)
    obtain ⟨rfl, n_4, K_4⟩ := q_4
    have N_4 := Fr.app N0 n_4
    refine Goes.go (U' := (T_4.setTop (mkF m 4 #[sR_ r, sI_ xi] [(.int (0 : Int32))]))) st_4 ?_
    refine Goes.go (U' := (T_4.setTop (mkF m 17 #[sR_ r, sI_ xi] [(.ref r)]))) (fun t kt => ?_) ?_
    · skip
      refine XS.ifYes X_4.here hx rfl (pc0 := 4) (pc' := 16) rfl (hb hby d_rm_ca_4) rfl (XT.i0_eq_t (by decide)) (by decide) (by decide) ?_
      refine XS.aloadN X_4.here hx rfl (hb hby d_rm_ca_16) rfl rfl ?_
      exact kt
    obtain ⟨T_5, X_5, e_5, st_5⟩ := getF X_4 hx hZ hown (host := "") (Or.inl (wdOf hw 49 rfl)) Via.refl K_4 F1_value (g := (mkF m 17 #[sR_ r, sI_ xi] [(.ref r)])) rfl rfl (hb hby d_rm_ca_17)
    refine Goes.go (U' := (T_5.setTop (mkF m 20 #[sR_ r, sI_ xi] [(.ref rb)]))) st_5 ?_
    refine Goes.go (U' := (T_5.setTop (mkF m 21 #[sR_ r, sI_ xi] [(.int xi), (.ref rb)]))) (fun t kt => ?_) ?_
    · skip
      refine XS.iloadN X_5.here hx rfl (hb hby d_rm_ca_20) rfl ?_
      exact kt
    obtain ⟨v_6, T_6, L_6, X_6, q_6, st_6⟩ := callStatic X_5 hx hZ (y := (⟨"java/lang/StringUTF16", "charAt", "([BI)C"⟩ : MethodName)) (W := 0) hown (wdOf hw 246 rfl) (wdOf hw 247 rfl) (wdOf hw 204 rfl) (wdOf hw 248 rfl) (by decide) (rm_uca l Z a0 hw [] kc sx rb k1 xi z xc cs q h0 n0 Z0 G O V1 hz hi hg hm) (by decide) (by decide) (by decide) (by decide) e_5 (g := (mkF m 21 #[sR_ r, sI_ xi] [(.int xi), (.ref rb)])) rfl (by rw [hml]; rfl) (argsL := [(.ref rb), (.int xi)]) (rest := []) (lenOf pd_16 rfl) rfl rfl (Nat.le_refl _) (hb hby d_rm_ca_21)
    obtain ⟨rfl, n_6, K_6⟩ := q_6
    have N_6 := Fr.app N_4 n_6
    refine Goes.go (U' := (T_6.setTop (mkF m 24 #[sR_ r, sI_ xi] [(.int xc)]))) st_6 ?_
    refine Goes.retC X_6 hx hlk hret (hb hby d_rm_ca_24) (by decide) (by decide) ?_
    try rw [K_6]
    exact ⟨congrArg (fun q => some (Value.int q)) hm.nar, N_6, rfl⟩
theorem d_rm_at_0 : decode method_2_code 0 = .ok (.aload_n 0, 1) := by decide +kernel
theorem d_rm_at_1 : decode method_2_code 1 = .ok (.iload_n 1, 1) := by decide +kernel
theorem d_rm_at_2 : decode method_2_code 2 = .ok (.iload_n 3, 1) := by decide +kernel
theorem d_rm_at_3 : decode method_2_code 3 = .ok (.iadd, 1) := by decide +kernel
theorem d_rm_at_4 : decode method_2_code 4 = .ok (.invokevirtual 7, 3) := by decide +kernel
theorem d_rm_at_7 : decode method_2_code 7 = .ok (.aload_n 2, 1) := by decide +kernel
theorem d_rm_at_8 : decode method_2_code 8 = .ok (.iload_n 3, 1) := by decide +kernel
theorem d_rm_at_9 : decode method_2_code 9 = .ok (.invokevirtual 7, 3) := by decide +kernel
theorem d_rm_at_12 : decode method_2_code 12 = .ok (.if_icmp .ne 7, 3) := by decide +kernel
theorem d_rm_at_15 : decode method_2_code 15 = .ok (.iconst 1, 1) := by decide +kernel
theorem d_rm_at_16 : decode method_2_code 16 = .ok (.goto 4, 3) := by decide +kernel
theorem d_rm_at_20 : decode method_2_code 20 = .ok (.ireturn, 1) := by decide +kernel
set_option maxHeartbeats 4000000 in
theorem ef_rm_at (m : MethodId) (x0 : Addr) (x1 : Int32) (x2 : Addr) (x3 : Int32)  : entryFrame m #[(.ref x0), (.int x1), (.ref x2), (.int x3)] 4 = mkF m 0 #[.val (.ref x0), .val (.int x1), .val (.ref x2), .val (.int x3)] [] := by first | (simp [entryFrame, mkF, argsToLocals, catR, catN, catI, catJ]; done) | rfl
set_option maxRecDepth 65536 in
set_option maxHeartbeats 40000000 in
theorem rm_at (l : Launch) (Z : State) (a0 : Array Value) (hw : ∀ d ∈ tables_1, d.before a0 Z = true) (ws : List Jvm.Cond) (kc : Int32) (sx : Value) (r rb er eb : Addr) (xn xi z z2 xc : Int32) (cs ds : List Int32) (na ni : Nat) (h0 : Heap) (n0 : Nat) (Z0 : n0 ≤ h0.size) (G : Stt Z kc sx) (O : Old Z n0 h0)  (S1 : Str Z h0 r rb z cs) (S2 : Str Z h0 er eb z2 ds) (hn : Sz xn na) (hi : Sz xi ni) (h64 : na + ni < 64) (g1 : cs[na + ni]? = some xc) (g2 : ds[ni]? = some xc) :
    Pays l Z (⟨"com/example/dead_letter_replay/deadletterreplay/page/HtmlEndPinLaw", "at", "(Ljava/lang/String;ILjava/lang/String;I)Z"⟩ : MethodName) method_2_code 4 (some .boolean) ws ({ frames := 5, cells := 0, slots := 0, locals := 67 } : Room) #[(.ref r), (.int xn), (.ref er), (.int xi)] h0 (fun v h L => v = some (.int (1 : Int32)) ∧ Fr n0 L ∧ h = h0) := by
  refine Pays.of (plainFor_of_name (by first | (simp [plainName, overriddenIn]; done) | decide +kernel)) ?_
  intro p e s m below meth c s₁ hx hby hml hown hnm hret hlk hZ e0 X0
  have N0 := Fr.nil n0
  have K0 : Keep h0 h0 [] := Keep.refl _ _
  refine Goes.go (U' := (s₁.setTop (mkF m 0 #[sR_ r, sI_ xn, sR_ er, sI_ xi] []))) (fun t kt => castTop (ef_rm_at m r xn er xi) kt) ?_
  refine Goes.go (U' := (s₁.setTop (mkF m 4 #[sR_ r, sI_ xn, sR_ er, sI_ xi] [(.int (xn + xi)), (.ref r)]))) (fun t kt => ?_) ?_
  · skip
    refine XS.aloadN X0.here hx rfl (hb hby d_rm_at_0) rfl rfl ?_
    refine XS.iloadN X0.here hx rfl (hb hby d_rm_at_1) rfl ?_
    refine XS.iloadN X0.here hx rfl (hb hby d_rm_at_2) rfl ?_
    refine XS.iadd X0.here hx rfl (hb hby d_rm_at_3) rfl ?_
    exact kt
  obtain ⟨v_1, T_1, L_1, X_1, q_1, st_1⟩ := callVirtual X0 hx hZ (y := (⟨"java/lang/String", "charAt", "(I)C"⟩ : MethodName)) (z := (⟨"java/lang/String", "charAt", "(I)C"⟩ : MethodName)) (W := 0) hown (wdOf hw 177 rfl) (wdOf hw 178 rfl) (notFace_of_selects (args := #[]) (mvT hZ (wdOf hw 180 rfl))) (wdOf hw 180 rfl) (wdOf hw 179 rfl) (wdOf hw 23 rfl) (wdOf hw 181 rfl) (by decide) (rm_ca l Z a0 hw [] kc sx r rb (xn + xi) z xc cs (na + ni) h0 n0 Z0 G O S1 (hn.add hi h64) g1) (by decide) (by decide) (by decide) (by decide) e0 S1.exa (g := (mkF m 4 #[sR_ r, sI_ xn, sR_ er, sI_ xi] [(.int (xn + xi)), (.ref r)])) rfl (by rw [hml]; rfl) (argsL := [(.int (xn + xi))]) (rest := []) (lenOf pd_18 rfl) rfl rfl (Nat.le_refl _) (hb hby d_rm_at_4)
  obtain ⟨rfl, n_1, K_1⟩ := q_1
  have N_1 := Fr.app N0 n_1
  refine Goes.go (U' := (T_1.setTop (mkF m 7 #[sR_ r, sI_ xn, sR_ er, sI_ xi] [(.int xc)]))) st_1 ?_
  refine Goes.go (U' := (T_1.setTop (mkF m 9 #[sR_ r, sI_ xn, sR_ er, sI_ xi] [(.int xi), (.ref er), (.int xc)]))) (fun t kt => ?_) ?_
  · skip
    refine XS.aloadN X_1.here hx rfl (hb hby d_rm_at_7) rfl rfl ?_
    refine XS.iloadN X_1.here hx rfl (hb hby d_rm_at_8) rfl ?_
    exact kt
  obtain ⟨v_2, T_2, L_2, X_2, q_2, st_2⟩ := callVirtual X_1 hx hZ (y := (⟨"java/lang/String", "charAt", "(I)C"⟩ : MethodName)) (z := (⟨"java/lang/String", "charAt", "(I)C"⟩ : MethodName)) (W := 1) hown (wdOf hw 177 rfl) (wdOf hw 178 rfl) (notFace_of_selects (args := #[]) (mvT hZ (wdOf hw 180 rfl))) (wdOf hw 180 rfl) (wdOf hw 179 rfl) (wdOf hw 23 rfl) (wdOf hw 181 rfl) (by decide) (rm_ca l Z a0 hw [] kc sx er eb xi z2 xc ds ni h0 n0 Z0 G O S2 hi g2) (by decide) (by decide) (by decide) (by decide) K_1 S2.exa (g := (mkF m 9 #[sR_ r, sI_ xn, sR_ er, sI_ xi] [(.int xi), (.ref er), (.int xc)])) rfl (by rw [hml]; rfl) (argsL := [(.int xi)]) (rest := [(.int xc)]) (lenOf pd_18 rfl) rfl rfl (Nat.le_refl _) (hb hby d_rm_at_9)
  obtain ⟨rfl, n_2, K_2⟩ := q_2
  have N_2 := Fr.app N_1 n_2
  refine Goes.go (U' := (T_2.setTop (mkF m 12 #[sR_ r, sI_ xn, sR_ er, sI_ xi] [(.int xc), (.int xc)]))) st_2 ?_
  refine Goes.go (U' := (T_2.setTop (mkF m 20 #[sR_ r, sI_ xn, sR_ er, sI_ xi] [(.int (1 : Int32))]))) (fun t kt => ?_) ?_
  · skip
    refine XS.icmpNo X_2.here hx rfl (hb hby d_rm_at_12) rfl (XT.ii_ne_f rfl) ?_
    refine XS.iconst X_2.here hx rfl (hb hby d_rm_at_15) ?_
    refine XS.goto X_2.here hx rfl (pc0 := 16) (pc' := 20) rfl (hb hby d_rm_at_16) (by decide) (by decide) ?_
    exact kt
  refine Goes.retB X_2 hx hlk hret (hb hby d_rm_at_20) (by decide) (by decide) ?_
  try rw [K_2]
  exact ⟨rfl, N_2, rfl⟩
theorem d_rm_gb0_0 : decode jdk_42_method_147_code 0 = .ok (.aload_n 0, 1) := by decide +kernel
theorem d_rm_gb0_1 : decode jdk_42_method_147_code 1 = .ok (.invokevirtual 335, 3) := by decide +kernel
theorem d_rm_gb0_4 : decode jdk_42_method_147_code 4 = .ok (.iload_n 3, 1) := by decide +kernel
theorem d_rm_gb0_5 : decode jdk_42_method_147_code 5 = .ok (.if_icmp .ne 23, 3) := by decide +kernel
theorem d_rm_gb0_8 : decode jdk_42_method_147_code 8 = .ok (.aload_n 0, 1) := by decide +kernel
theorem d_rm_gb0_9 : decode jdk_42_method_147_code 9 = .ok (.getfield 9, 3) := by decide +kernel
theorem d_rm_gb0_12 : decode jdk_42_method_147_code 12 = .ok (.iconst 0, 1) := by decide +kernel
theorem d_rm_gb0_13 : decode jdk_42_method_147_code 13 = .ok (.aload_n 1, 1) := by decide +kernel
theorem d_rm_gb0_14 : decode jdk_42_method_147_code 14 = .ok (.iload_n 2, 1) := by decide +kernel
theorem d_rm_gb0_15 : decode jdk_42_method_147_code 15 = .ok (.iload_n 3, 1) := by decide +kernel
theorem d_rm_gb0_16 : decode jdk_42_method_147_code 16 = .ok (.ishl, 1) := by decide +kernel
theorem d_rm_gb0_17 : decode jdk_42_method_147_code 17 = .ok (.aload_n 0, 1) := by decide +kernel
theorem d_rm_gb0_18 : decode jdk_42_method_147_code 18 = .ok (.getfield 9, 3) := by decide +kernel
theorem d_rm_gb0_21 : decode jdk_42_method_147_code 21 = .ok (.arraylength, 1) := by decide +kernel
theorem d_rm_gb0_22 : decode jdk_42_method_147_code 22 = .ok (.invokestatic 212, 3) := by decide +kernel
theorem d_rm_gb0_25 : decode jdk_42_method_147_code 25 = .ok (.goto 18, 3) := by decide +kernel
theorem d_rm_gb0_43 : decode jdk_42_method_147_code 43 = .ok (.return_, 1) := by decide +kernel
set_option maxHeartbeats 4000000 in
theorem ef_rm_gb0 (m : MethodId) (x0 : Addr) (x1 : Addr) (x2 : Int32) (x3 : Int32)  : entryFrame m #[(.ref x0), (.ref x1), (.int x2), (.int x3)] 4 = mkF m 0 #[.val (.ref x0), .val (.ref x1), .val (.int x2), .val (.int x3)] [] := by first | (simp [entryFrame, mkF, argsToLocals, catR, catN, catI, catJ]; done) | rfl
set_option maxRecDepth 65536 in
set_option maxHeartbeats 40000000 in
theorem rm_gb0 (l : Launch) (Z : State) (a0 : Array Value) (hw : ∀ d ∈ tables_1, d.before a0 Z = true) (ws : List Jvm.Cond) (kc : Int32) (sx : Value) (r rb da : Addr) (kr kd : ClassId) (pn z nd : Int32) (cs ds : List Int32) (h0 : Heap) (n0 : Nat) (Z0 : n0 ≤ h0.size) (G : Stt Z kc sx) (O : Old Z n0 h0) (E1 : Exa Z h0 r "java/lang/String") (F1_value : Fld Z h0 r "java/lang/String" "value" "[B" (.ref rb)) (F1_coder : Fld Z h0 r "java/lang/String" "coder" "B" (.int (0 : Int32))) (V1 : Arv Z h0 rb kr .byte z (L1 ds) (.int (0 : Int32))) (Vd : Arv Z h0 da kd .byte nd (L1 cs) (.int (0 : Int32))) (o0 : n0 ≤ da) (nb : rb ≠ da) (hz : Sz z ds.length) (hp : Sz pn cs.length) (hnd : 1 * (cs.length + ds.length) ≤ nd.toNatClampNeg) :
    Pays l Z (⟨"java/lang/String", "getBytes", "([BIB)V"⟩ : MethodName) jdk_42_method_147_code 4 none ws ({ frames := 1, cells := 0, slots := 0, locals := 18 } : Room) #[(.ref r), (.ref da), (.int pn), (.int (0 : Int32))] h0 (fun v h L => v = none ∧ Fr n0 L ∧ Keep h0 h [da] ∧ Arv Z h da kd .byte nd (L1 (cs ++ ds)) (.int (0 : Int32))) := by
  refine Pays.of (plainFor_of_name (by first | (simp [plainName, overriddenIn]; done) | decide +kernel)) ?_
  intro p e s m below meth c s₁ hx hby hml hown hnm hret hlk hZ e0 X0
  have N0 := Fr.nil n0
  have K0 : Keep h0 h0 [da] := Keep.refl _ _
  refine Goes.go (U' := (s₁.setTop (mkF m 0 #[sR_ r, sR_ da, sI_ pn, sI_ (0 : Int32)] []))) (fun t kt => castTop (ef_rm_gb0 m r da pn (0 : Int32)) kt) ?_
  refine Goes.go (U' := (s₁.setTop (mkF m 1 #[sR_ r, sR_ da, sI_ pn, sI_ (0 : Int32)] [(.ref r)]))) (fun t kt => ?_) ?_
  · skip
    refine XS.aloadN X0.here hx rfl (hb hby d_rm_gb0_0) rfl rfl ?_
    exact kt
  obtain ⟨v_1, T_1, L_1, X_1, q_1, st_1⟩ := callVirtual X0 hx hZ (y := (⟨"java/lang/String", "coder", "()B"⟩ : MethodName)) (z := (⟨"java/lang/String", "coder", "()B"⟩ : MethodName)) (W := 0) hown (wdOf hw 73 rfl) (wdOf hw 74 rfl) (notFace_of_selects (args := #[]) (mvT hZ (wdOf hw 76 rfl))) (wdOf hw 76 rfl) (wdOf hw 75 rfl) (wdOf hw 23 rfl) (wdOf hw 77 rfl) (by decide) (rm_co0 l Z a0 hw [] kc sx r h0 n0 Z0 G O F1_coder) (by decide) (by decide) (by decide) (by decide) e0 E1 (g := (mkF m 1 #[sR_ r, sR_ da, sI_ pn, sI_ (0 : Int32)] [(.ref r)])) rfl (by rw [hml]; rfl) (argsL := []) (rest := []) (lenOf pd_14 rfl) rfl rfl (Nat.le_refl _) (hb hby d_rm_gb0_1)
  obtain ⟨rfl, n_1, K_1⟩ := q_1
  have N_1 := Fr.app N0 n_1
  refine Goes.go (U' := (T_1.setTop (mkF m 4 #[sR_ r, sR_ da, sI_ pn, sI_ (0 : Int32)] [(.int (0 : Int32))]))) st_1 ?_
  refine Goes.go (U' := (T_1.setTop (mkF m 9 #[sR_ r, sR_ da, sI_ pn, sI_ (0 : Int32)] [(.ref r)]))) (fun t kt => ?_) ?_
  · skip
    refine XS.iloadN X_1.here hx rfl (hb hby d_rm_gb0_4) rfl ?_
    refine XS.icmpNo X_1.here hx rfl (hb hby d_rm_gb0_5) rfl (XT.ii_ne_f (by decide)) ?_
    refine XS.aloadN X_1.here hx rfl (hb hby d_rm_gb0_8) rfl rfl ?_
    exact kt
  obtain ⟨T_2, X_2, e_2, st_2⟩ := getF X_1 hx hZ hown (host := "") (Or.inl (wdOf hw 49 rfl)) Via.refl K_1 F1_value (g := (mkF m 9 #[sR_ r, sR_ da, sI_ pn, sI_ (0 : Int32)] [(.ref r)])) rfl rfl (hb hby d_rm_gb0_9)
  refine Goes.go (U' := (T_2.setTop (mkF m 12 #[sR_ r, sR_ da, sI_ pn, sI_ (0 : Int32)] [(.ref rb)]))) st_2 ?_
  refine Goes.go (U' := (T_2.setTop (mkF m 18 #[sR_ r, sR_ da, sI_ pn, sI_ (0 : Int32)] [(.ref r), (.int (pn <<< ((0 : Int32) &&& 31))), (.ref da), (.int (0 : Int32)), (.ref rb)]))) (fun t kt => ?_) ?_
  · skip
    refine XS.iconst X_2.here hx rfl (hb hby d_rm_gb0_12) ?_
    refine XS.aloadN X_2.here hx rfl (hb hby d_rm_gb0_13) rfl rfl ?_
    refine XS.iloadN X_2.here hx rfl (hb hby d_rm_gb0_14) rfl ?_
    refine XS.iloadN X_2.here hx rfl (hb hby d_rm_gb0_15) rfl ?_
    refine XS.ishl X_2.here hx rfl (hb hby d_rm_gb0_16) rfl ?_
    refine XS.aloadN X_2.here hx rfl (hb hby d_rm_gb0_17) rfl rfl ?_
    exact kt
  obtain ⟨T_3, X_3, e_3, st_3⟩ := getF X_2 hx hZ hown (host := "") (Or.inl (wdOf hw 49 rfl)) Via.refl e_2 F1_value (g := (mkF m 18 #[sR_ r, sR_ da, sI_ pn, sI_ (0 : Int32)] [(.ref r), (.int (pn <<< ((0 : Int32) &&& 31))), (.ref da), (.int (0 : Int32)), (.ref rb)])) rfl rfl (hb hby d_rm_gb0_18)
  refine Goes.go (U' := (T_3.setTop (mkF m 21 #[sR_ r, sR_ da, sI_ pn, sI_ (0 : Int32)] [(.ref rb), (.int (pn <<< ((0 : Int32) &&& 31))), (.ref da), (.int (0 : Int32)), (.ref rb)]))) st_3 ?_
  obtain ⟨cl_4, Ar_4, q_4, S_4, M_4, H_4, G_4⟩ := id V1
  refine Goes.go (U' := (T_3.setTop (mkF m 22 #[sR_ r, sR_ da, sI_ pn, sI_ (0 : Int32)] [(.int z), (.int (pn <<< ((0 : Int32) &&& 31))), (.ref da), (.int (0 : Int32)), (.ref rb)]))) (fun t kt => ?_) ?_
  · skip
    refine X_3.arraylength hx (by rw [e_3]; exact Ar_4.1) (State.isArrayOf_alike hZ.alike Ar_4.2.1) (g := (mkF m 21 #[sR_ r, sR_ da, sI_ pn, sI_ (0 : Int32)] [(.ref rb), (.int (pn <<< ((0 : Int32) &&& 31))), (.ref da), (.int (0 : Int32)), (.ref rb)])) rfl rfl (hb hby d_rm_gb0_21) _ ?_
    rw [len_of S_4 M_4]
    exact kt
  obtain ⟨T_5, h_5, L_5, X_5, e_5, N_5, K_5, V_5, st_5⟩ := cpB X_3 hx hZ hown (wdOf hw 101 rfl) (wdOf hw 104 rfl) (wdOf hw 102 rfl) (wdOf hw 103 rfl) e_3 V1 Vd (sp := (0 : Int32)) (dp := (pn <<< ((0 : Int32) &&& 31))) (nn := z) (r := (L1 (cs ++ ds))) (by decide) hp.shl0p hz.pos (Nat.le_of_eq (Nat.zero_add _)) (by rw [hp.shl0, hz.nat]; omega) (by rw [L1_app]; exact splApp (hp.shl0.trans (L1_len _).symm) (hz.nat.trans (L1_len _).symm)) N_1 o0 (g := (mkF m 22 #[sR_ r, sR_ da, sI_ pn, sI_ (0 : Int32)] [(.int z), (.int (pn <<< ((0 : Int32) &&& 31))), (.ref da), (.int (0 : Int32)), (.ref rb)])) rfl (by rw [hml]; rfl) (rest := []) rfl (hb hby d_rm_gb0_22) (by decide) (W := 0) (Nat.le_refl _) (by decide)
  have f_6 : Old Z n0 h_5 := O.keep K_5 (allS o0 all0)
  have f_7 : Exa Z h_5 r "java/lang/String" := E1.keep K_5
  have f_8 : Fld Z h_5 r "java/lang/String" "value" "[B" (.ref rb) := F1_value.keep K_5 (ninS (E1.neArv Vd (wdOf hw 40 rfl)) nin0)
  have f_9 : Fld Z h_5 r "java/lang/String" "coder" "B" (.int (0 : Int32)) := F1_coder.keep K_5 (ninS (E1.neArv Vd (wdOf hw 40 rfl)) nin0)
  have f_10 : Arv Z h_5 rb kr .byte z (L1 ds) (.int (0 : Int32)) := V1.keep K_5 (ninS nb nin0)
  have K_12 : Keep h0 h_5 [da] := K0.trans K_5 (allS (P := fun x => x ∈ [da] ∨ h0.size ≤ x) (Or.inl (List.mem_of_getElem? (i := 0) rfl)) all0)
  have y_12 : n0 ≤ h_5.size := Nat.le_trans Z0 K_12.1
  refine Goes.go (U' := (T_5.setTop (mkF m 25 #[sR_ r, sR_ da, sI_ pn, sI_ (0 : Int32)] []))) st_5 ?_
  refine Goes.go (U' := (T_5.setTop (mkF m 43 #[sR_ r, sR_ da, sI_ pn, sI_ (0 : Int32)] []))) (fun t kt => ?_) ?_
  · skip
    refine XS.goto X_5.here hx rfl (pc0 := 25) (pc' := 43) rfl (hb hby d_rm_gb0_25) (by decide) (by decide) ?_
    exact kt
  refine Goes.retV X_5 hx hlk hret (hb hby d_rm_gb0_43) (by decide) (by decide) ?_
  try rw [e_5]
  exact ⟨rfl, N_5, K_12, V_5⟩
theorem d_rm_gb1_0 : decode jdk_42_method_147_code 0 = .ok (.aload_n 0, 1) := by decide +kernel
theorem d_rm_gb1_1 : decode jdk_42_method_147_code 1 = .ok (.invokevirtual 335, 3) := by decide +kernel
theorem d_rm_gb1_4 : decode jdk_42_method_147_code 4 = .ok (.iload_n 3, 1) := by decide +kernel
theorem d_rm_gb1_5 : decode jdk_42_method_147_code 5 = .ok (.if_icmp .ne 23, 3) := by decide +kernel
theorem d_rm_gb1_8 : decode jdk_42_method_147_code 8 = .ok (.aload_n 0, 1) := by decide +kernel
theorem d_rm_gb1_9 : decode jdk_42_method_147_code 9 = .ok (.getfield 9, 3) := by decide +kernel
theorem d_rm_gb1_12 : decode jdk_42_method_147_code 12 = .ok (.iconst 0, 1) := by decide +kernel
theorem d_rm_gb1_13 : decode jdk_42_method_147_code 13 = .ok (.aload_n 1, 1) := by decide +kernel
theorem d_rm_gb1_14 : decode jdk_42_method_147_code 14 = .ok (.iload_n 2, 1) := by decide +kernel
theorem d_rm_gb1_15 : decode jdk_42_method_147_code 15 = .ok (.iload_n 3, 1) := by decide +kernel
theorem d_rm_gb1_16 : decode jdk_42_method_147_code 16 = .ok (.ishl, 1) := by decide +kernel
theorem d_rm_gb1_17 : decode jdk_42_method_147_code 17 = .ok (.aload_n 0, 1) := by decide +kernel
theorem d_rm_gb1_18 : decode jdk_42_method_147_code 18 = .ok (.getfield 9, 3) := by decide +kernel
theorem d_rm_gb1_21 : decode jdk_42_method_147_code 21 = .ok (.arraylength, 1) := by decide +kernel
theorem d_rm_gb1_22 : decode jdk_42_method_147_code 22 = .ok (.invokestatic 212, 3) := by decide +kernel
theorem d_rm_gb1_25 : decode jdk_42_method_147_code 25 = .ok (.goto 18, 3) := by decide +kernel
theorem d_rm_gb1_43 : decode jdk_42_method_147_code 43 = .ok (.return_, 1) := by decide +kernel
set_option maxHeartbeats 4000000 in
theorem ef_rm_gb1 (m : MethodId) (x0 : Addr) (x1 : Addr) (x2 : Int32) (x3 : Int32)  : entryFrame m #[(.ref x0), (.ref x1), (.int x2), (.int x3)] 4 = mkF m 0 #[.val (.ref x0), .val (.ref x1), .val (.int x2), .val (.int x3)] [] := by first | (simp [entryFrame, mkF, argsToLocals, catR, catN, catI, catJ]; done) | rfl
set_option maxRecDepth 65536 in
set_option maxHeartbeats 40000000 in
theorem rm_gb1 (l : Launch) (Z : State) (a0 : Array Value) (hw : ∀ d ∈ tables_1, d.before a0 Z = true) (ws : List Jvm.Cond) (kc : Int32) (sx : Value) (r rb da : Addr) (kr kd : ClassId) (pn z nd : Int32) (cs ds : List Int32) (h0 : Heap) (n0 : Nat) (Z0 : n0 ≤ h0.size) (G : Stt Z kc sx) (O : Old Z n0 h0) (E1 : Exa Z h0 r "java/lang/String") (F1_value : Fld Z h0 r "java/lang/String" "value" "[B" (.ref rb)) (F1_coder : Fld Z h0 r "java/lang/String" "coder" "B" (.int (1 : Int32))) (V1 : Arv Z h0 rb kr .byte (z <<< ((1 : Int32) &&& 31)) (U2 ds) (.int (0 : Int32))) (Vd : Arv Z h0 da kd .byte nd (U2 cs) (.int (0 : Int32))) (o0 : n0 ≤ da) (nb : rb ≠ da) (hz : Sz z ds.length) (hp : Sz pn cs.length) (hnd : 2 * (cs.length + ds.length) ≤ nd.toNatClampNeg) :
    Pays l Z (⟨"java/lang/String", "getBytes", "([BIB)V"⟩ : MethodName) jdk_42_method_147_code 4 none ws ({ frames := 1, cells := 0, slots := 0, locals := 18 } : Room) #[(.ref r), (.ref da), (.int pn), (.int (1 : Int32))] h0 (fun v h L => v = none ∧ Fr n0 L ∧ Keep h0 h [da] ∧ Arv Z h da kd .byte nd (U2 (cs ++ ds)) (.int (0 : Int32))) := by
  refine Pays.of (plainFor_of_name (by first | (simp [plainName, overriddenIn]; done) | decide +kernel)) ?_
  intro p e s m below meth c s₁ hx hby hml hown hnm hret hlk hZ e0 X0
  have N0 := Fr.nil n0
  have K0 : Keep h0 h0 [da] := Keep.refl _ _
  refine Goes.go (U' := (s₁.setTop (mkF m 0 #[sR_ r, sR_ da, sI_ pn, sI_ (1 : Int32)] []))) (fun t kt => castTop (ef_rm_gb1 m r da pn (1 : Int32)) kt) ?_
  refine Goes.go (U' := (s₁.setTop (mkF m 1 #[sR_ r, sR_ da, sI_ pn, sI_ (1 : Int32)] [(.ref r)]))) (fun t kt => ?_) ?_
  · skip
    refine XS.aloadN X0.here hx rfl (hb hby d_rm_gb1_0) rfl rfl ?_
    exact kt
  obtain ⟨v_1, T_1, L_1, X_1, q_1, st_1⟩ := callVirtual X0 hx hZ (y := (⟨"java/lang/String", "coder", "()B"⟩ : MethodName)) (z := (⟨"java/lang/String", "coder", "()B"⟩ : MethodName)) (W := 0) hown (wdOf hw 73 rfl) (wdOf hw 74 rfl) (notFace_of_selects (args := #[]) (mvT hZ (wdOf hw 76 rfl))) (wdOf hw 76 rfl) (wdOf hw 75 rfl) (wdOf hw 23 rfl) (wdOf hw 77 rfl) (by decide) (rm_co1 l Z a0 hw [] kc sx r h0 n0 Z0 G O F1_coder) (by decide) (by decide) (by decide) (by decide) e0 E1 (g := (mkF m 1 #[sR_ r, sR_ da, sI_ pn, sI_ (1 : Int32)] [(.ref r)])) rfl (by rw [hml]; rfl) (argsL := []) (rest := []) (lenOf pd_14 rfl) rfl rfl (Nat.le_refl _) (hb hby d_rm_gb1_1)
  obtain ⟨rfl, n_1, K_1⟩ := q_1
  have N_1 := Fr.app N0 n_1
  refine Goes.go (U' := (T_1.setTop (mkF m 4 #[sR_ r, sR_ da, sI_ pn, sI_ (1 : Int32)] [(.int (1 : Int32))]))) st_1 ?_
  refine Goes.go (U' := (T_1.setTop (mkF m 9 #[sR_ r, sR_ da, sI_ pn, sI_ (1 : Int32)] [(.ref r)]))) (fun t kt => ?_) ?_
  · skip
    refine XS.iloadN X_1.here hx rfl (hb hby d_rm_gb1_4) rfl ?_
    refine XS.icmpNo X_1.here hx rfl (hb hby d_rm_gb1_5) rfl (XT.ii_ne_f (by decide)) ?_
    refine XS.aloadN X_1.here hx rfl (hb hby d_rm_gb1_8) rfl rfl ?_
    exact kt
  obtain ⟨T_2, X_2, e_2, st_2⟩ := getF X_1 hx hZ hown (host := "") (Or.inl (wdOf hw 49 rfl)) Via.refl K_1 F1_value (g := (mkF m 9 #[sR_ r, sR_ da, sI_ pn, sI_ (1 : Int32)] [(.ref r)])) rfl rfl (hb hby d_rm_gb1_9)
  refine Goes.go (U' := (T_2.setTop (mkF m 12 #[sR_ r, sR_ da, sI_ pn, sI_ (1 : Int32)] [(.ref rb)]))) st_2 ?_
  refine Goes.go (U' := (T_2.setTop (mkF m 18 #[sR_ r, sR_ da, sI_ pn, sI_ (1 : Int32)] [(.ref r), (.int (pn <<< ((1 : Int32) &&& 31))), (.ref da), (.int (0 : Int32)), (.ref rb)]))) (fun t kt => ?_) ?_
  · skip
    refine XS.iconst X_2.here hx rfl (hb hby d_rm_gb1_12) ?_
    refine XS.aloadN X_2.here hx rfl (hb hby d_rm_gb1_13) rfl rfl ?_
    refine XS.iloadN X_2.here hx rfl (hb hby d_rm_gb1_14) rfl ?_
    refine XS.iloadN X_2.here hx rfl (hb hby d_rm_gb1_15) rfl ?_
    refine XS.ishl X_2.here hx rfl (hb hby d_rm_gb1_16) rfl ?_
    refine XS.aloadN X_2.here hx rfl (hb hby d_rm_gb1_17) rfl rfl ?_
    exact kt
  obtain ⟨T_3, X_3, e_3, st_3⟩ := getF X_2 hx hZ hown (host := "") (Or.inl (wdOf hw 49 rfl)) Via.refl e_2 F1_value (g := (mkF m 18 #[sR_ r, sR_ da, sI_ pn, sI_ (1 : Int32)] [(.ref r), (.int (pn <<< ((1 : Int32) &&& 31))), (.ref da), (.int (0 : Int32)), (.ref rb)])) rfl rfl (hb hby d_rm_gb1_18)
  refine Goes.go (U' := (T_3.setTop (mkF m 21 #[sR_ r, sR_ da, sI_ pn, sI_ (1 : Int32)] [(.ref rb), (.int (pn <<< ((1 : Int32) &&& 31))), (.ref da), (.int (0 : Int32)), (.ref rb)]))) st_3 ?_
  obtain ⟨cl_4, Ar_4, q_4, S_4, M_4, H_4, G_4⟩ := id V1
  refine Goes.go (U' := (T_3.setTop (mkF m 22 #[sR_ r, sR_ da, sI_ pn, sI_ (1 : Int32)] [(.int (z <<< ((1 : Int32) &&& 31))), (.int (pn <<< ((1 : Int32) &&& 31))), (.ref da), (.int (0 : Int32)), (.ref rb)]))) (fun t kt => ?_) ?_
  · skip
    refine X_3.arraylength hx (by rw [e_3]; exact Ar_4.1) (State.isArrayOf_alike hZ.alike Ar_4.2.1) (g := (mkF m 21 #[sR_ r, sR_ da, sI_ pn, sI_ (1 : Int32)] [(.ref rb), (.int (pn <<< ((1 : Int32) &&& 31))), (.ref da), (.int (0 : Int32)), (.ref rb)])) rfl rfl (hb hby d_rm_gb1_21) _ ?_
    rw [len_of S_4 M_4]
    exact kt
  obtain ⟨T_5, h_5, L_5, X_5, e_5, N_5, K_5, V_5, st_5⟩ := cpB X_3 hx hZ hown (wdOf hw 101 rfl) (wdOf hw 104 rfl) (wdOf hw 102 rfl) (wdOf hw 103 rfl) e_3 V1 Vd (sp := (0 : Int32)) (dp := (pn <<< ((1 : Int32) &&& 31))) (nn := (z <<< ((1 : Int32) &&& 31))) (r := (U2 (cs ++ ds))) (by decide) hp.shl1p hz.shl1p (Nat.le_of_eq (Nat.zero_add _)) (by rw [hp.shl1, hz.shl1]; omega) (by rw [U2_app]; exact splApp (hp.shl1.trans (U2_len _).symm) (hz.shl1.trans (U2_len _).symm)) N_1 o0 (g := (mkF m 22 #[sR_ r, sR_ da, sI_ pn, sI_ (1 : Int32)] [(.int (z <<< ((1 : Int32) &&& 31))), (.int (pn <<< ((1 : Int32) &&& 31))), (.ref da), (.int (0 : Int32)), (.ref rb)])) rfl (by rw [hml]; rfl) (rest := []) rfl (hb hby d_rm_gb1_22) (by decide) (W := 0) (Nat.le_refl _) (by decide)
  have f_6 : Old Z n0 h_5 := O.keep K_5 (allS o0 all0)
  have f_7 : Exa Z h_5 r "java/lang/String" := E1.keep K_5
  have f_8 : Fld Z h_5 r "java/lang/String" "value" "[B" (.ref rb) := F1_value.keep K_5 (ninS (E1.neArv Vd (wdOf hw 40 rfl)) nin0)
  have f_9 : Fld Z h_5 r "java/lang/String" "coder" "B" (.int (1 : Int32)) := F1_coder.keep K_5 (ninS (E1.neArv Vd (wdOf hw 40 rfl)) nin0)
  have f_10 : Arv Z h_5 rb kr .byte (z <<< ((1 : Int32) &&& 31)) (U2 ds) (.int (0 : Int32)) := V1.keep K_5 (ninS nb nin0)
  have K_12 : Keep h0 h_5 [da] := K0.trans K_5 (allS (P := fun x => x ∈ [da] ∨ h0.size ≤ x) (Or.inl (List.mem_of_getElem? (i := 0) rfl)) all0)
  have y_12 : n0 ≤ h_5.size := Nat.le_trans Z0 K_12.1
  refine Goes.go (U' := (T_5.setTop (mkF m 25 #[sR_ r, sR_ da, sI_ pn, sI_ (1 : Int32)] []))) st_5 ?_
  refine Goes.go (U' := (T_5.setTop (mkF m 43 #[sR_ r, sR_ da, sI_ pn, sI_ (1 : Int32)] []))) (fun t kt => ?_) ?_
  · skip
    refine XS.goto X_5.here hx rfl (pc0 := 25) (pc' := 43) rfl (hb hby d_rm_gb1_25) (by decide) (by decide) ?_
    exact kt
  refine Goes.retV X_5 hx hlk hret (hb hby d_rm_gb1_43) (by decide) (by decide) ?_
  try rw [e_5]
  exact ⟨rfl, N_5, K_12, V_5⟩
theorem d_rm_gb10_0 : decode jdk_42_method_147_code 0 = .ok (.aload_n 0, 1) := by decide +kernel
theorem d_rm_gb10_1 : decode jdk_42_method_147_code 1 = .ok (.invokevirtual 335, 3) := by decide +kernel
theorem d_rm_gb10_4 : decode jdk_42_method_147_code 4 = .ok (.iload_n 3, 1) := by decide +kernel
theorem d_rm_gb10_5 : decode jdk_42_method_147_code 5 = .ok (.if_icmp .ne 23, 3) := by decide +kernel
theorem d_rm_gb10_28 : decode jdk_42_method_147_code 28 = .ok (.aload_n 0, 1) := by decide +kernel
theorem d_rm_gb10_29 : decode jdk_42_method_147_code 29 = .ok (.getfield 9, 3) := by decide +kernel
theorem d_rm_gb10_32 : decode jdk_42_method_147_code 32 = .ok (.iconst 0, 1) := by decide +kernel
theorem d_rm_gb10_33 : decode jdk_42_method_147_code 33 = .ok (.aload_n 1, 1) := by decide +kernel
theorem d_rm_gb10_34 : decode jdk_42_method_147_code 34 = .ok (.iload_n 2, 1) := by decide +kernel
theorem d_rm_gb10_35 : decode jdk_42_method_147_code 35 = .ok (.aload_n 0, 1) := by decide +kernel
theorem d_rm_gb10_36 : decode jdk_42_method_147_code 36 = .ok (.getfield 9, 3) := by decide +kernel
theorem d_rm_gb10_39 : decode jdk_42_method_147_code 39 = .ok (.arraylength, 1) := by decide +kernel
theorem d_rm_gb10_40 : decode jdk_42_method_147_code 40 = .ok (.invokestatic 106, 3) := by decide +kernel
theorem d_rm_gb10_43 : decode jdk_42_method_147_code 43 = .ok (.return_, 1) := by decide +kernel
set_option maxHeartbeats 4000000 in
theorem ef_rm_gb10 (m : MethodId) (x0 : Addr) (x1 : Addr) (x2 : Int32) (x3 : Int32)  : entryFrame m #[(.ref x0), (.ref x1), (.int x2), (.int x3)] 4 = mkF m 0 #[.val (.ref x0), .val (.ref x1), .val (.int x2), .val (.int x3)] [] := by first | (simp [entryFrame, mkF, argsToLocals, catR, catN, catI, catJ]; done) | rfl
set_option maxRecDepth 65536 in
set_option maxHeartbeats 40000000 in
theorem rm_gb10 (l : Launch) (Z : State) (a0 : Array Value) (hw : ∀ d ∈ tables_1, d.before a0 Z = true) (ws : List Jvm.Cond) (kc : Int32) (sx : Value) (r rb da : Addr) (kr kd : ClassId) (pn z nd : Int32) (cs ds : List Int32) (h0 : Heap) (n0 : Nat) (Z0 : n0 ≤ h0.size) (G : Stt Z kc sx) (O : Old Z n0 h0) (E1 : Exa Z h0 r "java/lang/String") (F1_value : Fld Z h0 r "java/lang/String" "value" "[B" (.ref rb)) (F1_coder : Fld Z h0 r "java/lang/String" "coder" "B" (.int (0 : Int32))) (V1 : Arv Z h0 rb kr .byte z (L1 ds) (.int (0 : Int32))) (Vd : Arv Z h0 da kd .byte nd (U2 cs) (.int (0 : Int32))) (o0 : n0 ≤ da) (nb : rb ≠ da) (hz : Sz z ds.length) (hp : Sz pn cs.length) (hnd : 2 * (cs.length + ds.length) ≤ nd.toNatClampNeg) (hlc : ∀ c ∈ ds, Lc c) (h64 : cs.length + ds.length < 64) (hb1 : ¬ (((nd >>> ((1 : Int32) &&& 31)) ||| pn) ||| z) < 0) (hb2 : ¬ ((nd >>> ((1 : Int32) &&& 31)) - pn) < z) :
    Pays l Z (⟨"java/lang/String", "getBytes", "([BIB)V"⟩ : MethodName) jdk_42_method_147_code 4 none ws ({ frames := 5, cells := 0, slots := 0, locals := 76 } : Room) #[(.ref r), (.ref da), (.int pn), (.int (1 : Int32))] h0 (fun v h L => v = none ∧ Fr n0 L ∧ Keep h0 h [da] ∧ Arv Z h da kd .byte nd (U2 (cs ++ ds)) (.int (0 : Int32))) := by
  refine Pays.of (plainFor_of_name (by first | (simp [plainName, overriddenIn]; done) | decide +kernel)) ?_
  intro p e s m below meth c s₁ hx hby hml hown hnm hret hlk hZ e0 X0
  have N0 := Fr.nil n0
  have K0 : Keep h0 h0 [da] := Keep.refl _ _
  refine Goes.go (U' := (s₁.setTop (mkF m 0 #[sR_ r, sR_ da, sI_ pn, sI_ (1 : Int32)] []))) (fun t kt => castTop (ef_rm_gb10 m r da pn (1 : Int32)) kt) ?_
  refine Goes.go (U' := (s₁.setTop (mkF m 1 #[sR_ r, sR_ da, sI_ pn, sI_ (1 : Int32)] [(.ref r)]))) (fun t kt => ?_) ?_
  · skip
    refine XS.aloadN X0.here hx rfl (hb hby d_rm_gb10_0) rfl rfl ?_
    exact kt
  obtain ⟨v_1, T_1, L_1, X_1, q_1, st_1⟩ := callVirtual X0 hx hZ (y := (⟨"java/lang/String", "coder", "()B"⟩ : MethodName)) (z := (⟨"java/lang/String", "coder", "()B"⟩ : MethodName)) (W := 0) hown (wdOf hw 73 rfl) (wdOf hw 74 rfl) (notFace_of_selects (args := #[]) (mvT hZ (wdOf hw 76 rfl))) (wdOf hw 76 rfl) (wdOf hw 75 rfl) (wdOf hw 23 rfl) (wdOf hw 77 rfl) (by decide) (rm_co0 l Z a0 hw [] kc sx r h0 n0 Z0 G O F1_coder) (by decide) (by decide) (by decide) (by decide) e0 E1 (g := (mkF m 1 #[sR_ r, sR_ da, sI_ pn, sI_ (1 : Int32)] [(.ref r)])) rfl (by rw [hml]; rfl) (argsL := []) (rest := []) (lenOf pd_14 rfl) rfl rfl (Nat.le_refl _) (hb hby d_rm_gb10_1)
  obtain ⟨rfl, n_1, K_1⟩ := q_1
  have N_1 := Fr.app N0 n_1
  refine Goes.go (U' := (T_1.setTop (mkF m 4 #[sR_ r, sR_ da, sI_ pn, sI_ (1 : Int32)] [(.int (0 : Int32))]))) st_1 ?_
  refine Goes.go (U' := (T_1.setTop (mkF m 29 #[sR_ r, sR_ da, sI_ pn, sI_ (1 : Int32)] [(.ref r)]))) (fun t kt => ?_) ?_
  · skip
    refine XS.iloadN X_1.here hx rfl (hb hby d_rm_gb10_4) rfl ?_
    refine XS.icmpYes X_1.here hx rfl (pc0 := 5) (pc' := 28) rfl (hb hby d_rm_gb10_5) rfl (XT.ii_ne_t (by decide)) (by decide) (by decide) ?_
    refine XS.aloadN X_1.here hx rfl (hb hby d_rm_gb10_28) rfl rfl ?_
    exact kt
  obtain ⟨T_2, X_2, e_2, st_2⟩ := getF X_1 hx hZ hown (host := "") (Or.inl (wdOf hw 49 rfl)) Via.refl K_1 F1_value (g := (mkF m 29 #[sR_ r, sR_ da, sI_ pn, sI_ (1 : Int32)] [(.ref r)])) rfl rfl (hb hby d_rm_gb10_29)
  refine Goes.go (U' := (T_2.setTop (mkF m 32 #[sR_ r, sR_ da, sI_ pn, sI_ (1 : Int32)] [(.ref rb)]))) st_2 ?_
  refine Goes.go (U' := (T_2.setTop (mkF m 36 #[sR_ r, sR_ da, sI_ pn, sI_ (1 : Int32)] [(.ref r), (.int pn), (.ref da), (.int (0 : Int32)), (.ref rb)]))) (fun t kt => ?_) ?_
  · skip
    refine XS.iconst X_2.here hx rfl (hb hby d_rm_gb10_32) ?_
    refine XS.aloadN X_2.here hx rfl (hb hby d_rm_gb10_33) rfl rfl ?_
    refine XS.iloadN X_2.here hx rfl (hb hby d_rm_gb10_34) rfl ?_
    refine XS.aloadN X_2.here hx rfl (hb hby d_rm_gb10_35) rfl rfl ?_
    exact kt
  obtain ⟨T_3, X_3, e_3, st_3⟩ := getF X_2 hx hZ hown (host := "") (Or.inl (wdOf hw 49 rfl)) Via.refl e_2 F1_value (g := (mkF m 36 #[sR_ r, sR_ da, sI_ pn, sI_ (1 : Int32)] [(.ref r), (.int pn), (.ref da), (.int (0 : Int32)), (.ref rb)])) rfl rfl (hb hby d_rm_gb10_36)
  refine Goes.go (U' := (T_3.setTop (mkF m 39 #[sR_ r, sR_ da, sI_ pn, sI_ (1 : Int32)] [(.ref rb), (.int pn), (.ref da), (.int (0 : Int32)), (.ref rb)]))) st_3 ?_
  obtain ⟨cl_4, Ar_4, q_4, S_4, M_4, H_4, G_4⟩ := id V1
  refine Goes.go (U' := (T_3.setTop (mkF m 40 #[sR_ r, sR_ da, sI_ pn, sI_ (1 : Int32)] [(.int z), (.int pn), (.ref da), (.int (0 : Int32)), (.ref rb)]))) (fun t kt => ?_) ?_
  · skip
    refine X_3.arraylength hx (by rw [e_3]; exact Ar_4.1) (State.isArrayOf_alike hZ.alike Ar_4.2.1) (g := (mkF m 39 #[sR_ r, sR_ da, sI_ pn, sI_ (1 : Int32)] [(.ref rb), (.int pn), (.ref da), (.int (0 : Int32)), (.ref rb)])) rfl rfl (hb hby d_rm_gb10_39) _ ?_
    rw [len_of S_4 M_4]
    exact kt
  obtain ⟨v_5, T_5, L_5, X_5, q_5, st_5⟩ := callStatic X_3 hx hZ (y := (⟨"java/lang/StringLatin1", "inflate", "([BI[BII)V"⟩ : MethodName)) (W := 0) hown (wdOf hw 243 rfl) (wdOf hw 226 rfl) (wdOf hw 37 rfl) (wdOf hw 227 rfl) (by decide) (rm_li l Z a0 hw [] kc sx rb da kr kd pn z z nd ds cs h0 n0 Z0 G O V1 Vd o0 nb hlc hp hz (Nat.le_of_eq hz.nat.symm) hnd h64 hb1 hb2) (by decide) (by decide) (by decide) (by decide) e_3 (g := (mkF m 40 #[sR_ r, sR_ da, sI_ pn, sI_ (1 : Int32)] [(.int z), (.int pn), (.ref da), (.int (0 : Int32)), (.ref rb)])) rfl (by rw [hml]; rfl) (argsL := [(.ref rb), (.int (0 : Int32)), (.ref da), (.int pn), (.int z)]) (rest := []) (lenOf pd_10 rfl) rfl rfl (Nat.le_refl _) (hb hby d_rm_gb10_40)
  obtain ⟨rfl, n_5, K_5, V_5⟩ := q_5
  have N_5 := Fr.app N_1 n_5
  have f_6 : Old Z n0 T_5.heap := O.keep K_5 (allS o0 all0)
  have f_7 : Exa Z T_5.heap r "java/lang/String" := E1.keep K_5
  have f_8 : Fld Z T_5.heap r "java/lang/String" "value" "[B" (.ref rb) := F1_value.keep K_5 (ninS (E1.neArv Vd (wdOf hw 40 rfl)) nin0)
  have f_9 : Fld Z T_5.heap r "java/lang/String" "coder" "B" (.int (0 : Int32)) := F1_coder.keep K_5 (ninS (E1.neArv Vd (wdOf hw 40 rfl)) nin0)
  have f_10 : Arv Z T_5.heap rb kr .byte z (L1 ds) (.int (0 : Int32)) := V1.keep K_5 (ninS nb nin0)
  have K_12 : Keep h0 T_5.heap [da] := K0.trans K_5 (allS (P := fun x => x ∈ [da] ∨ h0.size ≤ x) (Or.inl (List.mem_of_getElem? (i := 0) rfl)) all0)
  have y_12 : n0 ≤ T_5.heap.size := Nat.le_trans Z0 K_12.1
  refine Goes.go (U' := (T_5.setTop (mkF m 43 #[sR_ r, sR_ da, sI_ pn, sI_ (1 : Int32)] []))) st_5 ?_
  refine Goes.retV X_5 hx hlk hret (hb hby d_rm_gb10_43) (by decide) (by decide) ?_
  try rw [(rfl : T_5.heap = T_5.heap)]
  exact ⟨rfl, N_5, K_12, V_5⟩
theorem d_rm_inn_0 : decode jdk_68_method_11_code 0 = .ok (.aload_n 0, 1) := by decide +kernel
theorem d_rm_inn_1 : decode jdk_68_method_11_code 1 = .ok (.invokevirtual 83, 3) := by decide +kernel
theorem d_rm_inn_4 : decode jdk_68_method_11_code 4 = .ok (.ifCond .ne 4, 3) := by decide +kernel
theorem d_rm_inn_7 : decode jdk_68_method_11_code 7 = .ok (.return_, 1) := by decide +kernel
set_option maxHeartbeats 4000000 in
theorem ef_rm_inn (m : MethodId) (x0 : Addr)  : entryFrame m #[(.ref x0)] 2 = mkF m 0 #[.val (.ref x0), .unset] [] := by first | (simp [entryFrame, mkF, argsToLocals, catR, catN, catI, catJ]; done) | rfl
set_option maxRecDepth 65536 in
set_option maxHeartbeats 40000000 in
theorem rm_inn (l : Launch) (Z : State) (a0 : Array Value) (hw : ∀ d ∈ tables_1, d.before a0 Z = true) (ws : List Jvm.Cond) (kc : Int32) (sx : Value) (ax : Addr) (h0 : Heap) (n0 : Nat) (Z0 : n0 ≤ h0.size) (G : Stt Z kc sx) (O : Old Z n0 h0) (Ea : Exa Z h0 ax "java/lang/StringBuilder") (Fc : Fld Z h0 ax "java/lang/AbstractStringBuilder" "coder" "B" (.int (1 : Int32)))  :
    Pays l Z (⟨"java/lang/AbstractStringBuilder", "inflate", "()V"⟩ : MethodName) jdk_68_method_11_code 2 none ws ({ frames := 1, cells := 0, slots := 0, locals := 12 } : Room) #[(.ref ax)] h0 (fun v h L => v = none ∧ Fr n0 L ∧ h = h0) := by
  refine Pays.of (plainFor_of_name (by first | (simp [plainName, overriddenIn]; done) | decide +kernel)) ?_
  intro p e s m below meth c s₁ hx hby hml hown hnm hret hlk hZ e0 X0
  have N0 := Fr.nil n0
  have K0 : Keep h0 h0 [] := Keep.refl _ _
  refine Goes.go (U' := (s₁.setTop (mkF m 0 #[sR_ ax, sU_] []))) (fun t kt => castTop (ef_rm_inn m ax) kt) ?_
  refine Goes.go (U' := (s₁.setTop (mkF m 1 #[sR_ ax, sU_] [(.ref ax)]))) (fun t kt => ?_) ?_
  · skip
    refine XS.aloadN X0.here hx rfl (hb hby d_rm_inn_0) rfl rfl ?_
    exact kt
  obtain ⟨v_1, T_1, L_1, X_1, q_1, st_1⟩ := callVirtual X0 hx hZ (y := (⟨"java/lang/AbstractStringBuilder", "isLatin1", "()Z"⟩ : MethodName)) (z := (⟨"java/lang/AbstractStringBuilder", "isLatin1", "()Z"⟩ : MethodName)) (W := 0) hown (wdOf hw 217 rfl) (wdOf hw 162 rfl) (notFace_of_selects (args := #[]) (mvT hZ (wdOf hw 164 rfl))) (wdOf hw 164 rfl) (wdOf hw 163 rfl) (wdOf hw 19 rfl) (wdOf hw 165 rfl) (by decide) (rm_ail1 l Z a0 hw [] kc sx ax h0 n0 Z0 G O Fc) (by decide) (by decide) (by decide) (by decide) e0 Ea (g := (mkF m 1 #[sR_ ax, sU_] [(.ref ax)])) rfl (by rw [hml]; rfl) (argsL := []) (rest := []) (lenOf pd_17 rfl) rfl rfl (Nat.le_refl _) (hb hby d_rm_inn_1)
  obtain ⟨rfl, n_1, K_1⟩ := q_1
  have N_1 := Fr.app N0 n_1
  refine Goes.go (U' := (T_1.setTop (mkF m 4 #[sR_ ax, sU_] [(.int (0 : Int32))]))) st_1 ?_
  refine Goes.go (U' := (T_1.setTop (mkF m 7 #[sR_ ax, sU_] []))) (fun t kt => ?_) ?_
  · skip
    refine XS.ifNo X_1.here hx rfl (hb hby d_rm_inn_4) rfl (XT.i0_ne_f (by decide)) ?_
    exact kt
  refine Goes.retV X_1 hx hlk hret (hb hby d_rm_inn_7) (by decide) (by decide) ?_
  try rw [K_1]
  exact ⟨rfl, N_1, rfl⟩
theorem d_rm_inr_0 : decode jdk_68_method_11_code 0 = .ok (.aload_n 0, 1) := by decide +kernel
theorem d_rm_inr_1 : decode jdk_68_method_11_code 1 = .ok (.invokevirtual 83, 3) := by decide +kernel
theorem d_rm_inr_4 : decode jdk_68_method_11_code 4 = .ok (.ifCond .ne 4, 3) := by decide +kernel
theorem d_rm_inr_8 : decode jdk_68_method_11_code 8 = .ok (.aload_n 0, 1) := by decide +kernel
theorem d_rm_inr_9 : decode jdk_68_method_11_code 9 = .ok (.getfield 15, 3) := by decide +kernel
theorem d_rm_inr_12 : decode jdk_68_method_11_code 12 = .ok (.arraylength, 1) := by decide +kernel
theorem d_rm_inr_13 : decode jdk_68_method_11_code 13 = .ok (.invokestatic 26, 3) := by decide +kernel
theorem d_rm_inr_16 : decode jdk_68_method_11_code 16 = .ok (.astore_n 1, 1) := by decide +kernel
theorem d_rm_inr_17 : decode jdk_68_method_11_code 17 = .ok (.aload_n 0, 1) := by decide +kernel
theorem d_rm_inr_18 : decode jdk_68_method_11_code 18 = .ok (.getfield 15, 3) := by decide +kernel
theorem d_rm_inr_21 : decode jdk_68_method_11_code 21 = .ok (.iconst 0, 1) := by decide +kernel
theorem d_rm_inr_22 : decode jdk_68_method_11_code 22 = .ok (.aload_n 1, 1) := by decide +kernel
theorem d_rm_inr_23 : decode jdk_68_method_11_code 23 = .ok (.iconst 0, 1) := by decide +kernel
theorem d_rm_inr_24 : decode jdk_68_method_11_code 24 = .ok (.aload_n 0, 1) := by decide +kernel
theorem d_rm_inr_25 : decode jdk_68_method_11_code 25 = .ok (.getfield 79, 3) := by decide +kernel
theorem d_rm_inr_28 : decode jdk_68_method_11_code 28 = .ok (.invokestatic 125, 3) := by decide +kernel
theorem d_rm_inr_31 : decode jdk_68_method_11_code 31 = .ok (.aload_n 0, 1) := by decide +kernel
theorem d_rm_inr_32 : decode jdk_68_method_11_code 32 = .ok (.aload_n 1, 1) := by decide +kernel
theorem d_rm_inr_33 : decode jdk_68_method_11_code 33 = .ok (.putfield 15, 3) := by decide +kernel
theorem d_rm_inr_36 : decode jdk_68_method_11_code 36 = .ok (.aload_n 0, 1) := by decide +kernel
theorem d_rm_inr_37 : decode jdk_68_method_11_code 37 = .ok (.iconst 1, 1) := by decide +kernel
theorem d_rm_inr_38 : decode jdk_68_method_11_code 38 = .ok (.putfield 22, 3) := by decide +kernel
theorem d_rm_inr_41 : decode jdk_68_method_11_code 41 = .ok (.return_, 1) := by decide +kernel
set_option maxHeartbeats 4000000 in
theorem ef_rm_inr (m : MethodId) (x0 : Addr)  : entryFrame m #[(.ref x0)] 2 = mkF m 0 #[.val (.ref x0), .unset] [] := by first | (simp [entryFrame, mkF, argsToLocals, catR, catN, catI, catJ]; done) | rfl
set_option maxRecDepth 65536 in
set_option maxHeartbeats 40000000 in
theorem rm_inr (l : Launch) (Z : State) (a0 : Array Value) (hw : ∀ d ∈ tables_1, d.before a0 Z = true) (ws : List Jvm.Cond) (kc : Int32) (sx : Value) (ax ba : Addr) (kb : ClassId) (pn : Int32) (cs : List Int32) (h0 : Heap) (n0 : Nat) (Z0 : n0 ≤ h0.size) (G : Stt Z kc sx) (O : Old Z n0 h0) (E1 : Exa Z h0 ax "java/lang/StringBuilder") (F1_value : Fld Z h0 ax "java/lang/AbstractStringBuilder" "value" "[B" (.ref ba)) (F1_coder : Fld Z h0 ax "java/lang/AbstractStringBuilder" "coder" "B" (.int (0 : Int32))) (F1_count : Fld Z h0 ax "java/lang/AbstractStringBuilder" "count" "I" (.int pn)) (F1_maybeLatin1 : Fld Z h0 ax "java/lang/AbstractStringBuilder" "maybeLatin1" "Z" (.int (0 : Int32))) (V1 : Arv Z h0 ba kb .byte (16 : Int32) (L1 cs) (.int (0 : Int32))) (o0 : n0 ≤ ax) (hp : Sz pn cs.length) (hle : cs.length ≤ 3) (hlc : ∀ c ∈ cs, Lc c) :
    Pays l Z (⟨"java/lang/AbstractStringBuilder", "inflate", "()V"⟩ : MethodName) jdk_68_method_11_code 2 none ws ({ frames := 5, cells := 1, slots := 32, locals := 76 } : Room) #[(.ref ax)] h0 (fun v h L => ∃ b k, v = none ∧ Fr n0 L ∧ Keep h0 h [ax] ∧ h0.size ≤ b ∧ Exa Z h ax "java/lang/StringBuilder" ∧ Fld Z h ax "java/lang/AbstractStringBuilder" "value" "[B" (.ref b) ∧ Fld Z h ax "java/lang/AbstractStringBuilder" "coder" "B" (.int (1 : Int32)) ∧ Fld Z h ax "java/lang/AbstractStringBuilder" "count" "I" (.int pn) ∧ Fld Z h ax "java/lang/AbstractStringBuilder" "maybeLatin1" "Z" (.int (0 : Int32)) ∧ Arv Z h b k .byte (32 : Int32) (U2 cs) (.int (0 : Int32))) := by
  refine Pays.of (plainFor_of_name (by first | (simp [plainName, overriddenIn]; done) | decide +kernel)) ?_
  intro p e s m below meth c s₁ hx hby hml hown hnm hret hlk hZ e0 X0
  have N0 := Fr.nil n0
  have K0 : Keep h0 h0 [ax] := Keep.refl _ _
  refine Goes.go (U' := (s₁.setTop (mkF m 0 #[sR_ ax, sU_] []))) (fun t kt => castTop (ef_rm_inr m ax) kt) ?_
  have hp4 := hp.four hle
  refine Goes.go (U' := (s₁.setTop (mkF m 1 #[sR_ ax, sU_] [(.ref ax)]))) (fun t kt => ?_) ?_
  · skip
    refine XS.aloadN X0.here hx rfl (hb hby d_rm_inr_0) rfl rfl ?_
    exact kt
  obtain ⟨v_1, T_1, L_1, X_1, q_1, st_1⟩ := callVirtual X0 hx hZ (y := (⟨"java/lang/AbstractStringBuilder", "isLatin1", "()Z"⟩ : MethodName)) (z := (⟨"java/lang/AbstractStringBuilder", "isLatin1", "()Z"⟩ : MethodName)) (W := 0) hown (wdOf hw 217 rfl) (wdOf hw 162 rfl) (notFace_of_selects (args := #[]) (mvT hZ (wdOf hw 164 rfl))) (wdOf hw 164 rfl) (wdOf hw 163 rfl) (wdOf hw 19 rfl) (wdOf hw 165 rfl) (by decide) (rm_ail0 l Z a0 hw [] kc sx ax h0 n0 Z0 G O F1_coder) (by decide) (by decide) (by decide) (by decide) e0 E1 (g := (mkF m 1 #[sR_ ax, sU_] [(.ref ax)])) rfl (by rw [hml]; rfl) (argsL := []) (rest := []) (lenOf pd_17 rfl) rfl rfl (Nat.le_refl _) (hb hby d_rm_inr_1)
  obtain ⟨rfl, n_1, K_1⟩ := q_1
  have N_1 := Fr.app N0 n_1
  refine Goes.go (U' := (T_1.setTop (mkF m 4 #[sR_ ax, sU_] [(.int (1 : Int32))]))) st_1 ?_
  refine Goes.go (U' := (T_1.setTop (mkF m 9 #[sR_ ax, sU_] [(.ref ax)]))) (fun t kt => ?_) ?_
  · skip
    refine XS.ifYes X_1.here hx rfl (pc0 := 4) (pc' := 8) rfl (hb hby d_rm_inr_4) rfl (XT.i0_ne_t (by decide)) (by decide) (by decide) ?_
    refine XS.aloadN X_1.here hx rfl (hb hby d_rm_inr_8) rfl rfl ?_
    exact kt
  obtain ⟨T_2, X_2, e_2, st_2⟩ := getF X_1 hx hZ hown (host := "") (Or.inl (wdOf hw 25 rfl)) Via.refl K_1 F1_value (g := (mkF m 9 #[sR_ ax, sU_] [(.ref ax)])) rfl rfl (hb hby d_rm_inr_9)
  refine Goes.go (U' := (T_2.setTop (mkF m 12 #[sR_ ax, sU_] [(.ref ba)]))) st_2 ?_
  obtain ⟨cl_3, Ar_3, q_3, S_3, M_3, H_3, G_3⟩ := id V1
  refine Goes.go (U' := (T_2.setTop (mkF m 13 #[sR_ ax, sU_] [(.int (16 : Int32))]))) (fun t kt => ?_) ?_
  · skip
    refine X_2.arraylength hx (by rw [e_2]; exact Ar_3.1) (State.isArrayOf_alike hZ.alike Ar_3.2.1) (g := (mkF m 12 #[sR_ ax, sU_] [(.ref ba)])) rfl rfl (hb hby d_rm_inr_12) _ ?_
    rw [len_of S_3 M_3]
    exact kt
  obtain ⟨v_4, T_4, L_4, X_4, q_4, st_4⟩ := callStatic X_2 hx hZ (y := (⟨"java/lang/StringUTF16", "newBytesFor", "(I)[B"⟩ : MethodName)) (W := 0) hown (wdOf hw 218 rfl) (wdOf hw 219 rfl) (wdOf hw 204 rfl) (wdOf hw 220 rfl) (by decide) (rm_nbf l Z a0 hw [] kc sx  h0 n0 Z0 G O ) (by decide) (by decide) (by decide) (by decide) e_2 (g := (mkF m 13 #[sR_ ax, sU_] [(.int (16 : Int32))])) rfl (by rw [hml]; rfl) (argsL := [(.int (16 : Int32))]) (rest := []) (lenOf pd_19 rfl) rfl rfl (Nat.le_refl _) (hb hby d_rm_inr_13)
  obtain ⟨r_4, k_4, rfl, n_4, K_4, z_4, V_4⟩ := q_4
  have ne_5 : ax ≠ r_4 := Nat.ne_of_lt (Nat.lt_of_lt_of_le E1.lt z_4)
  have ne_6 : ba ≠ r_4 := Nat.ne_of_lt (Nat.lt_of_lt_of_le V1.lt z_4)
  have o_7 : n0 ≤ r_4 := Nat.le_trans Z0 z_4
  have z_8 : h0.size ≤ r_4 := Nat.le_trans K0.1 z_4
  have N_4 := Fr.app N_1 n_4
  have f_9 : Old Z n0 T_4.heap := O.ext K_4
  have f_10 : Exa Z T_4.heap ax "java/lang/StringBuilder" := E1.ext K_4
  have f_11 : Fld Z T_4.heap ax "java/lang/AbstractStringBuilder" "value" "[B" (.ref ba) := F1_value.ext K_4
  have f_12 : Fld Z T_4.heap ax "java/lang/AbstractStringBuilder" "coder" "B" (.int (0 : Int32)) := F1_coder.ext K_4
  have f_13 : Fld Z T_4.heap ax "java/lang/AbstractStringBuilder" "count" "I" (.int pn) := F1_count.ext K_4
  have f_14 : Fld Z T_4.heap ax "java/lang/AbstractStringBuilder" "maybeLatin1" "Z" (.int (0 : Int32)) := F1_maybeLatin1.ext K_4
  have f_15 : Arv Z T_4.heap ba kb .byte (16 : Int32) (L1 cs) (.int (0 : Int32)) := V1.ext K_4
  have K_16 : Keep h0 T_4.heap [ax] := K0.ext K_4
  have y_16 : n0 ≤ T_4.heap.size := Nat.le_trans Z0 K_16.1
  refine Goes.go (U' := (T_4.setTop (mkF m 16 #[sR_ ax, sU_] [(.ref r_4)]))) st_4 ?_
  refine Goes.go (U' := (T_4.setTop (mkF m 18 #[sR_ ax, sR_ r_4] [(.ref ax)]))) (fun t kt => ?_) ?_
  · skip
    refine XS.astoreN X_4.here hx rfl (hb hby d_rm_inr_16) rfl rfl (l' := #[sR_ ax, sR_ r_4]) rfl ?_
    refine XS.aloadN X_4.here hx rfl (hb hby d_rm_inr_17) rfl rfl ?_
    exact kt
  obtain ⟨T_17, X_17, e_17, st_17⟩ := getF X_4 hx hZ hown (host := "") (Or.inl (wdOf hw 25 rfl)) Via.refl (rfl : T_4.heap = T_4.heap) f_11 (g := (mkF m 18 #[sR_ ax, sR_ r_4] [(.ref ax)])) rfl rfl (hb hby d_rm_inr_18)
  refine Goes.go (U' := (T_17.setTop (mkF m 21 #[sR_ ax, sR_ r_4] [(.ref ba)]))) st_17 ?_
  refine Goes.go (U' := (T_17.setTop (mkF m 25 #[sR_ ax, sR_ r_4] [(.ref ax), (.int (0 : Int32)), (.ref r_4), (.int (0 : Int32)), (.ref ba)]))) (fun t kt => ?_) ?_
  · skip
    refine XS.iconst X_17.here hx rfl (hb hby d_rm_inr_21) ?_
    refine XS.aloadN X_17.here hx rfl (hb hby d_rm_inr_22) rfl rfl ?_
    refine XS.iconst X_17.here hx rfl (hb hby d_rm_inr_23) ?_
    refine XS.aloadN X_17.here hx rfl (hb hby d_rm_inr_24) rfl rfl ?_
    exact kt
  obtain ⟨T_18, X_18, e_18, st_18⟩ := getF X_17 hx hZ hown (host := "") (Or.inl (wdOf hw 78 rfl)) Via.refl e_17 f_13 (g := (mkF m 25 #[sR_ ax, sR_ r_4] [(.ref ax), (.int (0 : Int32)), (.ref r_4), (.int (0 : Int32)), (.ref ba)])) rfl rfl (hb hby d_rm_inr_25)
  refine Goes.go (U' := (T_18.setTop (mkF m 28 #[sR_ ax, sR_ r_4] [(.int pn), (.int (0 : Int32)), (.ref r_4), (.int (0 : Int32)), (.ref ba)]))) st_18 ?_
  obtain ⟨v_19, T_19, L_19, X_19, q_19, st_19⟩ := callStatic X_18 hx hZ (y := (⟨"java/lang/StringLatin1", "inflate", "([BI[BII)V"⟩ : MethodName)) (W := 0) hown (wdOf hw 225 rfl) (wdOf hw 226 rfl) (wdOf hw 37 rfl) (wdOf hw 227 rfl) (by decide) (rm_li l Z a0 hw [] kc sx ba r_4 kb k_4 (0 : Int32) pn (16 : Int32) (32 : Int32) cs [] T_4.heap n0 y_16 G f_9 f_15 V_4 o_7 ne_6 hlc ⟨rfl, by first | decide | simp⟩ hp (Nat.le_trans hle (by decide)) (by simp only [List.length_nil]; have : (32 : Int32).toNatClampNeg = 32 := rfl; omega) (by simp; omega) (by rcases hp4 with rfl | rfl | rfl | rfl <;> decide) (by rcases hp4 with rfl | rfl | rfl | rfl <;> decide)) (by decide) (by decide) (by decide) (by decide) e_18 (g := (mkF m 28 #[sR_ ax, sR_ r_4] [(.int pn), (.int (0 : Int32)), (.ref r_4), (.int (0 : Int32)), (.ref ba)])) rfl (by rw [hml]; rfl) (argsL := [(.ref ba), (.int (0 : Int32)), (.ref r_4), (.int (0 : Int32)), (.int pn)]) (rest := []) (lenOf pd_10 rfl) rfl rfl (Nat.le_refl _) (hb hby d_rm_inr_28)
  obtain ⟨rfl, n_19, K_19, V_19⟩ := q_19
  have N_19 := Fr.app N_4 n_19
  have f_20 : Old Z n0 T_19.heap := f_9.keep K_19 (allS o_7 all0)
  have f_21 : Exa Z T_19.heap ax "java/lang/StringBuilder" := f_10.keep K_19
  have f_22 : Fld Z T_19.heap ax "java/lang/AbstractStringBuilder" "value" "[B" (.ref ba) := f_11.keep K_19 (ninS ne_5 nin0)
  have f_23 : Fld Z T_19.heap ax "java/lang/AbstractStringBuilder" "coder" "B" (.int (0 : Int32)) := f_12.keep K_19 (ninS ne_5 nin0)
  have f_24 : Fld Z T_19.heap ax "java/lang/AbstractStringBuilder" "count" "I" (.int pn) := f_13.keep K_19 (ninS ne_5 nin0)
  have f_25 : Fld Z T_19.heap ax "java/lang/AbstractStringBuilder" "maybeLatin1" "Z" (.int (0 : Int32)) := f_14.keep K_19 (ninS ne_5 nin0)
  have f_26 : Arv Z T_19.heap ba kb .byte (16 : Int32) (L1 cs) (.int (0 : Int32)) := f_15.keep K_19 (ninS ne_6 nin0)
  have K_28 : Keep h0 T_19.heap [ax] := K_16.trans K_19 (allS (P := fun x => x ∈ [ax] ∨ h0.size ≤ x) (Or.inr z_8) all0)
  have y_28 : n0 ≤ T_19.heap.size := Nat.le_trans Z0 K_28.1
  refine Goes.go (U' := (T_19.setTop (mkF m 31 #[sR_ ax, sR_ r_4] []))) st_19 ?_
  refine Goes.go (U' := (T_19.setTop (mkF m 33 #[sR_ ax, sR_ r_4] [(.ref r_4), (.ref ax)]))) (fun t kt => ?_) ?_
  · skip
    refine XS.aloadN X_19.here hx rfl (hb hby d_rm_inr_31) rfl rfl ?_
    refine XS.aloadN X_19.here hx rfl (hb hby d_rm_inr_32) rfl rfl ?_
    exact kt
  obtain ⟨T_29, h_29, X_29, e_29, W_29, st_29⟩ := putF X_19 hx hZ hown (host := "") (Or.inl (wdOf hw 25 rfl)) Via.refl (rfl : T_19.heap = T_19.heap) f_22 f_21 (Or.inl (wdOf hw 26 rfl)) (wdOf hw 10 rfl) (ty := (.array .byte)) (by decide) rfl rfl (g := (mkF m 33 #[sR_ ax, sR_ r_4] [(.ref r_4), (.ref ax)])) rfl rfl (hb hby d_rm_inr_33)
  have N_29 := Fr.snoc X_29 N_19 o0
  have f_30 : Old Z n0 h_29 := f_20.wr W_29 o0
  have f_31 : Exa Z h_29 ax "java/lang/StringBuilder" := f_21.wr W_29
  have f_32 : Fld Z h_29 ax "java/lang/AbstractStringBuilder" "value" "[B" (.ref r_4) := f_22.same W_29
  have f_33 : Fld Z h_29 ax "java/lang/AbstractStringBuilder" "coder" "B" (.int (0 : Int32)) := f_23.other W_29 (Or.inr (slot_ne (Or.inl (wdOf hw 28 rfl)) (Or.inl (wdOf hw 26 rfl)) (by decide) (t := .byte) (t' := (.array .byte)) (by decide) (by decide)))
  have f_34 : Fld Z h_29 ax "java/lang/AbstractStringBuilder" "count" "I" (.int pn) := f_24.other W_29 (Or.inr (slot_ne (Or.inl (wdOf hw 79 rfl)) (Or.inl (wdOf hw 26 rfl)) (by decide) (t := .int) (t' := (.array .byte)) (by decide) (by decide)))
  have f_35 : Fld Z h_29 ax "java/lang/AbstractStringBuilder" "maybeLatin1" "Z" (.int (0 : Int32)) := f_25.other W_29 (Or.inr (slot_ne (Or.inl (wdOf hw 245 rfl)) (Or.inl (wdOf hw 26 rfl)) (by decide) (t := .boolean) (t' := (.array .byte)) (by decide) (by decide)))
  have f_36 : Arv Z h_29 ba kb .byte (16 : Int32) (L1 cs) (.int (0 : Int32)) := f_26.other W_29 (Ne.symm (f_21.neArv f_26 (wdOf hw 10 rfl)))
  have f_37 : Arv Z h_29 r_4 k_4 .byte (32 : Int32) (U2 ([] ++ cs)) (.int (0 : Int32)) := V_19.other W_29 (Ne.symm ne_5)
  have K_38 : Keep h0 h_29 [ax] := K_28.wr W_29 (Or.inl (List.mem_of_getElem? (i := 0) rfl))
  have y_38 : n0 ≤ h_29.size := Nat.le_trans Z0 K_38.1
  refine Goes.go (U' := (T_29.setTop (mkF m 36 #[sR_ ax, sR_ r_4] []))) st_29 ?_
  refine Goes.go (U' := (T_29.setTop (mkF m 38 #[sR_ ax, sR_ r_4] [(.int (1 : Int32)), (.ref ax)]))) (fun t kt => ?_) ?_
  · skip
    refine XS.aloadN X_29.here hx rfl (hb hby d_rm_inr_36) rfl rfl ?_
    refine XS.iconst X_29.here hx rfl (hb hby d_rm_inr_37) ?_
    exact kt
  obtain ⟨T_39, h_39, X_39, e_39, W_39, st_39⟩ := putFN X_29 hx hZ hown (wdOf hw 27 rfl) Via.refl e_29 f_33 f_31 (Or.inl (wdOf hw 28 rfl)) (wdOf hw 10 rfl) (ty := .byte) (v' := (.int (1 : Int32))) (by decide) rfl rfl (g := (mkF m 38 #[sR_ ax, sR_ r_4] [(.int (1 : Int32)), (.ref ax)])) rfl rfl (hb hby d_rm_inr_38)
  have N_39 := Fr.snoc X_39 N_29 o0
  have f_40 : Old Z n0 h_39 := f_30.wr W_39 o0
  have f_41 : Exa Z h_39 ax "java/lang/StringBuilder" := f_31.wr W_39
  have f_42 : Fld Z h_39 ax "java/lang/AbstractStringBuilder" "value" "[B" (.ref r_4) := f_32.other W_39 (Or.inr (slot_ne (Or.inl (wdOf hw 26 rfl)) (Or.inl (wdOf hw 28 rfl)) (by decide) (t := (.array .byte)) (t' := .byte) (by decide) (by decide)))
  have f_43 : Fld Z h_39 ax "java/lang/AbstractStringBuilder" "coder" "B" (.int (1 : Int32)) := f_33.same W_39
  have f_44 : Fld Z h_39 ax "java/lang/AbstractStringBuilder" "count" "I" (.int pn) := f_34.other W_39 (Or.inr (slot_ne (Or.inl (wdOf hw 79 rfl)) (Or.inl (wdOf hw 28 rfl)) (by decide) (t := .int) (t' := .byte) (by decide) (by decide)))
  have f_45 : Fld Z h_39 ax "java/lang/AbstractStringBuilder" "maybeLatin1" "Z" (.int (0 : Int32)) := f_35.other W_39 (Or.inr (slot_ne (Or.inl (wdOf hw 245 rfl)) (Or.inl (wdOf hw 28 rfl)) (by decide) (t := .boolean) (t' := .byte) (by decide) (by decide)))
  have f_46 : Arv Z h_39 ba kb .byte (16 : Int32) (L1 cs) (.int (0 : Int32)) := f_36.other W_39 (Ne.symm (f_31.neArv f_36 (wdOf hw 10 rfl)))
  have f_47 : Arv Z h_39 r_4 k_4 .byte (32 : Int32) (U2 ([] ++ cs)) (.int (0 : Int32)) := f_37.other W_39 (Ne.symm ne_5)
  have K_48 : Keep h0 h_39 [ax] := K_38.wr W_39 (Or.inl (List.mem_of_getElem? (i := 0) rfl))
  have y_48 : n0 ≤ h_39.size := Nat.le_trans Z0 K_48.1
  refine Goes.go (U' := (T_39.setTop (mkF m 41 #[sR_ ax, sR_ r_4] []))) st_39 ?_
  refine Goes.retV X_39 hx hlk hret (hb hby d_rm_inr_41) (by decide) (by decide) ?_
  try rw [e_39]
  exact ⟨_, _, rfl, N_39, K_48, z_8, f_41, f_42, f_43, f_44, f_45, f_47⟩
theorem d_rm_if00_0 : decode jdk_68_method_71_code 0 = .ok (.getstatic 18, 3) := by decide +kernel
theorem d_rm_if00_3 : decode jdk_68_method_71_code 3 = .ok (.ifCond .eq 18, 3) := by decide +kernel
theorem d_rm_if00_6 : decode jdk_68_method_71_code 6 = .ok (.aload_n 0, 1) := by decide +kernel
theorem d_rm_if00_7 : decode jdk_68_method_71_code 7 = .ok (.getfield 22, 3) := by decide +kernel
theorem d_rm_if00_10 : decode jdk_68_method_71_code 10 = .ok (.aload_n 1, 1) := by decide +kernel
theorem d_rm_if00_11 : decode jdk_68_method_71_code 11 = .ok (.invokevirtual 40, 3) := by decide +kernel
theorem d_rm_if00_14 : decode jdk_68_method_71_code 14 = .ok (.if_icmp .eq 7, 3) := by decide +kernel
theorem d_rm_if00_21 : decode jdk_68_method_71_code 21 = .ok (.return_, 1) := by decide +kernel
set_option maxHeartbeats 4000000 in
theorem ef_rm_if00 (m : MethodId) (x0 : Addr) (x1 : Addr)  : entryFrame m #[(.ref x0), (.ref x1)] 2 = mkF m 0 #[.val (.ref x0), .val (.ref x1)] [] := by first | (simp [entryFrame, mkF, argsToLocals, catR, catN, catI, catJ]; done) | rfl
set_option maxRecDepth 65536 in
set_option maxHeartbeats 40000000 in
theorem rm_if00 (l : Launch) (Z : State) (a0 : Array Value) (hw : ∀ d ∈ tables_1, d.before a0 Z = true) (ws : List Jvm.Cond) (kc : Int32) (sx : Value) (ax r : Addr) (h0 : Heap) (n0 : Nat) (Z0 : n0 ≤ h0.size) (G : Stt Z kc sx) (O : Old Z n0 h0) (Ea : Exa Z h0 ax "java/lang/StringBuilder") (Fa : Fld Z h0 ax "java/lang/AbstractStringBuilder" "coder" "B" (.int (0 : Int32))) (Er : Exa Z h0 r "java/lang/String") (Fr_ : Fld Z h0 r "java/lang/String" "coder" "B" (.int (0 : Int32)))  :
    Pays l Z (⟨"java/lang/AbstractStringBuilder", "inflateIfNeededFor", "(Ljava/lang/String;)V"⟩ : MethodName) jdk_68_method_71_code 2 none ws ({ frames := 1, cells := 0, slots := 0, locals := 13 } : Room) #[(.ref ax), (.ref r)] h0 (fun v h L => v = none ∧ Fr n0 L ∧ h = h0) := by
  refine Pays.of (plainFor_of_name (by first | (simp [plainName, overriddenIn]; done) | decide +kernel)) ?_
  intro p e s m below meth c s₁ hx hby hml hown hnm hret hlk hZ e0 X0
  have N0 := Fr.nil n0
  have K0 : Keep h0 h0 [] := Keep.refl _ _
  refine Goes.go (U' := (s₁.setTop (mkF m 0 #[sR_ ax, sR_ r] []))) (fun t kt => castTop (ef_rm_if00 m ax r) kt) ?_
  obtain ⟨T_1, X_1, e_1, st_1⟩ := getS X0 hx hZ hown (host := "") (wdOf hw 22 rfl) Via.refl e0 (G.1.ext O.2) (g := (mkF m 0 #[sR_ ax, sR_ r] [])) rfl (hb hby d_rm_if00_0)
  refine Goes.go (U' := (T_1.setTop (mkF m 3 #[sR_ ax, sR_ r] [(.int kc)]))) st_1 ?_
  refine Goes.go (U' := (T_1.setTop (mkF m 7 #[sR_ ax, sR_ r] [(.ref ax)]))) (fun t kt => ?_) ?_
  · skip
    refine XS.ifNo X_1.here hx rfl (hb hby d_rm_if00_3) rfl (XT.i0_eq_f G.2.1) ?_
    refine XS.aloadN X_1.here hx rfl (hb hby d_rm_if00_6) rfl rfl ?_
    exact kt
  obtain ⟨T_2, X_2, e_2, st_2⟩ := getF X_1 hx hZ hown (host := "") (Or.inl (wdOf hw 27 rfl)) Via.refl e_1 Fa (g := (mkF m 7 #[sR_ ax, sR_ r] [(.ref ax)])) rfl rfl (hb hby d_rm_if00_7)
  refine Goes.go (U' := (T_2.setTop (mkF m 10 #[sR_ ax, sR_ r] [(.int (0 : Int32))]))) st_2 ?_
  refine Goes.go (U' := (T_2.setTop (mkF m 11 #[sR_ ax, sR_ r] [(.ref r), (.int (0 : Int32))]))) (fun t kt => ?_) ?_
  · skip
    refine XS.aloadN X_2.here hx rfl (hb hby d_rm_if00_10) rfl rfl ?_
    exact kt
  obtain ⟨v_3, T_3, L_3, X_3, q_3, st_3⟩ := callVirtual X_2 hx hZ (y := (⟨"java/lang/String", "coder", "()B"⟩ : MethodName)) (z := (⟨"java/lang/String", "coder", "()B"⟩ : MethodName)) (W := 1) hown (wdOf hw 95 rfl) (wdOf hw 74 rfl) (notFace_of_selects (args := #[]) (mvT hZ (wdOf hw 76 rfl))) (wdOf hw 76 rfl) (wdOf hw 75 rfl) (wdOf hw 23 rfl) (wdOf hw 77 rfl) (by decide) (rm_co0 l Z a0 hw [] kc sx r h0 n0 Z0 G O Fr_) (by decide) (by decide) (by decide) (by decide) e_2 Er (g := (mkF m 11 #[sR_ ax, sR_ r] [(.ref r), (.int (0 : Int32))])) rfl (by rw [hml]; rfl) (argsL := []) (rest := [(.int (0 : Int32))]) (lenOf pd_14 rfl) rfl rfl (Nat.le_refl _) (hb hby d_rm_if00_11)
  obtain ⟨rfl, n_3, K_3⟩ := q_3
  have N_3 := Fr.app N0 n_3
  refine Goes.go (U' := (T_3.setTop (mkF m 14 #[sR_ ax, sR_ r] [(.int (0 : Int32)), (.int (0 : Int32))]))) st_3 ?_
  refine Goes.go (U' := (T_3.setTop (mkF m 21 #[sR_ ax, sR_ r] []))) (fun t kt => ?_) ?_
  · skip
    refine XS.icmpYes X_3.here hx rfl (pc0 := 14) (pc' := 21) rfl (hb hby d_rm_if00_14) rfl (XT.ii_eq_t (by decide)) (by decide) (by decide) ?_
    exact kt
  refine Goes.retV X_3 hx hlk hret (hb hby d_rm_if00_21) (by decide) (by decide) ?_
  try rw [K_3]
  exact ⟨rfl, N_3, rfl⟩
theorem d_rm_if11_0 : decode jdk_68_method_71_code 0 = .ok (.getstatic 18, 3) := by decide +kernel
theorem d_rm_if11_3 : decode jdk_68_method_71_code 3 = .ok (.ifCond .eq 18, 3) := by decide +kernel
theorem d_rm_if11_6 : decode jdk_68_method_71_code 6 = .ok (.aload_n 0, 1) := by decide +kernel
theorem d_rm_if11_7 : decode jdk_68_method_71_code 7 = .ok (.getfield 22, 3) := by decide +kernel
theorem d_rm_if11_10 : decode jdk_68_method_71_code 10 = .ok (.aload_n 1, 1) := by decide +kernel
theorem d_rm_if11_11 : decode jdk_68_method_71_code 11 = .ok (.invokevirtual 40, 3) := by decide +kernel
theorem d_rm_if11_14 : decode jdk_68_method_71_code 14 = .ok (.if_icmp .eq 7, 3) := by decide +kernel
theorem d_rm_if11_21 : decode jdk_68_method_71_code 21 = .ok (.return_, 1) := by decide +kernel
set_option maxHeartbeats 4000000 in
theorem ef_rm_if11 (m : MethodId) (x0 : Addr) (x1 : Addr)  : entryFrame m #[(.ref x0), (.ref x1)] 2 = mkF m 0 #[.val (.ref x0), .val (.ref x1)] [] := by first | (simp [entryFrame, mkF, argsToLocals, catR, catN, catI, catJ]; done) | rfl
set_option maxRecDepth 65536 in
set_option maxHeartbeats 40000000 in
theorem rm_if11 (l : Launch) (Z : State) (a0 : Array Value) (hw : ∀ d ∈ tables_1, d.before a0 Z = true) (ws : List Jvm.Cond) (kc : Int32) (sx : Value) (ax r : Addr) (h0 : Heap) (n0 : Nat) (Z0 : n0 ≤ h0.size) (G : Stt Z kc sx) (O : Old Z n0 h0) (Ea : Exa Z h0 ax "java/lang/StringBuilder") (Fa : Fld Z h0 ax "java/lang/AbstractStringBuilder" "coder" "B" (.int (1 : Int32))) (Er : Exa Z h0 r "java/lang/String") (Fr_ : Fld Z h0 r "java/lang/String" "coder" "B" (.int (1 : Int32)))  :
    Pays l Z (⟨"java/lang/AbstractStringBuilder", "inflateIfNeededFor", "(Ljava/lang/String;)V"⟩ : MethodName) jdk_68_method_71_code 2 none ws ({ frames := 1, cells := 0, slots := 0, locals := 13 } : Room) #[(.ref ax), (.ref r)] h0 (fun v h L => v = none ∧ Fr n0 L ∧ h = h0) := by
  refine Pays.of (plainFor_of_name (by first | (simp [plainName, overriddenIn]; done) | decide +kernel)) ?_
  intro p e s m below meth c s₁ hx hby hml hown hnm hret hlk hZ e0 X0
  have N0 := Fr.nil n0
  have K0 : Keep h0 h0 [] := Keep.refl _ _
  refine Goes.go (U' := (s₁.setTop (mkF m 0 #[sR_ ax, sR_ r] []))) (fun t kt => castTop (ef_rm_if11 m ax r) kt) ?_
  obtain ⟨T_1, X_1, e_1, st_1⟩ := getS X0 hx hZ hown (host := "") (wdOf hw 22 rfl) Via.refl e0 (G.1.ext O.2) (g := (mkF m 0 #[sR_ ax, sR_ r] [])) rfl (hb hby d_rm_if11_0)
  refine Goes.go (U' := (T_1.setTop (mkF m 3 #[sR_ ax, sR_ r] [(.int kc)]))) st_1 ?_
  refine Goes.go (U' := (T_1.setTop (mkF m 7 #[sR_ ax, sR_ r] [(.ref ax)]))) (fun t kt => ?_) ?_
  · skip
    refine XS.ifNo X_1.here hx rfl (hb hby d_rm_if11_3) rfl (XT.i0_eq_f G.2.1) ?_
    refine XS.aloadN X_1.here hx rfl (hb hby d_rm_if11_6) rfl rfl ?_
    exact kt
  obtain ⟨T_2, X_2, e_2, st_2⟩ := getF X_1 hx hZ hown (host := "") (Or.inl (wdOf hw 27 rfl)) Via.refl e_1 Fa (g := (mkF m 7 #[sR_ ax, sR_ r] [(.ref ax)])) rfl rfl (hb hby d_rm_if11_7)
  refine Goes.go (U' := (T_2.setTop (mkF m 10 #[sR_ ax, sR_ r] [(.int (1 : Int32))]))) st_2 ?_
  refine Goes.go (U' := (T_2.setTop (mkF m 11 #[sR_ ax, sR_ r] [(.ref r), (.int (1 : Int32))]))) (fun t kt => ?_) ?_
  · skip
    refine XS.aloadN X_2.here hx rfl (hb hby d_rm_if11_10) rfl rfl ?_
    exact kt
  obtain ⟨v_3, T_3, L_3, X_3, q_3, st_3⟩ := callVirtual X_2 hx hZ (y := (⟨"java/lang/String", "coder", "()B"⟩ : MethodName)) (z := (⟨"java/lang/String", "coder", "()B"⟩ : MethodName)) (W := 1) hown (wdOf hw 95 rfl) (wdOf hw 74 rfl) (notFace_of_selects (args := #[]) (mvT hZ (wdOf hw 76 rfl))) (wdOf hw 76 rfl) (wdOf hw 75 rfl) (wdOf hw 23 rfl) (wdOf hw 77 rfl) (by decide) (rm_co1 l Z a0 hw [] kc sx r h0 n0 Z0 G O Fr_) (by decide) (by decide) (by decide) (by decide) e_2 Er (g := (mkF m 11 #[sR_ ax, sR_ r] [(.ref r), (.int (1 : Int32))])) rfl (by rw [hml]; rfl) (argsL := []) (rest := [(.int (1 : Int32))]) (lenOf pd_14 rfl) rfl rfl (Nat.le_refl _) (hb hby d_rm_if11_11)
  obtain ⟨rfl, n_3, K_3⟩ := q_3
  have N_3 := Fr.app N0 n_3
  refine Goes.go (U' := (T_3.setTop (mkF m 14 #[sR_ ax, sR_ r] [(.int (1 : Int32)), (.int (1 : Int32))]))) st_3 ?_
  refine Goes.go (U' := (T_3.setTop (mkF m 21 #[sR_ ax, sR_ r] []))) (fun t kt => ?_) ?_
  · skip
    refine XS.icmpYes X_3.here hx rfl (pc0 := 14) (pc' := 21) rfl (hb hby d_rm_if11_14) rfl (XT.ii_eq_t (by decide)) (by decide) (by decide) ?_
    exact kt
  refine Goes.retV X_3 hx hlk hret (hb hby d_rm_if11_21) (by decide) (by decide) ?_
  try rw [K_3]
  exact ⟨rfl, N_3, rfl⟩
theorem d_rm_if10_0 : decode jdk_68_method_71_code 0 = .ok (.getstatic 18, 3) := by decide +kernel
theorem d_rm_if10_3 : decode jdk_68_method_71_code 3 = .ok (.ifCond .eq 18, 3) := by decide +kernel
theorem d_rm_if10_6 : decode jdk_68_method_71_code 6 = .ok (.aload_n 0, 1) := by decide +kernel
theorem d_rm_if10_7 : decode jdk_68_method_71_code 7 = .ok (.getfield 22, 3) := by decide +kernel
theorem d_rm_if10_10 : decode jdk_68_method_71_code 10 = .ok (.aload_n 1, 1) := by decide +kernel
theorem d_rm_if10_11 : decode jdk_68_method_71_code 11 = .ok (.invokevirtual 40, 3) := by decide +kernel
theorem d_rm_if10_14 : decode jdk_68_method_71_code 14 = .ok (.if_icmp .eq 7, 3) := by decide +kernel
theorem d_rm_if10_17 : decode jdk_68_method_71_code 17 = .ok (.aload_n 0, 1) := by decide +kernel
theorem d_rm_if10_18 : decode jdk_68_method_71_code 18 = .ok (.invokevirtual 195, 3) := by decide +kernel
theorem d_rm_if10_21 : decode jdk_68_method_71_code 21 = .ok (.return_, 1) := by decide +kernel
set_option maxHeartbeats 4000000 in
theorem ef_rm_if10 (m : MethodId) (x0 : Addr) (x1 : Addr)  : entryFrame m #[(.ref x0), (.ref x1)] 2 = mkF m 0 #[.val (.ref x0), .val (.ref x1)] [] := by first | (simp [entryFrame, mkF, argsToLocals, catR, catN, catI, catJ]; done) | rfl
set_option maxRecDepth 65536 in
set_option maxHeartbeats 40000000 in
theorem rm_if10 (l : Launch) (Z : State) (a0 : Array Value) (hw : ∀ d ∈ tables_1, d.before a0 Z = true) (ws : List Jvm.Cond) (kc : Int32) (sx : Value) (ax r : Addr) (h0 : Heap) (n0 : Nat) (Z0 : n0 ≤ h0.size) (G : Stt Z kc sx) (O : Old Z n0 h0) (Ea : Exa Z h0 ax "java/lang/StringBuilder") (Fa : Fld Z h0 ax "java/lang/AbstractStringBuilder" "coder" "B" (.int (1 : Int32))) (Er : Exa Z h0 r "java/lang/String") (Fr_ : Fld Z h0 r "java/lang/String" "coder" "B" (.int (0 : Int32)))  :
    Pays l Z (⟨"java/lang/AbstractStringBuilder", "inflateIfNeededFor", "(Ljava/lang/String;)V"⟩ : MethodName) jdk_68_method_71_code 2 none ws ({ frames := 2, cells := 0, slots := 0, locals := 25 } : Room) #[(.ref ax), (.ref r)] h0 (fun v h L => v = none ∧ Fr n0 L ∧ h = h0) := by
  refine Pays.of (plainFor_of_name (by first | (simp [plainName, overriddenIn]; done) | decide +kernel)) ?_
  intro p e s m below meth c s₁ hx hby hml hown hnm hret hlk hZ e0 X0
  have N0 := Fr.nil n0
  have K0 : Keep h0 h0 [] := Keep.refl _ _
  refine Goes.go (U' := (s₁.setTop (mkF m 0 #[sR_ ax, sR_ r] []))) (fun t kt => castTop (ef_rm_if10 m ax r) kt) ?_
  obtain ⟨T_1, X_1, e_1, st_1⟩ := getS X0 hx hZ hown (host := "") (wdOf hw 22 rfl) Via.refl e0 (G.1.ext O.2) (g := (mkF m 0 #[sR_ ax, sR_ r] [])) rfl (hb hby d_rm_if10_0)
  refine Goes.go (U' := (T_1.setTop (mkF m 3 #[sR_ ax, sR_ r] [(.int kc)]))) st_1 ?_
  refine Goes.go (U' := (T_1.setTop (mkF m 7 #[sR_ ax, sR_ r] [(.ref ax)]))) (fun t kt => ?_) ?_
  · skip
    refine XS.ifNo X_1.here hx rfl (hb hby d_rm_if10_3) rfl (XT.i0_eq_f G.2.1) ?_
    refine XS.aloadN X_1.here hx rfl (hb hby d_rm_if10_6) rfl rfl ?_
    exact kt
  obtain ⟨T_2, X_2, e_2, st_2⟩ := getF X_1 hx hZ hown (host := "") (Or.inl (wdOf hw 27 rfl)) Via.refl e_1 Fa (g := (mkF m 7 #[sR_ ax, sR_ r] [(.ref ax)])) rfl rfl (hb hby d_rm_if10_7)
  refine Goes.go (U' := (T_2.setTop (mkF m 10 #[sR_ ax, sR_ r] [(.int (1 : Int32))]))) st_2 ?_
  refine Goes.go (U' := (T_2.setTop (mkF m 11 #[sR_ ax, sR_ r] [(.ref r), (.int (1 : Int32))]))) (fun t kt => ?_) ?_
  · skip
    refine XS.aloadN X_2.here hx rfl (hb hby d_rm_if10_10) rfl rfl ?_
    exact kt
  obtain ⟨v_3, T_3, L_3, X_3, q_3, st_3⟩ := callVirtual X_2 hx hZ (y := (⟨"java/lang/String", "coder", "()B"⟩ : MethodName)) (z := (⟨"java/lang/String", "coder", "()B"⟩ : MethodName)) (W := 1) hown (wdOf hw 95 rfl) (wdOf hw 74 rfl) (notFace_of_selects (args := #[]) (mvT hZ (wdOf hw 76 rfl))) (wdOf hw 76 rfl) (wdOf hw 75 rfl) (wdOf hw 23 rfl) (wdOf hw 77 rfl) (by decide) (rm_co0 l Z a0 hw [] kc sx r h0 n0 Z0 G O Fr_) (by decide) (by decide) (by decide) (by decide) e_2 Er (g := (mkF m 11 #[sR_ ax, sR_ r] [(.ref r), (.int (1 : Int32))])) rfl (by rw [hml]; rfl) (argsL := []) (rest := [(.int (1 : Int32))]) (lenOf pd_14 rfl) rfl rfl (Nat.le_refl _) (hb hby d_rm_if10_11)
  obtain ⟨rfl, n_3, K_3⟩ := q_3
  have N_3 := Fr.app N0 n_3
  refine Goes.go (U' := (T_3.setTop (mkF m 14 #[sR_ ax, sR_ r] [(.int (0 : Int32)), (.int (1 : Int32))]))) st_3 ?_
  refine Goes.go (U' := (T_3.setTop (mkF m 18 #[sR_ ax, sR_ r] [(.ref ax)]))) (fun t kt => ?_) ?_
  · skip
    refine XS.icmpNo X_3.here hx rfl (hb hby d_rm_if10_14) rfl (XT.ii_eq_f (by decide)) ?_
    refine XS.aloadN X_3.here hx rfl (hb hby d_rm_if10_17) rfl rfl ?_
    exact kt
  obtain ⟨v_4, T_4, L_4, X_4, q_4, st_4⟩ := callPrivSel X_3 hx hZ (y := (⟨"java/lang/AbstractStringBuilder", "inflate", "()V"⟩ : MethodName)) (W := 0) hown (wdOf hw 212 rfl) (wdOf hw 213 rfl) (wdOf hw 214 rfl) (wdOf hw 215 rfl) (wdOf hw 19 rfl) (wdOf hw 216 rfl) (by decide) (rm_inn l Z a0 hw [] kc sx ax h0 n0 Z0 G O Ea Fa) (by decide) (by decide) (by decide) (by decide) K_3 Ea (g := (mkF m 18 #[sR_ ax, sR_ r] [(.ref ax)])) rfl (by rw [hml]; rfl) (argsL := []) (rest := []) (lenOf pd_20 rfl) rfl rfl (Nat.le_refl _) (hb hby d_rm_if10_18)
  obtain ⟨rfl, n_4, K_4⟩ := q_4
  have N_4 := Fr.app N_3 n_4
  refine Goes.go (U' := (T_4.setTop (mkF m 21 #[sR_ ax, sR_ r] []))) st_4 ?_
  refine Goes.retV X_4 hx hlk hret (hb hby d_rm_if10_21) (by decide) (by decide) ?_
  try rw [K_4]
  exact ⟨rfl, N_4, rfl⟩
theorem d_rm_if01_0 : decode jdk_68_method_71_code 0 = .ok (.getstatic 18, 3) := by decide +kernel
theorem d_rm_if01_3 : decode jdk_68_method_71_code 3 = .ok (.ifCond .eq 18, 3) := by decide +kernel
theorem d_rm_if01_6 : decode jdk_68_method_71_code 6 = .ok (.aload_n 0, 1) := by decide +kernel
theorem d_rm_if01_7 : decode jdk_68_method_71_code 7 = .ok (.getfield 22, 3) := by decide +kernel
theorem d_rm_if01_10 : decode jdk_68_method_71_code 10 = .ok (.aload_n 1, 1) := by decide +kernel
theorem d_rm_if01_11 : decode jdk_68_method_71_code 11 = .ok (.invokevirtual 40, 3) := by decide +kernel
theorem d_rm_if01_14 : decode jdk_68_method_71_code 14 = .ok (.if_icmp .eq 7, 3) := by decide +kernel
theorem d_rm_if01_17 : decode jdk_68_method_71_code 17 = .ok (.aload_n 0, 1) := by decide +kernel
theorem d_rm_if01_18 : decode jdk_68_method_71_code 18 = .ok (.invokevirtual 195, 3) := by decide +kernel
theorem d_rm_if01_21 : decode jdk_68_method_71_code 21 = .ok (.return_, 1) := by decide +kernel
set_option maxHeartbeats 4000000 in
theorem ef_rm_if01 (m : MethodId) (x0 : Addr) (x1 : Addr)  : entryFrame m #[(.ref x0), (.ref x1)] 2 = mkF m 0 #[.val (.ref x0), .val (.ref x1)] [] := by first | (simp [entryFrame, mkF, argsToLocals, catR, catN, catI, catJ]; done) | rfl
set_option maxRecDepth 65536 in
set_option maxHeartbeats 40000000 in
theorem rm_if01 (l : Launch) (Z : State) (a0 : Array Value) (hw : ∀ d ∈ tables_1, d.before a0 Z = true) (ws : List Jvm.Cond) (kc : Int32) (sx : Value) (ax ba r : Addr) (kb : ClassId) (pn : Int32) (cs : List Int32) (h0 : Heap) (n0 : Nat) (Z0 : n0 ≤ h0.size) (G : Stt Z kc sx) (O : Old Z n0 h0) (E1 : Exa Z h0 ax "java/lang/StringBuilder") (F1_value : Fld Z h0 ax "java/lang/AbstractStringBuilder" "value" "[B" (.ref ba)) (F1_coder : Fld Z h0 ax "java/lang/AbstractStringBuilder" "coder" "B" (.int (0 : Int32))) (F1_count : Fld Z h0 ax "java/lang/AbstractStringBuilder" "count" "I" (.int pn)) (F1_maybeLatin1 : Fld Z h0 ax "java/lang/AbstractStringBuilder" "maybeLatin1" "Z" (.int (0 : Int32))) (V1 : Arv Z h0 ba kb .byte (16 : Int32) (L1 cs) (.int (0 : Int32))) (Er : Exa Z h0 r "java/lang/String") (Fr_ : Fld Z h0 r "java/lang/String" "coder" "B" (.int (1 : Int32))) (o0 : n0 ≤ ax) (hp : Sz pn cs.length) (hle : cs.length ≤ 3) (hlc : ∀ c ∈ cs, Lc c) :
    Pays l Z (⟨"java/lang/AbstractStringBuilder", "inflateIfNeededFor", "(Ljava/lang/String;)V"⟩ : MethodName) jdk_68_method_71_code 2 none ws ({ frames := 6, cells := 1, slots := 32, locals := 89 } : Room) #[(.ref ax), (.ref r)] h0 (fun v h L => ∃ b k, v = none ∧ Fr n0 L ∧ Keep h0 h [ax] ∧ h0.size ≤ b ∧ Exa Z h ax "java/lang/StringBuilder" ∧ Fld Z h ax "java/lang/AbstractStringBuilder" "value" "[B" (.ref b) ∧ Fld Z h ax "java/lang/AbstractStringBuilder" "coder" "B" (.int (1 : Int32)) ∧ Fld Z h ax "java/lang/AbstractStringBuilder" "count" "I" (.int pn) ∧ Fld Z h ax "java/lang/AbstractStringBuilder" "maybeLatin1" "Z" (.int (0 : Int32)) ∧ Arv Z h b k .byte (32 : Int32) (U2 cs) (.int (0 : Int32))) := by
  refine Pays.of (plainFor_of_name (by first | (simp [plainName, overriddenIn]; done) | decide +kernel)) ?_
  intro p e s m below meth c s₁ hx hby hml hown hnm hret hlk hZ e0 X0
  have N0 := Fr.nil n0
  have K0 : Keep h0 h0 [ax] := Keep.refl _ _
  refine Goes.go (U' := (s₁.setTop (mkF m 0 #[sR_ ax, sR_ r] []))) (fun t kt => castTop (ef_rm_if01 m ax r) kt) ?_
  obtain ⟨T_1, X_1, e_1, st_1⟩ := getS X0 hx hZ hown (host := "") (wdOf hw 22 rfl) Via.refl e0 (G.1.ext O.2) (g := (mkF m 0 #[sR_ ax, sR_ r] [])) rfl (hb hby d_rm_if01_0)
  refine Goes.go (U' := (T_1.setTop (mkF m 3 #[sR_ ax, sR_ r] [(.int kc)]))) st_1 ?_
  refine Goes.go (U' := (T_1.setTop (mkF m 7 #[sR_ ax, sR_ r] [(.ref ax)]))) (fun t kt => ?_) ?_
  · skip
    refine XS.ifNo X_1.here hx rfl (hb hby d_rm_if01_3) rfl (XT.i0_eq_f G.2.1) ?_
    refine XS.aloadN X_1.here hx rfl (hb hby d_rm_if01_6) rfl rfl ?_
    exact kt
  obtain ⟨T_2, X_2, e_2, st_2⟩ := getF X_1 hx hZ hown (host := "") (Or.inl (wdOf hw 27 rfl)) Via.refl e_1 F1_coder (g := (mkF m 7 #[sR_ ax, sR_ r] [(.ref ax)])) rfl rfl (hb hby d_rm_if01_7)
  refine Goes.go (U' := (T_2.setTop (mkF m 10 #[sR_ ax, sR_ r] [(.int (0 : Int32))]))) st_2 ?_
  refine Goes.go (U' := (T_2.setTop (mkF m 11 #[sR_ ax, sR_ r] [(.ref r), (.int (0 : Int32))]))) (fun t kt => ?_) ?_
  · skip
    refine XS.aloadN X_2.here hx rfl (hb hby d_rm_if01_10) rfl rfl ?_
    exact kt
  obtain ⟨v_3, T_3, L_3, X_3, q_3, st_3⟩ := callVirtual X_2 hx hZ (y := (⟨"java/lang/String", "coder", "()B"⟩ : MethodName)) (z := (⟨"java/lang/String", "coder", "()B"⟩ : MethodName)) (W := 1) hown (wdOf hw 95 rfl) (wdOf hw 74 rfl) (notFace_of_selects (args := #[]) (mvT hZ (wdOf hw 76 rfl))) (wdOf hw 76 rfl) (wdOf hw 75 rfl) (wdOf hw 23 rfl) (wdOf hw 77 rfl) (by decide) (rm_co1 l Z a0 hw [] kc sx r h0 n0 Z0 G O Fr_) (by decide) (by decide) (by decide) (by decide) e_2 Er (g := (mkF m 11 #[sR_ ax, sR_ r] [(.ref r), (.int (0 : Int32))])) rfl (by rw [hml]; rfl) (argsL := []) (rest := [(.int (0 : Int32))]) (lenOf pd_14 rfl) rfl rfl (Nat.le_refl _) (hb hby d_rm_if01_11)
  obtain ⟨rfl, n_3, K_3⟩ := q_3
  have N_3 := Fr.app N0 n_3
  refine Goes.go (U' := (T_3.setTop (mkF m 14 #[sR_ ax, sR_ r] [(.int (1 : Int32)), (.int (0 : Int32))]))) st_3 ?_
  refine Goes.go (U' := (T_3.setTop (mkF m 18 #[sR_ ax, sR_ r] [(.ref ax)]))) (fun t kt => ?_) ?_
  · skip
    refine XS.icmpNo X_3.here hx rfl (hb hby d_rm_if01_14) rfl (XT.ii_eq_f (by decide)) ?_
    refine XS.aloadN X_3.here hx rfl (hb hby d_rm_if01_17) rfl rfl ?_
    exact kt
  obtain ⟨v_4, T_4, L_4, X_4, q_4, st_4⟩ := callPrivSel X_3 hx hZ (y := (⟨"java/lang/AbstractStringBuilder", "inflate", "()V"⟩ : MethodName)) (W := 0) hown (wdOf hw 212 rfl) (wdOf hw 213 rfl) (wdOf hw 214 rfl) (wdOf hw 215 rfl) (wdOf hw 19 rfl) (wdOf hw 216 rfl) (by decide) (rm_inr l Z a0 hw [] kc sx ax ba kb pn cs h0 n0 Z0 G O E1 F1_value F1_coder F1_count F1_maybeLatin1 V1 o0 hp hle hlc) (by decide) (by decide) (by decide) (by decide) K_3 E1 (g := (mkF m 18 #[sR_ ax, sR_ r] [(.ref ax)])) rfl (by rw [hml]; rfl) (argsL := []) (rest := []) (lenOf pd_20 rfl) rfl rfl (Nat.le_refl _) (hb hby d_rm_if01_18)
  obtain ⟨b_4, k_4, rfl, n_4, K_4, z_4, EQ_4, FQ_4_value, FQ_4_coder, FQ_4_count, FQ_4_maybeLatin1, VQ_4⟩ := q_4
  have ne_5 : ax ≠ b_4 := Nat.ne_of_lt (Nat.lt_of_lt_of_le E1.lt z_4)
  have ne_6 : ba ≠ b_4 := Nat.ne_of_lt (Nat.lt_of_lt_of_le V1.lt z_4)
  have ne_7 : r ≠ b_4 := Nat.ne_of_lt (Nat.lt_of_lt_of_le Er.lt z_4)
  have o_8 : n0 ≤ b_4 := Nat.le_trans Z0 z_4
  have z_9 : h0.size ≤ b_4 := Nat.le_trans K0.1 z_4
  have N_4 := Fr.app N_3 n_4
  have f_10 : Old Z n0 T_4.heap := O.keep K_4 (allS o0 all0)
  have f_11 : Exa Z T_4.heap ax "java/lang/StringBuilder" := E1.keep K_4
  have f_12 : Arv Z T_4.heap ba kb .byte (16 : Int32) (L1 cs) (.int (0 : Int32)) := V1.keep K_4 (ninS (Ne.symm (E1.neArv V1 (wdOf hw 10 rfl))) nin0)
  have f_13 : Exa Z T_4.heap r "java/lang/String" := Er.keep K_4
  have f_14 : Fld Z T_4.heap r "java/lang/String" "coder" "B" (.int (1 : Int32)) := Fr_.keep K_4 (ninS (ne_exa Er E1 (by decide)) nin0)
  have K_15 : Keep h0 T_4.heap [ax] := K0.trans K_4 (allS (P := fun x => x ∈ [ax] ∨ h0.size ≤ x) (Or.inl (List.mem_of_getElem? (i := 0) rfl)) all0)
  have y_15 : n0 ≤ T_4.heap.size := Nat.le_trans Z0 K_15.1
  refine Goes.go (U' := (T_4.setTop (mkF m 21 #[sR_ ax, sR_ r] []))) st_4 ?_
  refine Goes.retV X_4 hx hlk hret (hb hby d_rm_if01_21) (by decide) (by decide) ?_
  try rw [(rfl : T_4.heap = T_4.heap)]
  exact ⟨_, _, rfl, N_4, K_15, z_9, f_11, FQ_4_value, FQ_4_coder, FQ_4_count, FQ_4_maybeLatin1, VQ_4⟩
theorem d_rm_nl_0 : decode jdk_48_method_27_code 0 = .ok (.iload_n 0, 1) := by decide +kernel
theorem d_rm_nl_1 : decode jdk_48_method_27_code 1 = .ok (.iload_n 1, 1) := by decide +kernel
theorem d_rm_nl_2 : decode jdk_48_method_27_code 2 = .ok (.iload_n 2, 1) := by decide +kernel
theorem d_rm_nl_3 : decode jdk_48_method_27_code 3 = .ok (.invokestatic 194, 3) := by decide +kernel
theorem d_rm_nl_6 : decode jdk_48_method_27_code 6 = .ok (.iadd, 1) := by decide +kernel
theorem d_rm_nl_7 : decode jdk_48_method_27_code 7 = .ok (.istore_n 3, 1) := by decide +kernel
theorem d_rm_nl_8 : decode jdk_48_method_27_code 8 = .ok (.iconst 0, 1) := by decide +kernel
theorem d_rm_nl_9 : decode jdk_48_method_27_code 9 = .ok (.iload_n 3, 1) := by decide +kernel
theorem d_rm_nl_10 : decode jdk_48_method_27_code 10 = .ok (.if_icmp .ge 11, 3) := by decide +kernel
theorem d_rm_nl_13 : decode jdk_48_method_27_code 13 = .ok (.iload_n 3, 1) := by decide +kernel
theorem d_rm_nl_14 : decode jdk_48_method_27_code 14 = .ok (.ldc 200, 2) := by decide +kernel
theorem d_rm_nl_16 : decode jdk_48_method_27_code 16 = .ok (.if_icmp .gt 5, 3) := by decide +kernel
theorem d_rm_nl_19 : decode jdk_48_method_27_code 19 = .ok (.iload_n 3, 1) := by decide +kernel
theorem d_rm_nl_20 : decode jdk_48_method_27_code 20 = .ok (.ireturn, 1) := by decide +kernel
set_option maxHeartbeats 4000000 in
theorem ef_rm_nl (m : MethodId) (x0 : Int32) (x1 : Int32) (x2 : Int32)  : entryFrame m #[(.int x0), (.int x1), (.int x2)] 4 = mkF m 0 #[.val (.int x0), .val (.int x1), .val (.int x2), .unset] [] := by first | (simp [entryFrame, mkF, argsToLocals, catR, catN, catI, catJ]; done) | rfl
set_option maxRecDepth 65536 in
set_option maxHeartbeats 40000000 in
theorem rm_nl (l : Launch) (Z : State) (a0 : Array Value) (hw : ∀ d ∈ tables_1, d.before a0 Z = true) (ws : List Jvm.Cond) (kc : Int32) (sx : Value) (xa xb xc : Int32) (h0 : Heap) (n0 : Nat) (Z0 : n0 ≤ h0.size) (G : Stt Z kc sx) (O : Old Z n0 h0)  (hm : xb < xc) (h1 : (0 : Int32) < (xa + xc)) (h2 : ¬ (2147483639 : Int32) < (xa + xc)) :
    Pays l Z (⟨"jdk/internal/util/ArraysSupport", "newLength", "(III)I"⟩ : MethodName) jdk_48_method_27_code 4 (some .int) ws ({ frames := 1, cells := 0, slots := 0, locals := 14 } : Room) #[(.int xa), (.int xb), (.int xc)] h0 (fun v h L => v = some (.int (xa + xc)) ∧ Fr n0 L ∧ h = h0) := by
  refine Pays.of (plainFor_of_name (by first | (simp [plainName, overriddenIn]; done) | decide +kernel)) ?_
  intro p e s m below meth c s₁ hx hby hml hown hnm hret hlk hZ e0 X0
  have N0 := Fr.nil n0
  have K0 : Keep h0 h0 [] := Keep.refl _ _
  refine Goes.go (U' := (s₁.setTop (mkF m 0 #[sI_ xa, sI_ xb, sI_ xc, sU_] []))) (fun t kt => castTop (ef_rm_nl m xa xb xc) kt) ?_
  refine Goes.go (U' := (s₁.setTop (mkF m 3 #[sI_ xa, sI_ xb, sI_ xc, sU_] [(.int xc), (.int xb), (.int xa)]))) (fun t kt => ?_) ?_
  · skip
    refine XS.iloadN X0.here hx rfl (hb hby d_rm_nl_0) rfl ?_
    refine XS.iloadN X0.here hx rfl (hb hby d_rm_nl_1) rfl ?_
    refine XS.iloadN X0.here hx rfl (hb hby d_rm_nl_2) rfl ?_
    exact kt
  obtain ⟨v_1, T_1, L_1, X_1, q_1, st_1⟩ := callStatic X0 hx hZ (y := (⟨"java/lang/Math", "max", "(II)I"⟩ : MethodName)) (W := 1) hown (wdOf hw 122 rfl) (wdOf hw 123 rfl) (wdOf hw 124 rfl) (wdOf hw 125 rfl) (by decide) (rm_max l Z a0 hw [] kc sx xb xc h0 n0 Z0 G O hm) (by decide) (by decide) (by decide) (by decide) e0 (g := (mkF m 3 #[sI_ xa, sI_ xb, sI_ xc, sU_] [(.int xc), (.int xb), (.int xa)])) rfl (by rw [hml]; rfl) (argsL := [(.int xb), (.int xc)]) (rest := [(.int xa)]) (lenOf pd_7 rfl) rfl rfl (Nat.le_refl _) (hb hby d_rm_nl_3)
  obtain ⟨rfl, n_1, K_1⟩ := q_1
  have N_1 := Fr.app N0 n_1
  refine Goes.go (U' := (T_1.setTop (mkF m 6 #[sI_ xa, sI_ xb, sI_ xc, sU_] [(.int xc), (.int xa)]))) st_1 ?_
  refine Goes.go (U' := (T_1.setTop (mkF m 20 #[sI_ xa, sI_ xb, sI_ xc, sI_ (xa + xc)] [(.int (xa + xc))]))) (fun t kt => ?_) ?_
  · skip
    refine XS.iadd X_1.here hx rfl (hb hby d_rm_nl_6) rfl ?_
    refine XS.istoreN X_1.here hx rfl (hb hby d_rm_nl_7) rfl (l' := #[sI_ xa, sI_ xb, sI_ xc, sI_ (xa + xc)]) rfl ?_
    refine XS.iconst X_1.here hx rfl (hb hby d_rm_nl_8) ?_
    refine XS.iloadN X_1.here hx rfl (hb hby d_rm_nl_9) rfl ?_
    refine XS.icmpNo X_1.here hx rfl (hb hby d_rm_nl_10) rfl (XT.ii_ge_f h1) ?_
    refine XS.iloadN X_1.here hx rfl (hb hby d_rm_nl_13) rfl ?_
    refine Jvm.Stand.ldcI X_1 hx hown (mvT hZ (wdOf hw 126 rfl)) rfl (hb hby d_rm_nl_14) ?_
    refine XS.icmpNo X_1.here hx rfl (hb hby d_rm_nl_16) rfl (XT.ii_gt_f h2) ?_
    show Steps p.tables e below (T_1.setTop (mkF m 19 #[sI_ xa, sI_ xb, sI_ xc, sI_ (xa + xc)] [])) t
    refine XS.iloadN X_1.here hx rfl (hb hby d_rm_nl_19) rfl ?_
    exact kt
  refine Goes.retI X_1 hx hlk hret (hb hby d_rm_nl_20) (by decide) (by decide) ?_
  try rw [K_1]
  exact ⟨rfl, N_1, rfl⟩
theorem d_rm_nc0_0 : decode jdk_68_method_10_code 0 = .ok (.aload_n 0, 1) := by decide +kernel
theorem d_rm_nc0_1 : decode jdk_68_method_10_code 1 = .ok (.getfield 15, 3) := by decide +kernel
theorem d_rm_nc0_4 : decode jdk_68_method_10_code 4 = .ok (.arraylength, 1) := by decide +kernel
theorem d_rm_nc0_5 : decode jdk_68_method_10_code 5 = .ok (.istore_n 2, 1) := by decide +kernel
theorem d_rm_nc0_6 : decode jdk_68_method_10_code 6 = .ok (.iload_n 1, 1) := by decide +kernel
theorem d_rm_nc0_7 : decode jdk_68_method_10_code 7 = .ok (.aload_n 0, 1) := by decide +kernel
theorem d_rm_nc0_8 : decode jdk_68_method_10_code 8 = .ok (.getfield 22, 3) := by decide +kernel
theorem d_rm_nc0_11 : decode jdk_68_method_10_code 11 = .ok (.ishl, 1) := by decide +kernel
theorem d_rm_nc0_12 : decode jdk_68_method_10_code 12 = .ok (.istore_n 3, 1) := by decide +kernel
theorem d_rm_nc0_13 : decode jdk_68_method_10_code 13 = .ok (.iload_n 3, 1) := by decide +kernel
theorem d_rm_nc0_14 : decode jdk_68_method_10_code 14 = .ok (.iload_n 2, 1) := by decide +kernel
theorem d_rm_nc0_15 : decode jdk_68_method_10_code 15 = .ok (.isub, 1) := by decide +kernel
theorem d_rm_nc0_16 : decode jdk_68_method_10_code 16 = .ok (.istore 4, 2) := by decide +kernel
theorem d_rm_nc0_18 : decode jdk_68_method_10_code 18 = .ok (.iload_n 2, 1) := by decide +kernel
theorem d_rm_nc0_19 : decode jdk_68_method_10_code 19 = .ok (.iload 4, 2) := by decide +kernel
theorem d_rm_nc0_21 : decode jdk_68_method_10_code 21 = .ok (.iload_n 2, 1) := by decide +kernel
theorem d_rm_nc0_22 : decode jdk_68_method_10_code 22 = .ok (.iconst 2, 1) := by decide +kernel
theorem d_rm_nc0_23 : decode jdk_68_method_10_code 23 = .ok (.aload_n 0, 1) := by decide +kernel
theorem d_rm_nc0_24 : decode jdk_68_method_10_code 24 = .ok (.getfield 22, 3) := by decide +kernel
theorem d_rm_nc0_27 : decode jdk_68_method_10_code 27 = .ok (.ishl, 1) := by decide +kernel
theorem d_rm_nc0_28 : decode jdk_68_method_10_code 28 = .ok (.iadd, 1) := by decide +kernel
theorem d_rm_nc0_29 : decode jdk_68_method_10_code 29 = .ok (.invokestatic 114, 3) := by decide +kernel
theorem d_rm_nc0_32 : decode jdk_68_method_10_code 32 = .ok (.istore 5, 2) := by decide +kernel
theorem d_rm_nc0_34 : decode jdk_68_method_10_code 34 = .ok (.iload 5, 2) := by decide +kernel
theorem d_rm_nc0_36 : decode jdk_68_method_10_code 36 = .ok (.ldc 39, 2) := by decide +kernel
theorem d_rm_nc0_38 : decode jdk_68_method_10_code 38 = .ok (.if_icmp .ne 13, 3) := by decide +kernel
theorem d_rm_nc0_51 : decode jdk_68_method_10_code 51 = .ok (.iload 5, 2) := by decide +kernel
theorem d_rm_nc0_53 : decode jdk_68_method_10_code 53 = .ok (.aload_n 0, 1) := by decide +kernel
theorem d_rm_nc0_54 : decode jdk_68_method_10_code 54 = .ok (.getfield 22, 3) := by decide +kernel
theorem d_rm_nc0_57 : decode jdk_68_method_10_code 57 = .ok (.ishr, 1) := by decide +kernel
theorem d_rm_nc0_58 : decode jdk_68_method_10_code 58 = .ok (.ireturn, 1) := by decide +kernel
set_option maxHeartbeats 4000000 in
theorem ef_rm_nc0 (m : MethodId) (x0 : Addr) (x1 : Int32)  : entryFrame m #[(.ref x0), (.int x1)] 6 = mkF m 0 #[.val (.ref x0), .val (.int x1), .unset, .unset, .unset, .unset] [] := by first | (simp [entryFrame, mkF, argsToLocals, catR, catN, catI, catJ]; done) | rfl
set_option maxRecDepth 65536 in
set_option maxHeartbeats 40000000 in
theorem rm_nc0 (l : Launch) (Z : State) (a0 : Array Value) (hw : ∀ d ∈ tables_1, d.before a0 Z = true) (ws : List Jvm.Cond) (kc : Int32) (sx : Value) (ax ba : Addr) (kb : ClassId) (mn : Int32) (vs : List Value) (h0 : Heap) (n0 : Nat) (Z0 : n0 ≤ h0.size) (G : Stt Z kc sx) (O : Old Z n0 h0) (F1_value : Fld Z h0 ax "java/lang/AbstractStringBuilder" "value" "[B" (.ref ba)) (F1_coder : Fld Z h0 ax "java/lang/AbstractStringBuilder" "coder" "B" (.int (0 : Int32))) (V1 : Arv Z h0 ba kb .byte (16 : Int32) vs (.int (0 : Int32))) (hg : ((mn <<< ((0 : Int32) &&& 31)) - (16 : Int32)) < (18 : Int32)) :
    Pays l Z (⟨"java/lang/AbstractStringBuilder", "newCapacity", "(I)I"⟩ : MethodName) jdk_68_method_10_code 6 (some .int) ws ({ frames := 2, cells := 0, slots := 0, locals := 29 } : Room) #[(.ref ax), (.int mn)] h0 (fun v h L => v = some (.int (34 : Int32)) ∧ Fr n0 L ∧ h = h0) := by
  refine Pays.of (plainFor_of_name (by first | (simp [plainName, overriddenIn]; done) | decide +kernel)) ?_
  intro p e s m below meth c s₁ hx hby hml hown hnm hret hlk hZ e0 X0
  have N0 := Fr.nil n0
  have K0 : Keep h0 h0 [] := Keep.refl _ _
  refine Goes.go (U' := (s₁.setTop (mkF m 0 #[sR_ ax, sI_ mn, sU_, sU_, sU_, sU_] []))) (fun t kt => castTop (ef_rm_nc0 m ax mn) kt) ?_
  refine Goes.go (U' := (s₁.setTop (mkF m 1 #[sR_ ax, sI_ mn, sU_, sU_, sU_, sU_] [(.ref ax)]))) (fun t kt => ?_) ?_
  · skip
    refine XS.aloadN X0.here hx rfl (hb hby d_rm_nc0_0) rfl rfl ?_
    exact kt
  obtain ⟨T_1, X_1, e_1, st_1⟩ := getF X0 hx hZ hown (host := "") (Or.inl (wdOf hw 25 rfl)) Via.refl e0 F1_value (g := (mkF m 1 #[sR_ ax, sI_ mn, sU_, sU_, sU_, sU_] [(.ref ax)])) rfl rfl (hb hby d_rm_nc0_1)
  refine Goes.go (U' := (T_1.setTop (mkF m 4 #[sR_ ax, sI_ mn, sU_, sU_, sU_, sU_] [(.ref ba)]))) st_1 ?_
  obtain ⟨cl_2, Ar_2, q_2, S_2, M_2, H_2, G_2⟩ := id V1
  refine Goes.go (U' := (T_1.setTop (mkF m 5 #[sR_ ax, sI_ mn, sU_, sU_, sU_, sU_] [(.int (16 : Int32))]))) (fun t kt => ?_) ?_
  · skip
    refine X_1.arraylength hx (by rw [e_1]; exact Ar_2.1) (State.isArrayOf_alike hZ.alike Ar_2.2.1) (g := (mkF m 4 #[sR_ ax, sI_ mn, sU_, sU_, sU_, sU_] [(.ref ba)])) rfl rfl (hb hby d_rm_nc0_4) _ ?_
    rw [len_of S_2 M_2]
    exact kt
  refine Goes.go (U' := (T_1.setTop (mkF m 8 #[sR_ ax, sI_ mn, sI_ (16 : Int32), sU_, sU_, sU_] [(.ref ax), (.int mn)]))) (fun t kt => ?_) ?_
  · skip
    refine XS.istoreN X_1.here hx rfl (hb hby d_rm_nc0_5) rfl (l' := #[sR_ ax, sI_ mn, sI_ (16 : Int32), sU_, sU_, sU_]) rfl ?_
    refine XS.iloadN X_1.here hx rfl (hb hby d_rm_nc0_6) rfl ?_
    refine XS.aloadN X_1.here hx rfl (hb hby d_rm_nc0_7) rfl rfl ?_
    exact kt
  obtain ⟨T_3, X_3, e_3, st_3⟩ := getF X_1 hx hZ hown (host := "") (Or.inl (wdOf hw 27 rfl)) Via.refl e_1 F1_coder (g := (mkF m 8 #[sR_ ax, sI_ mn, sI_ (16 : Int32), sU_, sU_, sU_] [(.ref ax), (.int mn)])) rfl rfl (hb hby d_rm_nc0_8)
  refine Goes.go (U' := (T_3.setTop (mkF m 11 #[sR_ ax, sI_ mn, sI_ (16 : Int32), sU_, sU_, sU_] [(.int (0 : Int32)), (.int mn)]))) st_3 ?_
  refine Goes.go (U' := (T_3.setTop (mkF m 24 #[sR_ ax, sI_ mn, sI_ (16 : Int32), sI_ (mn <<< ((0 : Int32) &&& 31)), sI_ ((mn <<< ((0 : Int32) &&& 31)) - (16 : Int32)), sU_] [(.ref ax), (.int (2 : Int32)), (.int (16 : Int32)), (.int ((mn <<< ((0 : Int32) &&& 31)) - (16 : Int32))), (.int (16 : Int32))]))) (fun t kt => ?_) ?_
  · skip
    refine XS.ishl X_3.here hx rfl (hb hby d_rm_nc0_11) rfl ?_
    refine XS.istoreN X_3.here hx rfl (hb hby d_rm_nc0_12) rfl (l' := #[sR_ ax, sI_ mn, sI_ (16 : Int32), sI_ (mn <<< ((0 : Int32) &&& 31)), sU_, sU_]) rfl ?_
    refine XS.iloadN X_3.here hx rfl (hb hby d_rm_nc0_13) rfl ?_
    refine XS.iloadN X_3.here hx rfl (hb hby d_rm_nc0_14) rfl ?_
    refine XS.isub X_3.here hx rfl (hb hby d_rm_nc0_15) rfl ?_
    refine XS.istore X_3.here hx rfl (hb hby d_rm_nc0_16) rfl (l' := #[sR_ ax, sI_ mn, sI_ (16 : Int32), sI_ (mn <<< ((0 : Int32) &&& 31)), sI_ ((mn <<< ((0 : Int32) &&& 31)) - (16 : Int32)), sU_]) rfl ?_
    refine XS.iloadN X_3.here hx rfl (hb hby d_rm_nc0_18) rfl ?_
    refine XS.iload X_3.here hx rfl (hb hby d_rm_nc0_19) rfl ?_
    show Steps p.tables e below (T_3.setTop (mkF m 21 #[sR_ ax, sI_ mn, sI_ (16 : Int32), sI_ (mn <<< ((0 : Int32) &&& 31)), sI_ ((mn <<< ((0 : Int32) &&& 31)) - (16 : Int32)), sU_] [(.int ((mn <<< ((0 : Int32) &&& 31)) - (16 : Int32))), (.int (16 : Int32))])) t
    refine XS.iloadN X_3.here hx rfl (hb hby d_rm_nc0_21) rfl ?_
    refine XS.iconst X_3.here hx rfl (hb hby d_rm_nc0_22) ?_
    refine XS.aloadN X_3.here hx rfl (hb hby d_rm_nc0_23) rfl rfl ?_
    exact kt
  obtain ⟨T_4, X_4, e_4, st_4⟩ := getF X_3 hx hZ hown (host := "") (Or.inl (wdOf hw 27 rfl)) Via.refl e_3 F1_coder (g := (mkF m 24 #[sR_ ax, sI_ mn, sI_ (16 : Int32), sI_ (mn <<< ((0 : Int32) &&& 31)), sI_ ((mn <<< ((0 : Int32) &&& 31)) - (16 : Int32)), sU_] [(.ref ax), (.int (2 : Int32)), (.int (16 : Int32)), (.int ((mn <<< ((0 : Int32) &&& 31)) - (16 : Int32))), (.int (16 : Int32))])) rfl rfl (hb hby d_rm_nc0_24)
  refine Goes.go (U' := (T_4.setTop (mkF m 27 #[sR_ ax, sI_ mn, sI_ (16 : Int32), sI_ (mn <<< ((0 : Int32) &&& 31)), sI_ ((mn <<< ((0 : Int32) &&& 31)) - (16 : Int32)), sU_] [(.int (0 : Int32)), (.int (2 : Int32)), (.int (16 : Int32)), (.int ((mn <<< ((0 : Int32) &&& 31)) - (16 : Int32))), (.int (16 : Int32))]))) st_4 ?_
  refine Goes.go (U' := (T_4.setTop (mkF m 28 #[sR_ ax, sI_ mn, sI_ (16 : Int32), sI_ (mn <<< ((0 : Int32) &&& 31)), sI_ ((mn <<< ((0 : Int32) &&& 31)) - (16 : Int32)), sU_] [(.int ((2 : Int32) <<< ((0 : Int32) &&& 31))), (.int (16 : Int32)), (.int ((mn <<< ((0 : Int32) &&& 31)) - (16 : Int32))), (.int (16 : Int32))]))) (fun t kt => ?_) ?_
  · skip
    refine XS.ishl X_4.here hx rfl (hb hby d_rm_nc0_27) rfl ?_
    exact kt
  rw [show ((2 : Int32) <<< ((0 : Int32) &&& 31)) = (2 : Int32) from by decide]
  refine Goes.go (U' := (T_4.setTop (mkF m 29 #[sR_ ax, sI_ mn, sI_ (16 : Int32), sI_ (mn <<< ((0 : Int32) &&& 31)), sI_ ((mn <<< ((0 : Int32) &&& 31)) - (16 : Int32)), sU_] [(.int ((16 : Int32) + (2 : Int32))), (.int ((mn <<< ((0 : Int32) &&& 31)) - (16 : Int32))), (.int (16 : Int32))]))) (fun t kt => ?_) ?_
  · skip
    refine XS.iadd X_4.here hx rfl (hb hby d_rm_nc0_28) rfl ?_
    exact kt
  rw [show ((16 : Int32) + (2 : Int32)) = (18 : Int32) from by decide]
  obtain ⟨v_5, T_5, L_5, X_5, q_5, st_5⟩ := callStatic X_4 hx hZ (y := (⟨"jdk/internal/util/ArraysSupport", "newLength", "(III)I"⟩ : MethodName)) (W := 0) hown (wdOf hw 118 rfl) (wdOf hw 119 rfl) (wdOf hw 120 rfl) (wdOf hw 121 rfl) (by decide) (rm_nl l Z a0 hw [] kc sx (16 : Int32) ((mn <<< ((0 : Int32) &&& 31)) - (16 : Int32)) (18 : Int32) h0 n0 Z0 G O hg (by decide) (by decide)) (by decide) (by decide) (by decide) (by decide) e_4 (g := (mkF m 29 #[sR_ ax, sI_ mn, sI_ (16 : Int32), sI_ (mn <<< ((0 : Int32) &&& 31)), sI_ ((mn <<< ((0 : Int32) &&& 31)) - (16 : Int32)), sU_] [(.int (18 : Int32)), (.int ((mn <<< ((0 : Int32) &&& 31)) - (16 : Int32))), (.int (16 : Int32))])) rfl (by rw [hml]; rfl) (argsL := [(.int (16 : Int32)), (.int ((mn <<< ((0 : Int32) &&& 31)) - (16 : Int32))), (.int (18 : Int32))]) (rest := []) (lenOf pd_2 rfl) rfl rfl (Nat.le_refl _) (hb hby d_rm_nc0_29)
  obtain ⟨rfl, n_5, K_5⟩ := q_5
  have N_5 := Fr.app N0 n_5
  refine Goes.go (U' := (T_5.setTop (mkF m 32 #[sR_ ax, sI_ mn, sI_ (16 : Int32), sI_ (mn <<< ((0 : Int32) &&& 31)), sI_ ((mn <<< ((0 : Int32) &&& 31)) - (16 : Int32)), sU_] [(.int ((16 : Int32) + (18 : Int32)))]))) st_5 ?_
  rw [show ((16 : Int32) + (18 : Int32)) = (34 : Int32) from by decide]
  refine Goes.go (U' := (T_5.setTop (mkF m 54 #[sR_ ax, sI_ mn, sI_ (16 : Int32), sI_ (mn <<< ((0 : Int32) &&& 31)), sI_ ((mn <<< ((0 : Int32) &&& 31)) - (16 : Int32)), sI_ (34 : Int32)] [(.ref ax), (.int (34 : Int32))]))) (fun t kt => ?_) ?_
  · skip
    refine XS.istore X_5.here hx rfl (hb hby d_rm_nc0_32) rfl (l' := #[sR_ ax, sI_ mn, sI_ (16 : Int32), sI_ (mn <<< ((0 : Int32) &&& 31)), sI_ ((mn <<< ((0 : Int32) &&& 31)) - (16 : Int32)), sI_ (34 : Int32)]) rfl ?_
    refine XS.iload X_5.here hx rfl (hb hby d_rm_nc0_34) rfl ?_
    refine Jvm.Stand.ldcI X_5 hx hown (mvT hZ (wdOf hw 127 rfl)) rfl (hb hby d_rm_nc0_36) ?_
    refine XS.icmpYes X_5.here hx rfl (pc0 := 38) (pc' := 51) rfl (hb hby d_rm_nc0_38) rfl (XT.ii_ne_t (by decide)) (by decide) (by decide) ?_
    refine XS.iload X_5.here hx rfl (hb hby d_rm_nc0_51) rfl ?_
    refine XS.aloadN X_5.here hx rfl (hb hby d_rm_nc0_53) rfl rfl ?_
    exact kt
  obtain ⟨T_6, X_6, e_6, st_6⟩ := getF X_5 hx hZ hown (host := "") (Or.inl (wdOf hw 27 rfl)) Via.refl K_5 F1_coder (g := (mkF m 54 #[sR_ ax, sI_ mn, sI_ (16 : Int32), sI_ (mn <<< ((0 : Int32) &&& 31)), sI_ ((mn <<< ((0 : Int32) &&& 31)) - (16 : Int32)), sI_ (34 : Int32)] [(.ref ax), (.int (34 : Int32))])) rfl rfl (hb hby d_rm_nc0_54)
  refine Goes.go (U' := (T_6.setTop (mkF m 57 #[sR_ ax, sI_ mn, sI_ (16 : Int32), sI_ (mn <<< ((0 : Int32) &&& 31)), sI_ ((mn <<< ((0 : Int32) &&& 31)) - (16 : Int32)), sI_ (34 : Int32)] [(.int (0 : Int32)), (.int (34 : Int32))]))) st_6 ?_
  refine Goes.go (U' := (T_6.setTop (mkF m 58 #[sR_ ax, sI_ mn, sI_ (16 : Int32), sI_ (mn <<< ((0 : Int32) &&& 31)), sI_ ((mn <<< ((0 : Int32) &&& 31)) - (16 : Int32)), sI_ (34 : Int32)] [(.int ((34 : Int32) >>> ((0 : Int32) &&& 31)))]))) (fun t kt => ?_) ?_
  · skip
    refine XS.ishr X_6.here hx rfl (hb hby d_rm_nc0_57) rfl ?_
    exact kt
  rw [show ((34 : Int32) >>> ((0 : Int32) &&& 31)) = (34 : Int32) from by decide]
  refine Goes.retI X_6 hx hlk hret (hb hby d_rm_nc0_58) (by decide) (by decide) ?_
  try rw [e_6]
  exact ⟨rfl, N_5, rfl⟩
theorem d_rm_ec00_0 : decode jdk_68_method_9_code 0 = .ok (.aload_n 0, 1) := by decide +kernel
theorem d_rm_ec00_1 : decode jdk_68_method_9_code 1 = .ok (.getfield 15, 3) := by decide +kernel
theorem d_rm_ec00_4 : decode jdk_68_method_9_code 4 = .ok (.arraylength, 1) := by decide +kernel
theorem d_rm_ec00_5 : decode jdk_68_method_9_code 5 = .ok (.aload_n 0, 1) := by decide +kernel
theorem d_rm_ec00_6 : decode jdk_68_method_9_code 6 = .ok (.getfield 22, 3) := by decide +kernel
theorem d_rm_ec00_9 : decode jdk_68_method_9_code 9 = .ok (.ishr, 1) := by decide +kernel
theorem d_rm_ec00_10 : decode jdk_68_method_9_code 10 = .ok (.istore_n 2, 1) := by decide +kernel
theorem d_rm_ec00_11 : decode jdk_68_method_9_code 11 = .ok (.iload_n 1, 1) := by decide +kernel
theorem d_rm_ec00_12 : decode jdk_68_method_9_code 12 = .ok (.iload_n 2, 1) := by decide +kernel
theorem d_rm_ec00_13 : decode jdk_68_method_9_code 13 = .ok (.isub, 1) := by decide +kernel
theorem d_rm_ec00_14 : decode jdk_68_method_9_code 14 = .ok (.ifCond .le 24, 3) := by decide +kernel
theorem d_rm_ec00_38 : decode jdk_68_method_9_code 38 = .ok (.return_, 1) := by decide +kernel
set_option maxHeartbeats 4000000 in
theorem ef_rm_ec00 (m : MethodId) (x0 : Addr) (x1 : Int32)  : entryFrame m #[(.ref x0), (.int x1)] 3 = mkF m 0 #[.val (.ref x0), .val (.int x1), .unset] [] := by first | (simp [entryFrame, mkF, argsToLocals, catR, catN, catI, catJ]; done) | rfl
set_option maxRecDepth 65536 in
set_option maxHeartbeats 40000000 in
theorem rm_ec00 (l : Launch) (Z : State) (a0 : Array Value) (hw : ∀ d ∈ tables_1, d.before a0 Z = true) (ws : List Jvm.Cond) (kc : Int32) (sx : Value) (ax ba : Addr) (kb : ClassId) (mn : Int32) (vs : List Value) (h0 : Heap) (n0 : Nat) (Z0 : n0 ≤ h0.size) (G : Stt Z kc sx) (O : Old Z n0 h0) (F1_value : Fld Z h0 ax "java/lang/AbstractStringBuilder" "value" "[B" (.ref ba)) (F1_coder : Fld Z h0 ax "java/lang/AbstractStringBuilder" "coder" "B" (.int (0 : Int32))) (V1 : Arv Z h0 ba kb .byte (16 : Int32) vs (.int (0 : Int32))) (hm : ¬ 0 < (mn - (16 : Int32))) :
    Pays l Z (⟨"java/lang/AbstractStringBuilder", "ensureCapacityInternal", "(I)V"⟩ : MethodName) jdk_68_method_9_code 3 none ws ({ frames := 0, cells := 0, slots := 0, locals := 0 } : Room) #[(.ref ax), (.int mn)] h0 (fun v h L => v = none ∧ Fr n0 L ∧ h = h0) := by
  refine Pays.of (plainFor_of_name (by first | (simp [plainName, overriddenIn]; done) | decide +kernel)) ?_
  intro p e s m below meth c s₁ hx hby hml hown hnm hret hlk hZ e0 X0
  have N0 := Fr.nil n0
  have K0 : Keep h0 h0 [] := Keep.refl _ _
  refine Goes.go (U' := (s₁.setTop (mkF m 0 #[sR_ ax, sI_ mn, sU_] []))) (fun t kt => castTop (ef_rm_ec00 m ax mn) kt) ?_
  refine Goes.go (U' := (s₁.setTop (mkF m 1 #[sR_ ax, sI_ mn, sU_] [(.ref ax)]))) (fun t kt => ?_) ?_
  · skip
    refine XS.aloadN X0.here hx rfl (hb hby d_rm_ec00_0) rfl rfl ?_
    exact kt
  obtain ⟨T_1, X_1, e_1, st_1⟩ := getF X0 hx hZ hown (host := "") (Or.inl (wdOf hw 25 rfl)) Via.refl e0 F1_value (g := (mkF m 1 #[sR_ ax, sI_ mn, sU_] [(.ref ax)])) rfl rfl (hb hby d_rm_ec00_1)
  refine Goes.go (U' := (T_1.setTop (mkF m 4 #[sR_ ax, sI_ mn, sU_] [(.ref ba)]))) st_1 ?_
  obtain ⟨cl_2, Ar_2, q_2, S_2, M_2, H_2, G_2⟩ := id V1
  refine Goes.go (U' := (T_1.setTop (mkF m 5 #[sR_ ax, sI_ mn, sU_] [(.int (16 : Int32))]))) (fun t kt => ?_) ?_
  · skip
    refine X_1.arraylength hx (by rw [e_1]; exact Ar_2.1) (State.isArrayOf_alike hZ.alike Ar_2.2.1) (g := (mkF m 4 #[sR_ ax, sI_ mn, sU_] [(.ref ba)])) rfl rfl (hb hby d_rm_ec00_4) _ ?_
    rw [len_of S_2 M_2]
    exact kt
  refine Goes.go (U' := (T_1.setTop (mkF m 6 #[sR_ ax, sI_ mn, sU_] [(.ref ax), (.int (16 : Int32))]))) (fun t kt => ?_) ?_
  · skip
    refine XS.aloadN X_1.here hx rfl (hb hby d_rm_ec00_5) rfl rfl ?_
    exact kt
  obtain ⟨T_3, X_3, e_3, st_3⟩ := getF X_1 hx hZ hown (host := "") (Or.inl (wdOf hw 27 rfl)) Via.refl e_1 F1_coder (g := (mkF m 6 #[sR_ ax, sI_ mn, sU_] [(.ref ax), (.int (16 : Int32))])) rfl rfl (hb hby d_rm_ec00_6)
  refine Goes.go (U' := (T_3.setTop (mkF m 9 #[sR_ ax, sI_ mn, sU_] [(.int (0 : Int32)), (.int (16 : Int32))]))) st_3 ?_
  refine Goes.go (U' := (T_3.setTop (mkF m 10 #[sR_ ax, sI_ mn, sU_] [(.int ((16 : Int32) >>> ((0 : Int32) &&& 31)))]))) (fun t kt => ?_) ?_
  · skip
    refine XS.ishr X_3.here hx rfl (hb hby d_rm_ec00_9) rfl ?_
    exact kt
  rw [show ((16 : Int32) >>> ((0 : Int32) &&& 31)) = (16 : Int32) from by decide]
  refine Goes.go (U' := (T_3.setTop (mkF m 38 #[sR_ ax, sI_ mn, sI_ (16 : Int32)] []))) (fun t kt => ?_) ?_
  · skip
    refine XS.istoreN X_3.here hx rfl (hb hby d_rm_ec00_10) rfl (l' := #[sR_ ax, sI_ mn, sI_ (16 : Int32)]) rfl ?_
    refine XS.iloadN X_3.here hx rfl (hb hby d_rm_ec00_11) rfl ?_
    refine XS.iloadN X_3.here hx rfl (hb hby d_rm_ec00_12) rfl ?_
    refine XS.isub X_3.here hx rfl (hb hby d_rm_ec00_13) rfl ?_
    refine XS.ifYes X_3.here hx rfl (pc0 := 14) (pc' := 38) rfl (hb hby d_rm_ec00_14) rfl (XT.i0_le_t hm) (by decide) (by decide) ?_
    exact kt
  refine Goes.retV X_3 hx hlk hret (hb hby d_rm_ec00_38) (by decide) (by decide) ?_
  try rw [e_3]
  exact ⟨rfl, N0, rfl⟩
theorem d_rm_ec10_0 : decode jdk_68_method_9_code 0 = .ok (.aload_n 0, 1) := by decide +kernel
theorem d_rm_ec10_1 : decode jdk_68_method_9_code 1 = .ok (.getfield 15, 3) := by decide +kernel
theorem d_rm_ec10_4 : decode jdk_68_method_9_code 4 = .ok (.arraylength, 1) := by decide +kernel
theorem d_rm_ec10_5 : decode jdk_68_method_9_code 5 = .ok (.aload_n 0, 1) := by decide +kernel
theorem d_rm_ec10_6 : decode jdk_68_method_9_code 6 = .ok (.getfield 22, 3) := by decide +kernel
theorem d_rm_ec10_9 : decode jdk_68_method_9_code 9 = .ok (.ishr, 1) := by decide +kernel
theorem d_rm_ec10_10 : decode jdk_68_method_9_code 10 = .ok (.istore_n 2, 1) := by decide +kernel
theorem d_rm_ec10_11 : decode jdk_68_method_9_code 11 = .ok (.iload_n 1, 1) := by decide +kernel
theorem d_rm_ec10_12 : decode jdk_68_method_9_code 12 = .ok (.iload_n 2, 1) := by decide +kernel
theorem d_rm_ec10_13 : decode jdk_68_method_9_code 13 = .ok (.isub, 1) := by decide +kernel
theorem d_rm_ec10_14 : decode jdk_68_method_9_code 14 = .ok (.ifCond .le 24, 3) := by decide +kernel
theorem d_rm_ec10_17 : decode jdk_68_method_9_code 17 = .ok (.aload_n 0, 1) := by decide +kernel
theorem d_rm_ec10_18 : decode jdk_68_method_9_code 18 = .ok (.aload_n 0, 1) := by decide +kernel
theorem d_rm_ec10_19 : decode jdk_68_method_9_code 19 = .ok (.getfield 15, 3) := by decide +kernel
theorem d_rm_ec10_22 : decode jdk_68_method_9_code 22 = .ok (.aload_n 0, 1) := by decide +kernel
theorem d_rm_ec10_23 : decode jdk_68_method_9_code 23 = .ok (.iload_n 1, 1) := by decide +kernel
theorem d_rm_ec10_24 : decode jdk_68_method_9_code 24 = .ok (.invokevirtual 104, 3) := by decide +kernel
theorem d_rm_ec10_27 : decode jdk_68_method_9_code 27 = .ok (.aload_n 0, 1) := by decide +kernel
theorem d_rm_ec10_28 : decode jdk_68_method_9_code 28 = .ok (.getfield 22, 3) := by decide +kernel
theorem d_rm_ec10_31 : decode jdk_68_method_9_code 31 = .ok (.ishl, 1) := by decide +kernel
theorem d_rm_ec10_32 : decode jdk_68_method_9_code 32 = .ok (.invokestatic 108, 3) := by decide +kernel
theorem d_rm_ec10_35 : decode jdk_68_method_9_code 35 = .ok (.putfield 15, 3) := by decide +kernel
theorem d_rm_ec10_38 : decode jdk_68_method_9_code 38 = .ok (.return_, 1) := by decide +kernel
set_option maxHeartbeats 4000000 in
theorem ef_rm_ec10 (m : MethodId) (x0 : Addr) (x1 : Int32)  : entryFrame m #[(.ref x0), (.int x1)] 3 = mkF m 0 #[.val (.ref x0), .val (.int x1), .unset] [] := by first | (simp [entryFrame, mkF, argsToLocals, catR, catN, catI, catJ]; done) | rfl
set_option maxRecDepth 65536 in
set_option maxHeartbeats 40000000 in
theorem rm_ec10 (l : Launch) (Z : State) (a0 : Array Value) (hw : ∀ d ∈ tables_1, d.before a0 Z = true) (ws : List Jvm.Cond) (kc : Int32) (sx : Value) (ax ba : Addr) (kb : ClassId) (mn pn : Int32) (cs : List Int32) (h0 : Heap) (n0 : Nat) (Z0 : n0 ≤ h0.size) (G : Stt Z kc sx) (O : Old Z n0 h0) (E1 : Exa Z h0 ax "java/lang/StringBuilder") (F1_value : Fld Z h0 ax "java/lang/AbstractStringBuilder" "value" "[B" (.ref ba)) (F1_coder : Fld Z h0 ax "java/lang/AbstractStringBuilder" "coder" "B" (.int (0 : Int32))) (F1_count : Fld Z h0 ax "java/lang/AbstractStringBuilder" "count" "I" (.int pn)) (F1_maybeLatin1 : Fld Z h0 ax "java/lang/AbstractStringBuilder" "maybeLatin1" "Z" (.int (0 : Int32))) (V1 : Arv Z h0 ba kb .byte (16 : Int32) (L1 cs) (.int (0 : Int32))) (o0 : n0 ≤ ax) (hm : 0 < (mn - (16 : Int32))) (hg : ((mn <<< ((0 : Int32) &&& 31)) - (16 : Int32)) < (18 : Int32)) (hle : cs.length ≤ 3) :
    Pays l Z (⟨"java/lang/AbstractStringBuilder", "ensureCapacityInternal", "(I)V"⟩ : MethodName) jdk_68_method_9_code 3 none ws ({ frames := 3, cells := 1, slots := 68, locals := 48 } : Room) #[(.ref ax), (.int mn)] h0 (fun v h L => ∃ b k, v = none ∧ Fr n0 L ∧ Keep h0 h [ax] ∧ h0.size ≤ b ∧ Exa Z h ax "java/lang/StringBuilder" ∧ Fld Z h ax "java/lang/AbstractStringBuilder" "value" "[B" (.ref b) ∧ Fld Z h ax "java/lang/AbstractStringBuilder" "coder" "B" (.int (0 : Int32)) ∧ Fld Z h ax "java/lang/AbstractStringBuilder" "count" "I" (.int pn) ∧ Fld Z h ax "java/lang/AbstractStringBuilder" "maybeLatin1" "Z" (.int (0 : Int32)) ∧ Arv Z h b k .byte (34 : Int32) (L1 cs) (.int (0 : Int32))) := by
  refine Pays.of (plainFor_of_name (by first | (simp [plainName, overriddenIn]; done) | decide +kernel)) ?_
  intro p e s m below meth c s₁ hx hby hml hown hnm hret hlk hZ e0 X0
  have N0 := Fr.nil n0
  have K0 : Keep h0 h0 [ax] := Keep.refl _ _
  refine Goes.go (U' := (s₁.setTop (mkF m 0 #[sR_ ax, sI_ mn, sU_] []))) (fun t kt => castTop (ef_rm_ec10 m ax mn) kt) ?_
  refine Goes.go (U' := (s₁.setTop (mkF m 1 #[sR_ ax, sI_ mn, sU_] [(.ref ax)]))) (fun t kt => ?_) ?_
  · skip
    refine XS.aloadN X0.here hx rfl (hb hby d_rm_ec10_0) rfl rfl ?_
    exact kt
  obtain ⟨T_1, X_1, e_1, st_1⟩ := getF X0 hx hZ hown (host := "") (Or.inl (wdOf hw 25 rfl)) Via.refl e0 F1_value (g := (mkF m 1 #[sR_ ax, sI_ mn, sU_] [(.ref ax)])) rfl rfl (hb hby d_rm_ec10_1)
  refine Goes.go (U' := (T_1.setTop (mkF m 4 #[sR_ ax, sI_ mn, sU_] [(.ref ba)]))) st_1 ?_
  obtain ⟨cl_2, Ar_2, q_2, S_2, M_2, H_2, G_2⟩ := id V1
  refine Goes.go (U' := (T_1.setTop (mkF m 5 #[sR_ ax, sI_ mn, sU_] [(.int (16 : Int32))]))) (fun t kt => ?_) ?_
  · skip
    refine X_1.arraylength hx (by rw [e_1]; exact Ar_2.1) (State.isArrayOf_alike hZ.alike Ar_2.2.1) (g := (mkF m 4 #[sR_ ax, sI_ mn, sU_] [(.ref ba)])) rfl rfl (hb hby d_rm_ec10_4) _ ?_
    rw [len_of S_2 M_2]
    exact kt
  refine Goes.go (U' := (T_1.setTop (mkF m 6 #[sR_ ax, sI_ mn, sU_] [(.ref ax), (.int (16 : Int32))]))) (fun t kt => ?_) ?_
  · skip
    refine XS.aloadN X_1.here hx rfl (hb hby d_rm_ec10_5) rfl rfl ?_
    exact kt
  obtain ⟨T_3, X_3, e_3, st_3⟩ := getF X_1 hx hZ hown (host := "") (Or.inl (wdOf hw 27 rfl)) Via.refl e_1 F1_coder (g := (mkF m 6 #[sR_ ax, sI_ mn, sU_] [(.ref ax), (.int (16 : Int32))])) rfl rfl (hb hby d_rm_ec10_6)
  refine Goes.go (U' := (T_3.setTop (mkF m 9 #[sR_ ax, sI_ mn, sU_] [(.int (0 : Int32)), (.int (16 : Int32))]))) st_3 ?_
  refine Goes.go (U' := (T_3.setTop (mkF m 10 #[sR_ ax, sI_ mn, sU_] [(.int ((16 : Int32) >>> ((0 : Int32) &&& 31)))]))) (fun t kt => ?_) ?_
  · skip
    refine XS.ishr X_3.here hx rfl (hb hby d_rm_ec10_9) rfl ?_
    exact kt
  rw [show ((16 : Int32) >>> ((0 : Int32) &&& 31)) = (16 : Int32) from by decide]
  refine Goes.go (U' := (T_3.setTop (mkF m 19 #[sR_ ax, sI_ mn, sI_ (16 : Int32)] [(.ref ax), (.ref ax)]))) (fun t kt => ?_) ?_
  · skip
    refine XS.istoreN X_3.here hx rfl (hb hby d_rm_ec10_10) rfl (l' := #[sR_ ax, sI_ mn, sI_ (16 : Int32)]) rfl ?_
    refine XS.iloadN X_3.here hx rfl (hb hby d_rm_ec10_11) rfl ?_
    refine XS.iloadN X_3.here hx rfl (hb hby d_rm_ec10_12) rfl ?_
    refine XS.isub X_3.here hx rfl (hb hby d_rm_ec10_13) rfl ?_
    refine XS.ifNo X_3.here hx rfl (hb hby d_rm_ec10_14) rfl (XT.i0_le_f hm) ?_
    refine XS.aloadN X_3.here hx rfl (hb hby d_rm_ec10_17) rfl rfl ?_
    refine XS.aloadN X_3.here hx rfl (hb hby d_rm_ec10_18) rfl rfl ?_
    exact kt
  obtain ⟨T_4, X_4, e_4, st_4⟩ := getF X_3 hx hZ hown (host := "") (Or.inl (wdOf hw 25 rfl)) Via.refl e_3 F1_value (g := (mkF m 19 #[sR_ ax, sI_ mn, sI_ (16 : Int32)] [(.ref ax), (.ref ax)])) rfl rfl (hb hby d_rm_ec10_19)
  refine Goes.go (U' := (T_4.setTop (mkF m 22 #[sR_ ax, sI_ mn, sI_ (16 : Int32)] [(.ref ba), (.ref ax)]))) st_4 ?_
  refine Goes.go (U' := (T_4.setTop (mkF m 24 #[sR_ ax, sI_ mn, sI_ (16 : Int32)] [(.int mn), (.ref ax), (.ref ba), (.ref ax)]))) (fun t kt => ?_) ?_
  · skip
    refine XS.aloadN X_4.here hx rfl (hb hby d_rm_ec10_22) rfl rfl ?_
    refine XS.iloadN X_4.here hx rfl (hb hby d_rm_ec10_23) rfl ?_
    exact kt
  obtain ⟨v_5, T_5, L_5, X_5, q_5, st_5⟩ := callPrivSel X_4 hx hZ (y := (⟨"java/lang/AbstractStringBuilder", "newCapacity", "(I)I"⟩ : MethodName)) (W := 2) hown (wdOf hw 113 rfl) (wdOf hw 114 rfl) (wdOf hw 115 rfl) (wdOf hw 116 rfl) (wdOf hw 19 rfl) (wdOf hw 117 rfl) (by decide) (rm_nc0 l Z a0 hw [] kc sx ax ba kb mn (L1 cs) h0 n0 Z0 G O F1_value F1_coder V1 hg) (by decide) (by decide) (by decide) (by decide) e_4 E1 (g := (mkF m 24 #[sR_ ax, sI_ mn, sI_ (16 : Int32)] [(.int mn), (.ref ax), (.ref ba), (.ref ax)])) rfl (by rw [hml]; rfl) (argsL := [(.int mn)]) (rest := [(.ref ba), (.ref ax)]) (lenOf pd_6 rfl) rfl rfl (Nat.le_refl _) (hb hby d_rm_ec10_24)
  obtain ⟨rfl, n_5, K_5⟩ := q_5
  have N_5 := Fr.app N0 n_5
  refine Goes.go (U' := (T_5.setTop (mkF m 27 #[sR_ ax, sI_ mn, sI_ (16 : Int32)] [(.int (34 : Int32)), (.ref ba), (.ref ax)]))) st_5 ?_
  refine Goes.go (U' := (T_5.setTop (mkF m 28 #[sR_ ax, sI_ mn, sI_ (16 : Int32)] [(.ref ax), (.int (34 : Int32)), (.ref ba), (.ref ax)]))) (fun t kt => ?_) ?_
  · skip
    refine XS.aloadN X_5.here hx rfl (hb hby d_rm_ec10_27) rfl rfl ?_
    exact kt
  obtain ⟨T_6, X_6, e_6, st_6⟩ := getF X_5 hx hZ hown (host := "") (Or.inl (wdOf hw 27 rfl)) Via.refl K_5 F1_coder (g := (mkF m 28 #[sR_ ax, sI_ mn, sI_ (16 : Int32)] [(.ref ax), (.int (34 : Int32)), (.ref ba), (.ref ax)])) rfl rfl (hb hby d_rm_ec10_28)
  refine Goes.go (U' := (T_6.setTop (mkF m 31 #[sR_ ax, sI_ mn, sI_ (16 : Int32)] [(.int (0 : Int32)), (.int (34 : Int32)), (.ref ba), (.ref ax)]))) st_6 ?_
  refine Goes.go (U' := (T_6.setTop (mkF m 32 #[sR_ ax, sI_ mn, sI_ (16 : Int32)] [(.int ((34 : Int32) <<< ((0 : Int32) &&& 31))), (.ref ba), (.ref ax)]))) (fun t kt => ?_) ?_
  · skip
    refine XS.ishl X_6.here hx rfl (hb hby d_rm_ec10_31) rfl ?_
    exact kt
  rw [show ((34 : Int32) <<< ((0 : Int32) &&& 31)) = (34 : Int32) from by decide]
  obtain ⟨v_7, T_7, L_7, X_7, q_7, st_7⟩ := callStatic X_6 hx hZ (y := (⟨"java/util/Arrays", "copyOf", "([BI)[B"⟩ : MethodName)) (W := 1) hown (wdOf hw 128 rfl) (wdOf hw 129 rfl) (wdOf hw 130 rfl) (wdOf hw 131 rfl) (by decide) (rm_cp l Z a0 hw [] kc sx ba kb (34 : Int32) (16 : Int32) (L1 cs) h0 n0 Z0 G O V1 (by decide) (by decide) (by decide) (by decide) (by rw [L1_len]; have : (16 : Int32).toNatClampNeg = 16 := rfl; omega) (by decide) (by decide)) (by decide) (by decide) (by decide) (by decide) e_6 (g := (mkF m 32 #[sR_ ax, sI_ mn, sI_ (16 : Int32)] [(.int (34 : Int32)), (.ref ba), (.ref ax)])) rfl (by rw [hml]; rfl) (argsL := [(.ref ba), (.int (34 : Int32))]) (rest := [(.ref ax)]) (lenOf pd_21 rfl) rfl rfl (Nat.le_refl _) (hb hby d_rm_ec10_32)
  obtain ⟨r_7, k_7, rfl, n_7, K_7, z_7, V_7⟩ := q_7
  have ne_8 : ax ≠ r_7 := Nat.ne_of_lt (Nat.lt_of_lt_of_le E1.lt z_7)
  have ne_9 : ba ≠ r_7 := Nat.ne_of_lt (Nat.lt_of_lt_of_le V1.lt z_7)
  have o_10 : n0 ≤ r_7 := Nat.le_trans Z0 z_7
  have z_11 : h0.size ≤ r_7 := Nat.le_trans K0.1 z_7
  have N_7 := Fr.app N_5 n_7
  have f_12 : Old Z n0 T_7.heap := O.ext K_7
  have f_13 : Exa Z T_7.heap ax "java/lang/StringBuilder" := E1.ext K_7
  have f_14 : Fld Z T_7.heap ax "java/lang/AbstractStringBuilder" "value" "[B" (.ref ba) := F1_value.ext K_7
  have f_15 : Fld Z T_7.heap ax "java/lang/AbstractStringBuilder" "coder" "B" (.int (0 : Int32)) := F1_coder.ext K_7
  have f_16 : Fld Z T_7.heap ax "java/lang/AbstractStringBuilder" "count" "I" (.int pn) := F1_count.ext K_7
  have f_17 : Fld Z T_7.heap ax "java/lang/AbstractStringBuilder" "maybeLatin1" "Z" (.int (0 : Int32)) := F1_maybeLatin1.ext K_7
  have f_18 : Arv Z T_7.heap ba kb .byte (16 : Int32) (L1 cs) (.int (0 : Int32)) := V1.ext K_7
  have K_19 : Keep h0 T_7.heap [ax] := K0.ext K_7
  have y_19 : n0 ≤ T_7.heap.size := Nat.le_trans Z0 K_19.1
  refine Goes.go (U' := (T_7.setTop (mkF m 35 #[sR_ ax, sI_ mn, sI_ (16 : Int32)] [(.ref r_7), (.ref ax)]))) st_7 ?_
  obtain ⟨T_20, h_20, X_20, e_20, W_20, st_20⟩ := putF X_7 hx hZ hown (host := "") (Or.inl (wdOf hw 25 rfl)) Via.refl (rfl : T_7.heap = T_7.heap) f_14 f_13 (Or.inl (wdOf hw 26 rfl)) (wdOf hw 10 rfl) (ty := (.array .byte)) (by decide) rfl rfl (g := (mkF m 35 #[sR_ ax, sI_ mn, sI_ (16 : Int32)] [(.ref r_7), (.ref ax)])) rfl rfl (hb hby d_rm_ec10_35)
  have N_20 := Fr.snoc X_20 N_7 o0
  have f_21 : Old Z n0 h_20 := f_12.wr W_20 o0
  have f_22 : Exa Z h_20 ax "java/lang/StringBuilder" := f_13.wr W_20
  have f_23 : Fld Z h_20 ax "java/lang/AbstractStringBuilder" "value" "[B" (.ref r_7) := f_14.same W_20
  have f_24 : Fld Z h_20 ax "java/lang/AbstractStringBuilder" "coder" "B" (.int (0 : Int32)) := f_15.other W_20 (Or.inr (slot_ne (Or.inl (wdOf hw 28 rfl)) (Or.inl (wdOf hw 26 rfl)) (by decide) (t := .byte) (t' := (.array .byte)) (by decide) (by decide)))
  have f_25 : Fld Z h_20 ax "java/lang/AbstractStringBuilder" "count" "I" (.int pn) := f_16.other W_20 (Or.inr (slot_ne (Or.inl (wdOf hw 79 rfl)) (Or.inl (wdOf hw 26 rfl)) (by decide) (t := .int) (t' := (.array .byte)) (by decide) (by decide)))
  have f_26 : Fld Z h_20 ax "java/lang/AbstractStringBuilder" "maybeLatin1" "Z" (.int (0 : Int32)) := f_17.other W_20 (Or.inr (slot_ne (Or.inl (wdOf hw 245 rfl)) (Or.inl (wdOf hw 26 rfl)) (by decide) (t := .boolean) (t' := (.array .byte)) (by decide) (by decide)))
  have f_27 : Arv Z h_20 ba kb .byte (16 : Int32) (L1 cs) (.int (0 : Int32)) := f_18.other W_20 (Ne.symm (f_13.neArv f_18 (wdOf hw 10 rfl)))
  have f_28 : Arv Z h_20 r_7 k_7 .byte (34 : Int32) (L1 cs) (.int (0 : Int32)) := V_7.other W_20 (Ne.symm ne_8)
  have K_29 : Keep h0 h_20 [ax] := K_19.wr W_20 (Or.inl (List.mem_of_getElem? (i := 0) rfl))
  have y_29 : n0 ≤ h_20.size := Nat.le_trans Z0 K_29.1
  refine Goes.go (U' := (T_20.setTop (mkF m 38 #[sR_ ax, sI_ mn, sI_ (16 : Int32)] []))) st_20 ?_
  refine Goes.retV X_20 hx hlk hret (hb hby d_rm_ec10_38) (by decide) (by decide) ?_
  try rw [e_20]
  exact ⟨_, _, rfl, N_20, K_29, z_11, f_22, f_23, f_24, f_25, f_26, f_28⟩
theorem d_rm_nc1_0 : decode jdk_68_method_10_code 0 = .ok (.aload_n 0, 1) := by decide +kernel
theorem d_rm_nc1_1 : decode jdk_68_method_10_code 1 = .ok (.getfield 15, 3) := by decide +kernel
theorem d_rm_nc1_4 : decode jdk_68_method_10_code 4 = .ok (.arraylength, 1) := by decide +kernel
theorem d_rm_nc1_5 : decode jdk_68_method_10_code 5 = .ok (.istore_n 2, 1) := by decide +kernel
theorem d_rm_nc1_6 : decode jdk_68_method_10_code 6 = .ok (.iload_n 1, 1) := by decide +kernel
theorem d_rm_nc1_7 : decode jdk_68_method_10_code 7 = .ok (.aload_n 0, 1) := by decide +kernel
theorem d_rm_nc1_8 : decode jdk_68_method_10_code 8 = .ok (.getfield 22, 3) := by decide +kernel
theorem d_rm_nc1_11 : decode jdk_68_method_10_code 11 = .ok (.ishl, 1) := by decide +kernel
theorem d_rm_nc1_12 : decode jdk_68_method_10_code 12 = .ok (.istore_n 3, 1) := by decide +kernel
theorem d_rm_nc1_13 : decode jdk_68_method_10_code 13 = .ok (.iload_n 3, 1) := by decide +kernel
theorem d_rm_nc1_14 : decode jdk_68_method_10_code 14 = .ok (.iload_n 2, 1) := by decide +kernel
theorem d_rm_nc1_15 : decode jdk_68_method_10_code 15 = .ok (.isub, 1) := by decide +kernel
theorem d_rm_nc1_16 : decode jdk_68_method_10_code 16 = .ok (.istore 4, 2) := by decide +kernel
theorem d_rm_nc1_18 : decode jdk_68_method_10_code 18 = .ok (.iload_n 2, 1) := by decide +kernel
theorem d_rm_nc1_19 : decode jdk_68_method_10_code 19 = .ok (.iload 4, 2) := by decide +kernel
theorem d_rm_nc1_21 : decode jdk_68_method_10_code 21 = .ok (.iload_n 2, 1) := by decide +kernel
theorem d_rm_nc1_22 : decode jdk_68_method_10_code 22 = .ok (.iconst 2, 1) := by decide +kernel
theorem d_rm_nc1_23 : decode jdk_68_method_10_code 23 = .ok (.aload_n 0, 1) := by decide +kernel
theorem d_rm_nc1_24 : decode jdk_68_method_10_code 24 = .ok (.getfield 22, 3) := by decide +kernel
theorem d_rm_nc1_27 : decode jdk_68_method_10_code 27 = .ok (.ishl, 1) := by decide +kernel
theorem d_rm_nc1_28 : decode jdk_68_method_10_code 28 = .ok (.iadd, 1) := by decide +kernel
theorem d_rm_nc1_29 : decode jdk_68_method_10_code 29 = .ok (.invokestatic 114, 3) := by decide +kernel
theorem d_rm_nc1_32 : decode jdk_68_method_10_code 32 = .ok (.istore 5, 2) := by decide +kernel
theorem d_rm_nc1_34 : decode jdk_68_method_10_code 34 = .ok (.iload 5, 2) := by decide +kernel
theorem d_rm_nc1_36 : decode jdk_68_method_10_code 36 = .ok (.ldc 39, 2) := by decide +kernel
theorem d_rm_nc1_38 : decode jdk_68_method_10_code 38 = .ok (.if_icmp .ne 13, 3) := by decide +kernel
theorem d_rm_nc1_51 : decode jdk_68_method_10_code 51 = .ok (.iload 5, 2) := by decide +kernel
theorem d_rm_nc1_53 : decode jdk_68_method_10_code 53 = .ok (.aload_n 0, 1) := by decide +kernel
theorem d_rm_nc1_54 : decode jdk_68_method_10_code 54 = .ok (.getfield 22, 3) := by decide +kernel
theorem d_rm_nc1_57 : decode jdk_68_method_10_code 57 = .ok (.ishr, 1) := by decide +kernel
theorem d_rm_nc1_58 : decode jdk_68_method_10_code 58 = .ok (.ireturn, 1) := by decide +kernel
set_option maxHeartbeats 4000000 in
theorem ef_rm_nc1 (m : MethodId) (x0 : Addr) (x1 : Int32)  : entryFrame m #[(.ref x0), (.int x1)] 6 = mkF m 0 #[.val (.ref x0), .val (.int x1), .unset, .unset, .unset, .unset] [] := by first | (simp [entryFrame, mkF, argsToLocals, catR, catN, catI, catJ]; done) | rfl
set_option maxRecDepth 65536 in
set_option maxHeartbeats 40000000 in
theorem rm_nc1 (l : Launch) (Z : State) (a0 : Array Value) (hw : ∀ d ∈ tables_1, d.before a0 Z = true) (ws : List Jvm.Cond) (kc : Int32) (sx : Value) (ax ba : Addr) (kb : ClassId) (mn : Int32) (vs : List Value) (h0 : Heap) (n0 : Nat) (Z0 : n0 ≤ h0.size) (G : Stt Z kc sx) (O : Old Z n0 h0) (F1_value : Fld Z h0 ax "java/lang/AbstractStringBuilder" "value" "[B" (.ref ba)) (F1_coder : Fld Z h0 ax "java/lang/AbstractStringBuilder" "coder" "B" (.int (1 : Int32))) (V1 : Arv Z h0 ba kb .byte (32 : Int32) vs (.int (0 : Int32))) (hg : ((mn <<< ((1 : Int32) &&& 31)) - (32 : Int32)) < (36 : Int32)) :
    Pays l Z (⟨"java/lang/AbstractStringBuilder", "newCapacity", "(I)I"⟩ : MethodName) jdk_68_method_10_code 6 (some .int) ws ({ frames := 2, cells := 0, slots := 0, locals := 29 } : Room) #[(.ref ax), (.int mn)] h0 (fun v h L => v = some (.int (34 : Int32)) ∧ Fr n0 L ∧ h = h0) := by
  refine Pays.of (plainFor_of_name (by first | (simp [plainName, overriddenIn]; done) | decide +kernel)) ?_
  intro p e s m below meth c s₁ hx hby hml hown hnm hret hlk hZ e0 X0
  have N0 := Fr.nil n0
  have K0 : Keep h0 h0 [] := Keep.refl _ _
  refine Goes.go (U' := (s₁.setTop (mkF m 0 #[sR_ ax, sI_ mn, sU_, sU_, sU_, sU_] []))) (fun t kt => castTop (ef_rm_nc1 m ax mn) kt) ?_
  refine Goes.go (U' := (s₁.setTop (mkF m 1 #[sR_ ax, sI_ mn, sU_, sU_, sU_, sU_] [(.ref ax)]))) (fun t kt => ?_) ?_
  · skip
    refine XS.aloadN X0.here hx rfl (hb hby d_rm_nc1_0) rfl rfl ?_
    exact kt
  obtain ⟨T_1, X_1, e_1, st_1⟩ := getF X0 hx hZ hown (host := "") (Or.inl (wdOf hw 25 rfl)) Via.refl e0 F1_value (g := (mkF m 1 #[sR_ ax, sI_ mn, sU_, sU_, sU_, sU_] [(.ref ax)])) rfl rfl (hb hby d_rm_nc1_1)
  refine Goes.go (U' := (T_1.setTop (mkF m 4 #[sR_ ax, sI_ mn, sU_, sU_, sU_, sU_] [(.ref ba)]))) st_1 ?_
  obtain ⟨cl_2, Ar_2, q_2, S_2, M_2, H_2, G_2⟩ := id V1
  refine Goes.go (U' := (T_1.setTop (mkF m 5 #[sR_ ax, sI_ mn, sU_, sU_, sU_, sU_] [(.int (32 : Int32))]))) (fun t kt => ?_) ?_
  · skip
    refine X_1.arraylength hx (by rw [e_1]; exact Ar_2.1) (State.isArrayOf_alike hZ.alike Ar_2.2.1) (g := (mkF m 4 #[sR_ ax, sI_ mn, sU_, sU_, sU_, sU_] [(.ref ba)])) rfl rfl (hb hby d_rm_nc1_4) _ ?_
    rw [len_of S_2 M_2]
    exact kt
  refine Goes.go (U' := (T_1.setTop (mkF m 8 #[sR_ ax, sI_ mn, sI_ (32 : Int32), sU_, sU_, sU_] [(.ref ax), (.int mn)]))) (fun t kt => ?_) ?_
  · skip
    refine XS.istoreN X_1.here hx rfl (hb hby d_rm_nc1_5) rfl (l' := #[sR_ ax, sI_ mn, sI_ (32 : Int32), sU_, sU_, sU_]) rfl ?_
    refine XS.iloadN X_1.here hx rfl (hb hby d_rm_nc1_6) rfl ?_
    refine XS.aloadN X_1.here hx rfl (hb hby d_rm_nc1_7) rfl rfl ?_
    exact kt
  obtain ⟨T_3, X_3, e_3, st_3⟩ := getF X_1 hx hZ hown (host := "") (Or.inl (wdOf hw 27 rfl)) Via.refl e_1 F1_coder (g := (mkF m 8 #[sR_ ax, sI_ mn, sI_ (32 : Int32), sU_, sU_, sU_] [(.ref ax), (.int mn)])) rfl rfl (hb hby d_rm_nc1_8)
  refine Goes.go (U' := (T_3.setTop (mkF m 11 #[sR_ ax, sI_ mn, sI_ (32 : Int32), sU_, sU_, sU_] [(.int (1 : Int32)), (.int mn)]))) st_3 ?_
  refine Goes.go (U' := (T_3.setTop (mkF m 24 #[sR_ ax, sI_ mn, sI_ (32 : Int32), sI_ (mn <<< ((1 : Int32) &&& 31)), sI_ ((mn <<< ((1 : Int32) &&& 31)) - (32 : Int32)), sU_] [(.ref ax), (.int (2 : Int32)), (.int (32 : Int32)), (.int ((mn <<< ((1 : Int32) &&& 31)) - (32 : Int32))), (.int (32 : Int32))]))) (fun t kt => ?_) ?_
  · skip
    refine XS.ishl X_3.here hx rfl (hb hby d_rm_nc1_11) rfl ?_
    refine XS.istoreN X_3.here hx rfl (hb hby d_rm_nc1_12) rfl (l' := #[sR_ ax, sI_ mn, sI_ (32 : Int32), sI_ (mn <<< ((1 : Int32) &&& 31)), sU_, sU_]) rfl ?_
    refine XS.iloadN X_3.here hx rfl (hb hby d_rm_nc1_13) rfl ?_
    refine XS.iloadN X_3.here hx rfl (hb hby d_rm_nc1_14) rfl ?_
    refine XS.isub X_3.here hx rfl (hb hby d_rm_nc1_15) rfl ?_
    refine XS.istore X_3.here hx rfl (hb hby d_rm_nc1_16) rfl (l' := #[sR_ ax, sI_ mn, sI_ (32 : Int32), sI_ (mn <<< ((1 : Int32) &&& 31)), sI_ ((mn <<< ((1 : Int32) &&& 31)) - (32 : Int32)), sU_]) rfl ?_
    refine XS.iloadN X_3.here hx rfl (hb hby d_rm_nc1_18) rfl ?_
    refine XS.iload X_3.here hx rfl (hb hby d_rm_nc1_19) rfl ?_
    show Steps p.tables e below (T_3.setTop (mkF m 21 #[sR_ ax, sI_ mn, sI_ (32 : Int32), sI_ (mn <<< ((1 : Int32) &&& 31)), sI_ ((mn <<< ((1 : Int32) &&& 31)) - (32 : Int32)), sU_] [(.int ((mn <<< ((1 : Int32) &&& 31)) - (32 : Int32))), (.int (32 : Int32))])) t
    refine XS.iloadN X_3.here hx rfl (hb hby d_rm_nc1_21) rfl ?_
    refine XS.iconst X_3.here hx rfl (hb hby d_rm_nc1_22) ?_
    refine XS.aloadN X_3.here hx rfl (hb hby d_rm_nc1_23) rfl rfl ?_
    exact kt
  obtain ⟨T_4, X_4, e_4, st_4⟩ := getF X_3 hx hZ hown (host := "") (Or.inl (wdOf hw 27 rfl)) Via.refl e_3 F1_coder (g := (mkF m 24 #[sR_ ax, sI_ mn, sI_ (32 : Int32), sI_ (mn <<< ((1 : Int32) &&& 31)), sI_ ((mn <<< ((1 : Int32) &&& 31)) - (32 : Int32)), sU_] [(.ref ax), (.int (2 : Int32)), (.int (32 : Int32)), (.int ((mn <<< ((1 : Int32) &&& 31)) - (32 : Int32))), (.int (32 : Int32))])) rfl rfl (hb hby d_rm_nc1_24)
  refine Goes.go (U' := (T_4.setTop (mkF m 27 #[sR_ ax, sI_ mn, sI_ (32 : Int32), sI_ (mn <<< ((1 : Int32) &&& 31)), sI_ ((mn <<< ((1 : Int32) &&& 31)) - (32 : Int32)), sU_] [(.int (1 : Int32)), (.int (2 : Int32)), (.int (32 : Int32)), (.int ((mn <<< ((1 : Int32) &&& 31)) - (32 : Int32))), (.int (32 : Int32))]))) st_4 ?_
  refine Goes.go (U' := (T_4.setTop (mkF m 28 #[sR_ ax, sI_ mn, sI_ (32 : Int32), sI_ (mn <<< ((1 : Int32) &&& 31)), sI_ ((mn <<< ((1 : Int32) &&& 31)) - (32 : Int32)), sU_] [(.int ((2 : Int32) <<< ((1 : Int32) &&& 31))), (.int (32 : Int32)), (.int ((mn <<< ((1 : Int32) &&& 31)) - (32 : Int32))), (.int (32 : Int32))]))) (fun t kt => ?_) ?_
  · skip
    refine XS.ishl X_4.here hx rfl (hb hby d_rm_nc1_27) rfl ?_
    exact kt
  rw [show ((2 : Int32) <<< ((1 : Int32) &&& 31)) = (4 : Int32) from by decide]
  refine Goes.go (U' := (T_4.setTop (mkF m 29 #[sR_ ax, sI_ mn, sI_ (32 : Int32), sI_ (mn <<< ((1 : Int32) &&& 31)), sI_ ((mn <<< ((1 : Int32) &&& 31)) - (32 : Int32)), sU_] [(.int ((32 : Int32) + (4 : Int32))), (.int ((mn <<< ((1 : Int32) &&& 31)) - (32 : Int32))), (.int (32 : Int32))]))) (fun t kt => ?_) ?_
  · skip
    refine XS.iadd X_4.here hx rfl (hb hby d_rm_nc1_28) rfl ?_
    exact kt
  rw [show ((32 : Int32) + (4 : Int32)) = (36 : Int32) from by decide]
  obtain ⟨v_5, T_5, L_5, X_5, q_5, st_5⟩ := callStatic X_4 hx hZ (y := (⟨"jdk/internal/util/ArraysSupport", "newLength", "(III)I"⟩ : MethodName)) (W := 0) hown (wdOf hw 118 rfl) (wdOf hw 119 rfl) (wdOf hw 120 rfl) (wdOf hw 121 rfl) (by decide) (rm_nl l Z a0 hw [] kc sx (32 : Int32) ((mn <<< ((1 : Int32) &&& 31)) - (32 : Int32)) (36 : Int32) h0 n0 Z0 G O hg (by decide) (by decide)) (by decide) (by decide) (by decide) (by decide) e_4 (g := (mkF m 29 #[sR_ ax, sI_ mn, sI_ (32 : Int32), sI_ (mn <<< ((1 : Int32) &&& 31)), sI_ ((mn <<< ((1 : Int32) &&& 31)) - (32 : Int32)), sU_] [(.int (36 : Int32)), (.int ((mn <<< ((1 : Int32) &&& 31)) - (32 : Int32))), (.int (32 : Int32))])) rfl (by rw [hml]; rfl) (argsL := [(.int (32 : Int32)), (.int ((mn <<< ((1 : Int32) &&& 31)) - (32 : Int32))), (.int (36 : Int32))]) (rest := []) (lenOf pd_2 rfl) rfl rfl (Nat.le_refl _) (hb hby d_rm_nc1_29)
  obtain ⟨rfl, n_5, K_5⟩ := q_5
  have N_5 := Fr.app N0 n_5
  refine Goes.go (U' := (T_5.setTop (mkF m 32 #[sR_ ax, sI_ mn, sI_ (32 : Int32), sI_ (mn <<< ((1 : Int32) &&& 31)), sI_ ((mn <<< ((1 : Int32) &&& 31)) - (32 : Int32)), sU_] [(.int ((32 : Int32) + (36 : Int32)))]))) st_5 ?_
  rw [show ((32 : Int32) + (36 : Int32)) = (68 : Int32) from by decide]
  refine Goes.go (U' := (T_5.setTop (mkF m 54 #[sR_ ax, sI_ mn, sI_ (32 : Int32), sI_ (mn <<< ((1 : Int32) &&& 31)), sI_ ((mn <<< ((1 : Int32) &&& 31)) - (32 : Int32)), sI_ (68 : Int32)] [(.ref ax), (.int (68 : Int32))]))) (fun t kt => ?_) ?_
  · skip
    refine XS.istore X_5.here hx rfl (hb hby d_rm_nc1_32) rfl (l' := #[sR_ ax, sI_ mn, sI_ (32 : Int32), sI_ (mn <<< ((1 : Int32) &&& 31)), sI_ ((mn <<< ((1 : Int32) &&& 31)) - (32 : Int32)), sI_ (68 : Int32)]) rfl ?_
    refine XS.iload X_5.here hx rfl (hb hby d_rm_nc1_34) rfl ?_
    refine Jvm.Stand.ldcI X_5 hx hown (mvT hZ (wdOf hw 127 rfl)) rfl (hb hby d_rm_nc1_36) ?_
    refine XS.icmpYes X_5.here hx rfl (pc0 := 38) (pc' := 51) rfl (hb hby d_rm_nc1_38) rfl (XT.ii_ne_t (by decide)) (by decide) (by decide) ?_
    refine XS.iload X_5.here hx rfl (hb hby d_rm_nc1_51) rfl ?_
    refine XS.aloadN X_5.here hx rfl (hb hby d_rm_nc1_53) rfl rfl ?_
    exact kt
  obtain ⟨T_6, X_6, e_6, st_6⟩ := getF X_5 hx hZ hown (host := "") (Or.inl (wdOf hw 27 rfl)) Via.refl K_5 F1_coder (g := (mkF m 54 #[sR_ ax, sI_ mn, sI_ (32 : Int32), sI_ (mn <<< ((1 : Int32) &&& 31)), sI_ ((mn <<< ((1 : Int32) &&& 31)) - (32 : Int32)), sI_ (68 : Int32)] [(.ref ax), (.int (68 : Int32))])) rfl rfl (hb hby d_rm_nc1_54)
  refine Goes.go (U' := (T_6.setTop (mkF m 57 #[sR_ ax, sI_ mn, sI_ (32 : Int32), sI_ (mn <<< ((1 : Int32) &&& 31)), sI_ ((mn <<< ((1 : Int32) &&& 31)) - (32 : Int32)), sI_ (68 : Int32)] [(.int (1 : Int32)), (.int (68 : Int32))]))) st_6 ?_
  refine Goes.go (U' := (T_6.setTop (mkF m 58 #[sR_ ax, sI_ mn, sI_ (32 : Int32), sI_ (mn <<< ((1 : Int32) &&& 31)), sI_ ((mn <<< ((1 : Int32) &&& 31)) - (32 : Int32)), sI_ (68 : Int32)] [(.int ((68 : Int32) >>> ((1 : Int32) &&& 31)))]))) (fun t kt => ?_) ?_
  · skip
    refine XS.ishr X_6.here hx rfl (hb hby d_rm_nc1_57) rfl ?_
    exact kt
  rw [show ((68 : Int32) >>> ((1 : Int32) &&& 31)) = (34 : Int32) from by decide]
  refine Goes.retI X_6 hx hlk hret (hb hby d_rm_nc1_58) (by decide) (by decide) ?_
  try rw [e_6]
  exact ⟨rfl, N_5, rfl⟩
theorem d_rm_ec01_0 : decode jdk_68_method_9_code 0 = .ok (.aload_n 0, 1) := by decide +kernel
theorem d_rm_ec01_1 : decode jdk_68_method_9_code 1 = .ok (.getfield 15, 3) := by decide +kernel
theorem d_rm_ec01_4 : decode jdk_68_method_9_code 4 = .ok (.arraylength, 1) := by decide +kernel
theorem d_rm_ec01_5 : decode jdk_68_method_9_code 5 = .ok (.aload_n 0, 1) := by decide +kernel
theorem d_rm_ec01_6 : decode jdk_68_method_9_code 6 = .ok (.getfield 22, 3) := by decide +kernel
theorem d_rm_ec01_9 : decode jdk_68_method_9_code 9 = .ok (.ishr, 1) := by decide +kernel
theorem d_rm_ec01_10 : decode jdk_68_method_9_code 10 = .ok (.istore_n 2, 1) := by decide +kernel
theorem d_rm_ec01_11 : decode jdk_68_method_9_code 11 = .ok (.iload_n 1, 1) := by decide +kernel
theorem d_rm_ec01_12 : decode jdk_68_method_9_code 12 = .ok (.iload_n 2, 1) := by decide +kernel
theorem d_rm_ec01_13 : decode jdk_68_method_9_code 13 = .ok (.isub, 1) := by decide +kernel
theorem d_rm_ec01_14 : decode jdk_68_method_9_code 14 = .ok (.ifCond .le 24, 3) := by decide +kernel
theorem d_rm_ec01_38 : decode jdk_68_method_9_code 38 = .ok (.return_, 1) := by decide +kernel
set_option maxHeartbeats 4000000 in
theorem ef_rm_ec01 (m : MethodId) (x0 : Addr) (x1 : Int32)  : entryFrame m #[(.ref x0), (.int x1)] 3 = mkF m 0 #[.val (.ref x0), .val (.int x1), .unset] [] := by first | (simp [entryFrame, mkF, argsToLocals, catR, catN, catI, catJ]; done) | rfl
set_option maxRecDepth 65536 in
set_option maxHeartbeats 40000000 in
theorem rm_ec01 (l : Launch) (Z : State) (a0 : Array Value) (hw : ∀ d ∈ tables_1, d.before a0 Z = true) (ws : List Jvm.Cond) (kc : Int32) (sx : Value) (ax ba : Addr) (kb : ClassId) (mn : Int32) (vs : List Value) (h0 : Heap) (n0 : Nat) (Z0 : n0 ≤ h0.size) (G : Stt Z kc sx) (O : Old Z n0 h0) (F1_value : Fld Z h0 ax "java/lang/AbstractStringBuilder" "value" "[B" (.ref ba)) (F1_coder : Fld Z h0 ax "java/lang/AbstractStringBuilder" "coder" "B" (.int (1 : Int32))) (V1 : Arv Z h0 ba kb .byte (32 : Int32) vs (.int (0 : Int32))) (hm : ¬ 0 < (mn - (16 : Int32))) :
    Pays l Z (⟨"java/lang/AbstractStringBuilder", "ensureCapacityInternal", "(I)V"⟩ : MethodName) jdk_68_method_9_code 3 none ws ({ frames := 0, cells := 0, slots := 0, locals := 0 } : Room) #[(.ref ax), (.int mn)] h0 (fun v h L => v = none ∧ Fr n0 L ∧ h = h0) := by
  refine Pays.of (plainFor_of_name (by first | (simp [plainName, overriddenIn]; done) | decide +kernel)) ?_
  intro p e s m below meth c s₁ hx hby hml hown hnm hret hlk hZ e0 X0
  have N0 := Fr.nil n0
  have K0 : Keep h0 h0 [] := Keep.refl _ _
  refine Goes.go (U' := (s₁.setTop (mkF m 0 #[sR_ ax, sI_ mn, sU_] []))) (fun t kt => castTop (ef_rm_ec01 m ax mn) kt) ?_
  refine Goes.go (U' := (s₁.setTop (mkF m 1 #[sR_ ax, sI_ mn, sU_] [(.ref ax)]))) (fun t kt => ?_) ?_
  · skip
    refine XS.aloadN X0.here hx rfl (hb hby d_rm_ec01_0) rfl rfl ?_
    exact kt
  obtain ⟨T_1, X_1, e_1, st_1⟩ := getF X0 hx hZ hown (host := "") (Or.inl (wdOf hw 25 rfl)) Via.refl e0 F1_value (g := (mkF m 1 #[sR_ ax, sI_ mn, sU_] [(.ref ax)])) rfl rfl (hb hby d_rm_ec01_1)
  refine Goes.go (U' := (T_1.setTop (mkF m 4 #[sR_ ax, sI_ mn, sU_] [(.ref ba)]))) st_1 ?_
  obtain ⟨cl_2, Ar_2, q_2, S_2, M_2, H_2, G_2⟩ := id V1
  refine Goes.go (U' := (T_1.setTop (mkF m 5 #[sR_ ax, sI_ mn, sU_] [(.int (32 : Int32))]))) (fun t kt => ?_) ?_
  · skip
    refine X_1.arraylength hx (by rw [e_1]; exact Ar_2.1) (State.isArrayOf_alike hZ.alike Ar_2.2.1) (g := (mkF m 4 #[sR_ ax, sI_ mn, sU_] [(.ref ba)])) rfl rfl (hb hby d_rm_ec01_4) _ ?_
    rw [len_of S_2 M_2]
    exact kt
  refine Goes.go (U' := (T_1.setTop (mkF m 6 #[sR_ ax, sI_ mn, sU_] [(.ref ax), (.int (32 : Int32))]))) (fun t kt => ?_) ?_
  · skip
    refine XS.aloadN X_1.here hx rfl (hb hby d_rm_ec01_5) rfl rfl ?_
    exact kt
  obtain ⟨T_3, X_3, e_3, st_3⟩ := getF X_1 hx hZ hown (host := "") (Or.inl (wdOf hw 27 rfl)) Via.refl e_1 F1_coder (g := (mkF m 6 #[sR_ ax, sI_ mn, sU_] [(.ref ax), (.int (32 : Int32))])) rfl rfl (hb hby d_rm_ec01_6)
  refine Goes.go (U' := (T_3.setTop (mkF m 9 #[sR_ ax, sI_ mn, sU_] [(.int (1 : Int32)), (.int (32 : Int32))]))) st_3 ?_
  refine Goes.go (U' := (T_3.setTop (mkF m 10 #[sR_ ax, sI_ mn, sU_] [(.int ((32 : Int32) >>> ((1 : Int32) &&& 31)))]))) (fun t kt => ?_) ?_
  · skip
    refine XS.ishr X_3.here hx rfl (hb hby d_rm_ec01_9) rfl ?_
    exact kt
  rw [show ((32 : Int32) >>> ((1 : Int32) &&& 31)) = (16 : Int32) from by decide]
  refine Goes.go (U' := (T_3.setTop (mkF m 38 #[sR_ ax, sI_ mn, sI_ (16 : Int32)] []))) (fun t kt => ?_) ?_
  · skip
    refine XS.istoreN X_3.here hx rfl (hb hby d_rm_ec01_10) rfl (l' := #[sR_ ax, sI_ mn, sI_ (16 : Int32)]) rfl ?_
    refine XS.iloadN X_3.here hx rfl (hb hby d_rm_ec01_11) rfl ?_
    refine XS.iloadN X_3.here hx rfl (hb hby d_rm_ec01_12) rfl ?_
    refine XS.isub X_3.here hx rfl (hb hby d_rm_ec01_13) rfl ?_
    refine XS.ifYes X_3.here hx rfl (pc0 := 14) (pc' := 38) rfl (hb hby d_rm_ec01_14) rfl (XT.i0_le_t hm) (by decide) (by decide) ?_
    exact kt
  refine Goes.retV X_3 hx hlk hret (hb hby d_rm_ec01_38) (by decide) (by decide) ?_
  try rw [e_3]
  exact ⟨rfl, N0, rfl⟩
theorem d_rm_ec11_0 : decode jdk_68_method_9_code 0 = .ok (.aload_n 0, 1) := by decide +kernel
theorem d_rm_ec11_1 : decode jdk_68_method_9_code 1 = .ok (.getfield 15, 3) := by decide +kernel
theorem d_rm_ec11_4 : decode jdk_68_method_9_code 4 = .ok (.arraylength, 1) := by decide +kernel
theorem d_rm_ec11_5 : decode jdk_68_method_9_code 5 = .ok (.aload_n 0, 1) := by decide +kernel
theorem d_rm_ec11_6 : decode jdk_68_method_9_code 6 = .ok (.getfield 22, 3) := by decide +kernel
theorem d_rm_ec11_9 : decode jdk_68_method_9_code 9 = .ok (.ishr, 1) := by decide +kernel
theorem d_rm_ec11_10 : decode jdk_68_method_9_code 10 = .ok (.istore_n 2, 1) := by decide +kernel
theorem d_rm_ec11_11 : decode jdk_68_method_9_code 11 = .ok (.iload_n 1, 1) := by decide +kernel
theorem d_rm_ec11_12 : decode jdk_68_method_9_code 12 = .ok (.iload_n 2, 1) := by decide +kernel
theorem d_rm_ec11_13 : decode jdk_68_method_9_code 13 = .ok (.isub, 1) := by decide +kernel
theorem d_rm_ec11_14 : decode jdk_68_method_9_code 14 = .ok (.ifCond .le 24, 3) := by decide +kernel
theorem d_rm_ec11_17 : decode jdk_68_method_9_code 17 = .ok (.aload_n 0, 1) := by decide +kernel
theorem d_rm_ec11_18 : decode jdk_68_method_9_code 18 = .ok (.aload_n 0, 1) := by decide +kernel
theorem d_rm_ec11_19 : decode jdk_68_method_9_code 19 = .ok (.getfield 15, 3) := by decide +kernel
theorem d_rm_ec11_22 : decode jdk_68_method_9_code 22 = .ok (.aload_n 0, 1) := by decide +kernel
theorem d_rm_ec11_23 : decode jdk_68_method_9_code 23 = .ok (.iload_n 1, 1) := by decide +kernel
theorem d_rm_ec11_24 : decode jdk_68_method_9_code 24 = .ok (.invokevirtual 104, 3) := by decide +kernel
theorem d_rm_ec11_27 : decode jdk_68_method_9_code 27 = .ok (.aload_n 0, 1) := by decide +kernel
theorem d_rm_ec11_28 : decode jdk_68_method_9_code 28 = .ok (.getfield 22, 3) := by decide +kernel
theorem d_rm_ec11_31 : decode jdk_68_method_9_code 31 = .ok (.ishl, 1) := by decide +kernel
theorem d_rm_ec11_32 : decode jdk_68_method_9_code 32 = .ok (.invokestatic 108, 3) := by decide +kernel
theorem d_rm_ec11_35 : decode jdk_68_method_9_code 35 = .ok (.putfield 15, 3) := by decide +kernel
theorem d_rm_ec11_38 : decode jdk_68_method_9_code 38 = .ok (.return_, 1) := by decide +kernel
set_option maxHeartbeats 4000000 in
theorem ef_rm_ec11 (m : MethodId) (x0 : Addr) (x1 : Int32)  : entryFrame m #[(.ref x0), (.int x1)] 3 = mkF m 0 #[.val (.ref x0), .val (.int x1), .unset] [] := by first | (simp [entryFrame, mkF, argsToLocals, catR, catN, catI, catJ]; done) | rfl
set_option maxRecDepth 65536 in
set_option maxHeartbeats 40000000 in
theorem rm_ec11 (l : Launch) (Z : State) (a0 : Array Value) (hw : ∀ d ∈ tables_1, d.before a0 Z = true) (ws : List Jvm.Cond) (kc : Int32) (sx : Value) (ax ba : Addr) (kb : ClassId) (mn pn : Int32) (cs : List Int32) (h0 : Heap) (n0 : Nat) (Z0 : n0 ≤ h0.size) (G : Stt Z kc sx) (O : Old Z n0 h0) (E1 : Exa Z h0 ax "java/lang/StringBuilder") (F1_value : Fld Z h0 ax "java/lang/AbstractStringBuilder" "value" "[B" (.ref ba)) (F1_coder : Fld Z h0 ax "java/lang/AbstractStringBuilder" "coder" "B" (.int (1 : Int32))) (F1_count : Fld Z h0 ax "java/lang/AbstractStringBuilder" "count" "I" (.int pn)) (F1_maybeLatin1 : Fld Z h0 ax "java/lang/AbstractStringBuilder" "maybeLatin1" "Z" (.int (0 : Int32))) (V1 : Arv Z h0 ba kb .byte (32 : Int32) (U2 cs) (.int (0 : Int32))) (o0 : n0 ≤ ax) (hm : 0 < (mn - (16 : Int32))) (hg : ((mn <<< ((1 : Int32) &&& 31)) - (32 : Int32)) < (36 : Int32)) (hle : cs.length ≤ 3) :
    Pays l Z (⟨"java/lang/AbstractStringBuilder", "ensureCapacityInternal", "(I)V"⟩ : MethodName) jdk_68_method_9_code 3 none ws ({ frames := 3, cells := 1, slots := 68, locals := 48 } : Room) #[(.ref ax), (.int mn)] h0 (fun v h L => ∃ b k, v = none ∧ Fr n0 L ∧ Keep h0 h [ax] ∧ h0.size ≤ b ∧ Exa Z h ax "java/lang/StringBuilder" ∧ Fld Z h ax "java/lang/AbstractStringBuilder" "value" "[B" (.ref b) ∧ Fld Z h ax "java/lang/AbstractStringBuilder" "coder" "B" (.int (1 : Int32)) ∧ Fld Z h ax "java/lang/AbstractStringBuilder" "count" "I" (.int pn) ∧ Fld Z h ax "java/lang/AbstractStringBuilder" "maybeLatin1" "Z" (.int (0 : Int32)) ∧ Arv Z h b k .byte (68 : Int32) (U2 cs) (.int (0 : Int32))) := by
  refine Pays.of (plainFor_of_name (by first | (simp [plainName, overriddenIn]; done) | decide +kernel)) ?_
  intro p e s m below meth c s₁ hx hby hml hown hnm hret hlk hZ e0 X0
  have N0 := Fr.nil n0
  have K0 : Keep h0 h0 [ax] := Keep.refl _ _
  refine Goes.go (U' := (s₁.setTop (mkF m 0 #[sR_ ax, sI_ mn, sU_] []))) (fun t kt => castTop (ef_rm_ec11 m ax mn) kt) ?_
  refine Goes.go (U' := (s₁.setTop (mkF m 1 #[sR_ ax, sI_ mn, sU_] [(.ref ax)]))) (fun t kt => ?_) ?_
  · skip
    refine XS.aloadN X0.here hx rfl (hb hby d_rm_ec11_0) rfl rfl ?_
    exact kt
  obtain ⟨T_1, X_1, e_1, st_1⟩ := getF X0 hx hZ hown (host := "") (Or.inl (wdOf hw 25 rfl)) Via.refl e0 F1_value (g := (mkF m 1 #[sR_ ax, sI_ mn, sU_] [(.ref ax)])) rfl rfl (hb hby d_rm_ec11_1)
  refine Goes.go (U' := (T_1.setTop (mkF m 4 #[sR_ ax, sI_ mn, sU_] [(.ref ba)]))) st_1 ?_
  obtain ⟨cl_2, Ar_2, q_2, S_2, M_2, H_2, G_2⟩ := id V1
  refine Goes.go (U' := (T_1.setTop (mkF m 5 #[sR_ ax, sI_ mn, sU_] [(.int (32 : Int32))]))) (fun t kt => ?_) ?_
  · skip
    refine X_1.arraylength hx (by rw [e_1]; exact Ar_2.1) (State.isArrayOf_alike hZ.alike Ar_2.2.1) (g := (mkF m 4 #[sR_ ax, sI_ mn, sU_] [(.ref ba)])) rfl rfl (hb hby d_rm_ec11_4) _ ?_
    rw [len_of S_2 M_2]
    exact kt
  refine Goes.go (U' := (T_1.setTop (mkF m 6 #[sR_ ax, sI_ mn, sU_] [(.ref ax), (.int (32 : Int32))]))) (fun t kt => ?_) ?_
  · skip
    refine XS.aloadN X_1.here hx rfl (hb hby d_rm_ec11_5) rfl rfl ?_
    exact kt
  obtain ⟨T_3, X_3, e_3, st_3⟩ := getF X_1 hx hZ hown (host := "") (Or.inl (wdOf hw 27 rfl)) Via.refl e_1 F1_coder (g := (mkF m 6 #[sR_ ax, sI_ mn, sU_] [(.ref ax), (.int (32 : Int32))])) rfl rfl (hb hby d_rm_ec11_6)
  refine Goes.go (U' := (T_3.setTop (mkF m 9 #[sR_ ax, sI_ mn, sU_] [(.int (1 : Int32)), (.int (32 : Int32))]))) st_3 ?_
  refine Goes.go (U' := (T_3.setTop (mkF m 10 #[sR_ ax, sI_ mn, sU_] [(.int ((32 : Int32) >>> ((1 : Int32) &&& 31)))]))) (fun t kt => ?_) ?_
  · skip
    refine XS.ishr X_3.here hx rfl (hb hby d_rm_ec11_9) rfl ?_
    exact kt
  rw [show ((32 : Int32) >>> ((1 : Int32) &&& 31)) = (16 : Int32) from by decide]
  refine Goes.go (U' := (T_3.setTop (mkF m 19 #[sR_ ax, sI_ mn, sI_ (16 : Int32)] [(.ref ax), (.ref ax)]))) (fun t kt => ?_) ?_
  · skip
    refine XS.istoreN X_3.here hx rfl (hb hby d_rm_ec11_10) rfl (l' := #[sR_ ax, sI_ mn, sI_ (16 : Int32)]) rfl ?_
    refine XS.iloadN X_3.here hx rfl (hb hby d_rm_ec11_11) rfl ?_
    refine XS.iloadN X_3.here hx rfl (hb hby d_rm_ec11_12) rfl ?_
    refine XS.isub X_3.here hx rfl (hb hby d_rm_ec11_13) rfl ?_
    refine XS.ifNo X_3.here hx rfl (hb hby d_rm_ec11_14) rfl (XT.i0_le_f hm) ?_
    refine XS.aloadN X_3.here hx rfl (hb hby d_rm_ec11_17) rfl rfl ?_
    refine XS.aloadN X_3.here hx rfl (hb hby d_rm_ec11_18) rfl rfl ?_
    exact kt
  obtain ⟨T_4, X_4, e_4, st_4⟩ := getF X_3 hx hZ hown (host := "") (Or.inl (wdOf hw 25 rfl)) Via.refl e_3 F1_value (g := (mkF m 19 #[sR_ ax, sI_ mn, sI_ (16 : Int32)] [(.ref ax), (.ref ax)])) rfl rfl (hb hby d_rm_ec11_19)
  refine Goes.go (U' := (T_4.setTop (mkF m 22 #[sR_ ax, sI_ mn, sI_ (16 : Int32)] [(.ref ba), (.ref ax)]))) st_4 ?_
  refine Goes.go (U' := (T_4.setTop (mkF m 24 #[sR_ ax, sI_ mn, sI_ (16 : Int32)] [(.int mn), (.ref ax), (.ref ba), (.ref ax)]))) (fun t kt => ?_) ?_
  · skip
    refine XS.aloadN X_4.here hx rfl (hb hby d_rm_ec11_22) rfl rfl ?_
    refine XS.iloadN X_4.here hx rfl (hb hby d_rm_ec11_23) rfl ?_
    exact kt
  obtain ⟨v_5, T_5, L_5, X_5, q_5, st_5⟩ := callPrivSel X_4 hx hZ (y := (⟨"java/lang/AbstractStringBuilder", "newCapacity", "(I)I"⟩ : MethodName)) (W := 2) hown (wdOf hw 113 rfl) (wdOf hw 114 rfl) (wdOf hw 115 rfl) (wdOf hw 116 rfl) (wdOf hw 19 rfl) (wdOf hw 117 rfl) (by decide) (rm_nc1 l Z a0 hw [] kc sx ax ba kb mn (U2 cs) h0 n0 Z0 G O F1_value F1_coder V1 hg) (by decide) (by decide) (by decide) (by decide) e_4 E1 (g := (mkF m 24 #[sR_ ax, sI_ mn, sI_ (16 : Int32)] [(.int mn), (.ref ax), (.ref ba), (.ref ax)])) rfl (by rw [hml]; rfl) (argsL := [(.int mn)]) (rest := [(.ref ba), (.ref ax)]) (lenOf pd_6 rfl) rfl rfl (Nat.le_refl _) (hb hby d_rm_ec11_24)
  obtain ⟨rfl, n_5, K_5⟩ := q_5
  have N_5 := Fr.app N0 n_5
  refine Goes.go (U' := (T_5.setTop (mkF m 27 #[sR_ ax, sI_ mn, sI_ (16 : Int32)] [(.int (34 : Int32)), (.ref ba), (.ref ax)]))) st_5 ?_
  refine Goes.go (U' := (T_5.setTop (mkF m 28 #[sR_ ax, sI_ mn, sI_ (16 : Int32)] [(.ref ax), (.int (34 : Int32)), (.ref ba), (.ref ax)]))) (fun t kt => ?_) ?_
  · skip
    refine XS.aloadN X_5.here hx rfl (hb hby d_rm_ec11_27) rfl rfl ?_
    exact kt
  obtain ⟨T_6, X_6, e_6, st_6⟩ := getF X_5 hx hZ hown (host := "") (Or.inl (wdOf hw 27 rfl)) Via.refl K_5 F1_coder (g := (mkF m 28 #[sR_ ax, sI_ mn, sI_ (16 : Int32)] [(.ref ax), (.int (34 : Int32)), (.ref ba), (.ref ax)])) rfl rfl (hb hby d_rm_ec11_28)
  refine Goes.go (U' := (T_6.setTop (mkF m 31 #[sR_ ax, sI_ mn, sI_ (16 : Int32)] [(.int (1 : Int32)), (.int (34 : Int32)), (.ref ba), (.ref ax)]))) st_6 ?_
  refine Goes.go (U' := (T_6.setTop (mkF m 32 #[sR_ ax, sI_ mn, sI_ (16 : Int32)] [(.int ((34 : Int32) <<< ((1 : Int32) &&& 31))), (.ref ba), (.ref ax)]))) (fun t kt => ?_) ?_
  · skip
    refine XS.ishl X_6.here hx rfl (hb hby d_rm_ec11_31) rfl ?_
    exact kt
  rw [show ((34 : Int32) <<< ((1 : Int32) &&& 31)) = (68 : Int32) from by decide]
  obtain ⟨v_7, T_7, L_7, X_7, q_7, st_7⟩ := callStatic X_6 hx hZ (y := (⟨"java/util/Arrays", "copyOf", "([BI)[B"⟩ : MethodName)) (W := 1) hown (wdOf hw 128 rfl) (wdOf hw 129 rfl) (wdOf hw 130 rfl) (wdOf hw 131 rfl) (by decide) (rm_cp l Z a0 hw [] kc sx ba kb (68 : Int32) (32 : Int32) (U2 cs) h0 n0 Z0 G O V1 (by decide) (by decide) (by decide) (by decide) (by rw [U2_len]; have : (32 : Int32).toNatClampNeg = 32 := rfl; omega) (by decide) (by decide)) (by decide) (by decide) (by decide) (by decide) e_6 (g := (mkF m 32 #[sR_ ax, sI_ mn, sI_ (16 : Int32)] [(.int (68 : Int32)), (.ref ba), (.ref ax)])) rfl (by rw [hml]; rfl) (argsL := [(.ref ba), (.int (68 : Int32))]) (rest := [(.ref ax)]) (lenOf pd_21 rfl) rfl rfl (Nat.le_refl _) (hb hby d_rm_ec11_32)
  obtain ⟨r_7, k_7, rfl, n_7, K_7, z_7, V_7⟩ := q_7
  have ne_8 : ax ≠ r_7 := Nat.ne_of_lt (Nat.lt_of_lt_of_le E1.lt z_7)
  have ne_9 : ba ≠ r_7 := Nat.ne_of_lt (Nat.lt_of_lt_of_le V1.lt z_7)
  have o_10 : n0 ≤ r_7 := Nat.le_trans Z0 z_7
  have z_11 : h0.size ≤ r_7 := Nat.le_trans K0.1 z_7
  have N_7 := Fr.app N_5 n_7
  have f_12 : Old Z n0 T_7.heap := O.ext K_7
  have f_13 : Exa Z T_7.heap ax "java/lang/StringBuilder" := E1.ext K_7
  have f_14 : Fld Z T_7.heap ax "java/lang/AbstractStringBuilder" "value" "[B" (.ref ba) := F1_value.ext K_7
  have f_15 : Fld Z T_7.heap ax "java/lang/AbstractStringBuilder" "coder" "B" (.int (1 : Int32)) := F1_coder.ext K_7
  have f_16 : Fld Z T_7.heap ax "java/lang/AbstractStringBuilder" "count" "I" (.int pn) := F1_count.ext K_7
  have f_17 : Fld Z T_7.heap ax "java/lang/AbstractStringBuilder" "maybeLatin1" "Z" (.int (0 : Int32)) := F1_maybeLatin1.ext K_7
  have f_18 : Arv Z T_7.heap ba kb .byte (32 : Int32) (U2 cs) (.int (0 : Int32)) := V1.ext K_7
  have K_19 : Keep h0 T_7.heap [ax] := K0.ext K_7
  have y_19 : n0 ≤ T_7.heap.size := Nat.le_trans Z0 K_19.1
  refine Goes.go (U' := (T_7.setTop (mkF m 35 #[sR_ ax, sI_ mn, sI_ (16 : Int32)] [(.ref r_7), (.ref ax)]))) st_7 ?_
  obtain ⟨T_20, h_20, X_20, e_20, W_20, st_20⟩ := putF X_7 hx hZ hown (host := "") (Or.inl (wdOf hw 25 rfl)) Via.refl (rfl : T_7.heap = T_7.heap) f_14 f_13 (Or.inl (wdOf hw 26 rfl)) (wdOf hw 10 rfl) (ty := (.array .byte)) (by decide) rfl rfl (g := (mkF m 35 #[sR_ ax, sI_ mn, sI_ (16 : Int32)] [(.ref r_7), (.ref ax)])) rfl rfl (hb hby d_rm_ec11_35)
  have N_20 := Fr.snoc X_20 N_7 o0
  have f_21 : Old Z n0 h_20 := f_12.wr W_20 o0
  have f_22 : Exa Z h_20 ax "java/lang/StringBuilder" := f_13.wr W_20
  have f_23 : Fld Z h_20 ax "java/lang/AbstractStringBuilder" "value" "[B" (.ref r_7) := f_14.same W_20
  have f_24 : Fld Z h_20 ax "java/lang/AbstractStringBuilder" "coder" "B" (.int (1 : Int32)) := f_15.other W_20 (Or.inr (slot_ne (Or.inl (wdOf hw 28 rfl)) (Or.inl (wdOf hw 26 rfl)) (by decide) (t := .byte) (t' := (.array .byte)) (by decide) (by decide)))
  have f_25 : Fld Z h_20 ax "java/lang/AbstractStringBuilder" "count" "I" (.int pn) := f_16.other W_20 (Or.inr (slot_ne (Or.inl (wdOf hw 79 rfl)) (Or.inl (wdOf hw 26 rfl)) (by decide) (t := .int) (t' := (.array .byte)) (by decide) (by decide)))
  have f_26 : Fld Z h_20 ax "java/lang/AbstractStringBuilder" "maybeLatin1" "Z" (.int (0 : Int32)) := f_17.other W_20 (Or.inr (slot_ne (Or.inl (wdOf hw 245 rfl)) (Or.inl (wdOf hw 26 rfl)) (by decide) (t := .boolean) (t' := (.array .byte)) (by decide) (by decide)))
  have f_27 : Arv Z h_20 ba kb .byte (32 : Int32) (U2 cs) (.int (0 : Int32)) := f_18.other W_20 (Ne.symm (f_13.neArv f_18 (wdOf hw 10 rfl)))
  have f_28 : Arv Z h_20 r_7 k_7 .byte (68 : Int32) (U2 cs) (.int (0 : Int32)) := V_7.other W_20 (Ne.symm ne_8)
  have K_29 : Keep h0 h_20 [ax] := K_19.wr W_20 (Or.inl (List.mem_of_getElem? (i := 0) rfl))
  have y_29 : n0 ≤ h_20.size := Nat.le_trans Z0 K_29.1
  refine Goes.go (U' := (T_20.setTop (mkF m 38 #[sR_ ax, sI_ mn, sI_ (16 : Int32)] []))) st_20 ?_
  refine Goes.retV X_20 hx hlk hret (hb hby d_rm_ec11_38) (by decide) (by decide) ?_
  try rw [e_20]
  exact ⟨_, _, rfl, N_20, K_29, z_11, f_22, f_23, f_24, f_25, f_26, f_28⟩
theorem d_rm_ps00_0 : decode jdk_68_method_73_code 0 = .ok (.aload_n 0, 1) := by decide +kernel
theorem d_rm_ps00_1 : decode jdk_68_method_73_code 1 = .ok (.aload_n 2, 1) := by decide +kernel
theorem d_rm_ps00_2 : decode jdk_68_method_73_code 2 = .ok (.invokevirtual 397, 3) := by decide +kernel
theorem d_rm_ps00_5 : decode jdk_68_method_73_code 5 = .ok (.aload_n 2, 1) := by decide +kernel
theorem d_rm_ps00_6 : decode jdk_68_method_73_code 6 = .ok (.aload_n 0, 1) := by decide +kernel
theorem d_rm_ps00_7 : decode jdk_68_method_73_code 7 = .ok (.getfield 15, 3) := by decide +kernel
theorem d_rm_ps00_10 : decode jdk_68_method_73_code 10 = .ok (.iload_n 1, 1) := by decide +kernel
theorem d_rm_ps00_11 : decode jdk_68_method_73_code 11 = .ok (.aload_n 0, 1) := by decide +kernel
theorem d_rm_ps00_12 : decode jdk_68_method_73_code 12 = .ok (.getfield 22, 3) := by decide +kernel
theorem d_rm_ps00_15 : decode jdk_68_method_73_code 15 = .ok (.invokevirtual 399, 3) := by decide +kernel
theorem d_rm_ps00_18 : decode jdk_68_method_73_code 18 = .ok (.return_, 1) := by decide +kernel
set_option maxHeartbeats 4000000 in
theorem ef_rm_ps00 (m : MethodId) (x0 : Addr) (x1 : Int32) (x2 : Addr)  : entryFrame m #[(.ref x0), (.int x1), (.ref x2)] 3 = mkF m 0 #[.val (.ref x0), .val (.int x1), .val (.ref x2)] [] := by first | (simp [entryFrame, mkF, argsToLocals, catR, catN, catI, catJ]; done) | rfl
set_option maxRecDepth 65536 in
set_option maxHeartbeats 40000000 in
theorem rm_ps00 (l : Launch) (Z : State) (a0 : Array Value) (hw : ∀ d ∈ tables_1, d.before a0 Z = true) (ws : List Jvm.Cond) (kc : Int32) (sx : Value) (ax ba r rb : Addr) (kb kr : ClassId) (pn z nd : Int32) (cs ds : List Int32) (h0 : Heap) (n0 : Nat) (Z0 : n0 ≤ h0.size) (G : Stt Z kc sx) (O : Old Z n0 h0) (E1 : Exa Z h0 ax "java/lang/StringBuilder") (F1_value : Fld Z h0 ax "java/lang/AbstractStringBuilder" "value" "[B" (.ref ba)) (F1_coder : Fld Z h0 ax "java/lang/AbstractStringBuilder" "coder" "B" (.int (0 : Int32))) (F1_count : Fld Z h0 ax "java/lang/AbstractStringBuilder" "count" "I" (.int pn)) (F1_maybeLatin1 : Fld Z h0 ax "java/lang/AbstractStringBuilder" "maybeLatin1" "Z" (.int (0 : Int32))) (V1 : Arv Z h0 ba kb .byte nd (L1 cs) (.int (0 : Int32))) (E2 : Exa Z h0 r "java/lang/String") (F2_value : Fld Z h0 r "java/lang/String" "value" "[B" (.ref rb)) (F2_coder : Fld Z h0 r "java/lang/String" "coder" "B" (.int (0 : Int32))) (V2 : Arv Z h0 rb kr .byte z (L1 ds) (.int (0 : Int32))) (o1 : n0 ≤ ba) (nb : rb ≠ ba) (hz : Sz z ds.length) (hp : Sz pn cs.length) (hnd : 1 * (cs.length + ds.length) ≤ nd.toNatClampNeg)  :
    Pays l Z (⟨"java/lang/AbstractStringBuilder", "putStringAt", "(ILjava/lang/String;)V"⟩ : MethodName) jdk_68_method_73_code 3 none ws ({ frames := 2, cells := 0, slots := 0, locals := 33 } : Room) #[(.ref ax), (.int pn), (.ref r)] h0 (fun v h L => v = none ∧ Fr n0 L ∧ Keep h0 h [ba] ∧ Arv Z h ba kb .byte nd (L1 (cs ++ ds)) (.int (0 : Int32))) := by
  refine Pays.of (plainFor_of_name (by first | (simp [plainName, overriddenIn]; done) | decide +kernel)) ?_
  intro p e s m below meth c s₁ hx hby hml hown hnm hret hlk hZ e0 X0
  have N0 := Fr.nil n0
  have K0 : Keep h0 h0 [ba] := Keep.refl _ _
  refine Goes.go (U' := (s₁.setTop (mkF m 0 #[sR_ ax, sI_ pn, sR_ r] []))) (fun t kt => castTop (ef_rm_ps00 m ax pn r) kt) ?_
  refine Goes.go (U' := (s₁.setTop (mkF m 2 #[sR_ ax, sI_ pn, sR_ r] [(.ref r), (.ref ax)]))) (fun t kt => ?_) ?_
  · skip
    refine XS.aloadN X0.here hx rfl (hb hby d_rm_ps00_0) rfl rfl ?_
    refine XS.aloadN X0.here hx rfl (hb hby d_rm_ps00_1) rfl rfl ?_
    exact kt
  obtain ⟨v_1, T_1, L_1, X_1, q_1, st_1⟩ := callPrivSel X0 hx hZ (y := (⟨"java/lang/AbstractStringBuilder", "inflateIfNeededFor", "(Ljava/lang/String;)V"⟩ : MethodName)) (W := 0) hown (wdOf hw 90 rfl) (wdOf hw 91 rfl) (wdOf hw 92 rfl) (wdOf hw 93 rfl) (wdOf hw 19 rfl) (wdOf hw 94 rfl) (by decide) (rm_if00 l Z a0 hw [] kc sx ax r h0 n0 Z0 G O E1 F1_coder E2 F2_coder) (by decide) (by decide) (by decide) (by decide) e0 E1 (g := (mkF m 2 #[sR_ ax, sI_ pn, sR_ r] [(.ref r), (.ref ax)])) rfl (by rw [hml]; rfl) (argsL := [(.ref r)]) (rest := []) (lenOf pd_22 rfl) rfl rfl (Nat.le_refl _) (hb hby d_rm_ps00_2)
  obtain ⟨rfl, n_1, K_1⟩ := q_1
  have N_1 := Fr.app N0 n_1
  refine Goes.go (U' := (T_1.setTop (mkF m 5 #[sR_ ax, sI_ pn, sR_ r] []))) st_1 ?_
  refine Goes.go (U' := (T_1.setTop (mkF m 7 #[sR_ ax, sI_ pn, sR_ r] [(.ref ax), (.ref r)]))) (fun t kt => ?_) ?_
  · skip
    refine XS.aloadN X_1.here hx rfl (hb hby d_rm_ps00_5) rfl rfl ?_
    refine XS.aloadN X_1.here hx rfl (hb hby d_rm_ps00_6) rfl rfl ?_
    exact kt
  obtain ⟨T_2, X_2, e_2, st_2⟩ := getF X_1 hx hZ hown (host := "") (Or.inl (wdOf hw 25 rfl)) Via.refl K_1 F1_value (g := (mkF m 7 #[sR_ ax, sI_ pn, sR_ r] [(.ref ax), (.ref r)])) rfl rfl (hb hby d_rm_ps00_7)
  refine Goes.go (U' := (T_2.setTop (mkF m 10 #[sR_ ax, sI_ pn, sR_ r] [(.ref ba), (.ref r)]))) st_2 ?_
  refine Goes.go (U' := (T_2.setTop (mkF m 12 #[sR_ ax, sI_ pn, sR_ r] [(.ref ax), (.int pn), (.ref ba), (.ref r)]))) (fun t kt => ?_) ?_
  · skip
    refine XS.iloadN X_2.here hx rfl (hb hby d_rm_ps00_10) rfl ?_
    refine XS.aloadN X_2.here hx rfl (hb hby d_rm_ps00_11) rfl rfl ?_
    exact kt
  obtain ⟨T_3, X_3, e_3, st_3⟩ := getF X_2 hx hZ hown (host := "") (Or.inl (wdOf hw 27 rfl)) Via.refl e_2 F1_coder (g := (mkF m 12 #[sR_ ax, sI_ pn, sR_ r] [(.ref ax), (.int pn), (.ref ba), (.ref r)])) rfl rfl (hb hby d_rm_ps00_12)
  refine Goes.go (U' := (T_3.setTop (mkF m 15 #[sR_ ax, sI_ pn, sR_ r] [(.int (0 : Int32)), (.int pn), (.ref ba), (.ref r)]))) st_3 ?_
  obtain ⟨v_4, T_4, L_4, X_4, q_4, st_4⟩ := callVirtual X_3 hx hZ (y := (⟨"java/lang/String", "getBytes", "([BIB)V"⟩ : MethodName)) (z := (⟨"java/lang/String", "getBytes", "([BIB)V"⟩ : MethodName)) (W := 0) hown (wdOf hw 96 rfl) (wdOf hw 97 rfl) (notFace_of_selects (args := #[]) (mvT hZ (wdOf hw 99 rfl))) (wdOf hw 99 rfl) (wdOf hw 98 rfl) (wdOf hw 23 rfl) (wdOf hw 100 rfl) (by decide) (rm_gb0 l Z a0 hw [] kc sx r rb ba kr kb pn z nd cs ds h0 n0 Z0 G O E2 F2_value F2_coder V2 V1 o1 nb hz hp hnd) (by decide) (by decide) (by decide) (by decide) e_3 E2 (g := (mkF m 15 #[sR_ ax, sI_ pn, sR_ r] [(.int (0 : Int32)), (.int pn), (.ref ba), (.ref r)])) rfl (by rw [hml]; rfl) (argsL := [(.ref ba), (.int pn), (.int (0 : Int32))]) (rest := []) (lenOf pd_23 rfl) rfl rfl (Nat.le_refl _) (hb hby d_rm_ps00_15)
  obtain ⟨rfl, n_4, K_4, V_4⟩ := q_4
  have N_4 := Fr.app N_1 n_4
  have f_5 : Old Z n0 T_4.heap := O.keep K_4 (allS o1 all0)
  have f_6 : Exa Z T_4.heap ax "java/lang/StringBuilder" := E1.keep K_4
  have f_7 : Fld Z T_4.heap ax "java/lang/AbstractStringBuilder" "value" "[B" (.ref ba) := F1_value.keep K_4 (ninS (E1.neArv V1 (wdOf hw 10 rfl)) nin0)
  have f_8 : Fld Z T_4.heap ax "java/lang/AbstractStringBuilder" "coder" "B" (.int (0 : Int32)) := F1_coder.keep K_4 (ninS (E1.neArv V1 (wdOf hw 10 rfl)) nin0)
  have f_9 : Fld Z T_4.heap ax "java/lang/AbstractStringBuilder" "count" "I" (.int pn) := F1_count.keep K_4 (ninS (E1.neArv V1 (wdOf hw 10 rfl)) nin0)
  have f_10 : Fld Z T_4.heap ax "java/lang/AbstractStringBuilder" "maybeLatin1" "Z" (.int (0 : Int32)) := F1_maybeLatin1.keep K_4 (ninS (E1.neArv V1 (wdOf hw 10 rfl)) nin0)
  have f_12 : Exa Z T_4.heap r "java/lang/String" := E2.keep K_4
  have f_13 : Fld Z T_4.heap r "java/lang/String" "value" "[B" (.ref rb) := F2_value.keep K_4 (ninS (E2.neArv V1 (wdOf hw 40 rfl)) nin0)
  have f_14 : Fld Z T_4.heap r "java/lang/String" "coder" "B" (.int (0 : Int32)) := F2_coder.keep K_4 (ninS (E2.neArv V1 (wdOf hw 40 rfl)) nin0)
  have f_15 : Arv Z T_4.heap rb kr .byte z (L1 ds) (.int (0 : Int32)) := V2.keep K_4 (ninS nb nin0)
  have K_16 : Keep h0 T_4.heap [ba] := K0.trans K_4 (allS (P := fun x => x ∈ [ba] ∨ h0.size ≤ x) (Or.inl (List.mem_of_getElem? (i := 0) rfl)) all0)
  have y_16 : n0 ≤ T_4.heap.size := Nat.le_trans Z0 K_16.1
  refine Goes.go (U' := (T_4.setTop (mkF m 18 #[sR_ ax, sI_ pn, sR_ r] []))) st_4 ?_
  refine Goes.retV X_4 hx hlk hret (hb hby d_rm_ps00_18) (by decide) (by decide) ?_
  try rw [(rfl : T_4.heap = T_4.heap)]
  exact ⟨rfl, N_4, K_16, V_4⟩
theorem d_rm_ps11_0 : decode jdk_68_method_73_code 0 = .ok (.aload_n 0, 1) := by decide +kernel
theorem d_rm_ps11_1 : decode jdk_68_method_73_code 1 = .ok (.aload_n 2, 1) := by decide +kernel
theorem d_rm_ps11_2 : decode jdk_68_method_73_code 2 = .ok (.invokevirtual 397, 3) := by decide +kernel
theorem d_rm_ps11_5 : decode jdk_68_method_73_code 5 = .ok (.aload_n 2, 1) := by decide +kernel
theorem d_rm_ps11_6 : decode jdk_68_method_73_code 6 = .ok (.aload_n 0, 1) := by decide +kernel
theorem d_rm_ps11_7 : decode jdk_68_method_73_code 7 = .ok (.getfield 15, 3) := by decide +kernel
theorem d_rm_ps11_10 : decode jdk_68_method_73_code 10 = .ok (.iload_n 1, 1) := by decide +kernel
theorem d_rm_ps11_11 : decode jdk_68_method_73_code 11 = .ok (.aload_n 0, 1) := by decide +kernel
theorem d_rm_ps11_12 : decode jdk_68_method_73_code 12 = .ok (.getfield 22, 3) := by decide +kernel
theorem d_rm_ps11_15 : decode jdk_68_method_73_code 15 = .ok (.invokevirtual 399, 3) := by decide +kernel
theorem d_rm_ps11_18 : decode jdk_68_method_73_code 18 = .ok (.return_, 1) := by decide +kernel
set_option maxHeartbeats 4000000 in
theorem ef_rm_ps11 (m : MethodId) (x0 : Addr) (x1 : Int32) (x2 : Addr)  : entryFrame m #[(.ref x0), (.int x1), (.ref x2)] 3 = mkF m 0 #[.val (.ref x0), .val (.int x1), .val (.ref x2)] [] := by first | (simp [entryFrame, mkF, argsToLocals, catR, catN, catI, catJ]; done) | rfl
set_option maxRecDepth 65536 in
set_option maxHeartbeats 40000000 in
theorem rm_ps11 (l : Launch) (Z : State) (a0 : Array Value) (hw : ∀ d ∈ tables_1, d.before a0 Z = true) (ws : List Jvm.Cond) (kc : Int32) (sx : Value) (ax ba r rb : Addr) (kb kr : ClassId) (pn z nd : Int32) (cs ds : List Int32) (h0 : Heap) (n0 : Nat) (Z0 : n0 ≤ h0.size) (G : Stt Z kc sx) (O : Old Z n0 h0) (E1 : Exa Z h0 ax "java/lang/StringBuilder") (F1_value : Fld Z h0 ax "java/lang/AbstractStringBuilder" "value" "[B" (.ref ba)) (F1_coder : Fld Z h0 ax "java/lang/AbstractStringBuilder" "coder" "B" (.int (1 : Int32))) (F1_count : Fld Z h0 ax "java/lang/AbstractStringBuilder" "count" "I" (.int pn)) (F1_maybeLatin1 : Fld Z h0 ax "java/lang/AbstractStringBuilder" "maybeLatin1" "Z" (.int (0 : Int32))) (V1 : Arv Z h0 ba kb .byte nd (U2 cs) (.int (0 : Int32))) (E2 : Exa Z h0 r "java/lang/String") (F2_value : Fld Z h0 r "java/lang/String" "value" "[B" (.ref rb)) (F2_coder : Fld Z h0 r "java/lang/String" "coder" "B" (.int (1 : Int32))) (V2 : Arv Z h0 rb kr .byte (z <<< ((1 : Int32) &&& 31)) (U2 ds) (.int (0 : Int32))) (o1 : n0 ≤ ba) (nb : rb ≠ ba) (hz : Sz z ds.length) (hp : Sz pn cs.length) (hnd : 2 * (cs.length + ds.length) ≤ nd.toNatClampNeg)  :
    Pays l Z (⟨"java/lang/AbstractStringBuilder", "putStringAt", "(ILjava/lang/String;)V"⟩ : MethodName) jdk_68_method_73_code 3 none ws ({ frames := 2, cells := 0, slots := 0, locals := 33 } : Room) #[(.ref ax), (.int pn), (.ref r)] h0 (fun v h L => v = none ∧ Fr n0 L ∧ Keep h0 h [ba] ∧ Arv Z h ba kb .byte nd (U2 (cs ++ ds)) (.int (0 : Int32))) := by
  refine Pays.of (plainFor_of_name (by first | (simp [plainName, overriddenIn]; done) | decide +kernel)) ?_
  intro p e s m below meth c s₁ hx hby hml hown hnm hret hlk hZ e0 X0
  have N0 := Fr.nil n0
  have K0 : Keep h0 h0 [ba] := Keep.refl _ _
  refine Goes.go (U' := (s₁.setTop (mkF m 0 #[sR_ ax, sI_ pn, sR_ r] []))) (fun t kt => castTop (ef_rm_ps11 m ax pn r) kt) ?_
  refine Goes.go (U' := (s₁.setTop (mkF m 2 #[sR_ ax, sI_ pn, sR_ r] [(.ref r), (.ref ax)]))) (fun t kt => ?_) ?_
  · skip
    refine XS.aloadN X0.here hx rfl (hb hby d_rm_ps11_0) rfl rfl ?_
    refine XS.aloadN X0.here hx rfl (hb hby d_rm_ps11_1) rfl rfl ?_
    exact kt
  obtain ⟨v_1, T_1, L_1, X_1, q_1, st_1⟩ := callPrivSel X0 hx hZ (y := (⟨"java/lang/AbstractStringBuilder", "inflateIfNeededFor", "(Ljava/lang/String;)V"⟩ : MethodName)) (W := 0) hown (wdOf hw 90 rfl) (wdOf hw 91 rfl) (wdOf hw 92 rfl) (wdOf hw 93 rfl) (wdOf hw 19 rfl) (wdOf hw 94 rfl) (by decide) (rm_if11 l Z a0 hw [] kc sx ax r h0 n0 Z0 G O E1 F1_coder E2 F2_coder) (by decide) (by decide) (by decide) (by decide) e0 E1 (g := (mkF m 2 #[sR_ ax, sI_ pn, sR_ r] [(.ref r), (.ref ax)])) rfl (by rw [hml]; rfl) (argsL := [(.ref r)]) (rest := []) (lenOf pd_22 rfl) rfl rfl (Nat.le_refl _) (hb hby d_rm_ps11_2)
  obtain ⟨rfl, n_1, K_1⟩ := q_1
  have N_1 := Fr.app N0 n_1
  refine Goes.go (U' := (T_1.setTop (mkF m 5 #[sR_ ax, sI_ pn, sR_ r] []))) st_1 ?_
  refine Goes.go (U' := (T_1.setTop (mkF m 7 #[sR_ ax, sI_ pn, sR_ r] [(.ref ax), (.ref r)]))) (fun t kt => ?_) ?_
  · skip
    refine XS.aloadN X_1.here hx rfl (hb hby d_rm_ps11_5) rfl rfl ?_
    refine XS.aloadN X_1.here hx rfl (hb hby d_rm_ps11_6) rfl rfl ?_
    exact kt
  obtain ⟨T_2, X_2, e_2, st_2⟩ := getF X_1 hx hZ hown (host := "") (Or.inl (wdOf hw 25 rfl)) Via.refl K_1 F1_value (g := (mkF m 7 #[sR_ ax, sI_ pn, sR_ r] [(.ref ax), (.ref r)])) rfl rfl (hb hby d_rm_ps11_7)
  refine Goes.go (U' := (T_2.setTop (mkF m 10 #[sR_ ax, sI_ pn, sR_ r] [(.ref ba), (.ref r)]))) st_2 ?_
  refine Goes.go (U' := (T_2.setTop (mkF m 12 #[sR_ ax, sI_ pn, sR_ r] [(.ref ax), (.int pn), (.ref ba), (.ref r)]))) (fun t kt => ?_) ?_
  · skip
    refine XS.iloadN X_2.here hx rfl (hb hby d_rm_ps11_10) rfl ?_
    refine XS.aloadN X_2.here hx rfl (hb hby d_rm_ps11_11) rfl rfl ?_
    exact kt
  obtain ⟨T_3, X_3, e_3, st_3⟩ := getF X_2 hx hZ hown (host := "") (Or.inl (wdOf hw 27 rfl)) Via.refl e_2 F1_coder (g := (mkF m 12 #[sR_ ax, sI_ pn, sR_ r] [(.ref ax), (.int pn), (.ref ba), (.ref r)])) rfl rfl (hb hby d_rm_ps11_12)
  refine Goes.go (U' := (T_3.setTop (mkF m 15 #[sR_ ax, sI_ pn, sR_ r] [(.int (1 : Int32)), (.int pn), (.ref ba), (.ref r)]))) st_3 ?_
  obtain ⟨v_4, T_4, L_4, X_4, q_4, st_4⟩ := callVirtual X_3 hx hZ (y := (⟨"java/lang/String", "getBytes", "([BIB)V"⟩ : MethodName)) (z := (⟨"java/lang/String", "getBytes", "([BIB)V"⟩ : MethodName)) (W := 0) hown (wdOf hw 96 rfl) (wdOf hw 97 rfl) (notFace_of_selects (args := #[]) (mvT hZ (wdOf hw 99 rfl))) (wdOf hw 99 rfl) (wdOf hw 98 rfl) (wdOf hw 23 rfl) (wdOf hw 100 rfl) (by decide) (rm_gb1 l Z a0 hw [] kc sx r rb ba kr kb pn z nd cs ds h0 n0 Z0 G O E2 F2_value F2_coder V2 V1 o1 nb hz hp hnd) (by decide) (by decide) (by decide) (by decide) e_3 E2 (g := (mkF m 15 #[sR_ ax, sI_ pn, sR_ r] [(.int (1 : Int32)), (.int pn), (.ref ba), (.ref r)])) rfl (by rw [hml]; rfl) (argsL := [(.ref ba), (.int pn), (.int (1 : Int32))]) (rest := []) (lenOf pd_23 rfl) rfl rfl (Nat.le_refl _) (hb hby d_rm_ps11_15)
  obtain ⟨rfl, n_4, K_4, V_4⟩ := q_4
  have N_4 := Fr.app N_1 n_4
  have f_5 : Old Z n0 T_4.heap := O.keep K_4 (allS o1 all0)
  have f_6 : Exa Z T_4.heap ax "java/lang/StringBuilder" := E1.keep K_4
  have f_7 : Fld Z T_4.heap ax "java/lang/AbstractStringBuilder" "value" "[B" (.ref ba) := F1_value.keep K_4 (ninS (E1.neArv V1 (wdOf hw 10 rfl)) nin0)
  have f_8 : Fld Z T_4.heap ax "java/lang/AbstractStringBuilder" "coder" "B" (.int (1 : Int32)) := F1_coder.keep K_4 (ninS (E1.neArv V1 (wdOf hw 10 rfl)) nin0)
  have f_9 : Fld Z T_4.heap ax "java/lang/AbstractStringBuilder" "count" "I" (.int pn) := F1_count.keep K_4 (ninS (E1.neArv V1 (wdOf hw 10 rfl)) nin0)
  have f_10 : Fld Z T_4.heap ax "java/lang/AbstractStringBuilder" "maybeLatin1" "Z" (.int (0 : Int32)) := F1_maybeLatin1.keep K_4 (ninS (E1.neArv V1 (wdOf hw 10 rfl)) nin0)
  have f_12 : Exa Z T_4.heap r "java/lang/String" := E2.keep K_4
  have f_13 : Fld Z T_4.heap r "java/lang/String" "value" "[B" (.ref rb) := F2_value.keep K_4 (ninS (E2.neArv V1 (wdOf hw 40 rfl)) nin0)
  have f_14 : Fld Z T_4.heap r "java/lang/String" "coder" "B" (.int (1 : Int32)) := F2_coder.keep K_4 (ninS (E2.neArv V1 (wdOf hw 40 rfl)) nin0)
  have f_15 : Arv Z T_4.heap rb kr .byte (z <<< ((1 : Int32) &&& 31)) (U2 ds) (.int (0 : Int32)) := V2.keep K_4 (ninS nb nin0)
  have K_16 : Keep h0 T_4.heap [ba] := K0.trans K_4 (allS (P := fun x => x ∈ [ba] ∨ h0.size ≤ x) (Or.inl (List.mem_of_getElem? (i := 0) rfl)) all0)
  have y_16 : n0 ≤ T_4.heap.size := Nat.le_trans Z0 K_16.1
  refine Goes.go (U' := (T_4.setTop (mkF m 18 #[sR_ ax, sI_ pn, sR_ r] []))) st_4 ?_
  refine Goes.retV X_4 hx hlk hret (hb hby d_rm_ps11_18) (by decide) (by decide) ?_
  try rw [(rfl : T_4.heap = T_4.heap)]
  exact ⟨rfl, N_4, K_16, V_4⟩
theorem d_rm_ps10_0 : decode jdk_68_method_73_code 0 = .ok (.aload_n 0, 1) := by decide +kernel
theorem d_rm_ps10_1 : decode jdk_68_method_73_code 1 = .ok (.aload_n 2, 1) := by decide +kernel
theorem d_rm_ps10_2 : decode jdk_68_method_73_code 2 = .ok (.invokevirtual 397, 3) := by decide +kernel
theorem d_rm_ps10_5 : decode jdk_68_method_73_code 5 = .ok (.aload_n 2, 1) := by decide +kernel
theorem d_rm_ps10_6 : decode jdk_68_method_73_code 6 = .ok (.aload_n 0, 1) := by decide +kernel
theorem d_rm_ps10_7 : decode jdk_68_method_73_code 7 = .ok (.getfield 15, 3) := by decide +kernel
theorem d_rm_ps10_10 : decode jdk_68_method_73_code 10 = .ok (.iload_n 1, 1) := by decide +kernel
theorem d_rm_ps10_11 : decode jdk_68_method_73_code 11 = .ok (.aload_n 0, 1) := by decide +kernel
theorem d_rm_ps10_12 : decode jdk_68_method_73_code 12 = .ok (.getfield 22, 3) := by decide +kernel
theorem d_rm_ps10_15 : decode jdk_68_method_73_code 15 = .ok (.invokevirtual 399, 3) := by decide +kernel
theorem d_rm_ps10_18 : decode jdk_68_method_73_code 18 = .ok (.return_, 1) := by decide +kernel
set_option maxHeartbeats 4000000 in
theorem ef_rm_ps10 (m : MethodId) (x0 : Addr) (x1 : Int32) (x2 : Addr)  : entryFrame m #[(.ref x0), (.int x1), (.ref x2)] 3 = mkF m 0 #[.val (.ref x0), .val (.int x1), .val (.ref x2)] [] := by first | (simp [entryFrame, mkF, argsToLocals, catR, catN, catI, catJ]; done) | rfl
set_option maxRecDepth 65536 in
set_option maxHeartbeats 40000000 in
theorem rm_ps10 (l : Launch) (Z : State) (a0 : Array Value) (hw : ∀ d ∈ tables_1, d.before a0 Z = true) (ws : List Jvm.Cond) (kc : Int32) (sx : Value) (ax ba r rb : Addr) (kb kr : ClassId) (pn z nd : Int32) (cs ds : List Int32) (h0 : Heap) (n0 : Nat) (Z0 : n0 ≤ h0.size) (G : Stt Z kc sx) (O : Old Z n0 h0) (E1 : Exa Z h0 ax "java/lang/StringBuilder") (F1_value : Fld Z h0 ax "java/lang/AbstractStringBuilder" "value" "[B" (.ref ba)) (F1_coder : Fld Z h0 ax "java/lang/AbstractStringBuilder" "coder" "B" (.int (1 : Int32))) (F1_count : Fld Z h0 ax "java/lang/AbstractStringBuilder" "count" "I" (.int pn)) (F1_maybeLatin1 : Fld Z h0 ax "java/lang/AbstractStringBuilder" "maybeLatin1" "Z" (.int (0 : Int32))) (V1 : Arv Z h0 ba kb .byte nd (U2 cs) (.int (0 : Int32))) (E2 : Exa Z h0 r "java/lang/String") (F2_value : Fld Z h0 r "java/lang/String" "value" "[B" (.ref rb)) (F2_coder : Fld Z h0 r "java/lang/String" "coder" "B" (.int (0 : Int32))) (V2 : Arv Z h0 rb kr .byte z (L1 ds) (.int (0 : Int32))) (o1 : n0 ≤ ba) (nb : rb ≠ ba) (hz : Sz z ds.length) (hp : Sz pn cs.length) (hnd : 2 * (cs.length + ds.length) ≤ nd.toNatClampNeg) (hlc : ∀ c ∈ ds, Lc c) (h64 : cs.length + ds.length < 64) (hb1 : ¬ (((nd >>> ((1 : Int32) &&& 31)) ||| pn) ||| z) < 0) (hb2 : ¬ ((nd >>> ((1 : Int32) &&& 31)) - pn) < z) :
    Pays l Z (⟨"java/lang/AbstractStringBuilder", "putStringAt", "(ILjava/lang/String;)V"⟩ : MethodName) jdk_68_method_73_code 3 none ws ({ frames := 6, cells := 0, slots := 0, locals := 91 } : Room) #[(.ref ax), (.int pn), (.ref r)] h0 (fun v h L => v = none ∧ Fr n0 L ∧ Keep h0 h [ba] ∧ Arv Z h ba kb .byte nd (U2 (cs ++ ds)) (.int (0 : Int32))) := by
  refine Pays.of (plainFor_of_name (by first | (simp [plainName, overriddenIn]; done) | decide +kernel)) ?_
  intro p e s m below meth c s₁ hx hby hml hown hnm hret hlk hZ e0 X0
  have N0 := Fr.nil n0
  have K0 : Keep h0 h0 [ba] := Keep.refl _ _
  refine Goes.go (U' := (s₁.setTop (mkF m 0 #[sR_ ax, sI_ pn, sR_ r] []))) (fun t kt => castTop (ef_rm_ps10 m ax pn r) kt) ?_
  refine Goes.go (U' := (s₁.setTop (mkF m 2 #[sR_ ax, sI_ pn, sR_ r] [(.ref r), (.ref ax)]))) (fun t kt => ?_) ?_
  · skip
    refine XS.aloadN X0.here hx rfl (hb hby d_rm_ps10_0) rfl rfl ?_
    refine XS.aloadN X0.here hx rfl (hb hby d_rm_ps10_1) rfl rfl ?_
    exact kt
  obtain ⟨v_1, T_1, L_1, X_1, q_1, st_1⟩ := callPrivSel X0 hx hZ (y := (⟨"java/lang/AbstractStringBuilder", "inflateIfNeededFor", "(Ljava/lang/String;)V"⟩ : MethodName)) (W := 0) hown (wdOf hw 90 rfl) (wdOf hw 91 rfl) (wdOf hw 92 rfl) (wdOf hw 93 rfl) (wdOf hw 19 rfl) (wdOf hw 94 rfl) (by decide) (rm_if10 l Z a0 hw [] kc sx ax r h0 n0 Z0 G O E1 F1_coder E2 F2_coder) (by decide) (by decide) (by decide) (by decide) e0 E1 (g := (mkF m 2 #[sR_ ax, sI_ pn, sR_ r] [(.ref r), (.ref ax)])) rfl (by rw [hml]; rfl) (argsL := [(.ref r)]) (rest := []) (lenOf pd_22 rfl) rfl rfl (Nat.le_refl _) (hb hby d_rm_ps10_2)
  obtain ⟨rfl, n_1, K_1⟩ := q_1
  have N_1 := Fr.app N0 n_1
  refine Goes.go (U' := (T_1.setTop (mkF m 5 #[sR_ ax, sI_ pn, sR_ r] []))) st_1 ?_
  refine Goes.go (U' := (T_1.setTop (mkF m 7 #[sR_ ax, sI_ pn, sR_ r] [(.ref ax), (.ref r)]))) (fun t kt => ?_) ?_
  · skip
    refine XS.aloadN X_1.here hx rfl (hb hby d_rm_ps10_5) rfl rfl ?_
    refine XS.aloadN X_1.here hx rfl (hb hby d_rm_ps10_6) rfl rfl ?_
    exact kt
  obtain ⟨T_2, X_2, e_2, st_2⟩ := getF X_1 hx hZ hown (host := "") (Or.inl (wdOf hw 25 rfl)) Via.refl K_1 F1_value (g := (mkF m 7 #[sR_ ax, sI_ pn, sR_ r] [(.ref ax), (.ref r)])) rfl rfl (hb hby d_rm_ps10_7)
  refine Goes.go (U' := (T_2.setTop (mkF m 10 #[sR_ ax, sI_ pn, sR_ r] [(.ref ba), (.ref r)]))) st_2 ?_
  refine Goes.go (U' := (T_2.setTop (mkF m 12 #[sR_ ax, sI_ pn, sR_ r] [(.ref ax), (.int pn), (.ref ba), (.ref r)]))) (fun t kt => ?_) ?_
  · skip
    refine XS.iloadN X_2.here hx rfl (hb hby d_rm_ps10_10) rfl ?_
    refine XS.aloadN X_2.here hx rfl (hb hby d_rm_ps10_11) rfl rfl ?_
    exact kt
  obtain ⟨T_3, X_3, e_3, st_3⟩ := getF X_2 hx hZ hown (host := "") (Or.inl (wdOf hw 27 rfl)) Via.refl e_2 F1_coder (g := (mkF m 12 #[sR_ ax, sI_ pn, sR_ r] [(.ref ax), (.int pn), (.ref ba), (.ref r)])) rfl rfl (hb hby d_rm_ps10_12)
  refine Goes.go (U' := (T_3.setTop (mkF m 15 #[sR_ ax, sI_ pn, sR_ r] [(.int (1 : Int32)), (.int pn), (.ref ba), (.ref r)]))) st_3 ?_
  obtain ⟨v_4, T_4, L_4, X_4, q_4, st_4⟩ := callVirtual X_3 hx hZ (y := (⟨"java/lang/String", "getBytes", "([BIB)V"⟩ : MethodName)) (z := (⟨"java/lang/String", "getBytes", "([BIB)V"⟩ : MethodName)) (W := 0) hown (wdOf hw 96 rfl) (wdOf hw 97 rfl) (notFace_of_selects (args := #[]) (mvT hZ (wdOf hw 99 rfl))) (wdOf hw 99 rfl) (wdOf hw 98 rfl) (wdOf hw 23 rfl) (wdOf hw 100 rfl) (by decide) (rm_gb10 l Z a0 hw [] kc sx r rb ba kr kb pn z nd cs ds h0 n0 Z0 G O E2 F2_value F2_coder V2 V1 o1 nb hz hp hnd hlc h64 hb1 hb2) (by decide) (by decide) (by decide) (by decide) e_3 E2 (g := (mkF m 15 #[sR_ ax, sI_ pn, sR_ r] [(.int (1 : Int32)), (.int pn), (.ref ba), (.ref r)])) rfl (by rw [hml]; rfl) (argsL := [(.ref ba), (.int pn), (.int (1 : Int32))]) (rest := []) (lenOf pd_23 rfl) rfl rfl (Nat.le_refl _) (hb hby d_rm_ps10_15)
  obtain ⟨rfl, n_4, K_4, V_4⟩ := q_4
  have N_4 := Fr.app N_1 n_4
  have f_5 : Old Z n0 T_4.heap := O.keep K_4 (allS o1 all0)
  have f_6 : Exa Z T_4.heap ax "java/lang/StringBuilder" := E1.keep K_4
  have f_7 : Fld Z T_4.heap ax "java/lang/AbstractStringBuilder" "value" "[B" (.ref ba) := F1_value.keep K_4 (ninS (E1.neArv V1 (wdOf hw 10 rfl)) nin0)
  have f_8 : Fld Z T_4.heap ax "java/lang/AbstractStringBuilder" "coder" "B" (.int (1 : Int32)) := F1_coder.keep K_4 (ninS (E1.neArv V1 (wdOf hw 10 rfl)) nin0)
  have f_9 : Fld Z T_4.heap ax "java/lang/AbstractStringBuilder" "count" "I" (.int pn) := F1_count.keep K_4 (ninS (E1.neArv V1 (wdOf hw 10 rfl)) nin0)
  have f_10 : Fld Z T_4.heap ax "java/lang/AbstractStringBuilder" "maybeLatin1" "Z" (.int (0 : Int32)) := F1_maybeLatin1.keep K_4 (ninS (E1.neArv V1 (wdOf hw 10 rfl)) nin0)
  have f_12 : Exa Z T_4.heap r "java/lang/String" := E2.keep K_4
  have f_13 : Fld Z T_4.heap r "java/lang/String" "value" "[B" (.ref rb) := F2_value.keep K_4 (ninS (E2.neArv V1 (wdOf hw 40 rfl)) nin0)
  have f_14 : Fld Z T_4.heap r "java/lang/String" "coder" "B" (.int (0 : Int32)) := F2_coder.keep K_4 (ninS (E2.neArv V1 (wdOf hw 40 rfl)) nin0)
  have f_15 : Arv Z T_4.heap rb kr .byte z (L1 ds) (.int (0 : Int32)) := V2.keep K_4 (ninS nb nin0)
  have K_16 : Keep h0 T_4.heap [ba] := K0.trans K_4 (allS (P := fun x => x ∈ [ba] ∨ h0.size ≤ x) (Or.inl (List.mem_of_getElem? (i := 0) rfl)) all0)
  have y_16 : n0 ≤ T_4.heap.size := Nat.le_trans Z0 K_16.1
  refine Goes.go (U' := (T_4.setTop (mkF m 18 #[sR_ ax, sI_ pn, sR_ r] []))) st_4 ?_
  refine Goes.retV X_4 hx hlk hret (hb hby d_rm_ps10_18) (by decide) (by decide) ?_
  try rw [(rfl : T_4.heap = T_4.heap)]
  exact ⟨rfl, N_4, K_16, V_4⟩
theorem d_rm_ps01_0 : decode jdk_68_method_73_code 0 = .ok (.aload_n 0, 1) := by decide +kernel
theorem d_rm_ps01_1 : decode jdk_68_method_73_code 1 = .ok (.aload_n 2, 1) := by decide +kernel
theorem d_rm_ps01_2 : decode jdk_68_method_73_code 2 = .ok (.invokevirtual 397, 3) := by decide +kernel
theorem d_rm_ps01_5 : decode jdk_68_method_73_code 5 = .ok (.aload_n 2, 1) := by decide +kernel
theorem d_rm_ps01_6 : decode jdk_68_method_73_code 6 = .ok (.aload_n 0, 1) := by decide +kernel
theorem d_rm_ps01_7 : decode jdk_68_method_73_code 7 = .ok (.getfield 15, 3) := by decide +kernel
theorem d_rm_ps01_10 : decode jdk_68_method_73_code 10 = .ok (.iload_n 1, 1) := by decide +kernel
theorem d_rm_ps01_11 : decode jdk_68_method_73_code 11 = .ok (.aload_n 0, 1) := by decide +kernel
theorem d_rm_ps01_12 : decode jdk_68_method_73_code 12 = .ok (.getfield 22, 3) := by decide +kernel
theorem d_rm_ps01_15 : decode jdk_68_method_73_code 15 = .ok (.invokevirtual 399, 3) := by decide +kernel
theorem d_rm_ps01_18 : decode jdk_68_method_73_code 18 = .ok (.return_, 1) := by decide +kernel
set_option maxHeartbeats 4000000 in
theorem ef_rm_ps01 (m : MethodId) (x0 : Addr) (x1 : Int32) (x2 : Addr)  : entryFrame m #[(.ref x0), (.int x1), (.ref x2)] 3 = mkF m 0 #[.val (.ref x0), .val (.int x1), .val (.ref x2)] [] := by first | (simp [entryFrame, mkF, argsToLocals, catR, catN, catI, catJ]; done) | rfl
set_option maxRecDepth 65536 in
set_option maxHeartbeats 40000000 in
theorem rm_ps01 (l : Launch) (Z : State) (a0 : Array Value) (hw : ∀ d ∈ tables_1, d.before a0 Z = true) (ws : List Jvm.Cond) (kc : Int32) (sx : Value) (ax ba r rb : Addr) (kb kr : ClassId) (pn z : Int32) (cs ds : List Int32) (h0 : Heap) (n0 : Nat) (Z0 : n0 ≤ h0.size) (G : Stt Z kc sx) (O : Old Z n0 h0) (E1 : Exa Z h0 ax "java/lang/StringBuilder") (F1_value : Fld Z h0 ax "java/lang/AbstractStringBuilder" "value" "[B" (.ref ba)) (F1_coder : Fld Z h0 ax "java/lang/AbstractStringBuilder" "coder" "B" (.int (0 : Int32))) (F1_count : Fld Z h0 ax "java/lang/AbstractStringBuilder" "count" "I" (.int pn)) (F1_maybeLatin1 : Fld Z h0 ax "java/lang/AbstractStringBuilder" "maybeLatin1" "Z" (.int (0 : Int32))) (V1 : Arv Z h0 ba kb .byte (16 : Int32) (L1 cs) (.int (0 : Int32))) (E2 : Exa Z h0 r "java/lang/String") (F2_value : Fld Z h0 r "java/lang/String" "value" "[B" (.ref rb)) (F2_coder : Fld Z h0 r "java/lang/String" "coder" "B" (.int (1 : Int32))) (V2 : Arv Z h0 rb kr .byte (z <<< ((1 : Int32) &&& 31)) (U2 ds) (.int (0 : Int32))) (o0 : n0 ≤ ax) (nra : rb ≠ ax) (hz : Sz z ds.length) (hp : Sz pn cs.length) (hnd : 2 * (cs.length + ds.length) ≤ (32 : Int32).toNatClampNeg) (hle : cs.length ≤ 3) (hlc : ∀ c ∈ cs, Lc c) :
    Pays l Z (⟨"java/lang/AbstractStringBuilder", "putStringAt", "(ILjava/lang/String;)V"⟩ : MethodName) jdk_68_method_73_code 3 none ws ({ frames := 7, cells := 1, slots := 32, locals := 102 } : Room) #[(.ref ax), (.int pn), (.ref r)] h0 (fun v h L => ∃ b k, v = none ∧ Fr n0 L ∧ Keep h0 h [ax] ∧ h0.size ≤ b ∧ Exa Z h ax "java/lang/StringBuilder" ∧ Fld Z h ax "java/lang/AbstractStringBuilder" "value" "[B" (.ref b) ∧ Fld Z h ax "java/lang/AbstractStringBuilder" "coder" "B" (.int (1 : Int32)) ∧ Fld Z h ax "java/lang/AbstractStringBuilder" "count" "I" (.int pn) ∧ Fld Z h ax "java/lang/AbstractStringBuilder" "maybeLatin1" "Z" (.int (0 : Int32)) ∧ Arv Z h b k .byte (32 : Int32) (U2 (cs ++ ds)) (.int (0 : Int32))) := by
  refine Pays.of (plainFor_of_name (by first | (simp [plainName, overriddenIn]; done) | decide +kernel)) ?_
  intro p e s m below meth c s₁ hx hby hml hown hnm hret hlk hZ e0 X0
  have N0 := Fr.nil n0
  have K0 : Keep h0 h0 [ax] := Keep.refl _ _
  refine Goes.go (U' := (s₁.setTop (mkF m 0 #[sR_ ax, sI_ pn, sR_ r] []))) (fun t kt => castTop (ef_rm_ps01 m ax pn r) kt) ?_
  refine Goes.go (U' := (s₁.setTop (mkF m 2 #[sR_ ax, sI_ pn, sR_ r] [(.ref r), (.ref ax)]))) (fun t kt => ?_) ?_
  · skip
    refine XS.aloadN X0.here hx rfl (hb hby d_rm_ps01_0) rfl rfl ?_
    refine XS.aloadN X0.here hx rfl (hb hby d_rm_ps01_1) rfl rfl ?_
    exact kt
  obtain ⟨v_1, T_1, L_1, X_1, q_1, st_1⟩ := callPrivSel X0 hx hZ (y := (⟨"java/lang/AbstractStringBuilder", "inflateIfNeededFor", "(Ljava/lang/String;)V"⟩ : MethodName)) (W := 0) hown (wdOf hw 90 rfl) (wdOf hw 91 rfl) (wdOf hw 92 rfl) (wdOf hw 93 rfl) (wdOf hw 19 rfl) (wdOf hw 94 rfl) (by decide) (rm_if01 l Z a0 hw [] kc sx ax ba r kb pn cs h0 n0 Z0 G O E1 F1_value F1_coder F1_count F1_maybeLatin1 V1 E2 F2_coder o0 hp hle hlc) (by decide) (by decide) (by decide) (by decide) e0 E1 (g := (mkF m 2 #[sR_ ax, sI_ pn, sR_ r] [(.ref r), (.ref ax)])) rfl (by rw [hml]; rfl) (argsL := [(.ref r)]) (rest := []) (lenOf pd_22 rfl) rfl rfl (Nat.le_refl _) (hb hby d_rm_ps01_2)
  obtain ⟨b_1, k_1, rfl, n_1, K_1, z_1, EQ_1, FQ_1_value, FQ_1_coder, FQ_1_count, FQ_1_maybeLatin1, VQ_1⟩ := q_1
  have ne_2 : ax ≠ b_1 := Nat.ne_of_lt (Nat.lt_of_lt_of_le E1.lt z_1)
  have ne_3 : ba ≠ b_1 := Nat.ne_of_lt (Nat.lt_of_lt_of_le V1.lt z_1)
  have ne_4 : r ≠ b_1 := Nat.ne_of_lt (Nat.lt_of_lt_of_le E2.lt z_1)
  have ne_5 : rb ≠ b_1 := Nat.ne_of_lt (Nat.lt_of_lt_of_le V2.lt z_1)
  have o_6 : n0 ≤ b_1 := Nat.le_trans Z0 z_1
  have z_7 : h0.size ≤ b_1 := Nat.le_trans K0.1 z_1
  have N_1 := Fr.app N0 n_1
  have f_8 : Old Z n0 T_1.heap := O.keep K_1 (allS o0 all0)
  have f_9 : Exa Z T_1.heap ax "java/lang/StringBuilder" := E1.keep K_1
  have f_10 : Arv Z T_1.heap ba kb .byte (16 : Int32) (L1 cs) (.int (0 : Int32)) := V1.keep K_1 (ninS (Ne.symm (E1.neArv V1 (wdOf hw 10 rfl))) nin0)
  have f_11 : Exa Z T_1.heap r "java/lang/String" := E2.keep K_1
  have f_12 : Fld Z T_1.heap r "java/lang/String" "value" "[B" (.ref rb) := F2_value.keep K_1 (ninS (ne_exa E2 E1 (by decide)) nin0)
  have f_13 : Fld Z T_1.heap r "java/lang/String" "coder" "B" (.int (1 : Int32)) := F2_coder.keep K_1 (ninS (ne_exa E2 E1 (by decide)) nin0)
  have f_14 : Arv Z T_1.heap rb kr .byte (z <<< ((1 : Int32) &&& 31)) (U2 ds) (.int (0 : Int32)) := V2.keep K_1 (ninS nra nin0)
  have K_15 : Keep h0 T_1.heap [ax] := K0.trans K_1 (allS (P := fun x => x ∈ [ax] ∨ h0.size ≤ x) (Or.inl (List.mem_of_getElem? (i := 0) rfl)) all0)
  have y_15 : n0 ≤ T_1.heap.size := Nat.le_trans Z0 K_15.1
  refine Goes.go (U' := (T_1.setTop (mkF m 5 #[sR_ ax, sI_ pn, sR_ r] []))) st_1 ?_
  refine Goes.go (U' := (T_1.setTop (mkF m 7 #[sR_ ax, sI_ pn, sR_ r] [(.ref ax), (.ref r)]))) (fun t kt => ?_) ?_
  · skip
    refine XS.aloadN X_1.here hx rfl (hb hby d_rm_ps01_5) rfl rfl ?_
    refine XS.aloadN X_1.here hx rfl (hb hby d_rm_ps01_6) rfl rfl ?_
    exact kt
  obtain ⟨T_16, X_16, e_16, st_16⟩ := getF X_1 hx hZ hown (host := "") (Or.inl (wdOf hw 25 rfl)) Via.refl (rfl : T_1.heap = T_1.heap) FQ_1_value (g := (mkF m 7 #[sR_ ax, sI_ pn, sR_ r] [(.ref ax), (.ref r)])) rfl rfl (hb hby d_rm_ps01_7)
  refine Goes.go (U' := (T_16.setTop (mkF m 10 #[sR_ ax, sI_ pn, sR_ r] [(.ref b_1), (.ref r)]))) st_16 ?_
  refine Goes.go (U' := (T_16.setTop (mkF m 12 #[sR_ ax, sI_ pn, sR_ r] [(.ref ax), (.int pn), (.ref b_1), (.ref r)]))) (fun t kt => ?_) ?_
  · skip
    refine XS.iloadN X_16.here hx rfl (hb hby d_rm_ps01_10) rfl ?_
    refine XS.aloadN X_16.here hx rfl (hb hby d_rm_ps01_11) rfl rfl ?_
    exact kt
  obtain ⟨T_17, X_17, e_17, st_17⟩ := getF X_16 hx hZ hown (host := "") (Or.inl (wdOf hw 27 rfl)) Via.refl e_16 FQ_1_coder (g := (mkF m 12 #[sR_ ax, sI_ pn, sR_ r] [(.ref ax), (.int pn), (.ref b_1), (.ref r)])) rfl rfl (hb hby d_rm_ps01_12)
  refine Goes.go (U' := (T_17.setTop (mkF m 15 #[sR_ ax, sI_ pn, sR_ r] [(.int (1 : Int32)), (.int pn), (.ref b_1), (.ref r)]))) st_17 ?_
  obtain ⟨v_18, T_18, L_18, X_18, q_18, st_18⟩ := callVirtual X_17 hx hZ (y := (⟨"java/lang/String", "getBytes", "([BIB)V"⟩ : MethodName)) (z := (⟨"java/lang/String", "getBytes", "([BIB)V"⟩ : MethodName)) (W := 0) hown (wdOf hw 96 rfl) (wdOf hw 97 rfl) (notFace_of_selects (args := #[]) (mvT hZ (wdOf hw 99 rfl))) (wdOf hw 99 rfl) (wdOf hw 98 rfl) (wdOf hw 23 rfl) (wdOf hw 100 rfl) (by decide) (rm_gb1 l Z a0 hw [] kc sx r rb b_1 kr k_1 pn z (32 : Int32) cs ds T_1.heap n0 y_15 G f_8 f_11 f_12 f_13 f_14 VQ_1 o_6 ne_5 hz hp hnd) (by decide) (by decide) (by decide) (by decide) e_17 f_11 (g := (mkF m 15 #[sR_ ax, sI_ pn, sR_ r] [(.int (1 : Int32)), (.int pn), (.ref b_1), (.ref r)])) rfl (by rw [hml]; rfl) (argsL := [(.ref b_1), (.int pn), (.int (1 : Int32))]) (rest := []) (lenOf pd_23 rfl) rfl rfl (Nat.le_refl _) (hb hby d_rm_ps01_15)
  obtain ⟨rfl, n_18, K_18, V_18⟩ := q_18
  have N_18 := Fr.app N_1 n_18
  have f_19 : Old Z n0 T_18.heap := f_8.keep K_18 (allS o_6 all0)
  have f_20 : Exa Z T_18.heap ax "java/lang/StringBuilder" := f_9.keep K_18
  have f_21 : Arv Z T_18.heap ba kb .byte (16 : Int32) (L1 cs) (.int (0 : Int32)) := f_10.keep K_18 (ninS ne_3 nin0)
  have f_22 : Exa Z T_18.heap r "java/lang/String" := f_11.keep K_18
  have f_23 : Fld Z T_18.heap r "java/lang/String" "value" "[B" (.ref rb) := f_12.keep K_18 (ninS ne_4 nin0)
  have f_24 : Fld Z T_18.heap r "java/lang/String" "coder" "B" (.int (1 : Int32)) := f_13.keep K_18 (ninS ne_4 nin0)
  have f_25 : Arv Z T_18.heap rb kr .byte (z <<< ((1 : Int32) &&& 31)) (U2 ds) (.int (0 : Int32)) := f_14.keep K_18 (ninS ne_5 nin0)
  have f_26 : Fld Z T_18.heap ax "java/lang/AbstractStringBuilder" "value" "[B" (.ref b_1) := FQ_1_value.keep K_18 (ninS ne_2 nin0)
  have f_27 : Fld Z T_18.heap ax "java/lang/AbstractStringBuilder" "coder" "B" (.int (1 : Int32)) := FQ_1_coder.keep K_18 (ninS ne_2 nin0)
  have f_28 : Fld Z T_18.heap ax "java/lang/AbstractStringBuilder" "count" "I" (.int pn) := FQ_1_count.keep K_18 (ninS ne_2 nin0)
  have f_29 : Fld Z T_18.heap ax "java/lang/AbstractStringBuilder" "maybeLatin1" "Z" (.int (0 : Int32)) := FQ_1_maybeLatin1.keep K_18 (ninS ne_2 nin0)
  have K_31 : Keep h0 T_18.heap [ax] := K_15.trans K_18 (allS (P := fun x => x ∈ [ax] ∨ h0.size ≤ x) (Or.inr z_7) all0)
  have y_31 : n0 ≤ T_18.heap.size := Nat.le_trans Z0 K_31.1
  refine Goes.go (U' := (T_18.setTop (mkF m 18 #[sR_ ax, sI_ pn, sR_ r] []))) st_18 ?_
  refine Goes.retV X_18 hx hlk hret (hb hby d_rm_ps01_18) (by decide) (by decide) ?_
  try rw [(rfl : T_18.heap = T_18.heap)]
  exact ⟨_, _, rfl, N_18, K_31, z_7, f_20, f_26, f_27, f_28, f_29, V_18⟩
theorem d_rm_ap001_0 : decode jdk_68_method_22_code 0 = .ok (.aload_n 1, 1) := by decide +kernel
theorem d_rm_ap001_1 : decode jdk_68_method_22_code 1 = .ok (.ifnonnull 8, 3) := by decide +kernel
theorem d_rm_ap001_9 : decode jdk_68_method_22_code 9 = .ok (.aload_n 1, 1) := by decide +kernel
theorem d_rm_ap001_10 : decode jdk_68_method_22_code 10 = .ok (.invokevirtual 32, 3) := by decide +kernel
theorem d_rm_ap001_13 : decode jdk_68_method_22_code 13 = .ok (.istore_n 2, 1) := by decide +kernel
theorem d_rm_ap001_14 : decode jdk_68_method_22_code 14 = .ok (.aload_n 0, 1) := by decide +kernel
theorem d_rm_ap001_15 : decode jdk_68_method_22_code 15 = .ok (.aload_n 0, 1) := by decide +kernel
theorem d_rm_ap001_16 : decode jdk_68_method_22_code 16 = .ok (.getfield 79, 3) := by decide +kernel
theorem d_rm_ap001_19 : decode jdk_68_method_22_code 19 = .ok (.iload_n 2, 1) := by decide +kernel
theorem d_rm_ap001_20 : decode jdk_68_method_22_code 20 = .ok (.iadd, 1) := by decide +kernel
theorem d_rm_ap001_21 : decode jdk_68_method_22_code 21 = .ok (.invokevirtual 100, 3) := by decide +kernel
theorem d_rm_ap001_24 : decode jdk_68_method_22_code 24 = .ok (.aload_n 0, 1) := by decide +kernel
theorem d_rm_ap001_25 : decode jdk_68_method_22_code 25 = .ok (.aload_n 0, 1) := by decide +kernel
theorem d_rm_ap001_26 : decode jdk_68_method_22_code 26 = .ok (.getfield 79, 3) := by decide +kernel
theorem d_rm_ap001_29 : decode jdk_68_method_22_code 29 = .ok (.aload_n 1, 1) := by decide +kernel
theorem d_rm_ap001_30 : decode jdk_68_method_22_code 30 = .ok (.invokevirtual 208, 3) := by decide +kernel
theorem d_rm_ap001_33 : decode jdk_68_method_22_code 33 = .ok (.aload_n 0, 1) := by decide +kernel
theorem d_rm_ap001_34 : decode jdk_68_method_22_code 34 = .ok (.dup, 1) := by decide +kernel
theorem d_rm_ap001_35 : decode jdk_68_method_22_code 35 = .ok (.getfield 79, 3) := by decide +kernel
theorem d_rm_ap001_38 : decode jdk_68_method_22_code 38 = .ok (.iload_n 2, 1) := by decide +kernel
theorem d_rm_ap001_39 : decode jdk_68_method_22_code 39 = .ok (.iadd, 1) := by decide +kernel
theorem d_rm_ap001_40 : decode jdk_68_method_22_code 40 = .ok (.putfield 79, 3) := by decide +kernel
theorem d_rm_ap001_43 : decode jdk_68_method_22_code 43 = .ok (.aload_n 0, 1) := by decide +kernel
theorem d_rm_ap001_44 : decode jdk_68_method_22_code 44 = .ok (.areturn, 1) := by decide +kernel
set_option maxHeartbeats 4000000 in
theorem ef_rm_ap001 (m : MethodId) (x0 : Addr) (x1 : Addr)  : entryFrame m #[(.ref x0), (.ref x1)] 3 = mkF m 0 #[.val (.ref x0), .val (.ref x1), .unset] [] := by first | (simp [entryFrame, mkF, argsToLocals, catR, catN, catI, catJ]; done) | rfl
set_option maxRecDepth 65536 in
set_option maxHeartbeats 40000000 in
theorem rm_ap001 (l : Launch) (Z : State) (a0 : Array Value) (hw : ∀ d ∈ tables_1, d.before a0 Z = true) (ws : List Jvm.Cond) (kc : Int32) (sx : Value) (ax ba r rb : Addr) (kb kr : ClassId) (pn : Int32) (cs ds : List Int32) (h0 : Heap) (n0 : Nat) (Z0 : n0 ≤ h0.size) (G : Stt Z kc sx) (O : Old Z n0 h0) (E1 : Exa Z h0 ax "java/lang/StringBuilder") (F1_value : Fld Z h0 ax "java/lang/AbstractStringBuilder" "value" "[B" (.ref ba)) (F1_coder : Fld Z h0 ax "java/lang/AbstractStringBuilder" "coder" "B" (.int (0 : Int32))) (F1_count : Fld Z h0 ax "java/lang/AbstractStringBuilder" "count" "I" (.int pn)) (F1_maybeLatin1 : Fld Z h0 ax "java/lang/AbstractStringBuilder" "maybeLatin1" "Z" (.int (0 : Int32))) (V1 : Arv Z h0 ba kb .byte (16 : Int32) (L1 cs) (.int (0 : Int32))) (E2 : Exa Z h0 r "java/lang/String") (F2_value : Fld Z h0 r "java/lang/String" "value" "[B" (.ref rb)) (F2_coder : Fld Z h0 r "java/lang/String" "coder" "B" (.int (0 : Int32))) (V2 : Arv Z h0 rb kr .byte (1 : Int32) (L1 ds) (.int (0 : Int32))) (o0 : n0 ≤ ax) (o1 : n0 ≤ ba) (nb : rb ≠ ba) (hz : Sz (1 : Int32) ds.length) (hp : Sz pn cs.length) (hle : cs.length ≤ 2) (hlc : ∀ c ∈ cs, Lc c) (hld : ∀ c ∈ ds, Lc c) :
    Pays l Z (⟨"java/lang/AbstractStringBuilder", "append", "(Ljava/lang/String;)Ljava/lang/AbstractStringBuilder;"⟩ : MethodName) jdk_68_method_22_code 3 (some (.object "java/lang/AbstractStringBuilder")) ws ({ frames := 3, cells := 0, slots := 0, locals := 47 } : Room) #[(.ref ax), (.ref r)] h0 (fun v h L => ∃ b k, v = some (.ref ax) ∧ Fr n0 L ∧ Keep h0 h [ax, ba] ∧ n0 ≤ b ∧ Exa Z h ax "java/lang/StringBuilder" ∧ Fld Z h ax "java/lang/AbstractStringBuilder" "value" "[B" (.ref b) ∧ Fld Z h ax "java/lang/AbstractStringBuilder" "coder" "B" (.int (0 : Int32)) ∧ Fld Z h ax "java/lang/AbstractStringBuilder" "count" "I" (.int (pn + (1 : Int32))) ∧ Fld Z h ax "java/lang/AbstractStringBuilder" "maybeLatin1" "Z" (.int (0 : Int32)) ∧ Arv Z h b k .byte (16 : Int32) (L1 (cs ++ ds)) (.int (0 : Int32))) := by
  refine Pays.of (plainFor_of_name (by first | (simp [plainName, overriddenIn]; done) | decide +kernel)) ?_
  intro p e s m below meth c s₁ hx hby hml hown hnm hret hlk hZ e0 X0
  have N0 := Fr.nil n0
  have K0 : Keep h0 h0 [ax, ba] := Keep.refl _ _
  refine Goes.go (U' := (s₁.setTop (mkF m 0 #[sR_ ax, sR_ r, sU_] []))) (fun t kt => castTop (ef_rm_ap001 m ax r) kt) ?_
  have hp4 := hp.four (Nat.le_trans hle (by decide))
  have hd1 : ds.length = 1 := by have := hz.nat; rw [← this]; rfl
  refine Goes.go (U' := (s₁.setTop (mkF m 10 #[sR_ ax, sR_ r, sU_] [(.ref r)]))) (fun t kt => ?_) ?_
  · skip
    refine XS.aloadN X0.here hx rfl (hb hby d_rm_ap001_0) rfl rfl ?_
    refine XS.ifnonnullYes X0.here hx rfl (pc0 := 1) (pc' := 9) rfl (hb hby d_rm_ap001_1) rfl (by decide) (by decide) ?_
    refine XS.aloadN X0.here hx rfl (hb hby d_rm_ap001_9) rfl rfl ?_
    exact kt
  obtain ⟨v_1, T_1, L_1, X_1, q_1, st_1⟩ := callVirtual X0 hx hZ (y := (⟨"java/lang/String", "length", "()I"⟩ : MethodName)) (z := (⟨"java/lang/String", "length", "()I"⟩ : MethodName)) (W := 0) hown (wdOf hw 68 rfl) (wdOf hw 69 rfl) (notFace_of_selects (args := #[]) (mvT hZ (wdOf hw 71 rfl))) (wdOf hw 71 rfl) (wdOf hw 70 rfl) (wdOf hw 23 rfl) (wdOf hw 72 rfl) (by decide) (rm_ln l Z a0 hw [] kc sx r rb (1 : Int32) ds h0 n0 Z0 G O ⟨hz, Or.inl ⟨⟨_, E2, F2_value, F2_coder, V2⟩, hld⟩⟩) (by decide) (by decide) (by decide) (by decide) e0 E2 (g := (mkF m 10 #[sR_ ax, sR_ r, sU_] [(.ref r)])) rfl (by rw [hml]; rfl) (argsL := []) (rest := []) (lenOf pd_24 rfl) rfl rfl (Nat.le_refl _) (hb hby d_rm_ap001_10)
  obtain ⟨rfl, n_1, K_1⟩ := q_1
  have N_1 := Fr.app N0 n_1
  refine Goes.go (U' := (T_1.setTop (mkF m 13 #[sR_ ax, sR_ r, sU_] [(.int (1 : Int32))]))) st_1 ?_
  refine Goes.go (U' := (T_1.setTop (mkF m 16 #[sR_ ax, sR_ r, sI_ (1 : Int32)] [(.ref ax), (.ref ax)]))) (fun t kt => ?_) ?_
  · skip
    refine XS.istoreN X_1.here hx rfl (hb hby d_rm_ap001_13) rfl (l' := #[sR_ ax, sR_ r, sI_ (1 : Int32)]) rfl ?_
    refine XS.aloadN X_1.here hx rfl (hb hby d_rm_ap001_14) rfl rfl ?_
    refine XS.aloadN X_1.here hx rfl (hb hby d_rm_ap001_15) rfl rfl ?_
    exact kt
  obtain ⟨T_2, X_2, e_2, st_2⟩ := getF X_1 hx hZ hown (host := "") (Or.inl (wdOf hw 78 rfl)) Via.refl K_1 F1_count (g := (mkF m 16 #[sR_ ax, sR_ r, sI_ (1 : Int32)] [(.ref ax), (.ref ax)])) rfl rfl (hb hby d_rm_ap001_16)
  refine Goes.go (U' := (T_2.setTop (mkF m 19 #[sR_ ax, sR_ r, sI_ (1 : Int32)] [(.int pn), (.ref ax)]))) st_2 ?_
  refine Goes.go (U' := (T_2.setTop (mkF m 21 #[sR_ ax, sR_ r, sI_ (1 : Int32)] [(.int (pn + (1 : Int32))), (.ref ax)]))) (fun t kt => ?_) ?_
  · skip
    refine XS.iloadN X_2.here hx rfl (hb hby d_rm_ap001_19) rfl ?_
    refine XS.iadd X_2.here hx rfl (hb hby d_rm_ap001_20) rfl ?_
    exact kt
  obtain ⟨v_3, T_3, L_3, X_3, q_3, st_3⟩ := callPrivSel X_2 hx hZ (y := (⟨"java/lang/AbstractStringBuilder", "ensureCapacityInternal", "(I)V"⟩ : MethodName)) (W := 0) hown (wdOf hw 80 rfl) (wdOf hw 81 rfl) (wdOf hw 82 rfl) (wdOf hw 83 rfl) (wdOf hw 19 rfl) (wdOf hw 84 rfl) (by decide) (rm_ec00 l Z a0 hw [] kc sx ax ba kb (pn + (1 : Int32)) (L1 cs) h0 n0 Z0 G O F1_value F1_coder V1 (by rcases hp4 with rfl | rfl | rfl | rfl <;> decide)) (by decide) (by decide) (by decide) (by decide) e_2 E1 (g := (mkF m 21 #[sR_ ax, sR_ r, sI_ (1 : Int32)] [(.int (pn + (1 : Int32))), (.ref ax)])) rfl (by rw [hml]; rfl) (argsL := [(.int (pn + (1 : Int32)))]) (rest := []) (lenOf pd_25 rfl) rfl rfl (Nat.le_refl _) (hb hby d_rm_ap001_21)
  obtain ⟨rfl, n_3, K_3⟩ := q_3
  have N_3 := Fr.app N_1 n_3
  refine Goes.go (U' := (T_3.setTop (mkF m 24 #[sR_ ax, sR_ r, sI_ (1 : Int32)] []))) st_3 ?_
  refine Goes.go (U' := (T_3.setTop (mkF m 26 #[sR_ ax, sR_ r, sI_ (1 : Int32)] [(.ref ax), (.ref ax)]))) (fun t kt => ?_) ?_
  · skip
    refine XS.aloadN X_3.here hx rfl (hb hby d_rm_ap001_24) rfl rfl ?_
    refine XS.aloadN X_3.here hx rfl (hb hby d_rm_ap001_25) rfl rfl ?_
    exact kt
  obtain ⟨T_4, X_4, e_4, st_4⟩ := getF X_3 hx hZ hown (host := "") (Or.inl (wdOf hw 78 rfl)) Via.refl K_3 F1_count (g := (mkF m 26 #[sR_ ax, sR_ r, sI_ (1 : Int32)] [(.ref ax), (.ref ax)])) rfl rfl (hb hby d_rm_ap001_26)
  refine Goes.go (U' := (T_4.setTop (mkF m 29 #[sR_ ax, sR_ r, sI_ (1 : Int32)] [(.int pn), (.ref ax)]))) st_4 ?_
  refine Goes.go (U' := (T_4.setTop (mkF m 30 #[sR_ ax, sR_ r, sI_ (1 : Int32)] [(.ref r), (.int pn), (.ref ax)]))) (fun t kt => ?_) ?_
  · skip
    refine XS.aloadN X_4.here hx rfl (hb hby d_rm_ap001_29) rfl rfl ?_
    exact kt
  obtain ⟨v_5, T_5, L_5, X_5, q_5, st_5⟩ := callPrivSel X_4 hx hZ (y := (⟨"java/lang/AbstractStringBuilder", "putStringAt", "(ILjava/lang/String;)V"⟩ : MethodName)) (W := 0) hown (wdOf hw 85 rfl) (wdOf hw 86 rfl) (wdOf hw 87 rfl) (wdOf hw 88 rfl) (wdOf hw 19 rfl) (wdOf hw 89 rfl) (by decide) (rm_ps00 l Z a0 hw [] kc sx ax ba r rb kb kr pn (1 : Int32) (16 : Int32) cs ds h0 n0 Z0 G O E1 F1_value F1_coder F1_count F1_maybeLatin1 V1 E2 F2_value F2_coder V2 o1 nb hz hp (by rw [hd1]; have : (16 : Int32).toNatClampNeg = 16 := rfl; omega)) (by decide) (by decide) (by decide) (by decide) e_4 E1 (g := (mkF m 30 #[sR_ ax, sR_ r, sI_ (1 : Int32)] [(.ref r), (.int pn), (.ref ax)])) rfl (by rw [hml]; rfl) (argsL := [(.int pn), (.ref r)]) (rest := []) (lenOf pd_26 rfl) rfl rfl (Nat.le_refl _) (hb hby d_rm_ap001_30)
  obtain ⟨rfl, n_5, K_5, V_5⟩ := q_5
  have N_5 := Fr.app N_3 n_5
  have f_6 : Old Z n0 T_5.heap := O.keep K_5 (allS o1 all0)
  have f_7 : Exa Z T_5.heap ax "java/lang/StringBuilder" := E1.keep K_5
  have f_8 : Fld Z T_5.heap ax "java/lang/AbstractStringBuilder" "value" "[B" (.ref ba) := F1_value.keep K_5 (ninS (E1.neArv V1 (wdOf hw 10 rfl)) nin0)
  have f_9 : Fld Z T_5.heap ax "java/lang/AbstractStringBuilder" "coder" "B" (.int (0 : Int32)) := F1_coder.keep K_5 (ninS (E1.neArv V1 (wdOf hw 10 rfl)) nin0)
  have f_10 : Fld Z T_5.heap ax "java/lang/AbstractStringBuilder" "count" "I" (.int pn) := F1_count.keep K_5 (ninS (E1.neArv V1 (wdOf hw 10 rfl)) nin0)
  have f_11 : Fld Z T_5.heap ax "java/lang/AbstractStringBuilder" "maybeLatin1" "Z" (.int (0 : Int32)) := F1_maybeLatin1.keep K_5 (ninS (E1.neArv V1 (wdOf hw 10 rfl)) nin0)
  have f_13 : Exa Z T_5.heap r "java/lang/String" := E2.keep K_5
  have f_14 : Fld Z T_5.heap r "java/lang/String" "value" "[B" (.ref rb) := F2_value.keep K_5 (ninS (E2.neArv V1 (wdOf hw 40 rfl)) nin0)
  have f_15 : Fld Z T_5.heap r "java/lang/String" "coder" "B" (.int (0 : Int32)) := F2_coder.keep K_5 (ninS (E2.neArv V1 (wdOf hw 40 rfl)) nin0)
  have f_16 : Arv Z T_5.heap rb kr .byte (1 : Int32) (L1 ds) (.int (0 : Int32)) := V2.keep K_5 (ninS nb nin0)
  have K_17 : Keep h0 T_5.heap [ax, ba] := K0.trans K_5 (allS (P := fun x => x ∈ [ax, ba] ∨ h0.size ≤ x) (Or.inl (List.mem_of_getElem? (i := 1) rfl)) all0)
  have y_17 : n0 ≤ T_5.heap.size := Nat.le_trans Z0 K_17.1
  refine Goes.go (U' := (T_5.setTop (mkF m 33 #[sR_ ax, sR_ r, sI_ (1 : Int32)] []))) st_5 ?_
  refine Goes.go (U' := (T_5.setTop (mkF m 35 #[sR_ ax, sR_ r, sI_ (1 : Int32)] [(.ref ax), (.ref ax)]))) (fun t kt => ?_) ?_
  · skip
    refine XS.aloadN X_5.here hx rfl (hb hby d_rm_ap001_33) rfl rfl ?_
    refine XS.dup X_5.here hx rfl (hb hby d_rm_ap001_34) rfl rfl ?_
    exact kt
  obtain ⟨T_18, X_18, e_18, st_18⟩ := getF X_5 hx hZ hown (host := "") (Or.inl (wdOf hw 78 rfl)) Via.refl (rfl : T_5.heap = T_5.heap) f_10 (g := (mkF m 35 #[sR_ ax, sR_ r, sI_ (1 : Int32)] [(.ref ax), (.ref ax)])) rfl rfl (hb hby d_rm_ap001_35)
  refine Goes.go (U' := (T_18.setTop (mkF m 38 #[sR_ ax, sR_ r, sI_ (1 : Int32)] [(.int pn), (.ref ax)]))) st_18 ?_
  refine Goes.go (U' := (T_18.setTop (mkF m 40 #[sR_ ax, sR_ r, sI_ (1 : Int32)] [(.int (pn + (1 : Int32))), (.ref ax)]))) (fun t kt => ?_) ?_
  · skip
    refine XS.iloadN X_18.here hx rfl (hb hby d_rm_ap001_38) rfl ?_
    refine XS.iadd X_18.here hx rfl (hb hby d_rm_ap001_39) rfl ?_
    exact kt
  obtain ⟨T_19, h_19, X_19, e_19, W_19, st_19⟩ := putF X_18 hx hZ hown (host := "") (Or.inl (wdOf hw 78 rfl)) Via.refl e_18 f_10 f_7 (Or.inl (wdOf hw 79 rfl)) (wdOf hw 10 rfl) (ty := .int) (by decide) rfl rfl (g := (mkF m 40 #[sR_ ax, sR_ r, sI_ (1 : Int32)] [(.int (pn + (1 : Int32))), (.ref ax)])) rfl rfl (hb hby d_rm_ap001_40)
  have N_19 := Fr.snoc X_19 N_5 o0
  have f_20 : Old Z n0 h_19 := f_6.wr W_19 o0
  have f_21 : Exa Z h_19 ax "java/lang/StringBuilder" := f_7.wr W_19
  have f_22 : Fld Z h_19 ax "java/lang/AbstractStringBuilder" "value" "[B" (.ref ba) := f_8.other W_19 (Or.inr (slot_ne (Or.inl (wdOf hw 26 rfl)) (Or.inl (wdOf hw 79 rfl)) (by decide) (t := (.array .byte)) (t' := .int) (by decide) (by decide)))
  have f_23 : Fld Z h_19 ax "java/lang/AbstractStringBuilder" "coder" "B" (.int (0 : Int32)) := f_9.other W_19 (Or.inr (slot_ne (Or.inl (wdOf hw 28 rfl)) (Or.inl (wdOf hw 79 rfl)) (by decide) (t := .byte) (t' := .int) (by decide) (by decide)))
  have f_24 : Fld Z h_19 ax "java/lang/AbstractStringBuilder" "count" "I" (.int (pn + (1 : Int32))) := f_10.same W_19
  have f_25 : Fld Z h_19 ax "java/lang/AbstractStringBuilder" "maybeLatin1" "Z" (.int (0 : Int32)) := f_11.other W_19 (Or.inr (slot_ne (Or.inl (wdOf hw 245 rfl)) (Or.inl (wdOf hw 79 rfl)) (by decide) (t := .boolean) (t' := .int) (by decide) (by decide)))
  have f_26 : Exa Z h_19 r "java/lang/String" := f_13.wr W_19
  have f_27 : Fld Z h_19 r "java/lang/String" "value" "[B" (.ref rb) := f_14.other W_19 (Or.inl (ne_exa f_13 f_7 (by decide)))
  have f_28 : Fld Z h_19 r "java/lang/String" "coder" "B" (.int (0 : Int32)) := f_15.other W_19 (Or.inl (ne_exa f_13 f_7 (by decide)))
  have f_29 : Arv Z h_19 rb kr .byte (1 : Int32) (L1 ds) (.int (0 : Int32)) := f_16.other W_19 (Ne.symm (f_7.neArv f_16 (wdOf hw 10 rfl)))
  have f_30 : Arv Z h_19 ba kb .byte (16 : Int32) (L1 (cs ++ ds)) (.int (0 : Int32)) := V_5.other W_19 (Ne.symm (f_7.neArv V_5 (wdOf hw 10 rfl)))
  have K_31 : Keep h0 h_19 [ax, ba] := K_17.wr W_19 (Or.inl (List.mem_of_getElem? (i := 0) rfl))
  have y_31 : n0 ≤ h_19.size := Nat.le_trans Z0 K_31.1
  refine Goes.go (U' := (T_19.setTop (mkF m 43 #[sR_ ax, sR_ r, sI_ (1 : Int32)] []))) st_19 ?_
  refine Goes.go (U' := (T_19.setTop (mkF m 44 #[sR_ ax, sR_ r, sI_ (1 : Int32)] [(.ref ax)]))) (fun t kt => ?_) ?_
  · skip
    refine XS.aloadN X_19.here hx rfl (hb hby d_rm_ap001_43) rfl rfl ?_
    exact kt
  refine Goes.retA X_19 hx hlk hret rfl rfl (hb hby d_rm_ap001_44) (by decide) (by decide) ?_
  try rw [e_19]
  exact ⟨_, _, rfl, N_19, K_31, o1, f_21, f_22, f_23, f_24, f_25, f_30⟩
theorem d_rm_sap001_0 : decode jdk_67_method_7_code 0 = .ok (.aload_n 0, 1) := by decide +kernel
theorem d_rm_sap001_1 : decode jdk_67_method_7_code 1 = .ok (.aload_n 1, 1) := by decide +kernel
theorem d_rm_sap001_2 : decode jdk_67_method_7_code 2 = .ok (.invokespecial 29, 3) := by decide +kernel
theorem d_rm_sap001_5 : decode jdk_67_method_7_code 5 = .ok (.pop, 1) := by decide +kernel
theorem d_rm_sap001_6 : decode jdk_67_method_7_code 6 = .ok (.aload_n 0, 1) := by decide +kernel
theorem d_rm_sap001_7 : decode jdk_67_method_7_code 7 = .ok (.areturn, 1) := by decide +kernel
set_option maxHeartbeats 4000000 in
theorem ef_rm_sap001 (m : MethodId) (x0 : Addr) (x1 : Addr)  : entryFrame m #[(.ref x0), (.ref x1)] 2 = mkF m 0 #[.val (.ref x0), .val (.ref x1)] [] := by first | (simp [entryFrame, mkF, argsToLocals, catR, catN, catI, catJ]; done) | rfl
set_option maxRecDepth 65536 in
set_option maxHeartbeats 40000000 in
theorem rm_sap001 (l : Launch) (Z : State) (a0 : Array Value) (hw : ∀ d ∈ tables_1, d.before a0 Z = true) (ws : List Jvm.Cond) (kc : Int32) (sx : Value) (ax ba r rb : Addr) (kb kr : ClassId) (pn : Int32) (cs ds : List Int32) (h0 : Heap) (n0 : Nat) (Z0 : n0 ≤ h0.size) (G : Stt Z kc sx) (O : Old Z n0 h0) (E1 : Exa Z h0 ax "java/lang/StringBuilder") (F1_value : Fld Z h0 ax "java/lang/AbstractStringBuilder" "value" "[B" (.ref ba)) (F1_coder : Fld Z h0 ax "java/lang/AbstractStringBuilder" "coder" "B" (.int (0 : Int32))) (F1_count : Fld Z h0 ax "java/lang/AbstractStringBuilder" "count" "I" (.int pn)) (F1_maybeLatin1 : Fld Z h0 ax "java/lang/AbstractStringBuilder" "maybeLatin1" "Z" (.int (0 : Int32))) (V1 : Arv Z h0 ba kb .byte (16 : Int32) (L1 cs) (.int (0 : Int32))) (E2 : Exa Z h0 r "java/lang/String") (F2_value : Fld Z h0 r "java/lang/String" "value" "[B" (.ref rb)) (F2_coder : Fld Z h0 r "java/lang/String" "coder" "B" (.int (0 : Int32))) (V2 : Arv Z h0 rb kr .byte (1 : Int32) (L1 ds) (.int (0 : Int32))) (o0 : n0 ≤ ax) (o1 : n0 ≤ ba) (nb : rb ≠ ba) (hz : Sz (1 : Int32) ds.length) (hp : Sz pn cs.length) (hle : cs.length ≤ 2) (hlc : ∀ c ∈ cs, Lc c) (hld : ∀ c ∈ ds, Lc c) :
    Pays l Z (⟨"java/lang/StringBuilder", "append", "(Ljava/lang/String;)Ljava/lang/StringBuilder;"⟩ : MethodName) jdk_67_method_7_code 2 (some (.object "java/lang/StringBuilder")) ws ({ frames := 4, cells := 0, slots := 0, locals := 61 } : Room) #[(.ref ax), (.ref r)] h0 (fun v h L => ∃ b k, v = some (.ref ax) ∧ Fr n0 L ∧ Keep h0 h [ax, ba] ∧ n0 ≤ b ∧ Exa Z h ax "java/lang/StringBuilder" ∧ Fld Z h ax "java/lang/AbstractStringBuilder" "value" "[B" (.ref b) ∧ Fld Z h ax "java/lang/AbstractStringBuilder" "coder" "B" (.int (0 : Int32)) ∧ Fld Z h ax "java/lang/AbstractStringBuilder" "count" "I" (.int (pn + (1 : Int32))) ∧ Fld Z h ax "java/lang/AbstractStringBuilder" "maybeLatin1" "Z" (.int (0 : Int32)) ∧ Arv Z h b k .byte (16 : Int32) (L1 (cs ++ ds)) (.int (0 : Int32))) := by
  refine Pays.of (plainFor_of_name (by first | (simp [plainName, overriddenIn]; done) | decide +kernel)) ?_
  intro p e s m below meth c s₁ hx hby hml hown hnm hret hlk hZ e0 X0
  have N0 := Fr.nil n0
  have K0 : Keep h0 h0 [ax, ba] := Keep.refl _ _
  refine Goes.go (U' := (s₁.setTop (mkF m 0 #[sR_ ax, sR_ r] []))) (fun t kt => castTop (ef_rm_sap001 m ax r) kt) ?_
  refine Goes.go (U' := (s₁.setTop (mkF m 2 #[sR_ ax, sR_ r] [(.ref r), (.ref ax)]))) (fun t kt => ?_) ?_
  · skip
    refine XS.aloadN X0.here hx rfl (hb hby d_rm_sap001_0) rfl rfl ?_
    refine XS.aloadN X0.here hx rfl (hb hby d_rm_sap001_1) rfl rfl ?_
    exact kt
  obtain ⟨v_1, T_1, L_1, X_1, q_1, st_1⟩ := callSuper X0 hx hZ (y := (⟨"java/lang/AbstractStringBuilder", "append", "(Ljava/lang/String;)Ljava/lang/AbstractStringBuilder;"⟩ : MethodName)) (W := 0) (by decide) hown (wdOf hw 63 rfl) (sameOf (wdOf hw 83 rfl) rfl (wdOf hw 64 rfl) (by decide)) (wdOf hw 64 rfl) (wdOf hw 65 rfl) (wdOf hw 19 rfl) (wdOf hw 67 rfl) (rm_ap001 l Z a0 hw [] kc sx ax ba r rb kb kr pn cs ds h0 n0 Z0 G O E1 F1_value F1_coder F1_count F1_maybeLatin1 V1 E2 F2_value F2_coder V2 o0 o1 nb hz hp hle hlc hld) (by decide) (by decide) (by decide) (by decide) e0 (Ins.self E1) (g := (mkF m 2 #[sR_ ax, sR_ r] [(.ref r), (.ref ax)])) rfl (by rw [hml]; rfl) (argsL := [(.ref r)]) (rest := []) (lenOf pd_27 rfl) rfl rfl (Nat.le_refl _) (hb hby d_rm_sap001_2)
  obtain ⟨b_1, k_1, rfl, n_1, K_1, o_1, EQ_1, FQ_1_value, FQ_1_coder, FQ_1_count, FQ_1_maybeLatin1, VQ_1⟩ := q_1
  have N_1 := Fr.app N0 n_1
  have f_2 : Old Z n0 T_1.heap := O.keep K_1 (allS o0 (allS o1 all0))
  have K_3 : Keep h0 T_1.heap [ax, ba] := K0.trans K_1 (allS (P := fun x => x ∈ [ax, ba] ∨ h0.size ≤ x) (Or.inl (List.mem_of_getElem? (i := 0) rfl)) (allS (P := fun x => x ∈ [ax, ba] ∨ h0.size ≤ x) (Or.inl (List.mem_of_getElem? (i := 1) rfl)) all0))
  have y_3 : n0 ≤ T_1.heap.size := Nat.le_trans Z0 K_3.1
  refine Goes.go (U' := (T_1.setTop (mkF m 5 #[sR_ ax, sR_ r] [(.ref ax)]))) st_1 ?_
  refine Goes.go (U' := (T_1.setTop (mkF m 7 #[sR_ ax, sR_ r] [(.ref ax)]))) (fun t kt => ?_) ?_
  · skip
    refine XS.pop X_1.here hx rfl (hb hby d_rm_sap001_5) rfl rfl ?_
    refine XS.aloadN X_1.here hx rfl (hb hby d_rm_sap001_6) rfl rfl ?_
    exact kt
  refine Goes.retA X_1 hx hlk hret rfl rfl (hb hby d_rm_sap001_7) (by decide) (by decide) ?_
  try rw [(rfl : T_1.heap = T_1.heap)]
  exact ⟨_, _, rfl, N_1, K_3, o_1, EQ_1, FQ_1_value, FQ_1_coder, FQ_1_count, FQ_1_maybeLatin1, VQ_1⟩
theorem d_rm_ap011_0 : decode jdk_68_method_22_code 0 = .ok (.aload_n 1, 1) := by decide +kernel
theorem d_rm_ap011_1 : decode jdk_68_method_22_code 1 = .ok (.ifnonnull 8, 3) := by decide +kernel
theorem d_rm_ap011_9 : decode jdk_68_method_22_code 9 = .ok (.aload_n 1, 1) := by decide +kernel
theorem d_rm_ap011_10 : decode jdk_68_method_22_code 10 = .ok (.invokevirtual 32, 3) := by decide +kernel
theorem d_rm_ap011_13 : decode jdk_68_method_22_code 13 = .ok (.istore_n 2, 1) := by decide +kernel
theorem d_rm_ap011_14 : decode jdk_68_method_22_code 14 = .ok (.aload_n 0, 1) := by decide +kernel
theorem d_rm_ap011_15 : decode jdk_68_method_22_code 15 = .ok (.aload_n 0, 1) := by decide +kernel
theorem d_rm_ap011_16 : decode jdk_68_method_22_code 16 = .ok (.getfield 79, 3) := by decide +kernel
theorem d_rm_ap011_19 : decode jdk_68_method_22_code 19 = .ok (.iload_n 2, 1) := by decide +kernel
theorem d_rm_ap011_20 : decode jdk_68_method_22_code 20 = .ok (.iadd, 1) := by decide +kernel
theorem d_rm_ap011_21 : decode jdk_68_method_22_code 21 = .ok (.invokevirtual 100, 3) := by decide +kernel
theorem d_rm_ap011_24 : decode jdk_68_method_22_code 24 = .ok (.aload_n 0, 1) := by decide +kernel
theorem d_rm_ap011_25 : decode jdk_68_method_22_code 25 = .ok (.aload_n 0, 1) := by decide +kernel
theorem d_rm_ap011_26 : decode jdk_68_method_22_code 26 = .ok (.getfield 79, 3) := by decide +kernel
theorem d_rm_ap011_29 : decode jdk_68_method_22_code 29 = .ok (.aload_n 1, 1) := by decide +kernel
theorem d_rm_ap011_30 : decode jdk_68_method_22_code 30 = .ok (.invokevirtual 208, 3) := by decide +kernel
theorem d_rm_ap011_33 : decode jdk_68_method_22_code 33 = .ok (.aload_n 0, 1) := by decide +kernel
theorem d_rm_ap011_34 : decode jdk_68_method_22_code 34 = .ok (.dup, 1) := by decide +kernel
theorem d_rm_ap011_35 : decode jdk_68_method_22_code 35 = .ok (.getfield 79, 3) := by decide +kernel
theorem d_rm_ap011_38 : decode jdk_68_method_22_code 38 = .ok (.iload_n 2, 1) := by decide +kernel
theorem d_rm_ap011_39 : decode jdk_68_method_22_code 39 = .ok (.iadd, 1) := by decide +kernel
theorem d_rm_ap011_40 : decode jdk_68_method_22_code 40 = .ok (.putfield 79, 3) := by decide +kernel
theorem d_rm_ap011_43 : decode jdk_68_method_22_code 43 = .ok (.aload_n 0, 1) := by decide +kernel
theorem d_rm_ap011_44 : decode jdk_68_method_22_code 44 = .ok (.areturn, 1) := by decide +kernel
set_option maxHeartbeats 4000000 in
theorem ef_rm_ap011 (m : MethodId) (x0 : Addr) (x1 : Addr)  : entryFrame m #[(.ref x0), (.ref x1)] 3 = mkF m 0 #[.val (.ref x0), .val (.ref x1), .unset] [] := by first | (simp [entryFrame, mkF, argsToLocals, catR, catN, catI, catJ]; done) | rfl
set_option maxRecDepth 65536 in
set_option maxHeartbeats 40000000 in
theorem rm_ap011 (l : Launch) (Z : State) (a0 : Array Value) (hw : ∀ d ∈ tables_1, d.before a0 Z = true) (ws : List Jvm.Cond) (kc : Int32) (sx : Value) (ax ba r rb : Addr) (kb kr : ClassId) (pn : Int32) (cs ds : List Int32) (h0 : Heap) (n0 : Nat) (Z0 : n0 ≤ h0.size) (G : Stt Z kc sx) (O : Old Z n0 h0) (E1 : Exa Z h0 ax "java/lang/StringBuilder") (F1_value : Fld Z h0 ax "java/lang/AbstractStringBuilder" "value" "[B" (.ref ba)) (F1_coder : Fld Z h0 ax "java/lang/AbstractStringBuilder" "coder" "B" (.int (0 : Int32))) (F1_count : Fld Z h0 ax "java/lang/AbstractStringBuilder" "count" "I" (.int pn)) (F1_maybeLatin1 : Fld Z h0 ax "java/lang/AbstractStringBuilder" "maybeLatin1" "Z" (.int (0 : Int32))) (V1 : Arv Z h0 ba kb .byte (16 : Int32) (L1 cs) (.int (0 : Int32))) (E2 : Exa Z h0 r "java/lang/String") (F2_value : Fld Z h0 r "java/lang/String" "value" "[B" (.ref rb)) (F2_coder : Fld Z h0 r "java/lang/String" "coder" "B" (.int (1 : Int32))) (V2 : Arv Z h0 rb kr .byte ((1 : Int32) <<< ((1 : Int32) &&& 31)) (U2 ds) (.int (0 : Int32))) (o0 : n0 ≤ ax) (o1 : n0 ≤ ba) (nb : rb ≠ ba) (hz : Sz (1 : Int32) ds.length) (hp : Sz pn cs.length) (hle : cs.length ≤ 2) (hlc : ∀ c ∈ cs, Lc c) (hld : ∀ c ∈ ds, Ch c) :
    Pays l Z (⟨"java/lang/AbstractStringBuilder", "append", "(Ljava/lang/String;)Ljava/lang/AbstractStringBuilder;"⟩ : MethodName) jdk_68_method_22_code 3 (some (.object "java/lang/AbstractStringBuilder")) ws ({ frames := 8, cells := 1, slots := 32, locals := 116 } : Room) #[(.ref ax), (.ref r)] h0 (fun v h L => ∃ b k, v = some (.ref ax) ∧ Fr n0 L ∧ Keep h0 h [ax, ba] ∧ n0 ≤ b ∧ Exa Z h ax "java/lang/StringBuilder" ∧ Fld Z h ax "java/lang/AbstractStringBuilder" "value" "[B" (.ref b) ∧ Fld Z h ax "java/lang/AbstractStringBuilder" "coder" "B" (.int (1 : Int32)) ∧ Fld Z h ax "java/lang/AbstractStringBuilder" "count" "I" (.int (pn + (1 : Int32))) ∧ Fld Z h ax "java/lang/AbstractStringBuilder" "maybeLatin1" "Z" (.int (0 : Int32)) ∧ Arv Z h b k .byte (32 : Int32) (U2 (cs ++ ds)) (.int (0 : Int32))) := by
  refine Pays.of (plainFor_of_name (by first | (simp [plainName, overriddenIn]; done) | decide +kernel)) ?_
  intro p e s m below meth c s₁ hx hby hml hown hnm hret hlk hZ e0 X0
  have N0 := Fr.nil n0
  have K0 : Keep h0 h0 [ax, ba] := Keep.refl _ _
  refine Goes.go (U' := (s₁.setTop (mkF m 0 #[sR_ ax, sR_ r, sU_] []))) (fun t kt => castTop (ef_rm_ap011 m ax r) kt) ?_
  have hp4 := hp.four (Nat.le_trans hle (by decide))
  have hd1 : ds.length = 1 := by have := hz.nat; rw [← this]; rfl
  refine Goes.go (U' := (s₁.setTop (mkF m 10 #[sR_ ax, sR_ r, sU_] [(.ref r)]))) (fun t kt => ?_) ?_
  · skip
    refine XS.aloadN X0.here hx rfl (hb hby d_rm_ap011_0) rfl rfl ?_
    refine XS.ifnonnullYes X0.here hx rfl (pc0 := 1) (pc' := 9) rfl (hb hby d_rm_ap011_1) rfl (by decide) (by decide) ?_
    refine XS.aloadN X0.here hx rfl (hb hby d_rm_ap011_9) rfl rfl ?_
    exact kt
  obtain ⟨v_1, T_1, L_1, X_1, q_1, st_1⟩ := callVirtual X0 hx hZ (y := (⟨"java/lang/String", "length", "()I"⟩ : MethodName)) (z := (⟨"java/lang/String", "length", "()I"⟩ : MethodName)) (W := 0) hown (wdOf hw 68 rfl) (wdOf hw 69 rfl) (notFace_of_selects (args := #[]) (mvT hZ (wdOf hw 71 rfl))) (wdOf hw 71 rfl) (wdOf hw 70 rfl) (wdOf hw 23 rfl) (wdOf hw 72 rfl) (by decide) (rm_ln l Z a0 hw [] kc sx r rb (1 : Int32) ds h0 n0 Z0 G O ⟨hz, Or.inr ⟨⟨_, E2, F2_value, F2_coder, V2⟩, hld⟩⟩) (by decide) (by decide) (by decide) (by decide) e0 E2 (g := (mkF m 10 #[sR_ ax, sR_ r, sU_] [(.ref r)])) rfl (by rw [hml]; rfl) (argsL := []) (rest := []) (lenOf pd_24 rfl) rfl rfl (Nat.le_refl _) (hb hby d_rm_ap011_10)
  obtain ⟨rfl, n_1, K_1⟩ := q_1
  have N_1 := Fr.app N0 n_1
  refine Goes.go (U' := (T_1.setTop (mkF m 13 #[sR_ ax, sR_ r, sU_] [(.int (1 : Int32))]))) st_1 ?_
  refine Goes.go (U' := (T_1.setTop (mkF m 16 #[sR_ ax, sR_ r, sI_ (1 : Int32)] [(.ref ax), (.ref ax)]))) (fun t kt => ?_) ?_
  · skip
    refine XS.istoreN X_1.here hx rfl (hb hby d_rm_ap011_13) rfl (l' := #[sR_ ax, sR_ r, sI_ (1 : Int32)]) rfl ?_
    refine XS.aloadN X_1.here hx rfl (hb hby d_rm_ap011_14) rfl rfl ?_
    refine XS.aloadN X_1.here hx rfl (hb hby d_rm_ap011_15) rfl rfl ?_
    exact kt
  obtain ⟨T_2, X_2, e_2, st_2⟩ := getF X_1 hx hZ hown (host := "") (Or.inl (wdOf hw 78 rfl)) Via.refl K_1 F1_count (g := (mkF m 16 #[sR_ ax, sR_ r, sI_ (1 : Int32)] [(.ref ax), (.ref ax)])) rfl rfl (hb hby d_rm_ap011_16)
  refine Goes.go (U' := (T_2.setTop (mkF m 19 #[sR_ ax, sR_ r, sI_ (1 : Int32)] [(.int pn), (.ref ax)]))) st_2 ?_
  refine Goes.go (U' := (T_2.setTop (mkF m 21 #[sR_ ax, sR_ r, sI_ (1 : Int32)] [(.int (pn + (1 : Int32))), (.ref ax)]))) (fun t kt => ?_) ?_
  · skip
    refine XS.iloadN X_2.here hx rfl (hb hby d_rm_ap011_19) rfl ?_
    refine XS.iadd X_2.here hx rfl (hb hby d_rm_ap011_20) rfl ?_
    exact kt
  obtain ⟨v_3, T_3, L_3, X_3, q_3, st_3⟩ := callPrivSel X_2 hx hZ (y := (⟨"java/lang/AbstractStringBuilder", "ensureCapacityInternal", "(I)V"⟩ : MethodName)) (W := 0) hown (wdOf hw 80 rfl) (wdOf hw 81 rfl) (wdOf hw 82 rfl) (wdOf hw 83 rfl) (wdOf hw 19 rfl) (wdOf hw 84 rfl) (by decide) (rm_ec00 l Z a0 hw [] kc sx ax ba kb (pn + (1 : Int32)) (L1 cs) h0 n0 Z0 G O F1_value F1_coder V1 (by rcases hp4 with rfl | rfl | rfl | rfl <;> decide)) (by decide) (by decide) (by decide) (by decide) e_2 E1 (g := (mkF m 21 #[sR_ ax, sR_ r, sI_ (1 : Int32)] [(.int (pn + (1 : Int32))), (.ref ax)])) rfl (by rw [hml]; rfl) (argsL := [(.int (pn + (1 : Int32)))]) (rest := []) (lenOf pd_25 rfl) rfl rfl (Nat.le_refl _) (hb hby d_rm_ap011_21)
  obtain ⟨rfl, n_3, K_3⟩ := q_3
  have N_3 := Fr.app N_1 n_3
  refine Goes.go (U' := (T_3.setTop (mkF m 24 #[sR_ ax, sR_ r, sI_ (1 : Int32)] []))) st_3 ?_
  refine Goes.go (U' := (T_3.setTop (mkF m 26 #[sR_ ax, sR_ r, sI_ (1 : Int32)] [(.ref ax), (.ref ax)]))) (fun t kt => ?_) ?_
  · skip
    refine XS.aloadN X_3.here hx rfl (hb hby d_rm_ap011_24) rfl rfl ?_
    refine XS.aloadN X_3.here hx rfl (hb hby d_rm_ap011_25) rfl rfl ?_
    exact kt
  obtain ⟨T_4, X_4, e_4, st_4⟩ := getF X_3 hx hZ hown (host := "") (Or.inl (wdOf hw 78 rfl)) Via.refl K_3 F1_count (g := (mkF m 26 #[sR_ ax, sR_ r, sI_ (1 : Int32)] [(.ref ax), (.ref ax)])) rfl rfl (hb hby d_rm_ap011_26)
  refine Goes.go (U' := (T_4.setTop (mkF m 29 #[sR_ ax, sR_ r, sI_ (1 : Int32)] [(.int pn), (.ref ax)]))) st_4 ?_
  refine Goes.go (U' := (T_4.setTop (mkF m 30 #[sR_ ax, sR_ r, sI_ (1 : Int32)] [(.ref r), (.int pn), (.ref ax)]))) (fun t kt => ?_) ?_
  · skip
    refine XS.aloadN X_4.here hx rfl (hb hby d_rm_ap011_29) rfl rfl ?_
    exact kt
  obtain ⟨v_5, T_5, L_5, X_5, q_5, st_5⟩ := callPrivSel X_4 hx hZ (y := (⟨"java/lang/AbstractStringBuilder", "putStringAt", "(ILjava/lang/String;)V"⟩ : MethodName)) (W := 0) hown (wdOf hw 85 rfl) (wdOf hw 86 rfl) (wdOf hw 87 rfl) (wdOf hw 88 rfl) (wdOf hw 19 rfl) (wdOf hw 89 rfl) (by decide) (rm_ps01 l Z a0 hw [] kc sx ax ba r rb kb kr pn (1 : Int32) cs ds h0 n0 Z0 G O E1 F1_value F1_coder F1_count F1_maybeLatin1 V1 E2 F2_value F2_coder V2 o0 (Ne.symm (E1.neArv V2 (wdOf hw 10 rfl))) hz hp (by rw [hd1]; have : (32 : Int32).toNatClampNeg = 32 := rfl; omega) (Nat.le_trans hle (by decide)) hlc) (by decide) (by decide) (by decide) (by decide) e_4 E1 (g := (mkF m 30 #[sR_ ax, sR_ r, sI_ (1 : Int32)] [(.ref r), (.int pn), (.ref ax)])) rfl (by rw [hml]; rfl) (argsL := [(.int pn), (.ref r)]) (rest := []) (lenOf pd_26 rfl) rfl rfl (Nat.le_refl _) (hb hby d_rm_ap011_30)
  obtain ⟨b_5, k_5, rfl, n_5, K_5, z_5, EQ_5, FQ_5_value, FQ_5_coder, FQ_5_count, FQ_5_maybeLatin1, VQ_5⟩ := q_5
  have ne_6 : ax ≠ b_5 := Nat.ne_of_lt (Nat.lt_of_lt_of_le E1.lt z_5)
  have ne_7 : ba ≠ b_5 := Nat.ne_of_lt (Nat.lt_of_lt_of_le V1.lt z_5)
  have ne_8 : r ≠ b_5 := Nat.ne_of_lt (Nat.lt_of_lt_of_le E2.lt z_5)
  have ne_9 : rb ≠ b_5 := Nat.ne_of_lt (Nat.lt_of_lt_of_le V2.lt z_5)
  have o_10 : n0 ≤ b_5 := Nat.le_trans Z0 z_5
  have z_11 : h0.size ≤ b_5 := Nat.le_trans K0.1 z_5
  have N_5 := Fr.app N_3 n_5
  have f_12 : Old Z n0 T_5.heap := O.keep K_5 (allS o0 all0)
  have f_13 : Exa Z T_5.heap ax "java/lang/StringBuilder" := E1.keep K_5
  have f_14 : Arv Z T_5.heap ba kb .byte (16 : Int32) (L1 cs) (.int (0 : Int32)) := V1.keep K_5 (ninS (Ne.symm (E1.neArv V1 (wdOf hw 10 rfl))) nin0)
  have f_15 : Exa Z T_5.heap r "java/lang/String" := E2.keep K_5
  have f_16 : Fld Z T_5.heap r "java/lang/String" "value" "[B" (.ref rb) := F2_value.keep K_5 (ninS (ne_exa E2 E1 (by decide)) nin0)
  have f_17 : Fld Z T_5.heap r "java/lang/String" "coder" "B" (.int (1 : Int32)) := F2_coder.keep K_5 (ninS (ne_exa E2 E1 (by decide)) nin0)
  have f_18 : Arv Z T_5.heap rb kr .byte ((1 : Int32) <<< ((1 : Int32) &&& 31)) (U2 ds) (.int (0 : Int32)) := V2.keep K_5 (ninS (Ne.symm (E1.neArv V2 (wdOf hw 10 rfl))) nin0)
  have K_19 : Keep h0 T_5.heap [ax, ba] := K0.trans K_5 (allS (P := fun x => x ∈ [ax, ba] ∨ h0.size ≤ x) (Or.inl (List.mem_of_getElem? (i := 0) rfl)) all0)
  have y_19 : n0 ≤ T_5.heap.size := Nat.le_trans Z0 K_19.1
  refine Goes.go (U' := (T_5.setTop (mkF m 33 #[sR_ ax, sR_ r, sI_ (1 : Int32)] []))) st_5 ?_
  refine Goes.go (U' := (T_5.setTop (mkF m 35 #[sR_ ax, sR_ r, sI_ (1 : Int32)] [(.ref ax), (.ref ax)]))) (fun t kt => ?_) ?_
  · skip
    refine XS.aloadN X_5.here hx rfl (hb hby d_rm_ap011_33) rfl rfl ?_
    refine XS.dup X_5.here hx rfl (hb hby d_rm_ap011_34) rfl rfl ?_
    exact kt
  obtain ⟨T_20, X_20, e_20, st_20⟩ := getF X_5 hx hZ hown (host := "") (Or.inl (wdOf hw 78 rfl)) Via.refl (rfl : T_5.heap = T_5.heap) FQ_5_count (g := (mkF m 35 #[sR_ ax, sR_ r, sI_ (1 : Int32)] [(.ref ax), (.ref ax)])) rfl rfl (hb hby d_rm_ap011_35)
  refine Goes.go (U' := (T_20.setTop (mkF m 38 #[sR_ ax, sR_ r, sI_ (1 : Int32)] [(.int pn), (.ref ax)]))) st_20 ?_
  refine Goes.go (U' := (T_20.setTop (mkF m 40 #[sR_ ax, sR_ r, sI_ (1 : Int32)] [(.int (pn + (1 : Int32))), (.ref ax)]))) (fun t kt => ?_) ?_
  · skip
    refine XS.iloadN X_20.here hx rfl (hb hby d_rm_ap011_38) rfl ?_
    refine XS.iadd X_20.here hx rfl (hb hby d_rm_ap011_39) rfl ?_
    exact kt
  obtain ⟨T_21, h_21, X_21, e_21, W_21, st_21⟩ := putF X_20 hx hZ hown (host := "") (Or.inl (wdOf hw 78 rfl)) Via.refl e_20 FQ_5_count f_13 (Or.inl (wdOf hw 79 rfl)) (wdOf hw 10 rfl) (ty := .int) (by decide) rfl rfl (g := (mkF m 40 #[sR_ ax, sR_ r, sI_ (1 : Int32)] [(.int (pn + (1 : Int32))), (.ref ax)])) rfl rfl (hb hby d_rm_ap011_40)
  have N_21 := Fr.snoc X_21 N_5 o0
  have f_22 : Old Z n0 h_21 := f_12.wr W_21 o0
  have f_23 : Exa Z h_21 ax "java/lang/StringBuilder" := f_13.wr W_21
  have f_24 : Arv Z h_21 ba kb .byte (16 : Int32) (L1 cs) (.int (0 : Int32)) := f_14.other W_21 (Ne.symm (f_13.neArv f_14 (wdOf hw 10 rfl)))
  have f_25 : Exa Z h_21 r "java/lang/String" := f_15.wr W_21
  have f_26 : Fld Z h_21 r "java/lang/String" "value" "[B" (.ref rb) := f_16.other W_21 (Or.inl (ne_exa f_15 f_13 (by decide)))
  have f_27 : Fld Z h_21 r "java/lang/String" "coder" "B" (.int (1 : Int32)) := f_17.other W_21 (Or.inl (ne_exa f_15 f_13 (by decide)))
  have f_28 : Arv Z h_21 rb kr .byte ((1 : Int32) <<< ((1 : Int32) &&& 31)) (U2 ds) (.int (0 : Int32)) := f_18.other W_21 (Ne.symm (f_13.neArv f_18 (wdOf hw 10 rfl)))
  have f_29 : Fld Z h_21 ax "java/lang/AbstractStringBuilder" "value" "[B" (.ref b_5) := FQ_5_value.other W_21 (Or.inr (slot_ne (Or.inl (wdOf hw 26 rfl)) (Or.inl (wdOf hw 79 rfl)) (by decide) (t := (.array .byte)) (t' := .int) (by decide) (by decide)))
  have f_30 : Fld Z h_21 ax "java/lang/AbstractStringBuilder" "coder" "B" (.int (1 : Int32)) := FQ_5_coder.other W_21 (Or.inr (slot_ne (Or.inl (wdOf hw 28 rfl)) (Or.inl (wdOf hw 79 rfl)) (by decide) (t := .byte) (t' := .int) (by decide) (by decide)))
  have f_31 : Fld Z h_21 ax "java/lang/AbstractStringBuilder" "count" "I" (.int (pn + (1 : Int32))) := FQ_5_count.same W_21
  have f_32 : Fld Z h_21 ax "java/lang/AbstractStringBuilder" "maybeLatin1" "Z" (.int (0 : Int32)) := FQ_5_maybeLatin1.other W_21 (Or.inr (slot_ne (Or.inl (wdOf hw 245 rfl)) (Or.inl (wdOf hw 79 rfl)) (by decide) (t := .boolean) (t' := .int) (by decide) (by decide)))
  have f_33 : Arv Z h_21 b_5 k_5 .byte (32 : Int32) (U2 (cs ++ ds)) (.int (0 : Int32)) := VQ_5.other W_21 (Ne.symm ne_6)
  have K_34 : Keep h0 h_21 [ax, ba] := K_19.wr W_21 (Or.inl (List.mem_of_getElem? (i := 0) rfl))
  have y_34 : n0 ≤ h_21.size := Nat.le_trans Z0 K_34.1
  refine Goes.go (U' := (T_21.setTop (mkF m 43 #[sR_ ax, sR_ r, sI_ (1 : Int32)] []))) st_21 ?_
  refine Goes.go (U' := (T_21.setTop (mkF m 44 #[sR_ ax, sR_ r, sI_ (1 : Int32)] [(.ref ax)]))) (fun t kt => ?_) ?_
  · skip
    refine XS.aloadN X_21.here hx rfl (hb hby d_rm_ap011_43) rfl rfl ?_
    exact kt
  refine Goes.retA X_21 hx hlk hret rfl rfl (hb hby d_rm_ap011_44) (by decide) (by decide) ?_
  try rw [e_21]
  exact ⟨_, _, rfl, N_21, K_34, o_10, f_23, f_29, f_30, f_31, f_32, f_33⟩
theorem d_rm_sap011_0 : decode jdk_67_method_7_code 0 = .ok (.aload_n 0, 1) := by decide +kernel
theorem d_rm_sap011_1 : decode jdk_67_method_7_code 1 = .ok (.aload_n 1, 1) := by decide +kernel
theorem d_rm_sap011_2 : decode jdk_67_method_7_code 2 = .ok (.invokespecial 29, 3) := by decide +kernel
theorem d_rm_sap011_5 : decode jdk_67_method_7_code 5 = .ok (.pop, 1) := by decide +kernel
theorem d_rm_sap011_6 : decode jdk_67_method_7_code 6 = .ok (.aload_n 0, 1) := by decide +kernel
theorem d_rm_sap011_7 : decode jdk_67_method_7_code 7 = .ok (.areturn, 1) := by decide +kernel
set_option maxHeartbeats 4000000 in
theorem ef_rm_sap011 (m : MethodId) (x0 : Addr) (x1 : Addr)  : entryFrame m #[(.ref x0), (.ref x1)] 2 = mkF m 0 #[.val (.ref x0), .val (.ref x1)] [] := by first | (simp [entryFrame, mkF, argsToLocals, catR, catN, catI, catJ]; done) | rfl
set_option maxRecDepth 65536 in
set_option maxHeartbeats 40000000 in
theorem rm_sap011 (l : Launch) (Z : State) (a0 : Array Value) (hw : ∀ d ∈ tables_1, d.before a0 Z = true) (ws : List Jvm.Cond) (kc : Int32) (sx : Value) (ax ba r rb : Addr) (kb kr : ClassId) (pn : Int32) (cs ds : List Int32) (h0 : Heap) (n0 : Nat) (Z0 : n0 ≤ h0.size) (G : Stt Z kc sx) (O : Old Z n0 h0) (E1 : Exa Z h0 ax "java/lang/StringBuilder") (F1_value : Fld Z h0 ax "java/lang/AbstractStringBuilder" "value" "[B" (.ref ba)) (F1_coder : Fld Z h0 ax "java/lang/AbstractStringBuilder" "coder" "B" (.int (0 : Int32))) (F1_count : Fld Z h0 ax "java/lang/AbstractStringBuilder" "count" "I" (.int pn)) (F1_maybeLatin1 : Fld Z h0 ax "java/lang/AbstractStringBuilder" "maybeLatin1" "Z" (.int (0 : Int32))) (V1 : Arv Z h0 ba kb .byte (16 : Int32) (L1 cs) (.int (0 : Int32))) (E2 : Exa Z h0 r "java/lang/String") (F2_value : Fld Z h0 r "java/lang/String" "value" "[B" (.ref rb)) (F2_coder : Fld Z h0 r "java/lang/String" "coder" "B" (.int (1 : Int32))) (V2 : Arv Z h0 rb kr .byte ((1 : Int32) <<< ((1 : Int32) &&& 31)) (U2 ds) (.int (0 : Int32))) (o0 : n0 ≤ ax) (o1 : n0 ≤ ba) (nb : rb ≠ ba) (hz : Sz (1 : Int32) ds.length) (hp : Sz pn cs.length) (hle : cs.length ≤ 2) (hlc : ∀ c ∈ cs, Lc c) (hld : ∀ c ∈ ds, Ch c) :
    Pays l Z (⟨"java/lang/StringBuilder", "append", "(Ljava/lang/String;)Ljava/lang/StringBuilder;"⟩ : MethodName) jdk_67_method_7_code 2 (some (.object "java/lang/StringBuilder")) ws ({ frames := 9, cells := 1, slots := 32, locals := 130 } : Room) #[(.ref ax), (.ref r)] h0 (fun v h L => ∃ b k, v = some (.ref ax) ∧ Fr n0 L ∧ Keep h0 h [ax, ba] ∧ n0 ≤ b ∧ Exa Z h ax "java/lang/StringBuilder" ∧ Fld Z h ax "java/lang/AbstractStringBuilder" "value" "[B" (.ref b) ∧ Fld Z h ax "java/lang/AbstractStringBuilder" "coder" "B" (.int (1 : Int32)) ∧ Fld Z h ax "java/lang/AbstractStringBuilder" "count" "I" (.int (pn + (1 : Int32))) ∧ Fld Z h ax "java/lang/AbstractStringBuilder" "maybeLatin1" "Z" (.int (0 : Int32)) ∧ Arv Z h b k .byte (32 : Int32) (U2 (cs ++ ds)) (.int (0 : Int32))) := by
  refine Pays.of (plainFor_of_name (by first | (simp [plainName, overriddenIn]; done) | decide +kernel)) ?_
  intro p e s m below meth c s₁ hx hby hml hown hnm hret hlk hZ e0 X0
  have N0 := Fr.nil n0
  have K0 : Keep h0 h0 [ax, ba] := Keep.refl _ _
  refine Goes.go (U' := (s₁.setTop (mkF m 0 #[sR_ ax, sR_ r] []))) (fun t kt => castTop (ef_rm_sap011 m ax r) kt) ?_
  refine Goes.go (U' := (s₁.setTop (mkF m 2 #[sR_ ax, sR_ r] [(.ref r), (.ref ax)]))) (fun t kt => ?_) ?_
  · skip
    refine XS.aloadN X0.here hx rfl (hb hby d_rm_sap011_0) rfl rfl ?_
    refine XS.aloadN X0.here hx rfl (hb hby d_rm_sap011_1) rfl rfl ?_
    exact kt
  obtain ⟨v_1, T_1, L_1, X_1, q_1, st_1⟩ := callSuper X0 hx hZ (y := (⟨"java/lang/AbstractStringBuilder", "append", "(Ljava/lang/String;)Ljava/lang/AbstractStringBuilder;"⟩ : MethodName)) (W := 0) (by decide) hown (wdOf hw 63 rfl) (sameOf (wdOf hw 83 rfl) rfl (wdOf hw 64 rfl) (by decide)) (wdOf hw 64 rfl) (wdOf hw 65 rfl) (wdOf hw 19 rfl) (wdOf hw 67 rfl) (rm_ap011 l Z a0 hw [] kc sx ax ba r rb kb kr pn cs ds h0 n0 Z0 G O E1 F1_value F1_coder F1_count F1_maybeLatin1 V1 E2 F2_value F2_coder V2 o0 o1 nb hz hp hle hlc hld) (by decide) (by decide) (by decide) (by decide) e0 (Ins.self E1) (g := (mkF m 2 #[sR_ ax, sR_ r] [(.ref r), (.ref ax)])) rfl (by rw [hml]; rfl) (argsL := [(.ref r)]) (rest := []) (lenOf pd_27 rfl) rfl rfl (Nat.le_refl _) (hb hby d_rm_sap011_2)
  obtain ⟨b_1, k_1, rfl, n_1, K_1, o_1, EQ_1, FQ_1_value, FQ_1_coder, FQ_1_count, FQ_1_maybeLatin1, VQ_1⟩ := q_1
  have N_1 := Fr.app N0 n_1
  have f_2 : Old Z n0 T_1.heap := O.keep K_1 (allS o0 (allS o1 all0))
  have K_3 : Keep h0 T_1.heap [ax, ba] := K0.trans K_1 (allS (P := fun x => x ∈ [ax, ba] ∨ h0.size ≤ x) (Or.inl (List.mem_of_getElem? (i := 0) rfl)) (allS (P := fun x => x ∈ [ax, ba] ∨ h0.size ≤ x) (Or.inl (List.mem_of_getElem? (i := 1) rfl)) all0))
  have y_3 : n0 ≤ T_1.heap.size := Nat.le_trans Z0 K_3.1
  refine Goes.go (U' := (T_1.setTop (mkF m 5 #[sR_ ax, sR_ r] [(.ref ax)]))) st_1 ?_
  refine Goes.go (U' := (T_1.setTop (mkF m 7 #[sR_ ax, sR_ r] [(.ref ax)]))) (fun t kt => ?_) ?_
  · skip
    refine XS.pop X_1.here hx rfl (hb hby d_rm_sap011_5) rfl rfl ?_
    refine XS.aloadN X_1.here hx rfl (hb hby d_rm_sap011_6) rfl rfl ?_
    exact kt
  refine Goes.retA X_1 hx hlk hret rfl rfl (hb hby d_rm_sap011_7) (by decide) (by decide) ?_
  try rw [(rfl : T_1.heap = T_1.heap)]
  exact ⟨_, _, rfl, N_1, K_3, o_1, EQ_1, FQ_1_value, FQ_1_coder, FQ_1_count, FQ_1_maybeLatin1, VQ_1⟩
theorem d_rm_ap101_0 : decode jdk_68_method_22_code 0 = .ok (.aload_n 1, 1) := by decide +kernel
theorem d_rm_ap101_1 : decode jdk_68_method_22_code 1 = .ok (.ifnonnull 8, 3) := by decide +kernel
theorem d_rm_ap101_9 : decode jdk_68_method_22_code 9 = .ok (.aload_n 1, 1) := by decide +kernel
theorem d_rm_ap101_10 : decode jdk_68_method_22_code 10 = .ok (.invokevirtual 32, 3) := by decide +kernel
theorem d_rm_ap101_13 : decode jdk_68_method_22_code 13 = .ok (.istore_n 2, 1) := by decide +kernel
theorem d_rm_ap101_14 : decode jdk_68_method_22_code 14 = .ok (.aload_n 0, 1) := by decide +kernel
theorem d_rm_ap101_15 : decode jdk_68_method_22_code 15 = .ok (.aload_n 0, 1) := by decide +kernel
theorem d_rm_ap101_16 : decode jdk_68_method_22_code 16 = .ok (.getfield 79, 3) := by decide +kernel
theorem d_rm_ap101_19 : decode jdk_68_method_22_code 19 = .ok (.iload_n 2, 1) := by decide +kernel
theorem d_rm_ap101_20 : decode jdk_68_method_22_code 20 = .ok (.iadd, 1) := by decide +kernel
theorem d_rm_ap101_21 : decode jdk_68_method_22_code 21 = .ok (.invokevirtual 100, 3) := by decide +kernel
theorem d_rm_ap101_24 : decode jdk_68_method_22_code 24 = .ok (.aload_n 0, 1) := by decide +kernel
theorem d_rm_ap101_25 : decode jdk_68_method_22_code 25 = .ok (.aload_n 0, 1) := by decide +kernel
theorem d_rm_ap101_26 : decode jdk_68_method_22_code 26 = .ok (.getfield 79, 3) := by decide +kernel
theorem d_rm_ap101_29 : decode jdk_68_method_22_code 29 = .ok (.aload_n 1, 1) := by decide +kernel
theorem d_rm_ap101_30 : decode jdk_68_method_22_code 30 = .ok (.invokevirtual 208, 3) := by decide +kernel
theorem d_rm_ap101_33 : decode jdk_68_method_22_code 33 = .ok (.aload_n 0, 1) := by decide +kernel
theorem d_rm_ap101_34 : decode jdk_68_method_22_code 34 = .ok (.dup, 1) := by decide +kernel
theorem d_rm_ap101_35 : decode jdk_68_method_22_code 35 = .ok (.getfield 79, 3) := by decide +kernel
theorem d_rm_ap101_38 : decode jdk_68_method_22_code 38 = .ok (.iload_n 2, 1) := by decide +kernel
theorem d_rm_ap101_39 : decode jdk_68_method_22_code 39 = .ok (.iadd, 1) := by decide +kernel
theorem d_rm_ap101_40 : decode jdk_68_method_22_code 40 = .ok (.putfield 79, 3) := by decide +kernel
theorem d_rm_ap101_43 : decode jdk_68_method_22_code 43 = .ok (.aload_n 0, 1) := by decide +kernel
theorem d_rm_ap101_44 : decode jdk_68_method_22_code 44 = .ok (.areturn, 1) := by decide +kernel
set_option maxHeartbeats 4000000 in
theorem ef_rm_ap101 (m : MethodId) (x0 : Addr) (x1 : Addr)  : entryFrame m #[(.ref x0), (.ref x1)] 3 = mkF m 0 #[.val (.ref x0), .val (.ref x1), .unset] [] := by first | (simp [entryFrame, mkF, argsToLocals, catR, catN, catI, catJ]; done) | rfl
set_option maxRecDepth 65536 in
set_option maxHeartbeats 40000000 in
theorem rm_ap101 (l : Launch) (Z : State) (a0 : Array Value) (hw : ∀ d ∈ tables_1, d.before a0 Z = true) (ws : List Jvm.Cond) (kc : Int32) (sx : Value) (ax ba r rb : Addr) (kb kr : ClassId) (pn : Int32) (cs ds : List Int32) (h0 : Heap) (n0 : Nat) (Z0 : n0 ≤ h0.size) (G : Stt Z kc sx) (O : Old Z n0 h0) (E1 : Exa Z h0 ax "java/lang/StringBuilder") (F1_value : Fld Z h0 ax "java/lang/AbstractStringBuilder" "value" "[B" (.ref ba)) (F1_coder : Fld Z h0 ax "java/lang/AbstractStringBuilder" "coder" "B" (.int (1 : Int32))) (F1_count : Fld Z h0 ax "java/lang/AbstractStringBuilder" "count" "I" (.int pn)) (F1_maybeLatin1 : Fld Z h0 ax "java/lang/AbstractStringBuilder" "maybeLatin1" "Z" (.int (0 : Int32))) (V1 : Arv Z h0 ba kb .byte (32 : Int32) (U2 cs) (.int (0 : Int32))) (E2 : Exa Z h0 r "java/lang/String") (F2_value : Fld Z h0 r "java/lang/String" "value" "[B" (.ref rb)) (F2_coder : Fld Z h0 r "java/lang/String" "coder" "B" (.int (0 : Int32))) (V2 : Arv Z h0 rb kr .byte (1 : Int32) (L1 ds) (.int (0 : Int32))) (o0 : n0 ≤ ax) (o1 : n0 ≤ ba) (nb : rb ≠ ba) (hz : Sz (1 : Int32) ds.length) (hp : Sz pn cs.length) (hle : cs.length ≤ 2) (hlc : ∀ c ∈ cs, Ch c) (hld : ∀ c ∈ ds, Lc c) :
    Pays l Z (⟨"java/lang/AbstractStringBuilder", "append", "(Ljava/lang/String;)Ljava/lang/AbstractStringBuilder;"⟩ : MethodName) jdk_68_method_22_code 3 (some (.object "java/lang/AbstractStringBuilder")) ws ({ frames := 7, cells := 0, slots := 0, locals := 105 } : Room) #[(.ref ax), (.ref r)] h0 (fun v h L => ∃ b k, v = some (.ref ax) ∧ Fr n0 L ∧ Keep h0 h [ax, ba] ∧ n0 ≤ b ∧ Exa Z h ax "java/lang/StringBuilder" ∧ Fld Z h ax "java/lang/AbstractStringBuilder" "value" "[B" (.ref b) ∧ Fld Z h ax "java/lang/AbstractStringBuilder" "coder" "B" (.int (1 : Int32)) ∧ Fld Z h ax "java/lang/AbstractStringBuilder" "count" "I" (.int (pn + (1 : Int32))) ∧ Fld Z h ax "java/lang/AbstractStringBuilder" "maybeLatin1" "Z" (.int (0 : Int32)) ∧ Arv Z h b k .byte (32 : Int32) (U2 (cs ++ ds)) (.int (0 : Int32))) := by
  refine Pays.of (plainFor_of_name (by first | (simp [plainName, overriddenIn]; done) | decide +kernel)) ?_
  intro p e s m below meth c s₁ hx hby hml hown hnm hret hlk hZ e0 X0
  have N0 := Fr.nil n0
  have K0 : Keep h0 h0 [ax, ba] := Keep.refl _ _
  refine Goes.go (U' := (s₁.setTop (mkF m 0 #[sR_ ax, sR_ r, sU_] []))) (fun t kt => castTop (ef_rm_ap101 m ax r) kt) ?_
  have hp4 := hp.four (Nat.le_trans hle (by decide))
  have hd1 : ds.length = 1 := by have := hz.nat; rw [← this]; rfl
  refine Goes.go (U' := (s₁.setTop (mkF m 10 #[sR_ ax, sR_ r, sU_] [(.ref r)]))) (fun t kt => ?_) ?_
  · skip
    refine XS.aloadN X0.here hx rfl (hb hby d_rm_ap101_0) rfl rfl ?_
    refine XS.ifnonnullYes X0.here hx rfl (pc0 := 1) (pc' := 9) rfl (hb hby d_rm_ap101_1) rfl (by decide) (by decide) ?_
    refine XS.aloadN X0.here hx rfl (hb hby d_rm_ap101_9) rfl rfl ?_
    exact kt
  obtain ⟨v_1, T_1, L_1, X_1, q_1, st_1⟩ := callVirtual X0 hx hZ (y := (⟨"java/lang/String", "length", "()I"⟩ : MethodName)) (z := (⟨"java/lang/String", "length", "()I"⟩ : MethodName)) (W := 0) hown (wdOf hw 68 rfl) (wdOf hw 69 rfl) (notFace_of_selects (args := #[]) (mvT hZ (wdOf hw 71 rfl))) (wdOf hw 71 rfl) (wdOf hw 70 rfl) (wdOf hw 23 rfl) (wdOf hw 72 rfl) (by decide) (rm_ln l Z a0 hw [] kc sx r rb (1 : Int32) ds h0 n0 Z0 G O ⟨hz, Or.inl ⟨⟨_, E2, F2_value, F2_coder, V2⟩, hld⟩⟩) (by decide) (by decide) (by decide) (by decide) e0 E2 (g := (mkF m 10 #[sR_ ax, sR_ r, sU_] [(.ref r)])) rfl (by rw [hml]; rfl) (argsL := []) (rest := []) (lenOf pd_24 rfl) rfl rfl (Nat.le_refl _) (hb hby d_rm_ap101_10)
  obtain ⟨rfl, n_1, K_1⟩ := q_1
  have N_1 := Fr.app N0 n_1
  refine Goes.go (U' := (T_1.setTop (mkF m 13 #[sR_ ax, sR_ r, sU_] [(.int (1 : Int32))]))) st_1 ?_
  refine Goes.go (U' := (T_1.setTop (mkF m 16 #[sR_ ax, sR_ r, sI_ (1 : Int32)] [(.ref ax), (.ref ax)]))) (fun t kt => ?_) ?_
  · skip
    refine XS.istoreN X_1.here hx rfl (hb hby d_rm_ap101_13) rfl (l' := #[sR_ ax, sR_ r, sI_ (1 : Int32)]) rfl ?_
    refine XS.aloadN X_1.here hx rfl (hb hby d_rm_ap101_14) rfl rfl ?_
    refine XS.aloadN X_1.here hx rfl (hb hby d_rm_ap101_15) rfl rfl ?_
    exact kt
  obtain ⟨T_2, X_2, e_2, st_2⟩ := getF X_1 hx hZ hown (host := "") (Or.inl (wdOf hw 78 rfl)) Via.refl K_1 F1_count (g := (mkF m 16 #[sR_ ax, sR_ r, sI_ (1 : Int32)] [(.ref ax), (.ref ax)])) rfl rfl (hb hby d_rm_ap101_16)
  refine Goes.go (U' := (T_2.setTop (mkF m 19 #[sR_ ax, sR_ r, sI_ (1 : Int32)] [(.int pn), (.ref ax)]))) st_2 ?_
  refine Goes.go (U' := (T_2.setTop (mkF m 21 #[sR_ ax, sR_ r, sI_ (1 : Int32)] [(.int (pn + (1 : Int32))), (.ref ax)]))) (fun t kt => ?_) ?_
  · skip
    refine XS.iloadN X_2.here hx rfl (hb hby d_rm_ap101_19) rfl ?_
    refine XS.iadd X_2.here hx rfl (hb hby d_rm_ap101_20) rfl ?_
    exact kt
  obtain ⟨v_3, T_3, L_3, X_3, q_3, st_3⟩ := callPrivSel X_2 hx hZ (y := (⟨"java/lang/AbstractStringBuilder", "ensureCapacityInternal", "(I)V"⟩ : MethodName)) (W := 0) hown (wdOf hw 80 rfl) (wdOf hw 81 rfl) (wdOf hw 82 rfl) (wdOf hw 83 rfl) (wdOf hw 19 rfl) (wdOf hw 84 rfl) (by decide) (rm_ec01 l Z a0 hw [] kc sx ax ba kb (pn + (1 : Int32)) (U2 cs) h0 n0 Z0 G O F1_value F1_coder V1 (by rcases hp4 with rfl | rfl | rfl | rfl <;> decide)) (by decide) (by decide) (by decide) (by decide) e_2 E1 (g := (mkF m 21 #[sR_ ax, sR_ r, sI_ (1 : Int32)] [(.int (pn + (1 : Int32))), (.ref ax)])) rfl (by rw [hml]; rfl) (argsL := [(.int (pn + (1 : Int32)))]) (rest := []) (lenOf pd_25 rfl) rfl rfl (Nat.le_refl _) (hb hby d_rm_ap101_21)
  obtain ⟨rfl, n_3, K_3⟩ := q_3
  have N_3 := Fr.app N_1 n_3
  refine Goes.go (U' := (T_3.setTop (mkF m 24 #[sR_ ax, sR_ r, sI_ (1 : Int32)] []))) st_3 ?_
  refine Goes.go (U' := (T_3.setTop (mkF m 26 #[sR_ ax, sR_ r, sI_ (1 : Int32)] [(.ref ax), (.ref ax)]))) (fun t kt => ?_) ?_
  · skip
    refine XS.aloadN X_3.here hx rfl (hb hby d_rm_ap101_24) rfl rfl ?_
    refine XS.aloadN X_3.here hx rfl (hb hby d_rm_ap101_25) rfl rfl ?_
    exact kt
  obtain ⟨T_4, X_4, e_4, st_4⟩ := getF X_3 hx hZ hown (host := "") (Or.inl (wdOf hw 78 rfl)) Via.refl K_3 F1_count (g := (mkF m 26 #[sR_ ax, sR_ r, sI_ (1 : Int32)] [(.ref ax), (.ref ax)])) rfl rfl (hb hby d_rm_ap101_26)
  refine Goes.go (U' := (T_4.setTop (mkF m 29 #[sR_ ax, sR_ r, sI_ (1 : Int32)] [(.int pn), (.ref ax)]))) st_4 ?_
  refine Goes.go (U' := (T_4.setTop (mkF m 30 #[sR_ ax, sR_ r, sI_ (1 : Int32)] [(.ref r), (.int pn), (.ref ax)]))) (fun t kt => ?_) ?_
  · skip
    refine XS.aloadN X_4.here hx rfl (hb hby d_rm_ap101_29) rfl rfl ?_
    exact kt
  obtain ⟨v_5, T_5, L_5, X_5, q_5, st_5⟩ := callPrivSel X_4 hx hZ (y := (⟨"java/lang/AbstractStringBuilder", "putStringAt", "(ILjava/lang/String;)V"⟩ : MethodName)) (W := 0) hown (wdOf hw 85 rfl) (wdOf hw 86 rfl) (wdOf hw 87 rfl) (wdOf hw 88 rfl) (wdOf hw 19 rfl) (wdOf hw 89 rfl) (by decide) (rm_ps10 l Z a0 hw [] kc sx ax ba r rb kb kr pn (1 : Int32) (32 : Int32) cs ds h0 n0 Z0 G O E1 F1_value F1_coder F1_count F1_maybeLatin1 V1 E2 F2_value F2_coder V2 o1 nb hz hp (by rw [hd1]; have : (32 : Int32).toNatClampNeg = 32 := rfl; omega) hld (by omega) (by rcases hp4 with rfl | rfl | rfl | rfl <;> decide) (by rcases hp4 with rfl | rfl | rfl | rfl <;> decide)) (by decide) (by decide) (by decide) (by decide) e_4 E1 (g := (mkF m 30 #[sR_ ax, sR_ r, sI_ (1 : Int32)] [(.ref r), (.int pn), (.ref ax)])) rfl (by rw [hml]; rfl) (argsL := [(.int pn), (.ref r)]) (rest := []) (lenOf pd_26 rfl) rfl rfl (Nat.le_refl _) (hb hby d_rm_ap101_30)
  obtain ⟨rfl, n_5, K_5, V_5⟩ := q_5
  have N_5 := Fr.app N_3 n_5
  have f_6 : Old Z n0 T_5.heap := O.keep K_5 (allS o1 all0)
  have f_7 : Exa Z T_5.heap ax "java/lang/StringBuilder" := E1.keep K_5
  have f_8 : Fld Z T_5.heap ax "java/lang/AbstractStringBuilder" "value" "[B" (.ref ba) := F1_value.keep K_5 (ninS (E1.neArv V1 (wdOf hw 10 rfl)) nin0)
  have f_9 : Fld Z T_5.heap ax "java/lang/AbstractStringBuilder" "coder" "B" (.int (1 : Int32)) := F1_coder.keep K_5 (ninS (E1.neArv V1 (wdOf hw 10 rfl)) nin0)
  have f_10 : Fld Z T_5.heap ax "java/lang/AbstractStringBuilder" "count" "I" (.int pn) := F1_count.keep K_5 (ninS (E1.neArv V1 (wdOf hw 10 rfl)) nin0)
  have f_11 : Fld Z T_5.heap ax "java/lang/AbstractStringBuilder" "maybeLatin1" "Z" (.int (0 : Int32)) := F1_maybeLatin1.keep K_5 (ninS (E1.neArv V1 (wdOf hw 10 rfl)) nin0)
  have f_13 : Exa Z T_5.heap r "java/lang/String" := E2.keep K_5
  have f_14 : Fld Z T_5.heap r "java/lang/String" "value" "[B" (.ref rb) := F2_value.keep K_5 (ninS (E2.neArv V1 (wdOf hw 40 rfl)) nin0)
  have f_15 : Fld Z T_5.heap r "java/lang/String" "coder" "B" (.int (0 : Int32)) := F2_coder.keep K_5 (ninS (E2.neArv V1 (wdOf hw 40 rfl)) nin0)
  have f_16 : Arv Z T_5.heap rb kr .byte (1 : Int32) (L1 ds) (.int (0 : Int32)) := V2.keep K_5 (ninS nb nin0)
  have K_17 : Keep h0 T_5.heap [ax, ba] := K0.trans K_5 (allS (P := fun x => x ∈ [ax, ba] ∨ h0.size ≤ x) (Or.inl (List.mem_of_getElem? (i := 1) rfl)) all0)
  have y_17 : n0 ≤ T_5.heap.size := Nat.le_trans Z0 K_17.1
  refine Goes.go (U' := (T_5.setTop (mkF m 33 #[sR_ ax, sR_ r, sI_ (1 : Int32)] []))) st_5 ?_
  refine Goes.go (U' := (T_5.setTop (mkF m 35 #[sR_ ax, sR_ r, sI_ (1 : Int32)] [(.ref ax), (.ref ax)]))) (fun t kt => ?_) ?_
  · skip
    refine XS.aloadN X_5.here hx rfl (hb hby d_rm_ap101_33) rfl rfl ?_
    refine XS.dup X_5.here hx rfl (hb hby d_rm_ap101_34) rfl rfl ?_
    exact kt
  obtain ⟨T_18, X_18, e_18, st_18⟩ := getF X_5 hx hZ hown (host := "") (Or.inl (wdOf hw 78 rfl)) Via.refl (rfl : T_5.heap = T_5.heap) f_10 (g := (mkF m 35 #[sR_ ax, sR_ r, sI_ (1 : Int32)] [(.ref ax), (.ref ax)])) rfl rfl (hb hby d_rm_ap101_35)
  refine Goes.go (U' := (T_18.setTop (mkF m 38 #[sR_ ax, sR_ r, sI_ (1 : Int32)] [(.int pn), (.ref ax)]))) st_18 ?_
  refine Goes.go (U' := (T_18.setTop (mkF m 40 #[sR_ ax, sR_ r, sI_ (1 : Int32)] [(.int (pn + (1 : Int32))), (.ref ax)]))) (fun t kt => ?_) ?_
  · skip
    refine XS.iloadN X_18.here hx rfl (hb hby d_rm_ap101_38) rfl ?_
    refine XS.iadd X_18.here hx rfl (hb hby d_rm_ap101_39) rfl ?_
    exact kt
  obtain ⟨T_19, h_19, X_19, e_19, W_19, st_19⟩ := putF X_18 hx hZ hown (host := "") (Or.inl (wdOf hw 78 rfl)) Via.refl e_18 f_10 f_7 (Or.inl (wdOf hw 79 rfl)) (wdOf hw 10 rfl) (ty := .int) (by decide) rfl rfl (g := (mkF m 40 #[sR_ ax, sR_ r, sI_ (1 : Int32)] [(.int (pn + (1 : Int32))), (.ref ax)])) rfl rfl (hb hby d_rm_ap101_40)
  have N_19 := Fr.snoc X_19 N_5 o0
  have f_20 : Old Z n0 h_19 := f_6.wr W_19 o0
  have f_21 : Exa Z h_19 ax "java/lang/StringBuilder" := f_7.wr W_19
  have f_22 : Fld Z h_19 ax "java/lang/AbstractStringBuilder" "value" "[B" (.ref ba) := f_8.other W_19 (Or.inr (slot_ne (Or.inl (wdOf hw 26 rfl)) (Or.inl (wdOf hw 79 rfl)) (by decide) (t := (.array .byte)) (t' := .int) (by decide) (by decide)))
  have f_23 : Fld Z h_19 ax "java/lang/AbstractStringBuilder" "coder" "B" (.int (1 : Int32)) := f_9.other W_19 (Or.inr (slot_ne (Or.inl (wdOf hw 28 rfl)) (Or.inl (wdOf hw 79 rfl)) (by decide) (t := .byte) (t' := .int) (by decide) (by decide)))
  have f_24 : Fld Z h_19 ax "java/lang/AbstractStringBuilder" "count" "I" (.int (pn + (1 : Int32))) := f_10.same W_19
  have f_25 : Fld Z h_19 ax "java/lang/AbstractStringBuilder" "maybeLatin1" "Z" (.int (0 : Int32)) := f_11.other W_19 (Or.inr (slot_ne (Or.inl (wdOf hw 245 rfl)) (Or.inl (wdOf hw 79 rfl)) (by decide) (t := .boolean) (t' := .int) (by decide) (by decide)))
  have f_26 : Exa Z h_19 r "java/lang/String" := f_13.wr W_19
  have f_27 : Fld Z h_19 r "java/lang/String" "value" "[B" (.ref rb) := f_14.other W_19 (Or.inl (ne_exa f_13 f_7 (by decide)))
  have f_28 : Fld Z h_19 r "java/lang/String" "coder" "B" (.int (0 : Int32)) := f_15.other W_19 (Or.inl (ne_exa f_13 f_7 (by decide)))
  have f_29 : Arv Z h_19 rb kr .byte (1 : Int32) (L1 ds) (.int (0 : Int32)) := f_16.other W_19 (Ne.symm (f_7.neArv f_16 (wdOf hw 10 rfl)))
  have f_30 : Arv Z h_19 ba kb .byte (32 : Int32) (U2 (cs ++ ds)) (.int (0 : Int32)) := V_5.other W_19 (Ne.symm (f_7.neArv V_5 (wdOf hw 10 rfl)))
  have K_31 : Keep h0 h_19 [ax, ba] := K_17.wr W_19 (Or.inl (List.mem_of_getElem? (i := 0) rfl))
  have y_31 : n0 ≤ h_19.size := Nat.le_trans Z0 K_31.1
  refine Goes.go (U' := (T_19.setTop (mkF m 43 #[sR_ ax, sR_ r, sI_ (1 : Int32)] []))) st_19 ?_
  refine Goes.go (U' := (T_19.setTop (mkF m 44 #[sR_ ax, sR_ r, sI_ (1 : Int32)] [(.ref ax)]))) (fun t kt => ?_) ?_
  · skip
    refine XS.aloadN X_19.here hx rfl (hb hby d_rm_ap101_43) rfl rfl ?_
    exact kt
  refine Goes.retA X_19 hx hlk hret rfl rfl (hb hby d_rm_ap101_44) (by decide) (by decide) ?_
  try rw [e_19]
  exact ⟨_, _, rfl, N_19, K_31, o1, f_21, f_22, f_23, f_24, f_25, f_30⟩
theorem d_rm_sap101_0 : decode jdk_67_method_7_code 0 = .ok (.aload_n 0, 1) := by decide +kernel
theorem d_rm_sap101_1 : decode jdk_67_method_7_code 1 = .ok (.aload_n 1, 1) := by decide +kernel
theorem d_rm_sap101_2 : decode jdk_67_method_7_code 2 = .ok (.invokespecial 29, 3) := by decide +kernel
theorem d_rm_sap101_5 : decode jdk_67_method_7_code 5 = .ok (.pop, 1) := by decide +kernel
theorem d_rm_sap101_6 : decode jdk_67_method_7_code 6 = .ok (.aload_n 0, 1) := by decide +kernel
theorem d_rm_sap101_7 : decode jdk_67_method_7_code 7 = .ok (.areturn, 1) := by decide +kernel
set_option maxHeartbeats 4000000 in
theorem ef_rm_sap101 (m : MethodId) (x0 : Addr) (x1 : Addr)  : entryFrame m #[(.ref x0), (.ref x1)] 2 = mkF m 0 #[.val (.ref x0), .val (.ref x1)] [] := by first | (simp [entryFrame, mkF, argsToLocals, catR, catN, catI, catJ]; done) | rfl
set_option maxRecDepth 65536 in
set_option maxHeartbeats 40000000 in
theorem rm_sap101 (l : Launch) (Z : State) (a0 : Array Value) (hw : ∀ d ∈ tables_1, d.before a0 Z = true) (ws : List Jvm.Cond) (kc : Int32) (sx : Value) (ax ba r rb : Addr) (kb kr : ClassId) (pn : Int32) (cs ds : List Int32) (h0 : Heap) (n0 : Nat) (Z0 : n0 ≤ h0.size) (G : Stt Z kc sx) (O : Old Z n0 h0) (E1 : Exa Z h0 ax "java/lang/StringBuilder") (F1_value : Fld Z h0 ax "java/lang/AbstractStringBuilder" "value" "[B" (.ref ba)) (F1_coder : Fld Z h0 ax "java/lang/AbstractStringBuilder" "coder" "B" (.int (1 : Int32))) (F1_count : Fld Z h0 ax "java/lang/AbstractStringBuilder" "count" "I" (.int pn)) (F1_maybeLatin1 : Fld Z h0 ax "java/lang/AbstractStringBuilder" "maybeLatin1" "Z" (.int (0 : Int32))) (V1 : Arv Z h0 ba kb .byte (32 : Int32) (U2 cs) (.int (0 : Int32))) (E2 : Exa Z h0 r "java/lang/String") (F2_value : Fld Z h0 r "java/lang/String" "value" "[B" (.ref rb)) (F2_coder : Fld Z h0 r "java/lang/String" "coder" "B" (.int (0 : Int32))) (V2 : Arv Z h0 rb kr .byte (1 : Int32) (L1 ds) (.int (0 : Int32))) (o0 : n0 ≤ ax) (o1 : n0 ≤ ba) (nb : rb ≠ ba) (hz : Sz (1 : Int32) ds.length) (hp : Sz pn cs.length) (hle : cs.length ≤ 2) (hlc : ∀ c ∈ cs, Ch c) (hld : ∀ c ∈ ds, Lc c) :
    Pays l Z (⟨"java/lang/StringBuilder", "append", "(Ljava/lang/String;)Ljava/lang/StringBuilder;"⟩ : MethodName) jdk_67_method_7_code 2 (some (.object "java/lang/StringBuilder")) ws ({ frames := 8, cells := 0, slots := 0, locals := 119 } : Room) #[(.ref ax), (.ref r)] h0 (fun v h L => ∃ b k, v = some (.ref ax) ∧ Fr n0 L ∧ Keep h0 h [ax, ba] ∧ n0 ≤ b ∧ Exa Z h ax "java/lang/StringBuilder" ∧ Fld Z h ax "java/lang/AbstractStringBuilder" "value" "[B" (.ref b) ∧ Fld Z h ax "java/lang/AbstractStringBuilder" "coder" "B" (.int (1 : Int32)) ∧ Fld Z h ax "java/lang/AbstractStringBuilder" "count" "I" (.int (pn + (1 : Int32))) ∧ Fld Z h ax "java/lang/AbstractStringBuilder" "maybeLatin1" "Z" (.int (0 : Int32)) ∧ Arv Z h b k .byte (32 : Int32) (U2 (cs ++ ds)) (.int (0 : Int32))) := by
  refine Pays.of (plainFor_of_name (by first | (simp [plainName, overriddenIn]; done) | decide +kernel)) ?_
  intro p e s m below meth c s₁ hx hby hml hown hnm hret hlk hZ e0 X0
  have N0 := Fr.nil n0
  have K0 : Keep h0 h0 [ax, ba] := Keep.refl _ _
  refine Goes.go (U' := (s₁.setTop (mkF m 0 #[sR_ ax, sR_ r] []))) (fun t kt => castTop (ef_rm_sap101 m ax r) kt) ?_
  refine Goes.go (U' := (s₁.setTop (mkF m 2 #[sR_ ax, sR_ r] [(.ref r), (.ref ax)]))) (fun t kt => ?_) ?_
  · skip
    refine XS.aloadN X0.here hx rfl (hb hby d_rm_sap101_0) rfl rfl ?_
    refine XS.aloadN X0.here hx rfl (hb hby d_rm_sap101_1) rfl rfl ?_
    exact kt
  obtain ⟨v_1, T_1, L_1, X_1, q_1, st_1⟩ := callSuper X0 hx hZ (y := (⟨"java/lang/AbstractStringBuilder", "append", "(Ljava/lang/String;)Ljava/lang/AbstractStringBuilder;"⟩ : MethodName)) (W := 0) (by decide) hown (wdOf hw 63 rfl) (sameOf (wdOf hw 83 rfl) rfl (wdOf hw 64 rfl) (by decide)) (wdOf hw 64 rfl) (wdOf hw 65 rfl) (wdOf hw 19 rfl) (wdOf hw 67 rfl) (rm_ap101 l Z a0 hw [] kc sx ax ba r rb kb kr pn cs ds h0 n0 Z0 G O E1 F1_value F1_coder F1_count F1_maybeLatin1 V1 E2 F2_value F2_coder V2 o0 o1 nb hz hp hle hlc hld) (by decide) (by decide) (by decide) (by decide) e0 (Ins.self E1) (g := (mkF m 2 #[sR_ ax, sR_ r] [(.ref r), (.ref ax)])) rfl (by rw [hml]; rfl) (argsL := [(.ref r)]) (rest := []) (lenOf pd_27 rfl) rfl rfl (Nat.le_refl _) (hb hby d_rm_sap101_2)
  obtain ⟨b_1, k_1, rfl, n_1, K_1, o_1, EQ_1, FQ_1_value, FQ_1_coder, FQ_1_count, FQ_1_maybeLatin1, VQ_1⟩ := q_1
  have N_1 := Fr.app N0 n_1
  have f_2 : Old Z n0 T_1.heap := O.keep K_1 (allS o0 (allS o1 all0))
  have K_3 : Keep h0 T_1.heap [ax, ba] := K0.trans K_1 (allS (P := fun x => x ∈ [ax, ba] ∨ h0.size ≤ x) (Or.inl (List.mem_of_getElem? (i := 0) rfl)) (allS (P := fun x => x ∈ [ax, ba] ∨ h0.size ≤ x) (Or.inl (List.mem_of_getElem? (i := 1) rfl)) all0))
  have y_3 : n0 ≤ T_1.heap.size := Nat.le_trans Z0 K_3.1
  refine Goes.go (U' := (T_1.setTop (mkF m 5 #[sR_ ax, sR_ r] [(.ref ax)]))) st_1 ?_
  refine Goes.go (U' := (T_1.setTop (mkF m 7 #[sR_ ax, sR_ r] [(.ref ax)]))) (fun t kt => ?_) ?_
  · skip
    refine XS.pop X_1.here hx rfl (hb hby d_rm_sap101_5) rfl rfl ?_
    refine XS.aloadN X_1.here hx rfl (hb hby d_rm_sap101_6) rfl rfl ?_
    exact kt
  refine Goes.retA X_1 hx hlk hret rfl rfl (hb hby d_rm_sap101_7) (by decide) (by decide) ?_
  try rw [(rfl : T_1.heap = T_1.heap)]
  exact ⟨_, _, rfl, N_1, K_3, o_1, EQ_1, FQ_1_value, FQ_1_coder, FQ_1_count, FQ_1_maybeLatin1, VQ_1⟩
theorem d_rm_ap111_0 : decode jdk_68_method_22_code 0 = .ok (.aload_n 1, 1) := by decide +kernel
theorem d_rm_ap111_1 : decode jdk_68_method_22_code 1 = .ok (.ifnonnull 8, 3) := by decide +kernel
theorem d_rm_ap111_9 : decode jdk_68_method_22_code 9 = .ok (.aload_n 1, 1) := by decide +kernel
theorem d_rm_ap111_10 : decode jdk_68_method_22_code 10 = .ok (.invokevirtual 32, 3) := by decide +kernel
theorem d_rm_ap111_13 : decode jdk_68_method_22_code 13 = .ok (.istore_n 2, 1) := by decide +kernel
theorem d_rm_ap111_14 : decode jdk_68_method_22_code 14 = .ok (.aload_n 0, 1) := by decide +kernel
theorem d_rm_ap111_15 : decode jdk_68_method_22_code 15 = .ok (.aload_n 0, 1) := by decide +kernel
theorem d_rm_ap111_16 : decode jdk_68_method_22_code 16 = .ok (.getfield 79, 3) := by decide +kernel
theorem d_rm_ap111_19 : decode jdk_68_method_22_code 19 = .ok (.iload_n 2, 1) := by decide +kernel
theorem d_rm_ap111_20 : decode jdk_68_method_22_code 20 = .ok (.iadd, 1) := by decide +kernel
theorem d_rm_ap111_21 : decode jdk_68_method_22_code 21 = .ok (.invokevirtual 100, 3) := by decide +kernel
theorem d_rm_ap111_24 : decode jdk_68_method_22_code 24 = .ok (.aload_n 0, 1) := by decide +kernel
theorem d_rm_ap111_25 : decode jdk_68_method_22_code 25 = .ok (.aload_n 0, 1) := by decide +kernel
theorem d_rm_ap111_26 : decode jdk_68_method_22_code 26 = .ok (.getfield 79, 3) := by decide +kernel
theorem d_rm_ap111_29 : decode jdk_68_method_22_code 29 = .ok (.aload_n 1, 1) := by decide +kernel
theorem d_rm_ap111_30 : decode jdk_68_method_22_code 30 = .ok (.invokevirtual 208, 3) := by decide +kernel
theorem d_rm_ap111_33 : decode jdk_68_method_22_code 33 = .ok (.aload_n 0, 1) := by decide +kernel
theorem d_rm_ap111_34 : decode jdk_68_method_22_code 34 = .ok (.dup, 1) := by decide +kernel
theorem d_rm_ap111_35 : decode jdk_68_method_22_code 35 = .ok (.getfield 79, 3) := by decide +kernel
theorem d_rm_ap111_38 : decode jdk_68_method_22_code 38 = .ok (.iload_n 2, 1) := by decide +kernel
theorem d_rm_ap111_39 : decode jdk_68_method_22_code 39 = .ok (.iadd, 1) := by decide +kernel
theorem d_rm_ap111_40 : decode jdk_68_method_22_code 40 = .ok (.putfield 79, 3) := by decide +kernel
theorem d_rm_ap111_43 : decode jdk_68_method_22_code 43 = .ok (.aload_n 0, 1) := by decide +kernel
theorem d_rm_ap111_44 : decode jdk_68_method_22_code 44 = .ok (.areturn, 1) := by decide +kernel
set_option maxHeartbeats 4000000 in
theorem ef_rm_ap111 (m : MethodId) (x0 : Addr) (x1 : Addr)  : entryFrame m #[(.ref x0), (.ref x1)] 3 = mkF m 0 #[.val (.ref x0), .val (.ref x1), .unset] [] := by first | (simp [entryFrame, mkF, argsToLocals, catR, catN, catI, catJ]; done) | rfl
set_option maxRecDepth 65536 in
set_option maxHeartbeats 40000000 in
theorem rm_ap111 (l : Launch) (Z : State) (a0 : Array Value) (hw : ∀ d ∈ tables_1, d.before a0 Z = true) (ws : List Jvm.Cond) (kc : Int32) (sx : Value) (ax ba r rb : Addr) (kb kr : ClassId) (pn : Int32) (cs ds : List Int32) (h0 : Heap) (n0 : Nat) (Z0 : n0 ≤ h0.size) (G : Stt Z kc sx) (O : Old Z n0 h0) (E1 : Exa Z h0 ax "java/lang/StringBuilder") (F1_value : Fld Z h0 ax "java/lang/AbstractStringBuilder" "value" "[B" (.ref ba)) (F1_coder : Fld Z h0 ax "java/lang/AbstractStringBuilder" "coder" "B" (.int (1 : Int32))) (F1_count : Fld Z h0 ax "java/lang/AbstractStringBuilder" "count" "I" (.int pn)) (F1_maybeLatin1 : Fld Z h0 ax "java/lang/AbstractStringBuilder" "maybeLatin1" "Z" (.int (0 : Int32))) (V1 : Arv Z h0 ba kb .byte (32 : Int32) (U2 cs) (.int (0 : Int32))) (E2 : Exa Z h0 r "java/lang/String") (F2_value : Fld Z h0 r "java/lang/String" "value" "[B" (.ref rb)) (F2_coder : Fld Z h0 r "java/lang/String" "coder" "B" (.int (1 : Int32))) (V2 : Arv Z h0 rb kr .byte ((1 : Int32) <<< ((1 : Int32) &&& 31)) (U2 ds) (.int (0 : Int32))) (o0 : n0 ≤ ax) (o1 : n0 ≤ ba) (nb : rb ≠ ba) (hz : Sz (1 : Int32) ds.length) (hp : Sz pn cs.length) (hle : cs.length ≤ 2) (hlc : ∀ c ∈ cs, Ch c) (hld : ∀ c ∈ ds, Ch c) :
    Pays l Z (⟨"java/lang/AbstractStringBuilder", "append", "(Ljava/lang/String;)Ljava/lang/AbstractStringBuilder;"⟩ : MethodName) jdk_68_method_22_code 3 (some (.object "java/lang/AbstractStringBuilder")) ws ({ frames := 3, cells := 0, slots := 0, locals := 47 } : Room) #[(.ref ax), (.ref r)] h0 (fun v h L => ∃ b k, v = some (.ref ax) ∧ Fr n0 L ∧ Keep h0 h [ax, ba] ∧ n0 ≤ b ∧ Exa Z h ax "java/lang/StringBuilder" ∧ Fld Z h ax "java/lang/AbstractStringBuilder" "value" "[B" (.ref b) ∧ Fld Z h ax "java/lang/AbstractStringBuilder" "coder" "B" (.int (1 : Int32)) ∧ Fld Z h ax "java/lang/AbstractStringBuilder" "count" "I" (.int (pn + (1 : Int32))) ∧ Fld Z h ax "java/lang/AbstractStringBuilder" "maybeLatin1" "Z" (.int (0 : Int32)) ∧ Arv Z h b k .byte (32 : Int32) (U2 (cs ++ ds)) (.int (0 : Int32))) := by
  refine Pays.of (plainFor_of_name (by first | (simp [plainName, overriddenIn]; done) | decide +kernel)) ?_
  intro p e s m below meth c s₁ hx hby hml hown hnm hret hlk hZ e0 X0
  have N0 := Fr.nil n0
  have K0 : Keep h0 h0 [ax, ba] := Keep.refl _ _
  refine Goes.go (U' := (s₁.setTop (mkF m 0 #[sR_ ax, sR_ r, sU_] []))) (fun t kt => castTop (ef_rm_ap111 m ax r) kt) ?_
  have hp4 := hp.four (Nat.le_trans hle (by decide))
  have hd1 : ds.length = 1 := by have := hz.nat; rw [← this]; rfl
  refine Goes.go (U' := (s₁.setTop (mkF m 10 #[sR_ ax, sR_ r, sU_] [(.ref r)]))) (fun t kt => ?_) ?_
  · skip
    refine XS.aloadN X0.here hx rfl (hb hby d_rm_ap111_0) rfl rfl ?_
    refine XS.ifnonnullYes X0.here hx rfl (pc0 := 1) (pc' := 9) rfl (hb hby d_rm_ap111_1) rfl (by decide) (by decide) ?_
    refine XS.aloadN X0.here hx rfl (hb hby d_rm_ap111_9) rfl rfl ?_
    exact kt
  obtain ⟨v_1, T_1, L_1, X_1, q_1, st_1⟩ := callVirtual X0 hx hZ (y := (⟨"java/lang/String", "length", "()I"⟩ : MethodName)) (z := (⟨"java/lang/String", "length", "()I"⟩ : MethodName)) (W := 0) hown (wdOf hw 68 rfl) (wdOf hw 69 rfl) (notFace_of_selects (args := #[]) (mvT hZ (wdOf hw 71 rfl))) (wdOf hw 71 rfl) (wdOf hw 70 rfl) (wdOf hw 23 rfl) (wdOf hw 72 rfl) (by decide) (rm_ln l Z a0 hw [] kc sx r rb (1 : Int32) ds h0 n0 Z0 G O ⟨hz, Or.inr ⟨⟨_, E2, F2_value, F2_coder, V2⟩, hld⟩⟩) (by decide) (by decide) (by decide) (by decide) e0 E2 (g := (mkF m 10 #[sR_ ax, sR_ r, sU_] [(.ref r)])) rfl (by rw [hml]; rfl) (argsL := []) (rest := []) (lenOf pd_24 rfl) rfl rfl (Nat.le_refl _) (hb hby d_rm_ap111_10)
  obtain ⟨rfl, n_1, K_1⟩ := q_1
  have N_1 := Fr.app N0 n_1
  refine Goes.go (U' := (T_1.setTop (mkF m 13 #[sR_ ax, sR_ r, sU_] [(.int (1 : Int32))]))) st_1 ?_
  refine Goes.go (U' := (T_1.setTop (mkF m 16 #[sR_ ax, sR_ r, sI_ (1 : Int32)] [(.ref ax), (.ref ax)]))) (fun t kt => ?_) ?_
  · skip
    refine XS.istoreN X_1.here hx rfl (hb hby d_rm_ap111_13) rfl (l' := #[sR_ ax, sR_ r, sI_ (1 : Int32)]) rfl ?_
    refine XS.aloadN X_1.here hx rfl (hb hby d_rm_ap111_14) rfl rfl ?_
    refine XS.aloadN X_1.here hx rfl (hb hby d_rm_ap111_15) rfl rfl ?_
    exact kt
  obtain ⟨T_2, X_2, e_2, st_2⟩ := getF X_1 hx hZ hown (host := "") (Or.inl (wdOf hw 78 rfl)) Via.refl K_1 F1_count (g := (mkF m 16 #[sR_ ax, sR_ r, sI_ (1 : Int32)] [(.ref ax), (.ref ax)])) rfl rfl (hb hby d_rm_ap111_16)
  refine Goes.go (U' := (T_2.setTop (mkF m 19 #[sR_ ax, sR_ r, sI_ (1 : Int32)] [(.int pn), (.ref ax)]))) st_2 ?_
  refine Goes.go (U' := (T_2.setTop (mkF m 21 #[sR_ ax, sR_ r, sI_ (1 : Int32)] [(.int (pn + (1 : Int32))), (.ref ax)]))) (fun t kt => ?_) ?_
  · skip
    refine XS.iloadN X_2.here hx rfl (hb hby d_rm_ap111_19) rfl ?_
    refine XS.iadd X_2.here hx rfl (hb hby d_rm_ap111_20) rfl ?_
    exact kt
  obtain ⟨v_3, T_3, L_3, X_3, q_3, st_3⟩ := callPrivSel X_2 hx hZ (y := (⟨"java/lang/AbstractStringBuilder", "ensureCapacityInternal", "(I)V"⟩ : MethodName)) (W := 0) hown (wdOf hw 80 rfl) (wdOf hw 81 rfl) (wdOf hw 82 rfl) (wdOf hw 83 rfl) (wdOf hw 19 rfl) (wdOf hw 84 rfl) (by decide) (rm_ec01 l Z a0 hw [] kc sx ax ba kb (pn + (1 : Int32)) (U2 cs) h0 n0 Z0 G O F1_value F1_coder V1 (by rcases hp4 with rfl | rfl | rfl | rfl <;> decide)) (by decide) (by decide) (by decide) (by decide) e_2 E1 (g := (mkF m 21 #[sR_ ax, sR_ r, sI_ (1 : Int32)] [(.int (pn + (1 : Int32))), (.ref ax)])) rfl (by rw [hml]; rfl) (argsL := [(.int (pn + (1 : Int32)))]) (rest := []) (lenOf pd_25 rfl) rfl rfl (Nat.le_refl _) (hb hby d_rm_ap111_21)
  obtain ⟨rfl, n_3, K_3⟩ := q_3
  have N_3 := Fr.app N_1 n_3
  refine Goes.go (U' := (T_3.setTop (mkF m 24 #[sR_ ax, sR_ r, sI_ (1 : Int32)] []))) st_3 ?_
  refine Goes.go (U' := (T_3.setTop (mkF m 26 #[sR_ ax, sR_ r, sI_ (1 : Int32)] [(.ref ax), (.ref ax)]))) (fun t kt => ?_) ?_
  · skip
    refine XS.aloadN X_3.here hx rfl (hb hby d_rm_ap111_24) rfl rfl ?_
    refine XS.aloadN X_3.here hx rfl (hb hby d_rm_ap111_25) rfl rfl ?_
    exact kt
  obtain ⟨T_4, X_4, e_4, st_4⟩ := getF X_3 hx hZ hown (host := "") (Or.inl (wdOf hw 78 rfl)) Via.refl K_3 F1_count (g := (mkF m 26 #[sR_ ax, sR_ r, sI_ (1 : Int32)] [(.ref ax), (.ref ax)])) rfl rfl (hb hby d_rm_ap111_26)
  refine Goes.go (U' := (T_4.setTop (mkF m 29 #[sR_ ax, sR_ r, sI_ (1 : Int32)] [(.int pn), (.ref ax)]))) st_4 ?_
  refine Goes.go (U' := (T_4.setTop (mkF m 30 #[sR_ ax, sR_ r, sI_ (1 : Int32)] [(.ref r), (.int pn), (.ref ax)]))) (fun t kt => ?_) ?_
  · skip
    refine XS.aloadN X_4.here hx rfl (hb hby d_rm_ap111_29) rfl rfl ?_
    exact kt
  obtain ⟨v_5, T_5, L_5, X_5, q_5, st_5⟩ := callPrivSel X_4 hx hZ (y := (⟨"java/lang/AbstractStringBuilder", "putStringAt", "(ILjava/lang/String;)V"⟩ : MethodName)) (W := 0) hown (wdOf hw 85 rfl) (wdOf hw 86 rfl) (wdOf hw 87 rfl) (wdOf hw 88 rfl) (wdOf hw 19 rfl) (wdOf hw 89 rfl) (by decide) (rm_ps11 l Z a0 hw [] kc sx ax ba r rb kb kr pn (1 : Int32) (32 : Int32) cs ds h0 n0 Z0 G O E1 F1_value F1_coder F1_count F1_maybeLatin1 V1 E2 F2_value F2_coder V2 o1 nb hz hp (by rw [hd1]; have : (32 : Int32).toNatClampNeg = 32 := rfl; omega)) (by decide) (by decide) (by decide) (by decide) e_4 E1 (g := (mkF m 30 #[sR_ ax, sR_ r, sI_ (1 : Int32)] [(.ref r), (.int pn), (.ref ax)])) rfl (by rw [hml]; rfl) (argsL := [(.int pn), (.ref r)]) (rest := []) (lenOf pd_26 rfl) rfl rfl (Nat.le_refl _) (hb hby d_rm_ap111_30)
  obtain ⟨rfl, n_5, K_5, V_5⟩ := q_5
  have N_5 := Fr.app N_3 n_5
  have f_6 : Old Z n0 T_5.heap := O.keep K_5 (allS o1 all0)
  have f_7 : Exa Z T_5.heap ax "java/lang/StringBuilder" := E1.keep K_5
  have f_8 : Fld Z T_5.heap ax "java/lang/AbstractStringBuilder" "value" "[B" (.ref ba) := F1_value.keep K_5 (ninS (E1.neArv V1 (wdOf hw 10 rfl)) nin0)
  have f_9 : Fld Z T_5.heap ax "java/lang/AbstractStringBuilder" "coder" "B" (.int (1 : Int32)) := F1_coder.keep K_5 (ninS (E1.neArv V1 (wdOf hw 10 rfl)) nin0)
  have f_10 : Fld Z T_5.heap ax "java/lang/AbstractStringBuilder" "count" "I" (.int pn) := F1_count.keep K_5 (ninS (E1.neArv V1 (wdOf hw 10 rfl)) nin0)
  have f_11 : Fld Z T_5.heap ax "java/lang/AbstractStringBuilder" "maybeLatin1" "Z" (.int (0 : Int32)) := F1_maybeLatin1.keep K_5 (ninS (E1.neArv V1 (wdOf hw 10 rfl)) nin0)
  have f_13 : Exa Z T_5.heap r "java/lang/String" := E2.keep K_5
  have f_14 : Fld Z T_5.heap r "java/lang/String" "value" "[B" (.ref rb) := F2_value.keep K_5 (ninS (E2.neArv V1 (wdOf hw 40 rfl)) nin0)
  have f_15 : Fld Z T_5.heap r "java/lang/String" "coder" "B" (.int (1 : Int32)) := F2_coder.keep K_5 (ninS (E2.neArv V1 (wdOf hw 40 rfl)) nin0)
  have f_16 : Arv Z T_5.heap rb kr .byte ((1 : Int32) <<< ((1 : Int32) &&& 31)) (U2 ds) (.int (0 : Int32)) := V2.keep K_5 (ninS nb nin0)
  have K_17 : Keep h0 T_5.heap [ax, ba] := K0.trans K_5 (allS (P := fun x => x ∈ [ax, ba] ∨ h0.size ≤ x) (Or.inl (List.mem_of_getElem? (i := 1) rfl)) all0)
  have y_17 : n0 ≤ T_5.heap.size := Nat.le_trans Z0 K_17.1
  refine Goes.go (U' := (T_5.setTop (mkF m 33 #[sR_ ax, sR_ r, sI_ (1 : Int32)] []))) st_5 ?_
  refine Goes.go (U' := (T_5.setTop (mkF m 35 #[sR_ ax, sR_ r, sI_ (1 : Int32)] [(.ref ax), (.ref ax)]))) (fun t kt => ?_) ?_
  · skip
    refine XS.aloadN X_5.here hx rfl (hb hby d_rm_ap111_33) rfl rfl ?_
    refine XS.dup X_5.here hx rfl (hb hby d_rm_ap111_34) rfl rfl ?_
    exact kt
  obtain ⟨T_18, X_18, e_18, st_18⟩ := getF X_5 hx hZ hown (host := "") (Or.inl (wdOf hw 78 rfl)) Via.refl (rfl : T_5.heap = T_5.heap) f_10 (g := (mkF m 35 #[sR_ ax, sR_ r, sI_ (1 : Int32)] [(.ref ax), (.ref ax)])) rfl rfl (hb hby d_rm_ap111_35)
  refine Goes.go (U' := (T_18.setTop (mkF m 38 #[sR_ ax, sR_ r, sI_ (1 : Int32)] [(.int pn), (.ref ax)]))) st_18 ?_
  refine Goes.go (U' := (T_18.setTop (mkF m 40 #[sR_ ax, sR_ r, sI_ (1 : Int32)] [(.int (pn + (1 : Int32))), (.ref ax)]))) (fun t kt => ?_) ?_
  · skip
    refine XS.iloadN X_18.here hx rfl (hb hby d_rm_ap111_38) rfl ?_
    refine XS.iadd X_18.here hx rfl (hb hby d_rm_ap111_39) rfl ?_
    exact kt
  obtain ⟨T_19, h_19, X_19, e_19, W_19, st_19⟩ := putF X_18 hx hZ hown (host := "") (Or.inl (wdOf hw 78 rfl)) Via.refl e_18 f_10 f_7 (Or.inl (wdOf hw 79 rfl)) (wdOf hw 10 rfl) (ty := .int) (by decide) rfl rfl (g := (mkF m 40 #[sR_ ax, sR_ r, sI_ (1 : Int32)] [(.int (pn + (1 : Int32))), (.ref ax)])) rfl rfl (hb hby d_rm_ap111_40)
  have N_19 := Fr.snoc X_19 N_5 o0
  have f_20 : Old Z n0 h_19 := f_6.wr W_19 o0
  have f_21 : Exa Z h_19 ax "java/lang/StringBuilder" := f_7.wr W_19
  have f_22 : Fld Z h_19 ax "java/lang/AbstractStringBuilder" "value" "[B" (.ref ba) := f_8.other W_19 (Or.inr (slot_ne (Or.inl (wdOf hw 26 rfl)) (Or.inl (wdOf hw 79 rfl)) (by decide) (t := (.array .byte)) (t' := .int) (by decide) (by decide)))
  have f_23 : Fld Z h_19 ax "java/lang/AbstractStringBuilder" "coder" "B" (.int (1 : Int32)) := f_9.other W_19 (Or.inr (slot_ne (Or.inl (wdOf hw 28 rfl)) (Or.inl (wdOf hw 79 rfl)) (by decide) (t := .byte) (t' := .int) (by decide) (by decide)))
  have f_24 : Fld Z h_19 ax "java/lang/AbstractStringBuilder" "count" "I" (.int (pn + (1 : Int32))) := f_10.same W_19
  have f_25 : Fld Z h_19 ax "java/lang/AbstractStringBuilder" "maybeLatin1" "Z" (.int (0 : Int32)) := f_11.other W_19 (Or.inr (slot_ne (Or.inl (wdOf hw 245 rfl)) (Or.inl (wdOf hw 79 rfl)) (by decide) (t := .boolean) (t' := .int) (by decide) (by decide)))
  have f_26 : Exa Z h_19 r "java/lang/String" := f_13.wr W_19
  have f_27 : Fld Z h_19 r "java/lang/String" "value" "[B" (.ref rb) := f_14.other W_19 (Or.inl (ne_exa f_13 f_7 (by decide)))
  have f_28 : Fld Z h_19 r "java/lang/String" "coder" "B" (.int (1 : Int32)) := f_15.other W_19 (Or.inl (ne_exa f_13 f_7 (by decide)))
  have f_29 : Arv Z h_19 rb kr .byte ((1 : Int32) <<< ((1 : Int32) &&& 31)) (U2 ds) (.int (0 : Int32)) := f_16.other W_19 (Ne.symm (f_7.neArv f_16 (wdOf hw 10 rfl)))
  have f_30 : Arv Z h_19 ba kb .byte (32 : Int32) (U2 (cs ++ ds)) (.int (0 : Int32)) := V_5.other W_19 (Ne.symm (f_7.neArv V_5 (wdOf hw 10 rfl)))
  have K_31 : Keep h0 h_19 [ax, ba] := K_17.wr W_19 (Or.inl (List.mem_of_getElem? (i := 0) rfl))
  have y_31 : n0 ≤ h_19.size := Nat.le_trans Z0 K_31.1
  refine Goes.go (U' := (T_19.setTop (mkF m 43 #[sR_ ax, sR_ r, sI_ (1 : Int32)] []))) st_19 ?_
  refine Goes.go (U' := (T_19.setTop (mkF m 44 #[sR_ ax, sR_ r, sI_ (1 : Int32)] [(.ref ax)]))) (fun t kt => ?_) ?_
  · skip
    refine XS.aloadN X_19.here hx rfl (hb hby d_rm_ap111_43) rfl rfl ?_
    exact kt
  refine Goes.retA X_19 hx hlk hret rfl rfl (hb hby d_rm_ap111_44) (by decide) (by decide) ?_
  try rw [e_19]
  exact ⟨_, _, rfl, N_19, K_31, o1, f_21, f_22, f_23, f_24, f_25, f_30⟩
theorem d_rm_sap111_0 : decode jdk_67_method_7_code 0 = .ok (.aload_n 0, 1) := by decide +kernel
theorem d_rm_sap111_1 : decode jdk_67_method_7_code 1 = .ok (.aload_n 1, 1) := by decide +kernel
theorem d_rm_sap111_2 : decode jdk_67_method_7_code 2 = .ok (.invokespecial 29, 3) := by decide +kernel
theorem d_rm_sap111_5 : decode jdk_67_method_7_code 5 = .ok (.pop, 1) := by decide +kernel
theorem d_rm_sap111_6 : decode jdk_67_method_7_code 6 = .ok (.aload_n 0, 1) := by decide +kernel
theorem d_rm_sap111_7 : decode jdk_67_method_7_code 7 = .ok (.areturn, 1) := by decide +kernel
set_option maxHeartbeats 4000000 in
theorem ef_rm_sap111 (m : MethodId) (x0 : Addr) (x1 : Addr)  : entryFrame m #[(.ref x0), (.ref x1)] 2 = mkF m 0 #[.val (.ref x0), .val (.ref x1)] [] := by first | (simp [entryFrame, mkF, argsToLocals, catR, catN, catI, catJ]; done) | rfl
set_option maxRecDepth 65536 in
set_option maxHeartbeats 40000000 in
theorem rm_sap111 (l : Launch) (Z : State) (a0 : Array Value) (hw : ∀ d ∈ tables_1, d.before a0 Z = true) (ws : List Jvm.Cond) (kc : Int32) (sx : Value) (ax ba r rb : Addr) (kb kr : ClassId) (pn : Int32) (cs ds : List Int32) (h0 : Heap) (n0 : Nat) (Z0 : n0 ≤ h0.size) (G : Stt Z kc sx) (O : Old Z n0 h0) (E1 : Exa Z h0 ax "java/lang/StringBuilder") (F1_value : Fld Z h0 ax "java/lang/AbstractStringBuilder" "value" "[B" (.ref ba)) (F1_coder : Fld Z h0 ax "java/lang/AbstractStringBuilder" "coder" "B" (.int (1 : Int32))) (F1_count : Fld Z h0 ax "java/lang/AbstractStringBuilder" "count" "I" (.int pn)) (F1_maybeLatin1 : Fld Z h0 ax "java/lang/AbstractStringBuilder" "maybeLatin1" "Z" (.int (0 : Int32))) (V1 : Arv Z h0 ba kb .byte (32 : Int32) (U2 cs) (.int (0 : Int32))) (E2 : Exa Z h0 r "java/lang/String") (F2_value : Fld Z h0 r "java/lang/String" "value" "[B" (.ref rb)) (F2_coder : Fld Z h0 r "java/lang/String" "coder" "B" (.int (1 : Int32))) (V2 : Arv Z h0 rb kr .byte ((1 : Int32) <<< ((1 : Int32) &&& 31)) (U2 ds) (.int (0 : Int32))) (o0 : n0 ≤ ax) (o1 : n0 ≤ ba) (nb : rb ≠ ba) (hz : Sz (1 : Int32) ds.length) (hp : Sz pn cs.length) (hle : cs.length ≤ 2) (hlc : ∀ c ∈ cs, Ch c) (hld : ∀ c ∈ ds, Ch c) :
    Pays l Z (⟨"java/lang/StringBuilder", "append", "(Ljava/lang/String;)Ljava/lang/StringBuilder;"⟩ : MethodName) jdk_67_method_7_code 2 (some (.object "java/lang/StringBuilder")) ws ({ frames := 4, cells := 0, slots := 0, locals := 61 } : Room) #[(.ref ax), (.ref r)] h0 (fun v h L => ∃ b k, v = some (.ref ax) ∧ Fr n0 L ∧ Keep h0 h [ax, ba] ∧ n0 ≤ b ∧ Exa Z h ax "java/lang/StringBuilder" ∧ Fld Z h ax "java/lang/AbstractStringBuilder" "value" "[B" (.ref b) ∧ Fld Z h ax "java/lang/AbstractStringBuilder" "coder" "B" (.int (1 : Int32)) ∧ Fld Z h ax "java/lang/AbstractStringBuilder" "count" "I" (.int (pn + (1 : Int32))) ∧ Fld Z h ax "java/lang/AbstractStringBuilder" "maybeLatin1" "Z" (.int (0 : Int32)) ∧ Arv Z h b k .byte (32 : Int32) (U2 (cs ++ ds)) (.int (0 : Int32))) := by
  refine Pays.of (plainFor_of_name (by first | (simp [plainName, overriddenIn]; done) | decide +kernel)) ?_
  intro p e s m below meth c s₁ hx hby hml hown hnm hret hlk hZ e0 X0
  have N0 := Fr.nil n0
  have K0 : Keep h0 h0 [ax, ba] := Keep.refl _ _
  refine Goes.go (U' := (s₁.setTop (mkF m 0 #[sR_ ax, sR_ r] []))) (fun t kt => castTop (ef_rm_sap111 m ax r) kt) ?_
  refine Goes.go (U' := (s₁.setTop (mkF m 2 #[sR_ ax, sR_ r] [(.ref r), (.ref ax)]))) (fun t kt => ?_) ?_
  · skip
    refine XS.aloadN X0.here hx rfl (hb hby d_rm_sap111_0) rfl rfl ?_
    refine XS.aloadN X0.here hx rfl (hb hby d_rm_sap111_1) rfl rfl ?_
    exact kt
  obtain ⟨v_1, T_1, L_1, X_1, q_1, st_1⟩ := callSuper X0 hx hZ (y := (⟨"java/lang/AbstractStringBuilder", "append", "(Ljava/lang/String;)Ljava/lang/AbstractStringBuilder;"⟩ : MethodName)) (W := 0) (by decide) hown (wdOf hw 63 rfl) (sameOf (wdOf hw 83 rfl) rfl (wdOf hw 64 rfl) (by decide)) (wdOf hw 64 rfl) (wdOf hw 65 rfl) (wdOf hw 19 rfl) (wdOf hw 67 rfl) (rm_ap111 l Z a0 hw [] kc sx ax ba r rb kb kr pn cs ds h0 n0 Z0 G O E1 F1_value F1_coder F1_count F1_maybeLatin1 V1 E2 F2_value F2_coder V2 o0 o1 nb hz hp hle hlc hld) (by decide) (by decide) (by decide) (by decide) e0 (Ins.self E1) (g := (mkF m 2 #[sR_ ax, sR_ r] [(.ref r), (.ref ax)])) rfl (by rw [hml]; rfl) (argsL := [(.ref r)]) (rest := []) (lenOf pd_27 rfl) rfl rfl (Nat.le_refl _) (hb hby d_rm_sap111_2)
  obtain ⟨b_1, k_1, rfl, n_1, K_1, o_1, EQ_1, FQ_1_value, FQ_1_coder, FQ_1_count, FQ_1_maybeLatin1, VQ_1⟩ := q_1
  have N_1 := Fr.app N0 n_1
  have f_2 : Old Z n0 T_1.heap := O.keep K_1 (allS o0 (allS o1 all0))
  have K_3 : Keep h0 T_1.heap [ax, ba] := K0.trans K_1 (allS (P := fun x => x ∈ [ax, ba] ∨ h0.size ≤ x) (Or.inl (List.mem_of_getElem? (i := 0) rfl)) (allS (P := fun x => x ∈ [ax, ba] ∨ h0.size ≤ x) (Or.inl (List.mem_of_getElem? (i := 1) rfl)) all0))
  have y_3 : n0 ≤ T_1.heap.size := Nat.le_trans Z0 K_3.1
  refine Goes.go (U' := (T_1.setTop (mkF m 5 #[sR_ ax, sR_ r] [(.ref ax)]))) st_1 ?_
  refine Goes.go (U' := (T_1.setTop (mkF m 7 #[sR_ ax, sR_ r] [(.ref ax)]))) (fun t kt => ?_) ?_
  · skip
    refine XS.pop X_1.here hx rfl (hb hby d_rm_sap111_5) rfl rfl ?_
    refine XS.aloadN X_1.here hx rfl (hb hby d_rm_sap111_6) rfl rfl ?_
    exact kt
  refine Goes.retA X_1 hx hlk hret rfl rfl (hb hby d_rm_sap111_7) (by decide) (by decide) ?_
  try rw [(rfl : T_1.heap = T_1.heap)]
  exact ⟨_, _, rfl, N_1, K_3, o_1, EQ_1, FQ_1_value, FQ_1_coder, FQ_1_count, FQ_1_maybeLatin1, VQ_1⟩
theorem d_rm_ap0024_0 : decode jdk_68_method_22_code 0 = .ok (.aload_n 1, 1) := by decide +kernel
theorem d_rm_ap0024_1 : decode jdk_68_method_22_code 1 = .ok (.ifnonnull 8, 3) := by decide +kernel
theorem d_rm_ap0024_9 : decode jdk_68_method_22_code 9 = .ok (.aload_n 1, 1) := by decide +kernel
theorem d_rm_ap0024_10 : decode jdk_68_method_22_code 10 = .ok (.invokevirtual 32, 3) := by decide +kernel
theorem d_rm_ap0024_13 : decode jdk_68_method_22_code 13 = .ok (.istore_n 2, 1) := by decide +kernel
theorem d_rm_ap0024_14 : decode jdk_68_method_22_code 14 = .ok (.aload_n 0, 1) := by decide +kernel
theorem d_rm_ap0024_15 : decode jdk_68_method_22_code 15 = .ok (.aload_n 0, 1) := by decide +kernel
theorem d_rm_ap0024_16 : decode jdk_68_method_22_code 16 = .ok (.getfield 79, 3) := by decide +kernel
theorem d_rm_ap0024_19 : decode jdk_68_method_22_code 19 = .ok (.iload_n 2, 1) := by decide +kernel
theorem d_rm_ap0024_20 : decode jdk_68_method_22_code 20 = .ok (.iadd, 1) := by decide +kernel
theorem d_rm_ap0024_21 : decode jdk_68_method_22_code 21 = .ok (.invokevirtual 100, 3) := by decide +kernel
theorem d_rm_ap0024_24 : decode jdk_68_method_22_code 24 = .ok (.aload_n 0, 1) := by decide +kernel
theorem d_rm_ap0024_25 : decode jdk_68_method_22_code 25 = .ok (.aload_n 0, 1) := by decide +kernel
theorem d_rm_ap0024_26 : decode jdk_68_method_22_code 26 = .ok (.getfield 79, 3) := by decide +kernel
theorem d_rm_ap0024_29 : decode jdk_68_method_22_code 29 = .ok (.aload_n 1, 1) := by decide +kernel
theorem d_rm_ap0024_30 : decode jdk_68_method_22_code 30 = .ok (.invokevirtual 208, 3) := by decide +kernel
theorem d_rm_ap0024_33 : decode jdk_68_method_22_code 33 = .ok (.aload_n 0, 1) := by decide +kernel
theorem d_rm_ap0024_34 : decode jdk_68_method_22_code 34 = .ok (.dup, 1) := by decide +kernel
theorem d_rm_ap0024_35 : decode jdk_68_method_22_code 35 = .ok (.getfield 79, 3) := by decide +kernel
theorem d_rm_ap0024_38 : decode jdk_68_method_22_code 38 = .ok (.iload_n 2, 1) := by decide +kernel
theorem d_rm_ap0024_39 : decode jdk_68_method_22_code 39 = .ok (.iadd, 1) := by decide +kernel
theorem d_rm_ap0024_40 : decode jdk_68_method_22_code 40 = .ok (.putfield 79, 3) := by decide +kernel
theorem d_rm_ap0024_43 : decode jdk_68_method_22_code 43 = .ok (.aload_n 0, 1) := by decide +kernel
theorem d_rm_ap0024_44 : decode jdk_68_method_22_code 44 = .ok (.areturn, 1) := by decide +kernel
set_option maxHeartbeats 4000000 in
theorem ef_rm_ap0024 (m : MethodId) (x0 : Addr) (x1 : Addr)  : entryFrame m #[(.ref x0), (.ref x1)] 3 = mkF m 0 #[.val (.ref x0), .val (.ref x1), .unset] [] := by first | (simp [entryFrame, mkF, argsToLocals, catR, catN, catI, catJ]; done) | rfl
set_option maxRecDepth 65536 in
set_option maxHeartbeats 40000000 in
theorem rm_ap0024 (l : Launch) (Z : State) (a0 : Array Value) (hw : ∀ d ∈ tables_1, d.before a0 Z = true) (ws : List Jvm.Cond) (kc : Int32) (sx : Value) (ax ba r rb : Addr) (kb kr : ClassId) (pn : Int32) (cs ds : List Int32) (h0 : Heap) (n0 : Nat) (Z0 : n0 ≤ h0.size) (G : Stt Z kc sx) (O : Old Z n0 h0) (E1 : Exa Z h0 ax "java/lang/StringBuilder") (F1_value : Fld Z h0 ax "java/lang/AbstractStringBuilder" "value" "[B" (.ref ba)) (F1_coder : Fld Z h0 ax "java/lang/AbstractStringBuilder" "coder" "B" (.int (0 : Int32))) (F1_count : Fld Z h0 ax "java/lang/AbstractStringBuilder" "count" "I" (.int pn)) (F1_maybeLatin1 : Fld Z h0 ax "java/lang/AbstractStringBuilder" "maybeLatin1" "Z" (.int (0 : Int32))) (V1 : Arv Z h0 ba kb .byte (16 : Int32) (L1 cs) (.int (0 : Int32))) (E2 : Exa Z h0 r "java/lang/String") (F2_value : Fld Z h0 r "java/lang/String" "value" "[B" (.ref rb)) (F2_coder : Fld Z h0 r "java/lang/String" "coder" "B" (.int (0 : Int32))) (V2 : Arv Z h0 rb kr .byte (24 : Int32) (L1 ds) (.int (0 : Int32))) (o0 : n0 ≤ ax) (o1 : n0 ≤ ba) (nb : rb ≠ ba) (hz : Sz (24 : Int32) ds.length) (hp : Sz pn cs.length) (hle : cs.length ≤ 3) (hlc : ∀ c ∈ cs, Lc c) (hld : ∀ c ∈ ds, Lc c) :
    Pays l Z (⟨"java/lang/AbstractStringBuilder", "append", "(Ljava/lang/String;)Ljava/lang/AbstractStringBuilder;"⟩ : MethodName) jdk_68_method_22_code 3 (some (.object "java/lang/AbstractStringBuilder")) ws ({ frames := 4, cells := 1, slots := 68, locals := 62 } : Room) #[(.ref ax), (.ref r)] h0 (fun v h L => ∃ b k, v = some (.ref ax) ∧ Fr n0 L ∧ Keep h0 h [ax] ∧ n0 ≤ b ∧ Exa Z h ax "java/lang/StringBuilder" ∧ Fld Z h ax "java/lang/AbstractStringBuilder" "value" "[B" (.ref b) ∧ Fld Z h ax "java/lang/AbstractStringBuilder" "coder" "B" (.int (0 : Int32)) ∧ Fld Z h ax "java/lang/AbstractStringBuilder" "count" "I" (.int (pn + (24 : Int32))) ∧ Fld Z h ax "java/lang/AbstractStringBuilder" "maybeLatin1" "Z" (.int (0 : Int32)) ∧ Arv Z h b k .byte (34 : Int32) (L1 (cs ++ ds)) (.int (0 : Int32))) := by
  refine Pays.of (plainFor_of_name (by first | (simp [plainName, overriddenIn]; done) | decide +kernel)) ?_
  intro p e s m below meth c s₁ hx hby hml hown hnm hret hlk hZ e0 X0
  have N0 := Fr.nil n0
  have K0 : Keep h0 h0 [ax] := Keep.refl _ _
  refine Goes.go (U' := (s₁.setTop (mkF m 0 #[sR_ ax, sR_ r, sU_] []))) (fun t kt => castTop (ef_rm_ap0024 m ax r) kt) ?_
  have hp4 := hp.four (Nat.le_trans hle (by decide))
  have hd1 : ds.length = 24 := by have := hz.nat; rw [← this]; rfl
  refine Goes.go (U' := (s₁.setTop (mkF m 10 #[sR_ ax, sR_ r, sU_] [(.ref r)]))) (fun t kt => ?_) ?_
  · skip
    refine XS.aloadN X0.here hx rfl (hb hby d_rm_ap0024_0) rfl rfl ?_
    refine XS.ifnonnullYes X0.here hx rfl (pc0 := 1) (pc' := 9) rfl (hb hby d_rm_ap0024_1) rfl (by decide) (by decide) ?_
    refine XS.aloadN X0.here hx rfl (hb hby d_rm_ap0024_9) rfl rfl ?_
    exact kt
  obtain ⟨v_1, T_1, L_1, X_1, q_1, st_1⟩ := callVirtual X0 hx hZ (y := (⟨"java/lang/String", "length", "()I"⟩ : MethodName)) (z := (⟨"java/lang/String", "length", "()I"⟩ : MethodName)) (W := 0) hown (wdOf hw 68 rfl) (wdOf hw 69 rfl) (notFace_of_selects (args := #[]) (mvT hZ (wdOf hw 71 rfl))) (wdOf hw 71 rfl) (wdOf hw 70 rfl) (wdOf hw 23 rfl) (wdOf hw 72 rfl) (by decide) (rm_ln l Z a0 hw [] kc sx r rb (24 : Int32) ds h0 n0 Z0 G O ⟨hz, Or.inl ⟨⟨_, E2, F2_value, F2_coder, V2⟩, hld⟩⟩) (by decide) (by decide) (by decide) (by decide) e0 E2 (g := (mkF m 10 #[sR_ ax, sR_ r, sU_] [(.ref r)])) rfl (by rw [hml]; rfl) (argsL := []) (rest := []) (lenOf pd_24 rfl) rfl rfl (Nat.le_refl _) (hb hby d_rm_ap0024_10)
  obtain ⟨rfl, n_1, K_1⟩ := q_1
  have N_1 := Fr.app N0 n_1
  refine Goes.go (U' := (T_1.setTop (mkF m 13 #[sR_ ax, sR_ r, sU_] [(.int (24 : Int32))]))) st_1 ?_
  refine Goes.go (U' := (T_1.setTop (mkF m 16 #[sR_ ax, sR_ r, sI_ (24 : Int32)] [(.ref ax), (.ref ax)]))) (fun t kt => ?_) ?_
  · skip
    refine XS.istoreN X_1.here hx rfl (hb hby d_rm_ap0024_13) rfl (l' := #[sR_ ax, sR_ r, sI_ (24 : Int32)]) rfl ?_
    refine XS.aloadN X_1.here hx rfl (hb hby d_rm_ap0024_14) rfl rfl ?_
    refine XS.aloadN X_1.here hx rfl (hb hby d_rm_ap0024_15) rfl rfl ?_
    exact kt
  obtain ⟨T_2, X_2, e_2, st_2⟩ := getF X_1 hx hZ hown (host := "") (Or.inl (wdOf hw 78 rfl)) Via.refl K_1 F1_count (g := (mkF m 16 #[sR_ ax, sR_ r, sI_ (24 : Int32)] [(.ref ax), (.ref ax)])) rfl rfl (hb hby d_rm_ap0024_16)
  refine Goes.go (U' := (T_2.setTop (mkF m 19 #[sR_ ax, sR_ r, sI_ (24 : Int32)] [(.int pn), (.ref ax)]))) st_2 ?_
  refine Goes.go (U' := (T_2.setTop (mkF m 21 #[sR_ ax, sR_ r, sI_ (24 : Int32)] [(.int (pn + (24 : Int32))), (.ref ax)]))) (fun t kt => ?_) ?_
  · skip
    refine XS.iloadN X_2.here hx rfl (hb hby d_rm_ap0024_19) rfl ?_
    refine XS.iadd X_2.here hx rfl (hb hby d_rm_ap0024_20) rfl ?_
    exact kt
  obtain ⟨v_3, T_3, L_3, X_3, q_3, st_3⟩ := callPrivSel X_2 hx hZ (y := (⟨"java/lang/AbstractStringBuilder", "ensureCapacityInternal", "(I)V"⟩ : MethodName)) (W := 0) hown (wdOf hw 80 rfl) (wdOf hw 81 rfl) (wdOf hw 82 rfl) (wdOf hw 83 rfl) (wdOf hw 19 rfl) (wdOf hw 84 rfl) (by decide) (rm_ec10 l Z a0 hw [] kc sx ax ba kb (pn + (24 : Int32)) pn cs h0 n0 Z0 G O E1 F1_value F1_coder F1_count F1_maybeLatin1 V1 o0 (by rcases hp4 with rfl | rfl | rfl | rfl <;> decide) (by rcases hp4 with rfl | rfl | rfl | rfl <;> decide) hle) (by decide) (by decide) (by decide) (by decide) e_2 E1 (g := (mkF m 21 #[sR_ ax, sR_ r, sI_ (24 : Int32)] [(.int (pn + (24 : Int32))), (.ref ax)])) rfl (by rw [hml]; rfl) (argsL := [(.int (pn + (24 : Int32)))]) (rest := []) (lenOf pd_25 rfl) rfl rfl (Nat.le_refl _) (hb hby d_rm_ap0024_21)
  obtain ⟨b_3, k_3, rfl, n_3, K_3, z_3, EQ_3, FQ_3_value, FQ_3_coder, FQ_3_count, FQ_3_maybeLatin1, VQ_3⟩ := q_3
  have ne_4 : ax ≠ b_3 := Nat.ne_of_lt (Nat.lt_of_lt_of_le E1.lt z_3)
  have ne_5 : ba ≠ b_3 := Nat.ne_of_lt (Nat.lt_of_lt_of_le V1.lt z_3)
  have ne_6 : r ≠ b_3 := Nat.ne_of_lt (Nat.lt_of_lt_of_le E2.lt z_3)
  have ne_7 : rb ≠ b_3 := Nat.ne_of_lt (Nat.lt_of_lt_of_le V2.lt z_3)
  have o_8 : n0 ≤ b_3 := Nat.le_trans Z0 z_3
  have z_9 : h0.size ≤ b_3 := Nat.le_trans K0.1 z_3
  have N_3 := Fr.app N_1 n_3
  have f_10 : Old Z n0 T_3.heap := O.keep K_3 (allS o0 all0)
  have f_11 : Exa Z T_3.heap ax "java/lang/StringBuilder" := E1.keep K_3
  have f_12 : Exa Z T_3.heap r "java/lang/String" := E2.keep K_3
  have f_13 : Fld Z T_3.heap r "java/lang/String" "value" "[B" (.ref rb) := F2_value.keep K_3 (ninS (ne_exa E2 E1 (by decide)) nin0)
  have f_14 : Fld Z T_3.heap r "java/lang/String" "coder" "B" (.int (0 : Int32)) := F2_coder.keep K_3 (ninS (ne_exa E2 E1 (by decide)) nin0)
  have f_15 : Arv Z T_3.heap rb kr .byte (24 : Int32) (L1 ds) (.int (0 : Int32)) := V2.keep K_3 (ninS (Ne.symm (E1.neArv V2 (wdOf hw 10 rfl))) nin0)
  have K_16 : Keep h0 T_3.heap [ax] := K0.trans K_3 (allS (P := fun x => x ∈ [ax] ∨ h0.size ≤ x) (Or.inl (List.mem_of_getElem? (i := 0) rfl)) all0)
  have y_16 : n0 ≤ T_3.heap.size := Nat.le_trans Z0 K_16.1
  refine Goes.go (U' := (T_3.setTop (mkF m 24 #[sR_ ax, sR_ r, sI_ (24 : Int32)] []))) st_3 ?_
  refine Goes.go (U' := (T_3.setTop (mkF m 26 #[sR_ ax, sR_ r, sI_ (24 : Int32)] [(.ref ax), (.ref ax)]))) (fun t kt => ?_) ?_
  · skip
    refine XS.aloadN X_3.here hx rfl (hb hby d_rm_ap0024_24) rfl rfl ?_
    refine XS.aloadN X_3.here hx rfl (hb hby d_rm_ap0024_25) rfl rfl ?_
    exact kt
  obtain ⟨T_17, X_17, e_17, st_17⟩ := getF X_3 hx hZ hown (host := "") (Or.inl (wdOf hw 78 rfl)) Via.refl (rfl : T_3.heap = T_3.heap) FQ_3_count (g := (mkF m 26 #[sR_ ax, sR_ r, sI_ (24 : Int32)] [(.ref ax), (.ref ax)])) rfl rfl (hb hby d_rm_ap0024_26)
  refine Goes.go (U' := (T_17.setTop (mkF m 29 #[sR_ ax, sR_ r, sI_ (24 : Int32)] [(.int pn), (.ref ax)]))) st_17 ?_
  refine Goes.go (U' := (T_17.setTop (mkF m 30 #[sR_ ax, sR_ r, sI_ (24 : Int32)] [(.ref r), (.int pn), (.ref ax)]))) (fun t kt => ?_) ?_
  · skip
    refine XS.aloadN X_17.here hx rfl (hb hby d_rm_ap0024_29) rfl rfl ?_
    exact kt
  obtain ⟨v_18, T_18, L_18, X_18, q_18, st_18⟩ := callPrivSel X_17 hx hZ (y := (⟨"java/lang/AbstractStringBuilder", "putStringAt", "(ILjava/lang/String;)V"⟩ : MethodName)) (W := 0) hown (wdOf hw 85 rfl) (wdOf hw 86 rfl) (wdOf hw 87 rfl) (wdOf hw 88 rfl) (wdOf hw 19 rfl) (wdOf hw 89 rfl) (by decide) (rm_ps00 l Z a0 hw [] kc sx ax b_3 r rb k_3 kr pn (24 : Int32) (34 : Int32) cs ds T_3.heap n0 y_16 G f_10 f_11 FQ_3_value FQ_3_coder FQ_3_count FQ_3_maybeLatin1 VQ_3 f_12 f_13 f_14 f_15 o_8 ne_7 hz hp (by rw [hd1]; have : (34 : Int32).toNatClampNeg = 34 := rfl; omega)) (by decide) (by decide) (by decide) (by decide) e_17 f_11 (g := (mkF m 30 #[sR_ ax, sR_ r, sI_ (24 : Int32)] [(.ref r), (.int pn), (.ref ax)])) rfl (by rw [hml]; rfl) (argsL := [(.int pn), (.ref r)]) (rest := []) (lenOf pd_26 rfl) rfl rfl (Nat.le_refl _) (hb hby d_rm_ap0024_30)
  obtain ⟨rfl, n_18, K_18, V_18⟩ := q_18
  have N_18 := Fr.app N_3 n_18
  have f_19 : Old Z n0 T_18.heap := f_10.keep K_18 (allS o_8 all0)
  have f_20 : Exa Z T_18.heap ax "java/lang/StringBuilder" := f_11.keep K_18
  have f_21 : Exa Z T_18.heap r "java/lang/String" := f_12.keep K_18
  have f_22 : Fld Z T_18.heap r "java/lang/String" "value" "[B" (.ref rb) := f_13.keep K_18 (ninS ne_6 nin0)
  have f_23 : Fld Z T_18.heap r "java/lang/String" "coder" "B" (.int (0 : Int32)) := f_14.keep K_18 (ninS ne_6 nin0)
  have f_24 : Arv Z T_18.heap rb kr .byte (24 : Int32) (L1 ds) (.int (0 : Int32)) := f_15.keep K_18 (ninS ne_7 nin0)
  have f_25 : Fld Z T_18.heap ax "java/lang/AbstractStringBuilder" "value" "[B" (.ref b_3) := FQ_3_value.keep K_18 (ninS ne_4 nin0)
  have f_26 : Fld Z T_18.heap ax "java/lang/AbstractStringBuilder" "coder" "B" (.int (0 : Int32)) := FQ_3_coder.keep K_18 (ninS ne_4 nin0)
  have f_27 : Fld Z T_18.heap ax "java/lang/AbstractStringBuilder" "count" "I" (.int pn) := FQ_3_count.keep K_18 (ninS ne_4 nin0)
  have f_28 : Fld Z T_18.heap ax "java/lang/AbstractStringBuilder" "maybeLatin1" "Z" (.int (0 : Int32)) := FQ_3_maybeLatin1.keep K_18 (ninS ne_4 nin0)
  have K_30 : Keep h0 T_18.heap [ax] := K_16.trans K_18 (allS (P := fun x => x ∈ [ax] ∨ h0.size ≤ x) (Or.inr z_9) all0)
  have y_30 : n0 ≤ T_18.heap.size := Nat.le_trans Z0 K_30.1
  refine Goes.go (U' := (T_18.setTop (mkF m 33 #[sR_ ax, sR_ r, sI_ (24 : Int32)] []))) st_18 ?_
  refine Goes.go (U' := (T_18.setTop (mkF m 35 #[sR_ ax, sR_ r, sI_ (24 : Int32)] [(.ref ax), (.ref ax)]))) (fun t kt => ?_) ?_
  · skip
    refine XS.aloadN X_18.here hx rfl (hb hby d_rm_ap0024_33) rfl rfl ?_
    refine XS.dup X_18.here hx rfl (hb hby d_rm_ap0024_34) rfl rfl ?_
    exact kt
  obtain ⟨T_31, X_31, e_31, st_31⟩ := getF X_18 hx hZ hown (host := "") (Or.inl (wdOf hw 78 rfl)) Via.refl (rfl : T_18.heap = T_18.heap) f_27 (g := (mkF m 35 #[sR_ ax, sR_ r, sI_ (24 : Int32)] [(.ref ax), (.ref ax)])) rfl rfl (hb hby d_rm_ap0024_35)
  refine Goes.go (U' := (T_31.setTop (mkF m 38 #[sR_ ax, sR_ r, sI_ (24 : Int32)] [(.int pn), (.ref ax)]))) st_31 ?_
  refine Goes.go (U' := (T_31.setTop (mkF m 40 #[sR_ ax, sR_ r, sI_ (24 : Int32)] [(.int (pn + (24 : Int32))), (.ref ax)]))) (fun t kt => ?_) ?_
  · skip
    refine XS.iloadN X_31.here hx rfl (hb hby d_rm_ap0024_38) rfl ?_
    refine XS.iadd X_31.here hx rfl (hb hby d_rm_ap0024_39) rfl ?_
    exact kt
  obtain ⟨T_32, h_32, X_32, e_32, W_32, st_32⟩ := putF X_31 hx hZ hown (host := "") (Or.inl (wdOf hw 78 rfl)) Via.refl e_31 f_27 f_20 (Or.inl (wdOf hw 79 rfl)) (wdOf hw 10 rfl) (ty := .int) (by decide) rfl rfl (g := (mkF m 40 #[sR_ ax, sR_ r, sI_ (24 : Int32)] [(.int (pn + (24 : Int32))), (.ref ax)])) rfl rfl (hb hby d_rm_ap0024_40)
  have N_32 := Fr.snoc X_32 N_18 o0
  have f_33 : Old Z n0 h_32 := f_19.wr W_32 o0
  have f_34 : Exa Z h_32 ax "java/lang/StringBuilder" := f_20.wr W_32
  have f_35 : Exa Z h_32 r "java/lang/String" := f_21.wr W_32
  have f_36 : Fld Z h_32 r "java/lang/String" "value" "[B" (.ref rb) := f_22.other W_32 (Or.inl (ne_exa f_21 f_20 (by decide)))
  have f_37 : Fld Z h_32 r "java/lang/String" "coder" "B" (.int (0 : Int32)) := f_23.other W_32 (Or.inl (ne_exa f_21 f_20 (by decide)))
  have f_38 : Arv Z h_32 rb kr .byte (24 : Int32) (L1 ds) (.int (0 : Int32)) := f_24.other W_32 (Ne.symm (f_20.neArv f_24 (wdOf hw 10 rfl)))
  have f_39 : Fld Z h_32 ax "java/lang/AbstractStringBuilder" "value" "[B" (.ref b_3) := f_25.other W_32 (Or.inr (slot_ne (Or.inl (wdOf hw 26 rfl)) (Or.inl (wdOf hw 79 rfl)) (by decide) (t := (.array .byte)) (t' := .int) (by decide) (by decide)))
  have f_40 : Fld Z h_32 ax "java/lang/AbstractStringBuilder" "coder" "B" (.int (0 : Int32)) := f_26.other W_32 (Or.inr (slot_ne (Or.inl (wdOf hw 28 rfl)) (Or.inl (wdOf hw 79 rfl)) (by decide) (t := .byte) (t' := .int) (by decide) (by decide)))
  have f_41 : Fld Z h_32 ax "java/lang/AbstractStringBuilder" "count" "I" (.int (pn + (24 : Int32))) := f_27.same W_32
  have f_42 : Fld Z h_32 ax "java/lang/AbstractStringBuilder" "maybeLatin1" "Z" (.int (0 : Int32)) := f_28.other W_32 (Or.inr (slot_ne (Or.inl (wdOf hw 245 rfl)) (Or.inl (wdOf hw 79 rfl)) (by decide) (t := .boolean) (t' := .int) (by decide) (by decide)))
  have f_43 : Arv Z h_32 b_3 k_3 .byte (34 : Int32) (L1 (cs ++ ds)) (.int (0 : Int32)) := V_18.other W_32 (Ne.symm ne_4)
  have K_44 : Keep h0 h_32 [ax] := K_30.wr W_32 (Or.inl (List.mem_of_getElem? (i := 0) rfl))
  have y_44 : n0 ≤ h_32.size := Nat.le_trans Z0 K_44.1
  refine Goes.go (U' := (T_32.setTop (mkF m 43 #[sR_ ax, sR_ r, sI_ (24 : Int32)] []))) st_32 ?_
  refine Goes.go (U' := (T_32.setTop (mkF m 44 #[sR_ ax, sR_ r, sI_ (24 : Int32)] [(.ref ax)]))) (fun t kt => ?_) ?_
  · skip
    refine XS.aloadN X_32.here hx rfl (hb hby d_rm_ap0024_43) rfl rfl ?_
    exact kt
  refine Goes.retA X_32 hx hlk hret rfl rfl (hb hby d_rm_ap0024_44) (by decide) (by decide) ?_
  try rw [e_32]
  exact ⟨_, _, rfl, N_32, K_44, o_8, f_34, f_39, f_40, f_41, f_42, f_43⟩
theorem d_rm_sap0024_0 : decode jdk_67_method_7_code 0 = .ok (.aload_n 0, 1) := by decide +kernel
theorem d_rm_sap0024_1 : decode jdk_67_method_7_code 1 = .ok (.aload_n 1, 1) := by decide +kernel
theorem d_rm_sap0024_2 : decode jdk_67_method_7_code 2 = .ok (.invokespecial 29, 3) := by decide +kernel
theorem d_rm_sap0024_5 : decode jdk_67_method_7_code 5 = .ok (.pop, 1) := by decide +kernel
theorem d_rm_sap0024_6 : decode jdk_67_method_7_code 6 = .ok (.aload_n 0, 1) := by decide +kernel
theorem d_rm_sap0024_7 : decode jdk_67_method_7_code 7 = .ok (.areturn, 1) := by decide +kernel
set_option maxHeartbeats 4000000 in
theorem ef_rm_sap0024 (m : MethodId) (x0 : Addr) (x1 : Addr)  : entryFrame m #[(.ref x0), (.ref x1)] 2 = mkF m 0 #[.val (.ref x0), .val (.ref x1)] [] := by first | (simp [entryFrame, mkF, argsToLocals, catR, catN, catI, catJ]; done) | rfl
set_option maxRecDepth 65536 in
set_option maxHeartbeats 40000000 in
theorem rm_sap0024 (l : Launch) (Z : State) (a0 : Array Value) (hw : ∀ d ∈ tables_1, d.before a0 Z = true) (ws : List Jvm.Cond) (kc : Int32) (sx : Value) (ax ba r rb : Addr) (kb kr : ClassId) (pn : Int32) (cs ds : List Int32) (h0 : Heap) (n0 : Nat) (Z0 : n0 ≤ h0.size) (G : Stt Z kc sx) (O : Old Z n0 h0) (E1 : Exa Z h0 ax "java/lang/StringBuilder") (F1_value : Fld Z h0 ax "java/lang/AbstractStringBuilder" "value" "[B" (.ref ba)) (F1_coder : Fld Z h0 ax "java/lang/AbstractStringBuilder" "coder" "B" (.int (0 : Int32))) (F1_count : Fld Z h0 ax "java/lang/AbstractStringBuilder" "count" "I" (.int pn)) (F1_maybeLatin1 : Fld Z h0 ax "java/lang/AbstractStringBuilder" "maybeLatin1" "Z" (.int (0 : Int32))) (V1 : Arv Z h0 ba kb .byte (16 : Int32) (L1 cs) (.int (0 : Int32))) (E2 : Exa Z h0 r "java/lang/String") (F2_value : Fld Z h0 r "java/lang/String" "value" "[B" (.ref rb)) (F2_coder : Fld Z h0 r "java/lang/String" "coder" "B" (.int (0 : Int32))) (V2 : Arv Z h0 rb kr .byte (24 : Int32) (L1 ds) (.int (0 : Int32))) (o0 : n0 ≤ ax) (o1 : n0 ≤ ba) (nb : rb ≠ ba) (hz : Sz (24 : Int32) ds.length) (hp : Sz pn cs.length) (hle : cs.length ≤ 3) (hlc : ∀ c ∈ cs, Lc c) (hld : ∀ c ∈ ds, Lc c) :
    Pays l Z (⟨"java/lang/StringBuilder", "append", "(Ljava/lang/String;)Ljava/lang/StringBuilder;"⟩ : MethodName) jdk_67_method_7_code 2 (some (.object "java/lang/StringBuilder")) ws ({ frames := 5, cells := 1, slots := 68, locals := 76 } : Room) #[(.ref ax), (.ref r)] h0 (fun v h L => ∃ b k, v = some (.ref ax) ∧ Fr n0 L ∧ Keep h0 h [ax] ∧ n0 ≤ b ∧ Exa Z h ax "java/lang/StringBuilder" ∧ Fld Z h ax "java/lang/AbstractStringBuilder" "value" "[B" (.ref b) ∧ Fld Z h ax "java/lang/AbstractStringBuilder" "coder" "B" (.int (0 : Int32)) ∧ Fld Z h ax "java/lang/AbstractStringBuilder" "count" "I" (.int (pn + (24 : Int32))) ∧ Fld Z h ax "java/lang/AbstractStringBuilder" "maybeLatin1" "Z" (.int (0 : Int32)) ∧ Arv Z h b k .byte (34 : Int32) (L1 (cs ++ ds)) (.int (0 : Int32))) := by
  refine Pays.of (plainFor_of_name (by first | (simp [plainName, overriddenIn]; done) | decide +kernel)) ?_
  intro p e s m below meth c s₁ hx hby hml hown hnm hret hlk hZ e0 X0
  have N0 := Fr.nil n0
  have K0 : Keep h0 h0 [ax] := Keep.refl _ _
  refine Goes.go (U' := (s₁.setTop (mkF m 0 #[sR_ ax, sR_ r] []))) (fun t kt => castTop (ef_rm_sap0024 m ax r) kt) ?_
  refine Goes.go (U' := (s₁.setTop (mkF m 2 #[sR_ ax, sR_ r] [(.ref r), (.ref ax)]))) (fun t kt => ?_) ?_
  · skip
    refine XS.aloadN X0.here hx rfl (hb hby d_rm_sap0024_0) rfl rfl ?_
    refine XS.aloadN X0.here hx rfl (hb hby d_rm_sap0024_1) rfl rfl ?_
    exact kt
  obtain ⟨v_1, T_1, L_1, X_1, q_1, st_1⟩ := callSuper X0 hx hZ (y := (⟨"java/lang/AbstractStringBuilder", "append", "(Ljava/lang/String;)Ljava/lang/AbstractStringBuilder;"⟩ : MethodName)) (W := 0) (by decide) hown (wdOf hw 63 rfl) (sameOf (wdOf hw 83 rfl) rfl (wdOf hw 64 rfl) (by decide)) (wdOf hw 64 rfl) (wdOf hw 65 rfl) (wdOf hw 19 rfl) (wdOf hw 67 rfl) (rm_ap0024 l Z a0 hw [] kc sx ax ba r rb kb kr pn cs ds h0 n0 Z0 G O E1 F1_value F1_coder F1_count F1_maybeLatin1 V1 E2 F2_value F2_coder V2 o0 o1 nb hz hp hle hlc hld) (by decide) (by decide) (by decide) (by decide) e0 (Ins.self E1) (g := (mkF m 2 #[sR_ ax, sR_ r] [(.ref r), (.ref ax)])) rfl (by rw [hml]; rfl) (argsL := [(.ref r)]) (rest := []) (lenOf pd_27 rfl) rfl rfl (Nat.le_refl _) (hb hby d_rm_sap0024_2)
  obtain ⟨b_1, k_1, rfl, n_1, K_1, o_1, EQ_1, FQ_1_value, FQ_1_coder, FQ_1_count, FQ_1_maybeLatin1, VQ_1⟩ := q_1
  have N_1 := Fr.app N0 n_1
  have f_2 : Old Z n0 T_1.heap := O.keep K_1 (allS o0 all0)
  have K_3 : Keep h0 T_1.heap [ax] := K0.trans K_1 (allS (P := fun x => x ∈ [ax] ∨ h0.size ≤ x) (Or.inl (List.mem_of_getElem? (i := 0) rfl)) all0)
  have y_3 : n0 ≤ T_1.heap.size := Nat.le_trans Z0 K_3.1
  refine Goes.go (U' := (T_1.setTop (mkF m 5 #[sR_ ax, sR_ r] [(.ref ax)]))) st_1 ?_
  refine Goes.go (U' := (T_1.setTop (mkF m 7 #[sR_ ax, sR_ r] [(.ref ax)]))) (fun t kt => ?_) ?_
  · skip
    refine XS.pop X_1.here hx rfl (hb hby d_rm_sap0024_5) rfl rfl ?_
    refine XS.aloadN X_1.here hx rfl (hb hby d_rm_sap0024_6) rfl rfl ?_
    exact kt
  refine Goes.retA X_1 hx hlk hret rfl rfl (hb hby d_rm_sap0024_7) (by decide) (by decide) ?_
  try rw [(rfl : T_1.heap = T_1.heap)]
  exact ⟨_, _, rfl, N_1, K_3, o_1, EQ_1, FQ_1_value, FQ_1_coder, FQ_1_count, FQ_1_maybeLatin1, VQ_1⟩
theorem d_rm_ap1024_0 : decode jdk_68_method_22_code 0 = .ok (.aload_n 1, 1) := by decide +kernel
theorem d_rm_ap1024_1 : decode jdk_68_method_22_code 1 = .ok (.ifnonnull 8, 3) := by decide +kernel
theorem d_rm_ap1024_9 : decode jdk_68_method_22_code 9 = .ok (.aload_n 1, 1) := by decide +kernel
theorem d_rm_ap1024_10 : decode jdk_68_method_22_code 10 = .ok (.invokevirtual 32, 3) := by decide +kernel
theorem d_rm_ap1024_13 : decode jdk_68_method_22_code 13 = .ok (.istore_n 2, 1) := by decide +kernel
theorem d_rm_ap1024_14 : decode jdk_68_method_22_code 14 = .ok (.aload_n 0, 1) := by decide +kernel
theorem d_rm_ap1024_15 : decode jdk_68_method_22_code 15 = .ok (.aload_n 0, 1) := by decide +kernel
theorem d_rm_ap1024_16 : decode jdk_68_method_22_code 16 = .ok (.getfield 79, 3) := by decide +kernel
theorem d_rm_ap1024_19 : decode jdk_68_method_22_code 19 = .ok (.iload_n 2, 1) := by decide +kernel
theorem d_rm_ap1024_20 : decode jdk_68_method_22_code 20 = .ok (.iadd, 1) := by decide +kernel
theorem d_rm_ap1024_21 : decode jdk_68_method_22_code 21 = .ok (.invokevirtual 100, 3) := by decide +kernel
theorem d_rm_ap1024_24 : decode jdk_68_method_22_code 24 = .ok (.aload_n 0, 1) := by decide +kernel
theorem d_rm_ap1024_25 : decode jdk_68_method_22_code 25 = .ok (.aload_n 0, 1) := by decide +kernel
theorem d_rm_ap1024_26 : decode jdk_68_method_22_code 26 = .ok (.getfield 79, 3) := by decide +kernel
theorem d_rm_ap1024_29 : decode jdk_68_method_22_code 29 = .ok (.aload_n 1, 1) := by decide +kernel
theorem d_rm_ap1024_30 : decode jdk_68_method_22_code 30 = .ok (.invokevirtual 208, 3) := by decide +kernel
theorem d_rm_ap1024_33 : decode jdk_68_method_22_code 33 = .ok (.aload_n 0, 1) := by decide +kernel
theorem d_rm_ap1024_34 : decode jdk_68_method_22_code 34 = .ok (.dup, 1) := by decide +kernel
theorem d_rm_ap1024_35 : decode jdk_68_method_22_code 35 = .ok (.getfield 79, 3) := by decide +kernel
theorem d_rm_ap1024_38 : decode jdk_68_method_22_code 38 = .ok (.iload_n 2, 1) := by decide +kernel
theorem d_rm_ap1024_39 : decode jdk_68_method_22_code 39 = .ok (.iadd, 1) := by decide +kernel
theorem d_rm_ap1024_40 : decode jdk_68_method_22_code 40 = .ok (.putfield 79, 3) := by decide +kernel
theorem d_rm_ap1024_43 : decode jdk_68_method_22_code 43 = .ok (.aload_n 0, 1) := by decide +kernel
theorem d_rm_ap1024_44 : decode jdk_68_method_22_code 44 = .ok (.areturn, 1) := by decide +kernel
set_option maxHeartbeats 4000000 in
theorem ef_rm_ap1024 (m : MethodId) (x0 : Addr) (x1 : Addr)  : entryFrame m #[(.ref x0), (.ref x1)] 3 = mkF m 0 #[.val (.ref x0), .val (.ref x1), .unset] [] := by first | (simp [entryFrame, mkF, argsToLocals, catR, catN, catI, catJ]; done) | rfl
set_option maxRecDepth 65536 in
set_option maxHeartbeats 40000000 in
theorem rm_ap1024 (l : Launch) (Z : State) (a0 : Array Value) (hw : ∀ d ∈ tables_1, d.before a0 Z = true) (ws : List Jvm.Cond) (kc : Int32) (sx : Value) (ax ba r rb : Addr) (kb kr : ClassId) (pn : Int32) (cs ds : List Int32) (h0 : Heap) (n0 : Nat) (Z0 : n0 ≤ h0.size) (G : Stt Z kc sx) (O : Old Z n0 h0) (E1 : Exa Z h0 ax "java/lang/StringBuilder") (F1_value : Fld Z h0 ax "java/lang/AbstractStringBuilder" "value" "[B" (.ref ba)) (F1_coder : Fld Z h0 ax "java/lang/AbstractStringBuilder" "coder" "B" (.int (1 : Int32))) (F1_count : Fld Z h0 ax "java/lang/AbstractStringBuilder" "count" "I" (.int pn)) (F1_maybeLatin1 : Fld Z h0 ax "java/lang/AbstractStringBuilder" "maybeLatin1" "Z" (.int (0 : Int32))) (V1 : Arv Z h0 ba kb .byte (32 : Int32) (U2 cs) (.int (0 : Int32))) (E2 : Exa Z h0 r "java/lang/String") (F2_value : Fld Z h0 r "java/lang/String" "value" "[B" (.ref rb)) (F2_coder : Fld Z h0 r "java/lang/String" "coder" "B" (.int (0 : Int32))) (V2 : Arv Z h0 rb kr .byte (24 : Int32) (L1 ds) (.int (0 : Int32))) (o0 : n0 ≤ ax) (o1 : n0 ≤ ba) (nb : rb ≠ ba) (hz : Sz (24 : Int32) ds.length) (hp : Sz pn cs.length) (hle : cs.length ≤ 3) (hlc : ∀ c ∈ cs, Ch c) (hld : ∀ c ∈ ds, Lc c) :
    Pays l Z (⟨"java/lang/AbstractStringBuilder", "append", "(Ljava/lang/String;)Ljava/lang/AbstractStringBuilder;"⟩ : MethodName) jdk_68_method_22_code 3 (some (.object "java/lang/AbstractStringBuilder")) ws ({ frames := 7, cells := 1, slots := 68, locals := 105 } : Room) #[(.ref ax), (.ref r)] h0 (fun v h L => ∃ b k, v = some (.ref ax) ∧ Fr n0 L ∧ Keep h0 h [ax] ∧ n0 ≤ b ∧ Exa Z h ax "java/lang/StringBuilder" ∧ Fld Z h ax "java/lang/AbstractStringBuilder" "value" "[B" (.ref b) ∧ Fld Z h ax "java/lang/AbstractStringBuilder" "coder" "B" (.int (1 : Int32)) ∧ Fld Z h ax "java/lang/AbstractStringBuilder" "count" "I" (.int (pn + (24 : Int32))) ∧ Fld Z h ax "java/lang/AbstractStringBuilder" "maybeLatin1" "Z" (.int (0 : Int32)) ∧ Arv Z h b k .byte (68 : Int32) (U2 (cs ++ ds)) (.int (0 : Int32))) := by
  refine Pays.of (plainFor_of_name (by first | (simp [plainName, overriddenIn]; done) | decide +kernel)) ?_
  intro p e s m below meth c s₁ hx hby hml hown hnm hret hlk hZ e0 X0
  have N0 := Fr.nil n0
  have K0 : Keep h0 h0 [ax] := Keep.refl _ _
  refine Goes.go (U' := (s₁.setTop (mkF m 0 #[sR_ ax, sR_ r, sU_] []))) (fun t kt => castTop (ef_rm_ap1024 m ax r) kt) ?_
  have hp4 := hp.four (Nat.le_trans hle (by decide))
  have hd1 : ds.length = 24 := by have := hz.nat; rw [← this]; rfl
  refine Goes.go (U' := (s₁.setTop (mkF m 10 #[sR_ ax, sR_ r, sU_] [(.ref r)]))) (fun t kt => ?_) ?_
  · skip
    refine XS.aloadN X0.here hx rfl (hb hby d_rm_ap1024_0) rfl rfl ?_
    refine XS.ifnonnullYes X0.here hx rfl (pc0 := 1) (pc' := 9) rfl (hb hby d_rm_ap1024_1) rfl (by decide) (by decide) ?_
    refine XS.aloadN X0.here hx rfl (hb hby d_rm_ap1024_9) rfl rfl ?_
    exact kt
  obtain ⟨v_1, T_1, L_1, X_1, q_1, st_1⟩ := callVirtual X0 hx hZ (y := (⟨"java/lang/String", "length", "()I"⟩ : MethodName)) (z := (⟨"java/lang/String", "length", "()I"⟩ : MethodName)) (W := 0) hown (wdOf hw 68 rfl) (wdOf hw 69 rfl) (notFace_of_selects (args := #[]) (mvT hZ (wdOf hw 71 rfl))) (wdOf hw 71 rfl) (wdOf hw 70 rfl) (wdOf hw 23 rfl) (wdOf hw 72 rfl) (by decide) (rm_ln l Z a0 hw [] kc sx r rb (24 : Int32) ds h0 n0 Z0 G O ⟨hz, Or.inl ⟨⟨_, E2, F2_value, F2_coder, V2⟩, hld⟩⟩) (by decide) (by decide) (by decide) (by decide) e0 E2 (g := (mkF m 10 #[sR_ ax, sR_ r, sU_] [(.ref r)])) rfl (by rw [hml]; rfl) (argsL := []) (rest := []) (lenOf pd_24 rfl) rfl rfl (Nat.le_refl _) (hb hby d_rm_ap1024_10)
  obtain ⟨rfl, n_1, K_1⟩ := q_1
  have N_1 := Fr.app N0 n_1
  refine Goes.go (U' := (T_1.setTop (mkF m 13 #[sR_ ax, sR_ r, sU_] [(.int (24 : Int32))]))) st_1 ?_
  refine Goes.go (U' := (T_1.setTop (mkF m 16 #[sR_ ax, sR_ r, sI_ (24 : Int32)] [(.ref ax), (.ref ax)]))) (fun t kt => ?_) ?_
  · skip
    refine XS.istoreN X_1.here hx rfl (hb hby d_rm_ap1024_13) rfl (l' := #[sR_ ax, sR_ r, sI_ (24 : Int32)]) rfl ?_
    refine XS.aloadN X_1.here hx rfl (hb hby d_rm_ap1024_14) rfl rfl ?_
    refine XS.aloadN X_1.here hx rfl (hb hby d_rm_ap1024_15) rfl rfl ?_
    exact kt
  obtain ⟨T_2, X_2, e_2, st_2⟩ := getF X_1 hx hZ hown (host := "") (Or.inl (wdOf hw 78 rfl)) Via.refl K_1 F1_count (g := (mkF m 16 #[sR_ ax, sR_ r, sI_ (24 : Int32)] [(.ref ax), (.ref ax)])) rfl rfl (hb hby d_rm_ap1024_16)
  refine Goes.go (U' := (T_2.setTop (mkF m 19 #[sR_ ax, sR_ r, sI_ (24 : Int32)] [(.int pn), (.ref ax)]))) st_2 ?_
  refine Goes.go (U' := (T_2.setTop (mkF m 21 #[sR_ ax, sR_ r, sI_ (24 : Int32)] [(.int (pn + (24 : Int32))), (.ref ax)]))) (fun t kt => ?_) ?_
  · skip
    refine XS.iloadN X_2.here hx rfl (hb hby d_rm_ap1024_19) rfl ?_
    refine XS.iadd X_2.here hx rfl (hb hby d_rm_ap1024_20) rfl ?_
    exact kt
  obtain ⟨v_3, T_3, L_3, X_3, q_3, st_3⟩ := callPrivSel X_2 hx hZ (y := (⟨"java/lang/AbstractStringBuilder", "ensureCapacityInternal", "(I)V"⟩ : MethodName)) (W := 0) hown (wdOf hw 80 rfl) (wdOf hw 81 rfl) (wdOf hw 82 rfl) (wdOf hw 83 rfl) (wdOf hw 19 rfl) (wdOf hw 84 rfl) (by decide) (rm_ec11 l Z a0 hw [] kc sx ax ba kb (pn + (24 : Int32)) pn cs h0 n0 Z0 G O E1 F1_value F1_coder F1_count F1_maybeLatin1 V1 o0 (by rcases hp4 with rfl | rfl | rfl | rfl <;> decide) (by rcases hp4 with rfl | rfl | rfl | rfl <;> decide) hle) (by decide) (by decide) (by decide) (by decide) e_2 E1 (g := (mkF m 21 #[sR_ ax, sR_ r, sI_ (24 : Int32)] [(.int (pn + (24 : Int32))), (.ref ax)])) rfl (by rw [hml]; rfl) (argsL := [(.int (pn + (24 : Int32)))]) (rest := []) (lenOf pd_25 rfl) rfl rfl (Nat.le_refl _) (hb hby d_rm_ap1024_21)
  obtain ⟨b_3, k_3, rfl, n_3, K_3, z_3, EQ_3, FQ_3_value, FQ_3_coder, FQ_3_count, FQ_3_maybeLatin1, VQ_3⟩ := q_3
  have ne_4 : ax ≠ b_3 := Nat.ne_of_lt (Nat.lt_of_lt_of_le E1.lt z_3)
  have ne_5 : ba ≠ b_3 := Nat.ne_of_lt (Nat.lt_of_lt_of_le V1.lt z_3)
  have ne_6 : r ≠ b_3 := Nat.ne_of_lt (Nat.lt_of_lt_of_le E2.lt z_3)
  have ne_7 : rb ≠ b_3 := Nat.ne_of_lt (Nat.lt_of_lt_of_le V2.lt z_3)
  have o_8 : n0 ≤ b_3 := Nat.le_trans Z0 z_3
  have z_9 : h0.size ≤ b_3 := Nat.le_trans K0.1 z_3
  have N_3 := Fr.app N_1 n_3
  have f_10 : Old Z n0 T_3.heap := O.keep K_3 (allS o0 all0)
  have f_11 : Exa Z T_3.heap ax "java/lang/StringBuilder" := E1.keep K_3
  have f_12 : Exa Z T_3.heap r "java/lang/String" := E2.keep K_3
  have f_13 : Fld Z T_3.heap r "java/lang/String" "value" "[B" (.ref rb) := F2_value.keep K_3 (ninS (ne_exa E2 E1 (by decide)) nin0)
  have f_14 : Fld Z T_3.heap r "java/lang/String" "coder" "B" (.int (0 : Int32)) := F2_coder.keep K_3 (ninS (ne_exa E2 E1 (by decide)) nin0)
  have f_15 : Arv Z T_3.heap rb kr .byte (24 : Int32) (L1 ds) (.int (0 : Int32)) := V2.keep K_3 (ninS (Ne.symm (E1.neArv V2 (wdOf hw 10 rfl))) nin0)
  have K_16 : Keep h0 T_3.heap [ax] := K0.trans K_3 (allS (P := fun x => x ∈ [ax] ∨ h0.size ≤ x) (Or.inl (List.mem_of_getElem? (i := 0) rfl)) all0)
  have y_16 : n0 ≤ T_3.heap.size := Nat.le_trans Z0 K_16.1
  refine Goes.go (U' := (T_3.setTop (mkF m 24 #[sR_ ax, sR_ r, sI_ (24 : Int32)] []))) st_3 ?_
  refine Goes.go (U' := (T_3.setTop (mkF m 26 #[sR_ ax, sR_ r, sI_ (24 : Int32)] [(.ref ax), (.ref ax)]))) (fun t kt => ?_) ?_
  · skip
    refine XS.aloadN X_3.here hx rfl (hb hby d_rm_ap1024_24) rfl rfl ?_
    refine XS.aloadN X_3.here hx rfl (hb hby d_rm_ap1024_25) rfl rfl ?_
    exact kt
  obtain ⟨T_17, X_17, e_17, st_17⟩ := getF X_3 hx hZ hown (host := "") (Or.inl (wdOf hw 78 rfl)) Via.refl (rfl : T_3.heap = T_3.heap) FQ_3_count (g := (mkF m 26 #[sR_ ax, sR_ r, sI_ (24 : Int32)] [(.ref ax), (.ref ax)])) rfl rfl (hb hby d_rm_ap1024_26)
  refine Goes.go (U' := (T_17.setTop (mkF m 29 #[sR_ ax, sR_ r, sI_ (24 : Int32)] [(.int pn), (.ref ax)]))) st_17 ?_
  refine Goes.go (U' := (T_17.setTop (mkF m 30 #[sR_ ax, sR_ r, sI_ (24 : Int32)] [(.ref r), (.int pn), (.ref ax)]))) (fun t kt => ?_) ?_
  · skip
    refine XS.aloadN X_17.here hx rfl (hb hby d_rm_ap1024_29) rfl rfl ?_
    exact kt
  obtain ⟨v_18, T_18, L_18, X_18, q_18, st_18⟩ := callPrivSel X_17 hx hZ (y := (⟨"java/lang/AbstractStringBuilder", "putStringAt", "(ILjava/lang/String;)V"⟩ : MethodName)) (W := 0) hown (wdOf hw 85 rfl) (wdOf hw 86 rfl) (wdOf hw 87 rfl) (wdOf hw 88 rfl) (wdOf hw 19 rfl) (wdOf hw 89 rfl) (by decide) (rm_ps10 l Z a0 hw [] kc sx ax b_3 r rb k_3 kr pn (24 : Int32) (68 : Int32) cs ds T_3.heap n0 y_16 G f_10 f_11 FQ_3_value FQ_3_coder FQ_3_count FQ_3_maybeLatin1 VQ_3 f_12 f_13 f_14 f_15 o_8 ne_7 hz hp (by rw [hd1]; have : (68 : Int32).toNatClampNeg = 68 := rfl; omega) hld (by omega) (by rcases hp4 with rfl | rfl | rfl | rfl <;> decide) (by rcases hp4 with rfl | rfl | rfl | rfl <;> decide)) (by decide) (by decide) (by decide) (by decide) e_17 f_11 (g := (mkF m 30 #[sR_ ax, sR_ r, sI_ (24 : Int32)] [(.ref r), (.int pn), (.ref ax)])) rfl (by rw [hml]; rfl) (argsL := [(.int pn), (.ref r)]) (rest := []) (lenOf pd_26 rfl) rfl rfl (Nat.le_refl _) (hb hby d_rm_ap1024_30)
  obtain ⟨rfl, n_18, K_18, V_18⟩ := q_18
  have N_18 := Fr.app N_3 n_18
  have f_19 : Old Z n0 T_18.heap := f_10.keep K_18 (allS o_8 all0)
  have f_20 : Exa Z T_18.heap ax "java/lang/StringBuilder" := f_11.keep K_18
  have f_21 : Exa Z T_18.heap r "java/lang/String" := f_12.keep K_18
  have f_22 : Fld Z T_18.heap r "java/lang/String" "value" "[B" (.ref rb) := f_13.keep K_18 (ninS ne_6 nin0)
  have f_23 : Fld Z T_18.heap r "java/lang/String" "coder" "B" (.int (0 : Int32)) := f_14.keep K_18 (ninS ne_6 nin0)
  have f_24 : Arv Z T_18.heap rb kr .byte (24 : Int32) (L1 ds) (.int (0 : Int32)) := f_15.keep K_18 (ninS ne_7 nin0)
  have f_25 : Fld Z T_18.heap ax "java/lang/AbstractStringBuilder" "value" "[B" (.ref b_3) := FQ_3_value.keep K_18 (ninS ne_4 nin0)
  have f_26 : Fld Z T_18.heap ax "java/lang/AbstractStringBuilder" "coder" "B" (.int (1 : Int32)) := FQ_3_coder.keep K_18 (ninS ne_4 nin0)
  have f_27 : Fld Z T_18.heap ax "java/lang/AbstractStringBuilder" "count" "I" (.int pn) := FQ_3_count.keep K_18 (ninS ne_4 nin0)
  have f_28 : Fld Z T_18.heap ax "java/lang/AbstractStringBuilder" "maybeLatin1" "Z" (.int (0 : Int32)) := FQ_3_maybeLatin1.keep K_18 (ninS ne_4 nin0)
  have K_30 : Keep h0 T_18.heap [ax] := K_16.trans K_18 (allS (P := fun x => x ∈ [ax] ∨ h0.size ≤ x) (Or.inr z_9) all0)
  have y_30 : n0 ≤ T_18.heap.size := Nat.le_trans Z0 K_30.1
  refine Goes.go (U' := (T_18.setTop (mkF m 33 #[sR_ ax, sR_ r, sI_ (24 : Int32)] []))) st_18 ?_
  refine Goes.go (U' := (T_18.setTop (mkF m 35 #[sR_ ax, sR_ r, sI_ (24 : Int32)] [(.ref ax), (.ref ax)]))) (fun t kt => ?_) ?_
  · skip
    refine XS.aloadN X_18.here hx rfl (hb hby d_rm_ap1024_33) rfl rfl ?_
    refine XS.dup X_18.here hx rfl (hb hby d_rm_ap1024_34) rfl rfl ?_
    exact kt
  obtain ⟨T_31, X_31, e_31, st_31⟩ := getF X_18 hx hZ hown (host := "") (Or.inl (wdOf hw 78 rfl)) Via.refl (rfl : T_18.heap = T_18.heap) f_27 (g := (mkF m 35 #[sR_ ax, sR_ r, sI_ (24 : Int32)] [(.ref ax), (.ref ax)])) rfl rfl (hb hby d_rm_ap1024_35)
  refine Goes.go (U' := (T_31.setTop (mkF m 38 #[sR_ ax, sR_ r, sI_ (24 : Int32)] [(.int pn), (.ref ax)]))) st_31 ?_
  refine Goes.go (U' := (T_31.setTop (mkF m 40 #[sR_ ax, sR_ r, sI_ (24 : Int32)] [(.int (pn + (24 : Int32))), (.ref ax)]))) (fun t kt => ?_) ?_
  · skip
    refine XS.iloadN X_31.here hx rfl (hb hby d_rm_ap1024_38) rfl ?_
    refine XS.iadd X_31.here hx rfl (hb hby d_rm_ap1024_39) rfl ?_
    exact kt
  obtain ⟨T_32, h_32, X_32, e_32, W_32, st_32⟩ := putF X_31 hx hZ hown (host := "") (Or.inl (wdOf hw 78 rfl)) Via.refl e_31 f_27 f_20 (Or.inl (wdOf hw 79 rfl)) (wdOf hw 10 rfl) (ty := .int) (by decide) rfl rfl (g := (mkF m 40 #[sR_ ax, sR_ r, sI_ (24 : Int32)] [(.int (pn + (24 : Int32))), (.ref ax)])) rfl rfl (hb hby d_rm_ap1024_40)
  have N_32 := Fr.snoc X_32 N_18 o0
  have f_33 : Old Z n0 h_32 := f_19.wr W_32 o0
  have f_34 : Exa Z h_32 ax "java/lang/StringBuilder" := f_20.wr W_32
  have f_35 : Exa Z h_32 r "java/lang/String" := f_21.wr W_32
  have f_36 : Fld Z h_32 r "java/lang/String" "value" "[B" (.ref rb) := f_22.other W_32 (Or.inl (ne_exa f_21 f_20 (by decide)))
  have f_37 : Fld Z h_32 r "java/lang/String" "coder" "B" (.int (0 : Int32)) := f_23.other W_32 (Or.inl (ne_exa f_21 f_20 (by decide)))
  have f_38 : Arv Z h_32 rb kr .byte (24 : Int32) (L1 ds) (.int (0 : Int32)) := f_24.other W_32 (Ne.symm (f_20.neArv f_24 (wdOf hw 10 rfl)))
  have f_39 : Fld Z h_32 ax "java/lang/AbstractStringBuilder" "value" "[B" (.ref b_3) := f_25.other W_32 (Or.inr (slot_ne (Or.inl (wdOf hw 26 rfl)) (Or.inl (wdOf hw 79 rfl)) (by decide) (t := (.array .byte)) (t' := .int) (by decide) (by decide)))
  have f_40 : Fld Z h_32 ax "java/lang/AbstractStringBuilder" "coder" "B" (.int (1 : Int32)) := f_26.other W_32 (Or.inr (slot_ne (Or.inl (wdOf hw 28 rfl)) (Or.inl (wdOf hw 79 rfl)) (by decide) (t := .byte) (t' := .int) (by decide) (by decide)))
  have f_41 : Fld Z h_32 ax "java/lang/AbstractStringBuilder" "count" "I" (.int (pn + (24 : Int32))) := f_27.same W_32
  have f_42 : Fld Z h_32 ax "java/lang/AbstractStringBuilder" "maybeLatin1" "Z" (.int (0 : Int32)) := f_28.other W_32 (Or.inr (slot_ne (Or.inl (wdOf hw 245 rfl)) (Or.inl (wdOf hw 79 rfl)) (by decide) (t := .boolean) (t' := .int) (by decide) (by decide)))
  have f_43 : Arv Z h_32 b_3 k_3 .byte (68 : Int32) (U2 (cs ++ ds)) (.int (0 : Int32)) := V_18.other W_32 (Ne.symm ne_4)
  have K_44 : Keep h0 h_32 [ax] := K_30.wr W_32 (Or.inl (List.mem_of_getElem? (i := 0) rfl))
  have y_44 : n0 ≤ h_32.size := Nat.le_trans Z0 K_44.1
  refine Goes.go (U' := (T_32.setTop (mkF m 43 #[sR_ ax, sR_ r, sI_ (24 : Int32)] []))) st_32 ?_
  refine Goes.go (U' := (T_32.setTop (mkF m 44 #[sR_ ax, sR_ r, sI_ (24 : Int32)] [(.ref ax)]))) (fun t kt => ?_) ?_
  · skip
    refine XS.aloadN X_32.here hx rfl (hb hby d_rm_ap1024_43) rfl rfl ?_
    exact kt
  refine Goes.retA X_32 hx hlk hret rfl rfl (hb hby d_rm_ap1024_44) (by decide) (by decide) ?_
  try rw [e_32]
  exact ⟨_, _, rfl, N_32, K_44, o_8, f_34, f_39, f_40, f_41, f_42, f_43⟩
theorem d_rm_sap1024_0 : decode jdk_67_method_7_code 0 = .ok (.aload_n 0, 1) := by decide +kernel
theorem d_rm_sap1024_1 : decode jdk_67_method_7_code 1 = .ok (.aload_n 1, 1) := by decide +kernel
theorem d_rm_sap1024_2 : decode jdk_67_method_7_code 2 = .ok (.invokespecial 29, 3) := by decide +kernel
theorem d_rm_sap1024_5 : decode jdk_67_method_7_code 5 = .ok (.pop, 1) := by decide +kernel
theorem d_rm_sap1024_6 : decode jdk_67_method_7_code 6 = .ok (.aload_n 0, 1) := by decide +kernel
theorem d_rm_sap1024_7 : decode jdk_67_method_7_code 7 = .ok (.areturn, 1) := by decide +kernel
set_option maxHeartbeats 4000000 in
theorem ef_rm_sap1024 (m : MethodId) (x0 : Addr) (x1 : Addr)  : entryFrame m #[(.ref x0), (.ref x1)] 2 = mkF m 0 #[.val (.ref x0), .val (.ref x1)] [] := by first | (simp [entryFrame, mkF, argsToLocals, catR, catN, catI, catJ]; done) | rfl
set_option maxRecDepth 65536 in
set_option maxHeartbeats 40000000 in
theorem rm_sap1024 (l : Launch) (Z : State) (a0 : Array Value) (hw : ∀ d ∈ tables_1, d.before a0 Z = true) (ws : List Jvm.Cond) (kc : Int32) (sx : Value) (ax ba r rb : Addr) (kb kr : ClassId) (pn : Int32) (cs ds : List Int32) (h0 : Heap) (n0 : Nat) (Z0 : n0 ≤ h0.size) (G : Stt Z kc sx) (O : Old Z n0 h0) (E1 : Exa Z h0 ax "java/lang/StringBuilder") (F1_value : Fld Z h0 ax "java/lang/AbstractStringBuilder" "value" "[B" (.ref ba)) (F1_coder : Fld Z h0 ax "java/lang/AbstractStringBuilder" "coder" "B" (.int (1 : Int32))) (F1_count : Fld Z h0 ax "java/lang/AbstractStringBuilder" "count" "I" (.int pn)) (F1_maybeLatin1 : Fld Z h0 ax "java/lang/AbstractStringBuilder" "maybeLatin1" "Z" (.int (0 : Int32))) (V1 : Arv Z h0 ba kb .byte (32 : Int32) (U2 cs) (.int (0 : Int32))) (E2 : Exa Z h0 r "java/lang/String") (F2_value : Fld Z h0 r "java/lang/String" "value" "[B" (.ref rb)) (F2_coder : Fld Z h0 r "java/lang/String" "coder" "B" (.int (0 : Int32))) (V2 : Arv Z h0 rb kr .byte (24 : Int32) (L1 ds) (.int (0 : Int32))) (o0 : n0 ≤ ax) (o1 : n0 ≤ ba) (nb : rb ≠ ba) (hz : Sz (24 : Int32) ds.length) (hp : Sz pn cs.length) (hle : cs.length ≤ 3) (hlc : ∀ c ∈ cs, Ch c) (hld : ∀ c ∈ ds, Lc c) :
    Pays l Z (⟨"java/lang/StringBuilder", "append", "(Ljava/lang/String;)Ljava/lang/StringBuilder;"⟩ : MethodName) jdk_67_method_7_code 2 (some (.object "java/lang/StringBuilder")) ws ({ frames := 8, cells := 1, slots := 68, locals := 119 } : Room) #[(.ref ax), (.ref r)] h0 (fun v h L => ∃ b k, v = some (.ref ax) ∧ Fr n0 L ∧ Keep h0 h [ax] ∧ n0 ≤ b ∧ Exa Z h ax "java/lang/StringBuilder" ∧ Fld Z h ax "java/lang/AbstractStringBuilder" "value" "[B" (.ref b) ∧ Fld Z h ax "java/lang/AbstractStringBuilder" "coder" "B" (.int (1 : Int32)) ∧ Fld Z h ax "java/lang/AbstractStringBuilder" "count" "I" (.int (pn + (24 : Int32))) ∧ Fld Z h ax "java/lang/AbstractStringBuilder" "maybeLatin1" "Z" (.int (0 : Int32)) ∧ Arv Z h b k .byte (68 : Int32) (U2 (cs ++ ds)) (.int (0 : Int32))) := by
  refine Pays.of (plainFor_of_name (by first | (simp [plainName, overriddenIn]; done) | decide +kernel)) ?_
  intro p e s m below meth c s₁ hx hby hml hown hnm hret hlk hZ e0 X0
  have N0 := Fr.nil n0
  have K0 : Keep h0 h0 [ax] := Keep.refl _ _
  refine Goes.go (U' := (s₁.setTop (mkF m 0 #[sR_ ax, sR_ r] []))) (fun t kt => castTop (ef_rm_sap1024 m ax r) kt) ?_
  refine Goes.go (U' := (s₁.setTop (mkF m 2 #[sR_ ax, sR_ r] [(.ref r), (.ref ax)]))) (fun t kt => ?_) ?_
  · skip
    refine XS.aloadN X0.here hx rfl (hb hby d_rm_sap1024_0) rfl rfl ?_
    refine XS.aloadN X0.here hx rfl (hb hby d_rm_sap1024_1) rfl rfl ?_
    exact kt
  obtain ⟨v_1, T_1, L_1, X_1, q_1, st_1⟩ := callSuper X0 hx hZ (y := (⟨"java/lang/AbstractStringBuilder", "append", "(Ljava/lang/String;)Ljava/lang/AbstractStringBuilder;"⟩ : MethodName)) (W := 0) (by decide) hown (wdOf hw 63 rfl) (sameOf (wdOf hw 83 rfl) rfl (wdOf hw 64 rfl) (by decide)) (wdOf hw 64 rfl) (wdOf hw 65 rfl) (wdOf hw 19 rfl) (wdOf hw 67 rfl) (rm_ap1024 l Z a0 hw [] kc sx ax ba r rb kb kr pn cs ds h0 n0 Z0 G O E1 F1_value F1_coder F1_count F1_maybeLatin1 V1 E2 F2_value F2_coder V2 o0 o1 nb hz hp hle hlc hld) (by decide) (by decide) (by decide) (by decide) e0 (Ins.self E1) (g := (mkF m 2 #[sR_ ax, sR_ r] [(.ref r), (.ref ax)])) rfl (by rw [hml]; rfl) (argsL := [(.ref r)]) (rest := []) (lenOf pd_27 rfl) rfl rfl (Nat.le_refl _) (hb hby d_rm_sap1024_2)
  obtain ⟨b_1, k_1, rfl, n_1, K_1, o_1, EQ_1, FQ_1_value, FQ_1_coder, FQ_1_count, FQ_1_maybeLatin1, VQ_1⟩ := q_1
  have N_1 := Fr.app N0 n_1
  have f_2 : Old Z n0 T_1.heap := O.keep K_1 (allS o0 all0)
  have K_3 : Keep h0 T_1.heap [ax] := K0.trans K_1 (allS (P := fun x => x ∈ [ax] ∨ h0.size ≤ x) (Or.inl (List.mem_of_getElem? (i := 0) rfl)) all0)
  have y_3 : n0 ≤ T_1.heap.size := Nat.le_trans Z0 K_3.1
  refine Goes.go (U' := (T_1.setTop (mkF m 5 #[sR_ ax, sR_ r] [(.ref ax)]))) st_1 ?_
  refine Goes.go (U' := (T_1.setTop (mkF m 7 #[sR_ ax, sR_ r] [(.ref ax)]))) (fun t kt => ?_) ?_
  · skip
    refine XS.pop X_1.here hx rfl (hb hby d_rm_sap1024_5) rfl rfl ?_
    refine XS.aloadN X_1.here hx rfl (hb hby d_rm_sap1024_6) rfl rfl ?_
    exact kt
  refine Goes.retA X_1 hx hlk hret rfl rfl (hb hby d_rm_sap1024_7) (by decide) (by decide) ?_
  try rw [(rfl : T_1.heap = T_1.heap)]
  exact ⟨_, _, rfl, N_1, K_3, o_1, EQ_1, FQ_1_value, FQ_1_coder, FQ_1_count, FQ_1_maybeLatin1, VQ_1⟩
theorem d_rm_abi_0 : decode jdk_68_method_2_code 0 = .ok (.aload_n 0, 1) := by decide +kernel
theorem d_rm_abi_1 : decode jdk_68_method_2_code 1 = .ok (.invokespecial 3, 3) := by decide +kernel
theorem d_rm_abi_4 : decode jdk_68_method_2_code 4 = .ok (.getstatic 18, 3) := by decide +kernel
theorem d_rm_abi_7 : decode jdk_68_method_2_code 7 = .ok (.ifCond .eq 18, 3) := by decide +kernel
theorem d_rm_abi_10 : decode jdk_68_method_2_code 10 = .ok (.aload_n 0, 1) := by decide +kernel
theorem d_rm_abi_11 : decode jdk_68_method_2_code 11 = .ok (.iload_n 1, 1) := by decide +kernel
theorem d_rm_abi_12 : decode jdk_68_method_2_code 12 = .ok (.newarray .byte, 2) := by decide +kernel
theorem d_rm_abi_14 : decode jdk_68_method_2_code 14 = .ok (.putfield 15, 3) := by decide +kernel
theorem d_rm_abi_17 : decode jdk_68_method_2_code 17 = .ok (.aload_n 0, 1) := by decide +kernel
theorem d_rm_abi_18 : decode jdk_68_method_2_code 18 = .ok (.iconst 0, 1) := by decide +kernel
theorem d_rm_abi_19 : decode jdk_68_method_2_code 19 = .ok (.putfield 22, 3) := by decide +kernel
theorem d_rm_abi_22 : decode jdk_68_method_2_code 22 = .ok (.goto 16, 3) := by decide +kernel
theorem d_rm_abi_38 : decode jdk_68_method_2_code 38 = .ok (.return_, 1) := by decide +kernel
set_option maxHeartbeats 4000000 in
theorem ef_rm_abi (m : MethodId) (x0 : Addr) (x1 : Int32)  : entryFrame m #[(.ref x0), (.int x1)] 2 = mkF m 0 #[.val (.ref x0), .val (.int x1)] [] := by first | (simp [entryFrame, mkF, argsToLocals, catR, catN, catI, catJ]; done) | rfl
set_option maxRecDepth 65536 in
set_option maxHeartbeats 40000000 in
theorem rm_abi (l : Launch) (Z : State) (a0 : Array Value) (hw : ∀ d ∈ tables_1, d.before a0 Z = true) (ws : List Jvm.Cond) (kc : Int32) (sx : Value) (ax : Addr) (h0 : Heap) (n0 : Nat) (Z0 : n0 ≤ h0.size) (G : Stt Z kc sx) (O : Old Z n0 h0) (E0 : Exa Z h0 ax "java/lang/StringBuilder") (F0_value : Fld Z h0 ax "java/lang/AbstractStringBuilder" "value" "[B" .null) (F0_coder : Fld Z h0 ax "java/lang/AbstractStringBuilder" "coder" "B" (.int (0 : Int32))) (F0_count : Fld Z h0 ax "java/lang/AbstractStringBuilder" "count" "I" (.int (0 : Int32))) (F0_maybeLatin1 : Fld Z h0 ax "java/lang/AbstractStringBuilder" "maybeLatin1" "Z" (.int (0 : Int32))) (o0 : n0 ≤ ax) :
    Pays l Z (⟨"java/lang/AbstractStringBuilder", "<init>", "(I)V"⟩ : MethodName) jdk_68_method_2_code 2 none ws ({ frames := 1, cells := 1, slots := 16, locals := 12 } : Room) #[(.ref ax), (.int (16 : Int32))] h0 (fun v h L => ∃ b k, v = none ∧ Fr n0 L ∧ Keep h0 h [ax] ∧ n0 ≤ b ∧ Exa Z h ax "java/lang/StringBuilder" ∧ Fld Z h ax "java/lang/AbstractStringBuilder" "value" "[B" (.ref b) ∧ Fld Z h ax "java/lang/AbstractStringBuilder" "coder" "B" (.int (0 : Int32)) ∧ Fld Z h ax "java/lang/AbstractStringBuilder" "count" "I" (.int (0 : Int32)) ∧ Fld Z h ax "java/lang/AbstractStringBuilder" "maybeLatin1" "Z" (.int (0 : Int32)) ∧ Arv Z h b k .byte (16 : Int32) (L1 []) (.int (0 : Int32))) := by
  refine Pays.of (plainFor_of_name (by first | (simp [plainName, overriddenIn]; done) | decide +kernel)) ?_
  intro p e s m below meth c s₁ hx hby hml hown hnm hret hlk hZ e0 X0
  have N0 := Fr.nil n0
  have K0 : Keep h0 h0 [ax] := Keep.refl _ _
  refine Goes.go (U' := (s₁.setTop (mkF m 0 #[sR_ ax, sI_ (16 : Int32)] []))) (fun t kt => castTop (ef_rm_abi m ax (16 : Int32)) kt) ?_
  refine Goes.go (U' := (s₁.setTop (mkF m 1 #[sR_ ax, sI_ (16 : Int32)] [(.ref ax)]))) (fun t kt => ?_) ?_
  · skip
    refine XS.aloadN X0.here hx rfl (hb hby d_rm_abi_0) rfl rfl ?_
    exact kt
  obtain ⟨T_1, X_1, e_1, st_1⟩ := initO X0 hx hZ hown (wdOf hw 21 rfl) (wdOf hw 7 rfl) (wdOf hw 8 rfl) e0 (g := (mkF m 1 #[sR_ ax, sI_ (16 : Int32)] [(.ref ax)])) rfl (by rw [hml]; rfl) rfl (hb hby d_rm_abi_1) (by decide) (W := 0) (Nat.le_refl _) (by decide)
  refine Goes.go (U' := (T_1.setTop (mkF m 4 #[sR_ ax, sI_ (16 : Int32)] []))) st_1 ?_
  obtain ⟨T_2, X_2, e_2, st_2⟩ := getS X_1 hx hZ hown (host := "") (wdOf hw 22 rfl) Via.refl e_1 (G.1.ext O.2) (g := (mkF m 4 #[sR_ ax, sI_ (16 : Int32)] [])) rfl (hb hby d_rm_abi_4)
  refine Goes.go (U' := (T_2.setTop (mkF m 7 #[sR_ ax, sI_ (16 : Int32)] [(.int kc)]))) st_2 ?_
  refine Goes.go (U' := (T_2.setTop (mkF m 12 #[sR_ ax, sI_ (16 : Int32)] [(.int (16 : Int32)), (.ref ax)]))) (fun t kt => ?_) ?_
  · skip
    refine XS.ifNo X_2.here hx rfl (hb hby d_rm_abi_7) rfl (XT.i0_eq_f G.2.1) ?_
    refine XS.aloadN X_2.here hx rfl (hb hby d_rm_abi_10) rfl rfl ?_
    refine XS.iloadN X_2.here hx rfl (hb hby d_rm_abi_11) rfl ?_
    exact kt
  obtain ⟨T_3, h_3, k_3, X_3, e_3, E_3, A_3, st_3⟩ := newP X_2 hx hZ (wdOf hw 24 rfl) e_2 (g := (mkF m 12 #[sR_ ax, sI_ (16 : Int32)] [(.int (16 : Int32)), (.ref ax)])) rfl (hb hby d_rm_abi_12) rfl (by decide) (cap := 16) (by decide) (by decide) (by decide) (by decide)
  obtain ⟨b_3, g_3⟩ : ∃ z, z = h0.size := ⟨_, rfl⟩
  rw [← g_3] at A_3 st_3
  have ne_4 : ax ≠ b_3 := Nat.ne_of_lt (Nat.lt_of_lt_of_le E0.lt (Nat.le_of_eq g_3.symm))
  have o_3 : n0 ≤ b_3 := Nat.le_trans Z0 (Nat.le_of_eq g_3.symm)
  have z_3 : h0.size ≤ b_3 := Nat.le_trans K0.1 (Nat.le_of_eq g_3.symm)
  have f_5 : Old Z n0 h_3 := O.ext E_3
  have f_6 : Exa Z h_3 ax "java/lang/StringBuilder" := E0.ext E_3
  have f_7 : Fld Z h_3 ax "java/lang/AbstractStringBuilder" "value" "[B" .null := F0_value.ext E_3
  have f_8 : Fld Z h_3 ax "java/lang/AbstractStringBuilder" "coder" "B" (.int (0 : Int32)) := F0_coder.ext E_3
  have f_9 : Fld Z h_3 ax "java/lang/AbstractStringBuilder" "count" "I" (.int (0 : Int32)) := F0_count.ext E_3
  have f_10 : Fld Z h_3 ax "java/lang/AbstractStringBuilder" "maybeLatin1" "Z" (.int (0 : Int32)) := F0_maybeLatin1.ext E_3
  have V_3 : Arv Z h_3 b_3 k_3 .byte (16 : Int32) [] (.int (0 : Int32)) := Arv.new A_3 (by decide)
  have K_11 : Keep h0 h_3 [ax] := K0.ext E_3
  have y_11 : n0 ≤ h_3.size := Nat.le_trans Z0 K_11.1
  refine Goes.go (U' := (T_3.setTop (mkF m 14 #[sR_ ax, sI_ (16 : Int32)] [(.ref b_3), (.ref ax)]))) st_3 ?_
  obtain ⟨T_12, h_12, X_12, e_12, W_12, st_12⟩ := putF X_3 hx hZ hown (host := "") (Or.inl (wdOf hw 25 rfl)) Via.refl e_3 f_7 f_6 (Or.inl (wdOf hw 26 rfl)) (wdOf hw 10 rfl) (ty := (.array .byte)) (by decide) rfl rfl (g := (mkF m 14 #[sR_ ax, sI_ (16 : Int32)] [(.ref b_3), (.ref ax)])) rfl rfl (hb hby d_rm_abi_14)
  have N_12 := Fr.snoc X_12 N0 o0
  have f_13 : Old Z n0 h_12 := f_5.wr W_12 o0
  have f_14 : Exa Z h_12 ax "java/lang/StringBuilder" := f_6.wr W_12
  have f_15 : Fld Z h_12 ax "java/lang/AbstractStringBuilder" "value" "[B" (.ref b_3) := f_7.same W_12
  have f_16 : Fld Z h_12 ax "java/lang/AbstractStringBuilder" "coder" "B" (.int (0 : Int32)) := f_8.other W_12 (Or.inr (slot_ne (Or.inl (wdOf hw 28 rfl)) (Or.inl (wdOf hw 26 rfl)) (by decide) (t := .byte) (t' := (.array .byte)) (by decide) (by decide)))
  have f_17 : Fld Z h_12 ax "java/lang/AbstractStringBuilder" "count" "I" (.int (0 : Int32)) := f_9.other W_12 (Or.inr (slot_ne (Or.inl (wdOf hw 79 rfl)) (Or.inl (wdOf hw 26 rfl)) (by decide) (t := .int) (t' := (.array .byte)) (by decide) (by decide)))
  have f_18 : Fld Z h_12 ax "java/lang/AbstractStringBuilder" "maybeLatin1" "Z" (.int (0 : Int32)) := f_10.other W_12 (Or.inr (slot_ne (Or.inl (wdOf hw 245 rfl)) (Or.inl (wdOf hw 26 rfl)) (by decide) (t := .boolean) (t' := (.array .byte)) (by decide) (by decide)))
  have f_19 : Arv Z h_12 b_3 k_3 .byte (16 : Int32) [] (.int (0 : Int32)) := V_3.other W_12 (Ne.symm ne_4)
  have K_20 : Keep h0 h_12 [ax] := K_11.wr W_12 (Or.inl (List.mem_of_getElem? (i := 0) rfl))
  have y_20 : n0 ≤ h_12.size := Nat.le_trans Z0 K_20.1
  refine Goes.go (U' := (T_12.setTop (mkF m 17 #[sR_ ax, sI_ (16 : Int32)] []))) st_12 ?_
  refine Goes.go (U' := (T_12.setTop (mkF m 19 #[sR_ ax, sI_ (16 : Int32)] [(.int (0 : Int32)), (.ref ax)]))) (fun t kt => ?_) ?_
  · skip
    refine XS.aloadN X_12.here hx rfl (hb hby d_rm_abi_17) rfl rfl ?_
    refine XS.iconst X_12.here hx rfl (hb hby d_rm_abi_18) ?_
    exact kt
  obtain ⟨T_21, h_21, X_21, e_21, W_21, st_21⟩ := putFN X_12 hx hZ hown (wdOf hw 27 rfl) Via.refl e_12 f_16 f_14 (Or.inl (wdOf hw 28 rfl)) (wdOf hw 10 rfl) (ty := .byte) (v' := (.int (0 : Int32))) (by decide) rfl rfl (g := (mkF m 19 #[sR_ ax, sI_ (16 : Int32)] [(.int (0 : Int32)), (.ref ax)])) rfl rfl (hb hby d_rm_abi_19)
  have N_21 := Fr.snoc X_21 N_12 o0
  have f_22 : Old Z n0 h_21 := f_13.wr W_21 o0
  have f_23 : Exa Z h_21 ax "java/lang/StringBuilder" := f_14.wr W_21
  have f_24 : Fld Z h_21 ax "java/lang/AbstractStringBuilder" "value" "[B" (.ref b_3) := f_15.other W_21 (Or.inr (slot_ne (Or.inl (wdOf hw 26 rfl)) (Or.inl (wdOf hw 28 rfl)) (by decide) (t := (.array .byte)) (t' := .byte) (by decide) (by decide)))
  have f_25 : Fld Z h_21 ax "java/lang/AbstractStringBuilder" "coder" "B" (.int (0 : Int32)) := f_16.same W_21
  have f_26 : Fld Z h_21 ax "java/lang/AbstractStringBuilder" "count" "I" (.int (0 : Int32)) := f_17.other W_21 (Or.inr (slot_ne (Or.inl (wdOf hw 79 rfl)) (Or.inl (wdOf hw 28 rfl)) (by decide) (t := .int) (t' := .byte) (by decide) (by decide)))
  have f_27 : Fld Z h_21 ax "java/lang/AbstractStringBuilder" "maybeLatin1" "Z" (.int (0 : Int32)) := f_18.other W_21 (Or.inr (slot_ne (Or.inl (wdOf hw 245 rfl)) (Or.inl (wdOf hw 28 rfl)) (by decide) (t := .boolean) (t' := .byte) (by decide) (by decide)))
  have f_28 : Arv Z h_21 b_3 k_3 .byte (16 : Int32) [] (.int (0 : Int32)) := f_19.other W_21 (Ne.symm ne_4)
  have K_29 : Keep h0 h_21 [ax] := K_20.wr W_21 (Or.inl (List.mem_of_getElem? (i := 0) rfl))
  have y_29 : n0 ≤ h_21.size := Nat.le_trans Z0 K_29.1
  refine Goes.go (U' := (T_21.setTop (mkF m 22 #[sR_ ax, sI_ (16 : Int32)] []))) st_21 ?_
  refine Goes.go (U' := (T_21.setTop (mkF m 38 #[sR_ ax, sI_ (16 : Int32)] []))) (fun t kt => ?_) ?_
  · skip
    refine XS.goto X_21.here hx rfl (pc0 := 22) (pc' := 38) rfl (hb hby d_rm_abi_22) (by decide) (by decide) ?_
    exact kt
  refine Goes.retV X_21 hx hlk hret (hb hby d_rm_abi_38) (by decide) (by decide) ?_
  try rw [e_21]
  exact ⟨_, _, rfl, N_21, K_29, o_3, f_23, f_24, f_25, f_26, f_27, f_28⟩
theorem d_rm_sbi_0 : decode jdk_67_method_1_code 0 = .ok (.aload_n 0, 1) := by decide +kernel
theorem d_rm_sbi_1 : decode jdk_67_method_1_code 1 = .ok (.bipush 16, 2) := by decide +kernel
theorem d_rm_sbi_3 : decode jdk_67_method_1_code 3 = .ok (.invokespecial 1, 3) := by decide +kernel
theorem d_rm_sbi_6 : decode jdk_67_method_1_code 6 = .ok (.return_, 1) := by decide +kernel
set_option maxHeartbeats 4000000 in
theorem ef_rm_sbi (m : MethodId) (x0 : Addr)  : entryFrame m #[(.ref x0)] 1 = mkF m 0 #[.val (.ref x0)] [] := by first | (simp [entryFrame, mkF, argsToLocals, catR, catN, catI, catJ]; done) | rfl
set_option maxRecDepth 65536 in
set_option maxHeartbeats 40000000 in
theorem rm_sbi (l : Launch) (Z : State) (a0 : Array Value) (hw : ∀ d ∈ tables_1, d.before a0 Z = true) (ws : List Jvm.Cond) (kc : Int32) (sx : Value) (ax : Addr) (h0 : Heap) (n0 : Nat) (Z0 : n0 ≤ h0.size) (G : Stt Z kc sx) (O : Old Z n0 h0) (E0 : Exa Z h0 ax "java/lang/StringBuilder") (F0_value : Fld Z h0 ax "java/lang/AbstractStringBuilder" "value" "[B" .null) (F0_coder : Fld Z h0 ax "java/lang/AbstractStringBuilder" "coder" "B" (.int (0 : Int32))) (F0_count : Fld Z h0 ax "java/lang/AbstractStringBuilder" "count" "I" (.int (0 : Int32))) (F0_maybeLatin1 : Fld Z h0 ax "java/lang/AbstractStringBuilder" "maybeLatin1" "Z" (.int (0 : Int32))) (o0 : n0 ≤ ax) :
    Pays l Z (⟨"java/lang/StringBuilder", "<init>", "()V"⟩ : MethodName) jdk_67_method_1_code 1 none ws ({ frames := 2, cells := 1, slots := 16, locals := 25 } : Room) #[(.ref ax)] h0 (fun v h L => ∃ b k, v = none ∧ Fr n0 L ∧ Keep h0 h [ax] ∧ n0 ≤ b ∧ Exa Z h ax "java/lang/StringBuilder" ∧ Fld Z h ax "java/lang/AbstractStringBuilder" "value" "[B" (.ref b) ∧ Fld Z h ax "java/lang/AbstractStringBuilder" "coder" "B" (.int (0 : Int32)) ∧ Fld Z h ax "java/lang/AbstractStringBuilder" "count" "I" (.int (0 : Int32)) ∧ Fld Z h ax "java/lang/AbstractStringBuilder" "maybeLatin1" "Z" (.int (0 : Int32)) ∧ Arv Z h b k .byte (16 : Int32) (L1 []) (.int (0 : Int32))) := by
  refine Pays.of (plainFor_of_name (by first | (simp [plainName, overriddenIn]; done) | decide +kernel)) ?_
  intro p e s m below meth c s₁ hx hby hml hown hnm hret hlk hZ e0 X0
  have N0 := Fr.nil n0
  have K0 : Keep h0 h0 [ax] := Keep.refl _ _
  refine Goes.go (U' := (s₁.setTop (mkF m 0 #[sR_ ax] []))) (fun t kt => castTop (ef_rm_sbi m ax) kt) ?_
  refine Goes.go (U' := (s₁.setTop (mkF m 3 #[sR_ ax] [(.int (16 : Int32)), (.ref ax)]))) (fun t kt => ?_) ?_
  · skip
    refine XS.aloadN X0.here hx rfl (hb hby d_rm_sbi_0) rfl rfl ?_
    refine XS.bipush X0.here hx rfl (hb hby d_rm_sbi_1) ?_
    exact kt
  obtain ⟨v_1, T_1, L_1, X_1, q_1, st_1⟩ := callInit X0 hx hZ (y := (⟨"java/lang/AbstractStringBuilder", "<init>", "(I)V"⟩ : MethodName)) (W := 0) rfl hown (wdOf hw 15 rfl) (wdOf hw 16 rfl) (wdOf hw 19 rfl) (wdOf hw 20 rfl) (by decide) (rm_abi l Z a0 hw [] kc sx ax h0 n0 Z0 G O E0 F0_value F0_coder F0_count F0_maybeLatin1 o0) (by decide) (by decide) (by decide) (by decide) e0 (b := ax) (g := (mkF m 3 #[sR_ ax] [(.int (16 : Int32)), (.ref ax)])) rfl (by rw [hml]; rfl) (argsL := [(.int (16 : Int32))]) (rest := []) (lenOf pd_25 rfl) rfl rfl (Nat.le_refl _) (hb hby d_rm_sbi_3)
  obtain ⟨b_1, k_1, rfl, n_1, K_1, o_1, EQ_1, FQ_1_value, FQ_1_coder, FQ_1_count, FQ_1_maybeLatin1, VQ_1⟩ := q_1
  have N_1 := Fr.app N0 n_1
  have f_2 : Old Z n0 T_1.heap := O.keep K_1 (allS o0 all0)
  have K_3 : Keep h0 T_1.heap [ax] := K0.trans K_1 (allS (P := fun x => x ∈ [ax] ∨ h0.size ≤ x) (Or.inl (List.mem_of_getElem? (i := 0) rfl)) all0)
  have y_3 : n0 ≤ T_1.heap.size := Nat.le_trans Z0 K_3.1
  refine Goes.go (U' := (T_1.setTop (mkF m 6 #[sR_ ax] []))) st_1 ?_
  refine Goes.retV X_1 hx hlk hret (hb hby d_rm_sbi_6) (by decide) (by decide) ?_
  try rw [(rfl : T_1.heap = T_1.heap)]
  exact ⟨_, _, rfl, N_1, K_3, o_1, EQ_1, FQ_1_value, FQ_1_coder, FQ_1_count, FQ_1_maybeLatin1, VQ_1⟩
theorem d_rm_hi_0 : decode prog_10_method_1_code 0 = .ok (.aload_n 0, 1) := by decide +kernel
theorem d_rm_hi_1 : decode prog_10_method_1_code 1 = .ok (.invokespecial 1, 3) := by decide +kernel
theorem d_rm_hi_4 : decode prog_10_method_1_code 4 = .ok (.aload_n 0, 1) := by decide +kernel
theorem d_rm_hi_5 : decode prog_10_method_1_code 5 = .ok (.new 7, 3) := by decide +kernel
theorem d_rm_hi_8 : decode prog_10_method_1_code 8 = .ok (.dup, 1) := by decide +kernel
theorem d_rm_hi_9 : decode prog_10_method_1_code 9 = .ok (.invokespecial 9, 3) := by decide +kernel
theorem d_rm_hi_12 : decode prog_10_method_1_code 12 = .ok (.putfield 10, 3) := by decide +kernel
theorem d_rm_hi_15 : decode prog_10_method_1_code 15 = .ok (.return_, 1) := by decide +kernel
set_option maxHeartbeats 4000000 in
theorem ef_rm_hi (m : MethodId) (x0 : Addr)  : entryFrame m #[(.ref x0)] 1 = mkF m 0 #[.val (.ref x0)] [] := by first | (simp [entryFrame, mkF, argsToLocals, catR, catN, catI, catJ]; done) | rfl
set_option maxRecDepth 65536 in
set_option maxHeartbeats 40000000 in
theorem rm_hi (l : Launch) (Z : State) (a0 : Array Value) (hw : ∀ d ∈ tables_1, d.before a0 Z = true) (ws : List Jvm.Cond) (kc : Int32) (sx : Value) (hx_ : Addr) (h0 : Heap) (n0 : Nat) (Z0 : n0 ≤ h0.size) (G : Stt Z kc sx) (O : Old Z n0 h0) (E0 : Exa Z h0 hx_ "com/example/dead_letter_replay/deadletterreplay/page/Html") (F0_html : Fld Z h0 hx_ "com/example/dead_letter_replay/deadletterreplay/page/Html" "html" "Ljava/lang/StringBuilder;" .null) (o0 : n0 ≤ hx_) :
    Pays l Z (⟨"com/example/dead_letter_replay/deadletterreplay/page/Html", "<init>", "()V"⟩ : MethodName) prog_10_method_1_code 1 none ws ({ frames := 3, cells := 2, slots := 20, locals := 39 } : Room) #[(.ref hx_)] h0 (fun v h L => ∃ ax ba, v = none ∧ Fr n0 L ∧ Keep h0 h [hx_] ∧ n0 ≤ ax ∧ n0 ≤ ba ∧ Hob Z h hx_ ax ba (0 : Int32) []) := by
  refine Pays.of (plainFor_of_name (by first | (simp [plainName, overriddenIn]; done) | decide +kernel)) ?_
  intro p e s m below meth c s₁ hx hby hml hown hnm hret hlk hZ e0 X0
  have N0 := Fr.nil n0
  have K0 : Keep h0 h0 [hx_] := Keep.refl _ _
  refine Goes.go (U' := (s₁.setTop (mkF m 0 #[sR_ hx_] []))) (fun t kt => castTop (ef_rm_hi m hx_) kt) ?_
  refine Goes.go (U' := (s₁.setTop (mkF m 1 #[sR_ hx_] [(.ref hx_)]))) (fun t kt => ?_) ?_
  · skip
    refine XS.aloadN X0.here hx rfl (hb hby d_rm_hi_0) rfl rfl ?_
    exact kt
  obtain ⟨T_1, X_1, e_1, st_1⟩ := initO X0 hx hZ hown (wdOf hw 6 rfl) (wdOf hw 7 rfl) (wdOf hw 8 rfl) e0 (g := (mkF m 1 #[sR_ hx_] [(.ref hx_)])) rfl (by rw [hml]; rfl) rfl (hb hby d_rm_hi_1) (by decide) (W := 0) (Nat.le_refl _) (by decide)
  refine Goes.go (U' := (T_1.setTop (mkF m 4 #[sR_ hx_] []))) st_1 ?_
  refine Goes.go (U' := (T_1.setTop (mkF m 5 #[sR_ hx_] [(.ref hx_)]))) (fun t kt => ?_) ?_
  · skip
    refine XS.aloadN X_1.here hx rfl (hb hby d_rm_hi_4) rfl rfl ?_
    exact kt
  obtain ⟨T_2, h_2, X_2, e_2, E_2, A_2, D_2, -, st_2⟩ := newO X_1 hx hZ hown (wdOf hw 9 rfl) (wdOf hw 10 rfl) (wdOf hw 11 rfl) e_1 (g := (mkF m 5 #[sR_ hx_] [(.ref hx_)])) rfl (hb hby d_rm_hi_5) (by decide) (by decide)
  obtain ⟨b_2, g_2⟩ : ∃ z, z = h0.size := ⟨_, rfl⟩
  rw [← g_2] at A_2 D_2 st_2
  have ne_3 : hx_ ≠ b_2 := Nat.ne_of_lt (Nat.lt_of_lt_of_le E0.lt (Nat.le_of_eq g_2.symm))
  have o_2 : n0 ≤ b_2 := Nat.le_trans Z0 (Nat.le_of_eq g_2.symm)
  have z_2 : h0.size ≤ b_2 := Nat.le_trans K0.1 (Nat.le_of_eq g_2.symm)
  have f_4 : Old Z n0 h_2 := O.ext E_2
  have f_5 : Exa Z h_2 hx_ "com/example/dead_letter_replay/deadletterreplay/page/Html" := E0.ext E_2
  have f_6 : Fld Z h_2 hx_ "com/example/dead_letter_replay/deadletterreplay/page/Html" "html" "Ljava/lang/StringBuilder;" .null := F0_html.ext E_2
  have f_7 : Fld Z h_2 b_2 "java/lang/AbstractStringBuilder" "value" "[B" .null := D_2 (Or.inl (wdOf hw 26 rfl)) (ty := (.array .byte)) (by decide)
  have f_8 : Fld Z h_2 b_2 "java/lang/AbstractStringBuilder" "coder" "B" (.int (0 : Int32)) := D_2 (Or.inl (wdOf hw 28 rfl)) (ty := .byte) (by decide)
  have f_9 : Fld Z h_2 b_2 "java/lang/AbstractStringBuilder" "count" "I" (.int (0 : Int32)) := D_2 (Or.inl (wdOf hw 79 rfl)) (ty := .int) (by decide)
  have f_10 : Fld Z h_2 b_2 "java/lang/AbstractStringBuilder" "maybeLatin1" "Z" (.int (0 : Int32)) := D_2 (Or.inl (wdOf hw 245 rfl)) (ty := .boolean) (by decide)
  have K_11 : Keep h0 h_2 [hx_] := K0.ext E_2
  have y_11 : n0 ≤ h_2.size := Nat.le_trans Z0 K_11.1
  refine Goes.go (U' := (T_2.setTop (mkF m 8 #[sR_ hx_] [(.ref b_2), (.ref hx_)]))) st_2 ?_
  refine Goes.go (U' := (T_2.setTop (mkF m 9 #[sR_ hx_] [(.ref b_2), (.ref b_2), (.ref hx_)]))) (fun t kt => ?_) ?_
  · skip
    refine XS.dup X_2.here hx rfl (hb hby d_rm_hi_8) rfl rfl ?_
    exact kt
  obtain ⟨v_12, T_12, L_12, X_12, q_12, st_12⟩ := callInit X_2 hx hZ (y := (⟨"java/lang/StringBuilder", "<init>", "()V"⟩ : MethodName)) (W := 2) rfl hown (wdOf hw 12 rfl) (wdOf hw 13 rfl) (wdOf hw 11 rfl) (wdOf hw 14 rfl) (by decide) (rm_sbi l Z a0 hw [] kc sx b_2 h_2 n0 y_11 G f_4 A_2 f_7 f_8 f_9 f_10 o_2) (by decide) (by decide) (by decide) (by decide) e_2 (b := b_2) (g := (mkF m 9 #[sR_ hx_] [(.ref b_2), (.ref b_2), (.ref hx_)])) rfl (by rw [hml]; rfl) (argsL := []) (rest := [(.ref b_2), (.ref hx_)]) (lenOf pd_20 rfl) rfl rfl (Nat.le_refl _) (hb hby d_rm_hi_9)
  obtain ⟨b_12, k_12, rfl, n_12, K_12, o_12, EQ_12, FQ_12_value, FQ_12_coder, FQ_12_count, FQ_12_maybeLatin1, VQ_12⟩ := q_12
  have N_12 := Fr.app N0 n_12
  have f_13 : Old Z n0 T_12.heap := f_4.keep K_12 (allS o_2 all0)
  have f_14 : Exa Z T_12.heap hx_ "com/example/dead_letter_replay/deadletterreplay/page/Html" := f_5.keep K_12
  have f_15 : Fld Z T_12.heap hx_ "com/example/dead_letter_replay/deadletterreplay/page/Html" "html" "Ljava/lang/StringBuilder;" .null := f_6.keep K_12 (ninS ne_3 nin0)
  have f_16 : Exa Z T_12.heap b_2 "java/lang/StringBuilder" := A_2.keep K_12
  have K_17 : Keep h0 T_12.heap [hx_] := K_11.trans K_12 (allS (P := fun x => x ∈ [hx_] ∨ h0.size ≤ x) (Or.inr z_2) all0)
  have y_17 : n0 ≤ T_12.heap.size := Nat.le_trans Z0 K_17.1
  refine Goes.go (U' := (T_12.setTop (mkF m 12 #[sR_ hx_] [(.ref b_2), (.ref hx_)]))) st_12 ?_
  obtain ⟨T_18, h_18, X_18, e_18, W_18, st_18⟩ := putF X_12 hx hZ hown (host := "") (Or.inl (wdOf hw 29 rfl)) Via.refl (rfl : T_12.heap = T_12.heap) f_15 f_14 (Or.inr ⟨wdOf hw 30 rfl, rfl, hnm⟩) (wdOf hw 1 rfl) (ty := (.object "java/lang/StringBuilder")) (by decide) rfl rfl (g := (mkF m 12 #[sR_ hx_] [(.ref b_2), (.ref hx_)])) rfl rfl (hb hby d_rm_hi_12)
  have N_18 := Fr.snoc X_18 N_12 o0
  have f_19 : Old Z n0 h_18 := f_13.wr W_18 o0
  have f_20 : Exa Z h_18 hx_ "com/example/dead_letter_replay/deadletterreplay/page/Html" := f_14.wr W_18
  have f_21 : Fld Z h_18 hx_ "com/example/dead_letter_replay/deadletterreplay/page/Html" "html" "Ljava/lang/StringBuilder;" (.ref b_2) := f_15.same W_18
  have f_22 : Exa Z h_18 b_2 "java/lang/StringBuilder" := f_16.wr W_18
  have f_23 : Fld Z h_18 b_2 "java/lang/AbstractStringBuilder" "value" "[B" (.ref b_12) := FQ_12_value.other W_18 (Or.inl (Ne.symm ne_3))
  have f_24 : Fld Z h_18 b_2 "java/lang/AbstractStringBuilder" "coder" "B" (.int (0 : Int32)) := FQ_12_coder.other W_18 (Or.inl (Ne.symm ne_3))
  have f_25 : Fld Z h_18 b_2 "java/lang/AbstractStringBuilder" "count" "I" (.int (0 : Int32)) := FQ_12_count.other W_18 (Or.inl (Ne.symm ne_3))
  have f_26 : Fld Z h_18 b_2 "java/lang/AbstractStringBuilder" "maybeLatin1" "Z" (.int (0 : Int32)) := FQ_12_maybeLatin1.other W_18 (Or.inl (Ne.symm ne_3))
  have f_27 : Arv Z h_18 b_12 k_12 .byte (16 : Int32) (L1 []) (.int (0 : Int32)) := VQ_12.other W_18 (Ne.symm (f_14.neArv VQ_12 (wdOf hw 1 rfl)))
  have K_28 : Keep h0 h_18 [hx_] := K_17.wr W_18 (Or.inl (List.mem_of_getElem? (i := 0) rfl))
  have y_28 : n0 ≤ h_18.size := Nat.le_trans Z0 K_28.1
  refine Goes.go (U' := (T_18.setTop (mkF m 15 #[sR_ hx_] []))) st_18 ?_
  refine Goes.retV X_18 hx hlk hret (hb hby d_rm_hi_15) (by decide) (by decide) ?_
  try rw [e_18]
  exact ⟨_, _, rfl, N_18, K_28, o_2, o_12, f_20, f_21, ⟨rfl, by first | decide | simp⟩, Or.inl ⟨⟨_, f_22, f_23, f_24, f_25, f_26, f_27⟩, fun _ hc => nomatch hc⟩⟩
theorem d_rm_raw_0 : decode prog_10_method_3_code 0 = .ok (.aload_n 0, 1) := by decide +kernel
theorem d_rm_raw_1 : decode prog_10_method_3_code 1 = .ok (.getfield 10, 3) := by decide +kernel
theorem d_rm_raw_4 : decode prog_10_method_3_code 4 = .ok (.aload_n 1, 1) := by decide +kernel
theorem d_rm_raw_5 : decode prog_10_method_3_code 5 = .ok (.invokevirtual 46, 3) := by decide +kernel
theorem d_rm_raw_8 : decode prog_10_method_3_code 8 = .ok (.pop, 1) := by decide +kernel
theorem d_rm_raw_9 : decode prog_10_method_3_code 9 = .ok (.aload_n 0, 1) := by decide +kernel
theorem d_rm_raw_10 : decode prog_10_method_3_code 10 = .ok (.areturn, 1) := by decide +kernel
set_option maxHeartbeats 4000000 in
theorem ef_rm_raw (m : MethodId) (x0 : Addr) (x1 : Addr)  : entryFrame m #[(.ref x0), (.ref x1)] 2 = mkF m 0 #[.val (.ref x0), .val (.ref x1)] [] := by first | (simp [entryFrame, mkF, argsToLocals, catR, catN, catI, catJ]; done) | rfl
set_option maxRecDepth 65536 in
set_option maxHeartbeats 40000000 in
theorem rm_raw (l : Launch) (Z : State) (a0 : Array Value) (hw : ∀ d ∈ tables_1, d.before a0 Z = true) (ws : List Jvm.Cond) (kc : Int32) (sx : Value) (hx_ ax ba r rb : Addr) (pn xc : Int32) (cs : List Int32) (h0 : Heap) (n0 : Nat) (Z0 : n0 ≤ h0.size) (G : Stt Z kc sx) (O : Old Z n0 h0)  (Hb : Hob Z h0 hx_ ax ba pn cs) (Sb : Str Z h0 r rb (1 : Int32) [xc]) (o0 : n0 ≤ ax) (o1 : n0 ≤ ba) (nb : rb ≠ ba) (hle : cs.length ≤ 2) :
    Pays l Z (⟨"com/example/dead_letter_replay/deadletterreplay/page/Html", "raw", "(Ljava/lang/String;)Lcom/example/dead_letter_replay/deadletterreplay/page/Html;"⟩ : MethodName) prog_10_method_3_code 2 (some (.object "com/example/dead_letter_replay/deadletterreplay/page/Html")) ws ({ frames := 10, cells := 1, slots := 32, locals := 143 } : Room) #[(.ref hx_), (.ref r)] h0 (fun v h L => ∃ b, v = some (.ref hx_) ∧ Fr n0 L ∧ Keep h0 h [ax, ba] ∧ n0 ≤ b ∧ Hob Z h hx_ ax b (pn + (1 : Int32)) (cs ++ [xc])) := by
  refine Pays.of (plainFor_of_name (by first | (simp [plainName, overriddenIn]; done) | decide +kernel)) ?_
  intro p e s m below meth c s₁ hx hby hml hown hnm hret hlk hZ e0 X0
  have N0 := Fr.nil n0
  have K0 : Keep h0 h0 [ax, ba] := Keep.refl _ _
  refine Goes.go (U' := (s₁.setTop (mkF m 0 #[sR_ hx_, sR_ r] []))) (fun t kt => castTop (ef_rm_raw m hx_ r) kt) ?_
  obtain ⟨Eh, Fh, hp, Hb1⟩ := Hb
  obtain ⟨hz, Sb1⟩ := Sb
  rcases Hb1 with ⟨⟨kb, E1, F1_value, F1_coder, F1_count, F1_maybeLatin1, V1⟩, hlc⟩ | ⟨⟨kb, E1, F1_value, F1_coder, F1_count, F1_maybeLatin1, V1⟩, hlc⟩
  · -- builder 0
    rcases Sb1 with ⟨⟨kr, E2, F2_value, F2_coder, V2⟩, hld⟩ | ⟨⟨kr, E2, F2_value, F2_coder, V2⟩, hld⟩
    · -- string 0
      refine Goes.go (U' := (s₁.setTop (mkF m 1 #[sR_ hx_, sR_ r] [(.ref hx_)]))) (fun t kt => ?_) ?_
      · skip
        refine XS.aloadN X0.here hx rfl (hb hby d_rm_raw_0) rfl rfl ?_
        exact kt
      obtain ⟨T_1, X_1, e_1, st_1⟩ := getF X0 hx hZ hown (host := "") (Or.inl (wdOf hw 29 rfl)) Via.refl e0 Fh (g := (mkF m 1 #[sR_ hx_, sR_ r] [(.ref hx_)])) rfl rfl (hb hby d_rm_raw_1)
      refine Goes.go (U' := (T_1.setTop (mkF m 4 #[sR_ hx_, sR_ r] [(.ref ax)]))) st_1 ?_
      refine Goes.go (U' := (T_1.setTop (mkF m 5 #[sR_ hx_, sR_ r] [(.ref r), (.ref ax)]))) (fun t kt => ?_) ?_
      · skip
        refine XS.aloadN X_1.here hx rfl (hb hby d_rm_raw_4) rfl rfl ?_
        exact kt
      obtain ⟨v_2, T_2, L_2, X_2, q_2, st_2⟩ := callVirtual X_1 hx hZ (y := (⟨"java/lang/StringBuilder", "append", "(Ljava/lang/String;)Ljava/lang/StringBuilder;"⟩ : MethodName)) (z := (⟨"java/lang/StringBuilder", "append", "(Ljava/lang/String;)Ljava/lang/StringBuilder;"⟩ : MethodName)) (W := 0) hown (wdOf hw 58 rfl) (wdOf hw 59 rfl) (notFace_of_selects (args := #[]) (mvT hZ (wdOf hw 61 rfl))) (wdOf hw 61 rfl) (wdOf hw 60 rfl) (wdOf hw 11 rfl) (wdOf hw 62 rfl) (by decide) (rm_sap001 l Z a0 hw [] kc sx ax ba r rb kb kr pn cs [xc] h0 n0 Z0 G O E1 F1_value F1_coder F1_count F1_maybeLatin1 V1 E2 F2_value F2_coder V2 o0 o1 nb hz hp hle hlc hld) (by decide) (by decide) (by decide) (by decide) e_1 E1 (g := (mkF m 5 #[sR_ hx_, sR_ r] [(.ref r), (.ref ax)])) rfl (by rw [hml]; rfl) (argsL := [(.ref r)]) (rest := []) (lenOf pd_28 rfl) rfl rfl (Nat.le_refl _) (hb hby d_rm_raw_5)
      obtain ⟨b_2, k_2, rfl, n_2, K_2, o_2, EQ_2, FQ_2_value, FQ_2_coder, FQ_2_count, FQ_2_maybeLatin1, VQ_2⟩ := q_2
      have N_2 := Fr.app N0 n_2
      have f_3 : Old Z n0 T_2.heap := O.keep K_2 (allS o0 (allS o1 all0))
      have f_4 : Exa Z T_2.heap hx_ "com/example/dead_letter_replay/deadletterreplay/page/Html" := Eh.keep K_2
      have f_5 : Fld Z T_2.heap hx_ "com/example/dead_letter_replay/deadletterreplay/page/Html" "html" "Ljava/lang/StringBuilder;" (.ref ax) := Fh.keep K_2 (ninS (ne_exa Eh E1 (by decide)) (ninS (Eh.neArv V1 (wdOf hw 1 rfl)) nin0))
      have f_6 : Exa Z T_2.heap ax "java/lang/StringBuilder" := E1.keep K_2
      have K_8 : Keep h0 T_2.heap [ax, ba] := K0.trans K_2 (allS (P := fun x => x ∈ [ax, ba] ∨ h0.size ≤ x) (Or.inl (List.mem_of_getElem? (i := 0) rfl)) (allS (P := fun x => x ∈ [ax, ba] ∨ h0.size ≤ x) (Or.inl (List.mem_of_getElem? (i := 1) rfl)) all0))
      have y_8 : n0 ≤ T_2.heap.size := Nat.le_trans Z0 K_8.1
      refine Goes.go (U' := (T_2.setTop (mkF m 8 #[sR_ hx_, sR_ r] [(.ref ax)]))) st_2 ?_
      refine Goes.go (U' := (T_2.setTop (mkF m 10 #[sR_ hx_, sR_ r] [(.ref hx_)]))) (fun t kt => ?_) ?_
      · skip
        refine XS.pop X_2.here hx rfl (hb hby d_rm_raw_8) rfl rfl ?_
        refine XS.aloadN X_2.here hx rfl (hb hby d_rm_raw_9) rfl rfl ?_
        exact kt
      refine Goes.retA X_2 hx hlk hret rfl rfl (hb hby d_rm_raw_10) (by decide) (by decide) ?_
      try rw [(rfl : T_2.heap = T_2.heap)]
      exact ⟨_, rfl, N_2, K_8, o_2, f_4, f_5, (hp.add hz (by simp; omega)).cong (by simp), Or.inl ⟨⟨_, f_6, FQ_2_value, FQ_2_coder, FQ_2_count, FQ_2_maybeLatin1, VQ_2⟩, allA hlc hld⟩⟩
    · -- string 1
      refine Goes.go (U' := (s₁.setTop (mkF m 1 #[sR_ hx_, sR_ r] [(.ref hx_)]))) (fun t kt => ?_) ?_
      · skip
        refine XS.aloadN X0.here hx rfl (hb hby d_rm_raw_0) rfl rfl ?_
        exact kt
      obtain ⟨T_9, X_9, e_9, st_9⟩ := getF X0 hx hZ hown (host := "") (Or.inl (wdOf hw 29 rfl)) Via.refl e0 Fh (g := (mkF m 1 #[sR_ hx_, sR_ r] [(.ref hx_)])) rfl rfl (hb hby d_rm_raw_1)
      refine Goes.go (U' := (T_9.setTop (mkF m 4 #[sR_ hx_, sR_ r] [(.ref ax)]))) st_9 ?_
      refine Goes.go (U' := (T_9.setTop (mkF m 5 #[sR_ hx_, sR_ r] [(.ref r), (.ref ax)]))) (fun t kt => ?_) ?_
      · skip
        refine XS.aloadN X_9.here hx rfl (hb hby d_rm_raw_4) rfl rfl ?_
        exact kt
      obtain ⟨v_10, T_10, L_10, X_10, q_10, st_10⟩ := callVirtual X_9 hx hZ (y := (⟨"java/lang/StringBuilder", "append", "(Ljava/lang/String;)Ljava/lang/StringBuilder;"⟩ : MethodName)) (z := (⟨"java/lang/StringBuilder", "append", "(Ljava/lang/String;)Ljava/lang/StringBuilder;"⟩ : MethodName)) (W := 0) hown (wdOf hw 58 rfl) (wdOf hw 59 rfl) (notFace_of_selects (args := #[]) (mvT hZ (wdOf hw 61 rfl))) (wdOf hw 61 rfl) (wdOf hw 60 rfl) (wdOf hw 11 rfl) (wdOf hw 62 rfl) (by decide) (rm_sap011 l Z a0 hw [] kc sx ax ba r rb kb kr pn cs [xc] h0 n0 Z0 G O E1 F1_value F1_coder F1_count F1_maybeLatin1 V1 E2 F2_value F2_coder V2 o0 o1 nb hz hp hle hlc hld) (by decide) (by decide) (by decide) (by decide) e_9 E1 (g := (mkF m 5 #[sR_ hx_, sR_ r] [(.ref r), (.ref ax)])) rfl (by rw [hml]; rfl) (argsL := [(.ref r)]) (rest := []) (lenOf pd_28 rfl) rfl rfl (Nat.le_refl _) (hb hby d_rm_raw_5)
      obtain ⟨b_10, k_10, rfl, n_10, K_10, o_10, EQ_10, FQ_10_value, FQ_10_coder, FQ_10_count, FQ_10_maybeLatin1, VQ_10⟩ := q_10
      have N_10 := Fr.app N0 n_10
      have f_11 : Old Z n0 T_10.heap := O.keep K_10 (allS o0 (allS o1 all0))
      have f_12 : Exa Z T_10.heap hx_ "com/example/dead_letter_replay/deadletterreplay/page/Html" := Eh.keep K_10
      have f_13 : Fld Z T_10.heap hx_ "com/example/dead_letter_replay/deadletterreplay/page/Html" "html" "Ljava/lang/StringBuilder;" (.ref ax) := Fh.keep K_10 (ninS (ne_exa Eh E1 (by decide)) (ninS (Eh.neArv V1 (wdOf hw 1 rfl)) nin0))
      have f_14 : Exa Z T_10.heap ax "java/lang/StringBuilder" := E1.keep K_10
      have K_16 : Keep h0 T_10.heap [ax, ba] := K0.trans K_10 (allS (P := fun x => x ∈ [ax, ba] ∨ h0.size ≤ x) (Or.inl (List.mem_of_getElem? (i := 0) rfl)) (allS (P := fun x => x ∈ [ax, ba] ∨ h0.size ≤ x) (Or.inl (List.mem_of_getElem? (i := 1) rfl)) all0))
      have y_16 : n0 ≤ T_10.heap.size := Nat.le_trans Z0 K_16.1
      refine Goes.go (U' := (T_10.setTop (mkF m 8 #[sR_ hx_, sR_ r] [(.ref ax)]))) st_10 ?_
      refine Goes.go (U' := (T_10.setTop (mkF m 10 #[sR_ hx_, sR_ r] [(.ref hx_)]))) (fun t kt => ?_) ?_
      · skip
        refine XS.pop X_10.here hx rfl (hb hby d_rm_raw_8) rfl rfl ?_
        refine XS.aloadN X_10.here hx rfl (hb hby d_rm_raw_9) rfl rfl ?_
        exact kt
      refine Goes.retA X_10 hx hlk hret rfl rfl (hb hby d_rm_raw_10) (by decide) (by decide) ?_
      try rw [(rfl : T_10.heap = T_10.heap)]
      exact ⟨_, rfl, N_10, K_16, o_10, f_12, f_13, (hp.add hz (by simp; omega)).cong (by simp), Or.inr ⟨⟨_, f_14, FQ_10_value, FQ_10_coder, FQ_10_count, FQ_10_maybeLatin1, VQ_10⟩, allA (allCh hlc) hld⟩⟩
  · -- builder 1
    rcases Sb1 with ⟨⟨kr, E2, F2_value, F2_coder, V2⟩, hld⟩ | ⟨⟨kr, E2, F2_value, F2_coder, V2⟩, hld⟩
    · -- string 0
      refine Goes.go (U' := (s₁.setTop (mkF m 1 #[sR_ hx_, sR_ r] [(.ref hx_)]))) (fun t kt => ?_) ?_
      · skip
        refine XS.aloadN X0.here hx rfl (hb hby d_rm_raw_0) rfl rfl ?_
        exact kt
      obtain ⟨T_17, X_17, e_17, st_17⟩ := getF X0 hx hZ hown (host := "") (Or.inl (wdOf hw 29 rfl)) Via.refl e0 Fh (g := (mkF m 1 #[sR_ hx_, sR_ r] [(.ref hx_)])) rfl rfl (hb hby d_rm_raw_1)
      refine Goes.go (U' := (T_17.setTop (mkF m 4 #[sR_ hx_, sR_ r] [(.ref ax)]))) st_17 ?_
      refine Goes.go (U' := (T_17.setTop (mkF m 5 #[sR_ hx_, sR_ r] [(.ref r), (.ref ax)]))) (fun t kt => ?_) ?_
      · skip
        refine XS.aloadN X_17.here hx rfl (hb hby d_rm_raw_4) rfl rfl ?_
        exact kt
      obtain ⟨v_18, T_18, L_18, X_18, q_18, st_18⟩ := callVirtual X_17 hx hZ (y := (⟨"java/lang/StringBuilder", "append", "(Ljava/lang/String;)Ljava/lang/StringBuilder;"⟩ : MethodName)) (z := (⟨"java/lang/StringBuilder", "append", "(Ljava/lang/String;)Ljava/lang/StringBuilder;"⟩ : MethodName)) (W := 0) hown (wdOf hw 58 rfl) (wdOf hw 59 rfl) (notFace_of_selects (args := #[]) (mvT hZ (wdOf hw 61 rfl))) (wdOf hw 61 rfl) (wdOf hw 60 rfl) (wdOf hw 11 rfl) (wdOf hw 62 rfl) (by decide) (rm_sap101 l Z a0 hw [] kc sx ax ba r rb kb kr pn cs [xc] h0 n0 Z0 G O E1 F1_value F1_coder F1_count F1_maybeLatin1 V1 E2 F2_value F2_coder V2 o0 o1 nb hz hp hle hlc hld) (by decide) (by decide) (by decide) (by decide) e_17 E1 (g := (mkF m 5 #[sR_ hx_, sR_ r] [(.ref r), (.ref ax)])) rfl (by rw [hml]; rfl) (argsL := [(.ref r)]) (rest := []) (lenOf pd_28 rfl) rfl rfl (Nat.le_refl _) (hb hby d_rm_raw_5)
      obtain ⟨b_18, k_18, rfl, n_18, K_18, o_18, EQ_18, FQ_18_value, FQ_18_coder, FQ_18_count, FQ_18_maybeLatin1, VQ_18⟩ := q_18
      have N_18 := Fr.app N0 n_18
      have f_19 : Old Z n0 T_18.heap := O.keep K_18 (allS o0 (allS o1 all0))
      have f_20 : Exa Z T_18.heap hx_ "com/example/dead_letter_replay/deadletterreplay/page/Html" := Eh.keep K_18
      have f_21 : Fld Z T_18.heap hx_ "com/example/dead_letter_replay/deadletterreplay/page/Html" "html" "Ljava/lang/StringBuilder;" (.ref ax) := Fh.keep K_18 (ninS (ne_exa Eh E1 (by decide)) (ninS (Eh.neArv V1 (wdOf hw 1 rfl)) nin0))
      have f_22 : Exa Z T_18.heap ax "java/lang/StringBuilder" := E1.keep K_18
      have K_24 : Keep h0 T_18.heap [ax, ba] := K0.trans K_18 (allS (P := fun x => x ∈ [ax, ba] ∨ h0.size ≤ x) (Or.inl (List.mem_of_getElem? (i := 0) rfl)) (allS (P := fun x => x ∈ [ax, ba] ∨ h0.size ≤ x) (Or.inl (List.mem_of_getElem? (i := 1) rfl)) all0))
      have y_24 : n0 ≤ T_18.heap.size := Nat.le_trans Z0 K_24.1
      refine Goes.go (U' := (T_18.setTop (mkF m 8 #[sR_ hx_, sR_ r] [(.ref ax)]))) st_18 ?_
      refine Goes.go (U' := (T_18.setTop (mkF m 10 #[sR_ hx_, sR_ r] [(.ref hx_)]))) (fun t kt => ?_) ?_
      · skip
        refine XS.pop X_18.here hx rfl (hb hby d_rm_raw_8) rfl rfl ?_
        refine XS.aloadN X_18.here hx rfl (hb hby d_rm_raw_9) rfl rfl ?_
        exact kt
      refine Goes.retA X_18 hx hlk hret rfl rfl (hb hby d_rm_raw_10) (by decide) (by decide) ?_
      try rw [(rfl : T_18.heap = T_18.heap)]
      exact ⟨_, rfl, N_18, K_24, o_18, f_20, f_21, (hp.add hz (by simp; omega)).cong (by simp), Or.inr ⟨⟨_, f_22, FQ_18_value, FQ_18_coder, FQ_18_count, FQ_18_maybeLatin1, VQ_18⟩, allA hlc (allCh hld)⟩⟩
    · -- string 1
      refine Goes.go (U' := (s₁.setTop (mkF m 1 #[sR_ hx_, sR_ r] [(.ref hx_)]))) (fun t kt => ?_) ?_
      · skip
        refine XS.aloadN X0.here hx rfl (hb hby d_rm_raw_0) rfl rfl ?_
        exact kt
      obtain ⟨T_25, X_25, e_25, st_25⟩ := getF X0 hx hZ hown (host := "") (Or.inl (wdOf hw 29 rfl)) Via.refl e0 Fh (g := (mkF m 1 #[sR_ hx_, sR_ r] [(.ref hx_)])) rfl rfl (hb hby d_rm_raw_1)
      refine Goes.go (U' := (T_25.setTop (mkF m 4 #[sR_ hx_, sR_ r] [(.ref ax)]))) st_25 ?_
      refine Goes.go (U' := (T_25.setTop (mkF m 5 #[sR_ hx_, sR_ r] [(.ref r), (.ref ax)]))) (fun t kt => ?_) ?_
      · skip
        refine XS.aloadN X_25.here hx rfl (hb hby d_rm_raw_4) rfl rfl ?_
        exact kt
      obtain ⟨v_26, T_26, L_26, X_26, q_26, st_26⟩ := callVirtual X_25 hx hZ (y := (⟨"java/lang/StringBuilder", "append", "(Ljava/lang/String;)Ljava/lang/StringBuilder;"⟩ : MethodName)) (z := (⟨"java/lang/StringBuilder", "append", "(Ljava/lang/String;)Ljava/lang/StringBuilder;"⟩ : MethodName)) (W := 0) hown (wdOf hw 58 rfl) (wdOf hw 59 rfl) (notFace_of_selects (args := #[]) (mvT hZ (wdOf hw 61 rfl))) (wdOf hw 61 rfl) (wdOf hw 60 rfl) (wdOf hw 11 rfl) (wdOf hw 62 rfl) (by decide) (rm_sap111 l Z a0 hw [] kc sx ax ba r rb kb kr pn cs [xc] h0 n0 Z0 G O E1 F1_value F1_coder F1_count F1_maybeLatin1 V1 E2 F2_value F2_coder V2 o0 o1 nb hz hp hle hlc hld) (by decide) (by decide) (by decide) (by decide) e_25 E1 (g := (mkF m 5 #[sR_ hx_, sR_ r] [(.ref r), (.ref ax)])) rfl (by rw [hml]; rfl) (argsL := [(.ref r)]) (rest := []) (lenOf pd_28 rfl) rfl rfl (Nat.le_refl _) (hb hby d_rm_raw_5)
      obtain ⟨b_26, k_26, rfl, n_26, K_26, o_26, EQ_26, FQ_26_value, FQ_26_coder, FQ_26_count, FQ_26_maybeLatin1, VQ_26⟩ := q_26
      have N_26 := Fr.app N0 n_26
      have f_27 : Old Z n0 T_26.heap := O.keep K_26 (allS o0 (allS o1 all0))
      have f_28 : Exa Z T_26.heap hx_ "com/example/dead_letter_replay/deadletterreplay/page/Html" := Eh.keep K_26
      have f_29 : Fld Z T_26.heap hx_ "com/example/dead_letter_replay/deadletterreplay/page/Html" "html" "Ljava/lang/StringBuilder;" (.ref ax) := Fh.keep K_26 (ninS (ne_exa Eh E1 (by decide)) (ninS (Eh.neArv V1 (wdOf hw 1 rfl)) nin0))
      have f_30 : Exa Z T_26.heap ax "java/lang/StringBuilder" := E1.keep K_26
      have K_32 : Keep h0 T_26.heap [ax, ba] := K0.trans K_26 (allS (P := fun x => x ∈ [ax, ba] ∨ h0.size ≤ x) (Or.inl (List.mem_of_getElem? (i := 0) rfl)) (allS (P := fun x => x ∈ [ax, ba] ∨ h0.size ≤ x) (Or.inl (List.mem_of_getElem? (i := 1) rfl)) all0))
      have y_32 : n0 ≤ T_26.heap.size := Nat.le_trans Z0 K_32.1
      refine Goes.go (U' := (T_26.setTop (mkF m 8 #[sR_ hx_, sR_ r] [(.ref ax)]))) st_26 ?_
      refine Goes.go (U' := (T_26.setTop (mkF m 10 #[sR_ hx_, sR_ r] [(.ref hx_)]))) (fun t kt => ?_) ?_
      · skip
        refine XS.pop X_26.here hx rfl (hb hby d_rm_raw_8) rfl rfl ?_
        refine XS.aloadN X_26.here hx rfl (hb hby d_rm_raw_9) rfl rfl ?_
        exact kt
      refine Goes.retA X_26 hx hlk hret rfl rfl (hb hby d_rm_raw_10) (by decide) (by decide) ?_
      try rw [(rfl : T_26.heap = T_26.heap)]
      exact ⟨_, rfl, N_26, K_32, o_26, f_28, f_29, (hp.add hz (by simp; omega)).cong (by simp), Or.inr ⟨⟨_, f_30, FQ_26_value, FQ_26_coder, FQ_26_count, FQ_26_maybeLatin1, VQ_26⟩, allA hlc hld⟩⟩
theorem d_rm_gv_0 : decode jdk_68_method_64_code 0 = .ok (.aload_n 0, 1) := by decide +kernel
theorem d_rm_gv_1 : decode jdk_68_method_64_code 1 = .ok (.getfield 15, 3) := by decide +kernel
theorem d_rm_gv_4 : decode jdk_68_method_64_code 4 = .ok (.areturn, 1) := by decide +kernel
set_option maxHeartbeats 4000000 in
theorem ef_rm_gv (m : MethodId) (x0 : Addr)  : entryFrame m #[(.ref x0)] 1 = mkF m 0 #[.val (.ref x0)] [] := by first | (simp [entryFrame, mkF, argsToLocals, catR, catN, catI, catJ]; done) | rfl
set_option maxRecDepth 65536 in
set_option maxHeartbeats 40000000 in
theorem rm_gv (l : Launch) (Z : State) (a0 : Array Value) (hw : ∀ d ∈ tables_1, d.before a0 Z = true) (ws : List Jvm.Cond) (kc : Int32) (sx : Value) (ax ba : Addr) (h0 : Heap) (n0 : Nat) (Z0 : n0 ≤ h0.size) (G : Stt Z kc sx) (O : Old Z n0 h0) (Fv : Fld Z h0 ax "java/lang/AbstractStringBuilder" "value" "[B" (.ref ba))  :
    Pays l Z (⟨"java/lang/AbstractStringBuilder", "getValue", "()[B"⟩ : MethodName) jdk_68_method_64_code 1 (some (.array .byte)) ws ({ frames := 0, cells := 0, slots := 0, locals := 0 } : Room) #[(.ref ax)] h0 (fun v h L => v = some (.ref ba) ∧ Fr n0 L ∧ h = h0) := by
  refine Pays.of (plainFor_of_name (by first | (simp [plainName, overriddenIn]; done) | decide +kernel)) ?_
  intro p e s m below meth c s₁ hx hby hml hown hnm hret hlk hZ e0 X0
  have N0 := Fr.nil n0
  have K0 : Keep h0 h0 [] := Keep.refl _ _
  refine Goes.go (U' := (s₁.setTop (mkF m 0 #[sR_ ax] []))) (fun t kt => castTop (ef_rm_gv m ax) kt) ?_
  refine Goes.go (U' := (s₁.setTop (mkF m 1 #[sR_ ax] [(.ref ax)]))) (fun t kt => ?_) ?_
  · skip
    refine XS.aloadN X0.here hx rfl (hb hby d_rm_gv_0) rfl rfl ?_
    exact kt
  obtain ⟨T_1, X_1, e_1, st_1⟩ := getF X0 hx hZ hown (host := "") (Or.inl (wdOf hw 25 rfl)) Via.refl e0 Fv (g := (mkF m 1 #[sR_ ax] [(.ref ax)])) rfl rfl (hb hby d_rm_gv_1)
  refine Goes.go (U' := (T_1.setTop (mkF m 4 #[sR_ ax] [(.ref ba)]))) st_1 ?_
  refine Goes.retA X_1 hx hlk hret rfl rfl (hb hby d_rm_gv_4) (by decide) (by decide) ?_
  try rw [e_1]
  exact ⟨rfl, N0, rfl⟩
theorem d_rm_abl_0 : decode jdk_68_method_6_code 0 = .ok (.aload_n 0, 1) := by decide +kernel
theorem d_rm_abl_1 : decode jdk_68_method_6_code 1 = .ok (.getfield 79, 3) := by decide +kernel
theorem d_rm_abl_4 : decode jdk_68_method_6_code 4 = .ok (.ireturn, 1) := by decide +kernel
set_option maxHeartbeats 4000000 in
theorem ef_rm_abl (m : MethodId) (x0 : Addr)  : entryFrame m #[(.ref x0)] 1 = mkF m 0 #[.val (.ref x0)] [] := by first | (simp [entryFrame, mkF, argsToLocals, catR, catN, catI, catJ]; done) | rfl
set_option maxRecDepth 65536 in
set_option maxHeartbeats 40000000 in
theorem rm_abl (l : Launch) (Z : State) (a0 : Array Value) (hw : ∀ d ∈ tables_1, d.before a0 Z = true) (ws : List Jvm.Cond) (kc : Int32) (sx : Value) (ax : Addr) (xt : Int32) (h0 : Heap) (n0 : Nat) (Z0 : n0 ≤ h0.size) (G : Stt Z kc sx) (O : Old Z n0 h0) (Ea : Exa Z h0 ax "java/lang/StringBuilder") (Fc : Fld Z h0 ax "java/lang/AbstractStringBuilder" "count" "I" (.int xt))  :
    Pays l Z (⟨"java/lang/AbstractStringBuilder", "length", "()I"⟩ : MethodName) jdk_68_method_6_code 1 (some .int) ws ({ frames := 0, cells := 0, slots := 0, locals := 0 } : Room) #[(.ref ax)] h0 (fun v h L => v = some (.int xt) ∧ Fr n0 L ∧ h = h0) := by
  refine Pays.of (plainFor_of_name (by first | (simp [plainName, overriddenIn]; done) | decide +kernel)) ?_
  intro p e s m below meth c s₁ hx hby hml hown hnm hret hlk hZ e0 X0
  have N0 := Fr.nil n0
  have K0 : Keep h0 h0 [] := Keep.refl _ _
  refine Goes.go (U' := (s₁.setTop (mkF m 0 #[sR_ ax] []))) (fun t kt => castTop (ef_rm_abl m ax) kt) ?_
  refine Goes.go (U' := (s₁.setTop (mkF m 1 #[sR_ ax] [(.ref ax)]))) (fun t kt => ?_) ?_
  · skip
    refine XS.aloadN X0.here hx rfl (hb hby d_rm_abl_0) rfl rfl ?_
    exact kt
  obtain ⟨T_1, X_1, e_1, st_1⟩ := getF X0 hx hZ hown (host := "") (Or.inl (wdOf hw 78 rfl)) Via.refl e0 Fc (g := (mkF m 1 #[sR_ ax] [(.ref ax)])) rfl rfl (hb hby d_rm_abl_1)
  refine Goes.go (U' := (T_1.setTop (mkF m 4 #[sR_ ax] [(.int xt)]))) st_1 ?_
  refine Goes.retI X_1 hx hlk hret (hb hby d_rm_abl_4) (by decide) (by decide) ?_
  try rw [e_1]
  exact ⟨rfl, N0, rfl⟩
theorem d_rm_sbl_0 : decode jdk_67_method_93_code 0 = .ok (.aload_n 0, 1) := by decide +kernel
theorem d_rm_sbl_1 : decode jdk_67_method_93_code 1 = .ok (.invokespecial 343, 3) := by decide +kernel
theorem d_rm_sbl_4 : decode jdk_67_method_93_code 4 = .ok (.ireturn, 1) := by decide +kernel
set_option maxHeartbeats 4000000 in
theorem ef_rm_sbl (m : MethodId) (x0 : Addr)  : entryFrame m #[(.ref x0)] 1 = mkF m 0 #[.val (.ref x0)] [] := by first | (simp [entryFrame, mkF, argsToLocals, catR, catN, catI, catJ]; done) | rfl
set_option maxRecDepth 65536 in
set_option maxHeartbeats 40000000 in
theorem rm_sbl (l : Launch) (Z : State) (a0 : Array Value) (hw : ∀ d ∈ tables_1, d.before a0 Z = true) (ws : List Jvm.Cond) (kc : Int32) (sx : Value) (ax : Addr) (xt : Int32) (h0 : Heap) (n0 : Nat) (Z0 : n0 ≤ h0.size) (G : Stt Z kc sx) (O : Old Z n0 h0) (Ea : Exa Z h0 ax "java/lang/StringBuilder") (Fc : Fld Z h0 ax "java/lang/AbstractStringBuilder" "count" "I" (.int xt))  :
    Pays l Z (⟨"java/lang/StringBuilder", "length", "()I"⟩ : MethodName) jdk_67_method_93_code 1 (some .int) ws ({ frames := 1, cells := 0, slots := 0, locals := 12 } : Room) #[(.ref ax)] h0 (fun v h L => v = some (.int xt) ∧ Fr n0 L ∧ h = h0) := by
  refine Pays.of (plainFor_of_name (by first | (simp [plainName, overriddenIn]; done) | decide +kernel)) ?_
  intro p e s m below meth c s₁ hx hby hml hown hnm hret hlk hZ e0 X0
  have N0 := Fr.nil n0
  have K0 : Keep h0 h0 [] := Keep.refl _ _
  refine Goes.go (U' := (s₁.setTop (mkF m 0 #[sR_ ax] []))) (fun t kt => castTop (ef_rm_sbl m ax) kt) ?_
  refine Goes.go (U' := (s₁.setTop (mkF m 1 #[sR_ ax] [(.ref ax)]))) (fun t kt => ?_) ?_
  · skip
    refine XS.aloadN X0.here hx rfl (hb hby d_rm_sbl_0) rfl rfl ?_
    exact kt
  obtain ⟨v_1, T_1, L_1, X_1, q_1, st_1⟩ := callSuper X0 hx hZ (y := (⟨"java/lang/AbstractStringBuilder", "length", "()I"⟩ : MethodName)) (W := 0) (by decide) hown (wdOf hw 159 rfl) (sameOf (wdOf hw 83 rfl) rfl (wdOf hw 155 rfl) (by decide)) (wdOf hw 155 rfl) (wdOf hw 65 rfl) (wdOf hw 19 rfl) (wdOf hw 160 rfl) (rm_abl l Z a0 hw [] kc sx ax xt h0 n0 Z0 G O Ea Fc) (by decide) (by decide) (by decide) (by decide) e0 (Ins.self Ea) (g := (mkF m 1 #[sR_ ax] [(.ref ax)])) rfl (by rw [hml]; rfl) (argsL := []) (rest := []) (lenOf pd_24 rfl) rfl rfl (Nat.le_refl _) (hb hby d_rm_sbl_1)
  obtain ⟨rfl, n_1, K_1⟩ := q_1
  have N_1 := Fr.app N0 n_1
  refine Goes.go (U' := (T_1.setTop (mkF m 4 #[sR_ ax] [(.int xt)]))) st_1 ?_
  refine Goes.retI X_1 hx hlk hret (hb hby d_rm_sbl_4) (by decide) (by decide) ?_
  try rw [K_1]
  exact ⟨rfl, N_1, rfl⟩
theorem d_rm_s20_0 : decode jdk_42_method_150_code 0 = .ok (.aload_n 0, 1) := by decide +kernel
theorem d_rm_s20_1 : decode jdk_42_method_150_code 1 = .ok (.invokespecial 1, 3) := by decide +kernel
theorem d_rm_s20_4 : decode jdk_42_method_150_code 4 = .ok (.aload_n 1, 1) := by decide +kernel
theorem d_rm_s20_5 : decode jdk_42_method_150_code 5 = .ok (.invokevirtual 552, 3) := by decide +kernel
theorem d_rm_s20_8 : decode jdk_42_method_150_code 8 = .ok (.astore_n 3, 1) := by decide +kernel
theorem d_rm_s20_9 : decode jdk_42_method_150_code 9 = .ok (.aload_n 1, 1) := by decide +kernel
theorem d_rm_s20_10 : decode jdk_42_method_150_code 10 = .ok (.invokevirtual 549, 3) := by decide +kernel
theorem d_rm_s20_13 : decode jdk_42_method_150_code 13 = .ok (.istore 4, 2) := by decide +kernel
theorem d_rm_s20_15 : decode jdk_42_method_150_code 15 = .ok (.aload_n 1, 1) := by decide +kernel
theorem d_rm_s20_16 : decode jdk_42_method_150_code 16 = .ok (.invokevirtual 1047, 3) := by decide +kernel
theorem d_rm_s20_19 : decode jdk_42_method_150_code 19 = .ok (.ifCond .eq 22, 3) := by decide +kernel
theorem d_rm_s20_22 : decode jdk_42_method_150_code 22 = .ok (.aload_n 0, 1) := by decide +kernel
theorem d_rm_s20_23 : decode jdk_42_method_150_code 23 = .ok (.iconst 0, 1) := by decide +kernel
theorem d_rm_s20_24 : decode jdk_42_method_150_code 24 = .ok (.putfield 15, 3) := by decide +kernel
theorem d_rm_s20_27 : decode jdk_42_method_150_code 27 = .ok (.aload_n 0, 1) := by decide +kernel
theorem d_rm_s20_28 : decode jdk_42_method_150_code 28 = .ok (.aload_n 3, 1) := by decide +kernel
theorem d_rm_s20_29 : decode jdk_42_method_150_code 29 = .ok (.iconst 0, 1) := by decide +kernel
theorem d_rm_s20_30 : decode jdk_42_method_150_code 30 = .ok (.iload 4, 2) := by decide +kernel
theorem d_rm_s20_32 : decode jdk_42_method_150_code 32 = .ok (.invokestatic 54, 3) := by decide +kernel
theorem d_rm_s20_35 : decode jdk_42_method_150_code 35 = .ok (.putfield 9, 3) := by decide +kernel
theorem d_rm_s20_38 : decode jdk_42_method_150_code 38 = .ok (.goto 59, 3) := by decide +kernel
theorem d_rm_s20_97 : decode jdk_42_method_150_code 97 = .ok (.return_, 1) := by decide +kernel
set_option maxHeartbeats 4000000 in
theorem ef_rm_s20 (m : MethodId) (x0 : Addr) (x1 : Addr)  : entryFrame m #[(.ref x0), (.ref x1), .null] 5 = mkF m 0 #[.val (.ref x0), .val (.ref x1), .val .null, .unset, .unset] [] := by first | (simp [entryFrame, mkF, argsToLocals, catR, catN, catI, catJ]; done) | rfl
set_option maxRecDepth 65536 in
set_option maxHeartbeats 40000000 in
theorem rm_s20 (l : Launch) (Z : State) (a0 : Array Value) (hw : ∀ d ∈ tables_1, d.before a0 Z = true) (ws : List Jvm.Cond) (kc : Int32) (sx : Value) (r ax ba : Addr) (kb : ClassId) (xt : Int32) (cs : List Int32) (h0 : Heap) (n0 : Nat) (Z0 : n0 ≤ h0.size) (G : Stt Z kc sx) (O : Old Z n0 h0) (E0 : Exa Z h0 r "java/lang/String") (F0_value : Fld Z h0 r "java/lang/String" "value" "[B" .null) (F0_coder : Fld Z h0 r "java/lang/String" "coder" "B" (.int (0 : Int32))) (E1 : Exa Z h0 ax "java/lang/StringBuilder") (F1_value : Fld Z h0 ax "java/lang/AbstractStringBuilder" "value" "[B" (.ref ba)) (F1_coder : Fld Z h0 ax "java/lang/AbstractStringBuilder" "coder" "B" (.int (0 : Int32))) (F1_count : Fld Z h0 ax "java/lang/AbstractStringBuilder" "count" "I" (.int xt)) (F1_maybeLatin1 : Fld Z h0 ax "java/lang/AbstractStringBuilder" "maybeLatin1" "Z" (.int (0 : Int32))) (V1 : Arv Z h0 ba kb .byte (34 : Int32) (L1 cs) (.int (0 : Int32))) (o0 : n0 ≤ r) (hz : Sz xt cs.length) (hle : cs.length ≤ 27) :
    Pays l Z (⟨"java/lang/String", "<init>", "(Ljava/lang/AbstractStringBuilder;Ljava/lang/Void;)V"⟩ : MethodName) jdk_42_method_150_code 5 none ws ({ frames := 3, cells := 1, slots := 54, locals := 49 } : Room) #[(.ref r), (.ref ax), .null] h0 (fun v h L => ∃ rb k, v = none ∧ Fr n0 L ∧ Keep h0 h [r] ∧ Exa Z h r "java/lang/String" ∧ Fld Z h r "java/lang/String" "value" "[B" (.ref rb) ∧ Fld Z h r "java/lang/String" "coder" "B" (.int (0 : Int32)) ∧ Arv Z h rb k .byte xt (L1 cs) (.int (0 : Int32))) := by
  refine Pays.of (plainFor_of_name (by first | (simp [plainName, overriddenIn]; done) | decide +kernel)) ?_
  intro p e s m below meth c s₁ hx hby hml hown hnm hret hlk hZ e0 X0
  have N0 := Fr.nil n0
  have K0 : Keep h0 h0 [r] := Keep.refl _ _
  refine Goes.go (U' := (s₁.setTop (mkF m 0 #[sR_ r, sR_ ax, .val .null, sU_, sU_] []))) (fun t kt => castTop (ef_rm_s20 m r ax) kt) ?_
  refine Goes.go (U' := (s₁.setTop (mkF m 1 #[sR_ r, sR_ ax, .val .null, sU_, sU_] [(.ref r)]))) (fun t kt => ?_) ?_
  · skip
    refine XS.aloadN X0.here hx rfl (hb hby d_rm_s20_0) rfl rfl ?_
    exact kt
  obtain ⟨T_1, X_1, e_1, st_1⟩ := initO X0 hx hZ hown (wdOf hw 48 rfl) (wdOf hw 7 rfl) (wdOf hw 8 rfl) e0 (g := (mkF m 1 #[sR_ r, sR_ ax, .val .null, sU_, sU_] [(.ref r)])) rfl (by rw [hml]; rfl) rfl (hb hby d_rm_s20_1) (by decide) (W := 0) (Nat.le_refl _) (by decide)
  refine Goes.go (U' := (T_1.setTop (mkF m 4 #[sR_ r, sR_ ax, .val .null, sU_, sU_] []))) st_1 ?_
  refine Goes.go (U' := (T_1.setTop (mkF m 5 #[sR_ r, sR_ ax, .val .null, sU_, sU_] [(.ref ax)]))) (fun t kt => ?_) ?_
  · skip
    refine XS.aloadN X_1.here hx rfl (hb hby d_rm_s20_4) rfl rfl ?_
    exact kt
  obtain ⟨v_2, T_2, L_2, X_2, q_2, st_2⟩ := callVirtual X_1 hx hZ (y := (⟨"java/lang/AbstractStringBuilder", "getValue", "()[B"⟩ : MethodName)) (z := (⟨"java/lang/AbstractStringBuilder", "getValue", "()[B"⟩ : MethodName)) (W := 0) hown (wdOf hw 148 rfl) (wdOf hw 149 rfl) (notFace_of_selects (args := #[]) (mvT hZ (wdOf hw 151 rfl))) (wdOf hw 151 rfl) (wdOf hw 150 rfl) (wdOf hw 19 rfl) (wdOf hw 152 rfl) (by decide) (rm_gv l Z a0 hw [] kc sx ax ba h0 n0 Z0 G O F1_value) (by decide) (by decide) (by decide) (by decide) e_1 E1 (g := (mkF m 5 #[sR_ r, sR_ ax, .val .null, sU_, sU_] [(.ref ax)])) rfl (by rw [hml]; rfl) (argsL := []) (rest := []) (lenOf pd_29 rfl) rfl rfl (Nat.le_refl _) (hb hby d_rm_s20_5)
  obtain ⟨rfl, n_2, K_2⟩ := q_2
  have N_2 := Fr.app N0 n_2
  refine Goes.go (U' := (T_2.setTop (mkF m 8 #[sR_ r, sR_ ax, .val .null, sU_, sU_] [(.ref ba)]))) st_2 ?_
  refine Goes.go (U' := (T_2.setTop (mkF m 10 #[sR_ r, sR_ ax, .val .null, sR_ ba, sU_] [(.ref ax)]))) (fun t kt => ?_) ?_
  · skip
    refine XS.astoreN X_2.here hx rfl (hb hby d_rm_s20_8) rfl rfl (l' := #[sR_ r, sR_ ax, .val .null, sR_ ba, sU_]) rfl ?_
    refine XS.aloadN X_2.here hx rfl (hb hby d_rm_s20_9) rfl rfl ?_
    exact kt
  obtain ⟨v_3, T_3, L_3, X_3, q_3, st_3⟩ := callVirtual X_2 hx hZ (y := (⟨"java/lang/AbstractStringBuilder", "length", "()I"⟩ : MethodName)) (z := (⟨"java/lang/StringBuilder", "length", "()I"⟩ : MethodName)) (W := 0) hown (wdOf hw 153 rfl) (wdOf hw 154 rfl) (faceOf (args := #[]) (mvT hZ (wdOf hw 83 rfl)) rfl) (wdOf hw 156 rfl) (wdOf hw 157 rfl) (wdOf hw 11 rfl) (wdOf hw 158 rfl) (by decide) (rm_sbl l Z a0 hw [] kc sx ax xt h0 n0 Z0 G O E1 F1_count) (by decide) (by decide) (by decide) (by decide) K_2 E1 (g := (mkF m 10 #[sR_ r, sR_ ax, .val .null, sR_ ba, sU_] [(.ref ax)])) rfl (by rw [hml]; rfl) (argsL := []) (rest := []) (lenOf pd_24 rfl) rfl rfl (Nat.le_refl _) (hb hby d_rm_s20_10)
  obtain ⟨rfl, n_3, K_3⟩ := q_3
  have N_3 := Fr.app N_2 n_3
  refine Goes.go (U' := (T_3.setTop (mkF m 13 #[sR_ r, sR_ ax, .val .null, sR_ ba, sU_] [(.int xt)]))) st_3 ?_
  refine Goes.go (U' := (T_3.setTop (mkF m 16 #[sR_ r, sR_ ax, .val .null, sR_ ba, sI_ xt] [(.ref ax)]))) (fun t kt => ?_) ?_
  · skip
    refine XS.istore X_3.here hx rfl (hb hby d_rm_s20_13) rfl (l' := #[sR_ r, sR_ ax, .val .null, sR_ ba, sI_ xt]) rfl ?_
    refine XS.aloadN X_3.here hx rfl (hb hby d_rm_s20_15) rfl rfl ?_
    exact kt
  obtain ⟨v_4, T_4, L_4, X_4, q_4, st_4⟩ := callVirtual X_3 hx hZ (y := (⟨"java/lang/AbstractStringBuilder", "isLatin1", "()Z"⟩ : MethodName)) (z := (⟨"java/lang/AbstractStringBuilder", "isLatin1", "()Z"⟩ : MethodName)) (W := 0) hown (wdOf hw 161 rfl) (wdOf hw 162 rfl) (notFace_of_selects (args := #[]) (mvT hZ (wdOf hw 164 rfl))) (wdOf hw 164 rfl) (wdOf hw 163 rfl) (wdOf hw 19 rfl) (wdOf hw 165 rfl) (by decide) (rm_ail0 l Z a0 hw [] kc sx ax h0 n0 Z0 G O F1_coder) (by decide) (by decide) (by decide) (by decide) K_3 E1 (g := (mkF m 16 #[sR_ r, sR_ ax, .val .null, sR_ ba, sI_ xt] [(.ref ax)])) rfl (by rw [hml]; rfl) (argsL := []) (rest := []) (lenOf pd_17 rfl) rfl rfl (Nat.le_refl _) (hb hby d_rm_s20_16)
  obtain ⟨rfl, n_4, K_4⟩ := q_4
  have N_4 := Fr.app N_3 n_4
  refine Goes.go (U' := (T_4.setTop (mkF m 19 #[sR_ r, sR_ ax, .val .null, sR_ ba, sI_ xt] [(.int (1 : Int32))]))) st_4 ?_
  refine Goes.go (U' := (T_4.setTop (mkF m 24 #[sR_ r, sR_ ax, .val .null, sR_ ba, sI_ xt] [(.int (0 : Int32)), (.ref r)]))) (fun t kt => ?_) ?_
  · skip
    refine XS.ifNo X_4.here hx rfl (hb hby d_rm_s20_19) rfl (XT.i0_eq_f (by decide)) ?_
    refine XS.aloadN X_4.here hx rfl (hb hby d_rm_s20_22) rfl rfl ?_
    refine XS.iconst X_4.here hx rfl (hb hby d_rm_s20_23) ?_
    exact kt
  obtain ⟨T_5, h_5, X_5, e_5, W_5, st_5⟩ := putFN X_4 hx hZ hown (wdOf hw 51 rfl) Via.refl K_4 F0_coder E0 (Or.inr ⟨wdOf hw 52 rfl, rfl, hnm⟩) (wdOf hw 40 rfl) (ty := .byte) (v' := (.int (0 : Int32))) (by decide) rfl rfl (g := (mkF m 24 #[sR_ r, sR_ ax, .val .null, sR_ ba, sI_ xt] [(.int (0 : Int32)), (.ref r)])) rfl rfl (hb hby d_rm_s20_24)
  have N_5 := Fr.snoc X_5 N_4 o0
  have f_6 : Old Z n0 h_5 := O.wr W_5 o0
  have f_7 : Exa Z h_5 r "java/lang/String" := E0.wr W_5
  have f_8 : Fld Z h_5 r "java/lang/String" "value" "[B" .null := F0_value.other W_5 (Or.inr (slot_ne (Or.inr (wdOf hw 50 rfl)) (Or.inr (wdOf hw 52 rfl)) (by decide) (t := (.array .byte)) (t' := .byte) (by decide) (by decide)))
  have f_9 : Fld Z h_5 r "java/lang/String" "coder" "B" (.int (0 : Int32)) := F0_coder.same W_5
  have f_10 : Exa Z h_5 ax "java/lang/StringBuilder" := E1.wr W_5
  have f_11 : Fld Z h_5 ax "java/lang/AbstractStringBuilder" "value" "[B" (.ref ba) := F1_value.other W_5 (Or.inl (ne_exa E1 E0 (by decide)))
  have f_12 : Fld Z h_5 ax "java/lang/AbstractStringBuilder" "coder" "B" (.int (0 : Int32)) := F1_coder.other W_5 (Or.inl (ne_exa E1 E0 (by decide)))
  have f_13 : Fld Z h_5 ax "java/lang/AbstractStringBuilder" "count" "I" (.int xt) := F1_count.other W_5 (Or.inl (ne_exa E1 E0 (by decide)))
  have f_14 : Fld Z h_5 ax "java/lang/AbstractStringBuilder" "maybeLatin1" "Z" (.int (0 : Int32)) := F1_maybeLatin1.other W_5 (Or.inl (ne_exa E1 E0 (by decide)))
  have f_15 : Arv Z h_5 ba kb .byte (34 : Int32) (L1 cs) (.int (0 : Int32)) := V1.other W_5 (Ne.symm (E0.neArv V1 (wdOf hw 40 rfl)))
  have K_16 : Keep h0 h_5 [r] := K0.wr W_5 (Or.inl (List.mem_of_getElem? (i := 0) rfl))
  have y_16 : n0 ≤ h_5.size := Nat.le_trans Z0 K_16.1
  refine Goes.go (U' := (T_5.setTop (mkF m 27 #[sR_ r, sR_ ax, .val .null, sR_ ba, sI_ xt] []))) st_5 ?_
  have tn : (xt).toNatClampNeg = cs.length := hz.nat
  have tc : (34 : Int32).toNatClampNeg = 34 := rfl
  have tp : ¬ (xt) < 0 := hz.pos
  refine Goes.go (U' := (T_5.setTop (mkF m 32 #[sR_ r, sR_ ax, .val .null, sR_ ba, sI_ xt] [(.int xt), (.int (0 : Int32)), (.ref ba), (.ref r)]))) (fun t kt => ?_) ?_
  · skip
    refine XS.aloadN X_5.here hx rfl (hb hby d_rm_s20_27) rfl rfl ?_
    refine XS.aloadN X_5.here hx rfl (hb hby d_rm_s20_28) rfl rfl ?_
    refine XS.iconst X_5.here hx rfl (hb hby d_rm_s20_29) ?_
    refine XS.iload X_5.here hx rfl (hb hby d_rm_s20_30) rfl ?_
    exact kt
  obtain ⟨v_17, T_17, L_17, X_17, q_17, st_17⟩ := callStatic X_5 hx hZ (y := (⟨"java/util/Arrays", "copyOfRange", "([BII)[B"⟩ : MethodName)) (W := 1) hown (wdOf hw 166 rfl) (wdOf hw 167 rfl) (wdOf hw 130 rfl) (wdOf hw 168 rfl) (by decide) (rm_cr l Z a0 hw [] kc sx ba kb xt (34 : Int32) (L1 cs) h_5 n0 y_16 G f_6 f_15 (fun y => by rw [y, tc] at tn; omega) tp (lt_of tp (by rw [tn, tc]; omega)) (by rw [tn]; omega) (by rw [L1_len, tn]; omega) (by rw [tn, tc]; omega)) (by decide) (by decide) (by decide) (by decide) e_5 (g := (mkF m 32 #[sR_ r, sR_ ax, .val .null, sR_ ba, sI_ xt] [(.int xt), (.int (0 : Int32)), (.ref ba), (.ref r)])) rfl (by rw [hml]; rfl) (argsL := [(.ref ba), (.int (0 : Int32)), (.int xt)]) (rest := [(.ref r)]) (lenOf pd_8 rfl) rfl rfl (Nat.le_refl _) (hb hby d_rm_s20_32)
  obtain ⟨r_17, k_17, rfl, n_17, K_17, z_17, V_17⟩ := q_17
  have ne_18 : r ≠ r_17 := Nat.ne_of_lt (Nat.lt_of_lt_of_le f_7.lt z_17)
  have ne_19 : ax ≠ r_17 := Nat.ne_of_lt (Nat.lt_of_lt_of_le f_10.lt z_17)
  have ne_20 : ba ≠ r_17 := Nat.ne_of_lt (Nat.lt_of_lt_of_le f_15.lt z_17)
  have o_21 : n0 ≤ r_17 := Nat.le_trans y_16 z_17
  have z_22 : h0.size ≤ r_17 := Nat.le_trans K_16.1 z_17
  have N_17 := Fr.app N_5 n_17
  have f_23 : Old Z n0 T_17.heap := f_6.ext K_17
  have f_24 : Exa Z T_17.heap r "java/lang/String" := f_7.ext K_17
  have f_25 : Fld Z T_17.heap r "java/lang/String" "value" "[B" .null := f_8.ext K_17
  have f_26 : Fld Z T_17.heap r "java/lang/String" "coder" "B" (.int (0 : Int32)) := f_9.ext K_17
  have f_27 : Exa Z T_17.heap ax "java/lang/StringBuilder" := f_10.ext K_17
  have f_28 : Fld Z T_17.heap ax "java/lang/AbstractStringBuilder" "value" "[B" (.ref ba) := f_11.ext K_17
  have f_29 : Fld Z T_17.heap ax "java/lang/AbstractStringBuilder" "coder" "B" (.int (0 : Int32)) := f_12.ext K_17
  have f_30 : Fld Z T_17.heap ax "java/lang/AbstractStringBuilder" "count" "I" (.int xt) := f_13.ext K_17
  have f_31 : Fld Z T_17.heap ax "java/lang/AbstractStringBuilder" "maybeLatin1" "Z" (.int (0 : Int32)) := f_14.ext K_17
  have f_32 : Arv Z T_17.heap ba kb .byte (34 : Int32) (L1 cs) (.int (0 : Int32)) := f_15.ext K_17
  have K_33 : Keep h0 T_17.heap [r] := K_16.ext K_17
  have y_33 : n0 ≤ T_17.heap.size := Nat.le_trans Z0 K_33.1
  refine Goes.go (U' := (T_17.setTop (mkF m 35 #[sR_ r, sR_ ax, .val .null, sR_ ba, sI_ xt] [(.ref r_17), (.ref r)]))) st_17 ?_
  obtain ⟨T_34, h_34, X_34, e_34, W_34, st_34⟩ := putF X_17 hx hZ hown (host := "") (Or.inl (wdOf hw 49 rfl)) Via.refl (rfl : T_17.heap = T_17.heap) f_25 f_24 (Or.inr ⟨wdOf hw 50 rfl, rfl, hnm⟩) (wdOf hw 40 rfl) (ty := (.array .byte)) (by decide) rfl rfl (g := (mkF m 35 #[sR_ r, sR_ ax, .val .null, sR_ ba, sI_ xt] [(.ref r_17), (.ref r)])) rfl rfl (hb hby d_rm_s20_35)
  have N_34 := Fr.snoc X_34 N_17 o0
  have f_35 : Old Z n0 h_34 := f_23.wr W_34 o0
  have f_36 : Exa Z h_34 r "java/lang/String" := f_24.wr W_34
  have f_37 : Fld Z h_34 r "java/lang/String" "value" "[B" (.ref r_17) := f_25.same W_34
  have f_38 : Fld Z h_34 r "java/lang/String" "coder" "B" (.int (0 : Int32)) := f_26.other W_34 (Or.inr (slot_ne (Or.inr (wdOf hw 52 rfl)) (Or.inr (wdOf hw 50 rfl)) (by decide) (t := .byte) (t' := (.array .byte)) (by decide) (by decide)))
  have f_39 : Exa Z h_34 ax "java/lang/StringBuilder" := f_27.wr W_34
  have f_40 : Fld Z h_34 ax "java/lang/AbstractStringBuilder" "value" "[B" (.ref ba) := f_28.other W_34 (Or.inl (ne_exa f_27 f_24 (by decide)))
  have f_41 : Fld Z h_34 ax "java/lang/AbstractStringBuilder" "coder" "B" (.int (0 : Int32)) := f_29.other W_34 (Or.inl (ne_exa f_27 f_24 (by decide)))
  have f_42 : Fld Z h_34 ax "java/lang/AbstractStringBuilder" "count" "I" (.int xt) := f_30.other W_34 (Or.inl (ne_exa f_27 f_24 (by decide)))
  have f_43 : Fld Z h_34 ax "java/lang/AbstractStringBuilder" "maybeLatin1" "Z" (.int (0 : Int32)) := f_31.other W_34 (Or.inl (ne_exa f_27 f_24 (by decide)))
  have f_44 : Arv Z h_34 ba kb .byte (34 : Int32) (L1 cs) (.int (0 : Int32)) := f_32.other W_34 (Ne.symm (f_24.neArv f_32 (wdOf hw 40 rfl)))
  have f_45 : Arv Z h_34 r_17 k_17 .byte xt (L1 cs) (.int (0 : Int32)) := V_17.other W_34 (Ne.symm ne_18)
  have K_46 : Keep h0 h_34 [r] := K_33.wr W_34 (Or.inl (List.mem_of_getElem? (i := 0) rfl))
  have y_46 : n0 ≤ h_34.size := Nat.le_trans Z0 K_46.1
  refine Goes.go (U' := (T_34.setTop (mkF m 38 #[sR_ r, sR_ ax, .val .null, sR_ ba, sI_ xt] []))) st_34 ?_
  refine Goes.go (U' := (T_34.setTop (mkF m 97 #[sR_ r, sR_ ax, .val .null, sR_ ba, sI_ xt] []))) (fun t kt => ?_) ?_
  · skip
    refine XS.goto X_34.here hx rfl (pc0 := 38) (pc' := 97) rfl (hb hby d_rm_s20_38) (by decide) (by decide) ?_
    exact kt
  refine Goes.retV X_34 hx hlk hret (hb hby d_rm_s20_97) (by decide) (by decide) ?_
  try rw [e_34]
  exact ⟨_, _, rfl, N_34, K_46, f_36, f_37, f_38, f_45⟩
theorem d_rm_s10_0 : decode jdk_42_method_53_code 0 = .ok (.aload_n 0, 1) := by decide +kernel
theorem d_rm_s10_1 : decode jdk_42_method_53_code 1 = .ok (.aload_n 1, 1) := by decide +kernel
theorem d_rm_s10_2 : decode jdk_42_method_53_code 2 = .ok (.aconst_null, 1) := by decide +kernel
theorem d_rm_s10_3 : decode jdk_42_method_53_code 3 = .ok (.invokespecial 489, 3) := by decide +kernel
theorem d_rm_s10_6 : decode jdk_42_method_53_code 6 = .ok (.return_, 1) := by decide +kernel
set_option maxHeartbeats 4000000 in
theorem ef_rm_s10 (m : MethodId) (x0 : Addr) (x1 : Addr)  : entryFrame m #[(.ref x0), (.ref x1)] 2 = mkF m 0 #[.val (.ref x0), .val (.ref x1)] [] := by first | (simp [entryFrame, mkF, argsToLocals, catR, catN, catI, catJ]; done) | rfl
set_option maxRecDepth 65536 in
set_option maxHeartbeats 40000000 in
theorem rm_s10 (l : Launch) (Z : State) (a0 : Array Value) (hw : ∀ d ∈ tables_1, d.before a0 Z = true) (ws : List Jvm.Cond) (kc : Int32) (sx : Value) (r ax ba : Addr) (kb : ClassId) (xt : Int32) (cs : List Int32) (h0 : Heap) (n0 : Nat) (Z0 : n0 ≤ h0.size) (G : Stt Z kc sx) (O : Old Z n0 h0) (E0 : Exa Z h0 r "java/lang/String") (F0_value : Fld Z h0 r "java/lang/String" "value" "[B" .null) (F0_coder : Fld Z h0 r "java/lang/String" "coder" "B" (.int (0 : Int32))) (E1 : Exa Z h0 ax "java/lang/StringBuilder") (F1_value : Fld Z h0 ax "java/lang/AbstractStringBuilder" "value" "[B" (.ref ba)) (F1_coder : Fld Z h0 ax "java/lang/AbstractStringBuilder" "coder" "B" (.int (0 : Int32))) (F1_count : Fld Z h0 ax "java/lang/AbstractStringBuilder" "count" "I" (.int xt)) (F1_maybeLatin1 : Fld Z h0 ax "java/lang/AbstractStringBuilder" "maybeLatin1" "Z" (.int (0 : Int32))) (V1 : Arv Z h0 ba kb .byte (34 : Int32) (L1 cs) (.int (0 : Int32))) (o0 : n0 ≤ r) (hz : Sz xt cs.length) (hle : cs.length ≤ 27) :
    Pays l Z (⟨"java/lang/String", "<init>", "(Ljava/lang/StringBuilder;)V"⟩ : MethodName) jdk_42_method_53_code 2 none ws ({ frames := 4, cells := 1, slots := 54, locals := 65 } : Room) #[(.ref r), (.ref ax)] h0 (fun v h L => ∃ rb k, v = none ∧ Fr n0 L ∧ Keep h0 h [r] ∧ Exa Z h r "java/lang/String" ∧ Fld Z h r "java/lang/String" "value" "[B" (.ref rb) ∧ Fld Z h r "java/lang/String" "coder" "B" (.int (0 : Int32)) ∧ Arv Z h rb k .byte xt (L1 cs) (.int (0 : Int32))) := by
  refine Pays.of (plainFor_of_name (by first | (simp [plainName, overriddenIn]; done) | decide +kernel)) ?_
  intro p e s m below meth c s₁ hx hby hml hown hnm hret hlk hZ e0 X0
  have N0 := Fr.nil n0
  have K0 : Keep h0 h0 [r] := Keep.refl _ _
  refine Goes.go (U' := (s₁.setTop (mkF m 0 #[sR_ r, sR_ ax] []))) (fun t kt => castTop (ef_rm_s10 m r ax) kt) ?_
  refine Goes.go (U' := (s₁.setTop (mkF m 3 #[sR_ r, sR_ ax] [.null, (.ref ax), (.ref r)]))) (fun t kt => ?_) ?_
  · skip
    refine XS.aloadN X0.here hx rfl (hb hby d_rm_s10_0) rfl rfl ?_
    refine XS.aloadN X0.here hx rfl (hb hby d_rm_s10_1) rfl rfl ?_
    refine XS.aconstNull X0.here hx rfl (hb hby d_rm_s10_2) ?_
    exact kt
  obtain ⟨v_1, T_1, L_1, X_1, q_1, st_1⟩ := callInit X0 hx hZ (y := (⟨"java/lang/String", "<init>", "(Ljava/lang/AbstractStringBuilder;Ljava/lang/Void;)V"⟩ : MethodName)) (W := 0) rfl hown (wdOf hw 145 rfl) (wdOf hw 146 rfl) (wdOf hw 23 rfl) (wdOf hw 147 rfl) (by decide) (rm_s20 l Z a0 hw [] kc sx r ax ba kb xt cs h0 n0 Z0 G O E0 F0_value F0_coder E1 F1_value F1_coder F1_count F1_maybeLatin1 V1 o0 hz hle) (by decide) (by decide) (by decide) (by decide) e0 (b := r) (g := (mkF m 3 #[sR_ r, sR_ ax] [.null, (.ref ax), (.ref r)])) rfl (by rw [hml]; rfl) (argsL := [(.ref ax), .null]) (rest := []) (lenOf pd_30 rfl) rfl rfl (Nat.le_refl _) (hb hby d_rm_s10_3)
  obtain ⟨rb_1, k_1, rfl, n_1, K_1, EQ_1, FQ_1_value, FQ_1_coder, VQ_1⟩ := q_1
  have N_1 := Fr.app N0 n_1
  have f_2 : Old Z n0 T_1.heap := O.keep K_1 (allS o0 all0)
  have K_3 : Keep h0 T_1.heap [r] := K0.trans K_1 (allS (P := fun x => x ∈ [r] ∨ h0.size ≤ x) (Or.inl (List.mem_of_getElem? (i := 0) rfl)) all0)
  have y_3 : n0 ≤ T_1.heap.size := Nat.le_trans Z0 K_3.1
  refine Goes.go (U' := (T_1.setTop (mkF m 6 #[sR_ r, sR_ ax] []))) st_1 ?_
  refine Goes.retV X_1 hx hlk hret (hb hby d_rm_s10_6) (by decide) (by decide) ?_
  try rw [(rfl : T_1.heap = T_1.heap)]
  exact ⟨_, _, rfl, N_1, K_3, EQ_1, FQ_1_value, FQ_1_coder, VQ_1⟩
theorem d_rm_ts0_0 : decode jdk_67_method_42_code 0 = .ok (.new 18, 3) := by decide +kernel
theorem d_rm_ts0_3 : decode jdk_67_method_42_code 3 = .ok (.dup, 1) := by decide +kernel
theorem d_rm_ts0_4 : decode jdk_67_method_42_code 4 = .ok (.aload_n 0, 1) := by decide +kernel
theorem d_rm_ts0_5 : decode jdk_67_method_42_code 5 = .ok (.invokespecial 137, 3) := by decide +kernel
theorem d_rm_ts0_8 : decode jdk_67_method_42_code 8 = .ok (.areturn, 1) := by decide +kernel
set_option maxHeartbeats 4000000 in
theorem ef_rm_ts0 (m : MethodId) (x0 : Addr)  : entryFrame m #[(.ref x0)] 1 = mkF m 0 #[.val (.ref x0)] [] := by first | (simp [entryFrame, mkF, argsToLocals, catR, catN, catI, catJ]; done) | rfl
set_option maxRecDepth 65536 in
set_option maxHeartbeats 40000000 in
theorem rm_ts0 (l : Launch) (Z : State) (a0 : Array Value) (hw : ∀ d ∈ tables_1, d.before a0 Z = true) (ws : List Jvm.Cond) (kc : Int32) (sx : Value) (ax ba : Addr) (kb : ClassId) (xt : Int32) (cs : List Int32) (h0 : Heap) (n0 : Nat) (Z0 : n0 ≤ h0.size) (G : Stt Z kc sx) (O : Old Z n0 h0) (E1 : Exa Z h0 ax "java/lang/StringBuilder") (F1_value : Fld Z h0 ax "java/lang/AbstractStringBuilder" "value" "[B" (.ref ba)) (F1_coder : Fld Z h0 ax "java/lang/AbstractStringBuilder" "coder" "B" (.int (0 : Int32))) (F1_count : Fld Z h0 ax "java/lang/AbstractStringBuilder" "count" "I" (.int xt)) (F1_maybeLatin1 : Fld Z h0 ax "java/lang/AbstractStringBuilder" "maybeLatin1" "Z" (.int (0 : Int32))) (V1 : Arv Z h0 ba kb .byte (34 : Int32) (L1 cs) (.int (0 : Int32))) (hz : Sz xt cs.length) (hle : cs.length ≤ 27) :
    Pays l Z (⟨"java/lang/StringBuilder", "toString", "()Ljava/lang/String;"⟩ : MethodName) jdk_67_method_42_code 1 (some (.object "java/lang/String")) ws ({ frames := 5, cells := 2, slots := 58, locals := 79 } : Room) #[(.ref ax)] h0 (fun v h L => ∃ r rb k, v = some (.ref r) ∧ Fr n0 L ∧ Ext h0 h ∧ Exa Z h r "java/lang/String" ∧ Fld Z h r "java/lang/String" "value" "[B" (.ref rb) ∧ Fld Z h r "java/lang/String" "coder" "B" (.int (0 : Int32)) ∧ Arv Z h rb k .byte xt (L1 cs) (.int (0 : Int32))) := by
  refine Pays.of (plainFor_of_name (by first | (simp [plainName, overriddenIn]; done) | decide +kernel)) ?_
  intro p e s m below meth c s₁ hx hby hml hown hnm hret hlk hZ e0 X0
  have N0 := Fr.nil n0
  have K0 : Keep h0 h0 [] := Keep.refl _ _
  refine Goes.go (U' := (s₁.setTop (mkF m 0 #[sR_ ax] []))) (fun t kt => castTop (ef_rm_ts0 m ax) kt) ?_
  obtain ⟨T_1, h_1, X_1, e_1, E_1, A_1, D_1, -, st_1⟩ := newO X0 hx hZ hown (wdOf hw 141 rfl) (wdOf hw 40 rfl) (wdOf hw 23 rfl) e0 (g := (mkF m 0 #[sR_ ax] [])) rfl (hb hby d_rm_ts0_0) (by decide) (by decide)
  obtain ⟨b_1, g_1⟩ : ∃ z, z = h0.size := ⟨_, rfl⟩
  rw [← g_1] at A_1 D_1 st_1
  have ne_2 : ax ≠ b_1 := Nat.ne_of_lt (Nat.lt_of_lt_of_le E1.lt (Nat.le_of_eq g_1.symm))
  have ne_3 : ba ≠ b_1 := Nat.ne_of_lt (Nat.lt_of_lt_of_le V1.lt (Nat.le_of_eq g_1.symm))
  have o_1 : n0 ≤ b_1 := Nat.le_trans Z0 (Nat.le_of_eq g_1.symm)
  have z_1 : h0.size ≤ b_1 := Nat.le_trans K0.1 (Nat.le_of_eq g_1.symm)
  have f_4 : Old Z n0 h_1 := O.ext E_1
  have f_5 : Exa Z h_1 ax "java/lang/StringBuilder" := E1.ext E_1
  have f_6 : Fld Z h_1 ax "java/lang/AbstractStringBuilder" "value" "[B" (.ref ba) := F1_value.ext E_1
  have f_7 : Fld Z h_1 ax "java/lang/AbstractStringBuilder" "coder" "B" (.int (0 : Int32)) := F1_coder.ext E_1
  have f_8 : Fld Z h_1 ax "java/lang/AbstractStringBuilder" "count" "I" (.int xt) := F1_count.ext E_1
  have f_9 : Fld Z h_1 ax "java/lang/AbstractStringBuilder" "maybeLatin1" "Z" (.int (0 : Int32)) := F1_maybeLatin1.ext E_1
  have f_10 : Arv Z h_1 ba kb .byte (34 : Int32) (L1 cs) (.int (0 : Int32)) := V1.ext E_1
  have f_11 : Fld Z h_1 b_1 "java/lang/String" "value" "[B" .null := D_1 (Or.inr (wdOf hw 50 rfl)) (ty := (.array .byte)) (by decide)
  have f_12 : Fld Z h_1 b_1 "java/lang/String" "coder" "B" (.int (0 : Int32)) := D_1 (Or.inr (wdOf hw 52 rfl)) (ty := .byte) (by decide)
  have K_13 : Keep h0 h_1 [] := K0.ext E_1
  have y_13 : n0 ≤ h_1.size := Nat.le_trans Z0 K_13.1
  refine Goes.go (U' := (T_1.setTop (mkF m 3 #[sR_ ax] [(.ref b_1)]))) st_1 ?_
  refine Goes.go (U' := (T_1.setTop (mkF m 5 #[sR_ ax] [(.ref ax), (.ref b_1), (.ref b_1)]))) (fun t kt => ?_) ?_
  · skip
    refine XS.dup X_1.here hx rfl (hb hby d_rm_ts0_3) rfl rfl ?_
    refine XS.aloadN X_1.here hx rfl (hb hby d_rm_ts0_4) rfl rfl ?_
    exact kt
  obtain ⟨v_14, T_14, L_14, X_14, q_14, st_14⟩ := callInit X_1 hx hZ (y := (⟨"java/lang/String", "<init>", "(Ljava/lang/StringBuilder;)V"⟩ : MethodName)) (W := 1) rfl hown (wdOf hw 142 rfl) (wdOf hw 143 rfl) (wdOf hw 23 rfl) (wdOf hw 144 rfl) (by decide) (rm_s10 l Z a0 hw [] kc sx b_1 ax ba kb xt cs h_1 n0 y_13 G f_4 A_1 f_11 f_12 f_5 f_6 f_7 f_8 f_9 f_10 o_1 hz hle) (by decide) (by decide) (by decide) (by decide) e_1 (b := b_1) (g := (mkF m 5 #[sR_ ax] [(.ref ax), (.ref b_1), (.ref b_1)])) rfl (by rw [hml]; rfl) (argsL := [(.ref ax)]) (rest := [(.ref b_1)]) (lenOf pd_31 rfl) rfl rfl (Nat.le_refl _) (hb hby d_rm_ts0_5)
  obtain ⟨rb_14, k_14, rfl, n_14, K_14, EQ_14, FQ_14_value, FQ_14_coder, VQ_14⟩ := q_14
  have N_14 := Fr.app N0 n_14
  have f_15 : Old Z n0 T_14.heap := f_4.keep K_14 (allS o_1 all0)
  have K_16 : Keep h0 T_14.heap [] := K_13.trans K_14 (allS (P := fun x => x ∈ [] ∨ h0.size ≤ x) (Or.inr z_1) all0)
  have y_16 : n0 ≤ T_14.heap.size := Nat.le_trans Z0 K_16.1
  refine Goes.go (U' := (T_14.setTop (mkF m 8 #[sR_ ax] [(.ref b_1)]))) st_14 ?_
  refine Goes.retA X_14 hx hlk hret rfl rfl (hb hby d_rm_ts0_8) (by decide) (by decide) ?_
  try rw [(rfl : T_14.heap = T_14.heap)]
  exact ⟨_, _, _, rfl, N_14, Ext.of_keep K_16, EQ_14, FQ_14_value, FQ_14_coder, VQ_14⟩
theorem d_rm_s21_0 : decode jdk_42_method_150_code 0 = .ok (.aload_n 0, 1) := by decide +kernel
theorem d_rm_s21_1 : decode jdk_42_method_150_code 1 = .ok (.invokespecial 1, 3) := by decide +kernel
theorem d_rm_s21_4 : decode jdk_42_method_150_code 4 = .ok (.aload_n 1, 1) := by decide +kernel
theorem d_rm_s21_5 : decode jdk_42_method_150_code 5 = .ok (.invokevirtual 552, 3) := by decide +kernel
theorem d_rm_s21_8 : decode jdk_42_method_150_code 8 = .ok (.astore_n 3, 1) := by decide +kernel
theorem d_rm_s21_9 : decode jdk_42_method_150_code 9 = .ok (.aload_n 1, 1) := by decide +kernel
theorem d_rm_s21_10 : decode jdk_42_method_150_code 10 = .ok (.invokevirtual 549, 3) := by decide +kernel
theorem d_rm_s21_13 : decode jdk_42_method_150_code 13 = .ok (.istore 4, 2) := by decide +kernel
theorem d_rm_s21_15 : decode jdk_42_method_150_code 15 = .ok (.aload_n 1, 1) := by decide +kernel
theorem d_rm_s21_16 : decode jdk_42_method_150_code 16 = .ok (.invokevirtual 1047, 3) := by decide +kernel
theorem d_rm_s21_19 : decode jdk_42_method_150_code 19 = .ok (.ifCond .eq 22, 3) := by decide +kernel
theorem d_rm_s21_41 : decode jdk_42_method_150_code 41 = .ok (.getstatic 38, 3) := by decide +kernel
theorem d_rm_s21_44 : decode jdk_42_method_150_code 44 = .ok (.ifCond .eq 35, 3) := by decide +kernel
theorem d_rm_s21_47 : decode jdk_42_method_150_code 47 = .ok (.aload_n 1, 1) := by decide +kernel
theorem d_rm_s21_48 : decode jdk_42_method_150_code 48 = .ok (.getfield 1048, 3) := by decide +kernel
theorem d_rm_s21_51 : decode jdk_42_method_150_code 51 = .ok (.ifCond .eq 28, 3) := by decide +kernel
theorem d_rm_s21_79 : decode jdk_42_method_150_code 79 = .ok (.aload_n 0, 1) := by decide +kernel
theorem d_rm_s21_80 : decode jdk_42_method_150_code 80 = .ok (.iconst 1, 1) := by decide +kernel
theorem d_rm_s21_81 : decode jdk_42_method_150_code 81 = .ok (.putfield 15, 3) := by decide +kernel
theorem d_rm_s21_84 : decode jdk_42_method_150_code 84 = .ok (.aload_n 0, 1) := by decide +kernel
theorem d_rm_s21_85 : decode jdk_42_method_150_code 85 = .ok (.aload_n 3, 1) := by decide +kernel
theorem d_rm_s21_86 : decode jdk_42_method_150_code 86 = .ok (.iconst 0, 1) := by decide +kernel
theorem d_rm_s21_87 : decode jdk_42_method_150_code 87 = .ok (.iload 4, 2) := by decide +kernel
theorem d_rm_s21_89 : decode jdk_42_method_150_code 89 = .ok (.iconst 1, 1) := by decide +kernel
theorem d_rm_s21_90 : decode jdk_42_method_150_code 90 = .ok (.ishl, 1) := by decide +kernel
theorem d_rm_s21_91 : decode jdk_42_method_150_code 91 = .ok (.invokestatic 54, 3) := by decide +kernel
theorem d_rm_s21_94 : decode jdk_42_method_150_code 94 = .ok (.putfield 9, 3) := by decide +kernel
theorem d_rm_s21_97 : decode jdk_42_method_150_code 97 = .ok (.return_, 1) := by decide +kernel
set_option maxHeartbeats 4000000 in
theorem ef_rm_s21 (m : MethodId) (x0 : Addr) (x1 : Addr)  : entryFrame m #[(.ref x0), (.ref x1), .null] 5 = mkF m 0 #[.val (.ref x0), .val (.ref x1), .val .null, .unset, .unset] [] := by first | (simp [entryFrame, mkF, argsToLocals, catR, catN, catI, catJ]; done) | rfl
set_option maxRecDepth 65536 in
set_option maxHeartbeats 40000000 in
theorem rm_s21 (l : Launch) (Z : State) (a0 : Array Value) (hw : ∀ d ∈ tables_1, d.before a0 Z = true) (ws : List Jvm.Cond) (kc : Int32) (sx : Value) (r ax ba : Addr) (kb : ClassId) (xt : Int32) (cs : List Int32) (h0 : Heap) (n0 : Nat) (Z0 : n0 ≤ h0.size) (G : Stt Z kc sx) (O : Old Z n0 h0) (E0 : Exa Z h0 r "java/lang/String") (F0_value : Fld Z h0 r "java/lang/String" "value" "[B" .null) (F0_coder : Fld Z h0 r "java/lang/String" "coder" "B" (.int (0 : Int32))) (E1 : Exa Z h0 ax "java/lang/StringBuilder") (F1_value : Fld Z h0 ax "java/lang/AbstractStringBuilder" "value" "[B" (.ref ba)) (F1_coder : Fld Z h0 ax "java/lang/AbstractStringBuilder" "coder" "B" (.int (1 : Int32))) (F1_count : Fld Z h0 ax "java/lang/AbstractStringBuilder" "count" "I" (.int xt)) (F1_maybeLatin1 : Fld Z h0 ax "java/lang/AbstractStringBuilder" "maybeLatin1" "Z" (.int (0 : Int32))) (V1 : Arv Z h0 ba kb .byte (68 : Int32) (U2 cs) (.int (0 : Int32))) (o0 : n0 ≤ r) (hz : Sz xt cs.length) (hle : cs.length ≤ 27) :
    Pays l Z (⟨"java/lang/String", "<init>", "(Ljava/lang/AbstractStringBuilder;Ljava/lang/Void;)V"⟩ : MethodName) jdk_42_method_150_code 5 none ws ({ frames := 3, cells := 1, slots := 54, locals := 49 } : Room) #[(.ref r), (.ref ax), .null] h0 (fun v h L => ∃ rb k, v = none ∧ Fr n0 L ∧ Keep h0 h [r] ∧ Exa Z h r "java/lang/String" ∧ Fld Z h r "java/lang/String" "value" "[B" (.ref rb) ∧ Fld Z h r "java/lang/String" "coder" "B" (.int (1 : Int32)) ∧ Arv Z h rb k .byte (xt <<< ((1 : Int32) &&& 31)) (U2 cs) (.int (0 : Int32))) := by
  refine Pays.of (plainFor_of_name (by first | (simp [plainName, overriddenIn]; done) | decide +kernel)) ?_
  intro p e s m below meth c s₁ hx hby hml hown hnm hret hlk hZ e0 X0
  have N0 := Fr.nil n0
  have K0 : Keep h0 h0 [r] := Keep.refl _ _
  refine Goes.go (U' := (s₁.setTop (mkF m 0 #[sR_ r, sR_ ax, .val .null, sU_, sU_] []))) (fun t kt => castTop (ef_rm_s21 m r ax) kt) ?_
  refine Goes.go (U' := (s₁.setTop (mkF m 1 #[sR_ r, sR_ ax, .val .null, sU_, sU_] [(.ref r)]))) (fun t kt => ?_) ?_
  · skip
    refine XS.aloadN X0.here hx rfl (hb hby d_rm_s21_0) rfl rfl ?_
    exact kt
  obtain ⟨T_1, X_1, e_1, st_1⟩ := initO X0 hx hZ hown (wdOf hw 48 rfl) (wdOf hw 7 rfl) (wdOf hw 8 rfl) e0 (g := (mkF m 1 #[sR_ r, sR_ ax, .val .null, sU_, sU_] [(.ref r)])) rfl (by rw [hml]; rfl) rfl (hb hby d_rm_s21_1) (by decide) (W := 0) (Nat.le_refl _) (by decide)
  refine Goes.go (U' := (T_1.setTop (mkF m 4 #[sR_ r, sR_ ax, .val .null, sU_, sU_] []))) st_1 ?_
  refine Goes.go (U' := (T_1.setTop (mkF m 5 #[sR_ r, sR_ ax, .val .null, sU_, sU_] [(.ref ax)]))) (fun t kt => ?_) ?_
  · skip
    refine XS.aloadN X_1.here hx rfl (hb hby d_rm_s21_4) rfl rfl ?_
    exact kt
  obtain ⟨v_2, T_2, L_2, X_2, q_2, st_2⟩ := callVirtual X_1 hx hZ (y := (⟨"java/lang/AbstractStringBuilder", "getValue", "()[B"⟩ : MethodName)) (z := (⟨"java/lang/AbstractStringBuilder", "getValue", "()[B"⟩ : MethodName)) (W := 0) hown (wdOf hw 148 rfl) (wdOf hw 149 rfl) (notFace_of_selects (args := #[]) (mvT hZ (wdOf hw 151 rfl))) (wdOf hw 151 rfl) (wdOf hw 150 rfl) (wdOf hw 19 rfl) (wdOf hw 152 rfl) (by decide) (rm_gv l Z a0 hw [] kc sx ax ba h0 n0 Z0 G O F1_value) (by decide) (by decide) (by decide) (by decide) e_1 E1 (g := (mkF m 5 #[sR_ r, sR_ ax, .val .null, sU_, sU_] [(.ref ax)])) rfl (by rw [hml]; rfl) (argsL := []) (rest := []) (lenOf pd_29 rfl) rfl rfl (Nat.le_refl _) (hb hby d_rm_s21_5)
  obtain ⟨rfl, n_2, K_2⟩ := q_2
  have N_2 := Fr.app N0 n_2
  refine Goes.go (U' := (T_2.setTop (mkF m 8 #[sR_ r, sR_ ax, .val .null, sU_, sU_] [(.ref ba)]))) st_2 ?_
  refine Goes.go (U' := (T_2.setTop (mkF m 10 #[sR_ r, sR_ ax, .val .null, sR_ ba, sU_] [(.ref ax)]))) (fun t kt => ?_) ?_
  · skip
    refine XS.astoreN X_2.here hx rfl (hb hby d_rm_s21_8) rfl rfl (l' := #[sR_ r, sR_ ax, .val .null, sR_ ba, sU_]) rfl ?_
    refine XS.aloadN X_2.here hx rfl (hb hby d_rm_s21_9) rfl rfl ?_
    exact kt
  obtain ⟨v_3, T_3, L_3, X_3, q_3, st_3⟩ := callVirtual X_2 hx hZ (y := (⟨"java/lang/AbstractStringBuilder", "length", "()I"⟩ : MethodName)) (z := (⟨"java/lang/StringBuilder", "length", "()I"⟩ : MethodName)) (W := 0) hown (wdOf hw 153 rfl) (wdOf hw 154 rfl) (faceOf (args := #[]) (mvT hZ (wdOf hw 83 rfl)) rfl) (wdOf hw 156 rfl) (wdOf hw 157 rfl) (wdOf hw 11 rfl) (wdOf hw 158 rfl) (by decide) (rm_sbl l Z a0 hw [] kc sx ax xt h0 n0 Z0 G O E1 F1_count) (by decide) (by decide) (by decide) (by decide) K_2 E1 (g := (mkF m 10 #[sR_ r, sR_ ax, .val .null, sR_ ba, sU_] [(.ref ax)])) rfl (by rw [hml]; rfl) (argsL := []) (rest := []) (lenOf pd_24 rfl) rfl rfl (Nat.le_refl _) (hb hby d_rm_s21_10)
  obtain ⟨rfl, n_3, K_3⟩ := q_3
  have N_3 := Fr.app N_2 n_3
  refine Goes.go (U' := (T_3.setTop (mkF m 13 #[sR_ r, sR_ ax, .val .null, sR_ ba, sU_] [(.int xt)]))) st_3 ?_
  refine Goes.go (U' := (T_3.setTop (mkF m 16 #[sR_ r, sR_ ax, .val .null, sR_ ba, sI_ xt] [(.ref ax)]))) (fun t kt => ?_) ?_
  · skip
    refine XS.istore X_3.here hx rfl (hb hby d_rm_s21_13) rfl (l' := #[sR_ r, sR_ ax, .val .null, sR_ ba, sI_ xt]) rfl ?_
    refine XS.aloadN X_3.here hx rfl (hb hby d_rm_s21_15) rfl rfl ?_
    exact kt
  obtain ⟨v_4, T_4, L_4, X_4, q_4, st_4⟩ := callVirtual X_3 hx hZ (y := (⟨"java/lang/AbstractStringBuilder", "isLatin1", "()Z"⟩ : MethodName)) (z := (⟨"java/lang/AbstractStringBuilder", "isLatin1", "()Z"⟩ : MethodName)) (W := 0) hown (wdOf hw 161 rfl) (wdOf hw 162 rfl) (notFace_of_selects (args := #[]) (mvT hZ (wdOf hw 164 rfl))) (wdOf hw 164 rfl) (wdOf hw 163 rfl) (wdOf hw 19 rfl) (wdOf hw 165 rfl) (by decide) (rm_ail1 l Z a0 hw [] kc sx ax h0 n0 Z0 G O F1_coder) (by decide) (by decide) (by decide) (by decide) K_3 E1 (g := (mkF m 16 #[sR_ r, sR_ ax, .val .null, sR_ ba, sI_ xt] [(.ref ax)])) rfl (by rw [hml]; rfl) (argsL := []) (rest := []) (lenOf pd_17 rfl) rfl rfl (Nat.le_refl _) (hb hby d_rm_s21_16)
  obtain ⟨rfl, n_4, K_4⟩ := q_4
  have N_4 := Fr.app N_3 n_4
  refine Goes.go (U' := (T_4.setTop (mkF m 19 #[sR_ r, sR_ ax, .val .null, sR_ ba, sI_ xt] [(.int (0 : Int32))]))) st_4 ?_
  refine Goes.go (U' := (T_4.setTop (mkF m 41 #[sR_ r, sR_ ax, .val .null, sR_ ba, sI_ xt] []))) (fun t kt => ?_) ?_
  · skip
    refine XS.ifYes X_4.here hx rfl (pc0 := 19) (pc' := 41) rfl (hb hby d_rm_s21_19) rfl (XT.i0_eq_t (by decide)) (by decide) (by decide) ?_
    exact kt
  obtain ⟨T_5, X_5, e_5, st_5⟩ := getS X_4 hx hZ hown (host := "") (wdOf hw 34 rfl) Via.refl K_4 (G.1.ext O.2) (g := (mkF m 41 #[sR_ r, sR_ ax, .val .null, sR_ ba, sI_ xt] [])) rfl (hb hby d_rm_s21_41)
  refine Goes.go (U' := (T_5.setTop (mkF m 44 #[sR_ r, sR_ ax, .val .null, sR_ ba, sI_ xt] [(.int kc)]))) st_5 ?_
  refine Goes.go (U' := (T_5.setTop (mkF m 48 #[sR_ r, sR_ ax, .val .null, sR_ ba, sI_ xt] [(.ref ax)]))) (fun t kt => ?_) ?_
  · skip
    refine XS.ifNo X_5.here hx rfl (hb hby d_rm_s21_44) rfl (XT.i0_eq_f G.2.1) ?_
    refine XS.aloadN X_5.here hx rfl (hb hby d_rm_s21_47) rfl rfl ?_
    exact kt
  obtain ⟨T_6, X_6, e_6, st_6⟩ := getF X_5 hx hZ hown (host := "") (Or.inl (wdOf hw 244 rfl)) Via.refl e_5 F1_maybeLatin1 (g := (mkF m 48 #[sR_ r, sR_ ax, .val .null, sR_ ba, sI_ xt] [(.ref ax)])) rfl rfl (hb hby d_rm_s21_48)
  refine Goes.go (U' := (T_6.setTop (mkF m 51 #[sR_ r, sR_ ax, .val .null, sR_ ba, sI_ xt] [(.int (0 : Int32))]))) st_6 ?_
  refine Goes.go (U' := (T_6.setTop (mkF m 81 #[sR_ r, sR_ ax, .val .null, sR_ ba, sI_ xt] [(.int (1 : Int32)), (.ref r)]))) (fun t kt => ?_) ?_
  · skip
    refine XS.ifYes X_6.here hx rfl (pc0 := 51) (pc' := 79) rfl (hb hby d_rm_s21_51) rfl (XT.i0_eq_t (by decide)) (by decide) (by decide) ?_
    refine XS.aloadN X_6.here hx rfl (hb hby d_rm_s21_79) rfl rfl ?_
    refine XS.iconst X_6.here hx rfl (hb hby d_rm_s21_80) ?_
    exact kt
  obtain ⟨T_7, h_7, X_7, e_7, W_7, st_7⟩ := putFN X_6 hx hZ hown (wdOf hw 51 rfl) Via.refl e_6 F0_coder E0 (Or.inr ⟨wdOf hw 52 rfl, rfl, hnm⟩) (wdOf hw 40 rfl) (ty := .byte) (v' := (.int (1 : Int32))) (by decide) rfl rfl (g := (mkF m 81 #[sR_ r, sR_ ax, .val .null, sR_ ba, sI_ xt] [(.int (1 : Int32)), (.ref r)])) rfl rfl (hb hby d_rm_s21_81)
  have N_7 := Fr.snoc X_7 N_4 o0
  have f_8 : Old Z n0 h_7 := O.wr W_7 o0
  have f_9 : Exa Z h_7 r "java/lang/String" := E0.wr W_7
  have f_10 : Fld Z h_7 r "java/lang/String" "value" "[B" .null := F0_value.other W_7 (Or.inr (slot_ne (Or.inr (wdOf hw 50 rfl)) (Or.inr (wdOf hw 52 rfl)) (by decide) (t := (.array .byte)) (t' := .byte) (by decide) (by decide)))
  have f_11 : Fld Z h_7 r "java/lang/String" "coder" "B" (.int (1 : Int32)) := F0_coder.same W_7
  have f_12 : Exa Z h_7 ax "java/lang/StringBuilder" := E1.wr W_7
  have f_13 : Fld Z h_7 ax "java/lang/AbstractStringBuilder" "value" "[B" (.ref ba) := F1_value.other W_7 (Or.inl (ne_exa E1 E0 (by decide)))
  have f_14 : Fld Z h_7 ax "java/lang/AbstractStringBuilder" "coder" "B" (.int (1 : Int32)) := F1_coder.other W_7 (Or.inl (ne_exa E1 E0 (by decide)))
  have f_15 : Fld Z h_7 ax "java/lang/AbstractStringBuilder" "count" "I" (.int xt) := F1_count.other W_7 (Or.inl (ne_exa E1 E0 (by decide)))
  have f_16 : Fld Z h_7 ax "java/lang/AbstractStringBuilder" "maybeLatin1" "Z" (.int (0 : Int32)) := F1_maybeLatin1.other W_7 (Or.inl (ne_exa E1 E0 (by decide)))
  have f_17 : Arv Z h_7 ba kb .byte (68 : Int32) (U2 cs) (.int (0 : Int32)) := V1.other W_7 (Ne.symm (E0.neArv V1 (wdOf hw 40 rfl)))
  have K_18 : Keep h0 h_7 [r] := K0.wr W_7 (Or.inl (List.mem_of_getElem? (i := 0) rfl))
  have y_18 : n0 ≤ h_7.size := Nat.le_trans Z0 K_18.1
  refine Goes.go (U' := (T_7.setTop (mkF m 84 #[sR_ r, sR_ ax, .val .null, sR_ ba, sI_ xt] []))) st_7 ?_
  have tn : ((xt <<< ((1 : Int32) &&& 31))).toNatClampNeg = 2 * cs.length := hz.shl1
  have tc : (68 : Int32).toNatClampNeg = 68 := rfl
  have tp : ¬ ((xt <<< ((1 : Int32) &&& 31))) < 0 := hz.shl1p
  refine Goes.go (U' := (T_7.setTop (mkF m 91 #[sR_ r, sR_ ax, .val .null, sR_ ba, sI_ xt] [(.int (xt <<< ((1 : Int32) &&& 31))), (.int (0 : Int32)), (.ref ba), (.ref r)]))) (fun t kt => ?_) ?_
  · skip
    refine XS.aloadN X_7.here hx rfl (hb hby d_rm_s21_84) rfl rfl ?_
    refine XS.aloadN X_7.here hx rfl (hb hby d_rm_s21_85) rfl rfl ?_
    refine XS.iconst X_7.here hx rfl (hb hby d_rm_s21_86) ?_
    refine XS.iload X_7.here hx rfl (hb hby d_rm_s21_87) rfl ?_
    refine XS.iconst X_7.here hx rfl (hb hby d_rm_s21_89) ?_
    refine XS.ishl X_7.here hx rfl (hb hby d_rm_s21_90) rfl ?_
    exact kt
  obtain ⟨v_19, T_19, L_19, X_19, q_19, st_19⟩ := callStatic X_7 hx hZ (y := (⟨"java/util/Arrays", "copyOfRange", "([BII)[B"⟩ : MethodName)) (W := 1) hown (wdOf hw 166 rfl) (wdOf hw 167 rfl) (wdOf hw 130 rfl) (wdOf hw 168 rfl) (by decide) (rm_cr l Z a0 hw [] kc sx ba kb (xt <<< ((1 : Int32) &&& 31)) (68 : Int32) (U2 cs) h_7 n0 y_18 G f_8 f_17 (fun y => by rw [y, tc] at tn; omega) tp (lt_of tp (by rw [tn, tc]; omega)) (by rw [tn]; omega) (by rw [U2_len, tn]; omega) (by rw [tn, tc]; omega)) (by decide) (by decide) (by decide) (by decide) e_7 (g := (mkF m 91 #[sR_ r, sR_ ax, .val .null, sR_ ba, sI_ xt] [(.int (xt <<< ((1 : Int32) &&& 31))), (.int (0 : Int32)), (.ref ba), (.ref r)])) rfl (by rw [hml]; rfl) (argsL := [(.ref ba), (.int (0 : Int32)), (.int (xt <<< ((1 : Int32) &&& 31)))]) (rest := [(.ref r)]) (lenOf pd_8 rfl) rfl rfl (Nat.le_refl _) (hb hby d_rm_s21_91)
  obtain ⟨r_19, k_19, rfl, n_19, K_19, z_19, V_19⟩ := q_19
  have ne_20 : r ≠ r_19 := Nat.ne_of_lt (Nat.lt_of_lt_of_le f_9.lt z_19)
  have ne_21 : ax ≠ r_19 := Nat.ne_of_lt (Nat.lt_of_lt_of_le f_12.lt z_19)
  have ne_22 : ba ≠ r_19 := Nat.ne_of_lt (Nat.lt_of_lt_of_le f_17.lt z_19)
  have o_23 : n0 ≤ r_19 := Nat.le_trans y_18 z_19
  have z_24 : h0.size ≤ r_19 := Nat.le_trans K_18.1 z_19
  have N_19 := Fr.app N_7 n_19
  have f_25 : Old Z n0 T_19.heap := f_8.ext K_19
  have f_26 : Exa Z T_19.heap r "java/lang/String" := f_9.ext K_19
  have f_27 : Fld Z T_19.heap r "java/lang/String" "value" "[B" .null := f_10.ext K_19
  have f_28 : Fld Z T_19.heap r "java/lang/String" "coder" "B" (.int (1 : Int32)) := f_11.ext K_19
  have f_29 : Exa Z T_19.heap ax "java/lang/StringBuilder" := f_12.ext K_19
  have f_30 : Fld Z T_19.heap ax "java/lang/AbstractStringBuilder" "value" "[B" (.ref ba) := f_13.ext K_19
  have f_31 : Fld Z T_19.heap ax "java/lang/AbstractStringBuilder" "coder" "B" (.int (1 : Int32)) := f_14.ext K_19
  have f_32 : Fld Z T_19.heap ax "java/lang/AbstractStringBuilder" "count" "I" (.int xt) := f_15.ext K_19
  have f_33 : Fld Z T_19.heap ax "java/lang/AbstractStringBuilder" "maybeLatin1" "Z" (.int (0 : Int32)) := f_16.ext K_19
  have f_34 : Arv Z T_19.heap ba kb .byte (68 : Int32) (U2 cs) (.int (0 : Int32)) := f_17.ext K_19
  have K_35 : Keep h0 T_19.heap [r] := K_18.ext K_19
  have y_35 : n0 ≤ T_19.heap.size := Nat.le_trans Z0 K_35.1
  refine Goes.go (U' := (T_19.setTop (mkF m 94 #[sR_ r, sR_ ax, .val .null, sR_ ba, sI_ xt] [(.ref r_19), (.ref r)]))) st_19 ?_
  obtain ⟨T_36, h_36, X_36, e_36, W_36, st_36⟩ := putF X_19 hx hZ hown (host := "") (Or.inl (wdOf hw 49 rfl)) Via.refl (rfl : T_19.heap = T_19.heap) f_27 f_26 (Or.inr ⟨wdOf hw 50 rfl, rfl, hnm⟩) (wdOf hw 40 rfl) (ty := (.array .byte)) (by decide) rfl rfl (g := (mkF m 94 #[sR_ r, sR_ ax, .val .null, sR_ ba, sI_ xt] [(.ref r_19), (.ref r)])) rfl rfl (hb hby d_rm_s21_94)
  have N_36 := Fr.snoc X_36 N_19 o0
  have f_37 : Old Z n0 h_36 := f_25.wr W_36 o0
  have f_38 : Exa Z h_36 r "java/lang/String" := f_26.wr W_36
  have f_39 : Fld Z h_36 r "java/lang/String" "value" "[B" (.ref r_19) := f_27.same W_36
  have f_40 : Fld Z h_36 r "java/lang/String" "coder" "B" (.int (1 : Int32)) := f_28.other W_36 (Or.inr (slot_ne (Or.inr (wdOf hw 52 rfl)) (Or.inr (wdOf hw 50 rfl)) (by decide) (t := .byte) (t' := (.array .byte)) (by decide) (by decide)))
  have f_41 : Exa Z h_36 ax "java/lang/StringBuilder" := f_29.wr W_36
  have f_42 : Fld Z h_36 ax "java/lang/AbstractStringBuilder" "value" "[B" (.ref ba) := f_30.other W_36 (Or.inl (ne_exa f_29 f_26 (by decide)))
  have f_43 : Fld Z h_36 ax "java/lang/AbstractStringBuilder" "coder" "B" (.int (1 : Int32)) := f_31.other W_36 (Or.inl (ne_exa f_29 f_26 (by decide)))
  have f_44 : Fld Z h_36 ax "java/lang/AbstractStringBuilder" "count" "I" (.int xt) := f_32.other W_36 (Or.inl (ne_exa f_29 f_26 (by decide)))
  have f_45 : Fld Z h_36 ax "java/lang/AbstractStringBuilder" "maybeLatin1" "Z" (.int (0 : Int32)) := f_33.other W_36 (Or.inl (ne_exa f_29 f_26 (by decide)))
  have f_46 : Arv Z h_36 ba kb .byte (68 : Int32) (U2 cs) (.int (0 : Int32)) := f_34.other W_36 (Ne.symm (f_26.neArv f_34 (wdOf hw 40 rfl)))
  have f_47 : Arv Z h_36 r_19 k_19 .byte (xt <<< ((1 : Int32) &&& 31)) (U2 cs) (.int (0 : Int32)) := V_19.other W_36 (Ne.symm ne_20)
  have K_48 : Keep h0 h_36 [r] := K_35.wr W_36 (Or.inl (List.mem_of_getElem? (i := 0) rfl))
  have y_48 : n0 ≤ h_36.size := Nat.le_trans Z0 K_48.1
  refine Goes.go (U' := (T_36.setTop (mkF m 97 #[sR_ r, sR_ ax, .val .null, sR_ ba, sI_ xt] []))) st_36 ?_
  refine Goes.retV X_36 hx hlk hret (hb hby d_rm_s21_97) (by decide) (by decide) ?_
  try rw [e_36]
  exact ⟨_, _, rfl, N_36, K_48, f_38, f_39, f_40, f_47⟩
theorem d_rm_s11_0 : decode jdk_42_method_53_code 0 = .ok (.aload_n 0, 1) := by decide +kernel
theorem d_rm_s11_1 : decode jdk_42_method_53_code 1 = .ok (.aload_n 1, 1) := by decide +kernel
theorem d_rm_s11_2 : decode jdk_42_method_53_code 2 = .ok (.aconst_null, 1) := by decide +kernel
theorem d_rm_s11_3 : decode jdk_42_method_53_code 3 = .ok (.invokespecial 489, 3) := by decide +kernel
theorem d_rm_s11_6 : decode jdk_42_method_53_code 6 = .ok (.return_, 1) := by decide +kernel
set_option maxHeartbeats 4000000 in
theorem ef_rm_s11 (m : MethodId) (x0 : Addr) (x1 : Addr)  : entryFrame m #[(.ref x0), (.ref x1)] 2 = mkF m 0 #[.val (.ref x0), .val (.ref x1)] [] := by first | (simp [entryFrame, mkF, argsToLocals, catR, catN, catI, catJ]; done) | rfl
set_option maxRecDepth 65536 in
set_option maxHeartbeats 40000000 in
theorem rm_s11 (l : Launch) (Z : State) (a0 : Array Value) (hw : ∀ d ∈ tables_1, d.before a0 Z = true) (ws : List Jvm.Cond) (kc : Int32) (sx : Value) (r ax ba : Addr) (kb : ClassId) (xt : Int32) (cs : List Int32) (h0 : Heap) (n0 : Nat) (Z0 : n0 ≤ h0.size) (G : Stt Z kc sx) (O : Old Z n0 h0) (E0 : Exa Z h0 r "java/lang/String") (F0_value : Fld Z h0 r "java/lang/String" "value" "[B" .null) (F0_coder : Fld Z h0 r "java/lang/String" "coder" "B" (.int (0 : Int32))) (E1 : Exa Z h0 ax "java/lang/StringBuilder") (F1_value : Fld Z h0 ax "java/lang/AbstractStringBuilder" "value" "[B" (.ref ba)) (F1_coder : Fld Z h0 ax "java/lang/AbstractStringBuilder" "coder" "B" (.int (1 : Int32))) (F1_count : Fld Z h0 ax "java/lang/AbstractStringBuilder" "count" "I" (.int xt)) (F1_maybeLatin1 : Fld Z h0 ax "java/lang/AbstractStringBuilder" "maybeLatin1" "Z" (.int (0 : Int32))) (V1 : Arv Z h0 ba kb .byte (68 : Int32) (U2 cs) (.int (0 : Int32))) (o0 : n0 ≤ r) (hz : Sz xt cs.length) (hle : cs.length ≤ 27) :
    Pays l Z (⟨"java/lang/String", "<init>", "(Ljava/lang/StringBuilder;)V"⟩ : MethodName) jdk_42_method_53_code 2 none ws ({ frames := 4, cells := 1, slots := 54, locals := 65 } : Room) #[(.ref r), (.ref ax)] h0 (fun v h L => ∃ rb k, v = none ∧ Fr n0 L ∧ Keep h0 h [r] ∧ Exa Z h r "java/lang/String" ∧ Fld Z h r "java/lang/String" "value" "[B" (.ref rb) ∧ Fld Z h r "java/lang/String" "coder" "B" (.int (1 : Int32)) ∧ Arv Z h rb k .byte (xt <<< ((1 : Int32) &&& 31)) (U2 cs) (.int (0 : Int32))) := by
  refine Pays.of (plainFor_of_name (by first | (simp [plainName, overriddenIn]; done) | decide +kernel)) ?_
  intro p e s m below meth c s₁ hx hby hml hown hnm hret hlk hZ e0 X0
  have N0 := Fr.nil n0
  have K0 : Keep h0 h0 [r] := Keep.refl _ _
  refine Goes.go (U' := (s₁.setTop (mkF m 0 #[sR_ r, sR_ ax] []))) (fun t kt => castTop (ef_rm_s11 m r ax) kt) ?_
  refine Goes.go (U' := (s₁.setTop (mkF m 3 #[sR_ r, sR_ ax] [.null, (.ref ax), (.ref r)]))) (fun t kt => ?_) ?_
  · skip
    refine XS.aloadN X0.here hx rfl (hb hby d_rm_s11_0) rfl rfl ?_
    refine XS.aloadN X0.here hx rfl (hb hby d_rm_s11_1) rfl rfl ?_
    refine XS.aconstNull X0.here hx rfl (hb hby d_rm_s11_2) ?_
    exact kt
  obtain ⟨v_1, T_1, L_1, X_1, q_1, st_1⟩ := callInit X0 hx hZ (y := (⟨"java/lang/String", "<init>", "(Ljava/lang/AbstractStringBuilder;Ljava/lang/Void;)V"⟩ : MethodName)) (W := 0) rfl hown (wdOf hw 145 rfl) (wdOf hw 146 rfl) (wdOf hw 23 rfl) (wdOf hw 147 rfl) (by decide) (rm_s21 l Z a0 hw [] kc sx r ax ba kb xt cs h0 n0 Z0 G O E0 F0_value F0_coder E1 F1_value F1_coder F1_count F1_maybeLatin1 V1 o0 hz hle) (by decide) (by decide) (by decide) (by decide) e0 (b := r) (g := (mkF m 3 #[sR_ r, sR_ ax] [.null, (.ref ax), (.ref r)])) rfl (by rw [hml]; rfl) (argsL := [(.ref ax), .null]) (rest := []) (lenOf pd_30 rfl) rfl rfl (Nat.le_refl _) (hb hby d_rm_s11_3)
  obtain ⟨rb_1, k_1, rfl, n_1, K_1, EQ_1, FQ_1_value, FQ_1_coder, VQ_1⟩ := q_1
  have N_1 := Fr.app N0 n_1
  have f_2 : Old Z n0 T_1.heap := O.keep K_1 (allS o0 all0)
  have K_3 : Keep h0 T_1.heap [r] := K0.trans K_1 (allS (P := fun x => x ∈ [r] ∨ h0.size ≤ x) (Or.inl (List.mem_of_getElem? (i := 0) rfl)) all0)
  have y_3 : n0 ≤ T_1.heap.size := Nat.le_trans Z0 K_3.1
  refine Goes.go (U' := (T_1.setTop (mkF m 6 #[sR_ r, sR_ ax] []))) st_1 ?_
  refine Goes.retV X_1 hx hlk hret (hb hby d_rm_s11_6) (by decide) (by decide) ?_
  try rw [(rfl : T_1.heap = T_1.heap)]
  exact ⟨_, _, rfl, N_1, K_3, EQ_1, FQ_1_value, FQ_1_coder, VQ_1⟩
theorem d_rm_ts1_0 : decode jdk_67_method_42_code 0 = .ok (.new 18, 3) := by decide +kernel
theorem d_rm_ts1_3 : decode jdk_67_method_42_code 3 = .ok (.dup, 1) := by decide +kernel
theorem d_rm_ts1_4 : decode jdk_67_method_42_code 4 = .ok (.aload_n 0, 1) := by decide +kernel
theorem d_rm_ts1_5 : decode jdk_67_method_42_code 5 = .ok (.invokespecial 137, 3) := by decide +kernel
theorem d_rm_ts1_8 : decode jdk_67_method_42_code 8 = .ok (.areturn, 1) := by decide +kernel
set_option maxHeartbeats 4000000 in
theorem ef_rm_ts1 (m : MethodId) (x0 : Addr)  : entryFrame m #[(.ref x0)] 1 = mkF m 0 #[.val (.ref x0)] [] := by first | (simp [entryFrame, mkF, argsToLocals, catR, catN, catI, catJ]; done) | rfl
set_option maxRecDepth 65536 in
set_option maxHeartbeats 40000000 in
theorem rm_ts1 (l : Launch) (Z : State) (a0 : Array Value) (hw : ∀ d ∈ tables_1, d.before a0 Z = true) (ws : List Jvm.Cond) (kc : Int32) (sx : Value) (ax ba : Addr) (kb : ClassId) (xt : Int32) (cs : List Int32) (h0 : Heap) (n0 : Nat) (Z0 : n0 ≤ h0.size) (G : Stt Z kc sx) (O : Old Z n0 h0) (E1 : Exa Z h0 ax "java/lang/StringBuilder") (F1_value : Fld Z h0 ax "java/lang/AbstractStringBuilder" "value" "[B" (.ref ba)) (F1_coder : Fld Z h0 ax "java/lang/AbstractStringBuilder" "coder" "B" (.int (1 : Int32))) (F1_count : Fld Z h0 ax "java/lang/AbstractStringBuilder" "count" "I" (.int xt)) (F1_maybeLatin1 : Fld Z h0 ax "java/lang/AbstractStringBuilder" "maybeLatin1" "Z" (.int (0 : Int32))) (V1 : Arv Z h0 ba kb .byte (68 : Int32) (U2 cs) (.int (0 : Int32))) (hz : Sz xt cs.length) (hle : cs.length ≤ 27) :
    Pays l Z (⟨"java/lang/StringBuilder", "toString", "()Ljava/lang/String;"⟩ : MethodName) jdk_67_method_42_code 1 (some (.object "java/lang/String")) ws ({ frames := 5, cells := 2, slots := 58, locals := 79 } : Room) #[(.ref ax)] h0 (fun v h L => ∃ r rb k, v = some (.ref r) ∧ Fr n0 L ∧ Ext h0 h ∧ Exa Z h r "java/lang/String" ∧ Fld Z h r "java/lang/String" "value" "[B" (.ref rb) ∧ Fld Z h r "java/lang/String" "coder" "B" (.int (1 : Int32)) ∧ Arv Z h rb k .byte (xt <<< ((1 : Int32) &&& 31)) (U2 cs) (.int (0 : Int32))) := by
  refine Pays.of (plainFor_of_name (by first | (simp [plainName, overriddenIn]; done) | decide +kernel)) ?_
  intro p e s m below meth c s₁ hx hby hml hown hnm hret hlk hZ e0 X0
  have N0 := Fr.nil n0
  have K0 : Keep h0 h0 [] := Keep.refl _ _
  refine Goes.go (U' := (s₁.setTop (mkF m 0 #[sR_ ax] []))) (fun t kt => castTop (ef_rm_ts1 m ax) kt) ?_
  obtain ⟨T_1, h_1, X_1, e_1, E_1, A_1, D_1, -, st_1⟩ := newO X0 hx hZ hown (wdOf hw 141 rfl) (wdOf hw 40 rfl) (wdOf hw 23 rfl) e0 (g := (mkF m 0 #[sR_ ax] [])) rfl (hb hby d_rm_ts1_0) (by decide) (by decide)
  obtain ⟨b_1, g_1⟩ : ∃ z, z = h0.size := ⟨_, rfl⟩
  rw [← g_1] at A_1 D_1 st_1
  have ne_2 : ax ≠ b_1 := Nat.ne_of_lt (Nat.lt_of_lt_of_le E1.lt (Nat.le_of_eq g_1.symm))
  have ne_3 : ba ≠ b_1 := Nat.ne_of_lt (Nat.lt_of_lt_of_le V1.lt (Nat.le_of_eq g_1.symm))
  have o_1 : n0 ≤ b_1 := Nat.le_trans Z0 (Nat.le_of_eq g_1.symm)
  have z_1 : h0.size ≤ b_1 := Nat.le_trans K0.1 (Nat.le_of_eq g_1.symm)
  have f_4 : Old Z n0 h_1 := O.ext E_1
  have f_5 : Exa Z h_1 ax "java/lang/StringBuilder" := E1.ext E_1
  have f_6 : Fld Z h_1 ax "java/lang/AbstractStringBuilder" "value" "[B" (.ref ba) := F1_value.ext E_1
  have f_7 : Fld Z h_1 ax "java/lang/AbstractStringBuilder" "coder" "B" (.int (1 : Int32)) := F1_coder.ext E_1
  have f_8 : Fld Z h_1 ax "java/lang/AbstractStringBuilder" "count" "I" (.int xt) := F1_count.ext E_1
  have f_9 : Fld Z h_1 ax "java/lang/AbstractStringBuilder" "maybeLatin1" "Z" (.int (0 : Int32)) := F1_maybeLatin1.ext E_1
  have f_10 : Arv Z h_1 ba kb .byte (68 : Int32) (U2 cs) (.int (0 : Int32)) := V1.ext E_1
  have f_11 : Fld Z h_1 b_1 "java/lang/String" "value" "[B" .null := D_1 (Or.inr (wdOf hw 50 rfl)) (ty := (.array .byte)) (by decide)
  have f_12 : Fld Z h_1 b_1 "java/lang/String" "coder" "B" (.int (0 : Int32)) := D_1 (Or.inr (wdOf hw 52 rfl)) (ty := .byte) (by decide)
  have K_13 : Keep h0 h_1 [] := K0.ext E_1
  have y_13 : n0 ≤ h_1.size := Nat.le_trans Z0 K_13.1
  refine Goes.go (U' := (T_1.setTop (mkF m 3 #[sR_ ax] [(.ref b_1)]))) st_1 ?_
  refine Goes.go (U' := (T_1.setTop (mkF m 5 #[sR_ ax] [(.ref ax), (.ref b_1), (.ref b_1)]))) (fun t kt => ?_) ?_
  · skip
    refine XS.dup X_1.here hx rfl (hb hby d_rm_ts1_3) rfl rfl ?_
    refine XS.aloadN X_1.here hx rfl (hb hby d_rm_ts1_4) rfl rfl ?_
    exact kt
  obtain ⟨v_14, T_14, L_14, X_14, q_14, st_14⟩ := callInit X_1 hx hZ (y := (⟨"java/lang/String", "<init>", "(Ljava/lang/StringBuilder;)V"⟩ : MethodName)) (W := 1) rfl hown (wdOf hw 142 rfl) (wdOf hw 143 rfl) (wdOf hw 23 rfl) (wdOf hw 144 rfl) (by decide) (rm_s11 l Z a0 hw [] kc sx b_1 ax ba kb xt cs h_1 n0 y_13 G f_4 A_1 f_11 f_12 f_5 f_6 f_7 f_8 f_9 f_10 o_1 hz hle) (by decide) (by decide) (by decide) (by decide) e_1 (b := b_1) (g := (mkF m 5 #[sR_ ax] [(.ref ax), (.ref b_1), (.ref b_1)])) rfl (by rw [hml]; rfl) (argsL := [(.ref ax)]) (rest := [(.ref b_1)]) (lenOf pd_31 rfl) rfl rfl (Nat.le_refl _) (hb hby d_rm_ts1_5)
  obtain ⟨rb_14, k_14, rfl, n_14, K_14, EQ_14, FQ_14_value, FQ_14_coder, VQ_14⟩ := q_14
  have N_14 := Fr.app N0 n_14
  have f_15 : Old Z n0 T_14.heap := f_4.keep K_14 (allS o_1 all0)
  have K_16 : Keep h0 T_14.heap [] := K_13.trans K_14 (allS (P := fun x => x ∈ [] ∨ h0.size ≤ x) (Or.inr z_1) all0)
  have y_16 : n0 ≤ T_14.heap.size := Nat.le_trans Z0 K_16.1
  refine Goes.go (U' := (T_14.setTop (mkF m 8 #[sR_ ax] [(.ref b_1)]))) st_14 ?_
  refine Goes.retA X_14 hx hlk hret rfl rfl (hb hby d_rm_ts1_8) (by decide) (by decide) ?_
  try rw [(rfl : T_14.heap = T_14.heap)]
  exact ⟨_, _, _, rfl, N_14, Ext.of_keep K_16, EQ_14, FQ_14_value, FQ_14_coder, VQ_14⟩
theorem own_sa {Z : State} {a0 : Array Value} (hw : ∀ d ∈ tables_1, d.before a0 Z = true) : ∀ d ∈ Bundle.stringAtoms, d.before a0 Z = true := fun d hd => by
  simp only [Bundle.stringAtoms, Bundle.sN, List.mem_cons, List.not_mem_nil, or_false] at hd
  rcases hd with rfl | rfl | rfl | rfl | rfl | rfl | rfl
  · exact (wdOf hw 23 rfl)
  · exact (wdOf hw 40 rfl)
  · exact (wdOf hw 24 rfl)
  · exact (wdOf hw 50 rfl)
  · exact (wdOf hw 52 rfl)
  · exact (wdOf hw 111 rfl)
  · exact (wdOf hw 112 rfl)
theorem own_ew {Z : State} {a0 : Array Value} (hw : ∀ d ∈ tables_1, d.before a0 Z = true) : EW Z a0 EL1 := EW.cons (wdOf hw 110 rfl) (by decide) (EW.cons (wdOf hw 175 rfl) (by decide) EW.nil)
theorem d_rm_end_0 : decode prog_10_method_8_code 0 = .ok (.aload_n 0, 1) := by decide +kernel
theorem d_rm_end_1 : decode prog_10_method_8_code 1 = .ok (.getfield 10, 3) := by decide +kernel
theorem d_rm_end_4 : decode prog_10_method_8_code 4 = .ok (.ldc 93, 2) := by decide +kernel
theorem d_rm_end_6 : decode prog_10_method_8_code 6 = .ok (.invokevirtual 46, 3) := by decide +kernel
theorem d_rm_end_9 : decode prog_10_method_8_code 9 = .ok (.invokevirtual 95, 3) := by decide +kernel
theorem d_rm_end_12 : decode prog_10_method_8_code 12 = .ok (.areturn, 1) := by decide +kernel
set_option maxHeartbeats 4000000 in
theorem ef_rm_end (m : MethodId) (x0 : Addr)  : entryFrame m #[(.ref x0)] 1 = mkF m 0 #[.val (.ref x0)] [] := by first | (simp [entryFrame, mkF, argsToLocals, catR, catN, catI, catJ]; done) | rfl
set_option maxRecDepth 65536 in
set_option maxHeartbeats 40000000 in
theorem rm_end (l : Launch) (Z : State) (a0 : Array Value) (hw : ∀ d ∈ tables_1, d.before a0 Z = true) (ws : List Jvm.Cond) (kc : Int32) (sx : Value) (hx_ ax ba : Addr) (pn : Int32) (cs : List Int32) (h0 : Heap) (n0 : Nat) (Z0 : n0 ≤ h0.size) (G : Stt Z kc sx) (O : Old Z n0 h0)  (Hb : Hob Z h0 hx_ ax ba pn cs) (o0 : n0 ≤ ax) (o1 : n0 ≤ ba) (hle : cs.length ≤ 3) :
    PaysW l Z (⟨"com/example/dead_letter_replay/deadletterreplay/page/Html", "end", "()Ljava/lang/String;"⟩ : MethodName) prog_10_method_8_code 1 (some (.object "java/lang/String")) ws ({ frames := 9, cells := 5, slots := 226, locals := 132 } : Room) #[(.ref hx_)] h0 (LIv Z) (fun v V L => ∃ r rb, v = some (.ref r) ∧ Fr n0 L ∧ Keep h0 V.heap [ax] ∧ CHv Z EL1 V.vm V.heap ∧ Str Z V.heap r rb (pn + (24 : Int32)) (cs ++ TXT)) := by
  refine PaysW.of (plainFor_of_name (by first | (simp [plainName, overriddenIn]; done) | decide +kernel)) ?_
  intro p e s m below meth c s₁ hx hby hml hown hnm hret hlk hZ e0 hsh hLI hS X0
  have hk0 : 0 ≤ h0.size := Nat.zero_le _
  replace hLI : LIv Z s.vm h0 := hLI
  have N0 := Fr.nil n0
  have K0 : Keep h0 h0 [ax] := Keep.refl _ _
  refine GoesW.go (U' := (s₁.setTop (mkF m 0 #[sR_ hx_] []))) (fun t kt => castTop (ef_rm_end m hx_) kt) ?_
  obtain ⟨Eh, Fh, hp, Hb1⟩ := Hb
  rcases Hb1 with ⟨⟨kb, E1, F1_value, F1_coder, F1_count, F1_maybeLatin1, V1⟩, hlc⟩ | ⟨⟨kb, E1, F1_value, F1_coder, F1_count, F1_maybeLatin1, V1⟩, hlc⟩
  · -- builder 0
    have Hc0 : CHv Z EL1 s.vm Z.heap := hLI
    refine GoesW.go (U' := (s₁.setTop (mkF m 1 #[sR_ hx_] [(.ref hx_)]))) (fun t kt => ?_) ?_
    · skip
      refine XS.aloadN X0.here hx rfl (hb hby d_rm_end_0) rfl rfl ?_
      exact kt
    obtain ⟨T_1, X_1, e_1, st_1⟩ := getF X0 hx hZ hown (host := "") (Or.inl (wdOf hw 29 rfl)) Via.refl e0 Fh (g := (mkF m 1 #[sR_ hx_] [(.ref hx_)])) rfl rfl (hb hby d_rm_end_1)
    refine GoesW.go (U' := (T_1.setTop (mkF m 4 #[sR_ hx_] [(.ref ax)]))) st_1 ?_
    obtain ⟨lat, T_2, h_2, k_2, lbt, klt, X_2, e_2, E_2, hS_2, hk_2, hZ, hown, Elt, Glt, Flt, Vlt, -, -, CRt, -, NNt, st_2⟩ := ldcCH X_1 hx hZ hown (wdOf hw 110 rfl) (own_sa hw) e_1 hS hk0 (own_ew hw) (List.mem_of_getElem? (i := 0) rfl) (CHv.ext O.2 Hc0) (vs := L1 TXT) (z := (24 : Int32)) own_txt (by decide) (by decide) (g := (mkF m 4 #[sR_ hx_] [(.ref ax)])) rfl (hb hby d_rm_end_4) (n := 96) (by decide) (by decide) (by decide) (by decide)
    have f_3 : Old Z n0 h_2 := O.ext E_2
    have f_4 : Exa Z h_2 hx_ "com/example/dead_letter_replay/deadletterreplay/page/Html" := Eh.ext E_2
    have f_5 : Fld Z h_2 hx_ "com/example/dead_letter_replay/deadletterreplay/page/Html" "html" "Ljava/lang/StringBuilder;" (.ref ax) := Fh.ext E_2
    have f_6 : Exa Z h_2 ax "java/lang/StringBuilder" := E1.ext E_2
    have f_7 : Fld Z h_2 ax "java/lang/AbstractStringBuilder" "value" "[B" (.ref ba) := F1_value.ext E_2
    have f_8 : Fld Z h_2 ax "java/lang/AbstractStringBuilder" "coder" "B" (.int (0 : Int32)) := F1_coder.ext E_2
    have f_9 : Fld Z h_2 ax "java/lang/AbstractStringBuilder" "count" "I" (.int pn) := F1_count.ext E_2
    have f_10 : Fld Z h_2 ax "java/lang/AbstractStringBuilder" "maybeLatin1" "Z" (.int (0 : Int32)) := F1_maybeLatin1.ext E_2
    have f_11 : Arv Z h_2 ba kb .byte (16 : Int32) (L1 cs) (.int (0 : Int32)) := V1.ext E_2
    have K_12 : Keep h0 h_2 [ax] := K0.ext E_2
    have y_12 : n0 ≤ h_2.size := Nat.le_trans Z0 K_12.1
    have hk_12 := Nat.le_trans hk0 E_2.1
    refine GoesW.go (U' := (T_2.setTop (mkF m 6 #[sR_ hx_] [(.ref lat), (.ref ax)]))) st_2 ?_
    have Sf : Safe Z EL1 T_2.vm h_2 ax := CRt.safe E1.lt (safeNew Hc0 O.2 (Nat.le_trans (Nat.le_of_eq O.1) o0))
    have nlb : lbt ≠ ba := Ne.symm (NNt ba (CRt.safe V1.lt (safeNew Hc0 O.2 (Nat.le_trans (Nat.le_of_eq O.1) o1)))).2
    obtain ⟨v_13, T_13, L_13, X_13, q_13, st_13⟩ := callVirtual X_2 hx hZ (y := (⟨"java/lang/StringBuilder", "append", "(Ljava/lang/String;)Ljava/lang/StringBuilder;"⟩ : MethodName)) (z := (⟨"java/lang/StringBuilder", "append", "(Ljava/lang/String;)Ljava/lang/StringBuilder;"⟩ : MethodName)) (W := 0) hown (wdOf hw 58 rfl) (wdOf hw 59 rfl) (notFace_of_selects (args := #[]) (mvT hZ (wdOf hw 61 rfl))) (wdOf hw 61 rfl) (wdOf hw 60 rfl) (wdOf hw 11 rfl) (wdOf hw 62 rfl) (by decide) (rm_sap0024 l Z a0 hw [] kc sx ax ba lat lbt kb klt pn cs TXT h_2 n0 y_12 G f_3 f_6 f_7 f_8 f_9 f_10 f_11 Elt Flt Glt Vlt o0 o1 nlb ⟨rfl, by first | decide | simp⟩ hp hle hlc own_lc) (by decide) (by decide) (by decide) (by decide) e_2 f_6 (g := (mkF m 6 #[sR_ hx_] [(.ref lat), (.ref ax)])) rfl (by rw [hml]; rfl) (argsL := [(.ref lat)]) (rest := []) (lenOf pd_28 rfl) rfl rfl (Nat.le_refl _) (hb hby d_rm_end_6)
    obtain ⟨b_13, k_13, rfl, n_13, K_13, o_13, EQ_13, FQ_13_value, FQ_13_coder, FQ_13_count, FQ_13_maybeLatin1, VQ_13⟩ := q_13
    have N_13 := Fr.app N0 n_13
    have f_14 : Old Z n0 T_13.heap := f_3.keep K_13 (allS o0 all0)
    have K_15 : Keep h0 T_13.heap [ax] := K_12.trans K_13 (allS (P := fun x => x ∈ [ax] ∨ h0.size ≤ x) (Or.inl (List.mem_of_getElem? (i := 0) rfl)) all0)
    have y_15 : n0 ≤ T_13.heap.size := Nat.le_trans Z0 K_15.1
    have hk_15 := Nat.le_trans hk_2 K_13.1
    refine GoesW.go (U' := (T_13.setTop (mkF m 9 #[sR_ hx_] [(.ref ax)]))) st_13 ?_
    have C2 := CHv.keep K_13 (allS Sf all0) CRt.1
    obtain ⟨v_16, T_16, L_16, X_16, q_16, st_16⟩ := callVirtual X_13 hx hZ (y := (⟨"java/lang/StringBuilder", "toString", "()Ljava/lang/String;"⟩ : MethodName)) (z := (⟨"java/lang/StringBuilder", "toString", "()Ljava/lang/String;"⟩ : MethodName)) (W := 0) hown (wdOf hw 136 rfl) (wdOf hw 137 rfl) (notFace_of_selects (args := #[]) (mvT hZ (wdOf hw 139 rfl))) (wdOf hw 139 rfl) (wdOf hw 138 rfl) (wdOf hw 11 rfl) (wdOf hw 140 rfl) (by decide) (rm_ts0 l Z a0 hw [] kc sx ax b_13 k_13 (pn + (24 : Int32)) (cs ++ TXT) T_13.heap n0 y_15 G f_14 EQ_13 FQ_13_value FQ_13_coder FQ_13_count FQ_13_maybeLatin1 VQ_13 ((hp.add (w := (24 : Int32)) (k := 24) ⟨rfl, by first | decide | simp⟩ (by omega)).cong (by rw [List.length_append]; rfl)) (by rw [List.length_append]; show cs.length + 24 ≤ 27; omega)) (by decide) (by decide) (by decide) (by decide) (rfl : T_13.heap = T_13.heap) EQ_13 (g := (mkF m 9 #[sR_ hx_] [(.ref ax)])) rfl (by rw [hml]; rfl) (argsL := []) (rest := []) (lenOf pd_32 rfl) rfl rfl (Nat.le_refl _) (hb hby d_rm_end_9)
    obtain ⟨r_16, rb_16, k_16, rfl, n_16, K_16, ER_16, FR_16_value, FR_16_coder, VR_16⟩ := q_16
    have N_16 := Fr.app N_13 n_16
    have f_17 : Old Z n0 T_16.heap := f_14.ext K_16
    have K_18 : Keep h0 T_16.heap [ax] := K_15.ext K_16
    have y_18 : n0 ≤ T_16.heap.size := Nat.le_trans Z0 K_18.1
    have hk_18 := Nat.le_trans hk_15 K_16.1
    refine GoesW.go (U' := (T_16.setTop (mkF m 12 #[sR_ hx_] [(.ref r_16)]))) st_16 ?_
    have C3 := CHv.ext K_16 C2
    refine GoesW.retA X_16 hx hS_2 (by rw [(rfl : T_16.heap = T_16.heap)]; exact hk_18) hlk hret rfl rfl (hb hby d_rm_end_12) (by decide) (by decide) ?_
    intro V vh vv
    try rw [vv]
    try rw [vh]
    try rw [(rfl : T_16.heap = T_16.heap)]
    exact ⟨_, _, rfl, N_16, K_18, (CHv.at X_16 hZ (own_ew hw) C3).1, (hp.add (w := (24 : Int32)) (k := 24) ⟨rfl, by first | decide | simp⟩ (by omega)).cong (by rw [List.length_append]; rfl), Or.inl ⟨⟨_, ER_16, FR_16_value, FR_16_coder, VR_16⟩, allA hlc own_lc⟩⟩
  · -- builder 1
    have Hc0 : CHv Z EL1 s.vm Z.heap := hLI
    refine GoesW.go (U' := (s₁.setTop (mkF m 1 #[sR_ hx_] [(.ref hx_)]))) (fun t kt => ?_) ?_
    · skip
      refine XS.aloadN X0.here hx rfl (hb hby d_rm_end_0) rfl rfl ?_
      exact kt
    obtain ⟨T_19, X_19, e_19, st_19⟩ := getF X0 hx hZ hown (host := "") (Or.inl (wdOf hw 29 rfl)) Via.refl e0 Fh (g := (mkF m 1 #[sR_ hx_] [(.ref hx_)])) rfl rfl (hb hby d_rm_end_1)
    refine GoesW.go (U' := (T_19.setTop (mkF m 4 #[sR_ hx_] [(.ref ax)]))) st_19 ?_
    obtain ⟨lat, T_20, h_20, k_20, lbt, klt, X_20, e_20, E_20, hS_20, hk_20, hZ, hown, Elt, Glt, Flt, Vlt, -, -, CRt, -, NNt, st_20⟩ := ldcCH X_19 hx hZ hown (wdOf hw 110 rfl) (own_sa hw) e_19 hS hk0 (own_ew hw) (List.mem_of_getElem? (i := 0) rfl) (CHv.ext O.2 Hc0) (vs := L1 TXT) (z := (24 : Int32)) own_txt (by decide) (by decide) (g := (mkF m 4 #[sR_ hx_] [(.ref ax)])) rfl (hb hby d_rm_end_4) (n := 96) (by decide) (by decide) (by decide) (by decide)
    have f_21 : Old Z n0 h_20 := O.ext E_20
    have f_22 : Exa Z h_20 hx_ "com/example/dead_letter_replay/deadletterreplay/page/Html" := Eh.ext E_20
    have f_23 : Fld Z h_20 hx_ "com/example/dead_letter_replay/deadletterreplay/page/Html" "html" "Ljava/lang/StringBuilder;" (.ref ax) := Fh.ext E_20
    have f_24 : Exa Z h_20 ax "java/lang/StringBuilder" := E1.ext E_20
    have f_25 : Fld Z h_20 ax "java/lang/AbstractStringBuilder" "value" "[B" (.ref ba) := F1_value.ext E_20
    have f_26 : Fld Z h_20 ax "java/lang/AbstractStringBuilder" "coder" "B" (.int (1 : Int32)) := F1_coder.ext E_20
    have f_27 : Fld Z h_20 ax "java/lang/AbstractStringBuilder" "count" "I" (.int pn) := F1_count.ext E_20
    have f_28 : Fld Z h_20 ax "java/lang/AbstractStringBuilder" "maybeLatin1" "Z" (.int (0 : Int32)) := F1_maybeLatin1.ext E_20
    have f_29 : Arv Z h_20 ba kb .byte (32 : Int32) (U2 cs) (.int (0 : Int32)) := V1.ext E_20
    have K_30 : Keep h0 h_20 [ax] := K0.ext E_20
    have y_30 : n0 ≤ h_20.size := Nat.le_trans Z0 K_30.1
    have hk_30 := Nat.le_trans hk0 E_20.1
    refine GoesW.go (U' := (T_20.setTop (mkF m 6 #[sR_ hx_] [(.ref lat), (.ref ax)]))) st_20 ?_
    have Sf : Safe Z EL1 T_20.vm h_20 ax := CRt.safe E1.lt (safeNew Hc0 O.2 (Nat.le_trans (Nat.le_of_eq O.1) o0))
    have nlb : lbt ≠ ba := Ne.symm (NNt ba (CRt.safe V1.lt (safeNew Hc0 O.2 (Nat.le_trans (Nat.le_of_eq O.1) o1)))).2
    obtain ⟨v_31, T_31, L_31, X_31, q_31, st_31⟩ := callVirtual X_20 hx hZ (y := (⟨"java/lang/StringBuilder", "append", "(Ljava/lang/String;)Ljava/lang/StringBuilder;"⟩ : MethodName)) (z := (⟨"java/lang/StringBuilder", "append", "(Ljava/lang/String;)Ljava/lang/StringBuilder;"⟩ : MethodName)) (W := 0) hown (wdOf hw 58 rfl) (wdOf hw 59 rfl) (notFace_of_selects (args := #[]) (mvT hZ (wdOf hw 61 rfl))) (wdOf hw 61 rfl) (wdOf hw 60 rfl) (wdOf hw 11 rfl) (wdOf hw 62 rfl) (by decide) (rm_sap1024 l Z a0 hw [] kc sx ax ba lat lbt kb klt pn cs TXT h_20 n0 y_30 G f_21 f_24 f_25 f_26 f_27 f_28 f_29 Elt Flt Glt Vlt o0 o1 nlb ⟨rfl, by first | decide | simp⟩ hp hle hlc own_lc) (by decide) (by decide) (by decide) (by decide) e_20 f_24 (g := (mkF m 6 #[sR_ hx_] [(.ref lat), (.ref ax)])) rfl (by rw [hml]; rfl) (argsL := [(.ref lat)]) (rest := []) (lenOf pd_28 rfl) rfl rfl (Nat.le_refl _) (hb hby d_rm_end_6)
    obtain ⟨b_31, k_31, rfl, n_31, K_31, o_31, EQ_31, FQ_31_value, FQ_31_coder, FQ_31_count, FQ_31_maybeLatin1, VQ_31⟩ := q_31
    have N_31 := Fr.app N0 n_31
    have f_32 : Old Z n0 T_31.heap := f_21.keep K_31 (allS o0 all0)
    have K_33 : Keep h0 T_31.heap [ax] := K_30.trans K_31 (allS (P := fun x => x ∈ [ax] ∨ h0.size ≤ x) (Or.inl (List.mem_of_getElem? (i := 0) rfl)) all0)
    have y_33 : n0 ≤ T_31.heap.size := Nat.le_trans Z0 K_33.1
    have hk_33 := Nat.le_trans hk_20 K_31.1
    refine GoesW.go (U' := (T_31.setTop (mkF m 9 #[sR_ hx_] [(.ref ax)]))) st_31 ?_
    have C2 := CHv.keep K_31 (allS Sf all0) CRt.1
    obtain ⟨v_34, T_34, L_34, X_34, q_34, st_34⟩ := callVirtual X_31 hx hZ (y := (⟨"java/lang/StringBuilder", "toString", "()Ljava/lang/String;"⟩ : MethodName)) (z := (⟨"java/lang/StringBuilder", "toString", "()Ljava/lang/String;"⟩ : MethodName)) (W := 0) hown (wdOf hw 136 rfl) (wdOf hw 137 rfl) (notFace_of_selects (args := #[]) (mvT hZ (wdOf hw 139 rfl))) (wdOf hw 139 rfl) (wdOf hw 138 rfl) (wdOf hw 11 rfl) (wdOf hw 140 rfl) (by decide) (rm_ts1 l Z a0 hw [] kc sx ax b_31 k_31 (pn + (24 : Int32)) (cs ++ TXT) T_31.heap n0 y_33 G f_32 EQ_31 FQ_31_value FQ_31_coder FQ_31_count FQ_31_maybeLatin1 VQ_31 ((hp.add (w := (24 : Int32)) (k := 24) ⟨rfl, by first | decide | simp⟩ (by omega)).cong (by rw [List.length_append]; rfl)) (by rw [List.length_append]; show cs.length + 24 ≤ 27; omega)) (by decide) (by decide) (by decide) (by decide) (rfl : T_31.heap = T_31.heap) EQ_31 (g := (mkF m 9 #[sR_ hx_] [(.ref ax)])) rfl (by rw [hml]; rfl) (argsL := []) (rest := []) (lenOf pd_32 rfl) rfl rfl (Nat.le_refl _) (hb hby d_rm_end_9)
    obtain ⟨r_34, rb_34, k_34, rfl, n_34, K_34, ER_34, FR_34_value, FR_34_coder, VR_34⟩ := q_34
    have N_34 := Fr.app N_31 n_34
    have f_35 : Old Z n0 T_34.heap := f_32.ext K_34
    have K_36 : Keep h0 T_34.heap [ax] := K_33.ext K_34
    have y_36 : n0 ≤ T_34.heap.size := Nat.le_trans Z0 K_36.1
    have hk_36 := Nat.le_trans hk_33 K_34.1
    refine GoesW.go (U' := (T_34.setTop (mkF m 12 #[sR_ hx_] [(.ref r_34)]))) st_34 ?_
    have C3 := CHv.ext K_34 C2
    refine GoesW.retA X_34 hx hS_20 (by rw [(rfl : T_34.heap = T_34.heap)]; exact hk_36) hlk hret rfl rfl (hb hby d_rm_end_12) (by decide) (by decide) ?_
    intro V vh vv
    try rw [vv]
    try rw [vh]
    try rw [(rfl : T_34.heap = T_34.heap)]
    exact ⟨_, _, rfl, N_34, K_36, (CHv.at X_34 hZ (own_ew hw) C3).1, (hp.add (w := (24 : Int32)) (k := 24) ⟨rfl, by first | decide | simp⟩ (by omega)).cong (by rw [List.length_append]; rfl), Or.inr ⟨⟨_, ER_34, FR_34_value, FR_34_coder, VR_34⟩, allA hlc (allCh own_lc)⟩⟩
set_option maxRecDepth 65536 in
set_option maxHeartbeats 40000000 in
theorem law_169 (l : Launch) (Z : State) (a0 : Array Value) (hw : ∀ d ∈ tables_1, d.before a0 Z = true) (kc : Int32) (sx : Value) (qa qb qc qk n c5 c6 c7 z1 : Int32) (hx_ r rb er eb : Addr) (cs : List Int32) (h0 : Heap) (n0 : Nat) (Z0 : n0 ≤ h0.size) (p : Program) (e : Env) (s : State) (m : MethodId) (below : List Frame) (meth : Method) (c : Code) (vm0 : Vm) (k0 : Nat) (hx : p.tables.exec = Jvm.exec) (hby : c.code = code) (hml : c.maxLocals = maxLocals) (hown : (s.setVm vm0).vm.findClass "com/example/dead_letter_replay/deadletterreplay/page/HtmlEndPinLaw" = some m.cls) (hnm : meth.name = "law") (hret : meth.sig.returnType = ret) (hlk : meth.locks = false) (hZ : Z.Warmed39 (s.setVm vm0).vm) (h : Heap) (T : State) (locs : List Loc) (X : Stand p l e room_1 (s.setVm vm0) m #[(.int qa), (.int qb), (.int qc), (.int qk)] below meth c T locs 19 461) (eT : T.heap = h) (N : Fr n0 locs) (G : Stt Z kc sx) (O : Old Z n0 h) (S1 : Str Z h r rb z1 (cs ++ TXT)) (S2 : Str Z h er eb (24 : Int32) TXT) (hn : Sz n cs.length) (hle : cs.length ≤ 3) (hS : s.Since vm0 k0) (hk : k0 ≤ h.size) :
    GoesW p e s below (fun v V L => v = some (.int 1) ∧ Fr n0 L) room_1.cells room_1.slots (T.setTop (mkF m 169 #[sI_ qa, sI_ qb, sI_ qc, sI_ qk, sI_ n, sI_ c5, sI_ c6, sI_ c7, sR_ hx_, sR_ r, sR_ er] [])) := by
  have sz0 : n0 ≤ h.size := Nat.le_trans (Nat.le_of_eq O.1.symm) O.2.1
  refine GoesW.go (U' := (T.setTop (mkF m 176 #[sI_ qa, sI_ qb, sI_ qc, sI_ qk, sI_ n, sI_ c5, sI_ c6, sI_ c7, sR_ hx_, sR_ r, sR_ er] [(.int (0 : Int32)), (.ref er), (.int n), (.ref r)]))) (fun t kt => ?_) ?_
  · skip
    refine XS.aload X.here hx rfl (hb hby at_169) rfl rfl ?_
    refine XS.iload X.here hx rfl (hb hby at_171) rfl ?_
    refine XS.aload X.here hx rfl (hb hby at_173) rfl rfl ?_
    refine XS.iconst X.here hx rfl (hb hby at_175) ?_
    exact kt
  obtain ⟨v_1, T_1, L_1, X_1, q_1, st_1⟩ := callStatic X hx hZ (y := (⟨"com/example/dead_letter_replay/deadletterreplay/page/HtmlEndPinLaw", "at", "(Ljava/lang/String;ILjava/lang/String;I)Z"⟩ : MethodName)) (W := 0) hown (wdOf hw 198 rfl) (wdOf hw 199 rfl) (wdOf hw 200 rfl) (wdOf hw 201 rfl) (by decide) (rm_at l Z a0 hw [] kc sx r rb er eb n (0 : Int32) z1 (24 : Int32) (60 : Int32) (cs ++ TXT) TXT cs.length 0 h n0 sz0 G O S1 S2 hn ⟨rfl, by first | decide | simp⟩ (by omega) (app_at cs rfl) rfl) (by decide) (by decide) (by decide) (by decide) eT (g := (mkF m 176 #[sI_ qa, sI_ qb, sI_ qc, sI_ qk, sI_ n, sI_ c5, sI_ c6, sI_ c7, sR_ hx_, sR_ r, sR_ er] [(.int (0 : Int32)), (.ref er), (.int n), (.ref r)])) rfl (by rw [hml]; rfl) (argsL := [(.ref r), (.int n), (.ref er), (.int (0 : Int32))]) (rest := []) (lenOf pd_35 rfl) rfl rfl (Nat.le_refl _) (hb hby at_176)
  obtain ⟨rfl, n_1, K_1⟩ := q_1
  have N_1 := Fr.app N n_1
  refine GoesW.go (U' := (T_1.setTop (mkF m 179 #[sI_ qa, sI_ qb, sI_ qc, sI_ qk, sI_ n, sI_ c5, sI_ c6, sI_ c7, sR_ hx_, sR_ r, sR_ er] [(.int (1 : Int32))]))) st_1 ?_
  refine GoesW.go (U' := (T_1.setTop (mkF m 189 #[sI_ qa, sI_ qb, sI_ qc, sI_ qk, sI_ n, sI_ c5, sI_ c6, sI_ c7, sR_ hx_, sR_ r, sR_ er] [(.int (1 : Int32)), (.ref er), (.int n), (.ref r)]))) (fun t kt => ?_) ?_
  · skip
    refine XS.ifNo X_1.here hx rfl (hb hby at_179) rfl (XT.i0_eq_f (by decide)) ?_
    refine XS.aload X_1.here hx rfl (hb hby at_182) rfl rfl ?_
    refine XS.iload X_1.here hx rfl (hb hby at_184) rfl ?_
    refine XS.aload X_1.here hx rfl (hb hby at_186) rfl rfl ?_
    refine XS.iconst X_1.here hx rfl (hb hby at_188) ?_
    exact kt
  obtain ⟨v_2, T_2, L_2, X_2, q_2, st_2⟩ := callStatic X_1 hx hZ (y := (⟨"com/example/dead_letter_replay/deadletterreplay/page/HtmlEndPinLaw", "at", "(Ljava/lang/String;ILjava/lang/String;I)Z"⟩ : MethodName)) (W := 0) hown (wdOf hw 198 rfl) (wdOf hw 199 rfl) (wdOf hw 200 rfl) (wdOf hw 201 rfl) (by decide) (rm_at l Z a0 hw [] kc sx r rb er eb n (1 : Int32) z1 (24 : Int32) (47 : Int32) (cs ++ TXT) TXT cs.length 1 h n0 sz0 G O S1 S2 hn ⟨rfl, by first | decide | simp⟩ (by omega) (app_at cs rfl) rfl) (by decide) (by decide) (by decide) (by decide) K_1 (g := (mkF m 189 #[sI_ qa, sI_ qb, sI_ qc, sI_ qk, sI_ n, sI_ c5, sI_ c6, sI_ c7, sR_ hx_, sR_ r, sR_ er] [(.int (1 : Int32)), (.ref er), (.int n), (.ref r)])) rfl (by rw [hml]; rfl) (argsL := [(.ref r), (.int n), (.ref er), (.int (1 : Int32))]) (rest := []) (lenOf pd_35 rfl) rfl rfl (Nat.le_refl _) (hb hby at_189)
  obtain ⟨rfl, n_2, K_2⟩ := q_2
  have N_2 := Fr.app N_1 n_2
  refine GoesW.go (U' := (T_2.setTop (mkF m 192 #[sI_ qa, sI_ qb, sI_ qc, sI_ qk, sI_ n, sI_ c5, sI_ c6, sI_ c7, sR_ hx_, sR_ r, sR_ er] [(.int (1 : Int32))]))) st_2 ?_
  refine GoesW.go (U' := (T_2.setTop (mkF m 202 #[sI_ qa, sI_ qb, sI_ qc, sI_ qk, sI_ n, sI_ c5, sI_ c6, sI_ c7, sR_ hx_, sR_ r, sR_ er] [(.int (2 : Int32)), (.ref er), (.int n), (.ref r)]))) (fun t kt => ?_) ?_
  · skip
    refine XS.ifNo X_2.here hx rfl (hb hby at_192) rfl (XT.i0_eq_f (by decide)) ?_
    refine XS.aload X_2.here hx rfl (hb hby at_195) rfl rfl ?_
    refine XS.iload X_2.here hx rfl (hb hby at_197) rfl ?_
    refine XS.aload X_2.here hx rfl (hb hby at_199) rfl rfl ?_
    refine XS.iconst X_2.here hx rfl (hb hby at_201) ?_
    exact kt
  obtain ⟨v_3, T_3, L_3, X_3, q_3, st_3⟩ := callStatic X_2 hx hZ (y := (⟨"com/example/dead_letter_replay/deadletterreplay/page/HtmlEndPinLaw", "at", "(Ljava/lang/String;ILjava/lang/String;I)Z"⟩ : MethodName)) (W := 0) hown (wdOf hw 198 rfl) (wdOf hw 199 rfl) (wdOf hw 200 rfl) (wdOf hw 201 rfl) (by decide) (rm_at l Z a0 hw [] kc sx r rb er eb n (2 : Int32) z1 (24 : Int32) (109 : Int32) (cs ++ TXT) TXT cs.length 2 h n0 sz0 G O S1 S2 hn ⟨rfl, by first | decide | simp⟩ (by omega) (app_at cs rfl) rfl) (by decide) (by decide) (by decide) (by decide) K_2 (g := (mkF m 202 #[sI_ qa, sI_ qb, sI_ qc, sI_ qk, sI_ n, sI_ c5, sI_ c6, sI_ c7, sR_ hx_, sR_ r, sR_ er] [(.int (2 : Int32)), (.ref er), (.int n), (.ref r)])) rfl (by rw [hml]; rfl) (argsL := [(.ref r), (.int n), (.ref er), (.int (2 : Int32))]) (rest := []) (lenOf pd_35 rfl) rfl rfl (Nat.le_refl _) (hb hby at_202)
  obtain ⟨rfl, n_3, K_3⟩ := q_3
  have N_3 := Fr.app N_2 n_3
  refine GoesW.go (U' := (T_3.setTop (mkF m 205 #[sI_ qa, sI_ qb, sI_ qc, sI_ qk, sI_ n, sI_ c5, sI_ c6, sI_ c7, sR_ hx_, sR_ r, sR_ er] [(.int (1 : Int32))]))) st_3 ?_
  refine GoesW.go (U' := (T_3.setTop (mkF m 215 #[sI_ qa, sI_ qb, sI_ qc, sI_ qk, sI_ n, sI_ c5, sI_ c6, sI_ c7, sR_ hx_, sR_ r, sR_ er] [(.int (3 : Int32)), (.ref er), (.int n), (.ref r)]))) (fun t kt => ?_) ?_
  · skip
    refine XS.ifNo X_3.here hx rfl (hb hby at_205) rfl (XT.i0_eq_f (by decide)) ?_
    refine XS.aload X_3.here hx rfl (hb hby at_208) rfl rfl ?_
    refine XS.iload X_3.here hx rfl (hb hby at_210) rfl ?_
    refine XS.aload X_3.here hx rfl (hb hby at_212) rfl rfl ?_
    refine XS.iconst X_3.here hx rfl (hb hby at_214) ?_
    exact kt
  obtain ⟨v_4, T_4, L_4, X_4, q_4, st_4⟩ := callStatic X_3 hx hZ (y := (⟨"com/example/dead_letter_replay/deadletterreplay/page/HtmlEndPinLaw", "at", "(Ljava/lang/String;ILjava/lang/String;I)Z"⟩ : MethodName)) (W := 0) hown (wdOf hw 198 rfl) (wdOf hw 199 rfl) (wdOf hw 200 rfl) (wdOf hw 201 rfl) (by decide) (rm_at l Z a0 hw [] kc sx r rb er eb n (3 : Int32) z1 (24 : Int32) (97 : Int32) (cs ++ TXT) TXT cs.length 3 h n0 sz0 G O S1 S2 hn ⟨rfl, by first | decide | simp⟩ (by omega) (app_at cs rfl) rfl) (by decide) (by decide) (by decide) (by decide) K_3 (g := (mkF m 215 #[sI_ qa, sI_ qb, sI_ qc, sI_ qk, sI_ n, sI_ c5, sI_ c6, sI_ c7, sR_ hx_, sR_ r, sR_ er] [(.int (3 : Int32)), (.ref er), (.int n), (.ref r)])) rfl (by rw [hml]; rfl) (argsL := [(.ref r), (.int n), (.ref er), (.int (3 : Int32))]) (rest := []) (lenOf pd_35 rfl) rfl rfl (Nat.le_refl _) (hb hby at_215)
  obtain ⟨rfl, n_4, K_4⟩ := q_4
  have N_4 := Fr.app N_3 n_4
  refine GoesW.go (U' := (T_4.setTop (mkF m 218 #[sI_ qa, sI_ qb, sI_ qc, sI_ qk, sI_ n, sI_ c5, sI_ c6, sI_ c7, sR_ hx_, sR_ r, sR_ er] [(.int (1 : Int32))]))) st_4 ?_
  refine GoesW.go (U' := (T_4.setTop (mkF m 228 #[sI_ qa, sI_ qb, sI_ qc, sI_ qk, sI_ n, sI_ c5, sI_ c6, sI_ c7, sR_ hx_, sR_ r, sR_ er] [(.int (4 : Int32)), (.ref er), (.int n), (.ref r)]))) (fun t kt => ?_) ?_
  · skip
    refine XS.ifNo X_4.here hx rfl (hb hby at_218) rfl (XT.i0_eq_f (by decide)) ?_
    refine XS.aload X_4.here hx rfl (hb hby at_221) rfl rfl ?_
    refine XS.iload X_4.here hx rfl (hb hby at_223) rfl ?_
    refine XS.aload X_4.here hx rfl (hb hby at_225) rfl rfl ?_
    refine XS.iconst X_4.here hx rfl (hb hby at_227) ?_
    exact kt
  obtain ⟨v_5, T_5, L_5, X_5, q_5, st_5⟩ := callStatic X_4 hx hZ (y := (⟨"com/example/dead_letter_replay/deadletterreplay/page/HtmlEndPinLaw", "at", "(Ljava/lang/String;ILjava/lang/String;I)Z"⟩ : MethodName)) (W := 0) hown (wdOf hw 198 rfl) (wdOf hw 199 rfl) (wdOf hw 200 rfl) (wdOf hw 201 rfl) (by decide) (rm_at l Z a0 hw [] kc sx r rb er eb n (4 : Int32) z1 (24 : Int32) (105 : Int32) (cs ++ TXT) TXT cs.length 4 h n0 sz0 G O S1 S2 hn ⟨rfl, by first | decide | simp⟩ (by omega) (app_at cs rfl) rfl) (by decide) (by decide) (by decide) (by decide) K_4 (g := (mkF m 228 #[sI_ qa, sI_ qb, sI_ qc, sI_ qk, sI_ n, sI_ c5, sI_ c6, sI_ c7, sR_ hx_, sR_ r, sR_ er] [(.int (4 : Int32)), (.ref er), (.int n), (.ref r)])) rfl (by rw [hml]; rfl) (argsL := [(.ref r), (.int n), (.ref er), (.int (4 : Int32))]) (rest := []) (lenOf pd_35 rfl) rfl rfl (Nat.le_refl _) (hb hby at_228)
  obtain ⟨rfl, n_5, K_5⟩ := q_5
  have N_5 := Fr.app N_4 n_5
  refine GoesW.go (U' := (T_5.setTop (mkF m 231 #[sI_ qa, sI_ qb, sI_ qc, sI_ qk, sI_ n, sI_ c5, sI_ c6, sI_ c7, sR_ hx_, sR_ r, sR_ er] [(.int (1 : Int32))]))) st_5 ?_
  refine GoesW.go (U' := (T_5.setTop (mkF m 241 #[sI_ qa, sI_ qb, sI_ qc, sI_ qk, sI_ n, sI_ c5, sI_ c6, sI_ c7, sR_ hx_, sR_ r, sR_ er] [(.int (5 : Int32)), (.ref er), (.int n), (.ref r)]))) (fun t kt => ?_) ?_
  · skip
    refine XS.ifNo X_5.here hx rfl (hb hby at_231) rfl (XT.i0_eq_f (by decide)) ?_
    refine XS.aload X_5.here hx rfl (hb hby at_234) rfl rfl ?_
    refine XS.iload X_5.here hx rfl (hb hby at_236) rfl ?_
    refine XS.aload X_5.here hx rfl (hb hby at_238) rfl rfl ?_
    refine XS.iconst X_5.here hx rfl (hb hby at_240) ?_
    exact kt
  obtain ⟨v_6, T_6, L_6, X_6, q_6, st_6⟩ := callStatic X_5 hx hZ (y := (⟨"com/example/dead_letter_replay/deadletterreplay/page/HtmlEndPinLaw", "at", "(Ljava/lang/String;ILjava/lang/String;I)Z"⟩ : MethodName)) (W := 0) hown (wdOf hw 198 rfl) (wdOf hw 199 rfl) (wdOf hw 200 rfl) (wdOf hw 201 rfl) (by decide) (rm_at l Z a0 hw [] kc sx r rb er eb n (5 : Int32) z1 (24 : Int32) (110 : Int32) (cs ++ TXT) TXT cs.length 5 h n0 sz0 G O S1 S2 hn ⟨rfl, by first | decide | simp⟩ (by omega) (app_at cs rfl) rfl) (by decide) (by decide) (by decide) (by decide) K_5 (g := (mkF m 241 #[sI_ qa, sI_ qb, sI_ qc, sI_ qk, sI_ n, sI_ c5, sI_ c6, sI_ c7, sR_ hx_, sR_ r, sR_ er] [(.int (5 : Int32)), (.ref er), (.int n), (.ref r)])) rfl (by rw [hml]; rfl) (argsL := [(.ref r), (.int n), (.ref er), (.int (5 : Int32))]) (rest := []) (lenOf pd_35 rfl) rfl rfl (Nat.le_refl _) (hb hby at_241)
  obtain ⟨rfl, n_6, K_6⟩ := q_6
  have N_6 := Fr.app N_5 n_6
  refine GoesW.go (U' := (T_6.setTop (mkF m 244 #[sI_ qa, sI_ qb, sI_ qc, sI_ qk, sI_ n, sI_ c5, sI_ c6, sI_ c7, sR_ hx_, sR_ r, sR_ er] [(.int (1 : Int32))]))) st_6 ?_
  refine GoesW.go (U' := (T_6.setTop (mkF m 255 #[sI_ qa, sI_ qb, sI_ qc, sI_ qk, sI_ n, sI_ c5, sI_ c6, sI_ c7, sR_ hx_, sR_ r, sR_ er] [(.int (6 : Int32)), (.ref er), (.int n), (.ref r)]))) (fun t kt => ?_) ?_
  · skip
    refine XS.ifNo X_6.here hx rfl (hb hby at_244) rfl (XT.i0_eq_f (by decide)) ?_
    refine XS.aload X_6.here hx rfl (hb hby at_247) rfl rfl ?_
    refine XS.iload X_6.here hx rfl (hb hby at_249) rfl ?_
    refine XS.aload X_6.here hx rfl (hb hby at_251) rfl rfl ?_
    refine XS.bipush X_6.here hx rfl (hb hby at_253) ?_
    exact kt
  obtain ⟨v_7, T_7, L_7, X_7, q_7, st_7⟩ := callStatic X_6 hx hZ (y := (⟨"com/example/dead_letter_replay/deadletterreplay/page/HtmlEndPinLaw", "at", "(Ljava/lang/String;ILjava/lang/String;I)Z"⟩ : MethodName)) (W := 0) hown (wdOf hw 198 rfl) (wdOf hw 199 rfl) (wdOf hw 200 rfl) (wdOf hw 201 rfl) (by decide) (rm_at l Z a0 hw [] kc sx r rb er eb n (6 : Int32) z1 (24 : Int32) (62 : Int32) (cs ++ TXT) TXT cs.length 6 h n0 sz0 G O S1 S2 hn ⟨rfl, by first | decide | simp⟩ (by omega) (app_at cs rfl) rfl) (by decide) (by decide) (by decide) (by decide) K_6 (g := (mkF m 255 #[sI_ qa, sI_ qb, sI_ qc, sI_ qk, sI_ n, sI_ c5, sI_ c6, sI_ c7, sR_ hx_, sR_ r, sR_ er] [(.int (6 : Int32)), (.ref er), (.int n), (.ref r)])) rfl (by rw [hml]; rfl) (argsL := [(.ref r), (.int n), (.ref er), (.int (6 : Int32))]) (rest := []) (lenOf pd_35 rfl) rfl rfl (Nat.le_refl _) (hb hby at_255)
  obtain ⟨rfl, n_7, K_7⟩ := q_7
  have N_7 := Fr.app N_6 n_7
  refine GoesW.go (U' := (T_7.setTop (mkF m 258 #[sI_ qa, sI_ qb, sI_ qc, sI_ qk, sI_ n, sI_ c5, sI_ c6, sI_ c7, sR_ hx_, sR_ r, sR_ er] [(.int (1 : Int32))]))) st_7 ?_
  refine GoesW.go (U' := (T_7.setTop (mkF m 269 #[sI_ qa, sI_ qb, sI_ qc, sI_ qk, sI_ n, sI_ c5, sI_ c6, sI_ c7, sR_ hx_, sR_ r, sR_ er] [(.int (7 : Int32)), (.ref er), (.int n), (.ref r)]))) (fun t kt => ?_) ?_
  · skip
    refine XS.ifNo X_7.here hx rfl (hb hby at_258) rfl (XT.i0_eq_f (by decide)) ?_
    refine XS.aload X_7.here hx rfl (hb hby at_261) rfl rfl ?_
    refine XS.iload X_7.here hx rfl (hb hby at_263) rfl ?_
    refine XS.aload X_7.here hx rfl (hb hby at_265) rfl rfl ?_
    refine XS.bipush X_7.here hx rfl (hb hby at_267) ?_
    exact kt
  obtain ⟨v_8, T_8, L_8, X_8, q_8, st_8⟩ := callStatic X_7 hx hZ (y := (⟨"com/example/dead_letter_replay/deadletterreplay/page/HtmlEndPinLaw", "at", "(Ljava/lang/String;ILjava/lang/String;I)Z"⟩ : MethodName)) (W := 0) hown (wdOf hw 198 rfl) (wdOf hw 199 rfl) (wdOf hw 200 rfl) (wdOf hw 201 rfl) (by decide) (rm_at l Z a0 hw [] kc sx r rb er eb n (7 : Int32) z1 (24 : Int32) (10 : Int32) (cs ++ TXT) TXT cs.length 7 h n0 sz0 G O S1 S2 hn ⟨rfl, by first | decide | simp⟩ (by omega) (app_at cs rfl) rfl) (by decide) (by decide) (by decide) (by decide) K_7 (g := (mkF m 269 #[sI_ qa, sI_ qb, sI_ qc, sI_ qk, sI_ n, sI_ c5, sI_ c6, sI_ c7, sR_ hx_, sR_ r, sR_ er] [(.int (7 : Int32)), (.ref er), (.int n), (.ref r)])) rfl (by rw [hml]; rfl) (argsL := [(.ref r), (.int n), (.ref er), (.int (7 : Int32))]) (rest := []) (lenOf pd_35 rfl) rfl rfl (Nat.le_refl _) (hb hby at_269)
  obtain ⟨rfl, n_8, K_8⟩ := q_8
  have N_8 := Fr.app N_7 n_8
  refine GoesW.go (U' := (T_8.setTop (mkF m 272 #[sI_ qa, sI_ qb, sI_ qc, sI_ qk, sI_ n, sI_ c5, sI_ c6, sI_ c7, sR_ hx_, sR_ r, sR_ er] [(.int (1 : Int32))]))) st_8 ?_
  refine GoesW.go (U' := (T_8.setTop (mkF m 283 #[sI_ qa, sI_ qb, sI_ qc, sI_ qk, sI_ n, sI_ c5, sI_ c6, sI_ c7, sR_ hx_, sR_ r, sR_ er] [(.int (8 : Int32)), (.ref er), (.int n), (.ref r)]))) (fun t kt => ?_) ?_
  · skip
    refine XS.ifNo X_8.here hx rfl (hb hby at_272) rfl (XT.i0_eq_f (by decide)) ?_
    refine XS.aload X_8.here hx rfl (hb hby at_275) rfl rfl ?_
    refine XS.iload X_8.here hx rfl (hb hby at_277) rfl ?_
    refine XS.aload X_8.here hx rfl (hb hby at_279) rfl rfl ?_
    refine XS.bipush X_8.here hx rfl (hb hby at_281) ?_
    exact kt
  obtain ⟨v_9, T_9, L_9, X_9, q_9, st_9⟩ := callStatic X_8 hx hZ (y := (⟨"com/example/dead_letter_replay/deadletterreplay/page/HtmlEndPinLaw", "at", "(Ljava/lang/String;ILjava/lang/String;I)Z"⟩ : MethodName)) (W := 0) hown (wdOf hw 198 rfl) (wdOf hw 199 rfl) (wdOf hw 200 rfl) (wdOf hw 201 rfl) (by decide) (rm_at l Z a0 hw [] kc sx r rb er eb n (8 : Int32) z1 (24 : Int32) (60 : Int32) (cs ++ TXT) TXT cs.length 8 h n0 sz0 G O S1 S2 hn ⟨rfl, by first | decide | simp⟩ (by omega) (app_at cs rfl) rfl) (by decide) (by decide) (by decide) (by decide) K_8 (g := (mkF m 283 #[sI_ qa, sI_ qb, sI_ qc, sI_ qk, sI_ n, sI_ c5, sI_ c6, sI_ c7, sR_ hx_, sR_ r, sR_ er] [(.int (8 : Int32)), (.ref er), (.int n), (.ref r)])) rfl (by rw [hml]; rfl) (argsL := [(.ref r), (.int n), (.ref er), (.int (8 : Int32))]) (rest := []) (lenOf pd_35 rfl) rfl rfl (Nat.le_refl _) (hb hby at_283)
  obtain ⟨rfl, n_9, K_9⟩ := q_9
  have N_9 := Fr.app N_8 n_9
  refine GoesW.go (U' := (T_9.setTop (mkF m 286 #[sI_ qa, sI_ qb, sI_ qc, sI_ qk, sI_ n, sI_ c5, sI_ c6, sI_ c7, sR_ hx_, sR_ r, sR_ er] [(.int (1 : Int32))]))) st_9 ?_
  refine GoesW.go (U' := (T_9.setTop (mkF m 297 #[sI_ qa, sI_ qb, sI_ qc, sI_ qk, sI_ n, sI_ c5, sI_ c6, sI_ c7, sR_ hx_, sR_ r, sR_ er] [(.int (9 : Int32)), (.ref er), (.int n), (.ref r)]))) (fun t kt => ?_) ?_
  · skip
    refine XS.ifNo X_9.here hx rfl (hb hby at_286) rfl (XT.i0_eq_f (by decide)) ?_
    refine XS.aload X_9.here hx rfl (hb hby at_289) rfl rfl ?_
    refine XS.iload X_9.here hx rfl (hb hby at_291) rfl ?_
    refine XS.aload X_9.here hx rfl (hb hby at_293) rfl rfl ?_
    refine XS.bipush X_9.here hx rfl (hb hby at_295) ?_
    exact kt
  obtain ⟨v_10, T_10, L_10, X_10, q_10, st_10⟩ := callStatic X_9 hx hZ (y := (⟨"com/example/dead_letter_replay/deadletterreplay/page/HtmlEndPinLaw", "at", "(Ljava/lang/String;ILjava/lang/String;I)Z"⟩ : MethodName)) (W := 0) hown (wdOf hw 198 rfl) (wdOf hw 199 rfl) (wdOf hw 200 rfl) (wdOf hw 201 rfl) (by decide) (rm_at l Z a0 hw [] kc sx r rb er eb n (9 : Int32) z1 (24 : Int32) (47 : Int32) (cs ++ TXT) TXT cs.length 9 h n0 sz0 G O S1 S2 hn ⟨rfl, by first | decide | simp⟩ (by omega) (app_at cs rfl) rfl) (by decide) (by decide) (by decide) (by decide) K_9 (g := (mkF m 297 #[sI_ qa, sI_ qb, sI_ qc, sI_ qk, sI_ n, sI_ c5, sI_ c6, sI_ c7, sR_ hx_, sR_ r, sR_ er] [(.int (9 : Int32)), (.ref er), (.int n), (.ref r)])) rfl (by rw [hml]; rfl) (argsL := [(.ref r), (.int n), (.ref er), (.int (9 : Int32))]) (rest := []) (lenOf pd_35 rfl) rfl rfl (Nat.le_refl _) (hb hby at_297)
  obtain ⟨rfl, n_10, K_10⟩ := q_10
  have N_10 := Fr.app N_9 n_10
  refine GoesW.go (U' := (T_10.setTop (mkF m 300 #[sI_ qa, sI_ qb, sI_ qc, sI_ qk, sI_ n, sI_ c5, sI_ c6, sI_ c7, sR_ hx_, sR_ r, sR_ er] [(.int (1 : Int32))]))) st_10 ?_
  refine GoesW.go (U' := (T_10.setTop (mkF m 311 #[sI_ qa, sI_ qb, sI_ qc, sI_ qk, sI_ n, sI_ c5, sI_ c6, sI_ c7, sR_ hx_, sR_ r, sR_ er] [(.int (10 : Int32)), (.ref er), (.int n), (.ref r)]))) (fun t kt => ?_) ?_
  · skip
    refine XS.ifNo X_10.here hx rfl (hb hby at_300) rfl (XT.i0_eq_f (by decide)) ?_
    refine XS.aload X_10.here hx rfl (hb hby at_303) rfl rfl ?_
    refine XS.iload X_10.here hx rfl (hb hby at_305) rfl ?_
    refine XS.aload X_10.here hx rfl (hb hby at_307) rfl rfl ?_
    refine XS.bipush X_10.here hx rfl (hb hby at_309) ?_
    exact kt
  obtain ⟨v_11, T_11, L_11, X_11, q_11, st_11⟩ := callStatic X_10 hx hZ (y := (⟨"com/example/dead_letter_replay/deadletterreplay/page/HtmlEndPinLaw", "at", "(Ljava/lang/String;ILjava/lang/String;I)Z"⟩ : MethodName)) (W := 0) hown (wdOf hw 198 rfl) (wdOf hw 199 rfl) (wdOf hw 200 rfl) (wdOf hw 201 rfl) (by decide) (rm_at l Z a0 hw [] kc sx r rb er eb n (10 : Int32) z1 (24 : Int32) (98 : Int32) (cs ++ TXT) TXT cs.length 10 h n0 sz0 G O S1 S2 hn ⟨rfl, by first | decide | simp⟩ (by omega) (app_at cs rfl) rfl) (by decide) (by decide) (by decide) (by decide) K_10 (g := (mkF m 311 #[sI_ qa, sI_ qb, sI_ qc, sI_ qk, sI_ n, sI_ c5, sI_ c6, sI_ c7, sR_ hx_, sR_ r, sR_ er] [(.int (10 : Int32)), (.ref er), (.int n), (.ref r)])) rfl (by rw [hml]; rfl) (argsL := [(.ref r), (.int n), (.ref er), (.int (10 : Int32))]) (rest := []) (lenOf pd_35 rfl) rfl rfl (Nat.le_refl _) (hb hby at_311)
  obtain ⟨rfl, n_11, K_11⟩ := q_11
  have N_11 := Fr.app N_10 n_11
  refine GoesW.go (U' := (T_11.setTop (mkF m 314 #[sI_ qa, sI_ qb, sI_ qc, sI_ qk, sI_ n, sI_ c5, sI_ c6, sI_ c7, sR_ hx_, sR_ r, sR_ er] [(.int (1 : Int32))]))) st_11 ?_
  refine GoesW.go (U' := (T_11.setTop (mkF m 325 #[sI_ qa, sI_ qb, sI_ qc, sI_ qk, sI_ n, sI_ c5, sI_ c6, sI_ c7, sR_ hx_, sR_ r, sR_ er] [(.int (11 : Int32)), (.ref er), (.int n), (.ref r)]))) (fun t kt => ?_) ?_
  · skip
    refine XS.ifNo X_11.here hx rfl (hb hby at_314) rfl (XT.i0_eq_f (by decide)) ?_
    refine XS.aload X_11.here hx rfl (hb hby at_317) rfl rfl ?_
    refine XS.iload X_11.here hx rfl (hb hby at_319) rfl ?_
    refine XS.aload X_11.here hx rfl (hb hby at_321) rfl rfl ?_
    refine XS.bipush X_11.here hx rfl (hb hby at_323) ?_
    exact kt
  obtain ⟨v_12, T_12, L_12, X_12, q_12, st_12⟩ := callStatic X_11 hx hZ (y := (⟨"com/example/dead_letter_replay/deadletterreplay/page/HtmlEndPinLaw", "at", "(Ljava/lang/String;ILjava/lang/String;I)Z"⟩ : MethodName)) (W := 0) hown (wdOf hw 198 rfl) (wdOf hw 199 rfl) (wdOf hw 200 rfl) (wdOf hw 201 rfl) (by decide) (rm_at l Z a0 hw [] kc sx r rb er eb n (11 : Int32) z1 (24 : Int32) (111 : Int32) (cs ++ TXT) TXT cs.length 11 h n0 sz0 G O S1 S2 hn ⟨rfl, by first | decide | simp⟩ (by omega) (app_at cs rfl) rfl) (by decide) (by decide) (by decide) (by decide) K_11 (g := (mkF m 325 #[sI_ qa, sI_ qb, sI_ qc, sI_ qk, sI_ n, sI_ c5, sI_ c6, sI_ c7, sR_ hx_, sR_ r, sR_ er] [(.int (11 : Int32)), (.ref er), (.int n), (.ref r)])) rfl (by rw [hml]; rfl) (argsL := [(.ref r), (.int n), (.ref er), (.int (11 : Int32))]) (rest := []) (lenOf pd_35 rfl) rfl rfl (Nat.le_refl _) (hb hby at_325)
  obtain ⟨rfl, n_12, K_12⟩ := q_12
  have N_12 := Fr.app N_11 n_12
  refine GoesW.go (U' := (T_12.setTop (mkF m 328 #[sI_ qa, sI_ qb, sI_ qc, sI_ qk, sI_ n, sI_ c5, sI_ c6, sI_ c7, sR_ hx_, sR_ r, sR_ er] [(.int (1 : Int32))]))) st_12 ?_
  refine GoesW.go (U' := (T_12.setTop (mkF m 339 #[sI_ qa, sI_ qb, sI_ qc, sI_ qk, sI_ n, sI_ c5, sI_ c6, sI_ c7, sR_ hx_, sR_ r, sR_ er] [(.int (12 : Int32)), (.ref er), (.int n), (.ref r)]))) (fun t kt => ?_) ?_
  · skip
    refine XS.ifNo X_12.here hx rfl (hb hby at_328) rfl (XT.i0_eq_f (by decide)) ?_
    refine XS.aload X_12.here hx rfl (hb hby at_331) rfl rfl ?_
    refine XS.iload X_12.here hx rfl (hb hby at_333) rfl ?_
    refine XS.aload X_12.here hx rfl (hb hby at_335) rfl rfl ?_
    refine XS.bipush X_12.here hx rfl (hb hby at_337) ?_
    exact kt
  obtain ⟨v_13, T_13, L_13, X_13, q_13, st_13⟩ := callStatic X_12 hx hZ (y := (⟨"com/example/dead_letter_replay/deadletterreplay/page/HtmlEndPinLaw", "at", "(Ljava/lang/String;ILjava/lang/String;I)Z"⟩ : MethodName)) (W := 0) hown (wdOf hw 198 rfl) (wdOf hw 199 rfl) (wdOf hw 200 rfl) (wdOf hw 201 rfl) (by decide) (rm_at l Z a0 hw [] kc sx r rb er eb n (12 : Int32) z1 (24 : Int32) (100 : Int32) (cs ++ TXT) TXT cs.length 12 h n0 sz0 G O S1 S2 hn ⟨rfl, by first | decide | simp⟩ (by omega) (app_at cs rfl) rfl) (by decide) (by decide) (by decide) (by decide) K_12 (g := (mkF m 339 #[sI_ qa, sI_ qb, sI_ qc, sI_ qk, sI_ n, sI_ c5, sI_ c6, sI_ c7, sR_ hx_, sR_ r, sR_ er] [(.int (12 : Int32)), (.ref er), (.int n), (.ref r)])) rfl (by rw [hml]; rfl) (argsL := [(.ref r), (.int n), (.ref er), (.int (12 : Int32))]) (rest := []) (lenOf pd_35 rfl) rfl rfl (Nat.le_refl _) (hb hby at_339)
  obtain ⟨rfl, n_13, K_13⟩ := q_13
  have N_13 := Fr.app N_12 n_13
  refine GoesW.go (U' := (T_13.setTop (mkF m 342 #[sI_ qa, sI_ qb, sI_ qc, sI_ qk, sI_ n, sI_ c5, sI_ c6, sI_ c7, sR_ hx_, sR_ r, sR_ er] [(.int (1 : Int32))]))) st_13 ?_
  refine GoesW.go (U' := (T_13.setTop (mkF m 353 #[sI_ qa, sI_ qb, sI_ qc, sI_ qk, sI_ n, sI_ c5, sI_ c6, sI_ c7, sR_ hx_, sR_ r, sR_ er] [(.int (13 : Int32)), (.ref er), (.int n), (.ref r)]))) (fun t kt => ?_) ?_
  · skip
    refine XS.ifNo X_13.here hx rfl (hb hby at_342) rfl (XT.i0_eq_f (by decide)) ?_
    refine XS.aload X_13.here hx rfl (hb hby at_345) rfl rfl ?_
    refine XS.iload X_13.here hx rfl (hb hby at_347) rfl ?_
    refine XS.aload X_13.here hx rfl (hb hby at_349) rfl rfl ?_
    refine XS.bipush X_13.here hx rfl (hb hby at_351) ?_
    exact kt
  obtain ⟨v_14, T_14, L_14, X_14, q_14, st_14⟩ := callStatic X_13 hx hZ (y := (⟨"com/example/dead_letter_replay/deadletterreplay/page/HtmlEndPinLaw", "at", "(Ljava/lang/String;ILjava/lang/String;I)Z"⟩ : MethodName)) (W := 0) hown (wdOf hw 198 rfl) (wdOf hw 199 rfl) (wdOf hw 200 rfl) (wdOf hw 201 rfl) (by decide) (rm_at l Z a0 hw [] kc sx r rb er eb n (13 : Int32) z1 (24 : Int32) (121 : Int32) (cs ++ TXT) TXT cs.length 13 h n0 sz0 G O S1 S2 hn ⟨rfl, by first | decide | simp⟩ (by omega) (app_at cs rfl) rfl) (by decide) (by decide) (by decide) (by decide) K_13 (g := (mkF m 353 #[sI_ qa, sI_ qb, sI_ qc, sI_ qk, sI_ n, sI_ c5, sI_ c6, sI_ c7, sR_ hx_, sR_ r, sR_ er] [(.int (13 : Int32)), (.ref er), (.int n), (.ref r)])) rfl (by rw [hml]; rfl) (argsL := [(.ref r), (.int n), (.ref er), (.int (13 : Int32))]) (rest := []) (lenOf pd_35 rfl) rfl rfl (Nat.le_refl _) (hb hby at_353)
  obtain ⟨rfl, n_14, K_14⟩ := q_14
  have N_14 := Fr.app N_13 n_14
  refine GoesW.go (U' := (T_14.setTop (mkF m 356 #[sI_ qa, sI_ qb, sI_ qc, sI_ qk, sI_ n, sI_ c5, sI_ c6, sI_ c7, sR_ hx_, sR_ r, sR_ er] [(.int (1 : Int32))]))) st_14 ?_
  refine GoesW.go (U' := (T_14.setTop (mkF m 367 #[sI_ qa, sI_ qb, sI_ qc, sI_ qk, sI_ n, sI_ c5, sI_ c6, sI_ c7, sR_ hx_, sR_ r, sR_ er] [(.int (14 : Int32)), (.ref er), (.int n), (.ref r)]))) (fun t kt => ?_) ?_
  · skip
    refine XS.ifNo X_14.here hx rfl (hb hby at_356) rfl (XT.i0_eq_f (by decide)) ?_
    refine XS.aload X_14.here hx rfl (hb hby at_359) rfl rfl ?_
    refine XS.iload X_14.here hx rfl (hb hby at_361) rfl ?_
    refine XS.aload X_14.here hx rfl (hb hby at_363) rfl rfl ?_
    refine XS.bipush X_14.here hx rfl (hb hby at_365) ?_
    exact kt
  obtain ⟨v_15, T_15, L_15, X_15, q_15, st_15⟩ := callStatic X_14 hx hZ (y := (⟨"com/example/dead_letter_replay/deadletterreplay/page/HtmlEndPinLaw", "at", "(Ljava/lang/String;ILjava/lang/String;I)Z"⟩ : MethodName)) (W := 0) hown (wdOf hw 198 rfl) (wdOf hw 199 rfl) (wdOf hw 200 rfl) (wdOf hw 201 rfl) (by decide) (rm_at l Z a0 hw [] kc sx r rb er eb n (14 : Int32) z1 (24 : Int32) (62 : Int32) (cs ++ TXT) TXT cs.length 14 h n0 sz0 G O S1 S2 hn ⟨rfl, by first | decide | simp⟩ (by omega) (app_at cs rfl) rfl) (by decide) (by decide) (by decide) (by decide) K_14 (g := (mkF m 367 #[sI_ qa, sI_ qb, sI_ qc, sI_ qk, sI_ n, sI_ c5, sI_ c6, sI_ c7, sR_ hx_, sR_ r, sR_ er] [(.int (14 : Int32)), (.ref er), (.int n), (.ref r)])) rfl (by rw [hml]; rfl) (argsL := [(.ref r), (.int n), (.ref er), (.int (14 : Int32))]) (rest := []) (lenOf pd_35 rfl) rfl rfl (Nat.le_refl _) (hb hby at_367)
  obtain ⟨rfl, n_15, K_15⟩ := q_15
  have N_15 := Fr.app N_14 n_15
  refine GoesW.go (U' := (T_15.setTop (mkF m 370 #[sI_ qa, sI_ qb, sI_ qc, sI_ qk, sI_ n, sI_ c5, sI_ c6, sI_ c7, sR_ hx_, sR_ r, sR_ er] [(.int (1 : Int32))]))) st_15 ?_
  refine GoesW.go (U' := (T_15.setTop (mkF m 381 #[sI_ qa, sI_ qb, sI_ qc, sI_ qk, sI_ n, sI_ c5, sI_ c6, sI_ c7, sR_ hx_, sR_ r, sR_ er] [(.int (15 : Int32)), (.ref er), (.int n), (.ref r)]))) (fun t kt => ?_) ?_
  · skip
    refine XS.ifNo X_15.here hx rfl (hb hby at_370) rfl (XT.i0_eq_f (by decide)) ?_
    refine XS.aload X_15.here hx rfl (hb hby at_373) rfl rfl ?_
    refine XS.iload X_15.here hx rfl (hb hby at_375) rfl ?_
    refine XS.aload X_15.here hx rfl (hb hby at_377) rfl rfl ?_
    refine XS.bipush X_15.here hx rfl (hb hby at_379) ?_
    exact kt
  obtain ⟨v_16, T_16, L_16, X_16, q_16, st_16⟩ := callStatic X_15 hx hZ (y := (⟨"com/example/dead_letter_replay/deadletterreplay/page/HtmlEndPinLaw", "at", "(Ljava/lang/String;ILjava/lang/String;I)Z"⟩ : MethodName)) (W := 0) hown (wdOf hw 198 rfl) (wdOf hw 199 rfl) (wdOf hw 200 rfl) (wdOf hw 201 rfl) (by decide) (rm_at l Z a0 hw [] kc sx r rb er eb n (15 : Int32) z1 (24 : Int32) (10 : Int32) (cs ++ TXT) TXT cs.length 15 h n0 sz0 G O S1 S2 hn ⟨rfl, by first | decide | simp⟩ (by omega) (app_at cs rfl) rfl) (by decide) (by decide) (by decide) (by decide) K_15 (g := (mkF m 381 #[sI_ qa, sI_ qb, sI_ qc, sI_ qk, sI_ n, sI_ c5, sI_ c6, sI_ c7, sR_ hx_, sR_ r, sR_ er] [(.int (15 : Int32)), (.ref er), (.int n), (.ref r)])) rfl (by rw [hml]; rfl) (argsL := [(.ref r), (.int n), (.ref er), (.int (15 : Int32))]) (rest := []) (lenOf pd_35 rfl) rfl rfl (Nat.le_refl _) (hb hby at_381)
  obtain ⟨rfl, n_16, K_16⟩ := q_16
  have N_16 := Fr.app N_15 n_16
  refine GoesW.go (U' := (T_16.setTop (mkF m 384 #[sI_ qa, sI_ qb, sI_ qc, sI_ qk, sI_ n, sI_ c5, sI_ c6, sI_ c7, sR_ hx_, sR_ r, sR_ er] [(.int (1 : Int32))]))) st_16 ?_
  refine GoesW.go (U' := (T_16.setTop (mkF m 395 #[sI_ qa, sI_ qb, sI_ qc, sI_ qk, sI_ n, sI_ c5, sI_ c6, sI_ c7, sR_ hx_, sR_ r, sR_ er] [(.int (16 : Int32)), (.ref er), (.int n), (.ref r)]))) (fun t kt => ?_) ?_
  · skip
    refine XS.ifNo X_16.here hx rfl (hb hby at_384) rfl (XT.i0_eq_f (by decide)) ?_
    refine XS.aload X_16.here hx rfl (hb hby at_387) rfl rfl ?_
    refine XS.iload X_16.here hx rfl (hb hby at_389) rfl ?_
    refine XS.aload X_16.here hx rfl (hb hby at_391) rfl rfl ?_
    refine XS.bipush X_16.here hx rfl (hb hby at_393) ?_
    exact kt
  obtain ⟨v_17, T_17, L_17, X_17, q_17, st_17⟩ := callStatic X_16 hx hZ (y := (⟨"com/example/dead_letter_replay/deadletterreplay/page/HtmlEndPinLaw", "at", "(Ljava/lang/String;ILjava/lang/String;I)Z"⟩ : MethodName)) (W := 0) hown (wdOf hw 198 rfl) (wdOf hw 199 rfl) (wdOf hw 200 rfl) (wdOf hw 201 rfl) (by decide) (rm_at l Z a0 hw [] kc sx r rb er eb n (16 : Int32) z1 (24 : Int32) (60 : Int32) (cs ++ TXT) TXT cs.length 16 h n0 sz0 G O S1 S2 hn ⟨rfl, by first | decide | simp⟩ (by omega) (app_at cs rfl) rfl) (by decide) (by decide) (by decide) (by decide) K_16 (g := (mkF m 395 #[sI_ qa, sI_ qb, sI_ qc, sI_ qk, sI_ n, sI_ c5, sI_ c6, sI_ c7, sR_ hx_, sR_ r, sR_ er] [(.int (16 : Int32)), (.ref er), (.int n), (.ref r)])) rfl (by rw [hml]; rfl) (argsL := [(.ref r), (.int n), (.ref er), (.int (16 : Int32))]) (rest := []) (lenOf pd_35 rfl) rfl rfl (Nat.le_refl _) (hb hby at_395)
  obtain ⟨rfl, n_17, K_17⟩ := q_17
  have N_17 := Fr.app N_16 n_17
  refine GoesW.go (U' := (T_17.setTop (mkF m 398 #[sI_ qa, sI_ qb, sI_ qc, sI_ qk, sI_ n, sI_ c5, sI_ c6, sI_ c7, sR_ hx_, sR_ r, sR_ er] [(.int (1 : Int32))]))) st_17 ?_
  refine GoesW.go (U' := (T_17.setTop (mkF m 409 #[sI_ qa, sI_ qb, sI_ qc, sI_ qk, sI_ n, sI_ c5, sI_ c6, sI_ c7, sR_ hx_, sR_ r, sR_ er] [(.int (17 : Int32)), (.ref er), (.int n), (.ref r)]))) (fun t kt => ?_) ?_
  · skip
    refine XS.ifNo X_17.here hx rfl (hb hby at_398) rfl (XT.i0_eq_f (by decide)) ?_
    refine XS.aload X_17.here hx rfl (hb hby at_401) rfl rfl ?_
    refine XS.iload X_17.here hx rfl (hb hby at_403) rfl ?_
    refine XS.aload X_17.here hx rfl (hb hby at_405) rfl rfl ?_
    refine XS.bipush X_17.here hx rfl (hb hby at_407) ?_
    exact kt
  obtain ⟨v_18, T_18, L_18, X_18, q_18, st_18⟩ := callStatic X_17 hx hZ (y := (⟨"com/example/dead_letter_replay/deadletterreplay/page/HtmlEndPinLaw", "at", "(Ljava/lang/String;ILjava/lang/String;I)Z"⟩ : MethodName)) (W := 0) hown (wdOf hw 198 rfl) (wdOf hw 199 rfl) (wdOf hw 200 rfl) (wdOf hw 201 rfl) (by decide) (rm_at l Z a0 hw [] kc sx r rb er eb n (17 : Int32) z1 (24 : Int32) (47 : Int32) (cs ++ TXT) TXT cs.length 17 h n0 sz0 G O S1 S2 hn ⟨rfl, by first | decide | simp⟩ (by omega) (app_at cs rfl) rfl) (by decide) (by decide) (by decide) (by decide) K_17 (g := (mkF m 409 #[sI_ qa, sI_ qb, sI_ qc, sI_ qk, sI_ n, sI_ c5, sI_ c6, sI_ c7, sR_ hx_, sR_ r, sR_ er] [(.int (17 : Int32)), (.ref er), (.int n), (.ref r)])) rfl (by rw [hml]; rfl) (argsL := [(.ref r), (.int n), (.ref er), (.int (17 : Int32))]) (rest := []) (lenOf pd_35 rfl) rfl rfl (Nat.le_refl _) (hb hby at_409)
  obtain ⟨rfl, n_18, K_18⟩ := q_18
  have N_18 := Fr.app N_17 n_18
  refine GoesW.go (U' := (T_18.setTop (mkF m 412 #[sI_ qa, sI_ qb, sI_ qc, sI_ qk, sI_ n, sI_ c5, sI_ c6, sI_ c7, sR_ hx_, sR_ r, sR_ er] [(.int (1 : Int32))]))) st_18 ?_
  refine GoesW.go (U' := (T_18.setTop (mkF m 423 #[sI_ qa, sI_ qb, sI_ qc, sI_ qk, sI_ n, sI_ c5, sI_ c6, sI_ c7, sR_ hx_, sR_ r, sR_ er] [(.int (18 : Int32)), (.ref er), (.int n), (.ref r)]))) (fun t kt => ?_) ?_
  · skip
    refine XS.ifNo X_18.here hx rfl (hb hby at_412) rfl (XT.i0_eq_f (by decide)) ?_
    refine XS.aload X_18.here hx rfl (hb hby at_415) rfl rfl ?_
    refine XS.iload X_18.here hx rfl (hb hby at_417) rfl ?_
    refine XS.aload X_18.here hx rfl (hb hby at_419) rfl rfl ?_
    refine XS.bipush X_18.here hx rfl (hb hby at_421) ?_
    exact kt
  obtain ⟨v_19, T_19, L_19, X_19, q_19, st_19⟩ := callStatic X_18 hx hZ (y := (⟨"com/example/dead_letter_replay/deadletterreplay/page/HtmlEndPinLaw", "at", "(Ljava/lang/String;ILjava/lang/String;I)Z"⟩ : MethodName)) (W := 0) hown (wdOf hw 198 rfl) (wdOf hw 199 rfl) (wdOf hw 200 rfl) (wdOf hw 201 rfl) (by decide) (rm_at l Z a0 hw [] kc sx r rb er eb n (18 : Int32) z1 (24 : Int32) (104 : Int32) (cs ++ TXT) TXT cs.length 18 h n0 sz0 G O S1 S2 hn ⟨rfl, by first | decide | simp⟩ (by omega) (app_at cs rfl) rfl) (by decide) (by decide) (by decide) (by decide) K_18 (g := (mkF m 423 #[sI_ qa, sI_ qb, sI_ qc, sI_ qk, sI_ n, sI_ c5, sI_ c6, sI_ c7, sR_ hx_, sR_ r, sR_ er] [(.int (18 : Int32)), (.ref er), (.int n), (.ref r)])) rfl (by rw [hml]; rfl) (argsL := [(.ref r), (.int n), (.ref er), (.int (18 : Int32))]) (rest := []) (lenOf pd_35 rfl) rfl rfl (Nat.le_refl _) (hb hby at_423)
  obtain ⟨rfl, n_19, K_19⟩ := q_19
  have N_19 := Fr.app N_18 n_19
  refine GoesW.go (U' := (T_19.setTop (mkF m 426 #[sI_ qa, sI_ qb, sI_ qc, sI_ qk, sI_ n, sI_ c5, sI_ c6, sI_ c7, sR_ hx_, sR_ r, sR_ er] [(.int (1 : Int32))]))) st_19 ?_
  refine GoesW.go (U' := (T_19.setTop (mkF m 437 #[sI_ qa, sI_ qb, sI_ qc, sI_ qk, sI_ n, sI_ c5, sI_ c6, sI_ c7, sR_ hx_, sR_ r, sR_ er] [(.int (19 : Int32)), (.ref er), (.int n), (.ref r)]))) (fun t kt => ?_) ?_
  · skip
    refine XS.ifNo X_19.here hx rfl (hb hby at_426) rfl (XT.i0_eq_f (by decide)) ?_
    refine XS.aload X_19.here hx rfl (hb hby at_429) rfl rfl ?_
    refine XS.iload X_19.here hx rfl (hb hby at_431) rfl ?_
    refine XS.aload X_19.here hx rfl (hb hby at_433) rfl rfl ?_
    refine XS.bipush X_19.here hx rfl (hb hby at_435) ?_
    exact kt
  obtain ⟨v_20, T_20, L_20, X_20, q_20, st_20⟩ := callStatic X_19 hx hZ (y := (⟨"com/example/dead_letter_replay/deadletterreplay/page/HtmlEndPinLaw", "at", "(Ljava/lang/String;ILjava/lang/String;I)Z"⟩ : MethodName)) (W := 0) hown (wdOf hw 198 rfl) (wdOf hw 199 rfl) (wdOf hw 200 rfl) (wdOf hw 201 rfl) (by decide) (rm_at l Z a0 hw [] kc sx r rb er eb n (19 : Int32) z1 (24 : Int32) (116 : Int32) (cs ++ TXT) TXT cs.length 19 h n0 sz0 G O S1 S2 hn ⟨rfl, by first | decide | simp⟩ (by omega) (app_at cs rfl) rfl) (by decide) (by decide) (by decide) (by decide) K_19 (g := (mkF m 437 #[sI_ qa, sI_ qb, sI_ qc, sI_ qk, sI_ n, sI_ c5, sI_ c6, sI_ c7, sR_ hx_, sR_ r, sR_ er] [(.int (19 : Int32)), (.ref er), (.int n), (.ref r)])) rfl (by rw [hml]; rfl) (argsL := [(.ref r), (.int n), (.ref er), (.int (19 : Int32))]) (rest := []) (lenOf pd_35 rfl) rfl rfl (Nat.le_refl _) (hb hby at_437)
  obtain ⟨rfl, n_20, K_20⟩ := q_20
  have N_20 := Fr.app N_19 n_20
  refine GoesW.go (U' := (T_20.setTop (mkF m 440 #[sI_ qa, sI_ qb, sI_ qc, sI_ qk, sI_ n, sI_ c5, sI_ c6, sI_ c7, sR_ hx_, sR_ r, sR_ er] [(.int (1 : Int32))]))) st_20 ?_
  refine GoesW.go (U' := (T_20.setTop (mkF m 451 #[sI_ qa, sI_ qb, sI_ qc, sI_ qk, sI_ n, sI_ c5, sI_ c6, sI_ c7, sR_ hx_, sR_ r, sR_ er] [(.int (20 : Int32)), (.ref er), (.int n), (.ref r)]))) (fun t kt => ?_) ?_
  · skip
    refine XS.ifNo X_20.here hx rfl (hb hby at_440) rfl (XT.i0_eq_f (by decide)) ?_
    refine XS.aload X_20.here hx rfl (hb hby at_443) rfl rfl ?_
    refine XS.iload X_20.here hx rfl (hb hby at_445) rfl ?_
    refine XS.aload X_20.here hx rfl (hb hby at_447) rfl rfl ?_
    refine XS.bipush X_20.here hx rfl (hb hby at_449) ?_
    exact kt
  obtain ⟨v_21, T_21, L_21, X_21, q_21, st_21⟩ := callStatic X_20 hx hZ (y := (⟨"com/example/dead_letter_replay/deadletterreplay/page/HtmlEndPinLaw", "at", "(Ljava/lang/String;ILjava/lang/String;I)Z"⟩ : MethodName)) (W := 0) hown (wdOf hw 198 rfl) (wdOf hw 199 rfl) (wdOf hw 200 rfl) (wdOf hw 201 rfl) (by decide) (rm_at l Z a0 hw [] kc sx r rb er eb n (20 : Int32) z1 (24 : Int32) (109 : Int32) (cs ++ TXT) TXT cs.length 20 h n0 sz0 G O S1 S2 hn ⟨rfl, by first | decide | simp⟩ (by omega) (app_at cs rfl) rfl) (by decide) (by decide) (by decide) (by decide) K_20 (g := (mkF m 451 #[sI_ qa, sI_ qb, sI_ qc, sI_ qk, sI_ n, sI_ c5, sI_ c6, sI_ c7, sR_ hx_, sR_ r, sR_ er] [(.int (20 : Int32)), (.ref er), (.int n), (.ref r)])) rfl (by rw [hml]; rfl) (argsL := [(.ref r), (.int n), (.ref er), (.int (20 : Int32))]) (rest := []) (lenOf pd_35 rfl) rfl rfl (Nat.le_refl _) (hb hby at_451)
  obtain ⟨rfl, n_21, K_21⟩ := q_21
  have N_21 := Fr.app N_20 n_21
  refine GoesW.go (U' := (T_21.setTop (mkF m 454 #[sI_ qa, sI_ qb, sI_ qc, sI_ qk, sI_ n, sI_ c5, sI_ c6, sI_ c7, sR_ hx_, sR_ r, sR_ er] [(.int (1 : Int32))]))) st_21 ?_
  refine GoesW.go (U' := (T_21.setTop (mkF m 465 #[sI_ qa, sI_ qb, sI_ qc, sI_ qk, sI_ n, sI_ c5, sI_ c6, sI_ c7, sR_ hx_, sR_ r, sR_ er] [(.int (21 : Int32)), (.ref er), (.int n), (.ref r)]))) (fun t kt => ?_) ?_
  · skip
    refine XS.ifNo X_21.here hx rfl (hb hby at_454) rfl (XT.i0_eq_f (by decide)) ?_
    refine XS.aload X_21.here hx rfl (hb hby at_457) rfl rfl ?_
    refine XS.iload X_21.here hx rfl (hb hby at_459) rfl ?_
    refine XS.aload X_21.here hx rfl (hb hby at_461) rfl rfl ?_
    refine XS.bipush X_21.here hx rfl (hb hby at_463) ?_
    exact kt
  obtain ⟨v_22, T_22, L_22, X_22, q_22, st_22⟩ := callStatic X_21 hx hZ (y := (⟨"com/example/dead_letter_replay/deadletterreplay/page/HtmlEndPinLaw", "at", "(Ljava/lang/String;ILjava/lang/String;I)Z"⟩ : MethodName)) (W := 0) hown (wdOf hw 198 rfl) (wdOf hw 199 rfl) (wdOf hw 200 rfl) (wdOf hw 201 rfl) (by decide) (rm_at l Z a0 hw [] kc sx r rb er eb n (21 : Int32) z1 (24 : Int32) (108 : Int32) (cs ++ TXT) TXT cs.length 21 h n0 sz0 G O S1 S2 hn ⟨rfl, by first | decide | simp⟩ (by omega) (app_at cs rfl) rfl) (by decide) (by decide) (by decide) (by decide) K_21 (g := (mkF m 465 #[sI_ qa, sI_ qb, sI_ qc, sI_ qk, sI_ n, sI_ c5, sI_ c6, sI_ c7, sR_ hx_, sR_ r, sR_ er] [(.int (21 : Int32)), (.ref er), (.int n), (.ref r)])) rfl (by rw [hml]; rfl) (argsL := [(.ref r), (.int n), (.ref er), (.int (21 : Int32))]) (rest := []) (lenOf pd_35 rfl) rfl rfl (Nat.le_refl _) (hb hby at_465)
  obtain ⟨rfl, n_22, K_22⟩ := q_22
  have N_22 := Fr.app N_21 n_22
  refine GoesW.go (U' := (T_22.setTop (mkF m 468 #[sI_ qa, sI_ qb, sI_ qc, sI_ qk, sI_ n, sI_ c5, sI_ c6, sI_ c7, sR_ hx_, sR_ r, sR_ er] [(.int (1 : Int32))]))) st_22 ?_
  refine GoesW.go (U' := (T_22.setTop (mkF m 479 #[sI_ qa, sI_ qb, sI_ qc, sI_ qk, sI_ n, sI_ c5, sI_ c6, sI_ c7, sR_ hx_, sR_ r, sR_ er] [(.int (22 : Int32)), (.ref er), (.int n), (.ref r)]))) (fun t kt => ?_) ?_
  · skip
    refine XS.ifNo X_22.here hx rfl (hb hby at_468) rfl (XT.i0_eq_f (by decide)) ?_
    refine XS.aload X_22.here hx rfl (hb hby at_471) rfl rfl ?_
    refine XS.iload X_22.here hx rfl (hb hby at_473) rfl ?_
    refine XS.aload X_22.here hx rfl (hb hby at_475) rfl rfl ?_
    refine XS.bipush X_22.here hx rfl (hb hby at_477) ?_
    exact kt
  obtain ⟨v_23, T_23, L_23, X_23, q_23, st_23⟩ := callStatic X_22 hx hZ (y := (⟨"com/example/dead_letter_replay/deadletterreplay/page/HtmlEndPinLaw", "at", "(Ljava/lang/String;ILjava/lang/String;I)Z"⟩ : MethodName)) (W := 0) hown (wdOf hw 198 rfl) (wdOf hw 199 rfl) (wdOf hw 200 rfl) (wdOf hw 201 rfl) (by decide) (rm_at l Z a0 hw [] kc sx r rb er eb n (22 : Int32) z1 (24 : Int32) (62 : Int32) (cs ++ TXT) TXT cs.length 22 h n0 sz0 G O S1 S2 hn ⟨rfl, by first | decide | simp⟩ (by omega) (app_at cs rfl) rfl) (by decide) (by decide) (by decide) (by decide) K_22 (g := (mkF m 479 #[sI_ qa, sI_ qb, sI_ qc, sI_ qk, sI_ n, sI_ c5, sI_ c6, sI_ c7, sR_ hx_, sR_ r, sR_ er] [(.int (22 : Int32)), (.ref er), (.int n), (.ref r)])) rfl (by rw [hml]; rfl) (argsL := [(.ref r), (.int n), (.ref er), (.int (22 : Int32))]) (rest := []) (lenOf pd_35 rfl) rfl rfl (Nat.le_refl _) (hb hby at_479)
  obtain ⟨rfl, n_23, K_23⟩ := q_23
  have N_23 := Fr.app N_22 n_23
  refine GoesW.go (U' := (T_23.setTop (mkF m 482 #[sI_ qa, sI_ qb, sI_ qc, sI_ qk, sI_ n, sI_ c5, sI_ c6, sI_ c7, sR_ hx_, sR_ r, sR_ er] [(.int (1 : Int32))]))) st_23 ?_
  refine GoesW.go (U' := (T_23.setTop (mkF m 493 #[sI_ qa, sI_ qb, sI_ qc, sI_ qk, sI_ n, sI_ c5, sI_ c6, sI_ c7, sR_ hx_, sR_ r, sR_ er] [(.int (23 : Int32)), (.ref er), (.int n), (.ref r)]))) (fun t kt => ?_) ?_
  · skip
    refine XS.ifNo X_23.here hx rfl (hb hby at_482) rfl (XT.i0_eq_f (by decide)) ?_
    refine XS.aload X_23.here hx rfl (hb hby at_485) rfl rfl ?_
    refine XS.iload X_23.here hx rfl (hb hby at_487) rfl ?_
    refine XS.aload X_23.here hx rfl (hb hby at_489) rfl rfl ?_
    refine XS.bipush X_23.here hx rfl (hb hby at_491) ?_
    exact kt
  obtain ⟨v_24, T_24, L_24, X_24, q_24, st_24⟩ := callStatic X_23 hx hZ (y := (⟨"com/example/dead_letter_replay/deadletterreplay/page/HtmlEndPinLaw", "at", "(Ljava/lang/String;ILjava/lang/String;I)Z"⟩ : MethodName)) (W := 0) hown (wdOf hw 198 rfl) (wdOf hw 199 rfl) (wdOf hw 200 rfl) (wdOf hw 201 rfl) (by decide) (rm_at l Z a0 hw [] kc sx r rb er eb n (23 : Int32) z1 (24 : Int32) (10 : Int32) (cs ++ TXT) TXT cs.length 23 h n0 sz0 G O S1 S2 hn ⟨rfl, by first | decide | simp⟩ (by omega) (app_at cs rfl) rfl) (by decide) (by decide) (by decide) (by decide) K_23 (g := (mkF m 493 #[sI_ qa, sI_ qb, sI_ qc, sI_ qk, sI_ n, sI_ c5, sI_ c6, sI_ c7, sR_ hx_, sR_ r, sR_ er] [(.int (23 : Int32)), (.ref er), (.int n), (.ref r)])) rfl (by rw [hml]; rfl) (argsL := [(.ref r), (.int n), (.ref er), (.int (23 : Int32))]) (rest := []) (lenOf pd_35 rfl) rfl rfl (Nat.le_refl _) (hb hby at_493)
  obtain ⟨rfl, n_24, K_24⟩ := q_24
  have N_24 := Fr.app N_23 n_24
  refine GoesW.go (U' := (T_24.setTop (mkF m 496 #[sI_ qa, sI_ qb, sI_ qc, sI_ qk, sI_ n, sI_ c5, sI_ c6, sI_ c7, sR_ hx_, sR_ r, sR_ er] [(.int (1 : Int32))]))) st_24 ?_
  refine GoesW.go (U' := (T_24.setTop (mkF m 504 #[sI_ qa, sI_ qb, sI_ qc, sI_ qk, sI_ n, sI_ c5, sI_ c6, sI_ c7, sR_ hx_, sR_ r, sR_ er] [(.int (1 : Int32))]))) (fun t kt => ?_) ?_
  · skip
    refine XS.ifNo X_24.here hx rfl (hb hby at_496) rfl (XT.i0_eq_f (by decide)) ?_
    refine XS.iconst X_24.here hx rfl (hb hby at_499) ?_
    refine XS.goto X_24.here hx rfl (pc0 := 500) (pc' := 504) rfl (hb hby at_500) (by decide) (by decide) ?_
    exact kt
  refine GoesW.retB X_24 hx hS (by rw [K_24]; exact hk) hlk hret (hb hby at_504) (by decide) (by decide) ?_
  intro V vh vv
  try rw [vv]
  try rw [vh]
  try rw [K_24]
  exact ⟨rfl, N_24⟩
set_option maxHeartbeats 4000000 in
theorem ef_rm_law (m : MethodId) (x0 : Int32) (x1 : Int32) (x2 : Int32) (x3 : Int32)  : entryFrame m #[(.int x0), (.int x1), (.int x2), (.int x3)] maxLocals = mkF m 0 #[.val (.int x0), .val (.int x1), .val (.int x2), .val (.int x3), .unset, .unset, .unset, .unset, .unset, .unset, .unset] [] := by first | (simp [entryFrame, mkF, argsToLocals, catR, catN, catI, catJ, maxLocals]; done) | rfl
set_option maxRecDepth 65536 in
set_option maxHeartbeats 40000000 in
theorem rm_law (l : Launch) (Z : State) (a0 : Array Value) (hw : ∀ d ∈ tables_1, d.before a0 Z = true) (ws : List Jvm.Cond) (qa qb qc qk : Int32) (kc : Int32) (sx : Value) (h0 : Heap) (n0 : Nat) (Z0 : n0 ≤ h0.size) (G : Stt Z kc sx) (O : Old Z n0 h0) :
    PaysW l Z x code maxLocals ret ws room_1 #[(.int qa), (.int qb), (.int qc), (.int qk)] h0 (LIv Z) (fun v V L => v = some (.int 1) ∧ Fr n0 L) := by
  refine PaysW.of (plainFor_of_name (by first | (simp [plainName, overriddenIn]; done) | decide +kernel)) ?_
  intro p e s m below meth c s₁ hx hby hml hown hnm hret hlk hZ e0 hsh hLI hS X0
  have hk0 : 0 ≤ h0.size := Nat.zero_le _
  replace hLI : LIv Z s.vm h0 := hLI
  have N0 := Fr.nil n0
  have K0 : Keep h0 h0 [] := Keep.refl _ _
  refine GoesW.go (U' := (s₁.setTop (mkF m 0 #[sI_ qa, sI_ qb, sI_ qc, sI_ qk, sU_, sU_, sU_, sU_, sU_, sU_, sU_] []))) (fun t kt => castTop (ef_rm_law m qa qb qc qk) kt) ?_
  have Hc0 : CHv Z EL1 s.vm Z.heap := hLI
  refine GoesW.go (U' := (s₁.setTop (mkF m 5 #[sI_ qa, sI_ qb, sI_ qc, sI_ qk, sI_ (qk &&& (3 : Int32)), sU_, sU_, sU_, sU_, sU_, sU_] []))) (fun t kt => ?_) ?_
  · skip
    refine XS.iloadN X0.here hx rfl (hb hby at_0) rfl ?_
    refine XS.iconst X0.here hx rfl (hb hby at_1) ?_
    refine XS.iand X0.here hx rfl (hb hby at_2) rfl ?_
    refine XS.istore X0.here hx rfl (hb hby at_3) rfl (l' := #[sI_ qa, sI_ qb, sI_ qc, sI_ qk, sI_ (qk &&& (3 : Int32)), sU_, sU_, sU_, sU_, sU_, sU_]) rfl ?_
    exact kt
  rcases own_and3 qk with q3 | q3 | q3 | q3
  · -- 0
    rw [show (qk &&& (3 : Int32)) = (0 : Int32) from q3]
    refine GoesW.go (U' := (s₁.setTop (mkF m 26 #[sI_ qa, sI_ qb, sI_ qc, sI_ qk, sI_ (0 : Int32), sI_ (qa.toUInt32.toUInt16.toUInt32.toInt32), sI_ (qb.toUInt32.toUInt16.toUInt32.toInt32), sI_ (qc.toUInt32.toUInt16.toUInt32.toInt32), sU_, sU_, sU_] []))) (fun t kt => ?_) ?_
    · skip
      refine XS.iload X0.here hx rfl (hb hby at_5) rfl ?_
      refine XS.iconst X0.here hx rfl (hb hby at_7) ?_
      refine XS.icmpYes X0.here hx rfl (pc0 := 8) (pc' := 14) rfl (hb hby at_8) rfl (XT.ii_le_t (by decide)) (by decide) (by decide) ?_
      refine XS.iloadN X0.here hx rfl (hb hby at_14) rfl ?_
      refine XS.i2c X0.here hx rfl (hb hby at_15) rfl ?_
      refine XS.istore X0.here hx rfl (hb hby at_16) rfl (l' := #[sI_ qa, sI_ qb, sI_ qc, sI_ qk, sI_ (0 : Int32), sI_ (qa.toUInt32.toUInt16.toUInt32.toInt32), sU_, sU_, sU_, sU_, sU_]) rfl ?_
      refine XS.iloadN X0.here hx rfl (hb hby at_18) rfl ?_
      refine XS.i2c X0.here hx rfl (hb hby at_19) rfl ?_
      show Steps p.tables e below (s₁.setTop (mkF m 20 #[sI_ qa, sI_ qb, sI_ qc, sI_ qk, sI_ (0 : Int32), sI_ (qa.toUInt32.toUInt16.toUInt32.toInt32), sU_, sU_, sU_, sU_, sU_] [(.int (qb.toUInt32.toUInt16.toUInt32.toInt32))])) t
      refine XS.istore X0.here hx rfl (hb hby at_20) rfl (l' := #[sI_ qa, sI_ qb, sI_ qc, sI_ qk, sI_ (0 : Int32), sI_ (qa.toUInt32.toUInt16.toUInt32.toInt32), sI_ (qb.toUInt32.toUInt16.toUInt32.toInt32), sU_, sU_, sU_, sU_]) rfl ?_
      refine XS.iloadN X0.here hx rfl (hb hby at_22) rfl ?_
      refine XS.i2c X0.here hx rfl (hb hby at_23) rfl ?_
      refine XS.istore X0.here hx rfl (hb hby at_24) rfl (l' := #[sI_ qa, sI_ qb, sI_ qc, sI_ qk, sI_ (0 : Int32), sI_ (qa.toUInt32.toUInt16.toUInt32.toInt32), sI_ (qb.toUInt32.toUInt16.toUInt32.toInt32), sI_ (qc.toUInt32.toUInt16.toUInt32.toInt32), sU_, sU_, sU_]) rfl ?_
      exact kt
    obtain ⟨T_1, h_1, X_1, e_1, E_1, A_1, D_1, -, st_1⟩ := newO X0 hx hZ hown (wdOf hw 0 rfl) (wdOf hw 1 rfl) (wdOf hw 2 rfl) e0 (g := (mkF m 26 #[sI_ qa, sI_ qb, sI_ qc, sI_ qk, sI_ (0 : Int32), sI_ (qa.toUInt32.toUInt16.toUInt32.toInt32), sI_ (qb.toUInt32.toUInt16.toUInt32.toInt32), sI_ (qc.toUInt32.toUInt16.toUInt32.toInt32), sU_, sU_, sU_] [])) rfl (hb hby at_26) (by decide) (by decide)
    obtain ⟨b_1, g_1⟩ : ∃ z, z = h0.size := ⟨_, rfl⟩
    rw [← g_1] at A_1 D_1 st_1
    have o_1 : n0 ≤ b_1 := Nat.le_trans Z0 (Nat.le_of_eq g_1.symm)
    have f_2 : Old Z n0 h_1 := O.ext E_1
    have f_3 : Fld Z h_1 b_1 "com/example/dead_letter_replay/deadletterreplay/page/Html" "html" "Ljava/lang/StringBuilder;" .null := D_1 (Or.inr (wdOf hw 30 rfl)) (ty := (.object "java/lang/StringBuilder")) (by decide)
    have y_4 : n0 ≤ h_1.size := Nat.le_trans (Nat.le_of_eq f_2.1.symm) f_2.2.1
    have hk_4 := Nat.le_trans hk0 E_1.1
    refine GoesW.go (U' := (T_1.setTop (mkF m 29 #[sI_ qa, sI_ qb, sI_ qc, sI_ qk, sI_ (0 : Int32), sI_ (qa.toUInt32.toUInt16.toUInt32.toInt32), sI_ (qb.toUInt32.toUInt16.toUInt32.toInt32), sI_ (qc.toUInt32.toUInt16.toUInt32.toInt32), sU_, sU_, sU_] [(.ref b_1)]))) st_1 ?_
    refine GoesW.go (U' := (T_1.setTop (mkF m 30 #[sI_ qa, sI_ qb, sI_ qc, sI_ qk, sI_ (0 : Int32), sI_ (qa.toUInt32.toUInt16.toUInt32.toInt32), sI_ (qb.toUInt32.toUInt16.toUInt32.toInt32), sI_ (qc.toUInt32.toUInt16.toUInt32.toInt32), sU_, sU_, sU_] [(.ref b_1), (.ref b_1)]))) (fun t kt => ?_) ?_
    · skip
      refine XS.dup X_1.here hx rfl (hb hby at_29) rfl rfl ?_
      exact kt
    obtain ⟨v_5, T_5, L_5, X_5, q_5, st_5⟩ := callInit X_1 hx hZ (y := (⟨"com/example/dead_letter_replay/deadletterreplay/page/Html", "<init>", "()V"⟩ : MethodName)) (W := 1) rfl hown (wdOf hw 3 rfl) (wdOf hw 4 rfl) (wdOf hw 2 rfl) (wdOf hw 5 rfl) (by decide) (rm_hi l Z a0 hw [] kc sx b_1 h_1 n0 y_4 G f_2 A_1 f_3 o_1) (by decide) (by decide) (by decide) (by decide) e_1 (b := b_1) (g := (mkF m 30 #[sI_ qa, sI_ qb, sI_ qc, sI_ qk, sI_ (0 : Int32), sI_ (qa.toUInt32.toUInt16.toUInt32.toInt32), sI_ (qb.toUInt32.toUInt16.toUInt32.toInt32), sI_ (qc.toUInt32.toUInt16.toUInt32.toInt32), sU_, sU_, sU_] [(.ref b_1), (.ref b_1)])) rfl (by rw [hml]; rfl) (argsL := []) (rest := [(.ref b_1)]) (lenOf pd_20 rfl) rfl rfl (Nat.le_refl _) (hb hby at_30)
    obtain ⟨ax_5, ba_5, rfl, n_5, K_5, oa_5, ob_5, Hb_5⟩ := q_5
    have N_5 := Fr.app N0 n_5
    have f_6 : Old Z n0 T_5.heap := f_2.keep K_5 (allS o_1 all0)
    have f_7 : Exa Z T_5.heap b_1 "com/example/dead_letter_replay/deadletterreplay/page/Html" := A_1.keep K_5
    have y_8 : n0 ≤ T_5.heap.size := Nat.le_trans (Nat.le_of_eq f_6.1.symm) f_6.2.1
    have hk_8 := Nat.le_trans hk_4 K_5.1
    refine GoesW.go (U' := (T_5.setTop (mkF m 33 #[sI_ qa, sI_ qb, sI_ qc, sI_ qk, sI_ (0 : Int32), sI_ (qa.toUInt32.toUInt16.toUInt32.toInt32), sI_ (qb.toUInt32.toUInt16.toUInt32.toInt32), sI_ (qc.toUInt32.toUInt16.toUInt32.toInt32), sU_, sU_, sU_] [(.ref b_1)]))) st_5 ?_
    refine GoesW.go (U' := (T_5.setTop (mkF m 88 #[sI_ qa, sI_ qb, sI_ qc, sI_ qk, sI_ (0 : Int32), sI_ (qa.toUInt32.toUInt16.toUInt32.toInt32), sI_ (qb.toUInt32.toUInt16.toUInt32.toInt32), sI_ (qc.toUInt32.toUInt16.toUInt32.toInt32), sR_ b_1, sU_, sU_] [(.ref b_1)]))) (fun t kt => ?_) ?_
    · skip
      refine XS.astore X_5.here hx rfl (hb hby at_33) rfl rfl (l' := #[sI_ qa, sI_ qb, sI_ qc, sI_ qk, sI_ (0 : Int32), sI_ (qa.toUInt32.toUInt16.toUInt32.toInt32), sI_ (qb.toUInt32.toUInt16.toUInt32.toInt32), sI_ (qc.toUInt32.toUInt16.toUInt32.toInt32), sR_ b_1, sU_, sU_]) rfl ?_
      refine XS.iload X_5.here hx rfl (hb hby at_35) rfl ?_
      refine XS.iconst X_5.here hx rfl (hb hby at_37) ?_
      refine XS.icmpYes X_5.here hx rfl (pc0 := 38) (pc' := 52) rfl (hb hby at_38) rfl (XT.ii_lt_t (by decide)) (by decide) (by decide) ?_
      refine XS.iload X_5.here hx rfl (hb hby at_52) rfl ?_
      refine XS.iconst X_5.here hx rfl (hb hby at_54) ?_
      refine XS.icmpYes X_5.here hx rfl (pc0 := 55) (pc' := 69) rfl (hb hby at_55) rfl (XT.ii_lt_t (by decide)) (by decide) (by decide) ?_
      refine XS.iload X_5.here hx rfl (hb hby at_69) rfl ?_
      show Steps p.tables e below (T_5.setTop (mkF m 71 #[sI_ qa, sI_ qb, sI_ qc, sI_ qk, sI_ (0 : Int32), sI_ (qa.toUInt32.toUInt16.toUInt32.toInt32), sI_ (qb.toUInt32.toUInt16.toUInt32.toInt32), sI_ (qc.toUInt32.toUInt16.toUInt32.toInt32), sR_ b_1, sU_, sU_] [(.int (0 : Int32))])) t
      refine XS.iconst X_5.here hx rfl (hb hby at_71) ?_
      refine XS.icmpYes X_5.here hx rfl (pc0 := 72) (pc' := 86) rfl (hb hby at_72) rfl (XT.ii_lt_t (by decide)) (by decide) (by decide) ?_
      refine XS.aload X_5.here hx rfl (hb hby at_86) rfl rfl ?_
      exact kt
    obtain ⟨v_9, T_9, V_9, L_9, X_9, ve_9, vv_9, q_9, hS_9, hZ, hown, st_9⟩ := callVirtualW X_5 hx hZ (y := (⟨"com/example/dead_letter_replay/deadletterreplay/page/Html", "end", "()Ljava/lang/String;"⟩ : MethodName)) (z := (⟨"com/example/dead_letter_replay/deadletterreplay/page/Html", "end", "()Ljava/lang/String;"⟩ : MethodName)) (W := 0) hown (wdOf hw 105 rfl) (wdOf hw 106 rfl) (notFace_of_selects (args := #[]) (mvT hZ (wdOf hw 108 rfl))) (wdOf hw 108 rfl) (wdOf hw 107 rfl) (wdOf hw 2 rfl) (wdOf hw 109 rfl) (by decide) (rm_end l Z a0 hw [] kc sx b_1 ax_5 ba_5 (0 : Int32) [] T_5.heap n0 y_8 G f_6 Hb_5 oa_5 ob_5 (by simp)) (by decide) (by decide) (by decide) (by decide) (rfl : T_5.heap = T_5.heap) (fun _ y => LIv.warm hZ (own_ew hw) Hc0 y) hS hk_8 f_7 (g := (mkF m 88 #[sI_ qa, sI_ qb, sI_ qc, sI_ qk, sI_ (0 : Int32), sI_ (qa.toUInt32.toUInt16.toUInt32.toInt32), sI_ (qb.toUInt32.toUInt16.toUInt32.toInt32), sI_ (qc.toUInt32.toUInt16.toUInt32.toInt32), sR_ b_1, sU_, sU_] [(.ref b_1)])) rfl (by rw [hml]; rfl) (argsL := []) (rest := []) (lenOf pd_32 rfl) rfl rfl (Nat.le_refl _) (hb hby at_88)
    rw [ve_9, vv_9] at q_9
    obtain ⟨r_9, rb_9, rfl, n_9, K_9, LI_9, S_9⟩ := q_9
    have N_9 := Fr.app N_5 n_9
    have f_10 : Old Z n0 T_9.heap := f_6.keep K_9 (allS oa_5 all0)
    have y_11 : n0 ≤ T_9.heap.size := Nat.le_trans (Nat.le_of_eq f_10.1.symm) f_10.2.1
    have hk_11 := Nat.le_trans hk_8 K_9.1
    refine GoesW.go (U' := (T_9.setTop (mkF m 91 #[sI_ qa, sI_ qb, sI_ qc, sI_ qk, sI_ (0 : Int32), sI_ (qa.toUInt32.toUInt16.toUInt32.toInt32), sI_ (qb.toUInt32.toUInt16.toUInt32.toInt32), sI_ (qc.toUInt32.toUInt16.toUInt32.toInt32), sR_ b_1, sU_, sU_] [(.ref r_9)]))) st_9 ?_
    refine GoesW.go (U' := (T_9.setTop (mkF m 93 #[sI_ qa, sI_ qb, sI_ qc, sI_ qk, sI_ (0 : Int32), sI_ (qa.toUInt32.toUInt16.toUInt32.toInt32), sI_ (qb.toUInt32.toUInt16.toUInt32.toInt32), sI_ (qc.toUInt32.toUInt16.toUInt32.toInt32), sR_ b_1, sR_ r_9, sU_] []))) (fun t kt => ?_) ?_
    · skip
      refine XS.astore X_9.here hx rfl (hb hby at_91) rfl rfl (l' := #[sI_ qa, sI_ qb, sI_ qc, sI_ qk, sI_ (0 : Int32), sI_ (qa.toUInt32.toUInt16.toUInt32.toInt32), sI_ (qb.toUInt32.toUInt16.toUInt32.toInt32), sI_ (qc.toUInt32.toUInt16.toUInt32.toInt32), sR_ b_1, sR_ r_9, sU_]) rfl ?_
      exact kt
    obtain ⟨lau, T_12, h_12, k_12, lbu, klu, X_12, e_12, E_12, hS_12, hk_12, hZ, hown, Elu, Glu, Flu, Vlu, -, -, CRu, -, NNu, st_12⟩ := ldcCH X_9 hx hZ hown (wdOf hw 175 rfl) (own_sa hw) (rfl : T_9.heap = T_9.heap) hS_9 (Nat.le_refl _) (own_ew hw) (List.mem_of_getElem? (i := 1) rfl) LI_9 (vs := L1 TXT) (z := (24 : Int32)) own_txt (by decide) (by decide) (g := (mkF m 93 #[sI_ qa, sI_ qb, sI_ qc, sI_ qk, sI_ (0 : Int32), sI_ (qa.toUInt32.toUInt16.toUInt32.toInt32), sI_ (qb.toUInt32.toUInt16.toUInt32.toInt32), sI_ (qc.toUInt32.toUInt16.toUInt32.toInt32), sR_ b_1, sR_ r_9, sU_] [])) rfl (hb hby at_93) (n := 96) (by decide) (by decide) (by decide) (by decide)
    have f_13 : Old Z n0 h_12 := f_10.ext E_12
    have f_14 : Str Z h_12 r_9 rb_9 ((0 : Int32) + (24 : Int32)) ([] ++ TXT) := S_9.ext E_12
    have y_15 : n0 ≤ h_12.size := Nat.le_trans (Nat.le_of_eq f_13.1.symm) f_13.2.1
    have hk_15 := Nat.le_trans (Nat.le_refl _) E_12.1
    refine GoesW.go (U' := (T_12.setTop (mkF m 95 #[sI_ qa, sI_ qb, sI_ qc, sI_ qk, sI_ (0 : Int32), sI_ (qa.toUInt32.toUInt16.toUInt32.toInt32), sI_ (qb.toUInt32.toUInt16.toUInt32.toInt32), sI_ (qc.toUInt32.toUInt16.toUInt32.toInt32), sR_ b_1, sR_ r_9, sU_] [(.ref lau)]))) st_12 ?_
    have S2 : Str Z h_12 lau lbu (24 : Int32) TXT := ⟨⟨rfl, by first | decide | simp⟩, Or.inl ⟨⟨_, Elu, Flu, Glu, Vlu⟩, own_lc⟩⟩
    refine GoesW.go (U' := (T_12.setTop (mkF m 99 #[sI_ qa, sI_ qb, sI_ qc, sI_ qk, sI_ (0 : Int32), sI_ (qa.toUInt32.toUInt16.toUInt32.toInt32), sI_ (qb.toUInt32.toUInt16.toUInt32.toInt32), sI_ (qc.toUInt32.toUInt16.toUInt32.toInt32), sR_ b_1, sR_ r_9, sR_ lau] [(.ref r_9)]))) (fun t kt => ?_) ?_
    · skip
      refine XS.astore X_12.here hx rfl (hb hby at_95) rfl rfl (l' := #[sI_ qa, sI_ qb, sI_ qc, sI_ qk, sI_ (0 : Int32), sI_ (qa.toUInt32.toUInt16.toUInt32.toInt32), sI_ (qb.toUInt32.toUInt16.toUInt32.toInt32), sI_ (qc.toUInt32.toUInt16.toUInt32.toInt32), sR_ b_1, sR_ r_9, sR_ lau]) rfl ?_
      refine XS.aload X_12.here hx rfl (hb hby at_97) rfl rfl ?_
      exact kt
    obtain ⟨v_16, T_16, L_16, X_16, q_16, st_16⟩ := callVirtual X_12 hx hZ (y := (⟨"java/lang/String", "length", "()I"⟩ : MethodName)) (z := (⟨"java/lang/String", "length", "()I"⟩ : MethodName)) (W := 0) hown (wdOf hw 176 rfl) (wdOf hw 69 rfl) (notFace_of_selects (args := #[]) (mvT hZ (wdOf hw 71 rfl))) (wdOf hw 71 rfl) (wdOf hw 70 rfl) (wdOf hw 23 rfl) (wdOf hw 72 rfl) (by decide) (rm_ln l Z a0 hw [] kc sx r_9 rb_9 ((0 : Int32) + (24 : Int32)) ([] ++ TXT) h_12 n0 y_15 G f_13 f_14) (by decide) (by decide) (by decide) (by decide) e_12 f_14.exa (g := (mkF m 99 #[sI_ qa, sI_ qb, sI_ qc, sI_ qk, sI_ (0 : Int32), sI_ (qa.toUInt32.toUInt16.toUInt32.toInt32), sI_ (qb.toUInt32.toUInt16.toUInt32.toInt32), sI_ (qc.toUInt32.toUInt16.toUInt32.toInt32), sR_ b_1, sR_ r_9, sR_ lau] [(.ref r_9)])) rfl (by rw [hml]; rfl) (argsL := []) (rest := []) (lenOf pd_24 rfl) rfl rfl (Nat.le_refl _) (hb hby at_99)
    obtain ⟨rfl, n_16, K_16⟩ := q_16
    have N_16 := Fr.app N_9 n_16
    refine GoesW.go (U' := (T_16.setTop (mkF m 102 #[sI_ qa, sI_ qb, sI_ qc, sI_ qk, sI_ (0 : Int32), sI_ (qa.toUInt32.toUInt16.toUInt32.toInt32), sI_ (qb.toUInt32.toUInt16.toUInt32.toInt32), sI_ (qc.toUInt32.toUInt16.toUInt32.toInt32), sR_ b_1, sR_ r_9, sR_ lau] [(.int ((0 : Int32) + (24 : Int32)))]))) st_16 ?_
    refine GoesW.go (U' := (T_16.setTop (mkF m 169 #[sI_ qa, sI_ qb, sI_ qc, sI_ qk, sI_ (0 : Int32), sI_ (qa.toUInt32.toUInt16.toUInt32.toInt32), sI_ (qb.toUInt32.toUInt16.toUInt32.toInt32), sI_ (qc.toUInt32.toUInt16.toUInt32.toInt32), sR_ b_1, sR_ r_9, sR_ lau] []))) (fun t kt => ?_) ?_
    · skip
      refine XS.iload X_16.here hx rfl (hb hby at_102) rfl ?_
      refine XS.bipush X_16.here hx rfl (hb hby at_104) ?_
      refine XS.iadd X_16.here hx rfl (hb hby at_106) rfl ?_
      refine XS.icmpYes X_16.here hx rfl (pc0 := 107) (pc' := 112) rfl (hb hby at_107) rfl (XT.ii_eq_t (by decide)) (by decide) (by decide) ?_
      refine XS.iload X_16.here hx rfl (hb hby at_112) rfl ?_
      refine XS.iconst X_16.here hx rfl (hb hby at_114) ?_
      refine XS.icmpYes X_16.here hx rfl (pc0 := 115) (pc' := 131) rfl (hb hby at_115) rfl (XT.ii_lt_t (by decide)) (by decide) (by decide) ?_
      refine XS.iload X_16.here hx rfl (hb hby at_131) rfl ?_
      show Steps p.tables e below (T_16.setTop (mkF m 133 #[sI_ qa, sI_ qb, sI_ qc, sI_ qk, sI_ (0 : Int32), sI_ (qa.toUInt32.toUInt16.toUInt32.toInt32), sI_ (qb.toUInt32.toUInt16.toUInt32.toInt32), sI_ (qc.toUInt32.toUInt16.toUInt32.toInt32), sR_ b_1, sR_ r_9, sR_ lau] [(.int (0 : Int32))])) t
      refine XS.iconst X_16.here hx rfl (hb hby at_133) ?_
      refine XS.icmpYes X_16.here hx rfl (pc0 := 134) (pc' := 150) rfl (hb hby at_134) rfl (XT.ii_lt_t (by decide)) (by decide) (by decide) ?_
      refine XS.iload X_16.here hx rfl (hb hby at_150) rfl ?_
      refine XS.iconst X_16.here hx rfl (hb hby at_152) ?_
      refine XS.icmpYes X_16.here hx rfl (pc0 := 153) (pc' := 169) rfl (hb hby at_153) rfl (XT.ii_lt_t (by decide)) (by decide) (by decide) ?_
      exact kt
    exact law_169 l Z a0 hw kc sx qa qb qc qk (0 : Int32) (qa.toUInt32.toUInt16.toUInt32.toInt32) (qb.toUInt32.toUInt16.toUInt32.toInt32) (qc.toUInt32.toUInt16.toUInt32.toInt32) ((0 : Int32) + (24 : Int32)) b_1 r_9 rb_9 lau lbu [] h0 n0 Z0 p e s m below meth c _ _ hx hby hml hown hnm hret hlk hZ _ _ _ (moreRoom (cells' := 19) (slots' := 461) X_16 (by decide) (by decide)) K_16 N_16  G f_13 f_14 S2 ⟨rfl, by simp⟩ (by simp) hS_12 hk_12 
  · -- 1
    rw [show (qk &&& (3 : Int32)) = (1 : Int32) from q3]
    refine GoesW.go (U' := (s₁.setTop (mkF m 26 #[sI_ qa, sI_ qb, sI_ qc, sI_ qk, sI_ (1 : Int32), sI_ (qa.toUInt32.toUInt16.toUInt32.toInt32), sI_ (qb.toUInt32.toUInt16.toUInt32.toInt32), sI_ (qc.toUInt32.toUInt16.toUInt32.toInt32), sU_, sU_, sU_] []))) (fun t kt => ?_) ?_
    · skip
      refine XS.iload X0.here hx rfl (hb hby at_5) rfl ?_
      refine XS.iconst X0.here hx rfl (hb hby at_7) ?_
      refine XS.icmpYes X0.here hx rfl (pc0 := 8) (pc' := 14) rfl (hb hby at_8) rfl (XT.ii_le_t (by decide)) (by decide) (by decide) ?_
      refine XS.iloadN X0.here hx rfl (hb hby at_14) rfl ?_
      refine XS.i2c X0.here hx rfl (hb hby at_15) rfl ?_
      refine XS.istore X0.here hx rfl (hb hby at_16) rfl (l' := #[sI_ qa, sI_ qb, sI_ qc, sI_ qk, sI_ (1 : Int32), sI_ (qa.toUInt32.toUInt16.toUInt32.toInt32), sU_, sU_, sU_, sU_, sU_]) rfl ?_
      refine XS.iloadN X0.here hx rfl (hb hby at_18) rfl ?_
      refine XS.i2c X0.here hx rfl (hb hby at_19) rfl ?_
      show Steps p.tables e below (s₁.setTop (mkF m 20 #[sI_ qa, sI_ qb, sI_ qc, sI_ qk, sI_ (1 : Int32), sI_ (qa.toUInt32.toUInt16.toUInt32.toInt32), sU_, sU_, sU_, sU_, sU_] [(.int (qb.toUInt32.toUInt16.toUInt32.toInt32))])) t
      refine XS.istore X0.here hx rfl (hb hby at_20) rfl (l' := #[sI_ qa, sI_ qb, sI_ qc, sI_ qk, sI_ (1 : Int32), sI_ (qa.toUInt32.toUInt16.toUInt32.toInt32), sI_ (qb.toUInt32.toUInt16.toUInt32.toInt32), sU_, sU_, sU_, sU_]) rfl ?_
      refine XS.iloadN X0.here hx rfl (hb hby at_22) rfl ?_
      refine XS.i2c X0.here hx rfl (hb hby at_23) rfl ?_
      refine XS.istore X0.here hx rfl (hb hby at_24) rfl (l' := #[sI_ qa, sI_ qb, sI_ qc, sI_ qk, sI_ (1 : Int32), sI_ (qa.toUInt32.toUInt16.toUInt32.toInt32), sI_ (qb.toUInt32.toUInt16.toUInt32.toInt32), sI_ (qc.toUInt32.toUInt16.toUInt32.toInt32), sU_, sU_, sU_]) rfl ?_
      exact kt
    obtain ⟨T_17, h_17, X_17, e_17, E_17, A_17, D_17, -, st_17⟩ := newO X0 hx hZ hown (wdOf hw 0 rfl) (wdOf hw 1 rfl) (wdOf hw 2 rfl) e0 (g := (mkF m 26 #[sI_ qa, sI_ qb, sI_ qc, sI_ qk, sI_ (1 : Int32), sI_ (qa.toUInt32.toUInt16.toUInt32.toInt32), sI_ (qb.toUInt32.toUInt16.toUInt32.toInt32), sI_ (qc.toUInt32.toUInt16.toUInt32.toInt32), sU_, sU_, sU_] [])) rfl (hb hby at_26) (by decide) (by decide)
    obtain ⟨b_17, g_17⟩ : ∃ z, z = h0.size := ⟨_, rfl⟩
    rw [← g_17] at A_17 D_17 st_17
    have o_17 : n0 ≤ b_17 := Nat.le_trans Z0 (Nat.le_of_eq g_17.symm)
    have f_18 : Old Z n0 h_17 := O.ext E_17
    have f_19 : Fld Z h_17 b_17 "com/example/dead_letter_replay/deadletterreplay/page/Html" "html" "Ljava/lang/StringBuilder;" .null := D_17 (Or.inr (wdOf hw 30 rfl)) (ty := (.object "java/lang/StringBuilder")) (by decide)
    have y_20 : n0 ≤ h_17.size := Nat.le_trans (Nat.le_of_eq f_18.1.symm) f_18.2.1
    have hk_20 := Nat.le_trans hk0 E_17.1
    refine GoesW.go (U' := (T_17.setTop (mkF m 29 #[sI_ qa, sI_ qb, sI_ qc, sI_ qk, sI_ (1 : Int32), sI_ (qa.toUInt32.toUInt16.toUInt32.toInt32), sI_ (qb.toUInt32.toUInt16.toUInt32.toInt32), sI_ (qc.toUInt32.toUInt16.toUInt32.toInt32), sU_, sU_, sU_] [(.ref b_17)]))) st_17 ?_
    refine GoesW.go (U' := (T_17.setTop (mkF m 30 #[sI_ qa, sI_ qb, sI_ qc, sI_ qk, sI_ (1 : Int32), sI_ (qa.toUInt32.toUInt16.toUInt32.toInt32), sI_ (qb.toUInt32.toUInt16.toUInt32.toInt32), sI_ (qc.toUInt32.toUInt16.toUInt32.toInt32), sU_, sU_, sU_] [(.ref b_17), (.ref b_17)]))) (fun t kt => ?_) ?_
    · skip
      refine XS.dup X_17.here hx rfl (hb hby at_29) rfl rfl ?_
      exact kt
    obtain ⟨v_21, T_21, L_21, X_21, q_21, st_21⟩ := callInit X_17 hx hZ (y := (⟨"com/example/dead_letter_replay/deadletterreplay/page/Html", "<init>", "()V"⟩ : MethodName)) (W := 1) rfl hown (wdOf hw 3 rfl) (wdOf hw 4 rfl) (wdOf hw 2 rfl) (wdOf hw 5 rfl) (by decide) (rm_hi l Z a0 hw [] kc sx b_17 h_17 n0 y_20 G f_18 A_17 f_19 o_17) (by decide) (by decide) (by decide) (by decide) e_17 (b := b_17) (g := (mkF m 30 #[sI_ qa, sI_ qb, sI_ qc, sI_ qk, sI_ (1 : Int32), sI_ (qa.toUInt32.toUInt16.toUInt32.toInt32), sI_ (qb.toUInt32.toUInt16.toUInt32.toInt32), sI_ (qc.toUInt32.toUInt16.toUInt32.toInt32), sU_, sU_, sU_] [(.ref b_17), (.ref b_17)])) rfl (by rw [hml]; rfl) (argsL := []) (rest := [(.ref b_17)]) (lenOf pd_20 rfl) rfl rfl (Nat.le_refl _) (hb hby at_30)
    obtain ⟨ax_21, ba_21, rfl, n_21, K_21, oa_21, ob_21, Hb_21⟩ := q_21
    have N_21 := Fr.app N0 n_21
    have f_22 : Old Z n0 T_21.heap := f_18.keep K_21 (allS o_17 all0)
    have f_23 : Exa Z T_21.heap b_17 "com/example/dead_letter_replay/deadletterreplay/page/Html" := A_17.keep K_21
    have y_24 : n0 ≤ T_21.heap.size := Nat.le_trans (Nat.le_of_eq f_22.1.symm) f_22.2.1
    have hk_24 := Nat.le_trans hk_20 K_21.1
    refine GoesW.go (U' := (T_21.setTop (mkF m 33 #[sI_ qa, sI_ qb, sI_ qc, sI_ qk, sI_ (1 : Int32), sI_ (qa.toUInt32.toUInt16.toUInt32.toInt32), sI_ (qb.toUInt32.toUInt16.toUInt32.toInt32), sI_ (qc.toUInt32.toUInt16.toUInt32.toInt32), sU_, sU_, sU_] [(.ref b_17)]))) st_21 ?_
    refine GoesW.go (U' := (T_21.setTop (mkF m 45 #[sI_ qa, sI_ qb, sI_ qc, sI_ qk, sI_ (1 : Int32), sI_ (qa.toUInt32.toUInt16.toUInt32.toInt32), sI_ (qb.toUInt32.toUInt16.toUInt32.toInt32), sI_ (qc.toUInt32.toUInt16.toUInt32.toInt32), sR_ b_17, sU_, sU_] [(.int (qa.toUInt32.toUInt16.toUInt32.toInt32)), (.ref b_17)]))) (fun t kt => ?_) ?_
    · skip
      refine XS.astore X_21.here hx rfl (hb hby at_33) rfl rfl (l' := #[sI_ qa, sI_ qb, sI_ qc, sI_ qk, sI_ (1 : Int32), sI_ (qa.toUInt32.toUInt16.toUInt32.toInt32), sI_ (qb.toUInt32.toUInt16.toUInt32.toInt32), sI_ (qc.toUInt32.toUInt16.toUInt32.toInt32), sR_ b_17, sU_, sU_]) rfl ?_
      refine XS.iload X_21.here hx rfl (hb hby at_35) rfl ?_
      refine XS.iconst X_21.here hx rfl (hb hby at_37) ?_
      refine XS.icmpNo X_21.here hx rfl (hb hby at_38) rfl (XT.ii_lt_f (by decide)) ?_
      refine XS.aload X_21.here hx rfl (hb hby at_41) rfl rfl ?_
      refine XS.iload X_21.here hx rfl (hb hby at_43) rfl ?_
      exact kt
    obtain ⟨v_25, T_25, L_25, X_25, q_25, st_25⟩ := callStatic X_21 hx hZ (y := (⟨"java/lang/String", "valueOf", "(C)Ljava/lang/String;"⟩ : MethodName)) (W := 1) hown (wdOf hw 31 rfl) (wdOf hw 32 rfl) (wdOf hw 23 rfl) (wdOf hw 33 rfl) (by decide) (rm_sv l Z a0 hw [] kc sx (qa.toUInt32.toUInt16.toUInt32.toInt32) T_21.heap n0 y_24 G f_22 (Ch.i2c _)) (by decide) (by decide) (by decide) (by decide) (rfl : T_21.heap = T_21.heap) (g := (mkF m 45 #[sI_ qa, sI_ qb, sI_ qc, sI_ qk, sI_ (1 : Int32), sI_ (qa.toUInt32.toUInt16.toUInt32.toInt32), sI_ (qb.toUInt32.toUInt16.toUInt32.toInt32), sI_ (qc.toUInt32.toUInt16.toUInt32.toInt32), sR_ b_17, sU_, sU_] [(.int (qa.toUInt32.toUInt16.toUInt32.toInt32)), (.ref b_17)])) rfl (by rw [hml]; rfl) (argsL := [(.int (qa.toUInt32.toUInt16.toUInt32.toInt32))]) (rest := [(.ref b_17)]) (lenOf pd_33 rfl) rfl rfl (Nat.le_refl _) (hb hby at_45)
    obtain ⟨r_25, rb_25, rfl, n_25, K_25, z_25, S_25⟩ := q_25
    have N_25 := Fr.app N_21 n_25
    have f_26 : Old Z n0 T_25.heap := f_22.ext K_25
    have f_27 : Exa Z T_25.heap b_17 "com/example/dead_letter_replay/deadletterreplay/page/Html" := f_23.ext K_25
    have f_28 : Hob Z T_25.heap b_17 ax_21 ba_21 (0 : Int32) [] := Hb_21.ext K_25
    have y_29 : n0 ≤ T_25.heap.size := Nat.le_trans (Nat.le_of_eq f_26.1.symm) f_26.2.1
    have hk_29 := Nat.le_trans hk_24 K_25.1
    refine GoesW.go (U' := (T_25.setTop (mkF m 48 #[sI_ qa, sI_ qb, sI_ qc, sI_ qk, sI_ (1 : Int32), sI_ (qa.toUInt32.toUInt16.toUInt32.toInt32), sI_ (qb.toUInt32.toUInt16.toUInt32.toInt32), sI_ (qc.toUInt32.toUInt16.toUInt32.toInt32), sR_ b_17, sU_, sU_] [(.ref r_25), (.ref b_17)]))) st_25 ?_
    have nb_25 : rb_25 ≠ ba_21 := Nat.ne_of_gt (Nat.lt_of_lt_of_le Hb_21.lt z_25)
    obtain ⟨v_30, T_30, L_30, X_30, q_30, st_30⟩ := callVirtual X_25 hx hZ (y := (⟨"com/example/dead_letter_replay/deadletterreplay/page/Html", "raw", "(Ljava/lang/String;)Lcom/example/dead_letter_replay/deadletterreplay/page/Html;"⟩ : MethodName)) (z := (⟨"com/example/dead_letter_replay/deadletterreplay/page/Html", "raw", "(Ljava/lang/String;)Lcom/example/dead_letter_replay/deadletterreplay/page/Html;"⟩ : MethodName)) (W := 0) hown (wdOf hw 53 rfl) (wdOf hw 54 rfl) (notFace_of_selects (args := #[]) (mvT hZ (wdOf hw 56 rfl))) (wdOf hw 56 rfl) (wdOf hw 55 rfl) (wdOf hw 2 rfl) (wdOf hw 57 rfl) (by decide) (rm_raw l Z a0 hw [] kc sx b_17 ax_21 ba_21 r_25 rb_25 (0 : Int32) (qa.toUInt32.toUInt16.toUInt32.toInt32) [] T_25.heap n0 y_29 G f_26 f_28 S_25 oa_21 ob_21 nb_25 (by simp)) (by decide) (by decide) (by decide) (by decide) (rfl : T_25.heap = T_25.heap) f_27 (g := (mkF m 48 #[sI_ qa, sI_ qb, sI_ qc, sI_ qk, sI_ (1 : Int32), sI_ (qa.toUInt32.toUInt16.toUInt32.toInt32), sI_ (qb.toUInt32.toUInt16.toUInt32.toInt32), sI_ (qc.toUInt32.toUInt16.toUInt32.toInt32), sR_ b_17, sU_, sU_] [(.ref r_25), (.ref b_17)])) rfl (by rw [hml]; rfl) (argsL := [(.ref r_25)]) (rest := []) (lenOf pd_34 rfl) rfl rfl (Nat.le_refl _) (hb hby at_48)
    obtain ⟨b_30, rfl, n_30, K_30, o_30, Hb_30⟩ := q_30
    have N_30 := Fr.app N_25 n_30
    have f_31 : Old Z n0 T_30.heap := f_26.keep K_30 (allS oa_21 (allS ob_21 all0))
    have f_32 : Exa Z T_30.heap b_17 "com/example/dead_letter_replay/deadletterreplay/page/Html" := f_27.keep K_30
    have y_33 : n0 ≤ T_30.heap.size := Nat.le_trans (Nat.le_of_eq f_31.1.symm) f_31.2.1
    have hk_33 := Nat.le_trans hk_29 K_30.1
    refine GoesW.go (U' := (T_30.setTop (mkF m 51 #[sI_ qa, sI_ qb, sI_ qc, sI_ qk, sI_ (1 : Int32), sI_ (qa.toUInt32.toUInt16.toUInt32.toInt32), sI_ (qb.toUInt32.toUInt16.toUInt32.toInt32), sI_ (qc.toUInt32.toUInt16.toUInt32.toInt32), sR_ b_17, sU_, sU_] [(.ref b_17)]))) st_30 ?_
    refine GoesW.go (U' := (T_30.setTop (mkF m 88 #[sI_ qa, sI_ qb, sI_ qc, sI_ qk, sI_ (1 : Int32), sI_ (qa.toUInt32.toUInt16.toUInt32.toInt32), sI_ (qb.toUInt32.toUInt16.toUInt32.toInt32), sI_ (qc.toUInt32.toUInt16.toUInt32.toInt32), sR_ b_17, sU_, sU_] [(.ref b_17)]))) (fun t kt => ?_) ?_
    · skip
      refine XS.pop X_30.here hx rfl (hb hby at_51) rfl rfl ?_
      refine XS.iload X_30.here hx rfl (hb hby at_52) rfl ?_
      refine XS.iconst X_30.here hx rfl (hb hby at_54) ?_
      refine XS.icmpYes X_30.here hx rfl (pc0 := 55) (pc' := 69) rfl (hb hby at_55) rfl (XT.ii_lt_t (by decide)) (by decide) (by decide) ?_
      refine XS.iload X_30.here hx rfl (hb hby at_69) rfl ?_
      refine XS.iconst X_30.here hx rfl (hb hby at_71) ?_
      refine XS.icmpYes X_30.here hx rfl (pc0 := 72) (pc' := 86) rfl (hb hby at_72) rfl (XT.ii_lt_t (by decide)) (by decide) (by decide) ?_
      refine XS.aload X_30.here hx rfl (hb hby at_86) rfl rfl ?_
      exact kt
    obtain ⟨v_34, T_34, V_34, L_34, X_34, ve_34, vv_34, q_34, hS_34, hZ, hown, st_34⟩ := callVirtualW X_30 hx hZ (y := (⟨"com/example/dead_letter_replay/deadletterreplay/page/Html", "end", "()Ljava/lang/String;"⟩ : MethodName)) (z := (⟨"com/example/dead_letter_replay/deadletterreplay/page/Html", "end", "()Ljava/lang/String;"⟩ : MethodName)) (W := 0) hown (wdOf hw 105 rfl) (wdOf hw 106 rfl) (notFace_of_selects (args := #[]) (mvT hZ (wdOf hw 108 rfl))) (wdOf hw 108 rfl) (wdOf hw 107 rfl) (wdOf hw 2 rfl) (wdOf hw 109 rfl) (by decide) (rm_end l Z a0 hw [] kc sx b_17 ax_21 b_30 ((0 : Int32) + (1 : Int32)) ([] ++ [(qa.toUInt32.toUInt16.toUInt32.toInt32)]) T_30.heap n0 y_33 G f_31 Hb_30 oa_21 o_30 (by simp)) (by decide) (by decide) (by decide) (by decide) (rfl : T_30.heap = T_30.heap) (fun _ y => LIv.warm hZ (own_ew hw) Hc0 y) hS hk_33 f_32 (g := (mkF m 88 #[sI_ qa, sI_ qb, sI_ qc, sI_ qk, sI_ (1 : Int32), sI_ (qa.toUInt32.toUInt16.toUInt32.toInt32), sI_ (qb.toUInt32.toUInt16.toUInt32.toInt32), sI_ (qc.toUInt32.toUInt16.toUInt32.toInt32), sR_ b_17, sU_, sU_] [(.ref b_17)])) rfl (by rw [hml]; rfl) (argsL := []) (rest := []) (lenOf pd_32 rfl) rfl rfl (Nat.le_refl _) (hb hby at_88)
    rw [ve_34, vv_34] at q_34
    obtain ⟨r_34, rb_34, rfl, n_34, K_34, LI_34, S_34⟩ := q_34
    have N_34 := Fr.app N_30 n_34
    have f_35 : Old Z n0 T_34.heap := f_31.keep K_34 (allS oa_21 all0)
    have y_36 : n0 ≤ T_34.heap.size := Nat.le_trans (Nat.le_of_eq f_35.1.symm) f_35.2.1
    have hk_36 := Nat.le_trans hk_33 K_34.1
    refine GoesW.go (U' := (T_34.setTop (mkF m 91 #[sI_ qa, sI_ qb, sI_ qc, sI_ qk, sI_ (1 : Int32), sI_ (qa.toUInt32.toUInt16.toUInt32.toInt32), sI_ (qb.toUInt32.toUInt16.toUInt32.toInt32), sI_ (qc.toUInt32.toUInt16.toUInt32.toInt32), sR_ b_17, sU_, sU_] [(.ref r_34)]))) st_34 ?_
    refine GoesW.go (U' := (T_34.setTop (mkF m 93 #[sI_ qa, sI_ qb, sI_ qc, sI_ qk, sI_ (1 : Int32), sI_ (qa.toUInt32.toUInt16.toUInt32.toInt32), sI_ (qb.toUInt32.toUInt16.toUInt32.toInt32), sI_ (qc.toUInt32.toUInt16.toUInt32.toInt32), sR_ b_17, sR_ r_34, sU_] []))) (fun t kt => ?_) ?_
    · skip
      refine XS.astore X_34.here hx rfl (hb hby at_91) rfl rfl (l' := #[sI_ qa, sI_ qb, sI_ qc, sI_ qk, sI_ (1 : Int32), sI_ (qa.toUInt32.toUInt16.toUInt32.toInt32), sI_ (qb.toUInt32.toUInt16.toUInt32.toInt32), sI_ (qc.toUInt32.toUInt16.toUInt32.toInt32), sR_ b_17, sR_ r_34, sU_]) rfl ?_
      exact kt
    obtain ⟨lau, T_37, h_37, k_37, lbu, klu, X_37, e_37, E_37, hS_37, hk_37, hZ, hown, Elu, Glu, Flu, Vlu, -, -, CRu, -, NNu, st_37⟩ := ldcCH X_34 hx hZ hown (wdOf hw 175 rfl) (own_sa hw) (rfl : T_34.heap = T_34.heap) hS_34 (Nat.le_refl _) (own_ew hw) (List.mem_of_getElem? (i := 1) rfl) LI_34 (vs := L1 TXT) (z := (24 : Int32)) own_txt (by decide) (by decide) (g := (mkF m 93 #[sI_ qa, sI_ qb, sI_ qc, sI_ qk, sI_ (1 : Int32), sI_ (qa.toUInt32.toUInt16.toUInt32.toInt32), sI_ (qb.toUInt32.toUInt16.toUInt32.toInt32), sI_ (qc.toUInt32.toUInt16.toUInt32.toInt32), sR_ b_17, sR_ r_34, sU_] [])) rfl (hb hby at_93) (n := 96) (by decide) (by decide) (by decide) (by decide)
    have f_38 : Old Z n0 h_37 := f_35.ext E_37
    have f_39 : Str Z h_37 r_34 rb_34 (((0 : Int32) + (1 : Int32)) + (24 : Int32)) (([] ++ [(qa.toUInt32.toUInt16.toUInt32.toInt32)]) ++ TXT) := S_34.ext E_37
    have y_40 : n0 ≤ h_37.size := Nat.le_trans (Nat.le_of_eq f_38.1.symm) f_38.2.1
    have hk_40 := Nat.le_trans (Nat.le_refl _) E_37.1
    refine GoesW.go (U' := (T_37.setTop (mkF m 95 #[sI_ qa, sI_ qb, sI_ qc, sI_ qk, sI_ (1 : Int32), sI_ (qa.toUInt32.toUInt16.toUInt32.toInt32), sI_ (qb.toUInt32.toUInt16.toUInt32.toInt32), sI_ (qc.toUInt32.toUInt16.toUInt32.toInt32), sR_ b_17, sR_ r_34, sU_] [(.ref lau)]))) st_37 ?_
    have S2 : Str Z h_37 lau lbu (24 : Int32) TXT := ⟨⟨rfl, by first | decide | simp⟩, Or.inl ⟨⟨_, Elu, Flu, Glu, Vlu⟩, own_lc⟩⟩
    refine GoesW.go (U' := (T_37.setTop (mkF m 99 #[sI_ qa, sI_ qb, sI_ qc, sI_ qk, sI_ (1 : Int32), sI_ (qa.toUInt32.toUInt16.toUInt32.toInt32), sI_ (qb.toUInt32.toUInt16.toUInt32.toInt32), sI_ (qc.toUInt32.toUInt16.toUInt32.toInt32), sR_ b_17, sR_ r_34, sR_ lau] [(.ref r_34)]))) (fun t kt => ?_) ?_
    · skip
      refine XS.astore X_37.here hx rfl (hb hby at_95) rfl rfl (l' := #[sI_ qa, sI_ qb, sI_ qc, sI_ qk, sI_ (1 : Int32), sI_ (qa.toUInt32.toUInt16.toUInt32.toInt32), sI_ (qb.toUInt32.toUInt16.toUInt32.toInt32), sI_ (qc.toUInt32.toUInt16.toUInt32.toInt32), sR_ b_17, sR_ r_34, sR_ lau]) rfl ?_
      refine XS.aload X_37.here hx rfl (hb hby at_97) rfl rfl ?_
      exact kt
    obtain ⟨v_41, T_41, L_41, X_41, q_41, st_41⟩ := callVirtual X_37 hx hZ (y := (⟨"java/lang/String", "length", "()I"⟩ : MethodName)) (z := (⟨"java/lang/String", "length", "()I"⟩ : MethodName)) (W := 0) hown (wdOf hw 176 rfl) (wdOf hw 69 rfl) (notFace_of_selects (args := #[]) (mvT hZ (wdOf hw 71 rfl))) (wdOf hw 71 rfl) (wdOf hw 70 rfl) (wdOf hw 23 rfl) (wdOf hw 72 rfl) (by decide) (rm_ln l Z a0 hw [] kc sx r_34 rb_34 (((0 : Int32) + (1 : Int32)) + (24 : Int32)) (([] ++ [(qa.toUInt32.toUInt16.toUInt32.toInt32)]) ++ TXT) h_37 n0 y_40 G f_38 f_39) (by decide) (by decide) (by decide) (by decide) e_37 f_39.exa (g := (mkF m 99 #[sI_ qa, sI_ qb, sI_ qc, sI_ qk, sI_ (1 : Int32), sI_ (qa.toUInt32.toUInt16.toUInt32.toInt32), sI_ (qb.toUInt32.toUInt16.toUInt32.toInt32), sI_ (qc.toUInt32.toUInt16.toUInt32.toInt32), sR_ b_17, sR_ r_34, sR_ lau] [(.ref r_34)])) rfl (by rw [hml]; rfl) (argsL := []) (rest := []) (lenOf pd_24 rfl) rfl rfl (Nat.le_refl _) (hb hby at_99)
    obtain ⟨rfl, n_41, K_41⟩ := q_41
    have N_41 := Fr.app N_34 n_41
    refine GoesW.go (U' := (T_41.setTop (mkF m 102 #[sI_ qa, sI_ qb, sI_ qc, sI_ qk, sI_ (1 : Int32), sI_ (qa.toUInt32.toUInt16.toUInt32.toInt32), sI_ (qb.toUInt32.toUInt16.toUInt32.toInt32), sI_ (qc.toUInt32.toUInt16.toUInt32.toInt32), sR_ b_17, sR_ r_34, sR_ lau] [(.int (((0 : Int32) + (1 : Int32)) + (24 : Int32)))]))) st_41 ?_
    refine GoesW.go (U' := (T_41.setTop (mkF m 121 #[sI_ qa, sI_ qb, sI_ qc, sI_ qk, sI_ (1 : Int32), sI_ (qa.toUInt32.toUInt16.toUInt32.toInt32), sI_ (qb.toUInt32.toUInt16.toUInt32.toInt32), sI_ (qc.toUInt32.toUInt16.toUInt32.toInt32), sR_ b_17, sR_ r_34, sR_ lau] [(.int (0 : Int32)), (.ref r_34)]))) (fun t kt => ?_) ?_
    · skip
      refine XS.iload X_41.here hx rfl (hb hby at_102) rfl ?_
      refine XS.bipush X_41.here hx rfl (hb hby at_104) ?_
      refine XS.iadd X_41.here hx rfl (hb hby at_106) rfl ?_
      refine XS.icmpYes X_41.here hx rfl (pc0 := 107) (pc' := 112) rfl (hb hby at_107) rfl (XT.ii_eq_t (by decide)) (by decide) (by decide) ?_
      refine XS.iload X_41.here hx rfl (hb hby at_112) rfl ?_
      refine XS.iconst X_41.here hx rfl (hb hby at_114) ?_
      refine XS.icmpNo X_41.here hx rfl (hb hby at_115) rfl (XT.ii_lt_f (by decide)) ?_
      refine XS.aload X_41.here hx rfl (hb hby at_118) rfl rfl ?_
      show Steps p.tables e below (T_41.setTop (mkF m 120 #[sI_ qa, sI_ qb, sI_ qc, sI_ qk, sI_ (1 : Int32), sI_ (qa.toUInt32.toUInt16.toUInt32.toInt32), sI_ (qb.toUInt32.toUInt16.toUInt32.toInt32), sI_ (qc.toUInt32.toUInt16.toUInt32.toInt32), sR_ b_17, sR_ r_34, sR_ lau] [(.ref r_34)])) t
      refine XS.iconst X_41.here hx rfl (hb hby at_120) ?_
      exact kt
    obtain ⟨v_42, T_42, L_42, X_42, q_42, st_42⟩ := callVirtual X_41 hx hZ (y := (⟨"java/lang/String", "charAt", "(I)C"⟩ : MethodName)) (z := (⟨"java/lang/String", "charAt", "(I)C"⟩ : MethodName)) (W := 0) hown (wdOf hw 177 rfl) (wdOf hw 178 rfl) (notFace_of_selects (args := #[]) (mvT hZ (wdOf hw 180 rfl))) (wdOf hw 180 rfl) (wdOf hw 179 rfl) (wdOf hw 23 rfl) (wdOf hw 181 rfl) (by decide) (rm_ca l Z a0 hw [] kc sx r_34 rb_34 (0 : Int32) (((0 : Int32) + (1 : Int32)) + (24 : Int32)) (qa.toUInt32.toUInt16.toUInt32.toInt32) (([] ++ [(qa.toUInt32.toUInt16.toUInt32.toInt32)]) ++ TXT) 0 h_37 n0 y_40 G f_38 f_39 ⟨rfl, by first | decide | simp⟩ rfl) (by decide) (by decide) (by decide) (by decide) K_41 f_39.exa (g := (mkF m 121 #[sI_ qa, sI_ qb, sI_ qc, sI_ qk, sI_ (1 : Int32), sI_ (qa.toUInt32.toUInt16.toUInt32.toInt32), sI_ (qb.toUInt32.toUInt16.toUInt32.toInt32), sI_ (qc.toUInt32.toUInt16.toUInt32.toInt32), sR_ b_17, sR_ r_34, sR_ lau] [(.int (0 : Int32)), (.ref r_34)])) rfl (by rw [hml]; rfl) (argsL := [(.int (0 : Int32))]) (rest := []) (lenOf pd_18 rfl) rfl rfl (Nat.le_refl _) (hb hby at_121)
    obtain ⟨rfl, n_42, K_42⟩ := q_42
    have N_42 := Fr.app N_41 n_42
    refine GoesW.go (U' := (T_42.setTop (mkF m 124 #[sI_ qa, sI_ qb, sI_ qc, sI_ qk, sI_ (1 : Int32), sI_ (qa.toUInt32.toUInt16.toUInt32.toInt32), sI_ (qb.toUInt32.toUInt16.toUInt32.toInt32), sI_ (qc.toUInt32.toUInt16.toUInt32.toInt32), sR_ b_17, sR_ r_34, sR_ lau] [(.int (qa.toUInt32.toUInt16.toUInt32.toInt32))]))) st_42 ?_
    refine GoesW.go (U' := (T_42.setTop (mkF m 169 #[sI_ qa, sI_ qb, sI_ qc, sI_ qk, sI_ (1 : Int32), sI_ (qa.toUInt32.toUInt16.toUInt32.toInt32), sI_ (qb.toUInt32.toUInt16.toUInt32.toInt32), sI_ (qc.toUInt32.toUInt16.toUInt32.toInt32), sR_ b_17, sR_ r_34, sR_ lau] []))) (fun t kt => ?_) ?_
    · skip
      refine XS.iload X_42.here hx rfl (hb hby at_124) rfl ?_
      refine XS.icmpYes X_42.here hx rfl (pc0 := 126) (pc' := 131) rfl (hb hby at_126) rfl (XT.ii_eq_t rfl) (by decide) (by decide) ?_
      refine XS.iload X_42.here hx rfl (hb hby at_131) rfl ?_
      refine XS.iconst X_42.here hx rfl (hb hby at_133) ?_
      refine XS.icmpYes X_42.here hx rfl (pc0 := 134) (pc' := 150) rfl (hb hby at_134) rfl (XT.ii_lt_t (by decide)) (by decide) (by decide) ?_
      refine XS.iload X_42.here hx rfl (hb hby at_150) rfl ?_
      refine XS.iconst X_42.here hx rfl (hb hby at_152) ?_
      refine XS.icmpYes X_42.here hx rfl (pc0 := 153) (pc' := 169) rfl (hb hby at_153) rfl (XT.ii_lt_t (by decide)) (by decide) (by decide) ?_
      exact kt
    exact law_169 l Z a0 hw kc sx qa qb qc qk (1 : Int32) (qa.toUInt32.toUInt16.toUInt32.toInt32) (qb.toUInt32.toUInt16.toUInt32.toInt32) (qc.toUInt32.toUInt16.toUInt32.toInt32) (((0 : Int32) + (1 : Int32)) + (24 : Int32)) b_17 r_34 rb_34 lau lbu ([] ++ [(qa.toUInt32.toUInt16.toUInt32.toInt32)]) h0 n0 Z0 p e s m below meth c _ _ hx hby hml hown hnm hret hlk hZ _ _ _ (moreRoom (cells' := 19) (slots' := 461) X_42 (by decide) (by decide)) K_42 N_42  G f_38 f_39 S2 ⟨rfl, by simp⟩ (by simp) hS_37 hk_37 
  · -- 2
    rw [show (qk &&& (3 : Int32)) = (2 : Int32) from q3]
    refine GoesW.go (U' := (s₁.setTop (mkF m 26 #[sI_ qa, sI_ qb, sI_ qc, sI_ qk, sI_ (2 : Int32), sI_ (qa.toUInt32.toUInt16.toUInt32.toInt32), sI_ (qb.toUInt32.toUInt16.toUInt32.toInt32), sI_ (qc.toUInt32.toUInt16.toUInt32.toInt32), sU_, sU_, sU_] []))) (fun t kt => ?_) ?_
    · skip
      refine XS.iload X0.here hx rfl (hb hby at_5) rfl ?_
      refine XS.iconst X0.here hx rfl (hb hby at_7) ?_
      refine XS.icmpYes X0.here hx rfl (pc0 := 8) (pc' := 14) rfl (hb hby at_8) rfl (XT.ii_le_t (by decide)) (by decide) (by decide) ?_
      refine XS.iloadN X0.here hx rfl (hb hby at_14) rfl ?_
      refine XS.i2c X0.here hx rfl (hb hby at_15) rfl ?_
      refine XS.istore X0.here hx rfl (hb hby at_16) rfl (l' := #[sI_ qa, sI_ qb, sI_ qc, sI_ qk, sI_ (2 : Int32), sI_ (qa.toUInt32.toUInt16.toUInt32.toInt32), sU_, sU_, sU_, sU_, sU_]) rfl ?_
      refine XS.iloadN X0.here hx rfl (hb hby at_18) rfl ?_
      refine XS.i2c X0.here hx rfl (hb hby at_19) rfl ?_
      show Steps p.tables e below (s₁.setTop (mkF m 20 #[sI_ qa, sI_ qb, sI_ qc, sI_ qk, sI_ (2 : Int32), sI_ (qa.toUInt32.toUInt16.toUInt32.toInt32), sU_, sU_, sU_, sU_, sU_] [(.int (qb.toUInt32.toUInt16.toUInt32.toInt32))])) t
      refine XS.istore X0.here hx rfl (hb hby at_20) rfl (l' := #[sI_ qa, sI_ qb, sI_ qc, sI_ qk, sI_ (2 : Int32), sI_ (qa.toUInt32.toUInt16.toUInt32.toInt32), sI_ (qb.toUInt32.toUInt16.toUInt32.toInt32), sU_, sU_, sU_, sU_]) rfl ?_
      refine XS.iloadN X0.here hx rfl (hb hby at_22) rfl ?_
      refine XS.i2c X0.here hx rfl (hb hby at_23) rfl ?_
      refine XS.istore X0.here hx rfl (hb hby at_24) rfl (l' := #[sI_ qa, sI_ qb, sI_ qc, sI_ qk, sI_ (2 : Int32), sI_ (qa.toUInt32.toUInt16.toUInt32.toInt32), sI_ (qb.toUInt32.toUInt16.toUInt32.toInt32), sI_ (qc.toUInt32.toUInt16.toUInt32.toInt32), sU_, sU_, sU_]) rfl ?_
      exact kt
    obtain ⟨T_43, h_43, X_43, e_43, E_43, A_43, D_43, -, st_43⟩ := newO X0 hx hZ hown (wdOf hw 0 rfl) (wdOf hw 1 rfl) (wdOf hw 2 rfl) e0 (g := (mkF m 26 #[sI_ qa, sI_ qb, sI_ qc, sI_ qk, sI_ (2 : Int32), sI_ (qa.toUInt32.toUInt16.toUInt32.toInt32), sI_ (qb.toUInt32.toUInt16.toUInt32.toInt32), sI_ (qc.toUInt32.toUInt16.toUInt32.toInt32), sU_, sU_, sU_] [])) rfl (hb hby at_26) (by decide) (by decide)
    obtain ⟨b_43, g_43⟩ : ∃ z, z = h0.size := ⟨_, rfl⟩
    rw [← g_43] at A_43 D_43 st_43
    have o_43 : n0 ≤ b_43 := Nat.le_trans Z0 (Nat.le_of_eq g_43.symm)
    have f_44 : Old Z n0 h_43 := O.ext E_43
    have f_45 : Fld Z h_43 b_43 "com/example/dead_letter_replay/deadletterreplay/page/Html" "html" "Ljava/lang/StringBuilder;" .null := D_43 (Or.inr (wdOf hw 30 rfl)) (ty := (.object "java/lang/StringBuilder")) (by decide)
    have y_46 : n0 ≤ h_43.size := Nat.le_trans (Nat.le_of_eq f_44.1.symm) f_44.2.1
    have hk_46 := Nat.le_trans hk0 E_43.1
    refine GoesW.go (U' := (T_43.setTop (mkF m 29 #[sI_ qa, sI_ qb, sI_ qc, sI_ qk, sI_ (2 : Int32), sI_ (qa.toUInt32.toUInt16.toUInt32.toInt32), sI_ (qb.toUInt32.toUInt16.toUInt32.toInt32), sI_ (qc.toUInt32.toUInt16.toUInt32.toInt32), sU_, sU_, sU_] [(.ref b_43)]))) st_43 ?_
    refine GoesW.go (U' := (T_43.setTop (mkF m 30 #[sI_ qa, sI_ qb, sI_ qc, sI_ qk, sI_ (2 : Int32), sI_ (qa.toUInt32.toUInt16.toUInt32.toInt32), sI_ (qb.toUInt32.toUInt16.toUInt32.toInt32), sI_ (qc.toUInt32.toUInt16.toUInt32.toInt32), sU_, sU_, sU_] [(.ref b_43), (.ref b_43)]))) (fun t kt => ?_) ?_
    · skip
      refine XS.dup X_43.here hx rfl (hb hby at_29) rfl rfl ?_
      exact kt
    obtain ⟨v_47, T_47, L_47, X_47, q_47, st_47⟩ := callInit X_43 hx hZ (y := (⟨"com/example/dead_letter_replay/deadletterreplay/page/Html", "<init>", "()V"⟩ : MethodName)) (W := 1) rfl hown (wdOf hw 3 rfl) (wdOf hw 4 rfl) (wdOf hw 2 rfl) (wdOf hw 5 rfl) (by decide) (rm_hi l Z a0 hw [] kc sx b_43 h_43 n0 y_46 G f_44 A_43 f_45 o_43) (by decide) (by decide) (by decide) (by decide) e_43 (b := b_43) (g := (mkF m 30 #[sI_ qa, sI_ qb, sI_ qc, sI_ qk, sI_ (2 : Int32), sI_ (qa.toUInt32.toUInt16.toUInt32.toInt32), sI_ (qb.toUInt32.toUInt16.toUInt32.toInt32), sI_ (qc.toUInt32.toUInt16.toUInt32.toInt32), sU_, sU_, sU_] [(.ref b_43), (.ref b_43)])) rfl (by rw [hml]; rfl) (argsL := []) (rest := [(.ref b_43)]) (lenOf pd_20 rfl) rfl rfl (Nat.le_refl _) (hb hby at_30)
    obtain ⟨ax_47, ba_47, rfl, n_47, K_47, oa_47, ob_47, Hb_47⟩ := q_47
    have N_47 := Fr.app N0 n_47
    have f_48 : Old Z n0 T_47.heap := f_44.keep K_47 (allS o_43 all0)
    have f_49 : Exa Z T_47.heap b_43 "com/example/dead_letter_replay/deadletterreplay/page/Html" := A_43.keep K_47
    have y_50 : n0 ≤ T_47.heap.size := Nat.le_trans (Nat.le_of_eq f_48.1.symm) f_48.2.1
    have hk_50 := Nat.le_trans hk_46 K_47.1
    refine GoesW.go (U' := (T_47.setTop (mkF m 33 #[sI_ qa, sI_ qb, sI_ qc, sI_ qk, sI_ (2 : Int32), sI_ (qa.toUInt32.toUInt16.toUInt32.toInt32), sI_ (qb.toUInt32.toUInt16.toUInt32.toInt32), sI_ (qc.toUInt32.toUInt16.toUInt32.toInt32), sU_, sU_, sU_] [(.ref b_43)]))) st_47 ?_
    refine GoesW.go (U' := (T_47.setTop (mkF m 45 #[sI_ qa, sI_ qb, sI_ qc, sI_ qk, sI_ (2 : Int32), sI_ (qa.toUInt32.toUInt16.toUInt32.toInt32), sI_ (qb.toUInt32.toUInt16.toUInt32.toInt32), sI_ (qc.toUInt32.toUInt16.toUInt32.toInt32), sR_ b_43, sU_, sU_] [(.int (qa.toUInt32.toUInt16.toUInt32.toInt32)), (.ref b_43)]))) (fun t kt => ?_) ?_
    · skip
      refine XS.astore X_47.here hx rfl (hb hby at_33) rfl rfl (l' := #[sI_ qa, sI_ qb, sI_ qc, sI_ qk, sI_ (2 : Int32), sI_ (qa.toUInt32.toUInt16.toUInt32.toInt32), sI_ (qb.toUInt32.toUInt16.toUInt32.toInt32), sI_ (qc.toUInt32.toUInt16.toUInt32.toInt32), sR_ b_43, sU_, sU_]) rfl ?_
      refine XS.iload X_47.here hx rfl (hb hby at_35) rfl ?_
      refine XS.iconst X_47.here hx rfl (hb hby at_37) ?_
      refine XS.icmpNo X_47.here hx rfl (hb hby at_38) rfl (XT.ii_lt_f (by decide)) ?_
      refine XS.aload X_47.here hx rfl (hb hby at_41) rfl rfl ?_
      refine XS.iload X_47.here hx rfl (hb hby at_43) rfl ?_
      exact kt
    obtain ⟨v_51, T_51, L_51, X_51, q_51, st_51⟩ := callStatic X_47 hx hZ (y := (⟨"java/lang/String", "valueOf", "(C)Ljava/lang/String;"⟩ : MethodName)) (W := 1) hown (wdOf hw 31 rfl) (wdOf hw 32 rfl) (wdOf hw 23 rfl) (wdOf hw 33 rfl) (by decide) (rm_sv l Z a0 hw [] kc sx (qa.toUInt32.toUInt16.toUInt32.toInt32) T_47.heap n0 y_50 G f_48 (Ch.i2c _)) (by decide) (by decide) (by decide) (by decide) (rfl : T_47.heap = T_47.heap) (g := (mkF m 45 #[sI_ qa, sI_ qb, sI_ qc, sI_ qk, sI_ (2 : Int32), sI_ (qa.toUInt32.toUInt16.toUInt32.toInt32), sI_ (qb.toUInt32.toUInt16.toUInt32.toInt32), sI_ (qc.toUInt32.toUInt16.toUInt32.toInt32), sR_ b_43, sU_, sU_] [(.int (qa.toUInt32.toUInt16.toUInt32.toInt32)), (.ref b_43)])) rfl (by rw [hml]; rfl) (argsL := [(.int (qa.toUInt32.toUInt16.toUInt32.toInt32))]) (rest := [(.ref b_43)]) (lenOf pd_33 rfl) rfl rfl (Nat.le_refl _) (hb hby at_45)
    obtain ⟨r_51, rb_51, rfl, n_51, K_51, z_51, S_51⟩ := q_51
    have N_51 := Fr.app N_47 n_51
    have f_52 : Old Z n0 T_51.heap := f_48.ext K_51
    have f_53 : Exa Z T_51.heap b_43 "com/example/dead_letter_replay/deadletterreplay/page/Html" := f_49.ext K_51
    have f_54 : Hob Z T_51.heap b_43 ax_47 ba_47 (0 : Int32) [] := Hb_47.ext K_51
    have y_55 : n0 ≤ T_51.heap.size := Nat.le_trans (Nat.le_of_eq f_52.1.symm) f_52.2.1
    have hk_55 := Nat.le_trans hk_50 K_51.1
    refine GoesW.go (U' := (T_51.setTop (mkF m 48 #[sI_ qa, sI_ qb, sI_ qc, sI_ qk, sI_ (2 : Int32), sI_ (qa.toUInt32.toUInt16.toUInt32.toInt32), sI_ (qb.toUInt32.toUInt16.toUInt32.toInt32), sI_ (qc.toUInt32.toUInt16.toUInt32.toInt32), sR_ b_43, sU_, sU_] [(.ref r_51), (.ref b_43)]))) st_51 ?_
    have nb_51 : rb_51 ≠ ba_47 := Nat.ne_of_gt (Nat.lt_of_lt_of_le Hb_47.lt z_51)
    obtain ⟨v_56, T_56, L_56, X_56, q_56, st_56⟩ := callVirtual X_51 hx hZ (y := (⟨"com/example/dead_letter_replay/deadletterreplay/page/Html", "raw", "(Ljava/lang/String;)Lcom/example/dead_letter_replay/deadletterreplay/page/Html;"⟩ : MethodName)) (z := (⟨"com/example/dead_letter_replay/deadletterreplay/page/Html", "raw", "(Ljava/lang/String;)Lcom/example/dead_letter_replay/deadletterreplay/page/Html;"⟩ : MethodName)) (W := 0) hown (wdOf hw 53 rfl) (wdOf hw 54 rfl) (notFace_of_selects (args := #[]) (mvT hZ (wdOf hw 56 rfl))) (wdOf hw 56 rfl) (wdOf hw 55 rfl) (wdOf hw 2 rfl) (wdOf hw 57 rfl) (by decide) (rm_raw l Z a0 hw [] kc sx b_43 ax_47 ba_47 r_51 rb_51 (0 : Int32) (qa.toUInt32.toUInt16.toUInt32.toInt32) [] T_51.heap n0 y_55 G f_52 f_54 S_51 oa_47 ob_47 nb_51 (by simp)) (by decide) (by decide) (by decide) (by decide) (rfl : T_51.heap = T_51.heap) f_53 (g := (mkF m 48 #[sI_ qa, sI_ qb, sI_ qc, sI_ qk, sI_ (2 : Int32), sI_ (qa.toUInt32.toUInt16.toUInt32.toInt32), sI_ (qb.toUInt32.toUInt16.toUInt32.toInt32), sI_ (qc.toUInt32.toUInt16.toUInt32.toInt32), sR_ b_43, sU_, sU_] [(.ref r_51), (.ref b_43)])) rfl (by rw [hml]; rfl) (argsL := [(.ref r_51)]) (rest := []) (lenOf pd_34 rfl) rfl rfl (Nat.le_refl _) (hb hby at_48)
    obtain ⟨b_56, rfl, n_56, K_56, o_56, Hb_56⟩ := q_56
    have N_56 := Fr.app N_51 n_56
    have f_57 : Old Z n0 T_56.heap := f_52.keep K_56 (allS oa_47 (allS ob_47 all0))
    have f_58 : Exa Z T_56.heap b_43 "com/example/dead_letter_replay/deadletterreplay/page/Html" := f_53.keep K_56
    have y_59 : n0 ≤ T_56.heap.size := Nat.le_trans (Nat.le_of_eq f_57.1.symm) f_57.2.1
    have hk_59 := Nat.le_trans hk_55 K_56.1
    refine GoesW.go (U' := (T_56.setTop (mkF m 51 #[sI_ qa, sI_ qb, sI_ qc, sI_ qk, sI_ (2 : Int32), sI_ (qa.toUInt32.toUInt16.toUInt32.toInt32), sI_ (qb.toUInt32.toUInt16.toUInt32.toInt32), sI_ (qc.toUInt32.toUInt16.toUInt32.toInt32), sR_ b_43, sU_, sU_] [(.ref b_43)]))) st_56 ?_
    refine GoesW.go (U' := (T_56.setTop (mkF m 62 #[sI_ qa, sI_ qb, sI_ qc, sI_ qk, sI_ (2 : Int32), sI_ (qa.toUInt32.toUInt16.toUInt32.toInt32), sI_ (qb.toUInt32.toUInt16.toUInt32.toInt32), sI_ (qc.toUInt32.toUInt16.toUInt32.toInt32), sR_ b_43, sU_, sU_] [(.int (qb.toUInt32.toUInt16.toUInt32.toInt32)), (.ref b_43)]))) (fun t kt => ?_) ?_
    · skip
      refine XS.pop X_56.here hx rfl (hb hby at_51) rfl rfl ?_
      refine XS.iload X_56.here hx rfl (hb hby at_52) rfl ?_
      refine XS.iconst X_56.here hx rfl (hb hby at_54) ?_
      refine XS.icmpNo X_56.here hx rfl (hb hby at_55) rfl (XT.ii_lt_f (by decide)) ?_
      refine XS.aload X_56.here hx rfl (hb hby at_58) rfl rfl ?_
      refine XS.iload X_56.here hx rfl (hb hby at_60) rfl ?_
      exact kt
    obtain ⟨v_60, T_60, L_60, X_60, q_60, st_60⟩ := callStatic X_56 hx hZ (y := (⟨"java/lang/String", "valueOf", "(C)Ljava/lang/String;"⟩ : MethodName)) (W := 1) hown (wdOf hw 31 rfl) (wdOf hw 32 rfl) (wdOf hw 23 rfl) (wdOf hw 33 rfl) (by decide) (rm_sv l Z a0 hw [] kc sx (qb.toUInt32.toUInt16.toUInt32.toInt32) T_56.heap n0 y_59 G f_57 (Ch.i2c _)) (by decide) (by decide) (by decide) (by decide) (rfl : T_56.heap = T_56.heap) (g := (mkF m 62 #[sI_ qa, sI_ qb, sI_ qc, sI_ qk, sI_ (2 : Int32), sI_ (qa.toUInt32.toUInt16.toUInt32.toInt32), sI_ (qb.toUInt32.toUInt16.toUInt32.toInt32), sI_ (qc.toUInt32.toUInt16.toUInt32.toInt32), sR_ b_43, sU_, sU_] [(.int (qb.toUInt32.toUInt16.toUInt32.toInt32)), (.ref b_43)])) rfl (by rw [hml]; rfl) (argsL := [(.int (qb.toUInt32.toUInt16.toUInt32.toInt32))]) (rest := [(.ref b_43)]) (lenOf pd_33 rfl) rfl rfl (Nat.le_refl _) (hb hby at_62)
    obtain ⟨r_60, rb_60, rfl, n_60, K_60, z_60, S_60⟩ := q_60
    have N_60 := Fr.app N_56 n_60
    have f_61 : Old Z n0 T_60.heap := f_57.ext K_60
    have f_62 : Exa Z T_60.heap b_43 "com/example/dead_letter_replay/deadletterreplay/page/Html" := f_58.ext K_60
    have f_63 : Hob Z T_60.heap b_43 ax_47 b_56 ((0 : Int32) + (1 : Int32)) ([] ++ [(qa.toUInt32.toUInt16.toUInt32.toInt32)]) := Hb_56.ext K_60
    have y_64 : n0 ≤ T_60.heap.size := Nat.le_trans (Nat.le_of_eq f_61.1.symm) f_61.2.1
    have hk_64 := Nat.le_trans hk_59 K_60.1
    refine GoesW.go (U' := (T_60.setTop (mkF m 65 #[sI_ qa, sI_ qb, sI_ qc, sI_ qk, sI_ (2 : Int32), sI_ (qa.toUInt32.toUInt16.toUInt32.toInt32), sI_ (qb.toUInt32.toUInt16.toUInt32.toInt32), sI_ (qc.toUInt32.toUInt16.toUInt32.toInt32), sR_ b_43, sU_, sU_] [(.ref r_60), (.ref b_43)]))) st_60 ?_
    have nb_60 : rb_60 ≠ b_56 := Nat.ne_of_gt (Nat.lt_of_lt_of_le Hb_56.lt z_60)
    obtain ⟨v_65, T_65, L_65, X_65, q_65, st_65⟩ := callVirtual X_60 hx hZ (y := (⟨"com/example/dead_letter_replay/deadletterreplay/page/Html", "raw", "(Ljava/lang/String;)Lcom/example/dead_letter_replay/deadletterreplay/page/Html;"⟩ : MethodName)) (z := (⟨"com/example/dead_letter_replay/deadletterreplay/page/Html", "raw", "(Ljava/lang/String;)Lcom/example/dead_letter_replay/deadletterreplay/page/Html;"⟩ : MethodName)) (W := 0) hown (wdOf hw 53 rfl) (wdOf hw 54 rfl) (notFace_of_selects (args := #[]) (mvT hZ (wdOf hw 56 rfl))) (wdOf hw 56 rfl) (wdOf hw 55 rfl) (wdOf hw 2 rfl) (wdOf hw 57 rfl) (by decide) (rm_raw l Z a0 hw [] kc sx b_43 ax_47 b_56 r_60 rb_60 ((0 : Int32) + (1 : Int32)) (qb.toUInt32.toUInt16.toUInt32.toInt32) ([] ++ [(qa.toUInt32.toUInt16.toUInt32.toInt32)]) T_60.heap n0 y_64 G f_61 f_63 S_60 oa_47 o_56 nb_60 (by simp)) (by decide) (by decide) (by decide) (by decide) (rfl : T_60.heap = T_60.heap) f_62 (g := (mkF m 65 #[sI_ qa, sI_ qb, sI_ qc, sI_ qk, sI_ (2 : Int32), sI_ (qa.toUInt32.toUInt16.toUInt32.toInt32), sI_ (qb.toUInt32.toUInt16.toUInt32.toInt32), sI_ (qc.toUInt32.toUInt16.toUInt32.toInt32), sR_ b_43, sU_, sU_] [(.ref r_60), (.ref b_43)])) rfl (by rw [hml]; rfl) (argsL := [(.ref r_60)]) (rest := []) (lenOf pd_34 rfl) rfl rfl (Nat.le_refl _) (hb hby at_65)
    obtain ⟨b_65, rfl, n_65, K_65, o_65, Hb_65⟩ := q_65
    have N_65 := Fr.app N_60 n_65
    have f_66 : Old Z n0 T_65.heap := f_61.keep K_65 (allS oa_47 (allS o_56 all0))
    have f_67 : Exa Z T_65.heap b_43 "com/example/dead_letter_replay/deadletterreplay/page/Html" := f_62.keep K_65
    have y_68 : n0 ≤ T_65.heap.size := Nat.le_trans (Nat.le_of_eq f_66.1.symm) f_66.2.1
    have hk_68 := Nat.le_trans hk_64 K_65.1
    refine GoesW.go (U' := (T_65.setTop (mkF m 68 #[sI_ qa, sI_ qb, sI_ qc, sI_ qk, sI_ (2 : Int32), sI_ (qa.toUInt32.toUInt16.toUInt32.toInt32), sI_ (qb.toUInt32.toUInt16.toUInt32.toInt32), sI_ (qc.toUInt32.toUInt16.toUInt32.toInt32), sR_ b_43, sU_, sU_] [(.ref b_43)]))) st_65 ?_
    refine GoesW.go (U' := (T_65.setTop (mkF m 88 #[sI_ qa, sI_ qb, sI_ qc, sI_ qk, sI_ (2 : Int32), sI_ (qa.toUInt32.toUInt16.toUInt32.toInt32), sI_ (qb.toUInt32.toUInt16.toUInt32.toInt32), sI_ (qc.toUInt32.toUInt16.toUInt32.toInt32), sR_ b_43, sU_, sU_] [(.ref b_43)]))) (fun t kt => ?_) ?_
    · skip
      refine XS.pop X_65.here hx rfl (hb hby at_68) rfl rfl ?_
      refine XS.iload X_65.here hx rfl (hb hby at_69) rfl ?_
      refine XS.iconst X_65.here hx rfl (hb hby at_71) ?_
      refine XS.icmpYes X_65.here hx rfl (pc0 := 72) (pc' := 86) rfl (hb hby at_72) rfl (XT.ii_lt_t (by decide)) (by decide) (by decide) ?_
      refine XS.aload X_65.here hx rfl (hb hby at_86) rfl rfl ?_
      exact kt
    obtain ⟨v_69, T_69, V_69, L_69, X_69, ve_69, vv_69, q_69, hS_69, hZ, hown, st_69⟩ := callVirtualW X_65 hx hZ (y := (⟨"com/example/dead_letter_replay/deadletterreplay/page/Html", "end", "()Ljava/lang/String;"⟩ : MethodName)) (z := (⟨"com/example/dead_letter_replay/deadletterreplay/page/Html", "end", "()Ljava/lang/String;"⟩ : MethodName)) (W := 0) hown (wdOf hw 105 rfl) (wdOf hw 106 rfl) (notFace_of_selects (args := #[]) (mvT hZ (wdOf hw 108 rfl))) (wdOf hw 108 rfl) (wdOf hw 107 rfl) (wdOf hw 2 rfl) (wdOf hw 109 rfl) (by decide) (rm_end l Z a0 hw [] kc sx b_43 ax_47 b_65 (((0 : Int32) + (1 : Int32)) + (1 : Int32)) (([] ++ [(qa.toUInt32.toUInt16.toUInt32.toInt32)]) ++ [(qb.toUInt32.toUInt16.toUInt32.toInt32)]) T_65.heap n0 y_68 G f_66 Hb_65 oa_47 o_65 (by simp)) (by decide) (by decide) (by decide) (by decide) (rfl : T_65.heap = T_65.heap) (fun _ y => LIv.warm hZ (own_ew hw) Hc0 y) hS hk_68 f_67 (g := (mkF m 88 #[sI_ qa, sI_ qb, sI_ qc, sI_ qk, sI_ (2 : Int32), sI_ (qa.toUInt32.toUInt16.toUInt32.toInt32), sI_ (qb.toUInt32.toUInt16.toUInt32.toInt32), sI_ (qc.toUInt32.toUInt16.toUInt32.toInt32), sR_ b_43, sU_, sU_] [(.ref b_43)])) rfl (by rw [hml]; rfl) (argsL := []) (rest := []) (lenOf pd_32 rfl) rfl rfl (Nat.le_refl _) (hb hby at_88)
    rw [ve_69, vv_69] at q_69
    obtain ⟨r_69, rb_69, rfl, n_69, K_69, LI_69, S_69⟩ := q_69
    have N_69 := Fr.app N_65 n_69
    have f_70 : Old Z n0 T_69.heap := f_66.keep K_69 (allS oa_47 all0)
    have y_71 : n0 ≤ T_69.heap.size := Nat.le_trans (Nat.le_of_eq f_70.1.symm) f_70.2.1
    have hk_71 := Nat.le_trans hk_68 K_69.1
    refine GoesW.go (U' := (T_69.setTop (mkF m 91 #[sI_ qa, sI_ qb, sI_ qc, sI_ qk, sI_ (2 : Int32), sI_ (qa.toUInt32.toUInt16.toUInt32.toInt32), sI_ (qb.toUInt32.toUInt16.toUInt32.toInt32), sI_ (qc.toUInt32.toUInt16.toUInt32.toInt32), sR_ b_43, sU_, sU_] [(.ref r_69)]))) st_69 ?_
    refine GoesW.go (U' := (T_69.setTop (mkF m 93 #[sI_ qa, sI_ qb, sI_ qc, sI_ qk, sI_ (2 : Int32), sI_ (qa.toUInt32.toUInt16.toUInt32.toInt32), sI_ (qb.toUInt32.toUInt16.toUInt32.toInt32), sI_ (qc.toUInt32.toUInt16.toUInt32.toInt32), sR_ b_43, sR_ r_69, sU_] []))) (fun t kt => ?_) ?_
    · skip
      refine XS.astore X_69.here hx rfl (hb hby at_91) rfl rfl (l' := #[sI_ qa, sI_ qb, sI_ qc, sI_ qk, sI_ (2 : Int32), sI_ (qa.toUInt32.toUInt16.toUInt32.toInt32), sI_ (qb.toUInt32.toUInt16.toUInt32.toInt32), sI_ (qc.toUInt32.toUInt16.toUInt32.toInt32), sR_ b_43, sR_ r_69, sU_]) rfl ?_
      exact kt
    obtain ⟨lau, T_72, h_72, k_72, lbu, klu, X_72, e_72, E_72, hS_72, hk_72, hZ, hown, Elu, Glu, Flu, Vlu, -, -, CRu, -, NNu, st_72⟩ := ldcCH X_69 hx hZ hown (wdOf hw 175 rfl) (own_sa hw) (rfl : T_69.heap = T_69.heap) hS_69 (Nat.le_refl _) (own_ew hw) (List.mem_of_getElem? (i := 1) rfl) LI_69 (vs := L1 TXT) (z := (24 : Int32)) own_txt (by decide) (by decide) (g := (mkF m 93 #[sI_ qa, sI_ qb, sI_ qc, sI_ qk, sI_ (2 : Int32), sI_ (qa.toUInt32.toUInt16.toUInt32.toInt32), sI_ (qb.toUInt32.toUInt16.toUInt32.toInt32), sI_ (qc.toUInt32.toUInt16.toUInt32.toInt32), sR_ b_43, sR_ r_69, sU_] [])) rfl (hb hby at_93) (n := 96) (by decide) (by decide) (by decide) (by decide)
    have f_73 : Old Z n0 h_72 := f_70.ext E_72
    have f_74 : Str Z h_72 r_69 rb_69 ((((0 : Int32) + (1 : Int32)) + (1 : Int32)) + (24 : Int32)) ((([] ++ [(qa.toUInt32.toUInt16.toUInt32.toInt32)]) ++ [(qb.toUInt32.toUInt16.toUInt32.toInt32)]) ++ TXT) := S_69.ext E_72
    have y_75 : n0 ≤ h_72.size := Nat.le_trans (Nat.le_of_eq f_73.1.symm) f_73.2.1
    have hk_75 := Nat.le_trans (Nat.le_refl _) E_72.1
    refine GoesW.go (U' := (T_72.setTop (mkF m 95 #[sI_ qa, sI_ qb, sI_ qc, sI_ qk, sI_ (2 : Int32), sI_ (qa.toUInt32.toUInt16.toUInt32.toInt32), sI_ (qb.toUInt32.toUInt16.toUInt32.toInt32), sI_ (qc.toUInt32.toUInt16.toUInt32.toInt32), sR_ b_43, sR_ r_69, sU_] [(.ref lau)]))) st_72 ?_
    have S2 : Str Z h_72 lau lbu (24 : Int32) TXT := ⟨⟨rfl, by first | decide | simp⟩, Or.inl ⟨⟨_, Elu, Flu, Glu, Vlu⟩, own_lc⟩⟩
    refine GoesW.go (U' := (T_72.setTop (mkF m 99 #[sI_ qa, sI_ qb, sI_ qc, sI_ qk, sI_ (2 : Int32), sI_ (qa.toUInt32.toUInt16.toUInt32.toInt32), sI_ (qb.toUInt32.toUInt16.toUInt32.toInt32), sI_ (qc.toUInt32.toUInt16.toUInt32.toInt32), sR_ b_43, sR_ r_69, sR_ lau] [(.ref r_69)]))) (fun t kt => ?_) ?_
    · skip
      refine XS.astore X_72.here hx rfl (hb hby at_95) rfl rfl (l' := #[sI_ qa, sI_ qb, sI_ qc, sI_ qk, sI_ (2 : Int32), sI_ (qa.toUInt32.toUInt16.toUInt32.toInt32), sI_ (qb.toUInt32.toUInt16.toUInt32.toInt32), sI_ (qc.toUInt32.toUInt16.toUInt32.toInt32), sR_ b_43, sR_ r_69, sR_ lau]) rfl ?_
      refine XS.aload X_72.here hx rfl (hb hby at_97) rfl rfl ?_
      exact kt
    obtain ⟨v_76, T_76, L_76, X_76, q_76, st_76⟩ := callVirtual X_72 hx hZ (y := (⟨"java/lang/String", "length", "()I"⟩ : MethodName)) (z := (⟨"java/lang/String", "length", "()I"⟩ : MethodName)) (W := 0) hown (wdOf hw 176 rfl) (wdOf hw 69 rfl) (notFace_of_selects (args := #[]) (mvT hZ (wdOf hw 71 rfl))) (wdOf hw 71 rfl) (wdOf hw 70 rfl) (wdOf hw 23 rfl) (wdOf hw 72 rfl) (by decide) (rm_ln l Z a0 hw [] kc sx r_69 rb_69 ((((0 : Int32) + (1 : Int32)) + (1 : Int32)) + (24 : Int32)) ((([] ++ [(qa.toUInt32.toUInt16.toUInt32.toInt32)]) ++ [(qb.toUInt32.toUInt16.toUInt32.toInt32)]) ++ TXT) h_72 n0 y_75 G f_73 f_74) (by decide) (by decide) (by decide) (by decide) e_72 f_74.exa (g := (mkF m 99 #[sI_ qa, sI_ qb, sI_ qc, sI_ qk, sI_ (2 : Int32), sI_ (qa.toUInt32.toUInt16.toUInt32.toInt32), sI_ (qb.toUInt32.toUInt16.toUInt32.toInt32), sI_ (qc.toUInt32.toUInt16.toUInt32.toInt32), sR_ b_43, sR_ r_69, sR_ lau] [(.ref r_69)])) rfl (by rw [hml]; rfl) (argsL := []) (rest := []) (lenOf pd_24 rfl) rfl rfl (Nat.le_refl _) (hb hby at_99)
    obtain ⟨rfl, n_76, K_76⟩ := q_76
    have N_76 := Fr.app N_69 n_76
    refine GoesW.go (U' := (T_76.setTop (mkF m 102 #[sI_ qa, sI_ qb, sI_ qc, sI_ qk, sI_ (2 : Int32), sI_ (qa.toUInt32.toUInt16.toUInt32.toInt32), sI_ (qb.toUInt32.toUInt16.toUInt32.toInt32), sI_ (qc.toUInt32.toUInt16.toUInt32.toInt32), sR_ b_43, sR_ r_69, sR_ lau] [(.int ((((0 : Int32) + (1 : Int32)) + (1 : Int32)) + (24 : Int32)))]))) st_76 ?_
    refine GoesW.go (U' := (T_76.setTop (mkF m 121 #[sI_ qa, sI_ qb, sI_ qc, sI_ qk, sI_ (2 : Int32), sI_ (qa.toUInt32.toUInt16.toUInt32.toInt32), sI_ (qb.toUInt32.toUInt16.toUInt32.toInt32), sI_ (qc.toUInt32.toUInt16.toUInt32.toInt32), sR_ b_43, sR_ r_69, sR_ lau] [(.int (0 : Int32)), (.ref r_69)]))) (fun t kt => ?_) ?_
    · skip
      refine XS.iload X_76.here hx rfl (hb hby at_102) rfl ?_
      refine XS.bipush X_76.here hx rfl (hb hby at_104) ?_
      refine XS.iadd X_76.here hx rfl (hb hby at_106) rfl ?_
      refine XS.icmpYes X_76.here hx rfl (pc0 := 107) (pc' := 112) rfl (hb hby at_107) rfl (XT.ii_eq_t (by decide)) (by decide) (by decide) ?_
      refine XS.iload X_76.here hx rfl (hb hby at_112) rfl ?_
      refine XS.iconst X_76.here hx rfl (hb hby at_114) ?_
      refine XS.icmpNo X_76.here hx rfl (hb hby at_115) rfl (XT.ii_lt_f (by decide)) ?_
      refine XS.aload X_76.here hx rfl (hb hby at_118) rfl rfl ?_
      show Steps p.tables e below (T_76.setTop (mkF m 120 #[sI_ qa, sI_ qb, sI_ qc, sI_ qk, sI_ (2 : Int32), sI_ (qa.toUInt32.toUInt16.toUInt32.toInt32), sI_ (qb.toUInt32.toUInt16.toUInt32.toInt32), sI_ (qc.toUInt32.toUInt16.toUInt32.toInt32), sR_ b_43, sR_ r_69, sR_ lau] [(.ref r_69)])) t
      refine XS.iconst X_76.here hx rfl (hb hby at_120) ?_
      exact kt
    obtain ⟨v_77, T_77, L_77, X_77, q_77, st_77⟩ := callVirtual X_76 hx hZ (y := (⟨"java/lang/String", "charAt", "(I)C"⟩ : MethodName)) (z := (⟨"java/lang/String", "charAt", "(I)C"⟩ : MethodName)) (W := 0) hown (wdOf hw 177 rfl) (wdOf hw 178 rfl) (notFace_of_selects (args := #[]) (mvT hZ (wdOf hw 180 rfl))) (wdOf hw 180 rfl) (wdOf hw 179 rfl) (wdOf hw 23 rfl) (wdOf hw 181 rfl) (by decide) (rm_ca l Z a0 hw [] kc sx r_69 rb_69 (0 : Int32) ((((0 : Int32) + (1 : Int32)) + (1 : Int32)) + (24 : Int32)) (qa.toUInt32.toUInt16.toUInt32.toInt32) ((([] ++ [(qa.toUInt32.toUInt16.toUInt32.toInt32)]) ++ [(qb.toUInt32.toUInt16.toUInt32.toInt32)]) ++ TXT) 0 h_72 n0 y_75 G f_73 f_74 ⟨rfl, by first | decide | simp⟩ rfl) (by decide) (by decide) (by decide) (by decide) K_76 f_74.exa (g := (mkF m 121 #[sI_ qa, sI_ qb, sI_ qc, sI_ qk, sI_ (2 : Int32), sI_ (qa.toUInt32.toUInt16.toUInt32.toInt32), sI_ (qb.toUInt32.toUInt16.toUInt32.toInt32), sI_ (qc.toUInt32.toUInt16.toUInt32.toInt32), sR_ b_43, sR_ r_69, sR_ lau] [(.int (0 : Int32)), (.ref r_69)])) rfl (by rw [hml]; rfl) (argsL := [(.int (0 : Int32))]) (rest := []) (lenOf pd_18 rfl) rfl rfl (Nat.le_refl _) (hb hby at_121)
    obtain ⟨rfl, n_77, K_77⟩ := q_77
    have N_77 := Fr.app N_76 n_77
    refine GoesW.go (U' := (T_77.setTop (mkF m 124 #[sI_ qa, sI_ qb, sI_ qc, sI_ qk, sI_ (2 : Int32), sI_ (qa.toUInt32.toUInt16.toUInt32.toInt32), sI_ (qb.toUInt32.toUInt16.toUInt32.toInt32), sI_ (qc.toUInt32.toUInt16.toUInt32.toInt32), sR_ b_43, sR_ r_69, sR_ lau] [(.int (qa.toUInt32.toUInt16.toUInt32.toInt32))]))) st_77 ?_
    refine GoesW.go (U' := (T_77.setTop (mkF m 140 #[sI_ qa, sI_ qb, sI_ qc, sI_ qk, sI_ (2 : Int32), sI_ (qa.toUInt32.toUInt16.toUInt32.toInt32), sI_ (qb.toUInt32.toUInt16.toUInt32.toInt32), sI_ (qc.toUInt32.toUInt16.toUInt32.toInt32), sR_ b_43, sR_ r_69, sR_ lau] [(.int (1 : Int32)), (.ref r_69)]))) (fun t kt => ?_) ?_
    · skip
      refine XS.iload X_77.here hx rfl (hb hby at_124) rfl ?_
      refine XS.icmpYes X_77.here hx rfl (pc0 := 126) (pc' := 131) rfl (hb hby at_126) rfl (XT.ii_eq_t rfl) (by decide) (by decide) ?_
      refine XS.iload X_77.here hx rfl (hb hby at_131) rfl ?_
      refine XS.iconst X_77.here hx rfl (hb hby at_133) ?_
      refine XS.icmpNo X_77.here hx rfl (hb hby at_134) rfl (XT.ii_lt_f (by decide)) ?_
      refine XS.aload X_77.here hx rfl (hb hby at_137) rfl rfl ?_
      refine XS.iconst X_77.here hx rfl (hb hby at_139) ?_
      exact kt
    obtain ⟨v_78, T_78, L_78, X_78, q_78, st_78⟩ := callVirtual X_77 hx hZ (y := (⟨"java/lang/String", "charAt", "(I)C"⟩ : MethodName)) (z := (⟨"java/lang/String", "charAt", "(I)C"⟩ : MethodName)) (W := 0) hown (wdOf hw 177 rfl) (wdOf hw 178 rfl) (notFace_of_selects (args := #[]) (mvT hZ (wdOf hw 180 rfl))) (wdOf hw 180 rfl) (wdOf hw 179 rfl) (wdOf hw 23 rfl) (wdOf hw 181 rfl) (by decide) (rm_ca l Z a0 hw [] kc sx r_69 rb_69 (1 : Int32) ((((0 : Int32) + (1 : Int32)) + (1 : Int32)) + (24 : Int32)) (qb.toUInt32.toUInt16.toUInt32.toInt32) ((([] ++ [(qa.toUInt32.toUInt16.toUInt32.toInt32)]) ++ [(qb.toUInt32.toUInt16.toUInt32.toInt32)]) ++ TXT) 1 h_72 n0 y_75 G f_73 f_74 ⟨rfl, by first | decide | simp⟩ rfl) (by decide) (by decide) (by decide) (by decide) K_77 f_74.exa (g := (mkF m 140 #[sI_ qa, sI_ qb, sI_ qc, sI_ qk, sI_ (2 : Int32), sI_ (qa.toUInt32.toUInt16.toUInt32.toInt32), sI_ (qb.toUInt32.toUInt16.toUInt32.toInt32), sI_ (qc.toUInt32.toUInt16.toUInt32.toInt32), sR_ b_43, sR_ r_69, sR_ lau] [(.int (1 : Int32)), (.ref r_69)])) rfl (by rw [hml]; rfl) (argsL := [(.int (1 : Int32))]) (rest := []) (lenOf pd_18 rfl) rfl rfl (Nat.le_refl _) (hb hby at_140)
    obtain ⟨rfl, n_78, K_78⟩ := q_78
    have N_78 := Fr.app N_77 n_78
    refine GoesW.go (U' := (T_78.setTop (mkF m 143 #[sI_ qa, sI_ qb, sI_ qc, sI_ qk, sI_ (2 : Int32), sI_ (qa.toUInt32.toUInt16.toUInt32.toInt32), sI_ (qb.toUInt32.toUInt16.toUInt32.toInt32), sI_ (qc.toUInt32.toUInt16.toUInt32.toInt32), sR_ b_43, sR_ r_69, sR_ lau] [(.int (qb.toUInt32.toUInt16.toUInt32.toInt32))]))) st_78 ?_
    refine GoesW.go (U' := (T_78.setTop (mkF m 169 #[sI_ qa, sI_ qb, sI_ qc, sI_ qk, sI_ (2 : Int32), sI_ (qa.toUInt32.toUInt16.toUInt32.toInt32), sI_ (qb.toUInt32.toUInt16.toUInt32.toInt32), sI_ (qc.toUInt32.toUInt16.toUInt32.toInt32), sR_ b_43, sR_ r_69, sR_ lau] []))) (fun t kt => ?_) ?_
    · skip
      refine XS.iload X_78.here hx rfl (hb hby at_143) rfl ?_
      refine XS.icmpYes X_78.here hx rfl (pc0 := 145) (pc' := 150) rfl (hb hby at_145) rfl (XT.ii_eq_t rfl) (by decide) (by decide) ?_
      refine XS.iload X_78.here hx rfl (hb hby at_150) rfl ?_
      refine XS.iconst X_78.here hx rfl (hb hby at_152) ?_
      refine XS.icmpYes X_78.here hx rfl (pc0 := 153) (pc' := 169) rfl (hb hby at_153) rfl (XT.ii_lt_t (by decide)) (by decide) (by decide) ?_
      exact kt
    exact law_169 l Z a0 hw kc sx qa qb qc qk (2 : Int32) (qa.toUInt32.toUInt16.toUInt32.toInt32) (qb.toUInt32.toUInt16.toUInt32.toInt32) (qc.toUInt32.toUInt16.toUInt32.toInt32) ((((0 : Int32) + (1 : Int32)) + (1 : Int32)) + (24 : Int32)) b_43 r_69 rb_69 lau lbu (([] ++ [(qa.toUInt32.toUInt16.toUInt32.toInt32)]) ++ [(qb.toUInt32.toUInt16.toUInt32.toInt32)]) h0 n0 Z0 p e s m below meth c _ _ hx hby hml hown hnm hret hlk hZ _ _ _ (moreRoom (cells' := 19) (slots' := 461) X_78 (by decide) (by decide)) K_78 N_78  G f_73 f_74 S2 ⟨rfl, by simp⟩ (by simp) hS_72 hk_72 
  · -- 3
    rw [show (qk &&& (3 : Int32)) = (3 : Int32) from q3]
    refine GoesW.go (U' := (s₁.setTop (mkF m 26 #[sI_ qa, sI_ qb, sI_ qc, sI_ qk, sI_ (3 : Int32), sI_ (qa.toUInt32.toUInt16.toUInt32.toInt32), sI_ (qb.toUInt32.toUInt16.toUInt32.toInt32), sI_ (qc.toUInt32.toUInt16.toUInt32.toInt32), sU_, sU_, sU_] []))) (fun t kt => ?_) ?_
    · skip
      refine XS.iload X0.here hx rfl (hb hby at_5) rfl ?_
      refine XS.iconst X0.here hx rfl (hb hby at_7) ?_
      refine XS.icmpYes X0.here hx rfl (pc0 := 8) (pc' := 14) rfl (hb hby at_8) rfl (XT.ii_le_t (by decide)) (by decide) (by decide) ?_
      refine XS.iloadN X0.here hx rfl (hb hby at_14) rfl ?_
      refine XS.i2c X0.here hx rfl (hb hby at_15) rfl ?_
      refine XS.istore X0.here hx rfl (hb hby at_16) rfl (l' := #[sI_ qa, sI_ qb, sI_ qc, sI_ qk, sI_ (3 : Int32), sI_ (qa.toUInt32.toUInt16.toUInt32.toInt32), sU_, sU_, sU_, sU_, sU_]) rfl ?_
      refine XS.iloadN X0.here hx rfl (hb hby at_18) rfl ?_
      refine XS.i2c X0.here hx rfl (hb hby at_19) rfl ?_
      show Steps p.tables e below (s₁.setTop (mkF m 20 #[sI_ qa, sI_ qb, sI_ qc, sI_ qk, sI_ (3 : Int32), sI_ (qa.toUInt32.toUInt16.toUInt32.toInt32), sU_, sU_, sU_, sU_, sU_] [(.int (qb.toUInt32.toUInt16.toUInt32.toInt32))])) t
      refine XS.istore X0.here hx rfl (hb hby at_20) rfl (l' := #[sI_ qa, sI_ qb, sI_ qc, sI_ qk, sI_ (3 : Int32), sI_ (qa.toUInt32.toUInt16.toUInt32.toInt32), sI_ (qb.toUInt32.toUInt16.toUInt32.toInt32), sU_, sU_, sU_, sU_]) rfl ?_
      refine XS.iloadN X0.here hx rfl (hb hby at_22) rfl ?_
      refine XS.i2c X0.here hx rfl (hb hby at_23) rfl ?_
      refine XS.istore X0.here hx rfl (hb hby at_24) rfl (l' := #[sI_ qa, sI_ qb, sI_ qc, sI_ qk, sI_ (3 : Int32), sI_ (qa.toUInt32.toUInt16.toUInt32.toInt32), sI_ (qb.toUInt32.toUInt16.toUInt32.toInt32), sI_ (qc.toUInt32.toUInt16.toUInt32.toInt32), sU_, sU_, sU_]) rfl ?_
      exact kt
    obtain ⟨T_79, h_79, X_79, e_79, E_79, A_79, D_79, -, st_79⟩ := newO X0 hx hZ hown (wdOf hw 0 rfl) (wdOf hw 1 rfl) (wdOf hw 2 rfl) e0 (g := (mkF m 26 #[sI_ qa, sI_ qb, sI_ qc, sI_ qk, sI_ (3 : Int32), sI_ (qa.toUInt32.toUInt16.toUInt32.toInt32), sI_ (qb.toUInt32.toUInt16.toUInt32.toInt32), sI_ (qc.toUInt32.toUInt16.toUInt32.toInt32), sU_, sU_, sU_] [])) rfl (hb hby at_26) (by decide) (by decide)
    obtain ⟨b_79, g_79⟩ : ∃ z, z = h0.size := ⟨_, rfl⟩
    rw [← g_79] at A_79 D_79 st_79
    have o_79 : n0 ≤ b_79 := Nat.le_trans Z0 (Nat.le_of_eq g_79.symm)
    have f_80 : Old Z n0 h_79 := O.ext E_79
    have f_81 : Fld Z h_79 b_79 "com/example/dead_letter_replay/deadletterreplay/page/Html" "html" "Ljava/lang/StringBuilder;" .null := D_79 (Or.inr (wdOf hw 30 rfl)) (ty := (.object "java/lang/StringBuilder")) (by decide)
    have y_82 : n0 ≤ h_79.size := Nat.le_trans (Nat.le_of_eq f_80.1.symm) f_80.2.1
    have hk_82 := Nat.le_trans hk0 E_79.1
    refine GoesW.go (U' := (T_79.setTop (mkF m 29 #[sI_ qa, sI_ qb, sI_ qc, sI_ qk, sI_ (3 : Int32), sI_ (qa.toUInt32.toUInt16.toUInt32.toInt32), sI_ (qb.toUInt32.toUInt16.toUInt32.toInt32), sI_ (qc.toUInt32.toUInt16.toUInt32.toInt32), sU_, sU_, sU_] [(.ref b_79)]))) st_79 ?_
    refine GoesW.go (U' := (T_79.setTop (mkF m 30 #[sI_ qa, sI_ qb, sI_ qc, sI_ qk, sI_ (3 : Int32), sI_ (qa.toUInt32.toUInt16.toUInt32.toInt32), sI_ (qb.toUInt32.toUInt16.toUInt32.toInt32), sI_ (qc.toUInt32.toUInt16.toUInt32.toInt32), sU_, sU_, sU_] [(.ref b_79), (.ref b_79)]))) (fun t kt => ?_) ?_
    · skip
      refine XS.dup X_79.here hx rfl (hb hby at_29) rfl rfl ?_
      exact kt
    obtain ⟨v_83, T_83, L_83, X_83, q_83, st_83⟩ := callInit X_79 hx hZ (y := (⟨"com/example/dead_letter_replay/deadletterreplay/page/Html", "<init>", "()V"⟩ : MethodName)) (W := 1) rfl hown (wdOf hw 3 rfl) (wdOf hw 4 rfl) (wdOf hw 2 rfl) (wdOf hw 5 rfl) (by decide) (rm_hi l Z a0 hw [] kc sx b_79 h_79 n0 y_82 G f_80 A_79 f_81 o_79) (by decide) (by decide) (by decide) (by decide) e_79 (b := b_79) (g := (mkF m 30 #[sI_ qa, sI_ qb, sI_ qc, sI_ qk, sI_ (3 : Int32), sI_ (qa.toUInt32.toUInt16.toUInt32.toInt32), sI_ (qb.toUInt32.toUInt16.toUInt32.toInt32), sI_ (qc.toUInt32.toUInt16.toUInt32.toInt32), sU_, sU_, sU_] [(.ref b_79), (.ref b_79)])) rfl (by rw [hml]; rfl) (argsL := []) (rest := [(.ref b_79)]) (lenOf pd_20 rfl) rfl rfl (Nat.le_refl _) (hb hby at_30)
    obtain ⟨ax_83, ba_83, rfl, n_83, K_83, oa_83, ob_83, Hb_83⟩ := q_83
    have N_83 := Fr.app N0 n_83
    have f_84 : Old Z n0 T_83.heap := f_80.keep K_83 (allS o_79 all0)
    have f_85 : Exa Z T_83.heap b_79 "com/example/dead_letter_replay/deadletterreplay/page/Html" := A_79.keep K_83
    have y_86 : n0 ≤ T_83.heap.size := Nat.le_trans (Nat.le_of_eq f_84.1.symm) f_84.2.1
    have hk_86 := Nat.le_trans hk_82 K_83.1
    refine GoesW.go (U' := (T_83.setTop (mkF m 33 #[sI_ qa, sI_ qb, sI_ qc, sI_ qk, sI_ (3 : Int32), sI_ (qa.toUInt32.toUInt16.toUInt32.toInt32), sI_ (qb.toUInt32.toUInt16.toUInt32.toInt32), sI_ (qc.toUInt32.toUInt16.toUInt32.toInt32), sU_, sU_, sU_] [(.ref b_79)]))) st_83 ?_
    refine GoesW.go (U' := (T_83.setTop (mkF m 45 #[sI_ qa, sI_ qb, sI_ qc, sI_ qk, sI_ (3 : Int32), sI_ (qa.toUInt32.toUInt16.toUInt32.toInt32), sI_ (qb.toUInt32.toUInt16.toUInt32.toInt32), sI_ (qc.toUInt32.toUInt16.toUInt32.toInt32), sR_ b_79, sU_, sU_] [(.int (qa.toUInt32.toUInt16.toUInt32.toInt32)), (.ref b_79)]))) (fun t kt => ?_) ?_
    · skip
      refine XS.astore X_83.here hx rfl (hb hby at_33) rfl rfl (l' := #[sI_ qa, sI_ qb, sI_ qc, sI_ qk, sI_ (3 : Int32), sI_ (qa.toUInt32.toUInt16.toUInt32.toInt32), sI_ (qb.toUInt32.toUInt16.toUInt32.toInt32), sI_ (qc.toUInt32.toUInt16.toUInt32.toInt32), sR_ b_79, sU_, sU_]) rfl ?_
      refine XS.iload X_83.here hx rfl (hb hby at_35) rfl ?_
      refine XS.iconst X_83.here hx rfl (hb hby at_37) ?_
      refine XS.icmpNo X_83.here hx rfl (hb hby at_38) rfl (XT.ii_lt_f (by decide)) ?_
      refine XS.aload X_83.here hx rfl (hb hby at_41) rfl rfl ?_
      refine XS.iload X_83.here hx rfl (hb hby at_43) rfl ?_
      exact kt
    obtain ⟨v_87, T_87, L_87, X_87, q_87, st_87⟩ := callStatic X_83 hx hZ (y := (⟨"java/lang/String", "valueOf", "(C)Ljava/lang/String;"⟩ : MethodName)) (W := 1) hown (wdOf hw 31 rfl) (wdOf hw 32 rfl) (wdOf hw 23 rfl) (wdOf hw 33 rfl) (by decide) (rm_sv l Z a0 hw [] kc sx (qa.toUInt32.toUInt16.toUInt32.toInt32) T_83.heap n0 y_86 G f_84 (Ch.i2c _)) (by decide) (by decide) (by decide) (by decide) (rfl : T_83.heap = T_83.heap) (g := (mkF m 45 #[sI_ qa, sI_ qb, sI_ qc, sI_ qk, sI_ (3 : Int32), sI_ (qa.toUInt32.toUInt16.toUInt32.toInt32), sI_ (qb.toUInt32.toUInt16.toUInt32.toInt32), sI_ (qc.toUInt32.toUInt16.toUInt32.toInt32), sR_ b_79, sU_, sU_] [(.int (qa.toUInt32.toUInt16.toUInt32.toInt32)), (.ref b_79)])) rfl (by rw [hml]; rfl) (argsL := [(.int (qa.toUInt32.toUInt16.toUInt32.toInt32))]) (rest := [(.ref b_79)]) (lenOf pd_33 rfl) rfl rfl (Nat.le_refl _) (hb hby at_45)
    obtain ⟨r_87, rb_87, rfl, n_87, K_87, z_87, S_87⟩ := q_87
    have N_87 := Fr.app N_83 n_87
    have f_88 : Old Z n0 T_87.heap := f_84.ext K_87
    have f_89 : Exa Z T_87.heap b_79 "com/example/dead_letter_replay/deadletterreplay/page/Html" := f_85.ext K_87
    have f_90 : Hob Z T_87.heap b_79 ax_83 ba_83 (0 : Int32) [] := Hb_83.ext K_87
    have y_91 : n0 ≤ T_87.heap.size := Nat.le_trans (Nat.le_of_eq f_88.1.symm) f_88.2.1
    have hk_91 := Nat.le_trans hk_86 K_87.1
    refine GoesW.go (U' := (T_87.setTop (mkF m 48 #[sI_ qa, sI_ qb, sI_ qc, sI_ qk, sI_ (3 : Int32), sI_ (qa.toUInt32.toUInt16.toUInt32.toInt32), sI_ (qb.toUInt32.toUInt16.toUInt32.toInt32), sI_ (qc.toUInt32.toUInt16.toUInt32.toInt32), sR_ b_79, sU_, sU_] [(.ref r_87), (.ref b_79)]))) st_87 ?_
    have nb_87 : rb_87 ≠ ba_83 := Nat.ne_of_gt (Nat.lt_of_lt_of_le Hb_83.lt z_87)
    obtain ⟨v_92, T_92, L_92, X_92, q_92, st_92⟩ := callVirtual X_87 hx hZ (y := (⟨"com/example/dead_letter_replay/deadletterreplay/page/Html", "raw", "(Ljava/lang/String;)Lcom/example/dead_letter_replay/deadletterreplay/page/Html;"⟩ : MethodName)) (z := (⟨"com/example/dead_letter_replay/deadletterreplay/page/Html", "raw", "(Ljava/lang/String;)Lcom/example/dead_letter_replay/deadletterreplay/page/Html;"⟩ : MethodName)) (W := 0) hown (wdOf hw 53 rfl) (wdOf hw 54 rfl) (notFace_of_selects (args := #[]) (mvT hZ (wdOf hw 56 rfl))) (wdOf hw 56 rfl) (wdOf hw 55 rfl) (wdOf hw 2 rfl) (wdOf hw 57 rfl) (by decide) (rm_raw l Z a0 hw [] kc sx b_79 ax_83 ba_83 r_87 rb_87 (0 : Int32) (qa.toUInt32.toUInt16.toUInt32.toInt32) [] T_87.heap n0 y_91 G f_88 f_90 S_87 oa_83 ob_83 nb_87 (by simp)) (by decide) (by decide) (by decide) (by decide) (rfl : T_87.heap = T_87.heap) f_89 (g := (mkF m 48 #[sI_ qa, sI_ qb, sI_ qc, sI_ qk, sI_ (3 : Int32), sI_ (qa.toUInt32.toUInt16.toUInt32.toInt32), sI_ (qb.toUInt32.toUInt16.toUInt32.toInt32), sI_ (qc.toUInt32.toUInt16.toUInt32.toInt32), sR_ b_79, sU_, sU_] [(.ref r_87), (.ref b_79)])) rfl (by rw [hml]; rfl) (argsL := [(.ref r_87)]) (rest := []) (lenOf pd_34 rfl) rfl rfl (Nat.le_refl _) (hb hby at_48)
    obtain ⟨b_92, rfl, n_92, K_92, o_92, Hb_92⟩ := q_92
    have N_92 := Fr.app N_87 n_92
    have f_93 : Old Z n0 T_92.heap := f_88.keep K_92 (allS oa_83 (allS ob_83 all0))
    have f_94 : Exa Z T_92.heap b_79 "com/example/dead_letter_replay/deadletterreplay/page/Html" := f_89.keep K_92
    have y_95 : n0 ≤ T_92.heap.size := Nat.le_trans (Nat.le_of_eq f_93.1.symm) f_93.2.1
    have hk_95 := Nat.le_trans hk_91 K_92.1
    refine GoesW.go (U' := (T_92.setTop (mkF m 51 #[sI_ qa, sI_ qb, sI_ qc, sI_ qk, sI_ (3 : Int32), sI_ (qa.toUInt32.toUInt16.toUInt32.toInt32), sI_ (qb.toUInt32.toUInt16.toUInt32.toInt32), sI_ (qc.toUInt32.toUInt16.toUInt32.toInt32), sR_ b_79, sU_, sU_] [(.ref b_79)]))) st_92 ?_
    refine GoesW.go (U' := (T_92.setTop (mkF m 62 #[sI_ qa, sI_ qb, sI_ qc, sI_ qk, sI_ (3 : Int32), sI_ (qa.toUInt32.toUInt16.toUInt32.toInt32), sI_ (qb.toUInt32.toUInt16.toUInt32.toInt32), sI_ (qc.toUInt32.toUInt16.toUInt32.toInt32), sR_ b_79, sU_, sU_] [(.int (qb.toUInt32.toUInt16.toUInt32.toInt32)), (.ref b_79)]))) (fun t kt => ?_) ?_
    · skip
      refine XS.pop X_92.here hx rfl (hb hby at_51) rfl rfl ?_
      refine XS.iload X_92.here hx rfl (hb hby at_52) rfl ?_
      refine XS.iconst X_92.here hx rfl (hb hby at_54) ?_
      refine XS.icmpNo X_92.here hx rfl (hb hby at_55) rfl (XT.ii_lt_f (by decide)) ?_
      refine XS.aload X_92.here hx rfl (hb hby at_58) rfl rfl ?_
      refine XS.iload X_92.here hx rfl (hb hby at_60) rfl ?_
      exact kt
    obtain ⟨v_96, T_96, L_96, X_96, q_96, st_96⟩ := callStatic X_92 hx hZ (y := (⟨"java/lang/String", "valueOf", "(C)Ljava/lang/String;"⟩ : MethodName)) (W := 1) hown (wdOf hw 31 rfl) (wdOf hw 32 rfl) (wdOf hw 23 rfl) (wdOf hw 33 rfl) (by decide) (rm_sv l Z a0 hw [] kc sx (qb.toUInt32.toUInt16.toUInt32.toInt32) T_92.heap n0 y_95 G f_93 (Ch.i2c _)) (by decide) (by decide) (by decide) (by decide) (rfl : T_92.heap = T_92.heap) (g := (mkF m 62 #[sI_ qa, sI_ qb, sI_ qc, sI_ qk, sI_ (3 : Int32), sI_ (qa.toUInt32.toUInt16.toUInt32.toInt32), sI_ (qb.toUInt32.toUInt16.toUInt32.toInt32), sI_ (qc.toUInt32.toUInt16.toUInt32.toInt32), sR_ b_79, sU_, sU_] [(.int (qb.toUInt32.toUInt16.toUInt32.toInt32)), (.ref b_79)])) rfl (by rw [hml]; rfl) (argsL := [(.int (qb.toUInt32.toUInt16.toUInt32.toInt32))]) (rest := [(.ref b_79)]) (lenOf pd_33 rfl) rfl rfl (Nat.le_refl _) (hb hby at_62)
    obtain ⟨r_96, rb_96, rfl, n_96, K_96, z_96, S_96⟩ := q_96
    have N_96 := Fr.app N_92 n_96
    have f_97 : Old Z n0 T_96.heap := f_93.ext K_96
    have f_98 : Exa Z T_96.heap b_79 "com/example/dead_letter_replay/deadletterreplay/page/Html" := f_94.ext K_96
    have f_99 : Hob Z T_96.heap b_79 ax_83 b_92 ((0 : Int32) + (1 : Int32)) ([] ++ [(qa.toUInt32.toUInt16.toUInt32.toInt32)]) := Hb_92.ext K_96
    have y_100 : n0 ≤ T_96.heap.size := Nat.le_trans (Nat.le_of_eq f_97.1.symm) f_97.2.1
    have hk_100 := Nat.le_trans hk_95 K_96.1
    refine GoesW.go (U' := (T_96.setTop (mkF m 65 #[sI_ qa, sI_ qb, sI_ qc, sI_ qk, sI_ (3 : Int32), sI_ (qa.toUInt32.toUInt16.toUInt32.toInt32), sI_ (qb.toUInt32.toUInt16.toUInt32.toInt32), sI_ (qc.toUInt32.toUInt16.toUInt32.toInt32), sR_ b_79, sU_, sU_] [(.ref r_96), (.ref b_79)]))) st_96 ?_
    have nb_96 : rb_96 ≠ b_92 := Nat.ne_of_gt (Nat.lt_of_lt_of_le Hb_92.lt z_96)
    obtain ⟨v_101, T_101, L_101, X_101, q_101, st_101⟩ := callVirtual X_96 hx hZ (y := (⟨"com/example/dead_letter_replay/deadletterreplay/page/Html", "raw", "(Ljava/lang/String;)Lcom/example/dead_letter_replay/deadletterreplay/page/Html;"⟩ : MethodName)) (z := (⟨"com/example/dead_letter_replay/deadletterreplay/page/Html", "raw", "(Ljava/lang/String;)Lcom/example/dead_letter_replay/deadletterreplay/page/Html;"⟩ : MethodName)) (W := 0) hown (wdOf hw 53 rfl) (wdOf hw 54 rfl) (notFace_of_selects (args := #[]) (mvT hZ (wdOf hw 56 rfl))) (wdOf hw 56 rfl) (wdOf hw 55 rfl) (wdOf hw 2 rfl) (wdOf hw 57 rfl) (by decide) (rm_raw l Z a0 hw [] kc sx b_79 ax_83 b_92 r_96 rb_96 ((0 : Int32) + (1 : Int32)) (qb.toUInt32.toUInt16.toUInt32.toInt32) ([] ++ [(qa.toUInt32.toUInt16.toUInt32.toInt32)]) T_96.heap n0 y_100 G f_97 f_99 S_96 oa_83 o_92 nb_96 (by simp)) (by decide) (by decide) (by decide) (by decide) (rfl : T_96.heap = T_96.heap) f_98 (g := (mkF m 65 #[sI_ qa, sI_ qb, sI_ qc, sI_ qk, sI_ (3 : Int32), sI_ (qa.toUInt32.toUInt16.toUInt32.toInt32), sI_ (qb.toUInt32.toUInt16.toUInt32.toInt32), sI_ (qc.toUInt32.toUInt16.toUInt32.toInt32), sR_ b_79, sU_, sU_] [(.ref r_96), (.ref b_79)])) rfl (by rw [hml]; rfl) (argsL := [(.ref r_96)]) (rest := []) (lenOf pd_34 rfl) rfl rfl (Nat.le_refl _) (hb hby at_65)
    obtain ⟨b_101, rfl, n_101, K_101, o_101, Hb_101⟩ := q_101
    have N_101 := Fr.app N_96 n_101
    have f_102 : Old Z n0 T_101.heap := f_97.keep K_101 (allS oa_83 (allS o_92 all0))
    have f_103 : Exa Z T_101.heap b_79 "com/example/dead_letter_replay/deadletterreplay/page/Html" := f_98.keep K_101
    have y_104 : n0 ≤ T_101.heap.size := Nat.le_trans (Nat.le_of_eq f_102.1.symm) f_102.2.1
    have hk_104 := Nat.le_trans hk_100 K_101.1
    refine GoesW.go (U' := (T_101.setTop (mkF m 68 #[sI_ qa, sI_ qb, sI_ qc, sI_ qk, sI_ (3 : Int32), sI_ (qa.toUInt32.toUInt16.toUInt32.toInt32), sI_ (qb.toUInt32.toUInt16.toUInt32.toInt32), sI_ (qc.toUInt32.toUInt16.toUInt32.toInt32), sR_ b_79, sU_, sU_] [(.ref b_79)]))) st_101 ?_
    refine GoesW.go (U' := (T_101.setTop (mkF m 79 #[sI_ qa, sI_ qb, sI_ qc, sI_ qk, sI_ (3 : Int32), sI_ (qa.toUInt32.toUInt16.toUInt32.toInt32), sI_ (qb.toUInt32.toUInt16.toUInt32.toInt32), sI_ (qc.toUInt32.toUInt16.toUInt32.toInt32), sR_ b_79, sU_, sU_] [(.int (qc.toUInt32.toUInt16.toUInt32.toInt32)), (.ref b_79)]))) (fun t kt => ?_) ?_
    · skip
      refine XS.pop X_101.here hx rfl (hb hby at_68) rfl rfl ?_
      refine XS.iload X_101.here hx rfl (hb hby at_69) rfl ?_
      refine XS.iconst X_101.here hx rfl (hb hby at_71) ?_
      refine XS.icmpNo X_101.here hx rfl (hb hby at_72) rfl (XT.ii_lt_f (by decide)) ?_
      refine XS.aload X_101.here hx rfl (hb hby at_75) rfl rfl ?_
      refine XS.iload X_101.here hx rfl (hb hby at_77) rfl ?_
      exact kt
    obtain ⟨v_105, T_105, L_105, X_105, q_105, st_105⟩ := callStatic X_101 hx hZ (y := (⟨"java/lang/String", "valueOf", "(C)Ljava/lang/String;"⟩ : MethodName)) (W := 1) hown (wdOf hw 31 rfl) (wdOf hw 32 rfl) (wdOf hw 23 rfl) (wdOf hw 33 rfl) (by decide) (rm_sv l Z a0 hw [] kc sx (qc.toUInt32.toUInt16.toUInt32.toInt32) T_101.heap n0 y_104 G f_102 (Ch.i2c _)) (by decide) (by decide) (by decide) (by decide) (rfl : T_101.heap = T_101.heap) (g := (mkF m 79 #[sI_ qa, sI_ qb, sI_ qc, sI_ qk, sI_ (3 : Int32), sI_ (qa.toUInt32.toUInt16.toUInt32.toInt32), sI_ (qb.toUInt32.toUInt16.toUInt32.toInt32), sI_ (qc.toUInt32.toUInt16.toUInt32.toInt32), sR_ b_79, sU_, sU_] [(.int (qc.toUInt32.toUInt16.toUInt32.toInt32)), (.ref b_79)])) rfl (by rw [hml]; rfl) (argsL := [(.int (qc.toUInt32.toUInt16.toUInt32.toInt32))]) (rest := [(.ref b_79)]) (lenOf pd_33 rfl) rfl rfl (Nat.le_refl _) (hb hby at_79)
    obtain ⟨r_105, rb_105, rfl, n_105, K_105, z_105, S_105⟩ := q_105
    have N_105 := Fr.app N_101 n_105
    have f_106 : Old Z n0 T_105.heap := f_102.ext K_105
    have f_107 : Exa Z T_105.heap b_79 "com/example/dead_letter_replay/deadletterreplay/page/Html" := f_103.ext K_105
    have f_108 : Hob Z T_105.heap b_79 ax_83 b_101 (((0 : Int32) + (1 : Int32)) + (1 : Int32)) (([] ++ [(qa.toUInt32.toUInt16.toUInt32.toInt32)]) ++ [(qb.toUInt32.toUInt16.toUInt32.toInt32)]) := Hb_101.ext K_105
    have y_109 : n0 ≤ T_105.heap.size := Nat.le_trans (Nat.le_of_eq f_106.1.symm) f_106.2.1
    have hk_109 := Nat.le_trans hk_104 K_105.1
    refine GoesW.go (U' := (T_105.setTop (mkF m 82 #[sI_ qa, sI_ qb, sI_ qc, sI_ qk, sI_ (3 : Int32), sI_ (qa.toUInt32.toUInt16.toUInt32.toInt32), sI_ (qb.toUInt32.toUInt16.toUInt32.toInt32), sI_ (qc.toUInt32.toUInt16.toUInt32.toInt32), sR_ b_79, sU_, sU_] [(.ref r_105), (.ref b_79)]))) st_105 ?_
    have nb_105 : rb_105 ≠ b_101 := Nat.ne_of_gt (Nat.lt_of_lt_of_le Hb_101.lt z_105)
    obtain ⟨v_110, T_110, L_110, X_110, q_110, st_110⟩ := callVirtual X_105 hx hZ (y := (⟨"com/example/dead_letter_replay/deadletterreplay/page/Html", "raw", "(Ljava/lang/String;)Lcom/example/dead_letter_replay/deadletterreplay/page/Html;"⟩ : MethodName)) (z := (⟨"com/example/dead_letter_replay/deadletterreplay/page/Html", "raw", "(Ljava/lang/String;)Lcom/example/dead_letter_replay/deadletterreplay/page/Html;"⟩ : MethodName)) (W := 0) hown (wdOf hw 53 rfl) (wdOf hw 54 rfl) (notFace_of_selects (args := #[]) (mvT hZ (wdOf hw 56 rfl))) (wdOf hw 56 rfl) (wdOf hw 55 rfl) (wdOf hw 2 rfl) (wdOf hw 57 rfl) (by decide) (rm_raw l Z a0 hw [] kc sx b_79 ax_83 b_101 r_105 rb_105 (((0 : Int32) + (1 : Int32)) + (1 : Int32)) (qc.toUInt32.toUInt16.toUInt32.toInt32) (([] ++ [(qa.toUInt32.toUInt16.toUInt32.toInt32)]) ++ [(qb.toUInt32.toUInt16.toUInt32.toInt32)]) T_105.heap n0 y_109 G f_106 f_108 S_105 oa_83 o_101 nb_105 (by simp)) (by decide) (by decide) (by decide) (by decide) (rfl : T_105.heap = T_105.heap) f_107 (g := (mkF m 82 #[sI_ qa, sI_ qb, sI_ qc, sI_ qk, sI_ (3 : Int32), sI_ (qa.toUInt32.toUInt16.toUInt32.toInt32), sI_ (qb.toUInt32.toUInt16.toUInt32.toInt32), sI_ (qc.toUInt32.toUInt16.toUInt32.toInt32), sR_ b_79, sU_, sU_] [(.ref r_105), (.ref b_79)])) rfl (by rw [hml]; rfl) (argsL := [(.ref r_105)]) (rest := []) (lenOf pd_34 rfl) rfl rfl (Nat.le_refl _) (hb hby at_82)
    obtain ⟨b_110, rfl, n_110, K_110, o_110, Hb_110⟩ := q_110
    have N_110 := Fr.app N_105 n_110
    have f_111 : Old Z n0 T_110.heap := f_106.keep K_110 (allS oa_83 (allS o_101 all0))
    have f_112 : Exa Z T_110.heap b_79 "com/example/dead_letter_replay/deadletterreplay/page/Html" := f_107.keep K_110
    have y_113 : n0 ≤ T_110.heap.size := Nat.le_trans (Nat.le_of_eq f_111.1.symm) f_111.2.1
    have hk_113 := Nat.le_trans hk_109 K_110.1
    refine GoesW.go (U' := (T_110.setTop (mkF m 85 #[sI_ qa, sI_ qb, sI_ qc, sI_ qk, sI_ (3 : Int32), sI_ (qa.toUInt32.toUInt16.toUInt32.toInt32), sI_ (qb.toUInt32.toUInt16.toUInt32.toInt32), sI_ (qc.toUInt32.toUInt16.toUInt32.toInt32), sR_ b_79, sU_, sU_] [(.ref b_79)]))) st_110 ?_
    refine GoesW.go (U' := (T_110.setTop (mkF m 88 #[sI_ qa, sI_ qb, sI_ qc, sI_ qk, sI_ (3 : Int32), sI_ (qa.toUInt32.toUInt16.toUInt32.toInt32), sI_ (qb.toUInt32.toUInt16.toUInt32.toInt32), sI_ (qc.toUInt32.toUInt16.toUInt32.toInt32), sR_ b_79, sU_, sU_] [(.ref b_79)]))) (fun t kt => ?_) ?_
    · skip
      refine XS.pop X_110.here hx rfl (hb hby at_85) rfl rfl ?_
      refine XS.aload X_110.here hx rfl (hb hby at_86) rfl rfl ?_
      exact kt
    obtain ⟨v_114, T_114, V_114, L_114, X_114, ve_114, vv_114, q_114, hS_114, hZ, hown, st_114⟩ := callVirtualW X_110 hx hZ (y := (⟨"com/example/dead_letter_replay/deadletterreplay/page/Html", "end", "()Ljava/lang/String;"⟩ : MethodName)) (z := (⟨"com/example/dead_letter_replay/deadletterreplay/page/Html", "end", "()Ljava/lang/String;"⟩ : MethodName)) (W := 0) hown (wdOf hw 105 rfl) (wdOf hw 106 rfl) (notFace_of_selects (args := #[]) (mvT hZ (wdOf hw 108 rfl))) (wdOf hw 108 rfl) (wdOf hw 107 rfl) (wdOf hw 2 rfl) (wdOf hw 109 rfl) (by decide) (rm_end l Z a0 hw [] kc sx b_79 ax_83 b_110 ((((0 : Int32) + (1 : Int32)) + (1 : Int32)) + (1 : Int32)) ((([] ++ [(qa.toUInt32.toUInt16.toUInt32.toInt32)]) ++ [(qb.toUInt32.toUInt16.toUInt32.toInt32)]) ++ [(qc.toUInt32.toUInt16.toUInt32.toInt32)]) T_110.heap n0 y_113 G f_111 Hb_110 oa_83 o_110 (by simp)) (by decide) (by decide) (by decide) (by decide) (rfl : T_110.heap = T_110.heap) (fun _ y => LIv.warm hZ (own_ew hw) Hc0 y) hS hk_113 f_112 (g := (mkF m 88 #[sI_ qa, sI_ qb, sI_ qc, sI_ qk, sI_ (3 : Int32), sI_ (qa.toUInt32.toUInt16.toUInt32.toInt32), sI_ (qb.toUInt32.toUInt16.toUInt32.toInt32), sI_ (qc.toUInt32.toUInt16.toUInt32.toInt32), sR_ b_79, sU_, sU_] [(.ref b_79)])) rfl (by rw [hml]; rfl) (argsL := []) (rest := []) (lenOf pd_32 rfl) rfl rfl (Nat.le_refl _) (hb hby at_88)
    rw [ve_114, vv_114] at q_114
    obtain ⟨r_114, rb_114, rfl, n_114, K_114, LI_114, S_114⟩ := q_114
    have N_114 := Fr.app N_110 n_114
    have f_115 : Old Z n0 T_114.heap := f_111.keep K_114 (allS oa_83 all0)
    have y_116 : n0 ≤ T_114.heap.size := Nat.le_trans (Nat.le_of_eq f_115.1.symm) f_115.2.1
    have hk_116 := Nat.le_trans hk_113 K_114.1
    refine GoesW.go (U' := (T_114.setTop (mkF m 91 #[sI_ qa, sI_ qb, sI_ qc, sI_ qk, sI_ (3 : Int32), sI_ (qa.toUInt32.toUInt16.toUInt32.toInt32), sI_ (qb.toUInt32.toUInt16.toUInt32.toInt32), sI_ (qc.toUInt32.toUInt16.toUInt32.toInt32), sR_ b_79, sU_, sU_] [(.ref r_114)]))) st_114 ?_
    refine GoesW.go (U' := (T_114.setTop (mkF m 93 #[sI_ qa, sI_ qb, sI_ qc, sI_ qk, sI_ (3 : Int32), sI_ (qa.toUInt32.toUInt16.toUInt32.toInt32), sI_ (qb.toUInt32.toUInt16.toUInt32.toInt32), sI_ (qc.toUInt32.toUInt16.toUInt32.toInt32), sR_ b_79, sR_ r_114, sU_] []))) (fun t kt => ?_) ?_
    · skip
      refine XS.astore X_114.here hx rfl (hb hby at_91) rfl rfl (l' := #[sI_ qa, sI_ qb, sI_ qc, sI_ qk, sI_ (3 : Int32), sI_ (qa.toUInt32.toUInt16.toUInt32.toInt32), sI_ (qb.toUInt32.toUInt16.toUInt32.toInt32), sI_ (qc.toUInt32.toUInt16.toUInt32.toInt32), sR_ b_79, sR_ r_114, sU_]) rfl ?_
      exact kt
    obtain ⟨lau, T_117, h_117, k_117, lbu, klu, X_117, e_117, E_117, hS_117, hk_117, hZ, hown, Elu, Glu, Flu, Vlu, -, -, CRu, -, NNu, st_117⟩ := ldcCH X_114 hx hZ hown (wdOf hw 175 rfl) (own_sa hw) (rfl : T_114.heap = T_114.heap) hS_114 (Nat.le_refl _) (own_ew hw) (List.mem_of_getElem? (i := 1) rfl) LI_114 (vs := L1 TXT) (z := (24 : Int32)) own_txt (by decide) (by decide) (g := (mkF m 93 #[sI_ qa, sI_ qb, sI_ qc, sI_ qk, sI_ (3 : Int32), sI_ (qa.toUInt32.toUInt16.toUInt32.toInt32), sI_ (qb.toUInt32.toUInt16.toUInt32.toInt32), sI_ (qc.toUInt32.toUInt16.toUInt32.toInt32), sR_ b_79, sR_ r_114, sU_] [])) rfl (hb hby at_93) (n := 96) (by decide) (by decide) (by decide) (by decide)
    have f_118 : Old Z n0 h_117 := f_115.ext E_117
    have f_119 : Str Z h_117 r_114 rb_114 (((((0 : Int32) + (1 : Int32)) + (1 : Int32)) + (1 : Int32)) + (24 : Int32)) (((([] ++ [(qa.toUInt32.toUInt16.toUInt32.toInt32)]) ++ [(qb.toUInt32.toUInt16.toUInt32.toInt32)]) ++ [(qc.toUInt32.toUInt16.toUInt32.toInt32)]) ++ TXT) := S_114.ext E_117
    have y_120 : n0 ≤ h_117.size := Nat.le_trans (Nat.le_of_eq f_118.1.symm) f_118.2.1
    have hk_120 := Nat.le_trans (Nat.le_refl _) E_117.1
    refine GoesW.go (U' := (T_117.setTop (mkF m 95 #[sI_ qa, sI_ qb, sI_ qc, sI_ qk, sI_ (3 : Int32), sI_ (qa.toUInt32.toUInt16.toUInt32.toInt32), sI_ (qb.toUInt32.toUInt16.toUInt32.toInt32), sI_ (qc.toUInt32.toUInt16.toUInt32.toInt32), sR_ b_79, sR_ r_114, sU_] [(.ref lau)]))) st_117 ?_
    have S2 : Str Z h_117 lau lbu (24 : Int32) TXT := ⟨⟨rfl, by first | decide | simp⟩, Or.inl ⟨⟨_, Elu, Flu, Glu, Vlu⟩, own_lc⟩⟩
    refine GoesW.go (U' := (T_117.setTop (mkF m 99 #[sI_ qa, sI_ qb, sI_ qc, sI_ qk, sI_ (3 : Int32), sI_ (qa.toUInt32.toUInt16.toUInt32.toInt32), sI_ (qb.toUInt32.toUInt16.toUInt32.toInt32), sI_ (qc.toUInt32.toUInt16.toUInt32.toInt32), sR_ b_79, sR_ r_114, sR_ lau] [(.ref r_114)]))) (fun t kt => ?_) ?_
    · skip
      refine XS.astore X_117.here hx rfl (hb hby at_95) rfl rfl (l' := #[sI_ qa, sI_ qb, sI_ qc, sI_ qk, sI_ (3 : Int32), sI_ (qa.toUInt32.toUInt16.toUInt32.toInt32), sI_ (qb.toUInt32.toUInt16.toUInt32.toInt32), sI_ (qc.toUInt32.toUInt16.toUInt32.toInt32), sR_ b_79, sR_ r_114, sR_ lau]) rfl ?_
      refine XS.aload X_117.here hx rfl (hb hby at_97) rfl rfl ?_
      exact kt
    obtain ⟨v_121, T_121, L_121, X_121, q_121, st_121⟩ := callVirtual X_117 hx hZ (y := (⟨"java/lang/String", "length", "()I"⟩ : MethodName)) (z := (⟨"java/lang/String", "length", "()I"⟩ : MethodName)) (W := 0) hown (wdOf hw 176 rfl) (wdOf hw 69 rfl) (notFace_of_selects (args := #[]) (mvT hZ (wdOf hw 71 rfl))) (wdOf hw 71 rfl) (wdOf hw 70 rfl) (wdOf hw 23 rfl) (wdOf hw 72 rfl) (by decide) (rm_ln l Z a0 hw [] kc sx r_114 rb_114 (((((0 : Int32) + (1 : Int32)) + (1 : Int32)) + (1 : Int32)) + (24 : Int32)) (((([] ++ [(qa.toUInt32.toUInt16.toUInt32.toInt32)]) ++ [(qb.toUInt32.toUInt16.toUInt32.toInt32)]) ++ [(qc.toUInt32.toUInt16.toUInt32.toInt32)]) ++ TXT) h_117 n0 y_120 G f_118 f_119) (by decide) (by decide) (by decide) (by decide) e_117 f_119.exa (g := (mkF m 99 #[sI_ qa, sI_ qb, sI_ qc, sI_ qk, sI_ (3 : Int32), sI_ (qa.toUInt32.toUInt16.toUInt32.toInt32), sI_ (qb.toUInt32.toUInt16.toUInt32.toInt32), sI_ (qc.toUInt32.toUInt16.toUInt32.toInt32), sR_ b_79, sR_ r_114, sR_ lau] [(.ref r_114)])) rfl (by rw [hml]; rfl) (argsL := []) (rest := []) (lenOf pd_24 rfl) rfl rfl (Nat.le_refl _) (hb hby at_99)
    obtain ⟨rfl, n_121, K_121⟩ := q_121
    have N_121 := Fr.app N_114 n_121
    refine GoesW.go (U' := (T_121.setTop (mkF m 102 #[sI_ qa, sI_ qb, sI_ qc, sI_ qk, sI_ (3 : Int32), sI_ (qa.toUInt32.toUInt16.toUInt32.toInt32), sI_ (qb.toUInt32.toUInt16.toUInt32.toInt32), sI_ (qc.toUInt32.toUInt16.toUInt32.toInt32), sR_ b_79, sR_ r_114, sR_ lau] [(.int (((((0 : Int32) + (1 : Int32)) + (1 : Int32)) + (1 : Int32)) + (24 : Int32)))]))) st_121 ?_
    refine GoesW.go (U' := (T_121.setTop (mkF m 121 #[sI_ qa, sI_ qb, sI_ qc, sI_ qk, sI_ (3 : Int32), sI_ (qa.toUInt32.toUInt16.toUInt32.toInt32), sI_ (qb.toUInt32.toUInt16.toUInt32.toInt32), sI_ (qc.toUInt32.toUInt16.toUInt32.toInt32), sR_ b_79, sR_ r_114, sR_ lau] [(.int (0 : Int32)), (.ref r_114)]))) (fun t kt => ?_) ?_
    · skip
      refine XS.iload X_121.here hx rfl (hb hby at_102) rfl ?_
      refine XS.bipush X_121.here hx rfl (hb hby at_104) ?_
      refine XS.iadd X_121.here hx rfl (hb hby at_106) rfl ?_
      refine XS.icmpYes X_121.here hx rfl (pc0 := 107) (pc' := 112) rfl (hb hby at_107) rfl (XT.ii_eq_t (by decide)) (by decide) (by decide) ?_
      refine XS.iload X_121.here hx rfl (hb hby at_112) rfl ?_
      refine XS.iconst X_121.here hx rfl (hb hby at_114) ?_
      refine XS.icmpNo X_121.here hx rfl (hb hby at_115) rfl (XT.ii_lt_f (by decide)) ?_
      refine XS.aload X_121.here hx rfl (hb hby at_118) rfl rfl ?_
      show Steps p.tables e below (T_121.setTop (mkF m 120 #[sI_ qa, sI_ qb, sI_ qc, sI_ qk, sI_ (3 : Int32), sI_ (qa.toUInt32.toUInt16.toUInt32.toInt32), sI_ (qb.toUInt32.toUInt16.toUInt32.toInt32), sI_ (qc.toUInt32.toUInt16.toUInt32.toInt32), sR_ b_79, sR_ r_114, sR_ lau] [(.ref r_114)])) t
      refine XS.iconst X_121.here hx rfl (hb hby at_120) ?_
      exact kt
    obtain ⟨v_122, T_122, L_122, X_122, q_122, st_122⟩ := callVirtual X_121 hx hZ (y := (⟨"java/lang/String", "charAt", "(I)C"⟩ : MethodName)) (z := (⟨"java/lang/String", "charAt", "(I)C"⟩ : MethodName)) (W := 0) hown (wdOf hw 177 rfl) (wdOf hw 178 rfl) (notFace_of_selects (args := #[]) (mvT hZ (wdOf hw 180 rfl))) (wdOf hw 180 rfl) (wdOf hw 179 rfl) (wdOf hw 23 rfl) (wdOf hw 181 rfl) (by decide) (rm_ca l Z a0 hw [] kc sx r_114 rb_114 (0 : Int32) (((((0 : Int32) + (1 : Int32)) + (1 : Int32)) + (1 : Int32)) + (24 : Int32)) (qa.toUInt32.toUInt16.toUInt32.toInt32) (((([] ++ [(qa.toUInt32.toUInt16.toUInt32.toInt32)]) ++ [(qb.toUInt32.toUInt16.toUInt32.toInt32)]) ++ [(qc.toUInt32.toUInt16.toUInt32.toInt32)]) ++ TXT) 0 h_117 n0 y_120 G f_118 f_119 ⟨rfl, by first | decide | simp⟩ rfl) (by decide) (by decide) (by decide) (by decide) K_121 f_119.exa (g := (mkF m 121 #[sI_ qa, sI_ qb, sI_ qc, sI_ qk, sI_ (3 : Int32), sI_ (qa.toUInt32.toUInt16.toUInt32.toInt32), sI_ (qb.toUInt32.toUInt16.toUInt32.toInt32), sI_ (qc.toUInt32.toUInt16.toUInt32.toInt32), sR_ b_79, sR_ r_114, sR_ lau] [(.int (0 : Int32)), (.ref r_114)])) rfl (by rw [hml]; rfl) (argsL := [(.int (0 : Int32))]) (rest := []) (lenOf pd_18 rfl) rfl rfl (Nat.le_refl _) (hb hby at_121)
    obtain ⟨rfl, n_122, K_122⟩ := q_122
    have N_122 := Fr.app N_121 n_122
    refine GoesW.go (U' := (T_122.setTop (mkF m 124 #[sI_ qa, sI_ qb, sI_ qc, sI_ qk, sI_ (3 : Int32), sI_ (qa.toUInt32.toUInt16.toUInt32.toInt32), sI_ (qb.toUInt32.toUInt16.toUInt32.toInt32), sI_ (qc.toUInt32.toUInt16.toUInt32.toInt32), sR_ b_79, sR_ r_114, sR_ lau] [(.int (qa.toUInt32.toUInt16.toUInt32.toInt32))]))) st_122 ?_
    refine GoesW.go (U' := (T_122.setTop (mkF m 140 #[sI_ qa, sI_ qb, sI_ qc, sI_ qk, sI_ (3 : Int32), sI_ (qa.toUInt32.toUInt16.toUInt32.toInt32), sI_ (qb.toUInt32.toUInt16.toUInt32.toInt32), sI_ (qc.toUInt32.toUInt16.toUInt32.toInt32), sR_ b_79, sR_ r_114, sR_ lau] [(.int (1 : Int32)), (.ref r_114)]))) (fun t kt => ?_) ?_
    · skip
      refine XS.iload X_122.here hx rfl (hb hby at_124) rfl ?_
      refine XS.icmpYes X_122.here hx rfl (pc0 := 126) (pc' := 131) rfl (hb hby at_126) rfl (XT.ii_eq_t rfl) (by decide) (by decide) ?_
      refine XS.iload X_122.here hx rfl (hb hby at_131) rfl ?_
      refine XS.iconst X_122.here hx rfl (hb hby at_133) ?_
      refine XS.icmpNo X_122.here hx rfl (hb hby at_134) rfl (XT.ii_lt_f (by decide)) ?_
      refine XS.aload X_122.here hx rfl (hb hby at_137) rfl rfl ?_
      refine XS.iconst X_122.here hx rfl (hb hby at_139) ?_
      exact kt
    obtain ⟨v_123, T_123, L_123, X_123, q_123, st_123⟩ := callVirtual X_122 hx hZ (y := (⟨"java/lang/String", "charAt", "(I)C"⟩ : MethodName)) (z := (⟨"java/lang/String", "charAt", "(I)C"⟩ : MethodName)) (W := 0) hown (wdOf hw 177 rfl) (wdOf hw 178 rfl) (notFace_of_selects (args := #[]) (mvT hZ (wdOf hw 180 rfl))) (wdOf hw 180 rfl) (wdOf hw 179 rfl) (wdOf hw 23 rfl) (wdOf hw 181 rfl) (by decide) (rm_ca l Z a0 hw [] kc sx r_114 rb_114 (1 : Int32) (((((0 : Int32) + (1 : Int32)) + (1 : Int32)) + (1 : Int32)) + (24 : Int32)) (qb.toUInt32.toUInt16.toUInt32.toInt32) (((([] ++ [(qa.toUInt32.toUInt16.toUInt32.toInt32)]) ++ [(qb.toUInt32.toUInt16.toUInt32.toInt32)]) ++ [(qc.toUInt32.toUInt16.toUInt32.toInt32)]) ++ TXT) 1 h_117 n0 y_120 G f_118 f_119 ⟨rfl, by first | decide | simp⟩ rfl) (by decide) (by decide) (by decide) (by decide) K_122 f_119.exa (g := (mkF m 140 #[sI_ qa, sI_ qb, sI_ qc, sI_ qk, sI_ (3 : Int32), sI_ (qa.toUInt32.toUInt16.toUInt32.toInt32), sI_ (qb.toUInt32.toUInt16.toUInt32.toInt32), sI_ (qc.toUInt32.toUInt16.toUInt32.toInt32), sR_ b_79, sR_ r_114, sR_ lau] [(.int (1 : Int32)), (.ref r_114)])) rfl (by rw [hml]; rfl) (argsL := [(.int (1 : Int32))]) (rest := []) (lenOf pd_18 rfl) rfl rfl (Nat.le_refl _) (hb hby at_140)
    obtain ⟨rfl, n_123, K_123⟩ := q_123
    have N_123 := Fr.app N_122 n_123
    refine GoesW.go (U' := (T_123.setTop (mkF m 143 #[sI_ qa, sI_ qb, sI_ qc, sI_ qk, sI_ (3 : Int32), sI_ (qa.toUInt32.toUInt16.toUInt32.toInt32), sI_ (qb.toUInt32.toUInt16.toUInt32.toInt32), sI_ (qc.toUInt32.toUInt16.toUInt32.toInt32), sR_ b_79, sR_ r_114, sR_ lau] [(.int (qb.toUInt32.toUInt16.toUInt32.toInt32))]))) st_123 ?_
    refine GoesW.go (U' := (T_123.setTop (mkF m 159 #[sI_ qa, sI_ qb, sI_ qc, sI_ qk, sI_ (3 : Int32), sI_ (qa.toUInt32.toUInt16.toUInt32.toInt32), sI_ (qb.toUInt32.toUInt16.toUInt32.toInt32), sI_ (qc.toUInt32.toUInt16.toUInt32.toInt32), sR_ b_79, sR_ r_114, sR_ lau] [(.int (2 : Int32)), (.ref r_114)]))) (fun t kt => ?_) ?_
    · skip
      refine XS.iload X_123.here hx rfl (hb hby at_143) rfl ?_
      refine XS.icmpYes X_123.here hx rfl (pc0 := 145) (pc' := 150) rfl (hb hby at_145) rfl (XT.ii_eq_t rfl) (by decide) (by decide) ?_
      refine XS.iload X_123.here hx rfl (hb hby at_150) rfl ?_
      refine XS.iconst X_123.here hx rfl (hb hby at_152) ?_
      refine XS.icmpNo X_123.here hx rfl (hb hby at_153) rfl (XT.ii_lt_f (by decide)) ?_
      refine XS.aload X_123.here hx rfl (hb hby at_156) rfl rfl ?_
      refine XS.iconst X_123.here hx rfl (hb hby at_158) ?_
      exact kt
    obtain ⟨v_124, T_124, L_124, X_124, q_124, st_124⟩ := callVirtual X_123 hx hZ (y := (⟨"java/lang/String", "charAt", "(I)C"⟩ : MethodName)) (z := (⟨"java/lang/String", "charAt", "(I)C"⟩ : MethodName)) (W := 0) hown (wdOf hw 177 rfl) (wdOf hw 178 rfl) (notFace_of_selects (args := #[]) (mvT hZ (wdOf hw 180 rfl))) (wdOf hw 180 rfl) (wdOf hw 179 rfl) (wdOf hw 23 rfl) (wdOf hw 181 rfl) (by decide) (rm_ca l Z a0 hw [] kc sx r_114 rb_114 (2 : Int32) (((((0 : Int32) + (1 : Int32)) + (1 : Int32)) + (1 : Int32)) + (24 : Int32)) (qc.toUInt32.toUInt16.toUInt32.toInt32) (((([] ++ [(qa.toUInt32.toUInt16.toUInt32.toInt32)]) ++ [(qb.toUInt32.toUInt16.toUInt32.toInt32)]) ++ [(qc.toUInt32.toUInt16.toUInt32.toInt32)]) ++ TXT) 2 h_117 n0 y_120 G f_118 f_119 ⟨rfl, by first | decide | simp⟩ rfl) (by decide) (by decide) (by decide) (by decide) K_123 f_119.exa (g := (mkF m 159 #[sI_ qa, sI_ qb, sI_ qc, sI_ qk, sI_ (3 : Int32), sI_ (qa.toUInt32.toUInt16.toUInt32.toInt32), sI_ (qb.toUInt32.toUInt16.toUInt32.toInt32), sI_ (qc.toUInt32.toUInt16.toUInt32.toInt32), sR_ b_79, sR_ r_114, sR_ lau] [(.int (2 : Int32)), (.ref r_114)])) rfl (by rw [hml]; rfl) (argsL := [(.int (2 : Int32))]) (rest := []) (lenOf pd_18 rfl) rfl rfl (Nat.le_refl _) (hb hby at_159)
    obtain ⟨rfl, n_124, K_124⟩ := q_124
    have N_124 := Fr.app N_123 n_124
    refine GoesW.go (U' := (T_124.setTop (mkF m 162 #[sI_ qa, sI_ qb, sI_ qc, sI_ qk, sI_ (3 : Int32), sI_ (qa.toUInt32.toUInt16.toUInt32.toInt32), sI_ (qb.toUInt32.toUInt16.toUInt32.toInt32), sI_ (qc.toUInt32.toUInt16.toUInt32.toInt32), sR_ b_79, sR_ r_114, sR_ lau] [(.int (qc.toUInt32.toUInt16.toUInt32.toInt32))]))) st_124 ?_
    refine GoesW.go (U' := (T_124.setTop (mkF m 169 #[sI_ qa, sI_ qb, sI_ qc, sI_ qk, sI_ (3 : Int32), sI_ (qa.toUInt32.toUInt16.toUInt32.toInt32), sI_ (qb.toUInt32.toUInt16.toUInt32.toInt32), sI_ (qc.toUInt32.toUInt16.toUInt32.toInt32), sR_ b_79, sR_ r_114, sR_ lau] []))) (fun t kt => ?_) ?_
    · skip
      refine XS.iload X_124.here hx rfl (hb hby at_162) rfl ?_
      refine XS.icmpYes X_124.here hx rfl (pc0 := 164) (pc' := 169) rfl (hb hby at_164) rfl (XT.ii_eq_t rfl) (by decide) (by decide) ?_
      exact kt
    exact law_169 l Z a0 hw kc sx qa qb qc qk (3 : Int32) (qa.toUInt32.toUInt16.toUInt32.toInt32) (qb.toUInt32.toUInt16.toUInt32.toInt32) (qc.toUInt32.toUInt16.toUInt32.toInt32) (((((0 : Int32) + (1 : Int32)) + (1 : Int32)) + (1 : Int32)) + (24 : Int32)) b_79 r_114 rb_114 lau lbu ((([] ++ [(qa.toUInt32.toUInt16.toUInt32.toInt32)]) ++ [(qb.toUInt32.toUInt16.toUInt32.toInt32)]) ++ [(qc.toUInt32.toUInt16.toUInt32.toInt32)]) h0 n0 Z0 p e s m below meth c _ _ hx hby hml hown hnm hret hlk hZ _ _ _ X_124 K_124 N_124  G f_118 f_119 S2 ⟨rfl, by simp⟩ (by simp) hS_117 hk_117 
set_option maxRecDepth 65536 in
set_option maxHeartbeats 40000000 in
theorem comes_1 {Post : Tables → Env → Array Value → State → Outcome → State → Prop} (hpost : ∀ tb e args s v u, (limb_1_1.after args s (.returned v) u = true ∧ limb_1_2.after args s (.returned v) u = true) → ReturnedEndW s (.returned v) u (Jvm.fieldLocs frame_1_writes args s ++ Jvm.arrayLocs frame_1_arrays args s ++ Jvm.staticLocs frame_1_statics s) 40 2560 → Post tb e args s (.returned v) u) :
    ArmFor flags0 classFile x code maxLocals ret World_1 tables_1 room_1 Calls_1 rest_1 Pre_1 Post := by
  intro l hfl _ _ p e ha hc hk s m args below hf hA hF happ hP
  obtain ⟨hcalls, hrest, hpre⟩ := hP
  obtain ⟨-, -, -, hnamed, -, -, -, hat⟩ := (Spec.applies_iff hf).mp happ
  obtain ⟨hg, hn⟩ := and_e (Cond.before_iff.mp (show (Jvm.Cond.and given_1 narrow_1).before args s = true from hpre))
  obtain ⟨gc, gs⟩ := and_e hg
  obtain ⟨ga0, gs⟩ := and_e gs
  obtain ⟨ga1, gs⟩ := and_e gs
  obtain ⟨ga2, gs⟩ := and_e gs
  have ga3 := gs
  obtain ⟨w0, w1, w2, w3, rfl⟩ : ∃ w0 w1 w2 w3 : Value, args = #[w0, w1, w2, w3] := by
    have hs : args.size = 4 := by simpa [Cond.value, given_1] using gc
    obtain ⟨L⟩ := args
    match L, hs with
    | [w0, w1, w2, w3], _ => exact ⟨w0, w1, w2, w3, rfl⟩
  have hw := fun d (hd : d ∈ tables_1) => atoms_spec (ws := Jvm.Cond.code x code maxLocals ret :: tables_1) hat d (List.mem_cons_of_mem _ hd)
  have hfit : Fit s := fun {y c} hc i hi => by
    obtain ⟨ha, rfl⟩ := Array.getElem?_eq_some_iff.mp hc
    have q := List.all_eq_true.mp ((Array.all_eq_true_iff_forall_mem.mp hF) _ (Array.getElem_mem ha)) i (List.mem_range.mpr hi)
    simpa [Array.getElem?_eq_getElem hi] using q
  obtain ⟨i0, ei0⟩ := is_v ga0
  obtain rfl : w0 = (.int i0) := Option.some.inj ei0
  obtain ⟨i1, ei1⟩ := is_v ga1
  obtain rfl : w1 = (.int i1) := Option.some.inj ei1
  obtain ⟨i2, ei2⟩ := is_v ga2
  obtain rfl : w2 = (.int i2) := Option.some.inj ei2
  obtain ⟨i3, ei3⟩ := is_v ga3
  obtain rfl : w3 = (.int i3) := Option.some.inj ei3
  obtain ⟨hsets, hown0⟩ := atoms_of _ (rest_1_c_eq ▸ (show rest_1_c.before _ s = true from hrest))
  obtain ⟨kc, ecs⟩ := is_v (Cond.before_iff.mp (wdOf hsets 1 rfl))
  have SC : Sta s s.heap "java/lang/String" "COMPACT_STRINGS" "Z" (.int kc) := Sta.start ecs (Or.inl (wdOf hsets 0 rfl))
  have hcs : ¬ kc = 0 := own_cs ecs (Cond.before_iff.mp (wdOf hsets 2 rfl))
  obtain ⟨sx, esx, rsx⟩ := isR_v (Cond.before_iff.mp (wdOf hsets 8 rfl))
  have G : Stt s kc sx := ⟨SC, hcs, Sta.start esx (Or.inl (wdOf hsets 7 rfl)), rsx, Sta.start (eqInt_v (Cond.before_iff.mp (wdOf hsets 12 rfl))) (Or.inl (wdOf hsets 11 rfl)), Sta.start (eqInt_v (Cond.before_iff.mp (wdOf hsets 15 rfl))) (Or.inl (wdOf hsets 14 rfl)), Sta.start (eqInt_v (Cond.before_iff.mp (wdOf hsets 18 rfl))) (Or.inl (wdOf hsets 17 rfl))⟩
  have hcw : Jvm.Lit.compactW.before _ s = true := (wdOf hsets 2 rfl)
  have hh : ∀ p ∈ EL1, Jvm.Lit.constHeld s p.1 p.2 := fun p hp => by
    simp only [EL1, List.mem_cons, List.not_mem_nil, or_false] at hp
    rcases hp with rfl | rfl
    · exact fun c k cf i units a => hcalls.1 ("com/example/dead_letter_replay/deadletterreplay/page/Html", 93) (by simp [consts_1]) c k cf i units a
    · exact fun c k cf i units a => hcalls.1 ("com/example/dead_letter_replay/deadletterreplay/page/HtmlEndPinLaw", 28) (by simp [consts_1]) c k cf i units a
  obtain ⟨n, o, h1, h2, h3, _, L, rfl, ⟨rfl, N⟩, hq⟩ := rm_law l s _ hw tables_1 i0 i1 i2 i3 kc sx s.heap s.heap.size (Nat.le_refl _) G (Old.start s) p e ha hc hk s m _ below hf ((Spec.applies_iff_loose hf).mp happ).1 ⟨rfl, State.Warmed39.refl s, rfl, CHv.start (own_ew hw) hh hcw (wdOf hw 24 rfl) (wdOf hw 40 rfl)⟩ trivial
  refine ⟨n, _, h1, h2, h3, hpost _ _ _ _ _ _ ⟨Cond.after_iff.mpr rfl, Cond.after_iff.mpr (eq_i res_at (Term.int_eval (1)) rfl)⟩ ⟨hq.1, hq.2.1, hq.2.2.1, (hq.2.2.2.sift fun y hy => Or.inr (N y hy)).mono (by decide) (by decide)⟩⟩
theorem main_1_1 : Claimed_1_1 := comes_1 fun _ _ _ _ _ _ h hF => ⟨h.1, hF⟩
theorem main_1_2 : Claimed_1_2 := comes_1 fun _ _ _ _ _ _ h hF => ⟨h.2, hF⟩
end Jvm.Pilot.@@N@@
namespace Jvm.Pilot.@@N@@
open Jvm Jvm.ClassFile Sem Op Lib Jvm.Free Jvm.Stand Jvm.Pilot.@@N@@.Jvm.D
/-! MADE BY PROGRAM (witnessworld.py) out of the Statement's table words and the real class files: 24 classes; the members and pool entries that the words name. The judged class is class 1, her method 2. -/
namespace start1
open Jvm.ClassFile
def u (s : String) : CpInfo := .utf8 (stringToUtf16 s)
/-- a pool by its gaps: so many unusable entries, then the entry; so many at the end -/
def gap : Nat → List CpInfo → List CpInfo
  | 0, r => r
  | n + 1, r => .unusable :: gap n r
def poolList (es : List (Nat × CpInfo)) (last : Nat) : List CpInfo := es.foldr (fun e r => gap e.1 (e.2 :: r)) (gap last [])
def pool (es : List (Nat × CpInfo)) (last : Nat) : Array CpInfo := ⟨poolList es last⟩
def fileOf (pool : Array CpInfo) (this : Nat) (attrs : Array Attribute := #[]) (ms : Array MethodInfo := #[]) (fl : Nat := 33) (sup : Nat := 0) (ifs : Array Nat := #[]) (fds : Array FieldInfo := #[]) : ClassFile where
  minorVersion := 0
  majorVersion := 65
  constantPool := pool
  accessFlags := fl
  thisClass := this
  superClass := sup
  interfaces := ifs
  fields := fds
  methods := ms
  attributes := attrs
def plain (name : String) (sup : Option ClassId) : Class where
  name := name
  kind := .ordinary
  loader := none
  accessFlags := 33
  super := sup
  interfaces := #[]
  cf := none
  fields := #[]
  methods := #[]
  instanceTypes := #[]
  staticTypes := #[]
  resolved := #[]
  callSites := []
  init := .initialized
  statics := none
  mirror := none

def pool0 : Array CpInfo := pool [(5, u "<init>"), (0, u "()V"), (1, .class_ 10), (1, u "java/lang/Object")] 113

def k0c0 : Code := { maxStack := 0, maxLocals := 1, code := object_method_1_code, exceptionTable := #[], attributes := #[] }
def k0m0 : Method := { name := "<init>", desc := "()V", sig := { parameters := [], returnType := none }, accessFlags := 1, code := some k0c0 }
/-- java/lang/Object -/
def k0 : Class := { plain "java/lang/Object" none with
  accessFlags := 33
  interfaces := #[]
  cf := some (fileOf pool0 8 #[] #[{ accessFlags := 1, nameIndex := 5, descriptorIndex := 6, attributes := #[] }] 33 0 #[] #[])
  fields := #[]
  methods := #[k0m0]
  instanceTypes := #[]
  staticTypes := #[]
  resolved := Array.replicate 124 none
  statics := none }

def pool1 : Array CpInfo := pool [(2, .class_ 4), (0, .nameAndType 5 6), (0, u "java/lang/Object"), (0, u "<init>"), (0, u "()V"), (0, .methodref 8 9), (0, .class_ 10), (0, .nameAndType 11 12), (0, u "java/lang/String"), (0, u "charAt"), (0, u "(I)C"), (0, .class_ 14), (0, u "com/example/dead_letter_replay/deadletterreplay/page/Html"), (0, .methodref 13 3), (0, .methodref 8 17), (0, .nameAndType 18 19), (0, u "valueOf"), (0, u "(C)Ljava/lang/String;"), (0, .methodref 13 21), (0, .nameAndType 22 23), (0, u "raw"), (0, u "(Ljava/lang/String;)Lcom/example/dead_letter_replay/deadletterreplay/page/Html;"), (0, .methodref 13 25), (0, .nameAndType 26 27), (0, u "end"), (0, u "()Ljava/lang/String;"), (0, .string 29), (0, u "</main>\n</body>\n</html>\n"), (0, .methodref 8 31), (0, .nameAndType 32 33), (0, u "length"), (0, u "()I"), (0, .methodref 35 36), (0, .class_ 37), (0, .nameAndType 38 39), (0, u "com/example/dead_letter_replay/deadletterreplay/page/HtmlEndPinLaw"), (0, u "at"), (0, u "(Ljava/lang/String;ILjava/lang/String;I)Z"), (3, u "law"), (0, u "(IIII)Z")] 2

def k1m0 : Method := { name := "<init>", desc := "()V", sig := { parameters := [], returnType := none }, accessFlags := 1, code := none }
def k1c1 : Code := { maxStack := 3, maxLocals := 4, code := method_2_code, exceptionTable := #[], attributes := #[] }
def k1m1 : Method := { name := "at", desc := "(Ljava/lang/String;ILjava/lang/String;I)Z", sig := { parameters := [(.object "java/lang/String"), .int, (.object "java/lang/String"), .int], returnType := some .boolean }, accessFlags := 10, code := some k1c1 }
def k1c2 : Code := { maxStack := 4, maxLocals := 11, code := code, exceptionTable := #[], attributes := #[] }
def k1m2 : Method := { name := "law", desc := "(IIII)Z", sig := { parameters := [.int, .int, .int, .int], returnType := some .boolean }, accessFlags := 9, code := some k1c2 }
/-- com/example/dead_letter_replay/deadletterreplay/page/HtmlEndPinLaw -/
def k1 : Class := { plain "com/example/dead_letter_replay/deadletterreplay/page/HtmlEndPinLaw" (some 0) with
  accessFlags := 49
  interfaces := #[]
  cf := some (fileOf pool1 35 #[] #[{ accessFlags := 1, nameIndex := 5, descriptorIndex := 6, attributes := #[] }, { accessFlags := 10, nameIndex := 38, descriptorIndex := 39, attributes := #[] }, { accessFlags := 9, nameIndex := 43, descriptorIndex := 44, attributes := #[] }] 49 2 #[] #[])
  fields := #[]
  methods := #[k1m0, k1m1, k1m2]
  instanceTypes := #[]
  staticTypes := #[]
  resolved := Array.replicate 47 none
  statics := none }

def pool2 : Array CpInfo := pool [(1, .methodref 2 3), (0, .class_ 4), (0, .nameAndType 5 6), (0, u "java/lang/Object"), (0, u "<init>"), (0, u "()V"), (0, .class_ 8), (0, u "java/lang/StringBuilder"), (0, .methodref 7 3), (0, .fieldref 11 12), (0, .class_ 13), (0, .nameAndType 14 15), (0, u "com/example/dead_letter_replay/deadletterreplay/page/Html"), (0, u "html"), (0, u "Ljava/lang/StringBuilder;"), (5, u "raw"), (0, u "(Ljava/lang/String;)Lcom/example/dead_letter_replay/deadletterreplay/page/Html;"), (23, .methodref 7 47), (0, .nameAndType 48 49), (0, u "append"), (0, u "(Ljava/lang/String;)Ljava/lang/StringBuilder;"), (43, .string 94), (0, u "</main>\n</body>\n</html>\n"), (0, .methodref 7 96), (0, .nameAndType 97 98), (0, u "toString"), (0, u "()Ljava/lang/String;"), (0, u "STYLE"), (0, u "Ljava/lang/String;"), (6, u "end")] 2

def k2c0 : Code := { maxStack := 3, maxLocals := 1, code := prog_10_method_1_code, exceptionTable := #[], attributes := #[] }
def k2m0 : Method := { name := "<init>", desc := "()V", sig := { parameters := [], returnType := none }, accessFlags := 0, code := some k2c0 }
def k2c1 : Code := { maxStack := 2, maxLocals := 2, code := prog_10_method_3_code, exceptionTable := #[], attributes := #[] }
def k2m1 : Method := { name := "raw", desc := "(Ljava/lang/String;)Lcom/example/dead_letter_replay/deadletterreplay/page/Html;", sig := { parameters := [(.object "java/lang/String")], returnType := some (.object "com/example/dead_letter_replay/deadletterreplay/page/Html") }, accessFlags := 0, code := some k2c1 }
def k2c2 : Code := { maxStack := 2, maxLocals := 1, code := prog_10_method_8_code, exceptionTable := #[], attributes := #[] }
def k2m2 : Method := { name := "end", desc := "()Ljava/lang/String;", sig := { parameters := [], returnType := some (.object "java/lang/String") }, accessFlags := 0, code := some k2c2 }
/-- com/example/dead_letter_replay/deadletterreplay/page/Html -/
def k2 : Class := { plain "com/example/dead_letter_replay/deadletterreplay/page/Html" (some 0) with
  accessFlags := 48
  interfaces := #[]
  cf := some (fileOf pool2 11 #[] #[{ accessFlags := 0, nameIndex := 5, descriptorIndex := 6, attributes := #[] }, { accessFlags := 0, nameIndex := 21, descriptorIndex := 22, attributes := #[] }, { accessFlags := 0, nameIndex := 107, descriptorIndex := 98, attributes := #[] }] 48 2 #[] #[{ accessFlags := 24, nameIndex := 99, descriptorIndex := 100, attributes := #[] }, { accessFlags := 18, nameIndex := 14, descriptorIndex := 15, attributes := #[] }])
  fields := #[{ name := "STYLE", type := (.object "java/lang/String"), accessFlags := 24, slot := 0, constantValue := 0 }, { name := "html", type := (.object "java/lang/StringBuilder"), accessFlags := 18, slot := 0, constantValue := 0 }]
  methods := #[k2m0, k2m1, k2m2]
  instanceTypes := #[(.object "java/lang/StringBuilder")]
  staticTypes := #[(.object "java/lang/String")]
  resolved := Array.replicate 110 none
  statics := none }

def pool3 : Array CpInfo := pool [(1, .class_ 2), (0, u "java/lang/Appendable"), (0, .class_ 4), (0, u "java/lang/Object")] 9

/-- java/lang/Appendable -/
def k3 : Class := { plain "java/lang/Appendable" (some 0) with
  accessFlags := 1537
  interfaces := #[]
  cf := some (fileOf pool3 1 #[] #[] 1537 3 #[] #[])
  fields := #[]
  methods := #[]
  instanceTypes := #[]
  staticTypes := #[]
  resolved := Array.replicate 14 none
  statics := none }

def pool4 : Array CpInfo := pool [(2, .class_ 4), (1, u "java/lang/CharSequence"), (42, .class_ 48), (0, u "java/lang/CharSequence$1CodePointIterator"), (10, .class_ 60), (0, u "java/lang/CharSequence$1CharIterator"), (5, .class_ 67), (0, u "java/lang/Object")] 63

/-- java/lang/CharSequence -/
def k4 : Class := { plain "java/lang/CharSequence" (some 0) with
  accessFlags := 1537
  interfaces := #[]
  cf := some (fileOf pool4 2 #[.nestMembers #[47, 59]] #[] 1537 66 #[] #[])
  fields := #[]
  methods := #[]
  instanceTypes := #[]
  staticTypes := #[]
  resolved := Array.replicate 131 none
  statics := none }

def pool5 : Array CpInfo := pool [(1, .class_ 2), (0, u "java/lang/String"), (0, .methodref 4 5), (0, .class_ 6), (0, .nameAndType 7 8), (0, u "java/lang/Object"), (0, u "<init>"), (0, u "()V"), (1, .class_ 12), (1, u "java/lang/AbstractStringBuilder"), (0, u "EMPTYVALUE"), (0, u "[B"), (0, .fieldref 10 16), (0, .nameAndType 17 14), (0, u "value"), (0, .fieldref 1 19), (0, .nameAndType 20 21), (0, u "COMPACT_STRINGS"), (0, u "Z"), (0, .fieldref 10 23), (0, .nameAndType 24 25), (0, u "coder"), (0, u "B"), (0, .methodref 27 28), (0, .class_ 29), (0, .nameAndType 30 31), (0, u "java/lang/StringUTF16"), (0, u "newBytesFor"), (0, u "(I)[B"), (0, .methodref 1 33), (0, .nameAndType 34 35), (0, u "length"), (0, u "()I"), (3, .integer 2147483647), (0, .methodref 1 41), (0, .nameAndType 24 42), (0, u "()B"), (2, u "append"), (0, u "(Ljava/lang/String;)Ljava/lang/AbstractStringBuilder;"), (1, .class_ 49), (0, u "java/lang/CharSequence"), (19, u "(Ljava/lang/String;)V"), (5, u "maybeLatin1"), (3, .fieldref 10 80), (0, .nameAndType 81 82), (0, u "count"), (0, u "I"), (0, .methodref 10 84), (0, .nameAndType 85 86), (0, u "isLatin1"), (0, u "()Z"), (1, .class_ 90), (1, u "java/lang/StringLatin1"), (9, .methodref 10 101), (0, .nameAndType 102 103), (0, u "ensureCapacityInternal"), (0, u "(I)V"), (0, .methodref 10 105), (0, .nameAndType 106 107), (0, u "newCapacity"), (0, u "(I)I"), (0, .methodref 109 110), (0, .class_ 111), (0, .nameAndType 112 113), (0, u "java/util/Arrays"), (0, u "copyOf"), (0, u "([BI)[B"), (0, .methodref 115 116), (0, .class_ 117), (0, .nameAndType 118 119), (0, u "jdk/internal/util/ArraysSupport"), (0, u "newLength"), (0, u "(III)I"), (5, .methodref 88 126), (0, .nameAndType 127 128), (0, u "inflate"), (0, u "([BI[BII)V"), (66, .methodref 10 196), (0, .nameAndType 127 8), (11, .methodref 10 209), (0, .nameAndType 210 211), (0, u "putStringAt"), (0, u "(ILjava/lang/String;)V"), (5, u "inflateIfNeededFor"), (2, .nameAndType 221 222), (0, u "getBytes"), (0, u "([BIB)V"), (174, .methodref 10 398), (0, .nameAndType 217 69), (0, .methodref 1 220), (3, u "()[B"), (40, .class_ 445), (0, u "java/lang/Appendable"), (106, u "getValue")] 56

def k5m0 : Method := { name := "<init>", desc := "()V", sig := { parameters := [], returnType := none }, accessFlags := 0, code := none }
def k5c1 : Code := { maxStack := 2, maxLocals := 2, code := jdk_68_method_2_code, exceptionTable := #[], attributes := #[] }
def k5m1 : Method := { name := "<init>", desc := "(I)V", sig := { parameters := [.int], returnType := none }, accessFlags := 0, code := some k5c1 }
def k5c2 : Code := { maxStack := 1, maxLocals := 1, code := jdk_68_method_6_code, exceptionTable := #[], attributes := #[] }
def k5m2 : Method := { name := "length", desc := "()I", sig := { parameters := [], returnType := some .int }, accessFlags := 1, code := some k5c2 }
def k5c3 : Code := { maxStack := 4, maxLocals := 3, code := jdk_68_method_9_code, exceptionTable := #[], attributes := #[] }
def k5m3 : Method := { name := "ensureCapacityInternal", desc := "(I)V", sig := { parameters := [.int], returnType := none }, accessFlags := 2, code := some k5c3 }
def k5c4 : Code := { maxStack := 5, maxLocals := 6, code := jdk_68_method_10_code, exceptionTable := #[], attributes := #[] }
def k5m4 : Method := { name := "newCapacity", desc := "(I)I", sig := { parameters := [.int], returnType := some .int }, accessFlags := 2, code := some k5c4 }
def k5c5 : Code := { maxStack := 5, maxLocals := 2, code := jdk_68_method_11_code, exceptionTable := #[], attributes := #[] }
def k5m5 : Method := { name := "inflate", desc := "()V", sig := { parameters := [], returnType := none }, accessFlags := 2, code := some k5c5 }
def k5c6 : Code := { maxStack := 3, maxLocals := 3, code := jdk_68_method_22_code, exceptionTable := #[], attributes := #[] }
def k5m6 : Method := { name := "append", desc := "(Ljava/lang/String;)Ljava/lang/AbstractStringBuilder;", sig := { parameters := [(.object "java/lang/String")], returnType := some (.object "java/lang/AbstractStringBuilder") }, accessFlags := 1, code := some k5c6 }
def k5c7 : Code := { maxStack := 1, maxLocals := 1, code := jdk_68_method_64_code, exceptionTable := #[], attributes := #[] }
def k5m7 : Method := { name := "getValue", desc := "()[B", sig := { parameters := [], returnType := some (.array .byte) }, accessFlags := 16, code := some k5c7 }
def k5c8 : Code := { maxStack := 1, maxLocals := 1, code := jdk_68_method_68_code, exceptionTable := #[], attributes := #[] }
def k5m8 : Method := { name := "isLatin1", desc := "()Z", sig := { parameters := [], returnType := some .boolean }, accessFlags := 16, code := some k5c8 }
def k5c9 : Code := { maxStack := 2, maxLocals := 2, code := jdk_68_method_71_code, exceptionTable := #[], attributes := #[] }
def k5m9 : Method := { name := "inflateIfNeededFor", desc := "(Ljava/lang/String;)V", sig := { parameters := [(.object "java/lang/String")], returnType := none }, accessFlags := 2, code := some k5c9 }
def k5c10 : Code := { maxStack := 4, maxLocals := 3, code := jdk_68_method_73_code, exceptionTable := #[], attributes := #[] }
def k5m10 : Method := { name := "putStringAt", desc := "(ILjava/lang/String;)V", sig := { parameters := [.int, (.object "java/lang/String")], returnType := none }, accessFlags := 2, code := some k5c10 }
/-- java/lang/AbstractStringBuilder -/
def k5 : Class := { plain "java/lang/AbstractStringBuilder" (some 0) with
  accessFlags := 1056
  interfaces := #[3, 4]
  cf := some (fileOf pool5 10 #[] #[{ accessFlags := 0, nameIndex := 7, descriptorIndex := 8, attributes := #[] }, { accessFlags := 0, nameIndex := 7, descriptorIndex := 103, attributes := #[] }, { accessFlags := 1, nameIndex := 34, descriptorIndex := 35, attributes := #[] }, { accessFlags := 2, nameIndex := 102, descriptorIndex := 103, attributes := #[] }, { accessFlags := 2, nameIndex := 106, descriptorIndex := 107, attributes := #[] }, { accessFlags := 2, nameIndex := 127, descriptorIndex := 8, attributes := #[] }, { accessFlags := 1, nameIndex := 45, descriptorIndex := 46, attributes := #[] }, { accessFlags := 16, nameIndex := 552, descriptorIndex := 403, attributes := #[] }, { accessFlags := 16, nameIndex := 85, descriptorIndex := 86, attributes := #[] }, { accessFlags := 2, nameIndex := 217, descriptorIndex := 69, attributes := #[] }, { accessFlags := 2, nameIndex := 210, descriptorIndex := 211, attributes := #[] }] 1056 4 #[444, 48] #[{ accessFlags := 0, nameIndex := 17, descriptorIndex := 14, attributes := #[] }, { accessFlags := 0, nameIndex := 24, descriptorIndex := 25, attributes := #[] }, { accessFlags := 0, nameIndex := 75, descriptorIndex := 21, attributes := #[] }, { accessFlags := 0, nameIndex := 81, descriptorIndex := 82, attributes := #[] }, { accessFlags := 26, nameIndex := 13, descriptorIndex := 14, attributes := #[] }])
  fields := #[{ name := "value", type := (.array .byte), accessFlags := 0, slot := 0, constantValue := 0 }, { name := "coder", type := .byte, accessFlags := 0, slot := 1, constantValue := 0 }, { name := "maybeLatin1", type := .boolean, accessFlags := 0, slot := 2, constantValue := 0 }, { name := "count", type := .int, accessFlags := 0, slot := 3, constantValue := 0 }, { name := "EMPTYVALUE", type := (.array .byte), accessFlags := 26, slot := 0, constantValue := 0 }]
  methods := #[k5m0, k5m1, k5m2, k5m3, k5m4, k5m5, k5m6, k5m7, k5m8, k5m9, k5m10]
  instanceTypes := #[(.array .byte), .byte, .boolean, .int]
  staticTypes := #[(.array .byte)]
  resolved := Array.replicate 609 none
  statics := none }

def pool6 : Array CpInfo := pool [(1, .class_ 2), (0, u "java/io/Serializable"), (0, .class_ 4), (0, u "java/lang/Object")] 2

/-- java/io/Serializable -/
def k6 : Class := { plain "java/io/Serializable" (some 0) with
  accessFlags := 1537
  interfaces := #[]
  cf := some (fileOf pool6 1 #[] #[] 1537 3 #[] #[])
  fields := #[]
  methods := #[]
  instanceTypes := #[]
  staticTypes := #[]
  resolved := Array.replicate 7 none
  statics := none }

def pool7 : Array CpInfo := pool [(1, .class_ 2), (0, u "java/lang/Comparable"), (0, .class_ 4), (0, u "java/lang/Object")] 7

/-- java/lang/Comparable -/
def k7 : Class := { plain "java/lang/Comparable" (some 0) with
  accessFlags := 1537
  interfaces := #[]
  cf := some (fileOf pool7 1 #[] #[] 1537 3 #[] #[])
  fields := #[]
  methods := #[]
  instanceTypes := #[]
  staticTypes := #[]
  resolved := Array.replicate 12 none
  statics := none }

def pool8 : Array CpInfo := pool [(1, .methodref 2 3), (0, .class_ 4), (0, .nameAndType 5 6), (0, u "java/lang/AbstractStringBuilder"), (0, u "<init>"), (0, u "(I)V"), (11, .class_ 20), (1, u "java/lang/String"), (3, .class_ 26), (1, u "java/lang/StringBuilder"), (0, u "append"), (0, u "(Ljava/lang/String;)Ljava/lang/StringBuilder;"), (0, .methodref 2 30), (0, .nameAndType 27 31), (0, u "(Ljava/lang/String;)Ljava/lang/AbstractStringBuilder;"), (105, .methodref 18 138), (0, .nameAndType 5 139), (0, u "(Ljava/lang/StringBuilder;)V"), (5, u "()V"), (10, u "()I"), (186, .methodref 2 344), (0, .nameAndType 345 156), (0, u "length"), (3, .class_ 350), (0, u "java/lang/Appendable"), (0, .class_ 352), (0, u "java/io/Serializable"), (0, .class_ 354), (0, u "java/lang/Comparable"), (0, .class_ 356), (0, u "java/lang/CharSequence"), (0, u "serialVersionUID"), (0, u "J"), (40, u "toString"), (0, u "()Ljava/lang/String;")] 21

def k8c0 : Code := { maxStack := 2, maxLocals := 1, code := jdk_67_method_1_code, exceptionTable := #[], attributes := #[] }
def k8m0 : Method := { name := "<init>", desc := "()V", sig := { parameters := [], returnType := none }, accessFlags := 1, code := some k8c0 }
def k8c1 : Code := { maxStack := 2, maxLocals := 2, code := jdk_67_method_7_code, exceptionTable := #[], attributes := #[] }
def k8m1 : Method := { name := "append", desc := "(Ljava/lang/String;)Ljava/lang/StringBuilder;", sig := { parameters := [(.object "java/lang/String")], returnType := some (.object "java/lang/StringBuilder") }, accessFlags := 1, code := some k8c1 }
def k8c2 : Code := { maxStack := 3, maxLocals := 1, code := jdk_67_method_42_code, exceptionTable := #[], attributes := #[] }
def k8m2 : Method := { name := "toString", desc := "()Ljava/lang/String;", sig := { parameters := [], returnType := some (.object "java/lang/String") }, accessFlags := 1, code := some k8c2 }
def k8c3 : Code := { maxStack := 1, maxLocals := 1, code := jdk_67_method_93_code, exceptionTable := #[], attributes := #[] }
def k8m3 : Method := { name := "length", desc := "()I", sig := { parameters := [], returnType := some .int }, accessFlags := 4161, code := some k8c3 }
/-- java/lang/StringBuilder -/
def k8 : Class := { plain "java/lang/StringBuilder" (some 5) with
  accessFlags := 49
  interfaces := #[3, 6, 7, 4]
  cf := some (fileOf pool8 24 #[] #[{ accessFlags := 1, nameIndex := 5, descriptorIndex := 145, attributes := #[] }, { accessFlags := 1, nameIndex := 27, descriptorIndex := 28, attributes := #[] }, { accessFlags := 1, nameIndex := 399, descriptorIndex := 400, attributes := #[] }, { accessFlags := 4161, nameIndex := 345, descriptorIndex := 156, attributes := #[] }] 49 2 #[349, 351, 353, 355] #[{ accessFlags := 24, nameIndex := 357, descriptorIndex := 358, attributes := #[] }])
  fields := #[{ name := "serialVersionUID", type := .long, accessFlags := 24, slot := 0, constantValue := 0 }]
  methods := #[k8m0, k8m1, k8m2, k8m3]
  instanceTypes := #[(.array .byte), .byte, .boolean, .int]
  staticTypes := #[.long]
  resolved := Array.replicate 422 none
  statics := none }

def pool9 : Array CpInfo := pool [(1, .class_ 2), (0, u "java/lang/constant/Constable"), (0, .class_ 4), (0, u "java/lang/Object")] 6

/-- java/lang/constant/Constable -/
def k9 : Class := { plain "java/lang/constant/Constable" (some 0) with
  accessFlags := 1537
  interfaces := #[]
  cf := some (fileOf pool9 1 #[] #[] 1537 3 #[] #[])
  fields := #[]
  methods := #[]
  instanceTypes := #[]
  staticTypes := #[]
  resolved := Array.replicate 11 none
  statics := none }

def pool10 : Array CpInfo := pool [(1, .class_ 2), (0, u "java/lang/constant/ConstantDesc"), (0, .class_ 4), (0, u "java/lang/Object")] 32

/-- java/lang/constant/ConstantDesc -/
def k10 : Class := { plain "java/lang/constant/ConstantDesc" (some 0) with
  accessFlags := 1537
  interfaces := #[]
  cf := some (fileOf pool10 1 #[] #[] 1537 3 #[] #[])
  fields := #[]
  methods := #[]
  instanceTypes := #[]
  staticTypes := #[]
  resolved := Array.replicate 37 none
  statics := none }

def pool11 : Array CpInfo := pool [(1, .methodref 2 3), (0, .class_ 4), (0, .nameAndType 5 6), (0, u "java/lang/Object"), (0, u "<init>"), (0, u "()V"), (2, .fieldref 10 11), (0, .class_ 12), (0, .nameAndType 13 14), (0, u "java/lang/String"), (0, u "value"), (0, u "[B"), (0, .fieldref 10 16), (0, .nameAndType 17 18), (0, u "coder"), (0, u "B"), (2, u "hash"), (0, u "I"), (2, u "hashIsZero"), (0, u "Z"), (9, u "checkBoundsOffCount"), (0, u "(III)I"), (0, .fieldref 10 39), (0, .nameAndType 40 26), (0, u "COMPACT_STRINGS"), (1, .class_ 44), (1, u "java/lang/StringUTF16"), (8, u "toBytes"), (0, .methodref 55 56), (0, .class_ 57), (0, .nameAndType 58 59), (0, u "java/util/Arrays"), (0, u "copyOfRange"), (0, u "([BII)[B"), (46, .methodref 107 108), (0, .class_ 109), (0, .nameAndType 110 111), (0, u "java/lang/StringLatin1"), (0, u "inflate"), (0, u "([BI[BII)V"), (30, u "()Z"), (50, .class_ 195), (1, u "java/lang/System"), (13, .methodref 10 210), (0, .nameAndType 5 211), (0, u "([BB)V"), (0, .methodref 193 213), (0, .nameAndType 214 215), (0, u "arraycopy"), (0, u "(Ljava/lang/Object;ILjava/lang/Object;II)V"), (118, u "()I"), (0, .methodref 10 336), (0, .nameAndType 17 337), (0, u "()B"), (2, u "()[B"), (22, u "([BI)C"), (5, u "(C)Z"), (21, u "(II)V"), (35, u "(I)C"), (61, .methodref 10 490), (0, .nameAndType 5 491), (0, u "(Ljava/lang/AbstractStringBuilder;Ljava/lang/Void;)V"), (0, .methodref 10 493), (0, .nameAndType 494 142), (0, u "isLatin1"), (0, .methodref 107 496), (0, .nameAndType 497 363), (0, u "charAt"), (0, .methodref 42 496), (2, u "checkIndex"), (4, .nameAndType 507 334), (0, u "length"), (24, u "getBytes"), (16, .methodref 550 506), (0, .class_ 551), (0, u "java/lang/AbstractStringBuilder"), (0, .methodref 550 553), (0, .nameAndType 554 340), (0, u "getValue"), (20, .class_ 576), (0, u "java/lang/CharSequence"), (22, u "CASE_INSENSITIVE_ORDER"), (0, u "Ljava/util/Comparator;"), (181, u "valueOf"), (0, u "(C)Ljava/lang/String;"), (37, u "([BIB)V"), (193, .methodref 107 1016), (0, .nameAndType 1017 369), (0, u "canEncode"), (0, .methodref 107 1019), (0, .nameAndType 53 1020), (0, u "(C)[B"), (0, .methodref 42 1019), (25, .methodref 550 493), (0, .fieldref 550 1049), (0, .nameAndType 1050 26), (0, u "maybeLatin1"), (2, .fieldref 1054 1055), (0, .class_ 1056), (0, .nameAndType 1057 1058), (0, u "jdk/internal/util/Preconditions"), (0, u "SIOOBE_FORMATTER"), (0, u "Ljava/util/function/BiFunction;"), (0, .methodref 1054 1060), (0, .nameAndType 501 1061), (0, u "(IILjava/util/function/BiFunction;)I"), (2, u "(IIILjava/util/function/BiFunction;)I"), (0, .methodref 1054 1066), (0, .nameAndType 1067 1064), (0, u "checkFromIndexSize"), (33, u "serialPersistentFields"), (0, u "[Ljava/io/ObjectStreamField;"), (0, .class_ 1104), (0, u "java/lang/String$CaseInsensitiveComparator"), (1, .class_ 1107), (0, u "java/io/Serializable"), (0, .class_ 1109), (0, u "java/lang/Comparable"), (0, .class_ 1111), (0, u "java/lang/constant/Constable"), (0, .class_ 1113), (0, u "java/lang/constant/ConstantDesc"), (2, u "serialVersionUID"), (0, u "J"), (3, u "REPL"), (0, u "C"), (2, u "LATIN1"), (1, u "UTF16"), (105, u "(Ljava/lang/StringBuilder;)V")] 217

def k11m0 : Method := { name := "<init>", desc := "()V", sig := { parameters := [], returnType := none }, accessFlags := 1, code := none }
def k11c1 : Code := { maxStack := 3, maxLocals := 2, code := jdk_42_method_53_code, exceptionTable := #[], attributes := #[] }
def k11m1 : Method := { name := "<init>", desc := "(Ljava/lang/StringBuilder;)V", sig := { parameters := [(.object "java/lang/StringBuilder")], returnType := none }, accessFlags := 1, code := some k11c1 }
def k11c2 : Code := { maxStack := 2, maxLocals := 1, code := jdk_42_method_54_code, exceptionTable := #[], attributes := #[] }
def k11m2 : Method := { name := "length", desc := "()I", sig := { parameters := [], returnType := some .int }, accessFlags := 1, code := some k11c2 }
def k11c3 : Code := { maxStack := 2, maxLocals := 2, code := jdk_42_method_56_code, exceptionTable := #[], attributes := #[] }
def k11m3 : Method := { name := "charAt", desc := "(I)C", sig := { parameters := [.int], returnType := some .char }, accessFlags := 1, code := some k11c3 }
def k11c4 : Code := { maxStack := 4, maxLocals := 1, code := jdk_42_method_139_code, exceptionTable := #[], attributes := #[] }
def k11m4 : Method := { name := "valueOf", desc := "(C)Ljava/lang/String;", sig := { parameters := [.char], returnType := some (.object "java/lang/String") }, accessFlags := 9, code := some k11c4 }
def k11c5 : Code := { maxStack := 5, maxLocals := 4, code := jdk_42_method_147_code, exceptionTable := #[], attributes := #[] }
def k11m5 : Method := { name := "getBytes", desc := "([BIB)V", sig := { parameters := [(.array .byte), .int, .byte], returnType := none }, accessFlags := 0, code := some k11c5 }
def k11c6 : Code := { maxStack := 5, maxLocals := 5, code := jdk_42_method_150_code, exceptionTable := #[], attributes := #[] }
def k11m6 : Method := { name := "<init>", desc := "(Ljava/lang/AbstractStringBuilder;Ljava/lang/Void;)V", sig := { parameters := [(.object "java/lang/AbstractStringBuilder"), (.object "java/lang/Void")], returnType := none }, accessFlags := 0, code := some k11c6 }
def k11c7 : Code := { maxStack := 2, maxLocals := 3, code := jdk_42_method_151_code, exceptionTable := #[], attributes := #[] }
def k11m7 : Method := { name := "<init>", desc := "([BB)V", sig := { parameters := [(.array .byte), .byte], returnType := none }, accessFlags := 0, code := some k11c7 }
def k11c8 : Code := { maxStack := 1, maxLocals := 1, code := jdk_42_method_152_code, exceptionTable := #[], attributes := #[] }
def k11m8 : Method := { name := "coder", desc := "()B", sig := { parameters := [], returnType := some .byte }, accessFlags := 0, code := some k11c8 }
def k11c9 : Code := { maxStack := 1, maxLocals := 1, code := jdk_42_method_154_code, exceptionTable := #[], attributes := #[] }
def k11m9 : Method := { name := "isLatin1", desc := "()Z", sig := { parameters := [], returnType := some .boolean }, accessFlags := 0, code := some k11c9 }
def k11c10 : Code := { maxStack := 3, maxLocals := 2, code := jdk_42_method_155_code, exceptionTable := #[], attributes := #[] }
def k11m10 : Method := { name := "checkIndex", desc := "(II)V", sig := { parameters := [.int, .int], returnType := none }, accessFlags := 8, code := some k11c10 }
def k11c11 : Code := { maxStack := 4, maxLocals := 3, code := jdk_42_method_157_code, exceptionTable := #[], attributes := #[] }
def k11m11 : Method := { name := "checkBoundsOffCount", desc := "(III)I", sig := { parameters := [.int, .int, .int], returnType := some .int }, accessFlags := 8, code := some k11c11 }
/-- java/lang/String -/
def k11 : Class := { plain "java/lang/String" (some 0) with
  accessFlags := 49
  interfaces := #[6, 7, 4, 9, 10]
  cf := some (fileOf pool11 10 #[.nestMembers #[1103]] #[{ accessFlags := 1, nameIndex := 5, descriptorIndex := 6, attributes := #[] }, { accessFlags := 1, nameIndex := 5, descriptorIndex := 1233, attributes := #[] }, { accessFlags := 1, nameIndex := 507, descriptorIndex := 334, attributes := #[] }, { accessFlags := 1, nameIndex := 497, descriptorIndex := 427, attributes := #[] }, { accessFlags := 9, nameIndex := 782, descriptorIndex := 783, attributes := #[] }, { accessFlags := 0, nameIndex := 532, descriptorIndex := 821, attributes := #[] }, { accessFlags := 0, nameIndex := 5, descriptorIndex := 491, attributes := #[] }, { accessFlags := 0, nameIndex := 5, descriptorIndex := 211, attributes := #[] }, { accessFlags := 0, nameIndex := 17, descriptorIndex := 337, attributes := #[] }, { accessFlags := 0, nameIndex := 494, descriptorIndex := 142, attributes := #[] }, { accessFlags := 8, nameIndex := 501, descriptorIndex := 391, attributes := #[] }, { accessFlags := 8, nameIndex := 36, descriptorIndex := 37, attributes := #[] }] 49 2 #[1106, 1108, 575, 1110, 1112] #[{ accessFlags := 18, nameIndex := 13, descriptorIndex := 14, attributes := #[] }, { accessFlags := 18, nameIndex := 17, descriptorIndex := 18, attributes := #[] }, { accessFlags := 2, nameIndex := 21, descriptorIndex := 22, attributes := #[] }, { accessFlags := 2, nameIndex := 25, descriptorIndex := 26, attributes := #[] }, { accessFlags := 26, nameIndex := 1116, descriptorIndex := 1117, attributes := #[] }, { accessFlags := 24, nameIndex := 40, descriptorIndex := 26, attributes := #[] }, { accessFlags := 26, nameIndex := 1101, descriptorIndex := 1102, attributes := #[] }, { accessFlags := 26, nameIndex := 1121, descriptorIndex := 1122, attributes := #[] }, { accessFlags := 25, nameIndex := 599, descriptorIndex := 600, attributes := #[] }, { accessFlags := 24, nameIndex := 1125, descriptorIndex := 18, attributes := #[] }, { accessFlags := 24, nameIndex := 1127, descriptorIndex := 18, attributes := #[] }])
  fields := #[{ name := "value", type := (.array .byte), accessFlags := 18, slot := 0, constantValue := 0 }, { name := "coder", type := .byte, accessFlags := 18, slot := 1, constantValue := 0 }, { name := "hash", type := .int, accessFlags := 2, slot := 2, constantValue := 0 }, { name := "hashIsZero", type := .boolean, accessFlags := 2, slot := 3, constantValue := 0 }, { name := "serialVersionUID", type := .long, accessFlags := 26, slot := 0, constantValue := 0 }, { name := "COMPACT_STRINGS", type := .boolean, accessFlags := 24, slot := 1, constantValue := 0 }, { name := "serialPersistentFields", type := (.array (.object "java/io/ObjectStreamField")), accessFlags := 26, slot := 2, constantValue := 0 }, { name := "REPL", type := .char, accessFlags := 26, slot := 3, constantValue := 0 }, { name := "CASE_INSENSITIVE_ORDER", type := (.object "java/util/Comparator"), accessFlags := 25, slot := 4, constantValue := 0 }, { name := "LATIN1", type := .byte, accessFlags := 24, slot := 5, constantValue := 0 }, { name := "UTF16", type := .byte, accessFlags := 24, slot := 6, constantValue := 0 }]
  methods := #[k11m0, k11m1, k11m2, k11m3, k11m4, k11m5, k11m6, k11m7, k11m8, k11m9, k11m10, k11m11]
  instanceTypes := #[(.array .byte), .byte, .int, .boolean]
  staticTypes := #[.long, .boolean, (.array (.object "java/io/ObjectStreamField")), .char, (.object "java/util/Comparator"), .byte, .byte]
  resolved := Array.replicate 1451 none
  statics := some 0 }

def pool12 : Array CpInfo := pool [(1, .class_ 2), (0, u "java/lang/String"), (1, .class_ 6), (1, u "java/lang/Object"), (0, u "<init>"), (0, u "()V"), (0, .methodref 1 10), (0, .nameAndType 11 12), (0, u "checkIndex"), (0, u "(II)V"), (1, .class_ 16), (1, u "java/lang/StringLatin1"), (0, u "inflate"), (2, .class_ 22), (1, u "java/lang/StringUTF16"), (3, .nameAndType 17 27), (0, u "([BI[BII)V"), (25, u "([BI)C"), (36, u "canEncode"), (14, u "(C)Z"), (15, u "$assertionsDisabled"), (0, u "Z"), (98, .class_ 223), (1, u "java/lang/StringLatin1$LinesSpliterator"), (16, .methodref 20 26), (11, u "charAt"), (127, u "toBytes"), (1, u "(C)[B"), (7, .class_ 391), (0, u "java/lang/StringLatin1$CharsSpliterator")] 3

def k12m0 : Method := { name := "<init>", desc := "()V", sig := { parameters := [], returnType := none }, accessFlags := 0, code := none }
def k12c1 : Code := { maxStack := 2, maxLocals := 2, code := jdk_43_method_2_code, exceptionTable := #[], attributes := #[] }
def k12m1 : Method := { name := "charAt", desc := "([BI)C", sig := { parameters := [(.array .byte), .int], returnType := some .char }, accessFlags := 9, code := some k12c1 }
def k12c2 : Code := { maxStack := 2, maxLocals := 1, code := jdk_43_method_3_code, exceptionTable := #[], attributes := #[] }
def k12m2 : Method := { name := "canEncode", desc := "(C)Z", sig := { parameters := [.char], returnType := some .boolean }, accessFlags := 9, code := some k12c2 }
def k12c3 : Code := { maxStack := 4, maxLocals := 1, code := jdk_43_method_46_code, exceptionTable := #[], attributes := #[] }
def k12m3 : Method := { name := "toBytes", desc := "(C)[B", sig := { parameters := [.char], returnType := some (.array .byte) }, accessFlags := 9, code := some k12c3 }
def k12c4 : Code := { maxStack := 5, maxLocals := 5, code := jdk_43_method_50_code, exceptionTable := #[], attributes := #[] }
def k12m4 : Method := { name := "inflate", desc := "([BI[BII)V", sig := { parameters := [(.array .byte), .int, (.array .byte), .int, .int], returnType := none }, accessFlags := 9, code := some k12c4 }
/-- java/lang/StringLatin1 -/
def k12 : Class := { plain "java/lang/StringLatin1" (some 0) with
  accessFlags := 48
  interfaces := #[]
  cf := some (fileOf pool12 14 #[.nestMembers #[390, 221]] #[{ accessFlags := 0, nameIndex := 7, descriptorIndex := 8, attributes := #[] }, { accessFlags := 9, nameIndex := 252, descriptorIndex := 53, attributes := #[] }, { accessFlags := 9, nameIndex := 90, descriptorIndex := 105, attributes := #[] }, { accessFlags := 9, nameIndex := 380, descriptorIndex := 382, attributes := #[] }, { accessFlags := 9, nameIndex := 17, descriptorIndex := 27, attributes := #[] }] 48 4 #[] #[{ accessFlags := 4120, nameIndex := 121, descriptorIndex := 122, attributes := #[] }])
  fields := #[{ name := "$assertionsDisabled", type := .boolean, accessFlags := 4120, slot := 0, constantValue := 0 }]
  methods := #[k12m0, k12m1, k12m2, k12m3, k12m4]
  instanceTypes := #[]
  staticTypes := #[.boolean]
  resolved := Array.replicate 395 none
  statics := none }

def pool13 : Array CpInfo := pool [(2, .class_ 4), (1, u "java/lang/Object"), (0, u "<init>"), (0, u "()V"), (1, .class_ 10), (1, u "java/lang/System"), (0, u "allowSecurityManager"), (0, u "I"), (16, u "cons"), (0, u "Ljava/io/Console;"), (77, .class_ 110), (1, u "java/lang/System$CallersHolder"), (43, u "initialErrStream"), (0, u "Ljava/io/PrintStream;"), (19, u "security"), (0, u "Ljava/lang/SecurityManager;"), (31, .class_ 209), (0, u "java/lang/System$1"), (7, u "props"), (0, u "Ljava/util/Properties;"), (2, u "lineSeparator"), (0, u "Ljava/lang/String;"), (96, .class_ 321), (1, u "java/lang/System$LoggerFinder"), (5, .class_ 328), (0, u "java/lang/System$Logger"), (67, u "err"), (2, u "out"), (91, u "notSupportedJnuEncoding"), (15, u "in"), (17, u "initialIn"), (0, u "Ljava/io/InputStream;"), (35, u "bootLayer"), (0, u "Ljava/lang/ModuleLayer;"), (99, .class_ 664), (0, u "java/lang/System$2"), (9, u "NEVER"), (2, u "MAYBE"), (49, u "arraycopy"), (0, u "(Ljava/lang/Object;ILjava/lang/Object;II)V"), (72, .class_ 802), (0, u "java/lang/System$Logger$Level")] 31

def k13m0 : Method := { name := "<init>", desc := "()V", sig := { parameters := [], returnType := none }, accessFlags := 2, code := none }
def k13m1 : Method := { name := "arraycopy", desc := "(Ljava/lang/Object;ILjava/lang/Object;II)V", sig := { parameters := [(.object "java/lang/Object"), .int, (.object "java/lang/Object"), .int, .int], returnType := none }, accessFlags := 265, code := none }
/-- java/lang/System -/
def k13 : Class := { plain "java/lang/System" (some 0) with
  accessFlags := 49
  interfaces := #[]
  cf := some (fileOf pool13 8 #[.nestMembers #[319, 327, 801, 108, 663, 208]] #[{ accessFlags := 2, nameIndex := 5, descriptorIndex := 6, attributes := #[] }, { accessFlags := 265, nameIndex := 727, descriptorIndex := 728, attributes := #[] }] 49 2 #[] #[{ accessFlags := 25, nameIndex := 507, descriptorIndex := 526, attributes := #[] }, { accessFlags := 25, nameIndex := 399, descriptorIndex := 155, attributes := #[] }, { accessFlags := 25, nameIndex := 396, descriptorIndex := 155, attributes := #[] }, { accessFlags := 10, nameIndex := 525, descriptorIndex := 526, attributes := #[] }, { accessFlags := 26, nameIndex := 674, descriptorIndex := 12, attributes := #[] }, { accessFlags := 26, nameIndex := 677, descriptorIndex := 12, attributes := #[] }, { accessFlags := 10, nameIndex := 11, descriptorIndex := 12, attributes := #[] }, { accessFlags := 74, nameIndex := 175, descriptorIndex := 176, attributes := #[] }, { accessFlags := 10, nameIndex := 491, descriptorIndex := 222, attributes := #[] }, { accessFlags := 74, nameIndex := 29, descriptorIndex := 30, attributes := #[] }, { accessFlags := 74, nameIndex := 154, descriptorIndex := 155, attributes := #[] }, { accessFlags := 10, nameIndex := 217, descriptorIndex := 218, attributes := #[] }, { accessFlags := 10, nameIndex := 221, descriptorIndex := 222, attributes := #[] }, { accessFlags := 8, nameIndex := 562, descriptorIndex := 563, attributes := #[] }])
  fields := #[{ name := "in", type := (.object "java/io/InputStream"), accessFlags := 25, slot := 0, constantValue := 0 }, { name := "out", type := (.object "java/io/PrintStream"), accessFlags := 25, slot := 1, constantValue := 0 }, { name := "err", type := (.object "java/io/PrintStream"), accessFlags := 25, slot := 2, constantValue := 0 }, { name := "initialIn", type := (.object "java/io/InputStream"), accessFlags := 10, slot := 3, constantValue := 0 }, { name := "NEVER", type := .int, accessFlags := 26, slot := 4, constantValue := 0 }, { name := "MAYBE", type := .int, accessFlags := 26, slot := 5, constantValue := 0 }, { name := "allowSecurityManager", type := .int, accessFlags := 10, slot := 6, constantValue := 0 }, { name := "security", type := (.object "java/lang/SecurityManager"), accessFlags := 74, slot := 7, constantValue := 0 }, { name := "notSupportedJnuEncoding", type := (.object "java/lang/String"), accessFlags := 10, slot := 8, constantValue := 0 }, { name := "cons", type := (.object "java/io/Console"), accessFlags := 74, slot := 9, constantValue := 0 }, { name := "initialErrStream", type := (.object "java/io/PrintStream"), accessFlags := 74, slot := 10, constantValue := 0 }, { name := "props", type := (.object "java/util/Properties"), accessFlags := 10, slot := 11, constantValue := 0 }, { name := "lineSeparator", type := (.object "java/lang/String"), accessFlags := 10, slot := 12, constantValue := 0 }, { name := "bootLayer", type := (.object "java/lang/ModuleLayer"), accessFlags := 8, slot := 13, constantValue := 0 }]
  methods := #[k13m0, k13m1]
  instanceTypes := #[]
  staticTypes := #[(.object "java/io/InputStream"), (.object "java/io/PrintStream"), (.object "java/io/PrintStream"), (.object "java/io/InputStream"), .int, .int, .int, (.object "java/lang/SecurityManager"), (.object "java/lang/String"), (.object "java/io/Console"), (.object "java/io/PrintStream"), (.object "java/util/Properties"), (.object "java/lang/String"), (.object "java/lang/ModuleLayer")]
  resolved := Array.replicate 834 none
  statics := none }

def pool14 : Array CpInfo := pool [(9, u "<init>"), (6, .class_ 18), (1, u "java/lang/Object"), (0, u "()V"), (1, .class_ 23), (1, u "jdk/internal/util/ArraysSupport"), (0, u "LOG2_ARRAY_LONG_INDEX_SCALE"), (0, u "I"), (2, u "U"), (0, u "Ljdk/internal/misc/Unsafe;"), (8, u "BIG_ENDIAN"), (0, u "Z"), (8, u "LOG2_BYTE_BIT_SIZE"), (4, u "LOG2_ARRAY_INT_INDEX_SCALE"), (54, u "JLA"), (0, u "Ljdk/internal/access/JavaLangAccess;"), (11, u "LOG2_ARRAY_BOOLEAN_INDEX_SCALE"), (9, u "LOG2_ARRAY_BYTE_INDEX_SCALE"), (5, u "LOG2_ARRAY_CHAR_INDEX_SCALE"), (5, u "LOG2_ARRAY_SHORT_INDEX_SCALE"), (18, u "LOG2_ARRAY_FLOAT_INDEX_SCALE"), (24, u "LOG2_ARRAY_DOUBLE_INDEX_SCALE"), (6, .methodref 195 196), (0, .class_ 197), (0, .nameAndType 198 199), (0, u "java/lang/Math"), (0, u "max"), (0, u "(II)I"), (0, .integer 2147483639), (76, u "T_BOOLEAN"), (2, u "T_CHAR"), (1, u "T_FLOAT"), (1, u "T_DOUBLE"), (1, u "T_BYTE"), (1, u "T_SHORT"), (1, u "T_INT"), (1, u "T_LONG"), (1, u "SOFT_MAX_ARRAY_LENGTH"), (56, u "newLength"), (0, u "(III)I")] 25

def k14m0 : Method := { name := "<init>", desc := "()V", sig := { parameters := [], returnType := none }, accessFlags := 2, code := none }
def k14c1 : Code := { maxStack := 3, maxLocals := 4, code := jdk_48_method_27_code, exceptionTable := #[], attributes := #[] }
def k14m1 : Method := { name := "newLength", desc := "(III)I", sig := { parameters := [.int, .int, .int], returnType := some .int }, accessFlags := 9, code := some k14c1 }
/-- jdk/internal/util/ArraysSupport -/
def k14 : Class := { plain "jdk/internal/util/ArraysSupport" (some 0) with
  accessFlags := 33
  interfaces := #[]
  cf := some (fileOf pool14 21 #[] #[{ accessFlags := 2, nameIndex := 9, descriptorIndex := 19, attributes := #[] }, { accessFlags := 9, nameIndex := 351, descriptorIndex := 352, attributes := #[] }] 33 16 #[] #[{ accessFlags := 24, nameIndex := 28, descriptorIndex := 29, attributes := #[] }, { accessFlags := 26, nameIndex := 38, descriptorIndex := 39, attributes := #[] }, { accessFlags := 25, nameIndex := 121, descriptorIndex := 25, attributes := #[] }, { accessFlags := 25, nameIndex := 131, descriptorIndex := 25, attributes := #[] }, { accessFlags := 25, nameIndex := 137, descriptorIndex := 25, attributes := #[] }, { accessFlags := 25, nameIndex := 143, descriptorIndex := 25, attributes := #[] }, { accessFlags := 25, nameIndex := 53, descriptorIndex := 25, attributes := #[] }, { accessFlags := 25, nameIndex := 24, descriptorIndex := 25, attributes := #[] }, { accessFlags := 25, nameIndex := 162, descriptorIndex := 25, attributes := #[] }, { accessFlags := 25, nameIndex := 187, descriptorIndex := 25, attributes := #[] }, { accessFlags := 26, nameIndex := 48, descriptorIndex := 25, attributes := #[] }, { accessFlags := 25, nameIndex := 277, descriptorIndex := 25, attributes := #[] }, { accessFlags := 25, nameIndex := 280, descriptorIndex := 25, attributes := #[] }, { accessFlags := 25, nameIndex := 282, descriptorIndex := 25, attributes := #[] }, { accessFlags := 25, nameIndex := 284, descriptorIndex := 25, attributes := #[] }, { accessFlags := 25, nameIndex := 286, descriptorIndex := 25, attributes := #[] }, { accessFlags := 25, nameIndex := 288, descriptorIndex := 25, attributes := #[] }, { accessFlags := 25, nameIndex := 290, descriptorIndex := 25, attributes := #[] }, { accessFlags := 25, nameIndex := 292, descriptorIndex := 25, attributes := #[] }, { accessFlags := 26, nameIndex := 108, descriptorIndex := 109, attributes := #[] }, { accessFlags := 25, nameIndex := 294, descriptorIndex := 25, attributes := #[] }])
  fields := #[{ name := "U", type := (.object "jdk/internal/misc/Unsafe"), accessFlags := 24, slot := 0, constantValue := 0 }, { name := "BIG_ENDIAN", type := .boolean, accessFlags := 26, slot := 1, constantValue := 0 }, { name := "LOG2_ARRAY_BOOLEAN_INDEX_SCALE", type := .int, accessFlags := 25, slot := 2, constantValue := 0 }, { name := "LOG2_ARRAY_BYTE_INDEX_SCALE", type := .int, accessFlags := 25, slot := 3, constantValue := 0 }, { name := "LOG2_ARRAY_CHAR_INDEX_SCALE", type := .int, accessFlags := 25, slot := 4, constantValue := 0 }, { name := "LOG2_ARRAY_SHORT_INDEX_SCALE", type := .int, accessFlags := 25, slot := 5, constantValue := 0 }, { name := "LOG2_ARRAY_INT_INDEX_SCALE", type := .int, accessFlags := 25, slot := 6, constantValue := 0 }, { name := "LOG2_ARRAY_LONG_INDEX_SCALE", type := .int, accessFlags := 25, slot := 7, constantValue := 0 }, { name := "LOG2_ARRAY_FLOAT_INDEX_SCALE", type := .int, accessFlags := 25, slot := 8, constantValue := 0 }, { name := "LOG2_ARRAY_DOUBLE_INDEX_SCALE", type := .int, accessFlags := 25, slot := 9, constantValue := 0 }, { name := "LOG2_BYTE_BIT_SIZE", type := .int, accessFlags := 26, slot := 10, constantValue := 0 }, { name := "T_BOOLEAN", type := .int, accessFlags := 25, slot := 11, constantValue := 0 }, { name := "T_CHAR", type := .int, accessFlags := 25, slot := 12, constantValue := 0 }, { name := "T_FLOAT", type := .int, accessFlags := 25, slot := 13, constantValue := 0 }, { name := "T_DOUBLE", type := .int, accessFlags := 25, slot := 14, constantValue := 0 }, { name := "T_BYTE", type := .int, accessFlags := 25, slot := 15, constantValue := 0 }, { name := "T_SHORT", type := .int, accessFlags := 25, slot := 16, constantValue := 0 }, { name := "T_INT", type := .int, accessFlags := 25, slot := 17, constantValue := 0 }, { name := "T_LONG", type := .int, accessFlags := 25, slot := 18, constantValue := 0 }, { name := "JLA", type := (.object "jdk/internal/access/JavaLangAccess"), accessFlags := 26, slot := 19, constantValue := 0 }, { name := "SOFT_MAX_ARRAY_LENGTH", type := .int, accessFlags := 25, slot := 20, constantValue := 0 }]
  methods := #[k14m0, k14m1]
  instanceTypes := #[]
  staticTypes := #[(.object "jdk/internal/misc/Unsafe"), .boolean, .int, .int, .int, .int, .int, .int, .int, .int, .int, .int, .int, .int, .int, .int, .int, .int, .int, (.object "jdk/internal/access/JavaLangAccess"), .int]
  resolved := Array.replicate 378 none
  statics := none }

def pool15 : Array CpInfo := pool [(1, .class_ 2), (0, u "java/lang/Math"), (1, .class_ 6), (1, u "java/lang/Object"), (0, u "<init>"), (0, u "()V"), (89, .class_ 100), (1, u "java/lang/Math$RandomNumberGeneratorHolder"), (71, u "negativeZeroFloatBits"), (0, u "J"), (2, u "negativeZeroDoubleBits"), (21, u "max"), (2, u "min"), (43, u "$assertionsDisabled"), (0, u "Z"), (88, u "(II)I"), (2, u "twoToTheDoubleScaleDown"), (0, u "D"), (4, u "twoToTheDoubleScaleUp"), (9, u "E"), (3, u "PI"), (2, u "TAU"), (2, u "DEGREES_TO_RADIANS"), (0, u "RADIANS_TO_DEGREES")] 94

def k15m0 : Method := { name := "<init>", desc := "()V", sig := { parameters := [], returnType := none }, accessFlags := 2, code := none }
def k15c1 : Code := { maxStack := 2, maxLocals := 2, code := jdk_29_method_65_code, exceptionTable := #[], attributes := #[] }
def k15m1 : Method := { name := "max", desc := "(II)I", sig := { parameters := [.int, .int], returnType := some .int }, accessFlags := 9, code := some k15c1 }
def k15c2 : Code := { maxStack := 2, maxLocals := 2, code := jdk_29_method_69_code, exceptionTable := #[], attributes := #[] }
def k15m2 : Method := { name := "min", desc := "(II)I", sig := { parameters := [.int, .int], returnType := some .int }, accessFlags := 9, code := some k15c2 }
/-- java/lang/Math -/
def k15 : Class := { plain "java/lang/Math" (some 0) with
  accessFlags := 49
  interfaces := #[]
  cf := some (fileOf pool15 1 #[.nestMembers #[98]] #[{ accessFlags := 2, nameIndex := 7, descriptorIndex := 8, attributes := #[] }, { accessFlags := 9, nameIndex := 198, descriptorIndex := 335, attributes := #[] }, { accessFlags := 9, nameIndex := 201, descriptorIndex := 335, attributes := #[] }] 49 4 #[] #[{ accessFlags := 25, nameIndex := 354, descriptorIndex := 339, attributes := #[] }, { accessFlags := 25, nameIndex := 358, descriptorIndex := 339, attributes := #[] }, { accessFlags := 25, nameIndex := 361, descriptorIndex := 339, attributes := #[] }, { accessFlags := 26, nameIndex := 364, descriptorIndex := 339, attributes := #[] }, { accessFlags := 26, nameIndex := 365, descriptorIndex := 339, attributes := #[] }, { accessFlags := 26, nameIndex := 172, descriptorIndex := 173, attributes := #[] }, { accessFlags := 26, nameIndex := 176, descriptorIndex := 173, attributes := #[] }, { accessFlags := 8, nameIndex := 344, descriptorIndex := 339, attributes := #[] }, { accessFlags := 8, nameIndex := 338, descriptorIndex := 339, attributes := #[] }, { accessFlags := 4120, nameIndex := 245, descriptorIndex := 246, attributes := #[] }])
  fields := #[{ name := "E", type := .double, accessFlags := 25, slot := 0, constantValue := 0 }, { name := "PI", type := .double, accessFlags := 25, slot := 1, constantValue := 0 }, { name := "TAU", type := .double, accessFlags := 25, slot := 2, constantValue := 0 }, { name := "DEGREES_TO_RADIANS", type := .double, accessFlags := 26, slot := 3, constantValue := 0 }, { name := "RADIANS_TO_DEGREES", type := .double, accessFlags := 26, slot := 4, constantValue := 0 }, { name := "negativeZeroFloatBits", type := .long, accessFlags := 26, slot := 5, constantValue := 0 }, { name := "negativeZeroDoubleBits", type := .long, accessFlags := 26, slot := 6, constantValue := 0 }, { name := "twoToTheDoubleScaleUp", type := .double, accessFlags := 8, slot := 7, constantValue := 0 }, { name := "twoToTheDoubleScaleDown", type := .double, accessFlags := 8, slot := 8, constantValue := 0 }, { name := "$assertionsDisabled", type := .boolean, accessFlags := 4120, slot := 9, constantValue := 0 }]
  methods := #[k15m0, k15m1, k15m2]
  instanceTypes := #[]
  staticTypes := #[.double, .double, .double, .double, .double, .long, .long, .double, .double, .boolean]
  resolved := Array.replicate 460 none
  statics := none }

def pool16 : Array CpInfo := pool [(2, .class_ 4), (1, u "java/lang/Object"), (0, u "<init>"), (0, u "()V"), (7, .class_ 16), (1, u "java/util/Arrays"), (57, .class_ 76), (1, u "java/util/Arrays$NaturalOrder"), (36, .class_ 115), (1, u "java/util/Arrays$LegacyMergeSort"), (1, u "Z"), (21, u "copyOfRange"), (10, .methodref 151 152), (0, .class_ 153), (0, .nameAndType 154 155), (0, u "java/lang/System"), (0, u "arraycopy"), (0, u "(Ljava/lang/Object;ILjava/lang/Object;II)V"), (146, u "copyOf"), (1, .methodref 305 306), (0, .class_ 307), (0, .nameAndType 308 309), (0, u "java/lang/Math"), (0, u "min"), (0, u "(II)I"), (29, .methodref 14 340), (0, .nameAndType 341 342), (0, u "copyOfRangeByte"), (0, u "([BII)[B"), (0, .methodref 14 344), (0, .nameAndType 345 346), (0, u "checkLength"), (0, u "(II)V"), (28, .class_ 376), (0, u "java/util/Arrays$ArrayList"), (68, u "$assertionsDisabled"), (269, u "MIN_ARRAY_SORT_GRAN"), (0, u "I"), (2, u "INSERTIONSORT_THRESHOLD"), (149, u "([BI)[B"), (105, .class_ 976), (0, u "java/util/Arrays$ArrayItr")] 52

def k16m0 : Method := { name := "<init>", desc := "()V", sig := { parameters := [], returnType := none }, accessFlags := 2, code := none }
def k16c1 : Code := { maxStack := 6, maxLocals := 3, code := jdk_65_method_121_code, exceptionTable := #[], attributes := #[] }
def k16m1 : Method := { name := "copyOf", desc := "([BI)[B", sig := { parameters := [(.array .byte), .int], returnType := some (.array .byte) }, accessFlags := 9, code := some k16c1 }
def k16c2 : Code := { maxStack := 4, maxLocals := 2, code := jdk_65_method_131_code, exceptionTable := #[], attributes := #[] }
def k16m2 : Method := { name := "checkLength", desc := "(II)V", sig := { parameters := [.int, .int], returnType := none }, accessFlags := 10, code := some k16c2 }
def k16c3 : Code := { maxStack := 3, maxLocals := 3, code := jdk_65_method_132_code, exceptionTable := #[], attributes := #[] }
def k16m3 : Method := { name := "copyOfRange", desc := "([BII)[B", sig := { parameters := [(.array .byte), .int, .int], returnType := some (.array .byte) }, accessFlags := 9, code := some k16c3 }
def k16c4 : Code := { maxStack := 6, maxLocals := 5, code := jdk_65_method_133_code, exceptionTable := #[], attributes := #[] }
def k16m4 : Method := { name := "copyOfRangeByte", desc := "([BII)[B", sig := { parameters := [(.array .byte), .int, .int], returnType := some (.array .byte) }, accessFlags := 10, code := some k16c4 }
/-- java/util/Arrays -/
def k16 : Class := { plain "java/util/Arrays" (some 0) with
  accessFlags := 49
  interfaces := #[]
  cf := some (fileOf pool16 14 #[.nestMembers #[975, 375, 113, 74]] #[{ accessFlags := 2, nameIndex := 5, descriptorIndex := 6, attributes := #[] }, { accessFlags := 9, nameIndex := 302, descriptorIndex := 869, attributes := #[] }, { accessFlags := 10, nameIndex := 345, descriptorIndex := 346, attributes := #[] }, { accessFlags := 9, nameIndex := 139, descriptorIndex := 342, attributes := #[] }, { accessFlags := 10, nameIndex := 341, descriptorIndex := 342, attributes := #[] }] 49 2 #[] #[{ accessFlags := 26, nameIndex := 715, descriptorIndex := 716, attributes := #[] }, { accessFlags := 26, nameIndex := 719, descriptorIndex := 716, attributes := #[] }, { accessFlags := 4120, nameIndex := 445, descriptorIndex := 117, attributes := #[] }])
  fields := #[{ name := "MIN_ARRAY_SORT_GRAN", type := .int, accessFlags := 26, slot := 0, constantValue := 0 }, { name := "INSERTIONSORT_THRESHOLD", type := .int, accessFlags := 26, slot := 1, constantValue := 0 }, { name := "$assertionsDisabled", type := .boolean, accessFlags := 4120, slot := 2, constantValue := 0 }]
  methods := #[k16m0, k16m1, k16m2, k16m3, k16m4]
  instanceTypes := #[]
  staticTypes := #[.int, .int, .boolean]
  resolved := Array.replicate 1029 none
  statics := none }

def pool17 : Array CpInfo := pool [(2, .class_ 4), (1, u "java/lang/Object"), (0, u "<init>"), (0, u "()V"), (17, .class_ 26), (1, u "jdk/internal/util/Preconditions"), (6, u "checkIndex"), (15, u "checkFromIndexSize"), (5, .class_ 56), (0, u "jdk/internal/util/Preconditions$4"), (57, .class_ 115), (0, u "jdk/internal/util/Preconditions$1"), (7, u "SIOOBE_FORMATTER"), (0, u "Ljava/util/function/BiFunction;"), (0, .class_ 126), (0, u "jdk/internal/util/Preconditions$2"), (3, u "AIOOBE_FORMATTER"), (0, .class_ 132), (0, u "jdk/internal/util/Preconditions$3"), (3, u "IOOBE_FORMATTER"), (41, u "(IILjava/util/function/BiFunction;)I"), (4, u "(IIILjava/util/function/BiFunction;)I")] 10

def k17m0 : Method := { name := "<init>", desc := "()V", sig := { parameters := [], returnType := none }, accessFlags := 1, code := none }
def k17c1 : Code := { maxStack := 3, maxLocals := 3, code := jdk_41_method_11_code, exceptionTable := #[], attributes := #[] }
def k17m1 : Method := { name := "checkIndex", desc := "(IILjava/util/function/BiFunction;)I", sig := { parameters := [.int, .int, (.object "java/util/function/BiFunction")], returnType := some .int }, accessFlags := 9, code := some k17c1 }
def k17c2 : Code := { maxStack := 4, maxLocals := 4, code := jdk_41_method_13_code, exceptionTable := #[], attributes := #[] }
def k17m2 : Method := { name := "checkFromIndexSize", desc := "(IIILjava/util/function/BiFunction;)I", sig := { parameters := [.int, .int, .int, (.object "java/util/function/BiFunction")], returnType := some .int }, accessFlags := 9, code := some k17c2 }
/-- jdk/internal/util/Preconditions -/
def k17 : Class := { plain "jdk/internal/util/Preconditions" (some 0) with
  accessFlags := 33
  interfaces := #[]
  cf := some (fileOf pool17 24 #[.nestMembers #[55, 131, 125, 114]] #[{ accessFlags := 1, nameIndex := 5, descriptorIndex := 6, attributes := #[] }, { accessFlags := 9, nameIndex := 33, descriptorIndex := 178, attributes := #[] }, { accessFlags := 9, nameIndex := 49, descriptorIndex := 183, attributes := #[] }] 33 2 #[] #[{ accessFlags := 25, nameIndex := 123, descriptorIndex := 124, attributes := #[] }, { accessFlags := 25, nameIndex := 130, descriptorIndex := 124, attributes := #[] }, { accessFlags := 25, nameIndex := 136, descriptorIndex := 124, attributes := #[] }])
  fields := #[{ name := "SIOOBE_FORMATTER", type := (.object "java/util/function/BiFunction"), accessFlags := 25, slot := 0, constantValue := 0 }, { name := "AIOOBE_FORMATTER", type := (.object "java/util/function/BiFunction"), accessFlags := 25, slot := 1, constantValue := 0 }, { name := "IOOBE_FORMATTER", type := (.object "java/util/function/BiFunction"), accessFlags := 25, slot := 2, constantValue := 0 }]
  methods := #[k17m0, k17m1, k17m2]
  instanceTypes := #[]
  staticTypes := #[(.object "java/util/function/BiFunction"), (.object "java/util/function/BiFunction"), (.object "java/util/function/BiFunction")]
  resolved := Array.replicate 194 none
  statics := some 1 }

def pool18 : Array CpInfo := pool [(3, .class_ 4), (0, u "java/lang/String"), (1, .class_ 8), (1, u "java/lang/Object"), (0, u "<init>"), (0, u "()V"), (0, .methodref 12 13), (0, .class_ 14), (0, .nameAndType 15 16), (0, u "java/lang/StringUTF16"), (0, u "newBytesLength"), (0, u "(I)I"), (3, .integer 1073741823), (23, .fieldref 12 45), (0, .nameAndType 46 47), (0, u "$assertionsDisabled"), (0, u "Z"), (0, .methodref 12 49), (0, .nameAndType 50 51), (0, u "length"), (0, u "([B)I"), (7, .fieldref 12 60), (0, .nameAndType 61 62), (0, u "HI_BYTE_SHIFT"), (0, u "I"), (0, .fieldref 12 64), (0, .nameAndType 65 62), (0, u "LO_BYTE_SHIFT"), (1, .methodref 12 68), (0, .nameAndType 69 70), (0, u "checkIndex"), (0, u "(I[B)V"), (0, .methodref 12 72), (0, .nameAndType 73 74), (0, u "getChar"), (0, u "([BI)C"), (24, u "(II[B)V"), (9, u "newBytesFor"), (0, u "(I)[B"), (0, .methodref 12 112), (0, .nameAndType 113 114), (0, u "putChar"), (0, u "([BII)V"), (6, u "toBytes"), (18, u "inflate"), (0, u "([BI[BII)V"), (31, .methodref 12 174), (0, .nameAndType 175 99), (0, u "checkBoundsOffCount"), (105, u "(III)I"), (87, .class_ 371), (1, u "java/lang/StringUTF16$LinesSpliterator"), (20, u "charAt"), (21, .methodref 3 415), (0, .nameAndType 69 416), (0, u "(II)V"), (2, .methodref 3 420), (0, .nameAndType 175 281), (9, u "MAX_LENGTH"), (44, u "(C)[B"), (151, .class_ 628), (0, u "java/lang/StringUTF16$CodePointsSpliterator"), (0, .class_ 630), (0, u "java/lang/StringUTF16$CharsSpliterator")] 4

def k18m0 : Method := { name := "<init>", desc := "()V", sig := { parameters := [], returnType := none }, accessFlags := 0, code := none }
def k18c1 : Code := { maxStack := 1, maxLocals := 1, code := jdk_52_method_2_code, exceptionTable := #[], attributes := #[] }
def k18m1 : Method := { name := "newBytesFor", desc := "(I)[B", sig := { parameters := [.int], returnType := some (.array .byte) }, accessFlags := 9, code := some k18c1 }
def k18c2 : Code := { maxStack := 4, maxLocals := 1, code := jdk_52_method_3_code, exceptionTable := #[], attributes := #[] }
def k18m2 : Method := { name := "newBytesLength", desc := "(I)I", sig := { parameters := [.int], returnType := some .int }, accessFlags := 9, code := some k18c2 }
def k18c3 : Code := { maxStack := 4, maxLocals := 3, code := jdk_52_method_4_code, exceptionTable := #[], attributes := #[] }
def k18m3 : Method := { name := "putChar", desc := "([BII)V", sig := { parameters := [(.array .byte), .int, .int], returnType := none }, accessFlags := 8, code := some k18c3 }
def k18c4 : Code := { maxStack := 3, maxLocals := 2, code := jdk_52_method_5_code, exceptionTable := #[], attributes := #[] }
def k18m4 : Method := { name := "getChar", desc := "([BI)C", sig := { parameters := [(.array .byte), .int], returnType := some .char }, accessFlags := 8, code := some k18c4 }
def k18c5 : Code := { maxStack := 2, maxLocals := 1, code := jdk_52_method_6_code, exceptionTable := #[], attributes := #[] }
def k18m5 : Method := { name := "length", desc := "([B)I", sig := { parameters := [(.array .byte)], returnType := some .int }, accessFlags := 9, code := some k18c5 }
def k18c6 : Code := { maxStack := 3, maxLocals := 2, code := jdk_52_method_24_code, exceptionTable := #[], attributes := #[] }
def k18m6 : Method := { name := "toBytes", desc := "(C)[B", sig := { parameters := [.char], returnType := some (.array .byte) }, accessFlags := 9, code := some k18c6 }
def k18c7 : Code := { maxStack := 2, maxLocals := 2, code := jdk_52_method_83_code, exceptionTable := #[], attributes := #[] }
def k18m7 : Method := { name := "charAt", desc := "([BI)C", sig := { parameters := [(.array .byte), .int], returnType := some .char }, accessFlags := 9, code := some k18c7 }
def k18c8 : Code := { maxStack := 4, maxLocals := 6, code := jdk_52_method_86_code, exceptionTable := #[], attributes := #[] }
def k18m8 : Method := { name := "inflate", desc := "([BI[BII)V", sig := { parameters := [(.array .byte), .int, (.array .byte), .int, .int], returnType := none }, accessFlags := 9, code := some k18c8 }
def k18c9 : Code := { maxStack := 2, maxLocals := 2, code := jdk_52_method_91_code, exceptionTable := #[], attributes := #[] }
def k18m9 : Method := { name := "checkIndex", desc := "(I[B)V", sig := { parameters := [.int, (.array .byte)], returnType := none }, accessFlags := 9, code := some k18c9 }
def k18c10 : Code := { maxStack := 3, maxLocals := 3, code := jdk_52_method_94_code, exceptionTable := #[], attributes := #[] }
def k18m10 : Method := { name := "checkBoundsOffCount", desc := "(II[B)V", sig := { parameters := [.int, .int, (.array .byte)], returnType := none }, accessFlags := 9, code := some k18c10 }
/-- java/lang/StringUTF16 -/
def k18 : Class := { plain "java/lang/StringUTF16" (some 0) with
  accessFlags := 48
  interfaces := #[]
  cf := some (fileOf pool18 12 #[.nestMembers #[627, 629, 369]] #[{ accessFlags := 0, nameIndex := 9, descriptorIndex := 10, attributes := #[] }, { accessFlags := 9, nameIndex := 109, descriptorIndex := 110, attributes := #[] }, { accessFlags := 9, nameIndex := 15, descriptorIndex := 16, attributes := #[] }, { accessFlags := 8, nameIndex := 113, descriptorIndex := 114, attributes := #[] }, { accessFlags := 8, nameIndex := 73, descriptorIndex := 74, attributes := #[] }, { accessFlags := 9, nameIndex := 50, descriptorIndex := 51, attributes := #[] }, { accessFlags := 9, nameIndex := 121, descriptorIndex := 475, attributes := #[] }, { accessFlags := 9, nameIndex := 392, descriptorIndex := 74, attributes := #[] }, { accessFlags := 9, nameIndex := 140, descriptorIndex := 141, attributes := #[] }, { accessFlags := 9, nameIndex := 69, descriptorIndex := 70, attributes := #[] }, { accessFlags := 9, nameIndex := 175, descriptorIndex := 99, attributes := #[] }] 48 6 #[] #[{ accessFlags := 26, nameIndex := 61, descriptorIndex := 62, attributes := #[] }, { accessFlags := 26, nameIndex := 65, descriptorIndex := 62, attributes := #[] }, { accessFlags := 24, nameIndex := 430, descriptorIndex := 62, attributes := #[] }, { accessFlags := 4120, nameIndex := 46, descriptorIndex := 47, attributes := #[] }])
  fields := #[{ name := "HI_BYTE_SHIFT", type := .int, accessFlags := 26, slot := 0, constantValue := 0 }, { name := "LO_BYTE_SHIFT", type := .int, accessFlags := 26, slot := 1, constantValue := 0 }, { name := "MAX_LENGTH", type := .int, accessFlags := 24, slot := 2, constantValue := 0 }, { name := "$assertionsDisabled", type := .boolean, accessFlags := 4120, slot := 3, constantValue := 0 }]
  methods := #[k18m0, k18m1, k18m2, k18m3, k18m4, k18m5, k18m6, k18m7, k18m8, k18m9, k18m10]
  instanceTypes := #[]
  staticTypes := #[.int, .int, .int, .boolean]
  resolved := Array.replicate 635 none
  statics := some 2 }

def pool19 : Array CpInfo := pool [(1, u "java/lang/Cloneable"), (0, .class_ 1), (0, u "java/lang/Object"), (0, .class_ 3)] 3

/-- java/lang/Cloneable -/
def k19 : Class := { plain "java/lang/Cloneable" (some 0) with
  accessFlags := 1537
  interfaces := #[]
  cf := some (fileOf pool19 2 #[] #[] 1537 4 #[] #[])
  fields := #[]
  methods := #[]
  instanceTypes := #[]
  staticTypes := #[]
  resolved := Array.replicate 8 none
  statics := none }

/-- the primitive byte -/
def k20 : Class := { plain "byte" none with kind := .primitive 'B', accessFlags := 0x411 }
/-- [B -/
def k21 : Class := { plain "[B" (some 0) with kind := .array 20 .byte, interfaces := #[19, 6], accessFlags := 1041 }

/-- the primitive int -/
def k22 : Class := { plain "int" none with kind := .primitive 'I', accessFlags := 0x411 }
/-- [I -/
def k23 : Class := { plain "[I" (some 0) with kind := .array 22 .int, interfaces := #[19, 6], accessFlags := 1041 }

def heap : Heap := #[{ cls := 11, slots := #[.long 0, .int 1, .null, .int 0, .null, .int 0, .int 0], vm := .statics 11 },
  { cls := 17, slots := #[.null, .null, .null], vm := .statics 17 },
  { cls := 18, slots := #[.int 0, .int 8, .int 0, .int 1], vm := .statics 18 }]
def classes : Array Class := #[k0, k1, k2, k3, k4, k5, k6, k7, k8, k9, k10, k11, k12, k13, k14, k15, k16, k17, k18, k19, k20, k21, k22, k23]
def interned : List (Array UInt16 × Addr) := []
def slotsUsed : Nat := 14
def theMethod : MethodId := ⟨1, 2⟩
def args0 : Array Value := #[.int 65, .int 300, .int 66, .int 7]
def aboutOver (below : List Frame) : State where
  vm := { classes := classes, interned := interned.toArray }
  heap := heap
  slotsUsed := slotsUsed
  threads := #[{ frames := .invoking theMethod args0 :: below }]
def below0 : List Frame := [.native { method := ⟨0, 0⟩, args := #[] }]
def about1 : State := aboutOver below0
def p0 : Program := .bare "" "" ""
def e0 : Env := launch0.env 0 0 0
theorem w_frames : about1.frames = Frame.invoking theMethod args0 :: below0 := rfl
set_option maxRecDepth 65536 in
theorem w_args : argsFit about1.vm theMethod args0 = true := by decide +kernel
set_option maxRecDepth 65536 in
theorem w_heap : heapFits about1 = true := by decide +kernel
set_option maxRecDepth 65536 in
theorem w_runnable : about1.curStatus? = some .runnable := by decide +kernel
set_option maxRecDepth 65536 in
theorem w_alone : about1.alone = true := by decide +kernel
set_option maxRecDepth 65536 in
theorem w_named : about1.methodNamed? x = some theMethod := by decide +kernel
set_option maxRecDepth 65536 in
theorem w_hears : about1.hears theMethod below0 = true := by decide +kernel
set_option maxRecDepth 65536 in
theorem w_ripe : about1.ripe theMethod args0 below0 = true := by decide +kernel
theorem w_running : about1.status = .running := rfl
set_option maxRecDepth 65536 in
theorem w_room : about1.hasRoom e0.platform room_1 = true :=
  launch0.hasRoom_least _ room_1 (by decide +kernel) (by decide +kernel) (by decide +kernel) (by decide +kernel) (by decide +kernel) (by decide +kernel)
theorem allAtoms_all (ts : List Jvm.Cond) (a : Array Jvm.Value) (st : Jvm.State) : (allAtoms ts).before a st = ts.all (fun c => c.before a st) := by
  induction ts with
  | nil => rfl
  | cons c t ih =>
    show (Jvm.Cond.and c (allAtoms t)).before a st = _
    rw [Jvm.Cond.before_and, ih, List.all_cons]
def words1 : List Jvm.Cond := Jvm.Cond.code x code maxLocals ret :: tables_1
/-- a 'code' word, met by the world's own term for the bytes: nothing is compared byte by byte -/
theorem code_word {y : MethodName} {bytes : ByteArray} {mx : Nat} {rt : Option FieldType} {a : Array Value} {s : State} {m : MethodId} {meth : Method} {c : Code} (h1 : s.methodNamed? y = some m) (h2 : s.vm.method? m = some meth) (h3 : meth.code = some c) (h4 : c.code = bytes)
    (h5 : (c.maxLocals == mx && c.exceptionTable.isEmpty && decide (c.maxStack ≤ mostOperands) && decide (meth.sig.returnType = rt) && !meth.locks && decide (parseMethodDescriptor y.desc = some meth.sig)) = true) : (Jvm.Cond.code y bytes mx rt).before a s = true := by
  simp only [Bool.and_eq_true, beq_iff_eq, Bool.not_eq_true', decide_eq_true_eq] at h5
  obtain ⟨⟨⟨⟨⟨g1, g2⟩, g3⟩, g4⟩, g5⟩, g6⟩ := h5
  simp [Cond.before, Cond.holds, Cond.value, h1, h2, h3, h4, g1, g2, g3, g4, g5, g6]
def isCode : Jvm.Cond → Bool
  | .code _ _ _ _ => true
  | _ => false
theorem all_split {L : List Jvm.Cond} {P : Jvm.Cond → Bool} (h1 : L.all (fun c => isCode c || P c) = true) (h2 : ∀ c ∈ L.filter isCode, P c = true) : L.all P = true := by
  refine List.all_eq_true.mpr fun c hc => ?_
  have h := List.all_eq_true.mp h1 c hc
  rcases Bool.eq_false_or_eq_true (isCode c) with hi | hi
  · exact h2 c (List.mem_filter.mpr ⟨hc, hi⟩)
  · simpa [hi] using h
set_option maxRecDepth 65536 in
theorem w_c0 : (Jvm.Cond.code x code maxLocals ret).before args0 about1 = true := code_word (m := ⟨1, 2⟩) (meth := k1m2) (c := k1c2) (by decide +kernel) rfl rfl rfl (by decide +kernel)
set_option maxRecDepth 65536 in
theorem w_c1 : (Jvm.Cond.code ({ cls := "com/example/dead_letter_replay/deadletterreplay/page/Html", name := "<init>", desc := "()V" } : Jvm.MethodName) prog_10_method_1_code (1 : Nat) (Option.none : Option Jvm.ClassFile.FieldType)).before args0 about1 = true := code_word (m := ⟨2, 0⟩) (meth := k2m0) (c := k2c0) (by decide +kernel) rfl rfl rfl (by decide +kernel)
set_option maxRecDepth 65536 in
theorem w_c2 : (Jvm.Cond.code ({ cls := "java/lang/Object", name := "<init>", desc := "()V" } : Jvm.MethodName) object_method_1_code (1 : Nat) (Option.none : Option Jvm.ClassFile.FieldType)).before args0 about1 = true := code_word (m := ⟨0, 0⟩) (meth := k0m0) (c := k0c0) (by decide +kernel) rfl rfl rfl (by decide +kernel)
set_option maxRecDepth 65536 in
theorem w_c3 : (Jvm.Cond.code ({ cls := "java/lang/StringBuilder", name := "<init>", desc := "()V" } : Jvm.MethodName) jdk_67_method_1_code (1 : Nat) (Option.none : Option Jvm.ClassFile.FieldType)).before args0 about1 = true := code_word (m := ⟨8, 0⟩) (meth := k8m0) (c := k8c0) (by decide +kernel) rfl rfl rfl (by decide +kernel)
set_option maxRecDepth 65536 in
theorem w_c4 : (Jvm.Cond.code ({ cls := "java/lang/AbstractStringBuilder", name := "<init>", desc := "(I)V" } : Jvm.MethodName) jdk_68_method_2_code (2 : Nat) (Option.none : Option Jvm.ClassFile.FieldType)).before args0 about1 = true := code_word (m := ⟨5, 1⟩) (meth := k5m1) (c := k5c1) (by decide +kernel) rfl rfl rfl (by decide +kernel)
set_option maxRecDepth 65536 in
theorem w_c5 : (Jvm.Cond.code ({ cls := "java/lang/String", name := "valueOf", desc := "(C)Ljava/lang/String;" } : Jvm.MethodName) jdk_42_method_139_code (1 : Nat) (Option.some (Jvm.ClassFile.FieldType.object "java/lang/String"))).before args0 about1 = true := code_word (m := ⟨11, 4⟩) (meth := k11m4) (c := k11c4) (by decide +kernel) rfl rfl rfl (by decide +kernel)
set_option maxRecDepth 65536 in
theorem w_c6 : (Jvm.Cond.code ({ cls := "java/lang/StringLatin1", name := "canEncode", desc := "(C)Z" } : Jvm.MethodName) jdk_43_method_3_code (1 : Nat) (Option.some Jvm.ClassFile.FieldType.boolean)).before args0 about1 = true := code_word (m := ⟨12, 2⟩) (meth := k12m2) (c := k12c2) (by decide +kernel) rfl rfl rfl (by decide +kernel)
set_option maxRecDepth 65536 in
theorem w_c7 : (Jvm.Cond.code ({ cls := "java/lang/StringLatin1", name := "toBytes", desc := "(C)[B" } : Jvm.MethodName) jdk_43_method_46_code (1 : Nat) (Option.some (Jvm.ClassFile.FieldType.array Jvm.ClassFile.FieldType.byte))).before args0 about1 = true := code_word (m := ⟨12, 3⟩) (meth := k12m3) (c := k12c3) (by decide +kernel) rfl rfl rfl (by decide +kernel)
set_option maxRecDepth 65536 in
theorem w_c8 : (Jvm.Cond.code ({ cls := "java/lang/String", name := "<init>", desc := "([BB)V" } : Jvm.MethodName) jdk_42_method_151_code (3 : Nat) (Option.none : Option Jvm.ClassFile.FieldType)).before args0 about1 = true := code_word (m := ⟨11, 7⟩) (meth := k11m7) (c := k11c7) (by decide +kernel) rfl rfl rfl (by decide +kernel)
set_option maxRecDepth 65536 in
theorem w_c9 : (Jvm.Cond.code ({ cls := "com/example/dead_letter_replay/deadletterreplay/page/Html", name := "raw", desc := "(Ljava/lang/String;)Lcom/example/dead_letter_replay/deadletterreplay/page/Html;" } : Jvm.MethodName) prog_10_method_3_code (2 : Nat) (Option.some (Jvm.ClassFile.FieldType.object "com/example/dead_letter_replay/deadletterreplay/page/Html"))).before args0 about1 = true := code_word (m := ⟨2, 1⟩) (meth := k2m1) (c := k2c1) (by decide +kernel) rfl rfl rfl (by decide +kernel)
set_option maxRecDepth 65536 in
theorem w_c10 : (Jvm.Cond.code ({ cls := "java/lang/StringBuilder", name := "append", desc := "(Ljava/lang/String;)Ljava/lang/StringBuilder;" } : Jvm.MethodName) jdk_67_method_7_code (2 : Nat) (Option.some (Jvm.ClassFile.FieldType.object "java/lang/StringBuilder"))).before args0 about1 = true := code_word (m := ⟨8, 1⟩) (meth := k8m1) (c := k8c1) (by decide +kernel) rfl rfl rfl (by decide +kernel)
set_option maxRecDepth 65536 in
theorem w_c11 : (Jvm.Cond.code ({ cls := "java/lang/AbstractStringBuilder", name := "append", desc := "(Ljava/lang/String;)Ljava/lang/AbstractStringBuilder;" } : Jvm.MethodName) jdk_68_method_22_code (3 : Nat) (Option.some (Jvm.ClassFile.FieldType.object "java/lang/AbstractStringBuilder"))).before args0 about1 = true := code_word (m := ⟨5, 6⟩) (meth := k5m6) (c := k5c6) (by decide +kernel) rfl rfl rfl (by decide +kernel)
set_option maxRecDepth 65536 in
theorem w_c12 : (Jvm.Cond.code ({ cls := "java/lang/String", name := "length", desc := "()I" } : Jvm.MethodName) jdk_42_method_54_code (1 : Nat) (Option.some Jvm.ClassFile.FieldType.int)).before args0 about1 = true := code_word (m := ⟨11, 2⟩) (meth := k11m2) (c := k11c2) (by decide +kernel) rfl rfl rfl (by decide +kernel)
set_option maxRecDepth 65536 in
theorem w_c13 : (Jvm.Cond.code ({ cls := "java/lang/String", name := "coder", desc := "()B" } : Jvm.MethodName) jdk_42_method_152_code (1 : Nat) (Option.some Jvm.ClassFile.FieldType.byte)).before args0 about1 = true := code_word (m := ⟨11, 8⟩) (meth := k11m8) (c := k11c8) (by decide +kernel) rfl rfl rfl (by decide +kernel)
set_option maxRecDepth 65536 in
theorem w_c14 : (Jvm.Cond.code ({ cls := "java/lang/AbstractStringBuilder", name := "ensureCapacityInternal", desc := "(I)V" } : Jvm.MethodName) jdk_68_method_9_code (3 : Nat) (Option.none : Option Jvm.ClassFile.FieldType)).before args0 about1 = true := code_word (m := ⟨5, 3⟩) (meth := k5m3) (c := k5c3) (by decide +kernel) rfl rfl rfl (by decide +kernel)
set_option maxRecDepth 65536 in
theorem w_c15 : (Jvm.Cond.code ({ cls := "java/lang/AbstractStringBuilder", name := "putStringAt", desc := "(ILjava/lang/String;)V" } : Jvm.MethodName) jdk_68_method_73_code (3 : Nat) (Option.none : Option Jvm.ClassFile.FieldType)).before args0 about1 = true := code_word (m := ⟨5, 10⟩) (meth := k5m10) (c := k5c10) (by decide +kernel) rfl rfl rfl (by decide +kernel)
set_option maxRecDepth 65536 in
theorem w_c16 : (Jvm.Cond.code ({ cls := "java/lang/AbstractStringBuilder", name := "inflateIfNeededFor", desc := "(Ljava/lang/String;)V" } : Jvm.MethodName) jdk_68_method_71_code (2 : Nat) (Option.none : Option Jvm.ClassFile.FieldType)).before args0 about1 = true := code_word (m := ⟨5, 9⟩) (meth := k5m9) (c := k5c9) (by decide +kernel) rfl rfl rfl (by decide +kernel)
set_option maxRecDepth 65536 in
theorem w_c17 : (Jvm.Cond.code ({ cls := "java/lang/String", name := "getBytes", desc := "([BIB)V" } : Jvm.MethodName) jdk_42_method_147_code (4 : Nat) (Option.none : Option Jvm.ClassFile.FieldType)).before args0 about1 = true := code_word (m := ⟨11, 5⟩) (meth := k11m5) (c := k11c5) (by decide +kernel) rfl rfl rfl (by decide +kernel)
set_option maxRecDepth 65536 in
theorem w_c18 : (Jvm.Cond.code ({ cls := "com/example/dead_letter_replay/deadletterreplay/page/Html", name := "end", desc := "()Ljava/lang/String;" } : Jvm.MethodName) prog_10_method_8_code (1 : Nat) (Option.some (Jvm.ClassFile.FieldType.object "java/lang/String"))).before args0 about1 = true := code_word (m := ⟨2, 2⟩) (meth := k2m2) (c := k2c2) (by decide +kernel) rfl rfl rfl (by decide +kernel)
set_option maxRecDepth 65536 in
theorem w_c19 : (Jvm.Cond.code ({ cls := "java/lang/AbstractStringBuilder", name := "newCapacity", desc := "(I)I" } : Jvm.MethodName) jdk_68_method_10_code (6 : Nat) (Option.some Jvm.ClassFile.FieldType.int)).before args0 about1 = true := code_word (m := ⟨5, 4⟩) (meth := k5m4) (c := k5c4) (by decide +kernel) rfl rfl rfl (by decide +kernel)
set_option maxRecDepth 65536 in
theorem w_c20 : (Jvm.Cond.code ({ cls := "jdk/internal/util/ArraysSupport", name := "newLength", desc := "(III)I" } : Jvm.MethodName) jdk_48_method_27_code (4 : Nat) (Option.some Jvm.ClassFile.FieldType.int)).before args0 about1 = true := code_word (m := ⟨14, 1⟩) (meth := k14m1) (c := k14c1) (by decide +kernel) rfl rfl rfl (by decide +kernel)
set_option maxRecDepth 65536 in
theorem w_c21 : (Jvm.Cond.code ({ cls := "java/lang/Math", name := "max", desc := "(II)I" } : Jvm.MethodName) jdk_29_method_65_code (2 : Nat) (Option.some Jvm.ClassFile.FieldType.int)).before args0 about1 = true := code_word (m := ⟨15, 1⟩) (meth := k15m1) (c := k15c1) (by decide +kernel) rfl rfl rfl (by decide +kernel)
set_option maxRecDepth 65536 in
theorem w_c22 : (Jvm.Cond.code ({ cls := "java/util/Arrays", name := "copyOf", desc := "([BI)[B" } : Jvm.MethodName) jdk_65_method_121_code (3 : Nat) (Option.some (Jvm.ClassFile.FieldType.array Jvm.ClassFile.FieldType.byte))).before args0 about1 = true := code_word (m := ⟨16, 1⟩) (meth := k16m1) (c := k16c1) (by decide +kernel) rfl rfl rfl (by decide +kernel)
set_option maxRecDepth 65536 in
theorem w_c23 : (Jvm.Cond.code ({ cls := "java/lang/Math", name := "min", desc := "(II)I" } : Jvm.MethodName) jdk_29_method_69_code (2 : Nat) (Option.some Jvm.ClassFile.FieldType.int)).before args0 about1 = true := code_word (m := ⟨15, 2⟩) (meth := k15m2) (c := k15c2) (by decide +kernel) rfl rfl rfl (by decide +kernel)
set_option maxRecDepth 65536 in
theorem w_c24 : (Jvm.Cond.code ({ cls := "java/lang/StringBuilder", name := "toString", desc := "()Ljava/lang/String;" } : Jvm.MethodName) jdk_67_method_42_code (1 : Nat) (Option.some (Jvm.ClassFile.FieldType.object "java/lang/String"))).before args0 about1 = true := code_word (m := ⟨8, 2⟩) (meth := k8m2) (c := k8c2) (by decide +kernel) rfl rfl rfl (by decide +kernel)
set_option maxRecDepth 65536 in
theorem w_c25 : (Jvm.Cond.code ({ cls := "java/lang/String", name := "<init>", desc := "(Ljava/lang/StringBuilder;)V" } : Jvm.MethodName) jdk_42_method_53_code (2 : Nat) (Option.none : Option Jvm.ClassFile.FieldType)).before args0 about1 = true := code_word (m := ⟨11, 1⟩) (meth := k11m1) (c := k11c1) (by decide +kernel) rfl rfl rfl (by decide +kernel)
set_option maxRecDepth 65536 in
theorem w_c26 : (Jvm.Cond.code ({ cls := "java/lang/String", name := "<init>", desc := "(Ljava/lang/AbstractStringBuilder;Ljava/lang/Void;)V" } : Jvm.MethodName) jdk_42_method_150_code (5 : Nat) (Option.none : Option Jvm.ClassFile.FieldType)).before args0 about1 = true := code_word (m := ⟨11, 6⟩) (meth := k11m6) (c := k11c6) (by decide +kernel) rfl rfl rfl (by decide +kernel)
set_option maxRecDepth 65536 in
theorem w_c27 : (Jvm.Cond.code ({ cls := "java/lang/AbstractStringBuilder", name := "getValue", desc := "()[B" } : Jvm.MethodName) jdk_68_method_64_code (1 : Nat) (Option.some (Jvm.ClassFile.FieldType.array Jvm.ClassFile.FieldType.byte))).before args0 about1 = true := code_word (m := ⟨5, 7⟩) (meth := k5m7) (c := k5c7) (by decide +kernel) rfl rfl rfl (by decide +kernel)
set_option maxRecDepth 65536 in
theorem w_c28 : (Jvm.Cond.code ({ cls := "java/lang/StringBuilder", name := "length", desc := "()I" } : Jvm.MethodName) jdk_67_method_93_code (1 : Nat) (Option.some Jvm.ClassFile.FieldType.int)).before args0 about1 = true := code_word (m := ⟨8, 3⟩) (meth := k8m3) (c := k8c3) (by decide +kernel) rfl rfl rfl (by decide +kernel)
set_option maxRecDepth 65536 in
theorem w_c29 : (Jvm.Cond.code ({ cls := "java/lang/AbstractStringBuilder", name := "length", desc := "()I" } : Jvm.MethodName) jdk_68_method_6_code (1 : Nat) (Option.some Jvm.ClassFile.FieldType.int)).before args0 about1 = true := code_word (m := ⟨5, 2⟩) (meth := k5m2) (c := k5c2) (by decide +kernel) rfl rfl rfl (by decide +kernel)
set_option maxRecDepth 65536 in
theorem w_c30 : (Jvm.Cond.code ({ cls := "java/lang/AbstractStringBuilder", name := "isLatin1", desc := "()Z" } : Jvm.MethodName) jdk_68_method_68_code (1 : Nat) (Option.some Jvm.ClassFile.FieldType.boolean)).before args0 about1 = true := code_word (m := ⟨5, 8⟩) (meth := k5m8) (c := k5c8) (by decide +kernel) rfl rfl rfl (by decide +kernel)
set_option maxRecDepth 65536 in
theorem w_c31 : (Jvm.Cond.code ({ cls := "java/util/Arrays", name := "copyOfRange", desc := "([BII)[B" } : Jvm.MethodName) jdk_65_method_132_code (3 : Nat) (Option.some (Jvm.ClassFile.FieldType.array Jvm.ClassFile.FieldType.byte))).before args0 about1 = true := code_word (m := ⟨16, 3⟩) (meth := k16m3) (c := k16c3) (by decide +kernel) rfl rfl rfl (by decide +kernel)
set_option maxRecDepth 65536 in
theorem w_c32 : (Jvm.Cond.code ({ cls := "java/util/Arrays", name := "copyOfRangeByte", desc := "([BII)[B" } : Jvm.MethodName) jdk_65_method_133_code (5 : Nat) (Option.some (Jvm.ClassFile.FieldType.array Jvm.ClassFile.FieldType.byte))).before args0 about1 = true := code_word (m := ⟨16, 4⟩) (meth := k16m4) (c := k16c4) (by decide +kernel) rfl rfl rfl (by decide +kernel)
set_option maxRecDepth 65536 in
theorem w_c33 : (Jvm.Cond.code ({ cls := "java/util/Arrays", name := "checkLength", desc := "(II)V" } : Jvm.MethodName) jdk_65_method_131_code (2 : Nat) (Option.none : Option Jvm.ClassFile.FieldType)).before args0 about1 = true := code_word (m := ⟨16, 2⟩) (meth := k16m2) (c := k16c2) (by decide +kernel) rfl rfl rfl (by decide +kernel)
set_option maxRecDepth 65536 in
theorem w_c34 : (Jvm.Cond.code ({ cls := "java/lang/String", name := "charAt", desc := "(I)C" } : Jvm.MethodName) jdk_42_method_56_code (2 : Nat) (Option.some Jvm.ClassFile.FieldType.char)).before args0 about1 = true := code_word (m := ⟨11, 3⟩) (meth := k11m3) (c := k11c3) (by decide +kernel) rfl rfl rfl (by decide +kernel)
set_option maxRecDepth 65536 in
theorem w_c35 : (Jvm.Cond.code ({ cls := "java/lang/String", name := "isLatin1", desc := "()Z" } : Jvm.MethodName) jdk_42_method_154_code (1 : Nat) (Option.some Jvm.ClassFile.FieldType.boolean)).before args0 about1 = true := code_word (m := ⟨11, 9⟩) (meth := k11m9) (c := k11c9) (by decide +kernel) rfl rfl rfl (by decide +kernel)
set_option maxRecDepth 65536 in
theorem w_c36 : (Jvm.Cond.code ({ cls := "java/lang/StringLatin1", name := "charAt", desc := "([BI)C" } : Jvm.MethodName) jdk_43_method_2_code (2 : Nat) (Option.some Jvm.ClassFile.FieldType.char)).before args0 about1 = true := code_word (m := ⟨12, 1⟩) (meth := k12m1) (c := k12c1) (by decide +kernel) rfl rfl rfl (by decide +kernel)
set_option maxRecDepth 65536 in
theorem w_c37 : (Jvm.Cond.code ({ cls := "java/lang/String", name := "checkIndex", desc := "(II)V" } : Jvm.MethodName) jdk_42_method_155_code (2 : Nat) (Option.none : Option Jvm.ClassFile.FieldType)).before args0 about1 = true := code_word (m := ⟨11, 10⟩) (meth := k11m10) (c := k11c10) (by decide +kernel) rfl rfl rfl (by decide +kernel)
set_option maxRecDepth 65536 in
theorem w_c38 : (Jvm.Cond.code ({ cls := "jdk/internal/util/Preconditions", name := "checkIndex", desc := "(IILjava/util/function/BiFunction;)I" } : Jvm.MethodName) jdk_41_method_11_code (3 : Nat) (Option.some Jvm.ClassFile.FieldType.int)).before args0 about1 = true := code_word (m := ⟨17, 1⟩) (meth := k17m1) (c := k17c1) (by decide +kernel) rfl rfl rfl (by decide +kernel)
set_option maxRecDepth 65536 in
theorem w_c39 : (Jvm.Cond.code ({ cls := "com/example/dead_letter_replay/deadletterreplay/page/HtmlEndPinLaw", name := "at", desc := "(Ljava/lang/String;ILjava/lang/String;I)Z" } : Jvm.MethodName) method_2_code (4 : Nat) (Option.some Jvm.ClassFile.FieldType.boolean)).before args0 about1 = true := code_word (m := ⟨1, 1⟩) (meth := k1m1) (c := k1c1) (by decide +kernel) rfl rfl rfl (by decide +kernel)
set_option maxRecDepth 65536 in
theorem w_c40 : (Jvm.Cond.code ({ cls := "java/lang/StringUTF16", name := "toBytes", desc := "(C)[B" } : Jvm.MethodName) jdk_52_method_24_code (2 : Nat) (Option.some (Jvm.ClassFile.FieldType.array Jvm.ClassFile.FieldType.byte))).before args0 about1 = true := code_word (m := ⟨18, 6⟩) (meth := k18m6) (c := k18c6) (by decide +kernel) rfl rfl rfl (by decide +kernel)
set_option maxRecDepth 65536 in
theorem w_c41 : (Jvm.Cond.code ({ cls := "java/lang/StringUTF16", name := "putChar", desc := "([BII)V" } : Jvm.MethodName) jdk_52_method_4_code (3 : Nat) (Option.none : Option Jvm.ClassFile.FieldType)).before args0 about1 = true := code_word (m := ⟨18, 3⟩) (meth := k18m3) (c := k18c3) (by decide +kernel) rfl rfl rfl (by decide +kernel)
set_option maxRecDepth 65536 in
theorem w_c42 : (Jvm.Cond.code ({ cls := "java/lang/AbstractStringBuilder", name := "inflate", desc := "()V" } : Jvm.MethodName) jdk_68_method_11_code (2 : Nat) (Option.none : Option Jvm.ClassFile.FieldType)).before args0 about1 = true := code_word (m := ⟨5, 5⟩) (meth := k5m5) (c := k5c5) (by decide +kernel) rfl rfl rfl (by decide +kernel)
set_option maxRecDepth 65536 in
theorem w_c43 : (Jvm.Cond.code ({ cls := "java/lang/StringUTF16", name := "newBytesFor", desc := "(I)[B" } : Jvm.MethodName) jdk_52_method_2_code (1 : Nat) (Option.some (Jvm.ClassFile.FieldType.array Jvm.ClassFile.FieldType.byte))).before args0 about1 = true := code_word (m := ⟨18, 1⟩) (meth := k18m1) (c := k18c1) (by decide +kernel) rfl rfl rfl (by decide +kernel)
set_option maxRecDepth 65536 in
theorem w_c44 : (Jvm.Cond.code ({ cls := "java/lang/StringUTF16", name := "newBytesLength", desc := "(I)I" } : Jvm.MethodName) jdk_52_method_3_code (1 : Nat) (Option.some Jvm.ClassFile.FieldType.int)).before args0 about1 = true := code_word (m := ⟨18, 2⟩) (meth := k18m2) (c := k18c2) (by decide +kernel) rfl rfl rfl (by decide +kernel)
set_option maxRecDepth 65536 in
theorem w_c45 : (Jvm.Cond.code ({ cls := "java/lang/StringLatin1", name := "inflate", desc := "([BI[BII)V" } : Jvm.MethodName) jdk_43_method_50_code (5 : Nat) (Option.none : Option Jvm.ClassFile.FieldType)).before args0 about1 = true := code_word (m := ⟨12, 4⟩) (meth := k12m4) (c := k12c4) (by decide +kernel) rfl rfl rfl (by decide +kernel)
set_option maxRecDepth 65536 in
theorem w_c46 : (Jvm.Cond.code ({ cls := "java/lang/StringUTF16", name := "inflate", desc := "([BI[BII)V" } : Jvm.MethodName) jdk_52_method_86_code (6 : Nat) (Option.none : Option Jvm.ClassFile.FieldType)).before args0 about1 = true := code_word (m := ⟨18, 8⟩) (meth := k18m8) (c := k18c8) (by decide +kernel) rfl rfl rfl (by decide +kernel)
set_option maxRecDepth 65536 in
theorem w_c47 : (Jvm.Cond.code ({ cls := "java/lang/StringUTF16", name := "checkBoundsOffCount", desc := "(II[B)V" } : Jvm.MethodName) jdk_52_method_94_code (3 : Nat) (Option.none : Option Jvm.ClassFile.FieldType)).before args0 about1 = true := code_word (m := ⟨18, 10⟩) (meth := k18m10) (c := k18c10) (by decide +kernel) rfl rfl rfl (by decide +kernel)
set_option maxRecDepth 65536 in
theorem w_c48 : (Jvm.Cond.code ({ cls := "java/lang/StringUTF16", name := "length", desc := "([B)I" } : Jvm.MethodName) jdk_52_method_6_code (1 : Nat) (Option.some Jvm.ClassFile.FieldType.int)).before args0 about1 = true := code_word (m := ⟨18, 5⟩) (meth := k18m5) (c := k18c5) (by decide +kernel) rfl rfl rfl (by decide +kernel)
set_option maxRecDepth 65536 in
theorem w_c49 : (Jvm.Cond.code ({ cls := "java/lang/String", name := "checkBoundsOffCount", desc := "(III)I" } : Jvm.MethodName) jdk_42_method_157_code (3 : Nat) (Option.some Jvm.ClassFile.FieldType.int)).before args0 about1 = true := code_word (m := ⟨11, 11⟩) (meth := k11m11) (c := k11c11) (by decide +kernel) rfl rfl rfl (by decide +kernel)
set_option maxRecDepth 65536 in
theorem w_c50 : (Jvm.Cond.code ({ cls := "jdk/internal/util/Preconditions", name := "checkFromIndexSize", desc := "(IIILjava/util/function/BiFunction;)I" } : Jvm.MethodName) jdk_41_method_13_code (4 : Nat) (Option.some Jvm.ClassFile.FieldType.int)).before args0 about1 = true := code_word (m := ⟨17, 2⟩) (meth := k17m2) (c := k17c2) (by decide +kernel) rfl rfl rfl (by decide +kernel)
set_option maxRecDepth 65536 in
theorem w_c51 : (Jvm.Cond.code ({ cls := "java/lang/StringUTF16", name := "charAt", desc := "([BI)C" } : Jvm.MethodName) jdk_52_method_83_code (2 : Nat) (Option.some Jvm.ClassFile.FieldType.char)).before args0 about1 = true := code_word (m := ⟨18, 7⟩) (meth := k18m7) (c := k18c7) (by decide +kernel) rfl rfl rfl (by decide +kernel)
set_option maxRecDepth 65536 in
theorem w_c52 : (Jvm.Cond.code ({ cls := "java/lang/StringUTF16", name := "checkIndex", desc := "(I[B)V" } : Jvm.MethodName) jdk_52_method_91_code (2 : Nat) (Option.none : Option Jvm.ClassFile.FieldType)).before args0 about1 = true := code_word (m := ⟨18, 9⟩) (meth := k18m9) (c := k18c9) (by decide +kernel) rfl rfl rfl (by decide +kernel)
set_option maxRecDepth 65536 in
theorem w_c53 : (Jvm.Cond.code ({ cls := "java/lang/StringUTF16", name := "getChar", desc := "([BI)C" } : Jvm.MethodName) jdk_52_method_5_code (2 : Nat) (Option.some Jvm.ClassFile.FieldType.char)).before args0 about1 = true := code_word (m := ⟨18, 4⟩) (meth := k18m4) (c := k18c4) (by decide +kernel) rfl rfl rfl (by decide +kernel)
def codes1 : List Jvm.Cond := [Jvm.Cond.code x code maxLocals ret, Jvm.Cond.code ({ cls := "com/example/dead_letter_replay/deadletterreplay/page/Html", name := "<init>", desc := "()V" } : Jvm.MethodName) prog_10_method_1_code (1 : Nat) (Option.none : Option Jvm.ClassFile.FieldType), Jvm.Cond.code ({ cls := "java/lang/Object", name := "<init>", desc := "()V" } : Jvm.MethodName) object_method_1_code (1 : Nat) (Option.none : Option Jvm.ClassFile.FieldType), Jvm.Cond.code ({ cls := "java/lang/StringBuilder", name := "<init>", desc := "()V" } : Jvm.MethodName) jdk_67_method_1_code (1 : Nat) (Option.none : Option Jvm.ClassFile.FieldType), Jvm.Cond.code ({ cls := "java/lang/AbstractStringBuilder", name := "<init>", desc := "(I)V" } : Jvm.MethodName) jdk_68_method_2_code (2 : Nat) (Option.none : Option Jvm.ClassFile.FieldType), Jvm.Cond.code ({ cls := "java/lang/String", name := "valueOf", desc := "(C)Ljava/lang/String;" } : Jvm.MethodName) jdk_42_method_139_code (1 : Nat) (Option.some (Jvm.ClassFile.FieldType.object "java/lang/String")), Jvm.Cond.code ({ cls := "java/lang/StringLatin1", name := "canEncode", desc := "(C)Z" } : Jvm.MethodName) jdk_43_method_3_code (1 : Nat) (Option.some Jvm.ClassFile.FieldType.boolean), Jvm.Cond.code ({ cls := "java/lang/StringLatin1", name := "toBytes", desc := "(C)[B" } : Jvm.MethodName) jdk_43_method_46_code (1 : Nat) (Option.some (Jvm.ClassFile.FieldType.array Jvm.ClassFile.FieldType.byte)), Jvm.Cond.code ({ cls := "java/lang/String", name := "<init>", desc := "([BB)V" } : Jvm.MethodName) jdk_42_method_151_code (3 : Nat) (Option.none : Option Jvm.ClassFile.FieldType), Jvm.Cond.code ({ cls := "com/example/dead_letter_replay/deadletterreplay/page/Html", name := "raw", desc := "(Ljava/lang/String;)Lcom/example/dead_letter_replay/deadletterreplay/page/Html;" } : Jvm.MethodName) prog_10_method_3_code (2 : Nat) (Option.some (Jvm.ClassFile.FieldType.object "com/example/dead_letter_replay/deadletterreplay/page/Html")), Jvm.Cond.code ({ cls := "java/lang/StringBuilder", name := "append", desc := "(Ljava/lang/String;)Ljava/lang/StringBuilder;" } : Jvm.MethodName) jdk_67_method_7_code (2 : Nat) (Option.some (Jvm.ClassFile.FieldType.object "java/lang/StringBuilder")), Jvm.Cond.code ({ cls := "java/lang/AbstractStringBuilder", name := "append", desc := "(Ljava/lang/String;)Ljava/lang/AbstractStringBuilder;" } : Jvm.MethodName) jdk_68_method_22_code (3 : Nat) (Option.some (Jvm.ClassFile.FieldType.object "java/lang/AbstractStringBuilder")), Jvm.Cond.code ({ cls := "java/lang/String", name := "length", desc := "()I" } : Jvm.MethodName) jdk_42_method_54_code (1 : Nat) (Option.some Jvm.ClassFile.FieldType.int), Jvm.Cond.code ({ cls := "java/lang/String", name := "coder", desc := "()B" } : Jvm.MethodName) jdk_42_method_152_code (1 : Nat) (Option.some Jvm.ClassFile.FieldType.byte), Jvm.Cond.code ({ cls := "java/lang/AbstractStringBuilder", name := "ensureCapacityInternal", desc := "(I)V" } : Jvm.MethodName) jdk_68_method_9_code (3 : Nat) (Option.none : Option Jvm.ClassFile.FieldType), Jvm.Cond.code ({ cls := "java/lang/AbstractStringBuilder", name := "putStringAt", desc := "(ILjava/lang/String;)V" } : Jvm.MethodName) jdk_68_method_73_code (3 : Nat) (Option.none : Option Jvm.ClassFile.FieldType), Jvm.Cond.code ({ cls := "java/lang/AbstractStringBuilder", name := "inflateIfNeededFor", desc := "(Ljava/lang/String;)V" } : Jvm.MethodName) jdk_68_method_71_code (2 : Nat) (Option.none : Option Jvm.ClassFile.FieldType), Jvm.Cond.code ({ cls := "java/lang/String", name := "getBytes", desc := "([BIB)V" } : Jvm.MethodName) jdk_42_method_147_code (4 : Nat) (Option.none : Option Jvm.ClassFile.FieldType), Jvm.Cond.code ({ cls := "com/example/dead_letter_replay/deadletterreplay/page/Html", name := "end", desc := "()Ljava/lang/String;" } : Jvm.MethodName) prog_10_method_8_code (1 : Nat) (Option.some (Jvm.ClassFile.FieldType.object "java/lang/String")), Jvm.Cond.code ({ cls := "java/lang/AbstractStringBuilder", name := "newCapacity", desc := "(I)I" } : Jvm.MethodName) jdk_68_method_10_code (6 : Nat) (Option.some Jvm.ClassFile.FieldType.int), Jvm.Cond.code ({ cls := "jdk/internal/util/ArraysSupport", name := "newLength", desc := "(III)I" } : Jvm.MethodName) jdk_48_method_27_code (4 : Nat) (Option.some Jvm.ClassFile.FieldType.int), Jvm.Cond.code ({ cls := "java/lang/Math", name := "max", desc := "(II)I" } : Jvm.MethodName) jdk_29_method_65_code (2 : Nat) (Option.some Jvm.ClassFile.FieldType.int), Jvm.Cond.code ({ cls := "java/util/Arrays", name := "copyOf", desc := "([BI)[B" } : Jvm.MethodName) jdk_65_method_121_code (3 : Nat) (Option.some (Jvm.ClassFile.FieldType.array Jvm.ClassFile.FieldType.byte)), Jvm.Cond.code ({ cls := "java/lang/Math", name := "min", desc := "(II)I" } : Jvm.MethodName) jdk_29_method_69_code (2 : Nat) (Option.some Jvm.ClassFile.FieldType.int), Jvm.Cond.code ({ cls := "java/lang/StringBuilder", name := "toString", desc := "()Ljava/lang/String;" } : Jvm.MethodName) jdk_67_method_42_code (1 : Nat) (Option.some (Jvm.ClassFile.FieldType.object "java/lang/String")), Jvm.Cond.code ({ cls := "java/lang/String", name := "<init>", desc := "(Ljava/lang/StringBuilder;)V" } : Jvm.MethodName) jdk_42_method_53_code (2 : Nat) (Option.none : Option Jvm.ClassFile.FieldType), Jvm.Cond.code ({ cls := "java/lang/String", name := "<init>", desc := "(Ljava/lang/AbstractStringBuilder;Ljava/lang/Void;)V" } : Jvm.MethodName) jdk_42_method_150_code (5 : Nat) (Option.none : Option Jvm.ClassFile.FieldType), Jvm.Cond.code ({ cls := "java/lang/AbstractStringBuilder", name := "getValue", desc := "()[B" } : Jvm.MethodName) jdk_68_method_64_code (1 : Nat) (Option.some (Jvm.ClassFile.FieldType.array Jvm.ClassFile.FieldType.byte)), Jvm.Cond.code ({ cls := "java/lang/StringBuilder", name := "length", desc := "()I" } : Jvm.MethodName) jdk_67_method_93_code (1 : Nat) (Option.some Jvm.ClassFile.FieldType.int), Jvm.Cond.code ({ cls := "java/lang/AbstractStringBuilder", name := "length", desc := "()I" } : Jvm.MethodName) jdk_68_method_6_code (1 : Nat) (Option.some Jvm.ClassFile.FieldType.int), Jvm.Cond.code ({ cls := "java/lang/AbstractStringBuilder", name := "isLatin1", desc := "()Z" } : Jvm.MethodName) jdk_68_method_68_code (1 : Nat) (Option.some Jvm.ClassFile.FieldType.boolean), Jvm.Cond.code ({ cls := "java/util/Arrays", name := "copyOfRange", desc := "([BII)[B" } : Jvm.MethodName) jdk_65_method_132_code (3 : Nat) (Option.some (Jvm.ClassFile.FieldType.array Jvm.ClassFile.FieldType.byte)), Jvm.Cond.code ({ cls := "java/util/Arrays", name := "copyOfRangeByte", desc := "([BII)[B" } : Jvm.MethodName) jdk_65_method_133_code (5 : Nat) (Option.some (Jvm.ClassFile.FieldType.array Jvm.ClassFile.FieldType.byte)), Jvm.Cond.code ({ cls := "java/util/Arrays", name := "checkLength", desc := "(II)V" } : Jvm.MethodName) jdk_65_method_131_code (2 : Nat) (Option.none : Option Jvm.ClassFile.FieldType), Jvm.Cond.code ({ cls := "java/lang/String", name := "charAt", desc := "(I)C" } : Jvm.MethodName) jdk_42_method_56_code (2 : Nat) (Option.some Jvm.ClassFile.FieldType.char), Jvm.Cond.code ({ cls := "java/lang/String", name := "isLatin1", desc := "()Z" } : Jvm.MethodName) jdk_42_method_154_code (1 : Nat) (Option.some Jvm.ClassFile.FieldType.boolean), Jvm.Cond.code ({ cls := "java/lang/StringLatin1", name := "charAt", desc := "([BI)C" } : Jvm.MethodName) jdk_43_method_2_code (2 : Nat) (Option.some Jvm.ClassFile.FieldType.char), Jvm.Cond.code ({ cls := "java/lang/String", name := "checkIndex", desc := "(II)V" } : Jvm.MethodName) jdk_42_method_155_code (2 : Nat) (Option.none : Option Jvm.ClassFile.FieldType), Jvm.Cond.code ({ cls := "jdk/internal/util/Preconditions", name := "checkIndex", desc := "(IILjava/util/function/BiFunction;)I" } : Jvm.MethodName) jdk_41_method_11_code (3 : Nat) (Option.some Jvm.ClassFile.FieldType.int), Jvm.Cond.code ({ cls := "com/example/dead_letter_replay/deadletterreplay/page/HtmlEndPinLaw", name := "at", desc := "(Ljava/lang/String;ILjava/lang/String;I)Z" } : Jvm.MethodName) method_2_code (4 : Nat) (Option.some Jvm.ClassFile.FieldType.boolean), Jvm.Cond.code ({ cls := "java/lang/StringUTF16", name := "toBytes", desc := "(C)[B" } : Jvm.MethodName) jdk_52_method_24_code (2 : Nat) (Option.some (Jvm.ClassFile.FieldType.array Jvm.ClassFile.FieldType.byte)), Jvm.Cond.code ({ cls := "java/lang/StringUTF16", name := "putChar", desc := "([BII)V" } : Jvm.MethodName) jdk_52_method_4_code (3 : Nat) (Option.none : Option Jvm.ClassFile.FieldType), Jvm.Cond.code ({ cls := "java/lang/AbstractStringBuilder", name := "inflate", desc := "()V" } : Jvm.MethodName) jdk_68_method_11_code (2 : Nat) (Option.none : Option Jvm.ClassFile.FieldType), Jvm.Cond.code ({ cls := "java/lang/StringUTF16", name := "newBytesFor", desc := "(I)[B" } : Jvm.MethodName) jdk_52_method_2_code (1 : Nat) (Option.some (Jvm.ClassFile.FieldType.array Jvm.ClassFile.FieldType.byte)), Jvm.Cond.code ({ cls := "java/lang/StringUTF16", name := "newBytesLength", desc := "(I)I" } : Jvm.MethodName) jdk_52_method_3_code (1 : Nat) (Option.some Jvm.ClassFile.FieldType.int), Jvm.Cond.code ({ cls := "java/lang/StringLatin1", name := "inflate", desc := "([BI[BII)V" } : Jvm.MethodName) jdk_43_method_50_code (5 : Nat) (Option.none : Option Jvm.ClassFile.FieldType), Jvm.Cond.code ({ cls := "java/lang/StringUTF16", name := "inflate", desc := "([BI[BII)V" } : Jvm.MethodName) jdk_52_method_86_code (6 : Nat) (Option.none : Option Jvm.ClassFile.FieldType), Jvm.Cond.code ({ cls := "java/lang/StringUTF16", name := "checkBoundsOffCount", desc := "(II[B)V" } : Jvm.MethodName) jdk_52_method_94_code (3 : Nat) (Option.none : Option Jvm.ClassFile.FieldType), Jvm.Cond.code ({ cls := "java/lang/StringUTF16", name := "length", desc := "([B)I" } : Jvm.MethodName) jdk_52_method_6_code (1 : Nat) (Option.some Jvm.ClassFile.FieldType.int), Jvm.Cond.code ({ cls := "java/lang/String", name := "checkBoundsOffCount", desc := "(III)I" } : Jvm.MethodName) jdk_42_method_157_code (3 : Nat) (Option.some Jvm.ClassFile.FieldType.int), Jvm.Cond.code ({ cls := "jdk/internal/util/Preconditions", name := "checkFromIndexSize", desc := "(IIILjava/util/function/BiFunction;)I" } : Jvm.MethodName) jdk_41_method_13_code (4 : Nat) (Option.some Jvm.ClassFile.FieldType.int), Jvm.Cond.code ({ cls := "java/lang/StringUTF16", name := "charAt", desc := "([BI)C" } : Jvm.MethodName) jdk_52_method_83_code (2 : Nat) (Option.some Jvm.ClassFile.FieldType.char), Jvm.Cond.code ({ cls := "java/lang/StringUTF16", name := "checkIndex", desc := "(I[B)V" } : Jvm.MethodName) jdk_52_method_91_code (2 : Nat) (Option.none : Option Jvm.ClassFile.FieldType), Jvm.Cond.code ({ cls := "java/lang/StringUTF16", name := "getChar", desc := "([BI)C" } : Jvm.MethodName) jdk_52_method_5_code (2 : Nat) (Option.some Jvm.ClassFile.FieldType.char)]
set_option maxRecDepth 65536 in
theorem codes_eq : words1.filter isCode = codes1 := rfl
theorem w_codes : ∀ c ∈ words1.filter isCode, c.before args0 about1 = true := by
  rw [codes_eq]
  intro c hc
  simp only [codes1, List.mem_cons, List.not_mem_nil, or_false] at hc
  rcases hc with rfl | rfl | rfl | rfl | rfl | rfl | rfl | rfl | rfl | rfl | rfl | rfl | rfl | rfl | rfl | rfl | rfl | rfl | rfl | rfl | rfl | rfl | rfl | rfl | rfl | rfl | rfl | rfl | rfl | rfl | rfl | rfl | rfl | rfl | rfl | rfl | rfl | rfl | rfl | rfl | rfl | rfl | rfl | rfl | rfl | rfl | rfl | rfl | rfl | rfl | rfl | rfl | rfl | rfl
  · exact w_c0
  · exact w_c1
  · exact w_c2
  · exact w_c3
  · exact w_c4
  · exact w_c5
  · exact w_c6
  · exact w_c7
  · exact w_c8
  · exact w_c9
  · exact w_c10
  · exact w_c11
  · exact w_c12
  · exact w_c13
  · exact w_c14
  · exact w_c15
  · exact w_c16
  · exact w_c17
  · exact w_c18
  · exact w_c19
  · exact w_c20
  · exact w_c21
  · exact w_c22
  · exact w_c23
  · exact w_c24
  · exact w_c25
  · exact w_c26
  · exact w_c27
  · exact w_c28
  · exact w_c29
  · exact w_c30
  · exact w_c31
  · exact w_c32
  · exact w_c33
  · exact w_c34
  · exact w_c35
  · exact w_c36
  · exact w_c37
  · exact w_c38
  · exact w_c39
  · exact w_c40
  · exact w_c41
  · exact w_c42
  · exact w_c43
  · exact w_c44
  · exact w_c45
  · exact w_c46
  · exact w_c47
  · exact w_c48
  · exact w_c49
  · exact w_c50
  · exact w_c51
  · exact w_c52
  · exact w_c53
set_option maxRecDepth 65536 in
theorem w_t1 : (words1.take 24).all (fun c => isCode c || c.before args0 about1) = true := by decide +kernel
set_option maxRecDepth 65536 in
theorem w_t2 : ((words1.drop 24).take 24).all (fun c => isCode c || c.before args0 about1) = true := by decide +kernel
set_option maxRecDepth 65536 in
theorem w_t3 : (((words1.drop 24).drop 24).take 24).all (fun c => isCode c || c.before args0 about1) = true := by decide +kernel
set_option maxRecDepth 65536 in
theorem w_t4 : ((((words1.drop 24).drop 24).drop 24).take 24).all (fun c => isCode c || c.before args0 about1) = true := by decide +kernel
set_option maxRecDepth 65536 in
theorem w_t5 : (((((words1.drop 24).drop 24).drop 24).drop 24).take 24).all (fun c => isCode c || c.before args0 about1) = true := by decide +kernel
set_option maxRecDepth 65536 in
theorem w_t6 : ((((((words1.drop 24).drop 24).drop 24).drop 24).drop 24).take 24).all (fun c => isCode c || c.before args0 about1) = true := by decide +kernel
set_option maxRecDepth 65536 in
theorem w_t7 : (((((((words1.drop 24).drop 24).drop 24).drop 24).drop 24).drop 24).take 24).all (fun c => isCode c || c.before args0 about1) = true := by decide +kernel
set_option maxRecDepth 65536 in
theorem w_t8 : ((((((((words1.drop 24).drop 24).drop 24).drop 24).drop 24).drop 24).drop 24).take 24).all (fun c => isCode c || c.before args0 about1) = true := by decide +kernel
set_option maxRecDepth 65536 in
theorem w_t9 : (((((((((words1.drop 24).drop 24).drop 24).drop 24).drop 24).drop 24).drop 24).drop 24).take 24).all (fun c => isCode c || c.before args0 about1) = true := by decide +kernel
set_option maxRecDepth 65536 in
theorem w_t10 : ((((((((((words1.drop 24).drop 24).drop 24).drop 24).drop 24).drop 24).drop 24).drop 24).drop 24).take 24).all (fun c => isCode c || c.before args0 about1) = true := by decide +kernel
set_option maxRecDepth 65536 in
theorem w_t11 : ((((((((((words1.drop 24).drop 24).drop 24).drop 24).drop 24).drop 24).drop 24).drop 24).drop 24).drop 24).all (fun c => isCode c || c.before args0 about1) = true := by decide +kernel
theorem w_tables : (allAtoms (Jvm.Cond.code x code maxLocals ret :: tables_1)).before args0 about1 = true := by
  rw [allAtoms_all]
  show words1.all (fun c => c.before args0 about1) = true
  refine all_split ?_ w_codes
  rw [← List.take_append_drop 24 words1, List.all_append, w_t1, ← List.take_append_drop 24 (words1.drop 24), List.all_append, w_t2, ← List.take_append_drop 24 ((words1.drop 24).drop 24), List.all_append, w_t3, ← List.take_append_drop 24 (((words1.drop 24).drop 24).drop 24), List.all_append, w_t4, ← List.take_append_drop 24 ((((words1.drop 24).drop 24).drop 24).drop 24), List.all_append, w_t5, ← List.take_append_drop 24 (((((words1.drop 24).drop 24).drop 24).drop 24).drop 24), List.all_append, w_t6, ← List.take_append_drop 24 ((((((words1.drop 24).drop 24).drop 24).drop 24).drop 24).drop 24), List.all_append, w_t7, ← List.take_append_drop 24 (((((((words1.drop 24).drop 24).drop 24).drop 24).drop 24).drop 24).drop 24), List.all_append, w_t8, ← List.take_append_drop 24 ((((((((words1.drop 24).drop 24).drop 24).drop 24).drop 24).drop 24).drop 24).drop 24), List.all_append, w_t9, ← List.take_append_drop 24 (((((((((words1.drop 24).drop 24).drop 24).drop 24).drop 24).drop 24).drop 24).drop 24).drop 24), List.all_append, w_t10, w_t11]
  rfl
set_option maxRecDepth 65536 in
theorem w_rest : rest_1_c.before args0 about1 = true := by decide +kernel
set_option maxRecDepth 65536 in
theorem w_case : (Jvm.Cond.and given_1 narrow_1).before args0 about1 = true := by decide +kernel
set_option maxRecDepth 65536 in
theorem w_consts : constsHeld consts_1 about1 := Jvm.Lit.constsHeldB_iff.mp (by decide +kernel)
theorem w_applies : (headSpec (Jvm.Cond.code x code maxLocals ret :: tables_1) room_1).applies x e0.platform about1 = true :=
  (Spec.applies_iff w_frames).mpr ⟨w_running, w_runnable, w_alone, w_named, w_hears, w_ripe, w_room, w_tables⟩
theorem atStart : AtStart classFile x code maxLocals ret World_1 tables_1 room_1 Calls_1 rest_1 Pre_1 launch0 p0 e0 about1 theMethod args0 below0 :=
  ⟨lists_1, trivial, launch0.admits_env _ _ _, launch0.least_env, fairChoices_fair.cas, fairChoices_fair.clock, w_frames, w_args, w_heap, w_applies, ⟨w_consts, trivial⟩, w_rest, w_case⟩
end start1
theorem witness_1 : WitnessClaimed_1 := ⟨start1.p0, start1.e0, start1.about1, start1.theMethod, start1.args0, start1.below0, start1.atStart⟩
end Jvm.Pilot.@@N@@
