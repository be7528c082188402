import JvmDerived
import JvmDerived.Pilot.@@N@@Statement
import JvmDerived.Pilot.@@N@@Code
set_option linter.unusedVariables false
set_option linter.unusedSimpArgs false
namespace Jvm.RoadKit
open Sem ClassFile Op Lib Jvm.Stand Jvm.Free Jvm.LawKit
abbrev sI_ (x : Int32) : Slot := .val (.int x)
abbrev sJ_ (x : Int64) : Slot := .val (.long x)
abbrev sR_ (x : Addr) : Slot := .val (.ref x)
abbrev sU_ : Slot := .unset
abbrev sS_ : Slot := .second
theorem catR (a : Addr) : (Value.ref a).category = 1 := rfl
theorem catN : Value.null.category = 1 := rfl
theorem catI (x : Int32) : (Value.int x).category = 1 := rfl
theorem catJ (x : Int64) : (Value.long x).category = 2 := rfl
section Own
variable {p : Program} {l : Launch} {e : Env} {R : Room} {s : State} {m : MethodId} {args : Array Value} {below : List Frame} {meth : Method} {c : Code} {T U U' : State} {locs : List Loc} {cells slots : Nat} {Z : State} {a0 : Array Value} {h : Heap} {Q : Option Value → Heap → List Loc → Prop} {C S : Nat}
/-- what is left to show at a point of a walk: from U the body comes to its end, and Q holds there -/
def Goes (p : Program) (e : Env) (s : State) (below : List Frame) (Q : Option Value → Heap → List Loc → Prop) (C S : Nat) (U : State) : Prop :=
  ∃ s₂ o, Steps p.tables e below U s₂ ∧ s₂.status = .running ∧ Ended s₂ below o ∧ ∃ v L, o = .returned v ∧ Q v s₂.heap L ∧ FrameEnd s o s₂ L C S
theorem Goes.go (st : ∀ t, Steps p.tables e below U' t → Steps p.tables e below U t) (k : Goes p e s below Q C S U') : Goes p e s below Q C S U := by
  obtain ⟨s₂, o, h1, h2⟩ := k
  exact ⟨s₂, o, st _ h1, h2⟩
theorem Goes.leave {v : Option Value} (X : Stand p l e R s m args below meth c T locs cells slots) (hlk : meth.locks = false) (hv : meth.sig.returnType = none → v = none) (hQ : Q v T.heap locs) (hc : cells ≤ C) (hs : slots ≤ S)
    (st : ∀ fs, (∀ (f : JFrame) (acts : List Action), f.method = m → f.locked = none → f.entered = [] → (doReturn e (T.setTop f) acts v).1 = T.setFrames fs) → Steps p.tables e below U (T.setFrames fs)) : Goes p e s below Q C S U := by
  obtain ⟨fs, hr, hrun, hended, hW, hsame⟩ := X.leave (v := v) hv hlk
  exact ⟨_, _, st fs hr, hrun, hended, _, _, rfl, hQ, ⟨_, rfl⟩, hW, hsame.mono hc hs⟩
theorem Goes.retB {pc : Nat} {Ls : Array Slot} {z : Int32} {rest : List Value} (X : Stand p l e R s m args below meth c T locs cells slots) (hx : p.tables.exec = Jvm.exec) (hlk : meth.locks = false) (hret : meth.sig.returnType = some .boolean) (hd : decode c.code pc = .ok (.ireturn, 1)) (hc : cells ≤ C) (hs : slots ≤ S) (hQ : Q (some (.int (nar .boolean z))) T.heap locs) : Goes p e s below Q C S (T.setTop (mkF m pc Ls (.int z :: rest))) :=
  Goes.leave X hlk (fun h => by rw [hret] at h; cases h) hQ hc hs fun fs hr => retN X hx (t := .boolean) hret (by simp) hd hr
theorem Goes.retC {pc : Nat} {Ls : Array Slot} {z : Int32} {rest : List Value} (X : Stand p l e R s m args below meth c T locs cells slots) (hx : p.tables.exec = Jvm.exec) (hlk : meth.locks = false) (hret : meth.sig.returnType = some .char) (hd : decode c.code pc = .ok (.ireturn, 1)) (hc : cells ≤ C) (hs : slots ≤ S) (hQ : Q (some (.int (nar .char z))) T.heap locs) : Goes p e s below Q C S (T.setTop (mkF m pc Ls (.int z :: rest))) :=
  Goes.leave X hlk (fun h => by rw [hret] at h; cases h) hQ hc hs fun fs hr => retN X hx (t := .char) hret (by simp) hd hr
theorem Goes.retI {pc : Nat} {Ls : Array Slot} {z : Int32} {rest : List Value} (X : Stand p l e R s m args below meth c T locs cells slots) (hx : p.tables.exec = Jvm.exec) (hlk : meth.locks = false) (hret : meth.sig.returnType = some .int) (hd : decode c.code pc = .ok (.ireturn, 1)) (hc : cells ≤ C) (hs : slots ≤ S) (hQ : Q (some (.int z)) T.heap locs) : Goes p e s below Q C S (T.setTop (mkF m pc Ls (.int z :: rest))) :=
  Goes.leave X hlk (fun h => by rw [hret] at h; cases h) hQ hc hs fun fs hr => retOut X hx hret rfl (Or.inl ⟨rfl, Or.inl rfl, _, rfl⟩) hd hr
theorem Goes.retJ {pc : Nat} {Ls : Array Slot} {z : Int64} {rest : List Value} (X : Stand p l e R s m args below meth c T locs cells slots) (hx : p.tables.exec = Jvm.exec) (hlk : meth.locks = false) (hret : meth.sig.returnType = some .long) (hd : decode c.code pc = .ok (.lreturn, 1)) (hc : cells ≤ C) (hs : slots ≤ S) (hQ : Q (some (.long z)) T.heap locs) : Goes p e s below Q C S (T.setTop (mkF m pc Ls (.long z :: rest))) :=
  Goes.leave X hlk (fun h => by rw [hret] at h; cases h) hQ hc hs fun fs hr => retOut X hx hret rfl (Or.inr (Or.inl ⟨rfl, rfl, _, rfl⟩)) hd hr
theorem ownNarrow {t : FieldType} {v : Value} (hv : v.isRef = true) (ht : t.isReference = true) : narrow t v = v := by
  rcases ref_cases hv with rfl | ⟨a, rfl⟩ <;> cases t <;> first | rfl | cases ht
theorem Goes.retA {pc : Nat} {Ls : Array Slot} {v : Value} {t : FieldType} {rest : List Value} (X : Stand p l e R s m args below meth c T locs cells slots) (hx : p.tables.exec = Jvm.exec) (hlk : meth.locks = false) (hret : meth.sig.returnType = some t) (ht : t.isReference = true) (hv : v.isRef = true) (hd : decode c.code pc = .ok (.areturn, 1)) (hc : cells ≤ C) (hs : slots ≤ S) (hQ : Q (some v) T.heap locs) : Goes p e s below Q C S (T.setTop (mkF m pc Ls (v :: rest))) :=
  Goes.leave X hlk (fun h => by rw [hret] at h; cases h) hQ hc hs fun fs hr => retOut X hx hret (ownNarrow hv ht) (Or.inr (Or.inr (Or.inr (Or.inr ⟨rfl, ht, hv⟩)))) hd hr
theorem Goes.retV {pc : Nat} {Ls : Array Slot} (X : Stand p l e R s m args below meth c T locs cells slots) (hx : p.tables.exec = Jvm.exec) (hlk : meth.locks = false) (hret : meth.sig.returnType = none) (hd : decode c.code pc = .ok (.return_, 1)) (hc : cells ≤ C) (hs : slots ≤ S) (hQ : Q none T.heap locs) : Goes p e s below Q C S (T.setTop (mkF m pc Ls [])) :=
  Goes.leave X hlk (fun _ => rfl) hQ hc hs fun fs hr => X.returnOut hx hret hd hr
/-- a body's contract: with these arguments over this heap it returns, and Q holds -/
def Pays (l : Launch) (Z : State) (y : MethodName) (bytes : ByteArray) (maxL : Nat) (ret : Option FieldType) (ws : List Jvm.Cond) (rm : Room) (as' : Array Value) (h : Heap) (Q : Option Value → Heap → List Loc → Prop) : Prop :=
  MetFree l y (head1 (Jvm.Cond.code y bytes maxL ret :: ws) rm) (fun a U => a = as' ∧ Z.Warmed39 U.vm ∧ U.heap = h) (fun _ _ _ _ _ => True) (fun _ U o U' => ∃ v L, o = .returned v ∧ Q v U'.heap L ∧ FrameEnd U o U' L rm.cells rm.slots)
theorem Pays.of {y : MethodName} {bytes : ByteArray} {maxL : Nat} {ret : Option FieldType} {ws : List Jvm.Cond} {rm : Room} {as' : Array Value} (hpl : plainFor y = true)
    (body : ∀ (p : Program) (e : Env) (s : State) (m : MethodId) (below : List Frame) (meth : Method) (c : Code) (s₁ : State), p.tables.exec = Jvm.exec → c.code = bytes → c.maxLocals = maxL → s.vm.findClass y.cls = some m.cls → meth.name = y.name → meth.sig.returnType = ret → meth.locks = false → Z.Warmed39 s.vm → s₁.heap = h → Stand p l e rm s m as' below meth c s₁ [] 0 0 → Goes p e s below Q rm.cells rm.slots (s₁.setTop (entryFrame m as' maxL))) :
    Pays l Z y bytes maxL ret ws rm as' h Q := by
  refine MetFree.of_bodySF hpl hisR ?_
  intro p e s m args below meth c s₁ Bd hml hP hK
  obtain ⟨rfl, hZ, hh⟩ := hP
  obtain ⟨s₂, o, h1, h2, h3, h4⟩ := body p e s m below meth c s₁ Bd.exec Bd.bytes hml (findClass_of_methodNamed Bd.named) (name_of_methodNamed Bd.named Bd.method).1 Bd.returns Bd.notSynchronized hZ (by rw [← hh, Bd.state]; rfl) (Stand.of_body Bd)
  exact ⟨s₂, o, h1, h2, h3, h4⟩
theorem callStatic (X : Stand p l e R s m args below meth c T locs cells slots) (hx : p.tables.exec = Jvm.exec) (hZ : Z.Warmed39 s.vm) {own : String} {index : Nat} {y : MethodName} {bytes : ByteArray} {maxL W : Nat} {ret : Option FieldType} {rm : Room} {as' : Array Value}
    (hown : s.vm.findClass own = some m.cls) (w1 : (Jvm.Cond.methodLink own index y).before a0 Z = true) (w2 : (Jvm.Cond.static y).before a0 Z = true) (w3 : (Jvm.Cond.initialized y.cls).before a0 Z = true) (w4 : (Jvm.Cond.code y bytes maxL ret).before a0 Z = true) (hy : y.cls ≠ "java/lang/invoke/MethodHandle" ∧ y.cls ≠ "java/lang/invoke/VarHandle")
    (M : Pays l Z y bytes maxL ret [] rm as' h Q) (hf : rm.frames + 1 ≤ R.frames) (hl : W + (maxL + 11) + rm.locals ≤ R.locals) (hc : cells + rm.cells ≤ R.cells) (hs : slots + rm.slots ≤ R.slots) (eT : T.heap = h)
    {g : JFrame} (hg : g.method = m) (hsize : g.locals.size = c.maxLocals) {argsL rest : List Value} (hlen : ∀ sig, parseMethodDescriptor y.desc = some sig → argsL.length = sig.parameters.length) (hstack : g.stack = argsL.reverse ++ rest) (has : argsL.toArray = as') (hW : 2 * g.monitorRoom + (rest.map fun v => v.category).sum ≤ W) (hdg : decode c.code g.pc = .ok (.invokestatic index, 3)) :
    ∃ (v : Option Value) (T' : State) (L : List Loc), Stand p l e R s m args below meth c T' (locs ++ L) (cells + rm.cells) (slots + rm.slots) ∧ Q v T'.heap L ∧ ∀ t, Steps p.tables e below (T'.setTop { g with pc := g.pc + 3, stack := v.toList ++ rest }) t → Steps p.tables e below (T.setTop g) t := by
  obtain ⟨v, vm1, ⟨T', L', k', n'⟩, -, X', ⟨Lc, hQ, l1, y1, z1⟩, st⟩ := Jvm.LawKit.callS X hx (y := y) hown (mvT hZ w1) (mvT hZ w2) (mvT hZ w3) (mvT hZ w4) hy (backOf (W := W) M hZ w4 w3 hf hl) hg hsize (argsL := argsL) (rest := rest) hlen hstack hW hdg (fun _ _ => ⟨has, eT, hc, hs⟩)
  dsimp only [Pt.U, Pt.locs, Pt.cells, Pt.slots] at X' l1 y1 z1 st hQ
  subst l1 y1 z1
  exact ⟨v, T', Lc, X', hQ, st⟩
theorem callVirtual (X : Stand p l e R s m args below meth c T locs cells slots) (hx : p.tables.exec = Jvm.exec) (hZ : Z.Warmed39 s.vm) {own K : String} {index : Nat} {y z : MethodName} {bytes : ByteArray} {maxL W : Nat} {ret : Option FieldType} {rm : Room} {as' : Array Value}
    (hown : s.vm.findClass own = some m.cls) (w1 : (Jvm.Cond.methodLink own index y).before a0 Z = true) (w2 : (Jvm.Cond.declares y).before a0 Z = true) (nf : NotFace s y) (w3 : (Jvm.Cond.selects K y z).before a0 Z = true) (w5 : (Jvm.Cond.instanceMethod z).before a0 Z = true) (w6 : (Jvm.Cond.initialized z.cls).before a0 Z = true) (w4 : (Jvm.Cond.code z bytes maxL ret).before a0 Z = true) (hy : y.cls ≠ "java/lang/invoke/MethodHandle" ∧ y.cls ≠ "java/lang/invoke/VarHandle")
    (M : Pays l Z z bytes maxL ret [] rm as' h Q) (hf : rm.frames + 1 ≤ R.frames) (hl : W + (maxL + 11) + rm.locals ≤ R.locals) (hc : cells + rm.cells ≤ R.cells) (hs : slots + rm.slots ≤ R.slots) (eT : T.heap = h) {b : Addr} (E : Exa Z h b K)
    {g : JFrame} (hg : g.method = m) (hsize : g.locals.size = c.maxLocals) {argsL rest : List Value} (hlen : ∀ sig, parseMethodDescriptor y.desc = some sig → argsL.length = sig.parameters.length) (hstack : g.stack = argsL.reverse ++ .ref b :: rest) (has : (.ref b :: argsL).toArray = as') (hW : 2 * g.monitorRoom + (rest.map fun v => v.category).sum ≤ W) (hdg : decode c.code g.pc = .ok (.invokevirtual index, 3)) :
    ∃ (v : Option Value) (T' : State) (L : List Loc), Stand p l e R s m args below meth c T' (locs ++ L) (cells + rm.cells) (slots + rm.slots) ∧ Q v T'.heap L ∧ ∀ t, Steps p.tables e below (T'.setTop { g with pc := g.pc + 3, stack := v.toList ++ rest }) t → Steps p.tables e below (T.setTop g) t := by
  obtain ⟨cq, kq, qa, -, qc⟩ := isOf (T := T) hZ eT E
  obtain ⟨v, vm1, ⟨T', L', k', n'⟩, -, X', ⟨Lc, hQ, l1, y1, z1⟩, st⟩ := X.virtualBack hx (y := y) (z := z) hown (mvT hZ w1) (mvT hZ w2) nf (mvT hZ w3) (mvT hZ w5) hy (backOf (W := W) M hZ w4 w6 hf hl) qa qc hg hsize (Steps.refl _) (argsL := argsL) (rest := rest) hlen hstack hW hdg (fun _ _ => ⟨has, eT, hc, hs⟩)
  dsimp only [Pt.U, Pt.locs, Pt.cells, Pt.slots] at X' l1 y1 z1 st hQ
  subst l1 y1 z1
  exact ⟨v, T', Lc, X', hQ, fun t k => st.trans k⟩
theorem callInit (X : Stand p l e R s m args below meth c T locs cells slots) (hx : p.tables.exec = Jvm.exec) (hZ : Z.Warmed39 s.vm) {own : String} {index : Nat} {y : MethodName} {bytes : ByteArray} {maxL W : Nat} {rm : Room} {as' : Array Value}
    (hy1 : y.name = "<init>") (hown : s.vm.findClass own = some m.cls) (w1 : (Jvm.Cond.methodLink own index y).before a0 Z = true) (w5 : (Jvm.Cond.instanceMethod y).before a0 Z = true) (w6 : (Jvm.Cond.initialized y.cls).before a0 Z = true) (w4 : (Jvm.Cond.code y bytes maxL none).before a0 Z = true) (hy : y.cls ≠ "java/lang/invoke/MethodHandle" ∧ y.cls ≠ "java/lang/invoke/VarHandle")
    (M : Pays l Z y bytes maxL none [] rm as' h Q) (hf : rm.frames + 1 ≤ R.frames) (hl : W + (maxL + 11) + rm.locals ≤ R.locals) (hc : cells + rm.cells ≤ R.cells) (hs : slots + rm.slots ≤ R.slots) (eT : T.heap = h) {b : Addr}
    {g : JFrame} (hg : g.method = m) (hsize : g.locals.size = c.maxLocals) {argsL rest : List Value} (hlen : ∀ sig, parseMethodDescriptor y.desc = some sig → argsL.length = sig.parameters.length) (hstack : g.stack = argsL.reverse ++ .ref b :: rest) (has : (.ref b :: argsL).toArray = as') (hW : 2 * g.monitorRoom + (rest.map fun v => v.category).sum ≤ W) (hdg : decode c.code g.pc = .ok (.invokespecial index, 3)) :
    ∃ (v : Option Value) (T' : State) (L : List Loc), Stand p l e R s m args below meth c T' (locs ++ L) (cells + rm.cells) (slots + rm.slots) ∧ Q v T'.heap L ∧ ∀ t, Steps p.tables e below (T'.setTop { g with pc := g.pc + 3, stack := v.toList ++ rest }) t → Steps p.tables e below (T.setTop g) t := by
  obtain ⟨v, vm1, ⟨T', L', k', n'⟩, -, X', ⟨Lc, hQ, l1, y1, z1⟩, st⟩ := X.specialBack hx (y := y) hy1 hown (mvT hZ w1) (mvT hZ w5) (mvT hZ w4) hy (backOf (W := W) M hZ w4 w6 hf hl) hg hsize (Steps.refl _) (a := b) (argsL := argsL) (rest := rest) hlen hstack hW hdg (fun _ _ => ⟨has, eT, hc, hs⟩)
  dsimp only [Pt.U, Pt.locs, Pt.cells, Pt.slots] at X' l1 y1 z1 st hQ
  subst l1 y1 z1
  exact ⟨v, T', Lc, X', hQ, fun t k => st.trans k⟩
theorem callPrivate (X : Stand p l e R s m args below meth c T locs cells slots) (hx : p.tables.exec = Jvm.exec) (hZ : Z.Warmed39 s.vm) {own K : String} {index kk : Nat} {y : MethodName} {bytes : ByteArray} {maxL W : Nat} {ret : Option FieldType} {rm : Room} {as' : Array Value}
    (hown : s.vm.findClass own = some m.cls) (w1 : (Jvm.Cond.methodLink own index y).before a0 Z = true) (w5 : (Jvm.Cond.instanceMethod y).before a0 Z = true) (wp : (Jvm.Cond.privateMethod y).before a0 Z = true) (wi : (Jvm.Cond.instantiable y.cls kk).before a0 Z = true) (w6 : (Jvm.Cond.initialized y.cls).before a0 Z = true) (w4 : (Jvm.Cond.code y bytes maxL ret).before a0 Z = true) (hy : y.cls ≠ "java/lang/invoke/MethodHandle" ∧ y.cls ≠ "java/lang/invoke/VarHandle")
    (M : Pays l Z y bytes maxL ret [] rm as' h Q) (hf : rm.frames + 1 ≤ R.frames) (hl : W + (maxL + 11) + rm.locals ≤ R.locals) (hc : cells + rm.cells ≤ R.cells) (hs : slots + rm.slots ≤ R.slots) (eT : T.heap = h) {b : Addr} (E : Exa Z h b K)
    {g : JFrame} (hg : g.method = m) (hsize : g.locals.size = c.maxLocals) {argsL rest : List Value} (hlen : ∀ sig, parseMethodDescriptor y.desc = some sig → argsL.length = sig.parameters.length) (hstack : g.stack = argsL.reverse ++ .ref b :: rest) (has : (.ref b :: argsL).toArray = as') (hW : 2 * g.monitorRoom + (rest.map fun v => v.category).sum ≤ W) (hdg : decode c.code g.pc = .ok (.invokevirtual index, 3)) :
    ∃ (v : Option Value) (T' : State) (L : List Loc), Stand p l e R s m args below meth c T' (locs ++ L) (cells + rm.cells) (slots + rm.slots) ∧ Q v T'.heap L ∧ ∀ t, Steps p.tables e below (T'.setTop { g with pc := g.pc + 3, stack := v.toList ++ rest }) t → Steps p.tables e below (T.setTop g) t := by
  obtain ⟨cc, kc, i1, i2, -, i4, -⟩ := Cond.instantiable_spec (mvT (args := args) hZ wi)
  have i5 : kc.isInterface = false := by cases hq : kc.isInterface <;> simp_all
  have hpr := Cond.privateMethod_at (mvP (args := #[]) hZ wp)
  obtain ⟨cell, c1, c2⟩ := E.cell
  obtain ⟨v, vm1, ⟨T', L', k', n'⟩, -, X', ⟨Lc, hQ, l1, y1, z1⟩, st⟩ := X.privateBack hx (y := y) hown (mvT hZ w1) (mvT hZ w5) (selects_self_of_private i1 i2 i5 hpr (mvT hZ w5) hy) hpr (mvT hZ w4) hy (backOf (W := W) M hZ w4 w6 hf hl) hg hsize (Steps.refl _) (a := b) (cell := cell) (by rw [eT]; exact c1) c2 (argsL := argsL) (rest := rest) hlen hstack hW hdg (fun _ _ => ⟨has, eT, hc, hs⟩)
  dsimp only [Pt.U, Pt.locs, Pt.cells, Pt.slots] at X' l1 y1 z1 st hQ
  subst l1 y1 z1
  exact ⟨v, T', Lc, X', hQ, fun t k => st.trans k⟩
theorem callFace (X : Stand p l e R s m args below meth c T locs cells slots) (hx : p.tables.exec = Jvm.exec) (hZ : Z.Warmed39 s.vm) {own K : String} {index count : Nat} {y z : MethodName} {bytes : ByteArray} {maxL W : Nat} {ret : Option FieldType} {rm : Room} {as' : Array Value}
    (hown : s.vm.findClass own = some m.cls) (w1 : (Jvm.Cond.methodLink own index y).before a0 Z = true) (w2 : (Jvm.Cond.declares y).before a0 Z = true) (wf : (Jvm.Cond.interfaceMethod y.cls y.cls y.name y.desc).before args s = true) (w3 : (Jvm.Cond.selects K y z).before a0 Z = true) (w5 : (Jvm.Cond.instanceMethod z).before a0 Z = true) (wp : (Jvm.Cond.publicMethod z).before a0 Z = true) (wu : (Jvm.Cond.unhidden K y.name y.desc).before a0 Z = true) (wc : (Jvm.Cond.castable K y.cls).before a0 Z = true) (w6 : (Jvm.Cond.initialized z.cls).before a0 Z = true) (w4 : (Jvm.Cond.code z bytes maxL ret).before a0 Z = true) (hy : y.cls ≠ "java/lang/invoke/MethodHandle" ∧ y.cls ≠ "java/lang/invoke/VarHandle")
    (M : Pays l Z z bytes maxL ret [] rm as' h Q) (hf : rm.frames + 1 ≤ R.frames) (hl : W + (maxL + 11) + rm.locals ≤ R.locals) (hc : cells + rm.cells ≤ R.cells) (hs : slots + rm.slots ≤ R.slots) (eT : T.heap = h) {b : Addr} (E : Exa Z h b K)
    {g : JFrame} (hg : g.method = m) (hsize : g.locals.size = c.maxLocals) {argsL rest : List Value} (hlen : ∀ sig, parseMethodDescriptor y.desc = some sig → argsL.length = sig.parameters.length) (hstack : g.stack = argsL.reverse ++ .ref b :: rest) (has : (.ref b :: argsL).toArray = as') (hW : 2 * g.monitorRoom + (rest.map fun v => v.category).sum ≤ W) (hdg : decode c.code g.pc = .ok (.invokeinterface index count, 5)) :
    ∃ (v : Option Value) (T' : State) (L : List Loc), Stand p l e R s m args below meth c T' (locs ++ L) (cells + rm.cells) (slots + rm.slots) ∧ Q v T'.heap L ∧ ∀ t, Steps p.tables e below (T'.setTop { g with pc := g.pc + 5, stack := v.toList ++ rest }) t → Steps p.tables e below (T.setTop g) t := by
  obtain ⟨cq, kq, qa, qb, qc⟩ := isOf (T := T) hZ eT E
  obtain ⟨v, vm1, ⟨T', L', k', n'⟩, -, X', ⟨Lc, hQ, l1, y1, z1⟩, st⟩ := X.interfaceBack hx (xi := y) (y := z) hown (mvT hZ w1) (mvT hZ w2) wf (mvT hZ w3) (mvT hZ w5) (mvT hZ wp) (mvT hZ wu) (mvT hZ wc) hy (backOf (W := W) M hZ w4 w6 hf hl) qa qb qc hg hsize (Steps.refl _) (argsL := argsL) (rest := rest) hlen hstack hW hdg (fun _ _ => ⟨has, eT, hc, hs⟩)
  dsimp only [Pt.U, Pt.locs, Pt.cells, Pt.slots] at X' l1 y1 z1 st hQ
  subst l1 y1 z1
  exact ⟨v, T', Lc, X', hQ, fun t k => st.trans k⟩
theorem castV (X : Stand p l e R s m args below meth c T locs cells slots) (hx : p.tables.exec = Jvm.exec) (hZ : Z.Warmed39 s.vm) {own K : String} {index : Nat} (hown : s.vm.findClass own = some m.cls) (w : (Jvm.Cond.classLink own index K).before a0 Z = true) (eT : T.heap = h) {v : Value} (F : v = .null ∨ ∃ a, v = .ref a ∧ Ins Z h a K true)
    {g : JFrame} (hg : g.method = m) {rest : List Value} (hs : g.stack = v :: rest) (hd : decode c.code g.pc = .ok (.checkcast index, 3)) : ∃ T', Stand p l e R s m args below meth c T' locs cells slots ∧ T'.heap = h ∧ ∀ target, Steps p.tables e below (T'.setTop { g with pc := g.pc + 3 }) target → Steps p.tables e below (T.setTop g) target := by
  rcases F with rfl | ⟨a, rfl, I⟩
  · exact ⟨T, X, eT, fun t k => X.checkcastNull hx (g := g) hg hs hd t k⟩
  · exact castY X hx hZ hown w eT I hg hs hd
theorem moreRoom {cells' slots' : Nat} (X : Stand p l e R s m args below meth c T locs cells slots) (h1 : cells ≤ cells') (h2 : slots ≤ slots') : Stand p l e R s m args below meth c T locs cells' slots' :=
  { X with same := X.same.mono h1 h2 }
theorem wdOf {ts : List Jvm.Cond} (hw : ∀ d ∈ ts, d.before a0 Z = true) {d : Jvm.Cond} (k : Nat) (hk : ts[k]? = some d) : d.before a0 Z = true := hw _ (List.mem_of_getElem? hk)
end Own
end Jvm.RoadKit
namespace Jvm.RoadKit
open Sem ClassFile Op Lib Jvm.Stand Jvm.Free Jvm.LawKit
section OwnWords
variable {args : Array Value} {first s : State} {o : Option Outcome} {idx : List Nat} {t : Term}
theorem eqInt_v {k : Int32} (h : (Jvm.Cond.eq t (.int k)).value args first o s idx = some true) : t.eval args first o idx s = some (.int k) := by
  simp only [Jvm.Cond.value, Term.eval] at h
  cases ht : t.eval args first o idx s with
  | none => simp [ht] at h
  | some x => cases x <;> simp [ht] at h ⊢; exact h
theorem ownFits {ty : FieldType} {v : Value} (hv : v.isRef = true) (ht : ty.isReference = true) : fits ty v = true := by
  rcases ref_cases hv with rfl | ⟨a, rfl⟩ <;> cases ty <;> first | rfl | cases ht
theorem Sta.keepN {Z : State} {h h' : Heap} {C n d : String} {v : Value} {ws : List Addr} (F : Sta Z h C n d v) (K : Keep h h' ws) (hn : ∀ a ∈ ws, ∃ c : Cell, h[a]? = some c ∧ ∀ q, c.vm ≠ .statics q) : Sta Z h' C n d v := by
  obtain ⟨cf, i, k, f, st, cell, h1, h2, h3, h4, h5, h6, h7⟩ := F
  refine ⟨cf, i, k, f, st, cell, h1, h2, h3, h4, K.2.1 _ _ h5 fun hm => ?_, h6, h7⟩
  obtain ⟨c, g1, g2⟩ := hn st hm
  cases h5.symm.trans g1
  cases hq : cell.vm <;> first | (rw [hq] at h6; exact Bool.noConfusion h6) | exact g2 _ hq
theorem NSr {Z : State} {a0 : Array Value} {O K : String} {n : Nat} (w : (Jvm.Cond.noSuperclass O).before a0 Z = true) (wi : (Jvm.Cond.instantiable K n).before a0 Z = true) (hn : O ≠ K) : NS Z O K := by
  obtain ⟨c, k, h1, h2, h3, -, -⟩ := Cond.noSuperclass_spec w
  obtain ⟨t, kt, g1, -⟩ := Cond.instantiable_spec wi
  refine ⟨c, t, h1, g1, fun fuel => ?_⟩
  cases fuel with
  | zero => rfl
  | succ f => simp [Vm.isSubclassAux, ids_ne h1 g1 hn, h2, h3]
theorem NSno {Z : State} {a0 : Array Value} {C S K : String} {n : Nat} (w : (Jvm.Cond.superclass C S).before a0 Z = true) (wi : (Jvm.Cond.instantiable K n).before a0 Z = true) (q : NS Z C K) (hn : C ≠ K) : ∃ c t, Z.vm.findClass C = some c ∧ Z.vm.findClass K = some t ∧ Z.vm.assignable c t = false := by
  obtain ⟨c, t, h0, g0, n3⟩ := q
  obtain ⟨_, k, _, -, h2, -, -, h5, -, -⟩ := Cond.superclass_spec h0 w
  obtain ⟨t', k', g1, g2, g5, g7, -⟩ := Cond.instantiable_spec wi
  cases g0.symm.trans g1
  have g8 : k'.isInterface = false := by cases hq : k'.isInterface <;> simp_all
  refine ⟨c, t, h0, g0, ?_⟩
  show Z.vm.assignableAux (255 + 1) c t = false
  simp [Vm.assignableAux, ids_ne h0 g0 hn, h2, g2, h5, g5, g8, Vm.isSubclass, n3]
theorem Ext.of_keep {h h' : Heap} (K : Keep h h' []) : Ext h h' := ⟨K.1, fun a c q => K.2.1 a c q nin0⟩
theorem Keep.of_ext {h h' : Heap} (E : Ext h h') (ws : List Addr) : Keep h h' ws := (Keep.refl h ws).ext E
theorem ofInt {x : Int32} (n : Int32) (h : x.toInt = n.toInt) : x = n := Int32.toInt_inj.mp h
end OwnWords
end Jvm.RoadKit
namespace Jvm.RoadKit
open Sem ClassFile Op Lib Jvm.Stand Jvm.Free Jvm.LawKit
section OwnBox
theorem eqVal_v {args : Array Value} {first s : State} {o : Option Outcome} {idx : List Nat} {t u : Term} {w : Value} (h : (Jvm.Cond.eq t u).value args first o s idx = some true) (hu : u.eval args first o idx s = some w) (hw : (∃ n, w = .int n) ∨ ∃ n, w = .long n) : t.eval args first o idx s = some w := by
  rcases hw with ⟨n, rfl⟩ | ⟨n, rfl⟩ <;>
  · simp only [Jvm.Cond.value, hu] at h
    cases ht : t.eval args first o idx s with
    | none => simp [ht] at h
    | some x => cases x <;> simp [ht] at h ⊢; exact h
/-- a cache of 256 boxes, as it stands in the heap of Z: the i-th holds val i -/
def BoxC (Z : State) (K D B vd : String) (val : Nat → Value) : Prop := ∃ (ca : Addr) (cl : Cell), Sta Z Z.heap K "cache" D (.ref ca) ∧ Arr Z Z.heap ca cl (.object B) ∧ cl.slots.size = 256 ∧ ∀ i, i < 256 → ∃ r, cl.slots[i]? = some (.ref r) ∧ Exa Z Z.heap r B ∧ Fld Z Z.heap r B "value" vd (val i)
theorem clamp256 {i : Nat} (h : i < 256) : i.toInt32.toNatClampNeg = i := by
  have : i.toInt32.toInt = i := Int32.toInt_ofNat_small (by omega)
  simp [Int32.toNatClampNeg, this]
theorem BoxC.start {s : State} {args : Array Value} {K D B vd : String} {u : Term} {val : Nat → Value} (hi : (Jvm.Cond.initialized K).before args s = true) (hl : (Jvm.Cond.laysStatic K "cache" D).before args s = true)
    (ha : (Jvm.Cond.arrayOf (.static K "cache" D) (.object B)).before args s = true) (hn : (Jvm.Cond.eq (.length (.static K "cache" D)) (.int 256)).before args s = true)
    (hall : (Jvm.Cond.all (.static K "cache" D) (.and (.exactly (.elem (.static K "cache" D) (.index 0)) B) (.eq (.field (.elem (.static K "cache" D) (.index 0)) B "value" vd) u))).before args s = true)
    (hu : ∀ i : Nat, u.eval args s none [i] s = some (val i)) (hv : ∀ i, (∃ n, val i = .int n) ∨ ∃ n, val i = .long n) : BoxC s K D B vd val := by
  have ha' := Cond.before_iff.mp ha
  obtain ⟨ca, ev⟩ := arr_v ha'
  obtain ⟨cl, A⟩ := Arr.start ev ha'
  have hat : s.arrayAt? ca = some cl := A.fin (Vm.Alike.refl _)
  have hsz : cl.slots.size = 256 := by
    have h1 := eqInt_v (Cond.before_iff.mp hn)
    simp only [Term.eval, hat] at h1
    have ev' := ev
    simp only [Term.eval] at ev'
    rw [ev'] at h1
    by_cases hq : cl.slots.size < 2 ^ 31
    · simp [hat, hq] at h1
      have h2 : cl.slots.size.toInt32.toInt = 256 := by rw [h1]; rfl
      rw [Int32.toInt_ofNat_small hq] at h2
      omega
    · simp [hat, hq] at h1
  refine ⟨ca, cl, Sta.start ev (Or.inr ⟨hi, hl⟩), A, hsz, fun i hi => ?_⟩
  obtain ⟨h1, h2⟩ := and_e (Cond.all_elim ev hat (Cond.before_iff.mp hall) i (by omega))
  obtain ⟨r, er⟩ := exa_v h1
  have ev1 : (Term.static K "cache" D).eval args s none [i] s = some (.ref ca) := ev
  obtain ⟨-, q⟩ := elem_in er ev1 (Term.index_eval (idx := []) i) A.1
  rw [clamp256 hi] at q
  refine ⟨r, q, exa_at er h1, Fld.start ?_⟩
  rw [← fld_at er]
  exact eqVal_v h2 (hu i) (hv i)
end OwnBox
end Jvm.RoadKit
namespace Jvm.Pilot.@@N@@
open Jvm Jvm.ClassFile Sem Op Lib Jvm.Free Jvm.Stand Jvm.LawKit Jvm.RoadKit Bundle Jvm.Pilot.@@N@@.Jvm.D
theorem pd_0 : parseMethodDescriptor "()V" = some ⟨[], none⟩ := by decide +kernel
theorem pd_1 : parseMethodDescriptor "(I)V" = some ⟨[.int], none⟩ := by decide +kernel
theorem pd_2 : parseMethodDescriptor "(IIJ)V" = some ⟨[.int, .int, .long], none⟩ := by decide +kernel
theorem pd_3 : parseMethodDescriptor "(I)Ljava/lang/Integer;" = some ⟨[.int], some (.object "java/lang/Integer")⟩ := by decide +kernel
theorem pd_4 : parseMethodDescriptor "(Ljava/lang/Object;)Z" = some ⟨[(.object "java/lang/Object")], some .boolean⟩ := by decide +kernel
theorem pd_5 : parseMethodDescriptor "(II)I" = some ⟨[.int, .int], some .int⟩ := by decide +kernel
theorem d_rm_vo_num_0 : decode jdk_18_method_1_code 0 = .ok (.aload_n 0, 1) := by decide +kernel
theorem d_rm_vo_num_1 : decode jdk_18_method_1_code 1 = .ok (.invokespecial 1, 3) := by decide +kernel
theorem d_rm_vo_num_4 : decode jdk_18_method_1_code 4 = .ok (.return_, 1) := by decide +kernel
set_option maxHeartbeats 4000000 in
theorem ef_rm_vo_num (m : MethodId) (x0 : Addr)  : entryFrame m #[(.ref x0)] 1 = mkF m 0 #[.val (.ref x0)] [] := by first | (simp [entryFrame, mkF, argsToLocals, catR, catN, catI, catJ]; done) | rfl
set_option maxRecDepth 65536 in
set_option maxHeartbeats 40000000 in
theorem rm_vo_num (l : Launch) (Z : State) (a0 : Array Value) (hw : ∀ d ∈ tables_1, d.before a0 Z = true) (ws : List Jvm.Cond) (ax : Addr) (h0 : Heap) (n0 : Nat) (Z0 : n0 ≤ h0.size)  :
    Pays l Z (⟨"java/lang/Number", "<init>", "()V"⟩ : MethodName) jdk_18_method_1_code 1 none ws ({ frames := 1, cells := 0, slots := 0, locals := 12 } : Room) #[(.ref ax)] h0 (fun v h L => v = none ∧ Fr n0 L ∧ h = h0) := by
  refine Pays.of (plainFor_of_name (by first | (simp [plainName, overriddenIn]; done) | decide +kernel)) ?_
  intro p e s m below meth c s₁ hx hby hml hown hnm hret hlk hZ e0 X0
  have N0 := Fr.nil n0
  have K0 : Keep h0 h0 [] := Keep.refl _ _
  refine Goes.go (U' := (s₁.setTop (mkF m 0 #[.val (.ref ax)] []))) (fun t kt => castTop (ef_rm_vo_num m ax) kt) ?_
  refine Goes.go (U' := (s₁.setTop (mkF m 1 #[.val (.ref ax)] [(.ref ax)]))) (fun t kt => ?_) ?_
  · show Steps p.tables e below (s₁.setTop (mkF m 0 #[.val (.ref ax)] [])) t
    refine XS.aloadN X0.here hx rfl (hb hby d_rm_vo_num_0) rfl rfl ?_
    exact kt
  obtain ⟨T_1, X_1, e_1, st_1⟩ := initO X0 hx hZ hown (wdOf hw 55 rfl) (wdOf hw 18 rfl) (wdOf hw 19 rfl) e0 (g := (mkF m 1 #[.val (.ref ax)] [(.ref ax)])) rfl (by rw [hml]; rfl) rfl (hb hby d_rm_vo_num_1) (by decide) (W := 0) (Nat.le_refl _) (by decide)
  refine Goes.go (U' := (T_1.setTop (mkF m 4 #[.val (.ref ax)] []))) st_1 ?_
  refine Goes.retV X_1 hx hlk hret (hb hby d_rm_vo_num_4) (by decide) (by decide) ?_
  try rw [e_1]
  exact ⟨rfl, N0, rfl⟩
theorem d_rm_vo_init_0 : decode jdk_33_method_23_code 0 = .ok (.aload_n 0, 1) := by decide +kernel
theorem d_rm_vo_init_1 : decode jdk_33_method_23_code 1 = .ok (.invokespecial 202, 3) := by decide +kernel
theorem d_rm_vo_init_4 : decode jdk_33_method_23_code 4 = .ok (.aload_n 0, 1) := by decide +kernel
theorem d_rm_vo_init_5 : decode jdk_33_method_23_code 5 = .ok (.iload_n 1, 1) := by decide +kernel
theorem d_rm_vo_init_6 : decode jdk_33_method_23_code 6 = .ok (.putfield 205, 3) := by decide +kernel
theorem d_rm_vo_init_9 : decode jdk_33_method_23_code 9 = .ok (.return_, 1) := by decide +kernel
set_option maxHeartbeats 4000000 in
theorem ef_rm_vo_init (m : MethodId) (x0 : Addr) (x1 : Int32)  : entryFrame m #[(.ref x0), (.int x1)] 2 = mkF m 0 #[.val (.ref x0), .val (.int x1)] [] := by first | (simp [entryFrame, mkF, argsToLocals, catR, catN, catI, catJ]; done) | rfl
set_option maxRecDepth 65536 in
set_option maxHeartbeats 40000000 in
theorem rm_vo_init (l : Launch) (Z : State) (a0 : Array Value) (hw : ∀ d ∈ tables_1, d.before a0 Z = true) (ws : List Jvm.Cond) (ax : Addr) (xv : Int32) (h0 : Heap) (n0 : Nat) (Z0 : n0 ≤ h0.size) (o0 : n0 ≤ ax) (E0 : Exa Z h0 ax "java/lang/Integer") (F0 : Fld Z h0 ax "java/lang/Integer" "value" "I" (.int (0 : Int32))) :
    Pays l Z (⟨"java/lang/Integer", "<init>", "(I)V"⟩ : MethodName) jdk_33_method_23_code 2 none ws ({ frames := 2, cells := 0, slots := 0, locals := 24 } : Room) #[(.ref ax), (.int xv)] h0 (fun v h L => v = none ∧ Fr n0 L ∧ Keep h0 h [ax] ∧ Exa Z h ax "java/lang/Integer" ∧ Fld Z h ax "java/lang/Integer" "value" "I" (.int xv)) := by
  refine Pays.of (plainFor_of_name (by first | (simp [plainName, overriddenIn]; done) | decide +kernel)) ?_
  intro p e s m below meth c s₁ hx hby hml hown hnm hret hlk hZ e0 X0
  have N0 := Fr.nil n0
  have K0 : Keep h0 h0 [ax] := Keep.refl _ _
  refine Goes.go (U' := (s₁.setTop (mkF m 0 #[.val (.ref ax), .val (.int xv)] []))) (fun t kt => castTop (ef_rm_vo_init m ax xv) kt) ?_
  refine Goes.go (U' := (s₁.setTop (mkF m 1 #[.val (.ref ax), .val (.int xv)] [(.ref ax)]))) (fun t kt => ?_) ?_
  · show Steps p.tables e below (s₁.setTop (mkF m 0 #[.val (.ref ax), .val (.int xv)] [])) t
    refine XS.aloadN X0.here hx rfl (hb hby d_rm_vo_init_0) rfl rfl ?_
    exact kt
  obtain ⟨v_1, T_1, L_1, X_1, q_1, st_1⟩ := callInit X0 hx hZ (y := (⟨"java/lang/Number", "<init>", "()V"⟩ : MethodName)) (W := 0) rfl hown (wdOf hw 49 rfl) (wdOf hw 50 rfl) (wdOf hw 53 rfl) (wdOf hw 54 rfl) (by decide) (rm_vo_num l Z a0 hw [] ax h0 n0 Z0) (by decide) (by decide) (by decide) (by decide) e0 (b := ax) (g := (mkF m 1 #[.val (.ref ax), .val (.int xv)] [(.ref ax)])) rfl (by rw [hml]; rfl) (argsL := []) (rest := []) (lenOf pd_0 rfl) rfl rfl (Nat.le_refl _) (hb hby d_rm_vo_init_1)
  obtain ⟨rfl, n_1, K_1⟩ := q_1
  have N_1 := Fr.app N0 n_1
  refine Goes.go (U' := (T_1.setTop (mkF m 4 #[.val (.ref ax), .val (.int xv)] []))) st_1 ?_
  refine Goes.go (U' := (T_1.setTop (mkF m 6 #[.val (.ref ax), .val (.int xv)] [(.int xv), (.ref ax)]))) (fun t kt => ?_) ?_
  · show Steps p.tables e below (T_1.setTop (mkF m 4 #[.val (.ref ax), .val (.int xv)] [])) t
    refine XS.aloadN X_1.here hx rfl (hb hby d_rm_vo_init_4) rfl rfl ?_
    show Steps p.tables e below (T_1.setTop (mkF m 5 #[.val (.ref ax), .val (.int xv)] [(.ref ax)])) t
    refine XS.iloadN X_1.here hx rfl (hb hby d_rm_vo_init_5) rfl ?_
    exact kt
  obtain ⟨T_2, h_2, X_2, e_2, W_2, st_2⟩ := putF X_1 hx hZ hown (host := "") (Or.inl (wdOf hw 56 rfl)) Via.refl K_1 F0 E0 (Or.inr ⟨wdOf hw 57 rfl, rfl, hnm⟩) (wdOf hw 44 rfl) (ty := .int) (by decide) rfl rfl (g := (mkF m 6 #[.val (.ref ax), .val (.int xv)] [(.int xv), (.ref ax)])) rfl rfl (hb hby d_rm_vo_init_6)
  have N_2 := Fr.snoc X_2 N_1 o0
  have f_3 : Exa Z h_2 ax "java/lang/Integer" := E0.wr W_2
  have f_4 : Fld Z h_2 ax "java/lang/Integer" "value" "I" (.int xv) := F0.same W_2
  have K_5 : Keep h0 h_2 [ax] := K0.wr W_2 (Or.inl (List.mem_of_getElem? (i := 0) rfl))
  have y_5 : n0 ≤ h_2.size := Nat.le_trans Z0 K_5.1
  refine Goes.go (U' := (T_2.setTop (mkF m 9 #[.val (.ref ax), .val (.int xv)] []))) st_2 ?_
  refine Goes.retV X_2 hx hlk hret (hb hby d_rm_vo_init_9) (by decide) (by decide) ?_
  try rw [e_2]
  exact ⟨rfl, N_2, K_5, f_3, f_4⟩
theorem own_ix {i : Int32} (h1 : ¬ i < (-128 : Int32)) (h2 : ¬ (127 : Int32) < i) : ¬ (i + (128 : Int32)) < 0 ∧ (i + (128 : Int32)).toNatClampNeg < 256 ∧ (Value.int ((i + (128 : Int32)).toNatClampNeg.toInt32 - 128)) = .int i := by
  rw [Int32.lt_iff_toInt_lt] at h1 h2
  have e1 : (-128 : Int32).toInt = -128 := rfl
  have e2 : (127 : Int32).toInt = 127 := rfl
  have e3 : (128 : Int32).toInt = 128 := rfl
  have q := c_iadd i 128
  have r := rng32 (i + 128)
  have h3 : (i + (128 : Int32)).toInt = i.toInt + 128 := by omega
  have h0 : ¬ (i + (128 : Int32)) < 0 := by rw [Int32.lt_iff_toInt_lt]; show ¬ _ < (0 : Int); omega
  refine ⟨h0, by simp only [Int32.toNatClampNeg]; omega, ?_⟩
  rw [(back32 h0).1]
  congr 1
  apply Int32.toInt_inj.mp
  have q2 := c_isub (i + 128) 128
  have r2 := rng32 (i + 128 - 128)
  have r3 := rng32 i
  omega
theorem d_rm_vo_0 : decode jdk_33_method_22_code 0 = .ok (.iload_n 0, 1) := by decide +kernel
theorem d_rm_vo_1 : decode jdk_33_method_22_code 1 = .ok (.bipush (-128), 2) := by decide +kernel
theorem d_rm_vo_3 : decode jdk_33_method_22_code 3 = .ok (.if_icmp .lt 20, 3) := by decide +kernel
theorem d_rm_vo_6 : decode jdk_33_method_22_code 6 = .ok (.iload_n 0, 1) := by decide +kernel
theorem d_rm_vo_7 : decode jdk_33_method_22_code 7 = .ok (.getstatic 191, 3) := by decide +kernel
theorem d_rm_vo_10 : decode jdk_33_method_22_code 10 = .ok (.if_icmp .gt 13, 3) := by decide +kernel
theorem d_rm_vo_13 : decode jdk_33_method_22_code 13 = .ok (.getstatic 195, 3) := by decide +kernel
theorem d_rm_vo_16 : decode jdk_33_method_22_code 16 = .ok (.iload_n 0, 1) := by decide +kernel
theorem d_rm_vo_17 : decode jdk_33_method_22_code 17 = .ok (.sipush 128, 3) := by decide +kernel
theorem d_rm_vo_20 : decode jdk_33_method_22_code 20 = .ok (.iadd, 1) := by decide +kernel
theorem d_rm_vo_21 : decode jdk_33_method_22_code 21 = .ok (.aaload, 1) := by decide +kernel
theorem d_rm_vo_22 : decode jdk_33_method_22_code 22 = .ok (.areturn, 1) := by decide +kernel
theorem d_rm_vo_23 : decode jdk_33_method_22_code 23 = .ok (.new 1, 3) := by decide +kernel
theorem d_rm_vo_26 : decode jdk_33_method_22_code 26 = .ok (.dup, 1) := by decide +kernel
theorem d_rm_vo_27 : decode jdk_33_method_22_code 27 = .ok (.iload_n 0, 1) := by decide +kernel
theorem d_rm_vo_28 : decode jdk_33_method_22_code 28 = .ok (.invokespecial 199, 3) := by decide +kernel
theorem d_rm_vo_31 : decode jdk_33_method_22_code 31 = .ok (.areturn, 1) := by decide +kernel
set_option maxHeartbeats 4000000 in
theorem ef_rm_vo (m : MethodId) (x0 : Int32)  : entryFrame m #[(.int x0)] 1 = mkF m 0 #[.val (.int x0)] [] := by first | (simp [entryFrame, mkF, argsToLocals, catR, catN, catI, catJ]; done) | rfl
set_option maxRecDepth 65536 in
set_option maxHeartbeats 40000000 in
theorem rm_vo (l : Launch) (Z : State) (a0 : Array Value) (hw : ∀ d ∈ tables_1, d.before a0 Z = true) (ws : List Jvm.Cond) (iv : Int32) (h0 : Heap) (n0 : Nat) (Z0 : n0 ≤ h0.size) (O : Old Z n0 h0) (BC : BoxC Z "java/lang/Integer$IntegerCache" "[Ljava/lang/Integer;" "java/lang/Integer" "I" (fun i => .int (i.toInt32 - 128))) (SH : Sta Z Z.heap "java/lang/Integer$IntegerCache" "high" "I" (.int (127 : Int32))) :
    Pays l Z (⟨"java/lang/Integer", "valueOf", "(I)Ljava/lang/Integer;"⟩ : MethodName) jdk_33_method_22_code 1 (some (.object "java/lang/Integer")) ws ({ frames := 3, cells := 1, slots := 1, locals := 38 } : Room) #[(.int iv)] h0 (fun v h L => ∃ r, v = some (.ref r) ∧ Fr n0 L ∧ Ext h0 h ∧ Exa Z h r "java/lang/Integer" ∧ Fld Z h r "java/lang/Integer" "value" "I" (.int iv)) := by
  refine Pays.of (plainFor_of_name (by first | (simp [plainName, overriddenIn]; done) | decide +kernel)) ?_
  intro p e s m below meth c s₁ hx hby hml hown hnm hret hlk hZ e0 X0
  have N0 := Fr.nil n0
  have K0 : Keep h0 h0 [] := Keep.refl _ _
  refine Goes.go (U' := (s₁.setTop (mkF m 0 #[.val (.int iv)] []))) (fun t kt => castTop (ef_rm_vo m iv) kt) ?_
  refine Goes.go (U' := (s₁.setTop (mkF m 3 #[.val (.int iv)] [(.int (-128 : Int32)), (.int iv)]))) (fun t kt => ?_) ?_
  · show Steps p.tables e below (s₁.setTop (mkF m 0 #[.val (.int iv)] [])) t
    refine XS.iloadN X0.here hx rfl (hb hby d_rm_vo_0) rfl ?_
    show Steps p.tables e below (s₁.setTop (mkF m 1 #[.val (.int iv)] [(.int iv)])) t
    refine XS.bipush X0.here hx rfl (hb hby d_rm_vo_1) ?_
    exact kt
  by_cases ci : iv < (-128 : Int32)
  · -- iv < (-128 : Int32)
    refine Goes.go (U' := (s₁.setTop (mkF m 23 #[.val (.int iv)] []))) (fun t kt => ?_) ?_
    · show Steps p.tables e below (s₁.setTop (mkF m 3 #[.val (.int iv)] [(.int (-128 : Int32)), (.int iv)])) t
      refine XS.icmpYes X0.here hx rfl (pc0 := 3) (pc' := 23) rfl (hb hby d_rm_vo_3) rfl (XT.ii_lt_t ci) (by decide) (by decide) ?_
      exact kt
    obtain ⟨T_1, h_1, X_1, e_1, E_1, A_1, D_1, -, st_1⟩ := newO X0 hx hZ hown (wdOf hw 43 rfl) (wdOf hw 44 rfl) (wdOf hw 28 rfl) e0 (g := (mkF m 23 #[.val (.int iv)] [])) rfl (hb hby d_rm_vo_23) (by decide) (by decide)
    obtain ⟨b_1, g_1⟩ : ∃ z, z = h0.size := ⟨_, rfl⟩
    rw [← g_1] at A_1 D_1 st_1
    have o_1 : n0 ≤ b_1 := Nat.le_trans Z0 (Nat.le_of_eq g_1.symm)
    have z_1 : h0.size ≤ b_1 := Nat.le_trans K0.1 (Nat.le_of_eq g_1.symm)
    have f_2 : Sta Z h_1 "java/lang/Integer$IntegerCache" "high" "I" (.int (127 : Int32)) := (SH.ext O.2).ext E_1
    have f_3 : Fld Z h_1 b_1 "java/lang/Integer" "value" "I" (.int (0 : Int32)) := D_1 (Or.inr (wdOf hw 57 rfl)) (ty := .int) (by decide)
    have K_4 : Keep h0 h_1 [] := K0.ext E_1
    have y_4 : n0 ≤ h_1.size := Nat.le_trans Z0 K_4.1
    refine Goes.go (U' := (T_1.setTop (mkF m 26 #[.val (.int iv)] [(.ref b_1)]))) st_1 ?_
    refine Goes.go (U' := (T_1.setTop (mkF m 28 #[.val (.int iv)] [(.int iv), (.ref b_1), (.ref b_1)]))) (fun t kt => ?_) ?_
    · show Steps p.tables e below (T_1.setTop (mkF m 26 #[.val (.int iv)] [(.ref b_1)])) t
      refine XS.dup X_1.here hx rfl (hb hby d_rm_vo_26) rfl rfl ?_
      show Steps p.tables e below (T_1.setTop (mkF m 27 #[.val (.int iv)] [(.ref b_1), (.ref b_1)])) t
      refine XS.iloadN X_1.here hx rfl (hb hby d_rm_vo_27) rfl ?_
      exact kt
    obtain ⟨v_5, T_5, L_5, X_5, q_5, st_5⟩ := callInit X_1 hx hZ (y := (⟨"java/lang/Integer", "<init>", "(I)V"⟩ : MethodName)) (W := 1) rfl hown (wdOf hw 45 rfl) (wdOf hw 46 rfl) (wdOf hw 28 rfl) (wdOf hw 48 rfl) (by decide) (rm_vo_init l Z a0 hw [] b_1 iv h_1 n0 y_4 o_1 A_1 f_3) (by decide) (by decide) (by decide) (by decide) e_1 (b := b_1) (g := (mkF m 28 #[.val (.int iv)] [(.int iv), (.ref b_1), (.ref b_1)])) rfl (by rw [hml]; rfl) (argsL := [(.int iv)]) (rest := [(.ref b_1)]) (lenOf pd_1 rfl) rfl rfl (Nat.le_refl _) (hb hby d_rm_vo_28)
    obtain ⟨rfl, n_5, K_5, E_5, F_5⟩ := q_5
    have N_5 := Fr.app N0 n_5
    have f_6 : Sta Z T_5.heap "java/lang/Integer$IntegerCache" "high" "I" (.int (127 : Int32)) := f_2.keepN K_5 (allS (A_1.cell) all0)
    have f_7 : Exa Z T_5.heap b_1 "java/lang/Integer" := A_1.keep K_5
    have K_9 : Keep h0 T_5.heap [] := K_4.trans K_5 (allS (P := fun x => x ∈ [] ∨ h0.size ≤ x) (Or.inr z_1) all0)
    have y_9 : n0 ≤ T_5.heap.size := Nat.le_trans Z0 K_9.1
    refine Goes.go (U' := (T_5.setTop (mkF m 31 #[.val (.int iv)] [(.ref b_1)]))) st_5 ?_
    refine Goes.retA X_5 hx hlk hret rfl rfl (hb hby d_rm_vo_31) (by decide) (by decide) ?_
    try rw [(rfl : T_5.heap = T_5.heap)]
    exact ⟨_, rfl, N_5, Ext.of_keep K_9, f_7, F_5⟩
  · -- not iv < (-128 : Int32)
    refine Goes.go (U' := (s₁.setTop (mkF m 7 #[.val (.int iv)] [(.int iv)]))) (fun t kt => ?_) ?_
    · show Steps p.tables e below (s₁.setTop (mkF m 3 #[.val (.int iv)] [(.int (-128 : Int32)), (.int iv)])) t
      refine XS.icmpNo X0.here hx rfl (hb hby d_rm_vo_3) rfl (XT.ii_lt_f ci) ?_
      show Steps p.tables e below (s₁.setTop (mkF m 6 #[.val (.int iv)] [])) t
      refine XS.iloadN X0.here hx rfl (hb hby d_rm_vo_6) rfl ?_
      exact kt
    obtain ⟨T_10, X_10, e_10, st_10⟩ := getS X0 hx hZ hown (host := "") (wdOf hw 30 rfl) Via.refl e0 (SH.ext O.2) (g := (mkF m 7 #[.val (.int iv)] [(.int iv)])) rfl (hb hby d_rm_vo_7)
    refine Goes.go (U' := (T_10.setTop (mkF m 10 #[.val (.int iv)] [(.int (127 : Int32)), (.int iv)]))) st_10 ?_
    by_cases cj : (127 : Int32) < iv
    · -- (127 : Int32) < iv
      refine Goes.go (U' := (T_10.setTop (mkF m 23 #[.val (.int iv)] []))) (fun t kt => ?_) ?_
      · show Steps p.tables e below (T_10.setTop (mkF m 10 #[.val (.int iv)] [(.int (127 : Int32)), (.int iv)])) t
        refine XS.icmpYes X_10.here hx rfl (pc0 := 10) (pc' := 23) rfl (hb hby d_rm_vo_10) rfl (XT.ii_gt_t cj) (by decide) (by decide) ?_
        exact kt
      obtain ⟨T_11, h_11, X_11, e_11, E_11, A_11, D_11, -, st_11⟩ := newO X_10 hx hZ hown (wdOf hw 43 rfl) (wdOf hw 44 rfl) (wdOf hw 28 rfl) e_10 (g := (mkF m 23 #[.val (.int iv)] [])) rfl (hb hby d_rm_vo_23) (by decide) (by decide)
      obtain ⟨b_11, g_11⟩ : ∃ z, z = h0.size := ⟨_, rfl⟩
      rw [← g_11] at A_11 D_11 st_11
      have o_11 : n0 ≤ b_11 := Nat.le_trans Z0 (Nat.le_of_eq g_11.symm)
      have z_11 : h0.size ≤ b_11 := Nat.le_trans K0.1 (Nat.le_of_eq g_11.symm)
      have f_12 : Sta Z h_11 "java/lang/Integer$IntegerCache" "high" "I" (.int (127 : Int32)) := (SH.ext O.2).ext E_11
      have f_13 : Fld Z h_11 b_11 "java/lang/Integer" "value" "I" (.int (0 : Int32)) := D_11 (Or.inr (wdOf hw 57 rfl)) (ty := .int) (by decide)
      have K_14 : Keep h0 h_11 [] := K0.ext E_11
      have y_14 : n0 ≤ h_11.size := Nat.le_trans Z0 K_14.1
      refine Goes.go (U' := (T_11.setTop (mkF m 26 #[.val (.int iv)] [(.ref b_11)]))) st_11 ?_
      refine Goes.go (U' := (T_11.setTop (mkF m 28 #[.val (.int iv)] [(.int iv), (.ref b_11), (.ref b_11)]))) (fun t kt => ?_) ?_
      · show Steps p.tables e below (T_11.setTop (mkF m 26 #[.val (.int iv)] [(.ref b_11)])) t
        refine XS.dup X_11.here hx rfl (hb hby d_rm_vo_26) rfl rfl ?_
        show Steps p.tables e below (T_11.setTop (mkF m 27 #[.val (.int iv)] [(.ref b_11), (.ref b_11)])) t
        refine XS.iloadN X_11.here hx rfl (hb hby d_rm_vo_27) rfl ?_
        exact kt
      obtain ⟨v_15, T_15, L_15, X_15, q_15, st_15⟩ := callInit X_11 hx hZ (y := (⟨"java/lang/Integer", "<init>", "(I)V"⟩ : MethodName)) (W := 1) rfl hown (wdOf hw 45 rfl) (wdOf hw 46 rfl) (wdOf hw 28 rfl) (wdOf hw 48 rfl) (by decide) (rm_vo_init l Z a0 hw [] b_11 iv h_11 n0 y_14 o_11 A_11 f_13) (by decide) (by decide) (by decide) (by decide) e_11 (b := b_11) (g := (mkF m 28 #[.val (.int iv)] [(.int iv), (.ref b_11), (.ref b_11)])) rfl (by rw [hml]; rfl) (argsL := [(.int iv)]) (rest := [(.ref b_11)]) (lenOf pd_1 rfl) rfl rfl (Nat.le_refl _) (hb hby d_rm_vo_28)
      obtain ⟨rfl, n_15, K_15, E_15, F_15⟩ := q_15
      have N_15 := Fr.app N0 n_15
      have f_16 : Sta Z T_15.heap "java/lang/Integer$IntegerCache" "high" "I" (.int (127 : Int32)) := f_12.keepN K_15 (allS (A_11.cell) all0)
      have f_17 : Exa Z T_15.heap b_11 "java/lang/Integer" := A_11.keep K_15
      have K_19 : Keep h0 T_15.heap [] := K_14.trans K_15 (allS (P := fun x => x ∈ [] ∨ h0.size ≤ x) (Or.inr z_11) all0)
      have y_19 : n0 ≤ T_15.heap.size := Nat.le_trans Z0 K_19.1
      refine Goes.go (U' := (T_15.setTop (mkF m 31 #[.val (.int iv)] [(.ref b_11)]))) st_15 ?_
      refine Goes.retA X_15 hx hlk hret rfl rfl (hb hby d_rm_vo_31) (by decide) (by decide) ?_
      try rw [(rfl : T_15.heap = T_15.heap)]
      exact ⟨_, rfl, N_15, Ext.of_keep K_19, f_17, F_15⟩
    · -- not (127 : Int32) < iv
      refine Goes.go (U' := (T_10.setTop (mkF m 13 #[.val (.int iv)] []))) (fun t kt => ?_) ?_
      · show Steps p.tables e below (T_10.setTop (mkF m 10 #[.val (.int iv)] [(.int (127 : Int32)), (.int iv)])) t
        refine XS.icmpNo X_10.here hx rfl (hb hby d_rm_vo_10) rfl (XT.ii_gt_f cj) ?_
        exact kt
      obtain ⟨ca, cl, Sc, Ac, hsz, hel⟩ := BC
      have A1 := Ac.ext O.2
      obtain ⟨hj0, hj1, hj2⟩ := own_ix ci cj
      obtain ⟨rr, hat, Er, Fr1⟩ := hel _ hj1
      replace Fr1 := Eq.subst (motive := fun q => Fld Z Z.heap rr "java/lang/Integer" "value" "I" q) hj2 Fr1
      obtain ⟨T_20, X_20, e_20, st_20⟩ := getS X_10 hx hZ hown (host := "") (wdOf hw 32 rfl) Via.refl e_10 (Sc.ext O.2) (g := (mkF m 13 #[.val (.int iv)] [])) rfl (hb hby d_rm_vo_13)
      refine Goes.go (U' := (T_20.setTop (mkF m 16 #[.val (.int iv)] [(.ref ca)]))) st_20 ?_
      refine Goes.go (U' := (T_20.setTop (mkF m 22 #[.val (.int iv)] [(.ref rr)]))) (fun t kt => ?_) ?_
      · show Steps p.tables e below (T_20.setTop (mkF m 16 #[.val (.int iv)] [(.ref ca)])) t
        refine XS.iloadN X_20.here hx rfl (hb hby d_rm_vo_16) rfl ?_
        show Steps p.tables e below (T_20.setTop (mkF m 17 #[.val (.int iv)] [(.int iv), (.ref ca)])) t
        refine XS.sipush X_20.here hx rfl (hb hby d_rm_vo_17) ?_
        show Steps p.tables e below (T_20.setTop (mkF m 20 #[.val (.int iv)] [(.int (128 : Int32)), (.int iv), (.ref ca)])) t
        refine XS.iadd X_20.here hx rfl (hb hby d_rm_vo_20) rfl ?_
        show Steps p.tables e below (T_20.setTop (mkF m 21 #[.val (.int iv)] [(.int (iv + (128 : Int32))), (.ref ca)])) t
        refine X_20.aaload hx (j := (iv + (128 : Int32))) (v := (.ref rr)) (by rw [e_20]; exact A1.1) (State.isArrayOf_alike hZ.alike A1.2.1) rfl A1.2.2 (fun q => q.elim hj0 (fun q => absurd hj1 (Nat.not_lt.mpr (hsz ▸ q)))) hat (g := (mkF m 21 #[.val (.int iv)] [(.int (iv + (128 : Int32))), (.ref ca)])) rfl rfl (hb hby d_rm_vo_21) _ ?_
        exact kt
      refine Goes.retA X_20 hx hlk hret rfl rfl (hb hby d_rm_vo_22) (by decide) (by decide) ?_
      try rw [e_20]
      exact ⟨_, rfl, N0, ⟨Nat.le_refl _, fun _ _ q => q⟩, Er.ext O.2, Fr1.ext O.2⟩
theorem d_rm_max_0 : decode jdk_29_method_65_code 0 = .ok (.iload_n 0, 1) := by decide +kernel
theorem d_rm_max_1 : decode jdk_29_method_65_code 1 = .ok (.iload_n 1, 1) := by decide +kernel
theorem d_rm_max_2 : decode jdk_29_method_65_code 2 = .ok (.if_icmp .lt 7, 3) := by decide +kernel
theorem d_rm_max_5 : decode jdk_29_method_65_code 5 = .ok (.iload_n 0, 1) := by decide +kernel
theorem d_rm_max_6 : decode jdk_29_method_65_code 6 = .ok (.goto 4, 3) := by decide +kernel
theorem d_rm_max_9 : decode jdk_29_method_65_code 9 = .ok (.iload_n 1, 1) := by decide +kernel
theorem d_rm_max_10 : decode jdk_29_method_65_code 10 = .ok (.ireturn, 1) := by decide +kernel
set_option maxHeartbeats 4000000 in
theorem ef_rm_max (m : MethodId) (x0 : Int32) (x1 : Int32)  : entryFrame m #[(.int x0), (.int x1)] 2 = mkF m 0 #[.val (.int x0), .val (.int x1)] [] := by first | (simp [entryFrame, mkF, argsToLocals, catR, catN, catI, catJ]; done) | rfl
set_option maxRecDepth 65536 in
set_option maxHeartbeats 40000000 in
theorem rm_max (l : Launch) (Z : State) (a0 : Array Value) (hw : ∀ d ∈ tables_1, d.before a0 Z = true) (ws : List Jvm.Cond) (xa xb : Int32) (h0 : Heap) (n0 : Nat) (Z0 : n0 ≤ h0.size)  :
    Pays l Z (⟨"java/lang/Math", "max", "(II)I"⟩ : MethodName) jdk_29_method_65_code 2 (some .int) ws ({ frames := 0, cells := 0, slots := 0, locals := 0 } : Room) #[(.int xa), (.int xb)] h0 (fun v h L => ∃ z, v = some (.int z) ∧ Fr n0 L ∧ h = h0 ∧ ¬ z < xa ∧ ¬ z < xb ∧ (z = xa ∨ z = xb)) := by
  refine Pays.of (by decide +kernel) ?_
  intro p e s m below meth c s₁ hx hby hml hown hnm hret hlk hZ e0 X0
  have N0 := Fr.nil n0
  have K0 : Keep h0 h0 [] := Keep.refl _ _
  refine Goes.go (U' := (s₁.setTop (mkF m 0 #[.val (.int xa), .val (.int xb)] []))) (fun t kt => castTop (ef_rm_max m xa xb) kt) ?_
  refine Goes.go (U' := (s₁.setTop (mkF m 2 #[.val (.int xa), .val (.int xb)] [(.int xb), (.int xa)]))) (fun t kt => ?_) ?_
  · show Steps p.tables e below (s₁.setTop (mkF m 0 #[.val (.int xa), .val (.int xb)] [])) t
    refine XS.iloadN X0.here hx rfl (hb hby d_rm_max_0) rfl ?_
    show Steps p.tables e below (s₁.setTop (mkF m 1 #[.val (.int xa), .val (.int xb)] [(.int xa)])) t
    refine XS.iloadN X0.here hx rfl (hb hby d_rm_max_1) rfl ?_
    exact kt
  by_cases c_1 : xa < xb
  · -- xa < xb
    refine Goes.go (U' := (s₁.setTop (mkF m 10 #[.val (.int xa), .val (.int xb)] [(.int xb)]))) (fun t kt => ?_) ?_
    · show Steps p.tables e below (s₁.setTop (mkF m 2 #[.val (.int xa), .val (.int xb)] [(.int xb), (.int xa)])) t
      refine XS.icmpYes X0.here hx rfl (pc0 := 2) (pc' := 9) rfl (hb hby d_rm_max_2) rfl (XT.ii_lt_t c_1) (by decide) (by decide) ?_
      show Steps p.tables e below (s₁.setTop (mkF m 9 #[.val (.int xa), .val (.int xb)] [])) t
      refine XS.iloadN X0.here hx rfl (hb hby d_rm_max_9) rfl ?_
      exact kt
    refine Goes.retI X0 hx hlk hret (hb hby d_rm_max_10) (by decide) (by decide) ?_
    try rw [e0]
    exact ⟨_, rfl, N0, rfl, by first | (refine ⟨?_, ?_, ?_⟩ <;> first | exact Int32.lt_irrefl | assumption | exact Or.inl rfl | exact Or.inr rfl | (intro q; exact absurd (Int32.lt_trans q c_1) Int32.lt_irrefl))⟩
  · -- not xa < xb
    refine Goes.go (U' := (s₁.setTop (mkF m 10 #[.val (.int xa), .val (.int xb)] [(.int xa)]))) (fun t kt => ?_) ?_
    · show Steps p.tables e below (s₁.setTop (mkF m 2 #[.val (.int xa), .val (.int xb)] [(.int xb), (.int xa)])) t
      refine XS.icmpNo X0.here hx rfl (hb hby d_rm_max_2) rfl (XT.ii_lt_f c_1) ?_
      show Steps p.tables e below (s₁.setTop (mkF m 5 #[.val (.int xa), .val (.int xb)] [])) t
      refine XS.iloadN X0.here hx rfl (hb hby d_rm_max_5) rfl ?_
      show Steps p.tables e below (s₁.setTop (mkF m 6 #[.val (.int xa), .val (.int xb)] [(.int xa)])) t
      refine XS.goto X0.here hx rfl (pc0 := 6) (pc' := 10) rfl (hb hby d_rm_max_6) (by decide) (by decide) ?_
      exact kt
    refine Goes.retI X0 hx hlk hret (hb hby d_rm_max_10) (by decide) (by decide) ?_
    try rw [e0]
    exact ⟨_, rfl, N0, rfl, by first | (refine ⟨?_, ?_, ?_⟩ <;> first | exact Int32.lt_irrefl | assumption | exact Or.inl rfl | exact Or.inr rfl | (intro q; exact absurd (Int32.lt_trans q c_1) Int32.lt_irrefl))⟩
theorem d_rm_rec_0 : decode jdk_30_method_1_code 0 = .ok (.aload_n 0, 1) := by decide +kernel
theorem d_rm_rec_1 : decode jdk_30_method_1_code 1 = .ok (.invokespecial 1, 3) := by decide +kernel
theorem d_rm_rec_4 : decode jdk_30_method_1_code 4 = .ok (.return_, 1) := by decide +kernel
set_option maxHeartbeats 4000000 in
theorem ef_rm_rec (m : MethodId) (x0 : Addr)  : entryFrame m #[(.ref x0)] 1 = mkF m 0 #[.val (.ref x0)] [] := by first | (simp [entryFrame, mkF, argsToLocals, catR, catN, catI, catJ]; done) | rfl
set_option maxRecDepth 65536 in
set_option maxHeartbeats 40000000 in
theorem rm_rec (l : Launch) (Z : State) (a0 : Array Value) (hw : ∀ d ∈ tables_1, d.before a0 Z = true) (ws : List Jvm.Cond) (ax : Addr) (h0 : Heap) (n0 : Nat) (Z0 : n0 ≤ h0.size)  :
    Pays l Z (⟨"java/lang/Record", "<init>", "()V"⟩ : MethodName) jdk_30_method_1_code 1 none ws ({ frames := 1, cells := 0, slots := 0, locals := 12 } : Room) #[(.ref ax)] h0 (fun v h L => v = none ∧ Fr n0 L ∧ h = h0) := by
  refine Pays.of (plainFor_of_name (by first | (simp [plainName, overriddenIn]; done) | decide +kernel)) ?_
  intro p e s m below meth c s₁ hx hby hml hown hnm hret hlk hZ e0 X0
  have N0 := Fr.nil n0
  have K0 : Keep h0 h0 [] := Keep.refl _ _
  refine Goes.go (U' := (s₁.setTop (mkF m 0 #[.val (.ref ax)] []))) (fun t kt => castTop (ef_rm_rec m ax) kt) ?_
  refine Goes.go (U' := (s₁.setTop (mkF m 1 #[.val (.ref ax)] [(.ref ax)]))) (fun t kt => ?_) ?_
  · show Steps p.tables e below (s₁.setTop (mkF m 0 #[.val (.ref ax)] [])) t
    refine XS.aloadN X0.here hx rfl (hb hby d_rm_rec_0) rfl rfl ?_
    exact kt
  obtain ⟨T_1, X_1, e_1, st_1⟩ := initO X0 hx hZ hown (wdOf hw 17 rfl) (wdOf hw 18 rfl) (wdOf hw 19 rfl) e0 (g := (mkF m 1 #[.val (.ref ax)] [(.ref ax)])) rfl (by rw [hml]; rfl) rfl (hb hby d_rm_rec_1) (by decide) (W := 0) (Nat.le_refl _) (by decide)
  refine Goes.go (U' := (T_1.setTop (mkF m 4 #[.val (.ref ax)] []))) st_1 ?_
  refine Goes.retV X_1 hx hlk hret (hb hby d_rm_rec_4) (by decide) (by decide) ?_
  try rw [e_1]
  exact ⟨rfl, N0, rfl⟩
theorem d_rm_arc_0 : decode prog_4_method_1_code 0 = .ok (.aload_n 0, 1) := by decide +kernel
theorem d_rm_arc_1 : decode prog_4_method_1_code 1 = .ok (.invokespecial 1, 3) := by decide +kernel
theorem d_rm_arc_4 : decode prog_4_method_1_code 4 = .ok (.iload_n 1, 1) := by decide +kernel
theorem d_rm_arc_5 : decode prog_4_method_1_code 5 = .ok (.iconst 1, 1) := by decide +kernel
theorem d_rm_arc_6 : decode prog_4_method_1_code 6 = .ok (.if_icmp .lt 8, 3) := by decide +kernel
theorem d_rm_arc_9 : decode prog_4_method_1_code 9 = .ok (.iload_n 2, 1) := by decide +kernel
theorem d_rm_arc_10 : decode prog_4_method_1_code 10 = .ok (.iconst 1, 1) := by decide +kernel
theorem d_rm_arc_11 : decode prog_4_method_1_code 11 = .ok (.if_icmp .ge 18, 3) := by decide +kernel
theorem d_rm_arc_29 : decode prog_4_method_1_code 29 = .ok (.lload_n 3, 1) := by decide +kernel
theorem d_rm_arc_30 : decode prog_4_method_1_code 30 = .ok (.lconst 0, 1) := by decide +kernel
theorem d_rm_arc_31 : decode prog_4_method_1_code 31 = .ok (.lcmp, 1) := by decide +kernel
theorem d_rm_arc_32 : decode prog_4_method_1_code 32 = .ok (.ifCond .ge 17, 3) := by decide +kernel
theorem d_rm_arc_49 : decode prog_4_method_1_code 49 = .ok (.aload_n 0, 1) := by decide +kernel
theorem d_rm_arc_50 : decode prog_4_method_1_code 50 = .ok (.iload_n 1, 1) := by decide +kernel
theorem d_rm_arc_51 : decode prog_4_method_1_code 51 = .ok (.putfield 19, 3) := by decide +kernel
theorem d_rm_arc_54 : decode prog_4_method_1_code 54 = .ok (.aload_n 0, 1) := by decide +kernel
theorem d_rm_arc_55 : decode prog_4_method_1_code 55 = .ok (.iload_n 2, 1) := by decide +kernel
theorem d_rm_arc_56 : decode prog_4_method_1_code 56 = .ok (.putfield 25, 3) := by decide +kernel
theorem d_rm_arc_59 : decode prog_4_method_1_code 59 = .ok (.aload_n 0, 1) := by decide +kernel
theorem d_rm_arc_60 : decode prog_4_method_1_code 60 = .ok (.lload_n 3, 1) := by decide +kernel
theorem d_rm_arc_61 : decode prog_4_method_1_code 61 = .ok (.putfield 28, 3) := by decide +kernel
theorem d_rm_arc_64 : decode prog_4_method_1_code 64 = .ok (.return_, 1) := by decide +kernel
set_option maxHeartbeats 4000000 in
theorem ef_rm_arc (m : MethodId) (x0 : Addr) (x1 : Int32) (x2 : Int32) (x3 : Int64)  : entryFrame m #[(.ref x0), (.int x1), (.int x2), (.long x3)] 5 = mkF m 0 #[.val (.ref x0), .val (.int x1), .val (.int x2), .val (.long x3), .second] [] := by first | (simp [entryFrame, mkF, argsToLocals, catR, catN, catI, catJ]; done) | rfl
set_option maxRecDepth 65536 in
set_option maxHeartbeats 40000000 in
theorem rm_arc (l : Launch) (Z : State) (a0 : Array Value) (hw : ∀ d ∈ tables_1, d.before a0 Z = true) (ws : List Jvm.Cond) (ax : Addr) (xt xh : Int32) (xw : Int64) (h0 : Heap) (n0 : Nat) (Z0 : n0 ≤ h0.size) (o0 : n0 ≤ ax) (E0 : Exa Z h0 ax "com/example/copse/copse/Arc") (F0_tail : Fld Z h0 ax "com/example/copse/copse/Arc" "tail" "I" (.int (0 : Int32))) (F0_head : Fld Z h0 ax "com/example/copse/copse/Arc" "head" "I" (.int (0 : Int32))) (F0_weight : Fld Z h0 ax "com/example/copse/copse/Arc" "weight" "J" (.long (0 : Int64))) (ht : ¬ xt < (1 : Int32)) (hh : ¬ xh < (1 : Int32)) (hwt : ¬ xw < (0 : Int64)) :
    Pays l Z (⟨"com/example/copse/copse/Arc", "<init>", "(IIJ)V"⟩ : MethodName) prog_4_method_1_code 5 none ws ({ frames := 2, cells := 0, slots := 0, locals := 24 } : Room) #[(.ref ax), (.int xt), (.int xh), (.long xw)] h0 (fun v h L => v = none ∧ Fr n0 L ∧ Keep h0 h [ax] ∧ Exa Z h ax "com/example/copse/copse/Arc" ∧ Fld Z h ax "com/example/copse/copse/Arc" "tail" "I" (.int xt) ∧ Fld Z h ax "com/example/copse/copse/Arc" "head" "I" (.int xh) ∧ Fld Z h ax "com/example/copse/copse/Arc" "weight" "J" (.long xw)) := by
  refine Pays.of (plainFor_of_name (by first | (simp [plainName, overriddenIn]; done) | decide +kernel)) ?_
  intro p e s m below meth c s₁ hx hby hml hown hnm hret hlk hZ e0 X0
  have N0 := Fr.nil n0
  have K0 : Keep h0 h0 [ax] := Keep.refl _ _
  refine Goes.go (U' := (s₁.setTop (mkF m 0 #[.val (.ref ax), .val (.int xt), .val (.int xh), .val (.long xw), .second] []))) (fun t kt => castTop (ef_rm_arc m ax xt xh xw) kt) ?_
  refine Goes.go (U' := (s₁.setTop (mkF m 1 #[.val (.ref ax), .val (.int xt), .val (.int xh), .val (.long xw), .second] [(.ref ax)]))) (fun t kt => ?_) ?_
  · show Steps p.tables e below (s₁.setTop (mkF m 0 #[.val (.ref ax), .val (.int xt), .val (.int xh), .val (.long xw), .second] [])) t
    refine XS.aloadN X0.here hx rfl (hb hby d_rm_arc_0) rfl rfl ?_
    exact kt
  obtain ⟨v_1, T_1, L_1, X_1, q_1, st_1⟩ := callInit X0 hx hZ (y := (⟨"java/lang/Record", "<init>", "()V"⟩ : MethodName)) (W := 0) rfl hown (wdOf hw 12 rfl) (wdOf hw 13 rfl) (wdOf hw 15 rfl) (wdOf hw 16 rfl) (by decide) (rm_rec l Z a0 hw [] ax h0 n0 Z0) (by decide) (by decide) (by decide) (by decide) e0 (b := ax) (g := (mkF m 1 #[.val (.ref ax), .val (.int xt), .val (.int xh), .val (.long xw), .second] [(.ref ax)])) rfl (by rw [hml]; rfl) (argsL := []) (rest := []) (lenOf pd_0 rfl) rfl rfl (Nat.le_refl _) (hb hby d_rm_arc_1)
  obtain ⟨rfl, n_1, K_1⟩ := q_1
  have N_1 := Fr.app N0 n_1
  refine Goes.go (U' := (T_1.setTop (mkF m 4 #[.val (.ref ax), .val (.int xt), .val (.int xh), .val (.long xw), .second] []))) st_1 ?_
  refine Goes.go (U' := (T_1.setTop (mkF m 51 #[.val (.ref ax), .val (.int xt), .val (.int xh), .val (.long xw), .second] [(.int xt), (.ref ax)]))) (fun t kt => ?_) ?_
  · show Steps p.tables e below (T_1.setTop (mkF m 4 #[.val (.ref ax), .val (.int xt), .val (.int xh), .val (.long xw), .second] [])) t
    refine XS.iloadN X_1.here hx rfl (hb hby d_rm_arc_4) rfl ?_
    show Steps p.tables e below (T_1.setTop (mkF m 5 #[.val (.ref ax), .val (.int xt), .val (.int xh), .val (.long xw), .second] [(.int xt)])) t
    refine XS.iconst X_1.here hx rfl (hb hby d_rm_arc_5) ?_
    show Steps p.tables e below (T_1.setTop (mkF m 6 #[.val (.ref ax), .val (.int xt), .val (.int xh), .val (.long xw), .second] [(.int (1 : Int32)), (.int xt)])) t
    refine XS.icmpNo X_1.here hx rfl (hb hby d_rm_arc_6) rfl (XT.ii_lt_f ht) ?_
    show Steps p.tables e below (T_1.setTop (mkF m 9 #[.val (.ref ax), .val (.int xt), .val (.int xh), .val (.long xw), .second] [])) t
    refine XS.iloadN X_1.here hx rfl (hb hby d_rm_arc_9) rfl ?_
    show Steps p.tables e below (T_1.setTop (mkF m 10 #[.val (.ref ax), .val (.int xt), .val (.int xh), .val (.long xw), .second] [(.int xh)])) t
    refine XS.iconst X_1.here hx rfl (hb hby d_rm_arc_10) ?_
    show Steps p.tables e below (T_1.setTop (mkF m 11 #[.val (.ref ax), .val (.int xt), .val (.int xh), .val (.long xw), .second] [(.int (1 : Int32)), (.int xh)])) t
    refine XS.icmpYes X_1.here hx rfl (pc0 := 11) (pc' := 29) rfl (hb hby d_rm_arc_11) rfl (XT.ii_ge_t hh) (by decide) (by decide) ?_
    show Steps p.tables e below (T_1.setTop (mkF m 29 #[.val (.ref ax), .val (.int xt), .val (.int xh), .val (.long xw), .second] [])) t
    refine XS.lloadN X_1.here hx rfl (hb hby d_rm_arc_29) rfl ?_
    show Steps p.tables e below (T_1.setTop (mkF m 30 #[.val (.ref ax), .val (.int xt), .val (.int xh), .val (.long xw), .second] [(.long xw)])) t
    refine XS.lconst X_1.here hx rfl (hb hby d_rm_arc_30) ?_
    show Steps p.tables e below (T_1.setTop (mkF m 31 #[.val (.ref ax), .val (.int xt), .val (.int xh), .val (.long xw), .second] [(.long (0 : Int64)), (.long xw)])) t
    refine XT.lcmp X_1.here hx rfl (hb hby d_rm_arc_31) rfl ?_
    show Steps p.tables e below (T_1.setTop (mkF m 32 #[.val (.ref ax), .val (.int xt), .val (.int xh), .val (.long xw), .second] [(.int (XT.cmpL xw (0 : Int64)))])) t
    refine XS.ifYes X_1.here hx rfl (pc0 := 32) (pc' := 49) rfl (hb hby d_rm_arc_32) rfl (XT.ll_ge_t hwt) (by decide) (by decide) ?_
    show Steps p.tables e below (T_1.setTop (mkF m 49 #[.val (.ref ax), .val (.int xt), .val (.int xh), .val (.long xw), .second] [])) t
    refine XS.aloadN X_1.here hx rfl (hb hby d_rm_arc_49) rfl rfl ?_
    show Steps p.tables e below (T_1.setTop (mkF m 50 #[.val (.ref ax), .val (.int xt), .val (.int xh), .val (.long xw), .second] [(.ref ax)])) t
    refine XS.iloadN X_1.here hx rfl (hb hby d_rm_arc_50) rfl ?_
    exact kt
  obtain ⟨T_2, h_2, X_2, e_2, W_2, st_2⟩ := putF X_1 hx hZ hown (host := "") (Or.inl (wdOf hw 20 rfl)) Via.refl K_1 F0_tail E0 (Or.inr ⟨wdOf hw 21 rfl, rfl, hnm⟩) (wdOf hw 7 rfl) (ty := .int) (by decide) rfl rfl (g := (mkF m 51 #[.val (.ref ax), .val (.int xt), .val (.int xh), .val (.long xw), .second] [(.int xt), (.ref ax)])) rfl rfl (hb hby d_rm_arc_51)
  have N_2 := Fr.snoc X_2 N_1 o0
  have f_3 : Exa Z h_2 ax "com/example/copse/copse/Arc" := E0.wr W_2
  have f_4 : Fld Z h_2 ax "com/example/copse/copse/Arc" "tail" "I" (.int xt) := F0_tail.same W_2
  have f_5 : Fld Z h_2 ax "com/example/copse/copse/Arc" "head" "I" (.int (0 : Int32)) := F0_head.other W_2 (Or.inr (slot_ne (Or.inr (wdOf hw 23 rfl)) (Or.inr (wdOf hw 21 rfl)) (by decide) (t := .int) (t' := .int) (by decide) (by decide)))
  have f_6 : Fld Z h_2 ax "com/example/copse/copse/Arc" "weight" "J" (.long (0 : Int64)) := F0_weight.other W_2 (Or.inr (slot_ne (Or.inr (wdOf hw 25 rfl)) (Or.inr (wdOf hw 21 rfl)) (by decide) (t := .long) (t' := .int) (by decide) (by decide)))
  have K_7 : Keep h0 h_2 [ax] := K0.wr W_2 (Or.inl (List.mem_of_getElem? (i := 0) rfl))
  have y_7 : n0 ≤ h_2.size := Nat.le_trans Z0 K_7.1
  refine Goes.go (U' := (T_2.setTop (mkF m 54 #[.val (.ref ax), .val (.int xt), .val (.int xh), .val (.long xw), .second] []))) st_2 ?_
  refine Goes.go (U' := (T_2.setTop (mkF m 56 #[.val (.ref ax), .val (.int xt), .val (.int xh), .val (.long xw), .second] [(.int xh), (.ref ax)]))) (fun t kt => ?_) ?_
  · show Steps p.tables e below (T_2.setTop (mkF m 54 #[.val (.ref ax), .val (.int xt), .val (.int xh), .val (.long xw), .second] [])) t
    refine XS.aloadN X_2.here hx rfl (hb hby d_rm_arc_54) rfl rfl ?_
    show Steps p.tables e below (T_2.setTop (mkF m 55 #[.val (.ref ax), .val (.int xt), .val (.int xh), .val (.long xw), .second] [(.ref ax)])) t
    refine XS.iloadN X_2.here hx rfl (hb hby d_rm_arc_55) rfl ?_
    exact kt
  obtain ⟨T_8, h_8, X_8, e_8, W_8, st_8⟩ := putF X_2 hx hZ hown (host := "") (Or.inl (wdOf hw 22 rfl)) Via.refl e_2 f_5 f_3 (Or.inr ⟨wdOf hw 23 rfl, rfl, hnm⟩) (wdOf hw 7 rfl) (ty := .int) (by decide) rfl rfl (g := (mkF m 56 #[.val (.ref ax), .val (.int xt), .val (.int xh), .val (.long xw), .second] [(.int xh), (.ref ax)])) rfl rfl (hb hby d_rm_arc_56)
  have N_8 := Fr.snoc X_8 N_2 o0
  have f_9 : Exa Z h_8 ax "com/example/copse/copse/Arc" := f_3.wr W_8
  have f_10 : Fld Z h_8 ax "com/example/copse/copse/Arc" "tail" "I" (.int xt) := f_4.other W_8 (Or.inr (slot_ne (Or.inr (wdOf hw 21 rfl)) (Or.inr (wdOf hw 23 rfl)) (by decide) (t := .int) (t' := .int) (by decide) (by decide)))
  have f_11 : Fld Z h_8 ax "com/example/copse/copse/Arc" "head" "I" (.int xh) := f_5.same W_8
  have f_12 : Fld Z h_8 ax "com/example/copse/copse/Arc" "weight" "J" (.long (0 : Int64)) := f_6.other W_8 (Or.inr (slot_ne (Or.inr (wdOf hw 25 rfl)) (Or.inr (wdOf hw 23 rfl)) (by decide) (t := .long) (t' := .int) (by decide) (by decide)))
  have K_13 : Keep h0 h_8 [ax] := K_7.wr W_8 (Or.inl (List.mem_of_getElem? (i := 0) rfl))
  have y_13 : n0 ≤ h_8.size := Nat.le_trans Z0 K_13.1
  refine Goes.go (U' := (T_8.setTop (mkF m 59 #[.val (.ref ax), .val (.int xt), .val (.int xh), .val (.long xw), .second] []))) st_8 ?_
  refine Goes.go (U' := (T_8.setTop (mkF m 61 #[.val (.ref ax), .val (.int xt), .val (.int xh), .val (.long xw), .second] [(.long xw), (.ref ax)]))) (fun t kt => ?_) ?_
  · show Steps p.tables e below (T_8.setTop (mkF m 59 #[.val (.ref ax), .val (.int xt), .val (.int xh), .val (.long xw), .second] [])) t
    refine XS.aloadN X_8.here hx rfl (hb hby d_rm_arc_59) rfl rfl ?_
    show Steps p.tables e below (T_8.setTop (mkF m 60 #[.val (.ref ax), .val (.int xt), .val (.int xh), .val (.long xw), .second] [(.ref ax)])) t
    refine XS.lloadN X_8.here hx rfl (hb hby d_rm_arc_60) rfl ?_
    exact kt
  obtain ⟨T_14, h_14, X_14, e_14, W_14, st_14⟩ := putF X_8 hx hZ hown (host := "") (Or.inl (wdOf hw 24 rfl)) Via.refl e_8 f_12 f_9 (Or.inr ⟨wdOf hw 25 rfl, rfl, hnm⟩) (wdOf hw 7 rfl) (ty := .long) (by decide) rfl rfl (g := (mkF m 61 #[.val (.ref ax), .val (.int xt), .val (.int xh), .val (.long xw), .second] [(.long xw), (.ref ax)])) rfl rfl (hb hby d_rm_arc_61)
  have N_14 := Fr.snoc X_14 N_8 o0
  have f_15 : Exa Z h_14 ax "com/example/copse/copse/Arc" := f_9.wr W_14
  have f_16 : Fld Z h_14 ax "com/example/copse/copse/Arc" "tail" "I" (.int xt) := f_10.other W_14 (Or.inr (slot_ne (Or.inr (wdOf hw 21 rfl)) (Or.inr (wdOf hw 25 rfl)) (by decide) (t := .int) (t' := .long) (by decide) (by decide)))
  have f_17 : Fld Z h_14 ax "com/example/copse/copse/Arc" "head" "I" (.int xh) := f_11.other W_14 (Or.inr (slot_ne (Or.inr (wdOf hw 23 rfl)) (Or.inr (wdOf hw 25 rfl)) (by decide) (t := .int) (t' := .long) (by decide) (by decide)))
  have f_18 : Fld Z h_14 ax "com/example/copse/copse/Arc" "weight" "J" (.long xw) := f_12.same W_14
  have K_19 : Keep h0 h_14 [ax] := K_13.wr W_14 (Or.inl (List.mem_of_getElem? (i := 0) rfl))
  have y_19 : n0 ≤ h_14.size := Nat.le_trans Z0 K_19.1
  refine Goes.go (U' := (T_14.setTop (mkF m 64 #[.val (.ref ax), .val (.int xt), .val (.int xh), .val (.long xw), .second] []))) st_14 ?_
  refine Goes.retV X_14 hx hlk hret (hb hby d_rm_arc_64) (by decide) (by decide) ?_
  try rw [e_14]
  exact ⟨rfl, N_14, K_19, f_15, f_16, f_17, f_18⟩
theorem d_rm_eq_0 : decode prog_4_method_3_code 0 = .ok (.aload_n 1, 1) := by decide +kernel
theorem d_rm_eq_1 : decode prog_4_method_3_code 1 = .ok (.instanceof 20, 3) := by decide +kernel
theorem d_rm_eq_4 : decode prog_4_method_3_code 4 = .ok (.ifCond .eq 46, 3) := by decide +kernel
theorem d_rm_eq_7 : decode prog_4_method_3_code 7 = .ok (.aload_n 1, 1) := by decide +kernel
theorem d_rm_eq_8 : decode prog_4_method_3_code 8 = .ok (.checkcast 20, 3) := by decide +kernel
theorem d_rm_eq_11 : decode prog_4_method_3_code 11 = .ok (.astore_n 2, 1) := by decide +kernel
theorem d_rm_eq_12 : decode prog_4_method_3_code 12 = .ok (.aload_n 0, 1) := by decide +kernel
theorem d_rm_eq_13 : decode prog_4_method_3_code 13 = .ok (.getfield 19, 3) := by decide +kernel
theorem d_rm_eq_16 : decode prog_4_method_3_code 16 = .ok (.aload_n 2, 1) := by decide +kernel
theorem d_rm_eq_17 : decode prog_4_method_3_code 17 = .ok (.getfield 19, 3) := by decide +kernel
theorem d_rm_eq_20 : decode prog_4_method_3_code 20 = .ok (.if_icmp .ne 30, 3) := by decide +kernel
theorem d_rm_eq_23 : decode prog_4_method_3_code 23 = .ok (.aload_n 0, 1) := by decide +kernel
theorem d_rm_eq_24 : decode prog_4_method_3_code 24 = .ok (.getfield 25, 3) := by decide +kernel
theorem d_rm_eq_27 : decode prog_4_method_3_code 27 = .ok (.aload_n 2, 1) := by decide +kernel
theorem d_rm_eq_28 : decode prog_4_method_3_code 28 = .ok (.getfield 25, 3) := by decide +kernel
theorem d_rm_eq_31 : decode prog_4_method_3_code 31 = .ok (.if_icmp .ne 19, 3) := by decide +kernel
theorem d_rm_eq_34 : decode prog_4_method_3_code 34 = .ok (.aload_n 0, 1) := by decide +kernel
theorem d_rm_eq_35 : decode prog_4_method_3_code 35 = .ok (.getfield 28, 3) := by decide +kernel
theorem d_rm_eq_38 : decode prog_4_method_3_code 38 = .ok (.aload_n 2, 1) := by decide +kernel
theorem d_rm_eq_39 : decode prog_4_method_3_code 39 = .ok (.getfield 28, 3) := by decide +kernel
theorem d_rm_eq_42 : decode prog_4_method_3_code 42 = .ok (.lcmp, 1) := by decide +kernel
theorem d_rm_eq_43 : decode prog_4_method_3_code 43 = .ok (.ifCond .ne 7, 3) := by decide +kernel
theorem d_rm_eq_46 : decode prog_4_method_3_code 46 = .ok (.iconst 1, 1) := by decide +kernel
theorem d_rm_eq_47 : decode prog_4_method_3_code 47 = .ok (.goto 4, 3) := by decide +kernel
theorem d_rm_eq_50 : decode prog_4_method_3_code 50 = .ok (.iconst 0, 1) := by decide +kernel
theorem d_rm_eq_51 : decode prog_4_method_3_code 51 = .ok (.ireturn, 1) := by decide +kernel
set_option maxHeartbeats 4000000 in
theorem ef_rm_eq (m : MethodId) (x0 : Addr) (x1 : Addr)  : entryFrame m #[(.ref x0), (.ref x1)] 3 = mkF m 0 #[.val (.ref x0), .val (.ref x1), .unset] [] := by first | (simp [entryFrame, mkF, argsToLocals, catR, catN, catI, catJ]; done) | rfl
set_option maxRecDepth 65536 in
set_option maxHeartbeats 40000000 in
theorem rm_eq (l : Launch) (Z : State) (a0 : Array Value) (hw : ∀ d ∈ tables_1, d.before a0 Z = true) (ws : List Jvm.Cond) (ax bx : Addr) (ta ha tb hd z : Int32) (wa wb : Int64) (h0 : Heap) (n0 : Nat) (Z0 : n0 ≤ h0.size) (Fa_tail : Fld Z h0 ax "com/example/copse/copse/Arc" "tail" "I" (.int ta)) (Fa_head : Fld Z h0 ax "com/example/copse/copse/Arc" "head" "I" (.int ha)) (Fa_weight : Fld Z h0 ax "com/example/copse/copse/Arc" "weight" "J" (.long wa)) (Eb : Exa Z h0 bx "com/example/copse/copse/Arc") (Fb_tail : Fld Z h0 bx "com/example/copse/copse/Arc" "tail" "I" (.int tb)) (Fb_head : Fld Z h0 bx "com/example/copse/copse/Arc" "head" "I" (.int hd)) (Fb_weight : Fld Z h0 bx "com/example/copse/copse/Arc" "weight" "J" (.long wb)) (hz : z = if ta = tb ∧ ha = hd ∧ wa = wb then 1 else 0) :
    Pays l Z (⟨"com/example/copse/copse/Arc", "equals", "(Ljava/lang/Object;)Z"⟩ : MethodName) prog_4_method_3_code 3 (some .boolean) ws ({ frames := 0, cells := 0, slots := 0, locals := 0 } : Room) #[(.ref ax), (.ref bx)] h0 (fun v h L => v = some (.int z) ∧ Fr n0 L ∧ h = h0) := by
  refine Pays.of (plainFor_of_name (by first | (simp [plainName, overriddenIn]; done) | decide +kernel)) ?_
  intro p e s m below meth c s₁ hx hby hml hown hnm hret hlk hZ e0 X0
  have N0 := Fr.nil n0
  have K0 : Keep h0 h0 [] := Keep.refl _ _
  refine Goes.go (U' := (s₁.setTop (mkF m 0 #[.val (.ref ax), .val (.ref bx), .unset] []))) (fun t kt => castTop (ef_rm_eq m ax bx) kt) ?_
  refine Goes.go (U' := (s₁.setTop (mkF m 1 #[.val (.ref ax), .val (.ref bx), .unset] [(.ref bx)]))) (fun t kt => ?_) ?_
  · show Steps p.tables e below (s₁.setTop (mkF m 0 #[.val (.ref ax), .val (.ref bx), .unset] [])) t
    refine XS.aloadN X0.here hx rfl (hb hby d_rm_eq_0) rfl rfl ?_
    exact kt
  obtain ⟨T_1, X_1, e_1, st_1⟩ := instY X0 hx hZ hown (wdOf hw 38 rfl) e0 (Ins.self Eb) (g := (mkF m 1 #[.val (.ref ax), .val (.ref bx), .unset] [(.ref bx)])) rfl rfl (hb hby d_rm_eq_1)
  refine Goes.go (U' := (T_1.setTop (mkF m 4 #[.val (.ref ax), .val (.ref bx), .unset] [(.int (1 : Int32))]))) st_1 ?_
  refine Goes.go (U' := (T_1.setTop (mkF m 8 #[.val (.ref ax), .val (.ref bx), .unset] [(.ref bx)]))) (fun t kt => ?_) ?_
  · show Steps p.tables e below (T_1.setTop (mkF m 4 #[.val (.ref ax), .val (.ref bx), .unset] [(.int (1 : Int32))])) t
    refine XS.ifNo X_1.here hx rfl (hb hby d_rm_eq_4) rfl (XT.i0_eq_f (by decide)) ?_
    show Steps p.tables e below (T_1.setTop (mkF m 7 #[.val (.ref ax), .val (.ref bx), .unset] [])) t
    refine XS.aloadN X_1.here hx rfl (hb hby d_rm_eq_7) rfl rfl ?_
    exact kt
  obtain ⟨T_2, X_2, e_2, st_2⟩ := castY X_1 hx hZ hown (wdOf hw 38 rfl) e_1 (Ins.self Eb) (g := (mkF m 8 #[.val (.ref ax), .val (.ref bx), .unset] [(.ref bx)])) rfl rfl (hb hby d_rm_eq_8)
  refine Goes.go (U' := (T_2.setTop (mkF m 11 #[.val (.ref ax), .val (.ref bx), .unset] [(.ref bx)]))) st_2 ?_
  refine Goes.go (U' := (T_2.setTop (mkF m 13 #[.val (.ref ax), .val (.ref bx), .val (.ref bx)] [(.ref ax)]))) (fun t kt => ?_) ?_
  · show Steps p.tables e below (T_2.setTop (mkF m 11 #[.val (.ref ax), .val (.ref bx), .unset] [(.ref bx)])) t
    refine XS.astoreN X_2.here hx rfl (hb hby d_rm_eq_11) rfl rfl (l' := #[.val (.ref ax), .val (.ref bx), .val (.ref bx)]) rfl ?_
    show Steps p.tables e below (T_2.setTop (mkF m 12 #[.val (.ref ax), .val (.ref bx), .val (.ref bx)] [])) t
    refine XS.aloadN X_2.here hx rfl (hb hby d_rm_eq_12) rfl rfl ?_
    exact kt
  obtain ⟨T_3, X_3, e_3, st_3⟩ := getF X_2 hx hZ hown (host := "") (Or.inl (wdOf hw 20 rfl)) Via.refl e_2 Fa_tail (g := (mkF m 13 #[.val (.ref ax), .val (.ref bx), .val (.ref bx)] [(.ref ax)])) rfl rfl (hb hby d_rm_eq_13)
  refine Goes.go (U' := (T_3.setTop (mkF m 16 #[.val (.ref ax), .val (.ref bx), .val (.ref bx)] [(.int ta)]))) st_3 ?_
  refine Goes.go (U' := (T_3.setTop (mkF m 17 #[.val (.ref ax), .val (.ref bx), .val (.ref bx)] [(.ref bx), (.int ta)]))) (fun t kt => ?_) ?_
  · show Steps p.tables e below (T_3.setTop (mkF m 16 #[.val (.ref ax), .val (.ref bx), .val (.ref bx)] [(.int ta)])) t
    refine XS.aloadN X_3.here hx rfl (hb hby d_rm_eq_16) rfl rfl ?_
    exact kt
  obtain ⟨T_4, X_4, e_4, st_4⟩ := getF X_3 hx hZ hown (host := "") (Or.inl (wdOf hw 20 rfl)) Via.refl e_3 Fb_tail (g := (mkF m 17 #[.val (.ref ax), .val (.ref bx), .val (.ref bx)] [(.ref bx), (.int ta)])) rfl rfl (hb hby d_rm_eq_17)
  refine Goes.go (U' := (T_4.setTop (mkF m 20 #[.val (.ref ax), .val (.ref bx), .val (.ref bx)] [(.int tb), (.int ta)]))) st_4 ?_
  by_cases c_5 : ta = tb
  · -- ta = tb
    refine Goes.go (U' := (T_4.setTop (mkF m 24 #[.val (.ref ax), .val (.ref bx), .val (.ref bx)] [(.ref ax)]))) (fun t kt => ?_) ?_
    · show Steps p.tables e below (T_4.setTop (mkF m 20 #[.val (.ref ax), .val (.ref bx), .val (.ref bx)] [(.int tb), (.int ta)])) t
      refine XS.icmpNo X_4.here hx rfl (hb hby d_rm_eq_20) rfl (XT.ii_ne_f c_5) ?_
      show Steps p.tables e below (T_4.setTop (mkF m 23 #[.val (.ref ax), .val (.ref bx), .val (.ref bx)] [])) t
      refine XS.aloadN X_4.here hx rfl (hb hby d_rm_eq_23) rfl rfl ?_
      exact kt
    obtain ⟨T_6, X_6, e_6, st_6⟩ := getF X_4 hx hZ hown (host := "") (Or.inl (wdOf hw 22 rfl)) Via.refl e_4 Fa_head (g := (mkF m 24 #[.val (.ref ax), .val (.ref bx), .val (.ref bx)] [(.ref ax)])) rfl rfl (hb hby d_rm_eq_24)
    refine Goes.go (U' := (T_6.setTop (mkF m 27 #[.val (.ref ax), .val (.ref bx), .val (.ref bx)] [(.int ha)]))) st_6 ?_
    refine Goes.go (U' := (T_6.setTop (mkF m 28 #[.val (.ref ax), .val (.ref bx), .val (.ref bx)] [(.ref bx), (.int ha)]))) (fun t kt => ?_) ?_
    · show Steps p.tables e below (T_6.setTop (mkF m 27 #[.val (.ref ax), .val (.ref bx), .val (.ref bx)] [(.int ha)])) t
      refine XS.aloadN X_6.here hx rfl (hb hby d_rm_eq_27) rfl rfl ?_
      exact kt
    obtain ⟨T_7, X_7, e_7, st_7⟩ := getF X_6 hx hZ hown (host := "") (Or.inl (wdOf hw 22 rfl)) Via.refl e_6 Fb_head (g := (mkF m 28 #[.val (.ref ax), .val (.ref bx), .val (.ref bx)] [(.ref bx), (.int ha)])) rfl rfl (hb hby d_rm_eq_28)
    refine Goes.go (U' := (T_7.setTop (mkF m 31 #[.val (.ref ax), .val (.ref bx), .val (.ref bx)] [(.int hd), (.int ha)]))) st_7 ?_
    by_cases c_8 : ha = hd
    · -- ha = hd
      refine Goes.go (U' := (T_7.setTop (mkF m 35 #[.val (.ref ax), .val (.ref bx), .val (.ref bx)] [(.ref ax)]))) (fun t kt => ?_) ?_
      · show Steps p.tables e below (T_7.setTop (mkF m 31 #[.val (.ref ax), .val (.ref bx), .val (.ref bx)] [(.int hd), (.int ha)])) t
        refine XS.icmpNo X_7.here hx rfl (hb hby d_rm_eq_31) rfl (XT.ii_ne_f c_8) ?_
        show Steps p.tables e below (T_7.setTop (mkF m 34 #[.val (.ref ax), .val (.ref bx), .val (.ref bx)] [])) t
        refine XS.aloadN X_7.here hx rfl (hb hby d_rm_eq_34) rfl rfl ?_
        exact kt
      obtain ⟨T_9, X_9, e_9, st_9⟩ := getF X_7 hx hZ hown (host := "") (Or.inl (wdOf hw 24 rfl)) Via.refl e_7 Fa_weight (g := (mkF m 35 #[.val (.ref ax), .val (.ref bx), .val (.ref bx)] [(.ref ax)])) rfl rfl (hb hby d_rm_eq_35)
      refine Goes.go (U' := (T_9.setTop (mkF m 38 #[.val (.ref ax), .val (.ref bx), .val (.ref bx)] [(.long wa)]))) st_9 ?_
      refine Goes.go (U' := (T_9.setTop (mkF m 39 #[.val (.ref ax), .val (.ref bx), .val (.ref bx)] [(.ref bx), (.long wa)]))) (fun t kt => ?_) ?_
      · show Steps p.tables e below (T_9.setTop (mkF m 38 #[.val (.ref ax), .val (.ref bx), .val (.ref bx)] [(.long wa)])) t
        refine XS.aloadN X_9.here hx rfl (hb hby d_rm_eq_38) rfl rfl ?_
        exact kt
      obtain ⟨T_10, X_10, e_10, st_10⟩ := getF X_9 hx hZ hown (host := "") (Or.inl (wdOf hw 24 rfl)) Via.refl e_9 Fb_weight (g := (mkF m 39 #[.val (.ref ax), .val (.ref bx), .val (.ref bx)] [(.ref bx), (.long wa)])) rfl rfl (hb hby d_rm_eq_39)
      refine Goes.go (U' := (T_10.setTop (mkF m 42 #[.val (.ref ax), .val (.ref bx), .val (.ref bx)] [(.long wb), (.long wa)]))) st_10 ?_
      refine Goes.go (U' := (T_10.setTop (mkF m 43 #[.val (.ref ax), .val (.ref bx), .val (.ref bx)] [(.int (XT.cmpL wa wb))]))) (fun t kt => ?_) ?_
      · show Steps p.tables e below (T_10.setTop (mkF m 42 #[.val (.ref ax), .val (.ref bx), .val (.ref bx)] [(.long wb), (.long wa)])) t
        refine XT.lcmp X_10.here hx rfl (hb hby d_rm_eq_42) rfl ?_
        exact kt
      by_cases c_11 : wa = wb
      · -- wa = wb
        refine Goes.go (U' := (T_10.setTop (mkF m 51 #[.val (.ref ax), .val (.ref bx), .val (.ref bx)] [(.int (1 : Int32))]))) (fun t kt => ?_) ?_
        · show Steps p.tables e below (T_10.setTop (mkF m 43 #[.val (.ref ax), .val (.ref bx), .val (.ref bx)] [(.int (XT.cmpL wa wb))])) t
          refine XS.ifNo X_10.here hx rfl (hb hby d_rm_eq_43) rfl (XT.ll_ne_f c_11) ?_
          show Steps p.tables e below (T_10.setTop (mkF m 46 #[.val (.ref ax), .val (.ref bx), .val (.ref bx)] [])) t
          refine XS.iconst X_10.here hx rfl (hb hby d_rm_eq_46) ?_
          show Steps p.tables e below (T_10.setTop (mkF m 47 #[.val (.ref ax), .val (.ref bx), .val (.ref bx)] [(.int (1 : Int32))])) t
          refine XS.goto X_10.here hx rfl (pc0 := 47) (pc' := 51) rfl (hb hby d_rm_eq_47) (by decide) (by decide) ?_
          exact kt
        refine Goes.retB X_10 hx hlk hret (hb hby d_rm_eq_51) (by decide) (by decide) ?_
        try rw [e_10]
        exact ⟨by subst hz; first | (rw [if_pos (by simp [c_5, c_8, c_11])]; rfl) | (rw [if_neg (by simp [c_5, c_8, c_11])]; rfl), N0, rfl⟩
      · -- not wa = wb
        refine Goes.go (U' := (T_10.setTop (mkF m 51 #[.val (.ref ax), .val (.ref bx), .val (.ref bx)] [(.int (0 : Int32))]))) (fun t kt => ?_) ?_
        · show Steps p.tables e below (T_10.setTop (mkF m 43 #[.val (.ref ax), .val (.ref bx), .val (.ref bx)] [(.int (XT.cmpL wa wb))])) t
          refine XS.ifYes X_10.here hx rfl (pc0 := 43) (pc' := 50) rfl (hb hby d_rm_eq_43) rfl (XT.ll_ne_t c_11) (by decide) (by decide) ?_
          show Steps p.tables e below (T_10.setTop (mkF m 50 #[.val (.ref ax), .val (.ref bx), .val (.ref bx)] [])) t
          refine XS.iconst X_10.here hx rfl (hb hby d_rm_eq_50) ?_
          exact kt
        refine Goes.retB X_10 hx hlk hret (hb hby d_rm_eq_51) (by decide) (by decide) ?_
        try rw [e_10]
        exact ⟨by subst hz; first | (rw [if_pos (by simp [c_5, c_8, c_11])]; rfl) | (rw [if_neg (by simp [c_5, c_8, c_11])]; rfl), N0, rfl⟩
    · -- not ha = hd
      refine Goes.go (U' := (T_7.setTop (mkF m 51 #[.val (.ref ax), .val (.ref bx), .val (.ref bx)] [(.int (0 : Int32))]))) (fun t kt => ?_) ?_
      · show Steps p.tables e below (T_7.setTop (mkF m 31 #[.val (.ref ax), .val (.ref bx), .val (.ref bx)] [(.int hd), (.int ha)])) t
        refine XS.icmpYes X_7.here hx rfl (pc0 := 31) (pc' := 50) rfl (hb hby d_rm_eq_31) rfl (XT.ii_ne_t c_8) (by decide) (by decide) ?_
        show Steps p.tables e below (T_7.setTop (mkF m 50 #[.val (.ref ax), .val (.ref bx), .val (.ref bx)] [])) t
        refine XS.iconst X_7.here hx rfl (hb hby d_rm_eq_50) ?_
        exact kt
      refine Goes.retB X_7 hx hlk hret (hb hby d_rm_eq_51) (by decide) (by decide) ?_
      try rw [e_7]
      exact ⟨by subst hz; first | (rw [if_pos (by simp [c_5, c_8])]; rfl) | (rw [if_neg (by simp [c_5, c_8])]; rfl), N0, rfl⟩
  · -- not ta = tb
    refine Goes.go (U' := (T_4.setTop (mkF m 51 #[.val (.ref ax), .val (.ref bx), .val (.ref bx)] [(.int (0 : Int32))]))) (fun t kt => ?_) ?_
    · show Steps p.tables e below (T_4.setTop (mkF m 20 #[.val (.ref ax), .val (.ref bx), .val (.ref bx)] [(.int tb), (.int ta)])) t
      refine XS.icmpYes X_4.here hx rfl (pc0 := 20) (pc' := 50) rfl (hb hby d_rm_eq_20) rfl (XT.ii_ne_t c_5) (by decide) (by decide) ?_
      show Steps p.tables e below (T_4.setTop (mkF m 50 #[.val (.ref ax), .val (.ref bx), .val (.ref bx)] [])) t
      refine XS.iconst X_4.here hx rfl (hb hby d_rm_eq_50) ?_
      exact kt
    refine Goes.retB X_4 hx hlk hret (hb hby d_rm_eq_51) (by decide) (by decide) ?_
    try rw [e_4]
    exact ⟨by subst hz; first | (rw [if_pos (by simp [c_5])]; rfl) | (rw [if_neg (by simp [c_5])]; rfl), N0, rfl⟩
theorem d_rm_eqN_0 : decode prog_4_method_3_code 0 = .ok (.aload_n 1, 1) := by decide +kernel
theorem d_rm_eqN_1 : decode prog_4_method_3_code 1 = .ok (.instanceof 20, 3) := by decide +kernel
theorem d_rm_eqN_4 : decode prog_4_method_3_code 4 = .ok (.ifCond .eq 46, 3) := by decide +kernel
theorem d_rm_eqN_50 : decode prog_4_method_3_code 50 = .ok (.iconst 0, 1) := by decide +kernel
theorem d_rm_eqN_51 : decode prog_4_method_3_code 51 = .ok (.ireturn, 1) := by decide +kernel
set_option maxHeartbeats 4000000 in
theorem ef_rm_eqN (m : MethodId) (x0 : Addr)  : entryFrame m #[(.ref x0), .null] 3 = mkF m 0 #[.val (.ref x0), .val .null, .unset] [] := by first | (simp [entryFrame, mkF, argsToLocals, catR, catN, catI, catJ]; done) | rfl
set_option maxRecDepth 65536 in
set_option maxHeartbeats 40000000 in
theorem rm_eqN (l : Launch) (Z : State) (a0 : Array Value) (hw : ∀ d ∈ tables_1, d.before a0 Z = true) (ws : List Jvm.Cond) (ax : Addr) (h0 : Heap) (n0 : Nat) (Z0 : n0 ≤ h0.size)  :
    Pays l Z (⟨"com/example/copse/copse/Arc", "equals", "(Ljava/lang/Object;)Z"⟩ : MethodName) prog_4_method_3_code 3 (some .boolean) ws ({ frames := 0, cells := 0, slots := 0, locals := 0 } : Room) #[(.ref ax), .null] h0 (fun v h L => v = some (.int 0) ∧ Fr n0 L ∧ h = h0) := by
  refine Pays.of (plainFor_of_name (by first | (simp [plainName, overriddenIn]; done) | decide +kernel)) ?_
  intro p e s m below meth c s₁ hx hby hml hown hnm hret hlk hZ e0 X0
  have N0 := Fr.nil n0
  have K0 : Keep h0 h0 [] := Keep.refl _ _
  refine Goes.go (U' := (s₁.setTop (mkF m 0 #[.val (.ref ax), .val .null, .unset] []))) (fun t kt => castTop (ef_rm_eqN m ax) kt) ?_
  refine Goes.go (U' := (s₁.setTop (mkF m 51 #[.val (.ref ax), .val .null, .unset] [(.int (0 : Int32))]))) (fun t kt => ?_) ?_
  · show Steps p.tables e below (s₁.setTop (mkF m 0 #[.val (.ref ax), .val .null, .unset] [])) t
    refine XS.aloadN X0.here hx rfl (hb hby d_rm_eqN_0) rfl rfl ?_
    show Steps p.tables e below (s₁.setTop (mkF m 1 #[.val (.ref ax), .val .null, .unset] [.null])) t
    refine X0.instanceofNull hx (g := (mkF m 1 #[.val (.ref ax), .val .null, .unset] [.null])) rfl rfl (hb hby d_rm_eqN_1) _ ?_
    show Steps p.tables e below (s₁.setTop (mkF m 4 #[.val (.ref ax), .val .null, .unset] [(.int (0 : Int32))])) t
    refine XS.ifYes X0.here hx rfl (pc0 := 4) (pc' := 50) rfl (hb hby d_rm_eqN_4) rfl (XT.i0_eq_t (by decide)) (by decide) (by decide) ?_
    show Steps p.tables e below (s₁.setTop (mkF m 50 #[.val (.ref ax), .val .null, .unset] [])) t
    refine XS.iconst X0.here hx rfl (hb hby d_rm_eqN_50) ?_
    exact kt
  refine Goes.retB X0 hx hlk hret (hb hby d_rm_eqN_51) (by decide) (by decide) ?_
  try rw [e0]
  exact ⟨rfl, N0, rfl⟩
theorem d_rm_eqI_0 : decode prog_4_method_3_code 0 = .ok (.aload_n 1, 1) := by decide +kernel
theorem d_rm_eqI_1 : decode prog_4_method_3_code 1 = .ok (.instanceof 20, 3) := by decide +kernel
theorem d_rm_eqI_4 : decode prog_4_method_3_code 4 = .ok (.ifCond .eq 46, 3) := by decide +kernel
theorem d_rm_eqI_50 : decode prog_4_method_3_code 50 = .ok (.iconst 0, 1) := by decide +kernel
theorem d_rm_eqI_51 : decode prog_4_method_3_code 51 = .ok (.ireturn, 1) := by decide +kernel
set_option maxHeartbeats 4000000 in
theorem ef_rm_eqI (m : MethodId) (x0 : Addr) (x1 : Addr)  : entryFrame m #[(.ref x0), (.ref x1)] 3 = mkF m 0 #[.val (.ref x0), .val (.ref x1), .unset] [] := by first | (simp [entryFrame, mkF, argsToLocals, catR, catN, catI, catJ]; done) | rfl
set_option maxRecDepth 65536 in
set_option maxHeartbeats 40000000 in
theorem rm_eqI (l : Launch) (Z : State) (a0 : Array Value) (hw : ∀ d ∈ tables_1, d.before a0 Z = true) (ws : List Jvm.Cond) (ax bx : Addr) (h0 : Heap) (n0 : Nat) (Z0 : n0 ≤ h0.size) (Eb : Exa Z h0 bx "java/lang/Integer") :
    Pays l Z (⟨"com/example/copse/copse/Arc", "equals", "(Ljava/lang/Object;)Z"⟩ : MethodName) prog_4_method_3_code 3 (some .boolean) ws ({ frames := 0, cells := 0, slots := 0, locals := 0 } : Room) #[(.ref ax), (.ref bx)] h0 (fun v h L => v = some (.int 0) ∧ Fr n0 L ∧ h = h0) := by
  refine Pays.of (plainFor_of_name (by first | (simp [plainName, overriddenIn]; done) | decide +kernel)) ?_
  intro p e s m below meth c s₁ hx hby hml hown hnm hret hlk hZ e0 X0
  have N0 := Fr.nil n0
  have K0 : Keep h0 h0 [] := Keep.refl _ _
  refine Goes.go (U' := (s₁.setTop (mkF m 0 #[.val (.ref ax), .val (.ref bx), .unset] []))) (fun t kt => castTop (ef_rm_eqI m ax bx) kt) ?_
  refine Goes.go (U' := (s₁.setTop (mkF m 1 #[.val (.ref ax), .val (.ref bx), .unset] [(.ref bx)]))) (fun t kt => ?_) ?_
  · show Steps p.tables e below (s₁.setTop (mkF m 0 #[.val (.ref ax), .val (.ref bx), .unset] [])) t
    refine XS.aloadN X0.here hx rfl (hb hby d_rm_eqI_0) rfl rfl ?_
    exact kt
  obtain ⟨T_1, X_1, e_1, st_1⟩ := instNo X0 hx hZ hown (wdOf hw 38 rfl) e0 Eb (NSno (wdOf hw 40 rfl) (wdOf hw 7 rfl) (NS.step (wdOf hw 40 rfl) (NS.step (wdOf hw 41 rfl) (NSr (wdOf hw 42 rfl) (wdOf hw 7 rfl) (by decide)) (by decide)) (by decide)) (by decide)) (g := (mkF m 1 #[.val (.ref ax), .val (.ref bx), .unset] [(.ref bx)])) rfl rfl (hb hby d_rm_eqI_1)
  refine Goes.go (U' := (T_1.setTop (mkF m 4 #[.val (.ref ax), .val (.ref bx), .unset] [(.int (0 : Int32))]))) st_1 ?_
  refine Goes.go (U' := (T_1.setTop (mkF m 51 #[.val (.ref ax), .val (.ref bx), .unset] [(.int (0 : Int32))]))) (fun t kt => ?_) ?_
  · show Steps p.tables e below (T_1.setTop (mkF m 4 #[.val (.ref ax), .val (.ref bx), .unset] [(.int (0 : Int32))])) t
    refine XS.ifYes X_1.here hx rfl (pc0 := 4) (pc' := 50) rfl (hb hby d_rm_eqI_4) rfl (XT.i0_eq_t (by decide)) (by decide) (by decide) ?_
    show Steps p.tables e below (T_1.setTop (mkF m 50 #[.val (.ref ax), .val (.ref bx), .unset] [])) t
    refine XS.iconst X_1.here hx rfl (hb hby d_rm_eqI_50) ?_
    exact kt
  refine Goes.retB X_1 hx hlk hret (hb hby d_rm_eqI_51) (by decide) (by decide) ?_
  try rw [e_1]
  exact ⟨rfl, N0, rfl⟩
theorem own_land (x : Int64) : ¬ (x &&& (9223372036854775807 : Int64)) < (0 : Int64) := by
  rw [Int64.lt_iff_toInt_lt, c_maskL x 9223372036854775807 63 (by decide) (by decide)]
  show ¬ _ < (0 : Int)
  omega
theorem own_lsh (x : Int64) : ¬ ((x.toUInt64 >>> ((1 : Int32) &&& 0x3f).toInt64.toUInt64).toInt64) < (0 : Int64) := by
  rw [Int64.lt_iff_toInt_lt, c_lushr x 1 1 (by decide) (by decide)]
  show ¬ _ < (0 : Int)
  omega
set_option maxRecDepth 65536 in
set_option maxHeartbeats 40000000 in
theorem law_91 (l : Launch) (Z : State) (a0 : Array Value) (hw : ∀ d ∈ tables_1, d.before a0 Z = true) (pa pb : Int32) (pw : Int64) (pc pd : Int32) (pv : Int64) (t1 h1 : Int32) (w1 : Int64) (t2 h2 : Int32) (w2 : Int64) (h0 : Heap) (n0 : Nat) (Z0 : n0 ≤ h0.size) (p : Program) (e : Env) (s : State) (m : MethodId) (below : List Frame) (meth : Method) (c : Code) (hx : p.tables.exec = Jvm.exec) (hby : c.code = code) (hml : c.maxLocals = maxLocals) (hown : s.vm.findClass "com/example/copse/copse/ArcEqualsPinLaw" = some m.cls) (hnm : meth.name = "law") (hret : meth.sig.returnType = ret) (hlk : meth.locks = false) (hZ : Z.Warmed39 s.vm) (h : Heap) (T : State) (locs : List Loc) (X : Stand p l e room_1 s m #[(.int pa), (.int pb), (.long pw), (.int pc), (.int pd), (.long pv)] below meth c T locs 0 0) (eT : T.heap = h) (N : Fr n0 locs) (K0 : Keep h0 h []) (O : Old Z n0 h) (BC : BoxC Z "java/lang/Integer$IntegerCache" "[Ljava/lang/Integer;" "java/lang/Integer" "I" (fun i => .int (i.toInt32 - 128))) (SH : Sta Z Z.heap "java/lang/Integer$IntegerCache" "high" "I" (.int (127 : Int32))) (g1 : ¬ t1 < (1 : Int32)) (g2 : ¬ h1 < (1 : Int32)) (g3 : ¬ w1 < (0 : Int64)) (g4 : ¬ t2 < (1 : Int32)) (g5 : ¬ h2 < (1 : Int32)) (g6 : ¬ w2 < (0 : Int64)) :
    Goes p e s below (fun v h L => v = some (.int 1) ∧ Fr n0 L) room_1.cells room_1.slots (T.setTop (mkF m 91 #[.val (.int pa), .val (.int pb), .val (.long pw), .second, .val (.int pc), .val (.int pd), .val (.long pv), .second, .val (.int t1), .val (.int h1), .val (.long w1), .second, .val (.int t2), .val (.int h2), .val (.long w2), .second, .unset, .unset, .unset, .unset, .unset] [])) := by
  have sz0 : n0 ≤ h.size := Nat.le_trans Z0 K0.1
  obtain ⟨T_1, h_1, X_1, e_1, E_1, A_1, D_1, -, st_1⟩ := newO X hx hZ hown (wdOf hw 6 rfl) (wdOf hw 7 rfl) (wdOf hw 8 rfl) eT (g := (mkF m 91 #[.val (.int pa), .val (.int pb), .val (.long pw), .second, .val (.int pc), .val (.int pd), .val (.long pv), .second, .val (.int t1), .val (.int h1), .val (.long w1), .second, .val (.int t2), .val (.int h2), .val (.long w2), .second, .unset, .unset, .unset, .unset, .unset] [])) rfl (hb hby at_91) (by decide) (by decide)
  obtain ⟨b_1, g_1⟩ : ∃ z, z = h.size := ⟨_, rfl⟩
  rw [← g_1] at A_1 D_1 st_1
  have o_1 : n0 ≤ b_1 := Nat.le_trans sz0 (Nat.le_of_eq g_1.symm)
  have z_1 : h0.size ≤ b_1 := Nat.le_trans K0.1 (Nat.le_of_eq g_1.symm)
  have f_2 : Old Z n0 h_1 := O.ext E_1
  have f_3 : Fld Z h_1 b_1 "com/example/copse/copse/Arc" "tail" "I" (.int (0 : Int32)) := D_1 (Or.inr (wdOf hw 21 rfl)) (ty := .int) (by decide)
  have f_4 : Fld Z h_1 b_1 "com/example/copse/copse/Arc" "head" "I" (.int (0 : Int32)) := D_1 (Or.inr (wdOf hw 23 rfl)) (ty := .int) (by decide)
  have f_5 : Fld Z h_1 b_1 "com/example/copse/copse/Arc" "weight" "J" (.long (0 : Int64)) := D_1 (Or.inr (wdOf hw 25 rfl)) (ty := .long) (by decide)
  have K_6 : Keep h0 h_1 [] := K0.ext E_1
  have y_6 : n0 ≤ h_1.size := Nat.le_trans Z0 K_6.1
  refine Goes.go (U' := (T_1.setTop (mkF m 94 #[.val (.int pa), .val (.int pb), .val (.long pw), .second, .val (.int pc), .val (.int pd), .val (.long pv), .second, .val (.int t1), .val (.int h1), .val (.long w1), .second, .val (.int t2), .val (.int h2), .val (.long w2), .second, .unset, .unset, .unset, .unset, .unset] [(.ref b_1)]))) st_1 ?_
  refine Goes.go (U' := (T_1.setTop (mkF m 101 #[.val (.int pa), .val (.int pb), .val (.long pw), .second, .val (.int pc), .val (.int pd), .val (.long pv), .second, .val (.int t1), .val (.int h1), .val (.long w1), .second, .val (.int t2), .val (.int h2), .val (.long w2), .second, .unset, .unset, .unset, .unset, .unset] [(.long w1), (.int h1), (.int t1), (.ref b_1), (.ref b_1)]))) (fun t kt => ?_) ?_
  · show Steps p.tables e below (T_1.setTop (mkF m 94 #[.val (.int pa), .val (.int pb), .val (.long pw), .second, .val (.int pc), .val (.int pd), .val (.long pv), .second, .val (.int t1), .val (.int h1), .val (.long w1), .second, .val (.int t2), .val (.int h2), .val (.long w2), .second, .unset, .unset, .unset, .unset, .unset] [(.ref b_1)])) t
    refine XS.dup X_1.here hx rfl (hb hby at_94) rfl rfl ?_
    show Steps p.tables e below (T_1.setTop (mkF m 95 #[.val (.int pa), .val (.int pb), .val (.long pw), .second, .val (.int pc), .val (.int pd), .val (.long pv), .second, .val (.int t1), .val (.int h1), .val (.long w1), .second, .val (.int t2), .val (.int h2), .val (.long w2), .second, .unset, .unset, .unset, .unset, .unset] [(.ref b_1), (.ref b_1)])) t
    refine XS.iload X_1.here hx rfl (hb hby at_95) rfl ?_
    show Steps p.tables e below (T_1.setTop (mkF m 97 #[.val (.int pa), .val (.int pb), .val (.long pw), .second, .val (.int pc), .val (.int pd), .val (.long pv), .second, .val (.int t1), .val (.int h1), .val (.long w1), .second, .val (.int t2), .val (.int h2), .val (.long w2), .second, .unset, .unset, .unset, .unset, .unset] [(.int t1), (.ref b_1), (.ref b_1)])) t
    refine XS.iload X_1.here hx rfl (hb hby at_97) rfl ?_
    show Steps p.tables e below (T_1.setTop (mkF m 99 #[.val (.int pa), .val (.int pb), .val (.long pw), .second, .val (.int pc), .val (.int pd), .val (.long pv), .second, .val (.int t1), .val (.int h1), .val (.long w1), .second, .val (.int t2), .val (.int h2), .val (.long w2), .second, .unset, .unset, .unset, .unset, .unset] [(.int h1), (.int t1), (.ref b_1), (.ref b_1)])) t
    refine XS.lload X_1.here hx rfl (hb hby at_99) rfl ?_
    exact kt
  obtain ⟨v_7, T_7, L_7, X_7, q_7, st_7⟩ := callInit X_1 hx hZ (y := (⟨"com/example/copse/copse/Arc", "<init>", "(IIJ)V"⟩ : MethodName)) (W := 1) rfl hown (wdOf hw 9 rfl) (wdOf hw 10 rfl) (wdOf hw 8 rfl) (wdOf hw 11 rfl) (by decide) (rm_arc l Z a0 hw [] b_1 t1 h1 w1 h_1 n0 y_6 o_1 A_1 f_3 f_4 f_5 g1 g2 g3) (by decide) (by decide) (by decide) (by decide) e_1 (b := b_1) (g := (mkF m 101 #[.val (.int pa), .val (.int pb), .val (.long pw), .second, .val (.int pc), .val (.int pd), .val (.long pv), .second, .val (.int t1), .val (.int h1), .val (.long w1), .second, .val (.int t2), .val (.int h2), .val (.long w2), .second, .unset, .unset, .unset, .unset, .unset] [(.long w1), (.int h1), (.int t1), (.ref b_1), (.ref b_1)])) rfl (by rw [hml]; rfl) (argsL := [(.int t1), (.int h1), (.long w1)]) (rest := [(.ref b_1)]) (lenOf pd_2 rfl) rfl rfl (Nat.le_refl _) (hb hby at_101)
  obtain ⟨rfl, n_7, K_7, E_7, Ft_7, Fh_7, Fw_7⟩ := q_7
  have N_7 := Fr.app N n_7
  have f_8 : Old Z n0 T_7.heap := f_2.keep K_7 (allS o_1 all0)
  have f_9 : Exa Z T_7.heap b_1 "com/example/copse/copse/Arc" := A_1.keep K_7
  have K_13 : Keep h0 T_7.heap [] := K_6.trans K_7 (allS (P := fun x => x ∈ [] ∨ h0.size ≤ x) (Or.inr z_1) all0)
  have y_13 : n0 ≤ T_7.heap.size := Nat.le_trans Z0 K_13.1
  refine Goes.go (U' := (T_7.setTop (mkF m 104 #[.val (.int pa), .val (.int pb), .val (.long pw), .second, .val (.int pc), .val (.int pd), .val (.long pv), .second, .val (.int t1), .val (.int h1), .val (.long w1), .second, .val (.int t2), .val (.int h2), .val (.long w2), .second, .unset, .unset, .unset, .unset, .unset] [(.ref b_1)]))) st_7 ?_
  refine Goes.go (U' := (T_7.setTop (mkF m 106 #[.val (.int pa), .val (.int pb), .val (.long pw), .second, .val (.int pc), .val (.int pd), .val (.long pv), .second, .val (.int t1), .val (.int h1), .val (.long w1), .second, .val (.int t2), .val (.int h2), .val (.long w2), .second, .val (.ref b_1), .unset, .unset, .unset, .unset] []))) (fun t kt => ?_) ?_
  · show Steps p.tables e below (T_7.setTop (mkF m 104 #[.val (.int pa), .val (.int pb), .val (.long pw), .second, .val (.int pc), .val (.int pd), .val (.long pv), .second, .val (.int t1), .val (.int h1), .val (.long w1), .second, .val (.int t2), .val (.int h2), .val (.long w2), .second, .unset, .unset, .unset, .unset, .unset] [(.ref b_1)])) t
    refine XS.astore X_7.here hx rfl (hb hby at_104) rfl rfl (l' := #[.val (.int pa), .val (.int pb), .val (.long pw), .second, .val (.int pc), .val (.int pd), .val (.long pv), .second, .val (.int t1), .val (.int h1), .val (.long w1), .second, .val (.int t2), .val (.int h2), .val (.long w2), .second, .val (.ref b_1), .unset, .unset, .unset, .unset]) rfl ?_
    exact kt
  obtain ⟨T_14, h_14, X_14, e_14, E_14, A_14, D_14, -, st_14⟩ := newO X_7 hx hZ hown (wdOf hw 6 rfl) (wdOf hw 7 rfl) (wdOf hw 8 rfl) (rfl : T_7.heap = T_7.heap) (g := (mkF m 106 #[.val (.int pa), .val (.int pb), .val (.long pw), .second, .val (.int pc), .val (.int pd), .val (.long pv), .second, .val (.int t1), .val (.int h1), .val (.long w1), .second, .val (.int t2), .val (.int h2), .val (.long w2), .second, .val (.ref b_1), .unset, .unset, .unset, .unset] [])) rfl (hb hby at_106) (by decide) (by decide)
  obtain ⟨b_14, g_14⟩ : ∃ z, z = T_7.heap.size := ⟨_, rfl⟩
  rw [← g_14] at A_14 D_14 st_14
  have ne_15 : b_1 ≠ b_14 := Nat.ne_of_lt (Nat.lt_of_lt_of_le f_9.lt (Nat.le_of_eq g_14.symm))
  have o_14 : n0 ≤ b_14 := Nat.le_trans y_13 (Nat.le_of_eq g_14.symm)
  have z_14 : h0.size ≤ b_14 := Nat.le_trans K_13.1 (Nat.le_of_eq g_14.symm)
  have f_16 : Old Z n0 h_14 := f_8.ext E_14
  have f_17 : Exa Z h_14 b_1 "com/example/copse/copse/Arc" := f_9.ext E_14
  have f_18 : Fld Z h_14 b_1 "com/example/copse/copse/Arc" "tail" "I" (.int t1) := Ft_7.ext E_14
  have f_19 : Fld Z h_14 b_1 "com/example/copse/copse/Arc" "head" "I" (.int h1) := Fh_7.ext E_14
  have f_20 : Fld Z h_14 b_1 "com/example/copse/copse/Arc" "weight" "J" (.long w1) := Fw_7.ext E_14
  have f_21 : Fld Z h_14 b_14 "com/example/copse/copse/Arc" "tail" "I" (.int (0 : Int32)) := D_14 (Or.inr (wdOf hw 21 rfl)) (ty := .int) (by decide)
  have f_22 : Fld Z h_14 b_14 "com/example/copse/copse/Arc" "head" "I" (.int (0 : Int32)) := D_14 (Or.inr (wdOf hw 23 rfl)) (ty := .int) (by decide)
  have f_23 : Fld Z h_14 b_14 "com/example/copse/copse/Arc" "weight" "J" (.long (0 : Int64)) := D_14 (Or.inr (wdOf hw 25 rfl)) (ty := .long) (by decide)
  have K_24 : Keep h0 h_14 [] := K_13.ext E_14
  have y_24 : n0 ≤ h_14.size := Nat.le_trans Z0 K_24.1
  refine Goes.go (U' := (T_14.setTop (mkF m 109 #[.val (.int pa), .val (.int pb), .val (.long pw), .second, .val (.int pc), .val (.int pd), .val (.long pv), .second, .val (.int t1), .val (.int h1), .val (.long w1), .second, .val (.int t2), .val (.int h2), .val (.long w2), .second, .val (.ref b_1), .unset, .unset, .unset, .unset] [(.ref b_14)]))) st_14 ?_
  refine Goes.go (U' := (T_14.setTop (mkF m 116 #[.val (.int pa), .val (.int pb), .val (.long pw), .second, .val (.int pc), .val (.int pd), .val (.long pv), .second, .val (.int t1), .val (.int h1), .val (.long w1), .second, .val (.int t2), .val (.int h2), .val (.long w2), .second, .val (.ref b_1), .unset, .unset, .unset, .unset] [(.long w2), (.int h2), (.int t2), (.ref b_14), (.ref b_14)]))) (fun t kt => ?_) ?_
  · show Steps p.tables e below (T_14.setTop (mkF m 109 #[.val (.int pa), .val (.int pb), .val (.long pw), .second, .val (.int pc), .val (.int pd), .val (.long pv), .second, .val (.int t1), .val (.int h1), .val (.long w1), .second, .val (.int t2), .val (.int h2), .val (.long w2), .second, .val (.ref b_1), .unset, .unset, .unset, .unset] [(.ref b_14)])) t
    refine XS.dup X_14.here hx rfl (hb hby at_109) rfl rfl ?_
    show Steps p.tables e below (T_14.setTop (mkF m 110 #[.val (.int pa), .val (.int pb), .val (.long pw), .second, .val (.int pc), .val (.int pd), .val (.long pv), .second, .val (.int t1), .val (.int h1), .val (.long w1), .second, .val (.int t2), .val (.int h2), .val (.long w2), .second, .val (.ref b_1), .unset, .unset, .unset, .unset] [(.ref b_14), (.ref b_14)])) t
    refine XS.iload X_14.here hx rfl (hb hby at_110) rfl ?_
    show Steps p.tables e below (T_14.setTop (mkF m 112 #[.val (.int pa), .val (.int pb), .val (.long pw), .second, .val (.int pc), .val (.int pd), .val (.long pv), .second, .val (.int t1), .val (.int h1), .val (.long w1), .second, .val (.int t2), .val (.int h2), .val (.long w2), .second, .val (.ref b_1), .unset, .unset, .unset, .unset] [(.int t2), (.ref b_14), (.ref b_14)])) t
    refine XS.iload X_14.here hx rfl (hb hby at_112) rfl ?_
    show Steps p.tables e below (T_14.setTop (mkF m 114 #[.val (.int pa), .val (.int pb), .val (.long pw), .second, .val (.int pc), .val (.int pd), .val (.long pv), .second, .val (.int t1), .val (.int h1), .val (.long w1), .second, .val (.int t2), .val (.int h2), .val (.long w2), .second, .val (.ref b_1), .unset, .unset, .unset, .unset] [(.int h2), (.int t2), (.ref b_14), (.ref b_14)])) t
    refine XS.lload X_14.here hx rfl (hb hby at_114) rfl ?_
    exact kt
  obtain ⟨v_25, T_25, L_25, X_25, q_25, st_25⟩ := callInit X_14 hx hZ (y := (⟨"com/example/copse/copse/Arc", "<init>", "(IIJ)V"⟩ : MethodName)) (W := 1) rfl hown (wdOf hw 9 rfl) (wdOf hw 10 rfl) (wdOf hw 8 rfl) (wdOf hw 11 rfl) (by decide) (rm_arc l Z a0 hw [] b_14 t2 h2 w2 h_14 n0 y_24 o_14 A_14 f_21 f_22 f_23 g4 g5 g6) (by decide) (by decide) (by decide) (by decide) e_14 (b := b_14) (g := (mkF m 116 #[.val (.int pa), .val (.int pb), .val (.long pw), .second, .val (.int pc), .val (.int pd), .val (.long pv), .second, .val (.int t1), .val (.int h1), .val (.long w1), .second, .val (.int t2), .val (.int h2), .val (.long w2), .second, .val (.ref b_1), .unset, .unset, .unset, .unset] [(.long w2), (.int h2), (.int t2), (.ref b_14), (.ref b_14)])) rfl (by rw [hml]; rfl) (argsL := [(.int t2), (.int h2), (.long w2)]) (rest := [(.ref b_14)]) (lenOf pd_2 rfl) rfl rfl (Nat.le_refl _) (hb hby at_116)
  obtain ⟨rfl, n_25, K_25, E_25, Ft_25, Fh_25, Fw_25⟩ := q_25
  have N_25 := Fr.app N_7 n_25
  have f_26 : Old Z n0 T_25.heap := f_16.keep K_25 (allS o_14 all0)
  have f_27 : Exa Z T_25.heap b_1 "com/example/copse/copse/Arc" := f_17.keep K_25
  have f_28 : Fld Z T_25.heap b_1 "com/example/copse/copse/Arc" "tail" "I" (.int t1) := f_18.keep K_25 (ninS ne_15 nin0)
  have f_29 : Fld Z T_25.heap b_1 "com/example/copse/copse/Arc" "head" "I" (.int h1) := f_19.keep K_25 (ninS ne_15 nin0)
  have f_30 : Fld Z T_25.heap b_1 "com/example/copse/copse/Arc" "weight" "J" (.long w1) := f_20.keep K_25 (ninS ne_15 nin0)
  have f_31 : Exa Z T_25.heap b_14 "com/example/copse/copse/Arc" := A_14.keep K_25
  have K_35 : Keep h0 T_25.heap [] := K_24.trans K_25 (allS (P := fun x => x ∈ [] ∨ h0.size ≤ x) (Or.inr z_14) all0)
  have y_35 : n0 ≤ T_25.heap.size := Nat.le_trans Z0 K_35.1
  refine Goes.go (U' := (T_25.setTop (mkF m 119 #[.val (.int pa), .val (.int pb), .val (.long pw), .second, .val (.int pc), .val (.int pd), .val (.long pv), .second, .val (.int t1), .val (.int h1), .val (.long w1), .second, .val (.int t2), .val (.int h2), .val (.long w2), .second, .val (.ref b_1), .unset, .unset, .unset, .unset] [(.ref b_14)]))) st_25 ?_
  refine Goes.go (U' := (T_25.setTop (mkF m 125 #[.val (.int pa), .val (.int pb), .val (.long pw), .second, .val (.int pc), .val (.int pd), .val (.long pv), .second, .val (.int t1), .val (.int h1), .val (.long w1), .second, .val (.int t2), .val (.int h2), .val (.long w2), .second, .val (.ref b_1), .val (.ref b_14), .unset, .unset, .unset] [(.int t2), (.int t1)]))) (fun t kt => ?_) ?_
  · show Steps p.tables e below (T_25.setTop (mkF m 119 #[.val (.int pa), .val (.int pb), .val (.long pw), .second, .val (.int pc), .val (.int pd), .val (.long pv), .second, .val (.int t1), .val (.int h1), .val (.long w1), .second, .val (.int t2), .val (.int h2), .val (.long w2), .second, .val (.ref b_1), .unset, .unset, .unset, .unset] [(.ref b_14)])) t
    refine XS.astore X_25.here hx rfl (hb hby at_119) rfl rfl (l' := #[.val (.int pa), .val (.int pb), .val (.long pw), .second, .val (.int pc), .val (.int pd), .val (.long pv), .second, .val (.int t1), .val (.int h1), .val (.long w1), .second, .val (.int t2), .val (.int h2), .val (.long w2), .second, .val (.ref b_1), .val (.ref b_14), .unset, .unset, .unset]) rfl ?_
    show Steps p.tables e below (T_25.setTop (mkF m 121 #[.val (.int pa), .val (.int pb), .val (.long pw), .second, .val (.int pc), .val (.int pd), .val (.long pv), .second, .val (.int t1), .val (.int h1), .val (.long w1), .second, .val (.int t2), .val (.int h2), .val (.long w2), .second, .val (.ref b_1), .val (.ref b_14), .unset, .unset, .unset] [])) t
    refine XS.iload X_25.here hx rfl (hb hby at_121) rfl ?_
    show Steps p.tables e below (T_25.setTop (mkF m 123 #[.val (.int pa), .val (.int pb), .val (.long pw), .second, .val (.int pc), .val (.int pd), .val (.long pv), .second, .val (.int t1), .val (.int h1), .val (.long w1), .second, .val (.int t2), .val (.int h2), .val (.long w2), .second, .val (.ref b_1), .val (.ref b_14), .unset, .unset, .unset] [(.int t1)])) t
    refine XS.iload X_25.here hx rfl (hb hby at_123) rfl ?_
    exact kt
  by_cases c_36 : t1 = t2
  · -- t1 = t2
    refine Goes.go (U' := (T_25.setTop (mkF m 132 #[.val (.int pa), .val (.int pb), .val (.long pw), .second, .val (.int pc), .val (.int pd), .val (.long pv), .second, .val (.int t1), .val (.int h1), .val (.long w1), .second, .val (.int t2), .val (.int h2), .val (.long w2), .second, .val (.ref b_1), .val (.ref b_14), .unset, .unset, .unset] [(.int h2), (.int h1)]))) (fun t kt => ?_) ?_
    · show Steps p.tables e below (T_25.setTop (mkF m 125 #[.val (.int pa), .val (.int pb), .val (.long pw), .second, .val (.int pc), .val (.int pd), .val (.long pv), .second, .val (.int t1), .val (.int h1), .val (.long w1), .second, .val (.int t2), .val (.int h2), .val (.long w2), .second, .val (.ref b_1), .val (.ref b_14), .unset, .unset, .unset] [(.int t2), (.int t1)])) t
      refine XS.icmpNo X_25.here hx rfl (hb hby at_125) rfl (XT.ii_ne_f c_36) ?_
      show Steps p.tables e below (T_25.setTop (mkF m 128 #[.val (.int pa), .val (.int pb), .val (.long pw), .second, .val (.int pc), .val (.int pd), .val (.long pv), .second, .val (.int t1), .val (.int h1), .val (.long w1), .second, .val (.int t2), .val (.int h2), .val (.long w2), .second, .val (.ref b_1), .val (.ref b_14), .unset, .unset, .unset] [])) t
      refine XS.iload X_25.here hx rfl (hb hby at_128) rfl ?_
      show Steps p.tables e below (T_25.setTop (mkF m 130 #[.val (.int pa), .val (.int pb), .val (.long pw), .second, .val (.int pc), .val (.int pd), .val (.long pv), .second, .val (.int t1), .val (.int h1), .val (.long w1), .second, .val (.int t2), .val (.int h2), .val (.long w2), .second, .val (.ref b_1), .val (.ref b_14), .unset, .unset, .unset] [(.int h1)])) t
      refine XS.iload X_25.here hx rfl (hb hby at_130) rfl ?_
      exact kt
    by_cases c_37 : h1 = h2
    · -- h1 = h2
      refine Goes.go (U' := (T_25.setTop (mkF m 140 #[.val (.int pa), .val (.int pb), .val (.long pw), .second, .val (.int pc), .val (.int pd), .val (.long pv), .second, .val (.int t1), .val (.int h1), .val (.long w1), .second, .val (.int t2), .val (.int h2), .val (.long w2), .second, .val (.ref b_1), .val (.ref b_14), .unset, .unset, .unset] [(.int (XT.cmpL w1 w2))]))) (fun t kt => ?_) ?_
      · show Steps p.tables e below (T_25.setTop (mkF m 132 #[.val (.int pa), .val (.int pb), .val (.long pw), .second, .val (.int pc), .val (.int pd), .val (.long pv), .second, .val (.int t1), .val (.int h1), .val (.long w1), .second, .val (.int t2), .val (.int h2), .val (.long w2), .second, .val (.ref b_1), .val (.ref b_14), .unset, .unset, .unset] [(.int h2), (.int h1)])) t
        refine XS.icmpNo X_25.here hx rfl (hb hby at_132) rfl (XT.ii_ne_f c_37) ?_
        show Steps p.tables e below (T_25.setTop (mkF m 135 #[.val (.int pa), .val (.int pb), .val (.long pw), .second, .val (.int pc), .val (.int pd), .val (.long pv), .second, .val (.int t1), .val (.int h1), .val (.long w1), .second, .val (.int t2), .val (.int h2), .val (.long w2), .second, .val (.ref b_1), .val (.ref b_14), .unset, .unset, .unset] [])) t
        refine XS.lload X_25.here hx rfl (hb hby at_135) rfl ?_
        show Steps p.tables e below (T_25.setTop (mkF m 137 #[.val (.int pa), .val (.int pb), .val (.long pw), .second, .val (.int pc), .val (.int pd), .val (.long pv), .second, .val (.int t1), .val (.int h1), .val (.long w1), .second, .val (.int t2), .val (.int h2), .val (.long w2), .second, .val (.ref b_1), .val (.ref b_14), .unset, .unset, .unset] [(.long w1)])) t
        refine XS.lload X_25.here hx rfl (hb hby at_137) rfl ?_
        show Steps p.tables e below (T_25.setTop (mkF m 139 #[.val (.int pa), .val (.int pb), .val (.long pw), .second, .val (.int pc), .val (.int pd), .val (.long pv), .second, .val (.int t1), .val (.int h1), .val (.long w1), .second, .val (.int t2), .val (.int h2), .val (.long w2), .second, .val (.ref b_1), .val (.ref b_14), .unset, .unset, .unset] [(.long w2), (.long w1)])) t
        refine XT.lcmp X_25.here hx rfl (hb hby at_139) rfl ?_
        exact kt
      by_cases c_38 : w1 = w2
      · -- w1 = w2
        refine Goes.go (U' := (T_25.setTop (mkF m 148 #[.val (.int pa), .val (.int pb), .val (.long pw), .second, .val (.int pc), .val (.int pd), .val (.long pv), .second, .val (.int t1), .val (.int h1), .val (.long w1), .second, .val (.int t2), .val (.int h2), .val (.long w2), .second, .val (.ref b_1), .val (.ref b_14), .unset, .unset, .unset] [(.int (1 : Int32))]))) (fun t kt => ?_) ?_
        · show Steps p.tables e below (T_25.setTop (mkF m 140 #[.val (.int pa), .val (.int pb), .val (.long pw), .second, .val (.int pc), .val (.int pd), .val (.long pv), .second, .val (.int t1), .val (.int h1), .val (.long w1), .second, .val (.int t2), .val (.int h2), .val (.long w2), .second, .val (.ref b_1), .val (.ref b_14), .unset, .unset, .unset] [(.int (XT.cmpL w1 w2))])) t
          refine XS.ifNo X_25.here hx rfl (hb hby at_140) rfl (XT.ll_ne_f c_38) ?_
          show Steps p.tables e below (T_25.setTop (mkF m 143 #[.val (.int pa), .val (.int pb), .val (.long pw), .second, .val (.int pc), .val (.int pd), .val (.long pv), .second, .val (.int t1), .val (.int h1), .val (.long w1), .second, .val (.int t2), .val (.int h2), .val (.long w2), .second, .val (.ref b_1), .val (.ref b_14), .unset, .unset, .unset] [])) t
          refine XS.iconst X_25.here hx rfl (hb hby at_143) ?_
          show Steps p.tables e below (T_25.setTop (mkF m 144 #[.val (.int pa), .val (.int pb), .val (.long pw), .second, .val (.int pc), .val (.int pd), .val (.long pv), .second, .val (.int t1), .val (.int h1), .val (.long w1), .second, .val (.int t2), .val (.int h2), .val (.long w2), .second, .val (.ref b_1), .val (.ref b_14), .unset, .unset, .unset] [(.int (1 : Int32))])) t
          refine XS.goto X_25.here hx rfl (pc0 := 144) (pc' := 148) rfl (hb hby at_144) (by decide) (by decide) ?_
          exact kt
        refine Goes.go (U' := (T_25.setTop (mkF m 154 #[.val (.int pa), .val (.int pb), .val (.long pw), .second, .val (.int pc), .val (.int pd), .val (.long pv), .second, .val (.int t1), .val (.int h1), .val (.long w1), .second, .val (.int t2), .val (.int h2), .val (.long w2), .second, .val (.ref b_1), .val (.ref b_14), .val (.int (1 : Int32)), .val .null, .unset] [(.int pa)]))) (fun t kt => ?_) ?_
        · show Steps p.tables e below (T_25.setTop (mkF m 148 #[.val (.int pa), .val (.int pb), .val (.long pw), .second, .val (.int pc), .val (.int pd), .val (.long pv), .second, .val (.int t1), .val (.int h1), .val (.long w1), .second, .val (.int t2), .val (.int h2), .val (.long w2), .second, .val (.ref b_1), .val (.ref b_14), .unset, .unset, .unset] [(.int (1 : Int32))])) t
          refine XS.istore X_25.here hx rfl (hb hby at_148) rfl (l' := #[.val (.int pa), .val (.int pb), .val (.long pw), .second, .val (.int pc), .val (.int pd), .val (.long pv), .second, .val (.int t1), .val (.int h1), .val (.long w1), .second, .val (.int t2), .val (.int h2), .val (.long w2), .second, .val (.ref b_1), .val (.ref b_14), .val (.int (1 : Int32)), .unset, .unset]) rfl ?_
          show Steps p.tables e below (T_25.setTop (mkF m 150 #[.val (.int pa), .val (.int pb), .val (.long pw), .second, .val (.int pc), .val (.int pd), .val (.long pv), .second, .val (.int t1), .val (.int h1), .val (.long w1), .second, .val (.int t2), .val (.int h2), .val (.long w2), .second, .val (.ref b_1), .val (.ref b_14), .val (.int (1 : Int32)), .unset, .unset] [])) t
          refine XS.aconstNull X_25.here hx rfl (hb hby at_150) ?_
          show Steps p.tables e below (T_25.setTop (mkF m 151 #[.val (.int pa), .val (.int pb), .val (.long pw), .second, .val (.int pc), .val (.int pd), .val (.long pv), .second, .val (.int t1), .val (.int h1), .val (.long w1), .second, .val (.int t2), .val (.int h2), .val (.long w2), .second, .val (.ref b_1), .val (.ref b_14), .val (.int (1 : Int32)), .unset, .unset] [.null])) t
          refine XS.astore X_25.here hx rfl (hb hby at_151) rfl rfl (l' := #[.val (.int pa), .val (.int pb), .val (.long pw), .second, .val (.int pc), .val (.int pd), .val (.long pv), .second, .val (.int t1), .val (.int h1), .val (.long w1), .second, .val (.int t2), .val (.int h2), .val (.long w2), .second, .val (.ref b_1), .val (.ref b_14), .val (.int (1 : Int32)), .val .null, .unset]) rfl ?_
          show Steps p.tables e below (T_25.setTop (mkF m 153 #[.val (.int pa), .val (.int pb), .val (.long pw), .second, .val (.int pc), .val (.int pd), .val (.long pv), .second, .val (.int t1), .val (.int h1), .val (.long w1), .second, .val (.int t2), .val (.int h2), .val (.long w2), .second, .val (.ref b_1), .val (.ref b_14), .val (.int (1 : Int32)), .val .null, .unset] [])) t
          refine XS.iloadN X_25.here hx rfl (hb hby at_153) rfl ?_
          exact kt
        obtain ⟨v_39, T_39, L_39, X_39, q_39, st_39⟩ := callStatic X_25 hx hZ (y := (⟨"java/lang/Integer", "valueOf", "(I)Ljava/lang/Integer;"⟩ : MethodName)) (W := 0) hown (wdOf hw 26 rfl) (wdOf hw 27 rfl) (wdOf hw 28 rfl) (wdOf hw 29 rfl) (by decide) (rm_vo l Z a0 hw [] pa T_25.heap n0 y_35 f_26 BC SH) (by decide) (by decide) (by decide) (by decide) (rfl : T_25.heap = T_25.heap) (g := (mkF m 154 #[.val (.int pa), .val (.int pb), .val (.long pw), .second, .val (.int pc), .val (.int pd), .val (.long pv), .second, .val (.int t1), .val (.int h1), .val (.long w1), .second, .val (.int t2), .val (.int h2), .val (.long w2), .second, .val (.ref b_1), .val (.ref b_14), .val (.int (1 : Int32)), .val .null, .unset] [(.int pa)])) rfl (by rw [hml]; rfl) (argsL := [(.int pa)]) (rest := []) (lenOf pd_3 rfl) rfl rfl (Nat.le_refl _) (hb hby at_154)
        obtain ⟨r_39, rfl, n_39, K_39, E_39, F_39⟩ := q_39
        have N_39 := Fr.app N_25 n_39
        have f_40 : Old Z n0 T_39.heap := f_26.ext K_39
        have f_41 : Exa Z T_39.heap b_1 "com/example/copse/copse/Arc" := f_27.ext K_39
        have f_42 : Fld Z T_39.heap b_1 "com/example/copse/copse/Arc" "tail" "I" (.int t1) := f_28.ext K_39
        have f_43 : Fld Z T_39.heap b_1 "com/example/copse/copse/Arc" "head" "I" (.int h1) := f_29.ext K_39
        have f_44 : Fld Z T_39.heap b_1 "com/example/copse/copse/Arc" "weight" "J" (.long w1) := f_30.ext K_39
        have f_45 : Exa Z T_39.heap b_14 "com/example/copse/copse/Arc" := f_31.ext K_39
        have f_46 : Fld Z T_39.heap b_14 "com/example/copse/copse/Arc" "tail" "I" (.int t2) := Ft_25.ext K_39
        have f_47 : Fld Z T_39.heap b_14 "com/example/copse/copse/Arc" "head" "I" (.int h2) := Fh_25.ext K_39
        have f_48 : Fld Z T_39.heap b_14 "com/example/copse/copse/Arc" "weight" "J" (.long w2) := Fw_25.ext K_39
        have K_49 : Keep h0 T_39.heap [] := K_35.ext K_39
        have y_49 : n0 ≤ T_39.heap.size := Nat.le_trans Z0 K_49.1
        refine Goes.go (U' := (T_39.setTop (mkF m 157 #[.val (.int pa), .val (.int pb), .val (.long pw), .second, .val (.int pc), .val (.int pd), .val (.long pv), .second, .val (.int t1), .val (.int h1), .val (.long w1), .second, .val (.int t2), .val (.int h2), .val (.long w2), .second, .val (.ref b_1), .val (.ref b_14), .val (.int (1 : Int32)), .val .null, .unset] [(.ref r_39)]))) st_39 ?_
        refine Goes.go (U' := (T_39.setTop (mkF m 163 #[.val (.int pa), .val (.int pb), .val (.long pw), .second, .val (.int pc), .val (.int pd), .val (.long pv), .second, .val (.int t1), .val (.int h1), .val (.long w1), .second, .val (.int t2), .val (.int h2), .val (.long w2), .second, .val (.ref b_1), .val (.ref b_14), .val (.int (1 : Int32)), .val .null, .val (.ref r_39)] [(.ref b_14), (.ref b_1)]))) (fun t kt => ?_) ?_
        · show Steps p.tables e below (T_39.setTop (mkF m 157 #[.val (.int pa), .val (.int pb), .val (.long pw), .second, .val (.int pc), .val (.int pd), .val (.long pv), .second, .val (.int t1), .val (.int h1), .val (.long w1), .second, .val (.int t2), .val (.int h2), .val (.long w2), .second, .val (.ref b_1), .val (.ref b_14), .val (.int (1 : Int32)), .val .null, .unset] [(.ref r_39)])) t
          refine XS.astore X_39.here hx rfl (hb hby at_157) rfl rfl (l' := #[.val (.int pa), .val (.int pb), .val (.long pw), .second, .val (.int pc), .val (.int pd), .val (.long pv), .second, .val (.int t1), .val (.int h1), .val (.long w1), .second, .val (.int t2), .val (.int h2), .val (.long w2), .second, .val (.ref b_1), .val (.ref b_14), .val (.int (1 : Int32)), .val .null, .val (.ref r_39)]) rfl ?_
          show Steps p.tables e below (T_39.setTop (mkF m 159 #[.val (.int pa), .val (.int pb), .val (.long pw), .second, .val (.int pc), .val (.int pd), .val (.long pv), .second, .val (.int t1), .val (.int h1), .val (.long w1), .second, .val (.int t2), .val (.int h2), .val (.long w2), .second, .val (.ref b_1), .val (.ref b_14), .val (.int (1 : Int32)), .val .null, .val (.ref r_39)] [])) t
          refine XS.aload X_39.here hx rfl (hb hby at_159) rfl rfl ?_
          show Steps p.tables e below (T_39.setTop (mkF m 161 #[.val (.int pa), .val (.int pb), .val (.long pw), .second, .val (.int pc), .val (.int pd), .val (.long pv), .second, .val (.int t1), .val (.int h1), .val (.long w1), .second, .val (.int t2), .val (.int h2), .val (.long w2), .second, .val (.ref b_1), .val (.ref b_14), .val (.int (1 : Int32)), .val .null, .val (.ref r_39)] [(.ref b_1)])) t
          refine XS.aload X_39.here hx rfl (hb hby at_161) rfl rfl ?_
          exact kt
        obtain ⟨v_50, T_50, L_50, X_50, q_50, st_50⟩ := callVirtual X_39 hx hZ (y := (⟨"com/example/copse/copse/Arc", "equals", "(Ljava/lang/Object;)Z"⟩ : MethodName)) (z := (⟨"com/example/copse/copse/Arc", "equals", "(Ljava/lang/Object;)Z"⟩ : MethodName)) (W := 0) hown (wdOf hw 33 rfl) (wdOf hw 34 rfl) (notFace_of_selects (args := #[]) (mvT hZ (wdOf hw 36 rfl))) (wdOf hw 36 rfl) (wdOf hw 35 rfl) (wdOf hw 8 rfl) (wdOf hw 37 rfl) (by decide) (rm_eq l Z a0 hw [] b_1 b_14 t1 h1 t2 h2 (1 : Int32) w1 w2 T_39.heap n0 y_49 f_42 f_43 f_44 f_45 f_46 f_47 f_48 (by simp [c_36, c_37, c_38])) (by decide) (by decide) (by decide) (by decide) (rfl : T_39.heap = T_39.heap) f_41 (g := (mkF m 163 #[.val (.int pa), .val (.int pb), .val (.long pw), .second, .val (.int pc), .val (.int pd), .val (.long pv), .second, .val (.int t1), .val (.int h1), .val (.long w1), .second, .val (.int t2), .val (.int h2), .val (.long w2), .second, .val (.ref b_1), .val (.ref b_14), .val (.int (1 : Int32)), .val .null, .val (.ref r_39)] [(.ref b_14), (.ref b_1)])) rfl (by rw [hml]; rfl) (argsL := [(.ref b_14)]) (rest := []) (lenOf pd_4 rfl) rfl rfl (Nat.le_refl _) (hb hby at_163)
        obtain ⟨rfl, n_50, K_50⟩ := q_50
        have N_50 := Fr.app N_39 n_50
        refine Goes.go (U' := (T_50.setTop (mkF m 166 #[.val (.int pa), .val (.int pb), .val (.long pw), .second, .val (.int pc), .val (.int pd), .val (.long pv), .second, .val (.int t1), .val (.int h1), .val (.long w1), .second, .val (.int t2), .val (.int h2), .val (.long w2), .second, .val (.ref b_1), .val (.ref b_14), .val (.int (1 : Int32)), .val .null, .val (.ref r_39)] [(.int (1 : Int32))]))) st_50 ?_
        refine Goes.go (U' := (T_50.setTop (mkF m 175 #[.val (.int pa), .val (.int pb), .val (.long pw), .second, .val (.int pc), .val (.int pd), .val (.long pv), .second, .val (.int t1), .val (.int h1), .val (.long w1), .second, .val (.int t2), .val (.int h2), .val (.long w2), .second, .val (.ref b_1), .val (.ref b_14), .val (.int (1 : Int32)), .val .null, .val (.ref r_39)] [(.ref b_1), (.ref b_14)]))) (fun t kt => ?_) ?_
        · show Steps p.tables e below (T_50.setTop (mkF m 166 #[.val (.int pa), .val (.int pb), .val (.long pw), .second, .val (.int pc), .val (.int pd), .val (.long pv), .second, .val (.int t1), .val (.int h1), .val (.long w1), .second, .val (.int t2), .val (.int h2), .val (.long w2), .second, .val (.ref b_1), .val (.ref b_14), .val (.int (1 : Int32)), .val .null, .val (.ref r_39)] [(.int (1 : Int32))])) t
          refine XS.iload X_50.here hx rfl (hb hby at_166) rfl ?_
          show Steps p.tables e below (T_50.setTop (mkF m 168 #[.val (.int pa), .val (.int pb), .val (.long pw), .second, .val (.int pc), .val (.int pd), .val (.long pv), .second, .val (.int t1), .val (.int h1), .val (.long w1), .second, .val (.int t2), .val (.int h2), .val (.long w2), .second, .val (.ref b_1), .val (.ref b_14), .val (.int (1 : Int32)), .val .null, .val (.ref r_39)] [(.int (1 : Int32)), (.int (1 : Int32))])) t
          refine XS.icmpNo X_50.here hx rfl (hb hby at_168) rfl (XT.ii_ne_f (by decide)) ?_
          show Steps p.tables e below (T_50.setTop (mkF m 171 #[.val (.int pa), .val (.int pb), .val (.long pw), .second, .val (.int pc), .val (.int pd), .val (.long pv), .second, .val (.int t1), .val (.int h1), .val (.long w1), .second, .val (.int t2), .val (.int h2), .val (.long w2), .second, .val (.ref b_1), .val (.ref b_14), .val (.int (1 : Int32)), .val .null, .val (.ref r_39)] [])) t
          refine XS.aload X_50.here hx rfl (hb hby at_171) rfl rfl ?_
          show Steps p.tables e below (T_50.setTop (mkF m 173 #[.val (.int pa), .val (.int pb), .val (.long pw), .second, .val (.int pc), .val (.int pd), .val (.long pv), .second, .val (.int t1), .val (.int h1), .val (.long w1), .second, .val (.int t2), .val (.int h2), .val (.long w2), .second, .val (.ref b_1), .val (.ref b_14), .val (.int (1 : Int32)), .val .null, .val (.ref r_39)] [(.ref b_14)])) t
          refine XS.aload X_50.here hx rfl (hb hby at_173) rfl rfl ?_
          exact kt
        obtain ⟨v_51, T_51, L_51, X_51, q_51, st_51⟩ := callVirtual X_50 hx hZ (y := (⟨"com/example/copse/copse/Arc", "equals", "(Ljava/lang/Object;)Z"⟩ : MethodName)) (z := (⟨"com/example/copse/copse/Arc", "equals", "(Ljava/lang/Object;)Z"⟩ : MethodName)) (W := 0) hown (wdOf hw 33 rfl) (wdOf hw 34 rfl) (notFace_of_selects (args := #[]) (mvT hZ (wdOf hw 36 rfl))) (wdOf hw 36 rfl) (wdOf hw 35 rfl) (wdOf hw 8 rfl) (wdOf hw 37 rfl) (by decide) (rm_eq l Z a0 hw [] b_14 b_1 t2 h2 t1 h1 (1 : Int32) w2 w1 T_39.heap n0 y_49 f_46 f_47 f_48 f_41 f_42 f_43 f_44 (by simp [c_36, c_37, c_38])) (by decide) (by decide) (by decide) (by decide) K_50 f_45 (g := (mkF m 175 #[.val (.int pa), .val (.int pb), .val (.long pw), .second, .val (.int pc), .val (.int pd), .val (.long pv), .second, .val (.int t1), .val (.int h1), .val (.long w1), .second, .val (.int t2), .val (.int h2), .val (.long w2), .second, .val (.ref b_1), .val (.ref b_14), .val (.int (1 : Int32)), .val .null, .val (.ref r_39)] [(.ref b_1), (.ref b_14)])) rfl (by rw [hml]; rfl) (argsL := [(.ref b_1)]) (rest := []) (lenOf pd_4 rfl) rfl rfl (Nat.le_refl _) (hb hby at_175)
        obtain ⟨rfl, n_51, K_51⟩ := q_51
        have N_51 := Fr.app N_50 n_51
        refine Goes.go (U' := (T_51.setTop (mkF m 178 #[.val (.int pa), .val (.int pb), .val (.long pw), .second, .val (.int pc), .val (.int pd), .val (.long pv), .second, .val (.int t1), .val (.int h1), .val (.long w1), .second, .val (.int t2), .val (.int h2), .val (.long w2), .second, .val (.ref b_1), .val (.ref b_14), .val (.int (1 : Int32)), .val .null, .val (.ref r_39)] [(.int (1 : Int32))]))) st_51 ?_
        refine Goes.go (U' := (T_51.setTop (mkF m 187 #[.val (.int pa), .val (.int pb), .val (.long pw), .second, .val (.int pc), .val (.int pd), .val (.long pv), .second, .val (.int t1), .val (.int h1), .val (.long w1), .second, .val (.int t2), .val (.int h2), .val (.long w2), .second, .val (.ref b_1), .val (.ref b_14), .val (.int (1 : Int32)), .val .null, .val (.ref r_39)] [(.ref b_1), (.ref b_1)]))) (fun t kt => ?_) ?_
        · show Steps p.tables e below (T_51.setTop (mkF m 178 #[.val (.int pa), .val (.int pb), .val (.long pw), .second, .val (.int pc), .val (.int pd), .val (.long pv), .second, .val (.int t1), .val (.int h1), .val (.long w1), .second, .val (.int t2), .val (.int h2), .val (.long w2), .second, .val (.ref b_1), .val (.ref b_14), .val (.int (1 : Int32)), .val .null, .val (.ref r_39)] [(.int (1 : Int32))])) t
          refine XS.iload X_51.here hx rfl (hb hby at_178) rfl ?_
          show Steps p.tables e below (T_51.setTop (mkF m 180 #[.val (.int pa), .val (.int pb), .val (.long pw), .second, .val (.int pc), .val (.int pd), .val (.long pv), .second, .val (.int t1), .val (.int h1), .val (.long w1), .second, .val (.int t2), .val (.int h2), .val (.long w2), .second, .val (.ref b_1), .val (.ref b_14), .val (.int (1 : Int32)), .val .null, .val (.ref r_39)] [(.int (1 : Int32)), (.int (1 : Int32))])) t
          refine XS.icmpNo X_51.here hx rfl (hb hby at_180) rfl (XT.ii_ne_f (by decide)) ?_
          show Steps p.tables e below (T_51.setTop (mkF m 183 #[.val (.int pa), .val (.int pb), .val (.long pw), .second, .val (.int pc), .val (.int pd), .val (.long pv), .second, .val (.int t1), .val (.int h1), .val (.long w1), .second, .val (.int t2), .val (.int h2), .val (.long w2), .second, .val (.ref b_1), .val (.ref b_14), .val (.int (1 : Int32)), .val .null, .val (.ref r_39)] [])) t
          refine XS.aload X_51.here hx rfl (hb hby at_183) rfl rfl ?_
          show Steps p.tables e below (T_51.setTop (mkF m 185 #[.val (.int pa), .val (.int pb), .val (.long pw), .second, .val (.int pc), .val (.int pd), .val (.long pv), .second, .val (.int t1), .val (.int h1), .val (.long w1), .second, .val (.int t2), .val (.int h2), .val (.long w2), .second, .val (.ref b_1), .val (.ref b_14), .val (.int (1 : Int32)), .val .null, .val (.ref r_39)] [(.ref b_1)])) t
          refine XS.aload X_51.here hx rfl (hb hby at_185) rfl rfl ?_
          exact kt
        obtain ⟨v_52, T_52, L_52, X_52, q_52, st_52⟩ := callVirtual X_51 hx hZ (y := (⟨"com/example/copse/copse/Arc", "equals", "(Ljava/lang/Object;)Z"⟩ : MethodName)) (z := (⟨"com/example/copse/copse/Arc", "equals", "(Ljava/lang/Object;)Z"⟩ : MethodName)) (W := 0) hown (wdOf hw 33 rfl) (wdOf hw 34 rfl) (notFace_of_selects (args := #[]) (mvT hZ (wdOf hw 36 rfl))) (wdOf hw 36 rfl) (wdOf hw 35 rfl) (wdOf hw 8 rfl) (wdOf hw 37 rfl) (by decide) (rm_eq l Z a0 hw [] b_1 b_1 t1 h1 t1 h1 (1 : Int32) w1 w1 T_39.heap n0 y_49 f_42 f_43 f_44 f_41 f_42 f_43 f_44 (by simp)) (by decide) (by decide) (by decide) (by decide) K_51 f_41 (g := (mkF m 187 #[.val (.int pa), .val (.int pb), .val (.long pw), .second, .val (.int pc), .val (.int pd), .val (.long pv), .second, .val (.int t1), .val (.int h1), .val (.long w1), .second, .val (.int t2), .val (.int h2), .val (.long w2), .second, .val (.ref b_1), .val (.ref b_14), .val (.int (1 : Int32)), .val .null, .val (.ref r_39)] [(.ref b_1), (.ref b_1)])) rfl (by rw [hml]; rfl) (argsL := [(.ref b_1)]) (rest := []) (lenOf pd_4 rfl) rfl rfl (Nat.le_refl _) (hb hby at_187)
        obtain ⟨rfl, n_52, K_52⟩ := q_52
        have N_52 := Fr.app N_51 n_52
        refine Goes.go (U' := (T_52.setTop (mkF m 190 #[.val (.int pa), .val (.int pb), .val (.long pw), .second, .val (.int pc), .val (.int pd), .val (.long pv), .second, .val (.int t1), .val (.int h1), .val (.long w1), .second, .val (.int t2), .val (.int h2), .val (.long w2), .second, .val (.ref b_1), .val (.ref b_14), .val (.int (1 : Int32)), .val .null, .val (.ref r_39)] [(.int (1 : Int32))]))) st_52 ?_
        refine Goes.go (U' := (T_52.setTop (mkF m 197 #[.val (.int pa), .val (.int pb), .val (.long pw), .second, .val (.int pc), .val (.int pd), .val (.long pv), .second, .val (.int t1), .val (.int h1), .val (.long w1), .second, .val (.int t2), .val (.int h2), .val (.long w2), .second, .val (.ref b_1), .val (.ref b_14), .val (.int (1 : Int32)), .val .null, .val (.ref r_39)] [.null, (.ref b_1)]))) (fun t kt => ?_) ?_
        · show Steps p.tables e below (T_52.setTop (mkF m 190 #[.val (.int pa), .val (.int pb), .val (.long pw), .second, .val (.int pc), .val (.int pd), .val (.long pv), .second, .val (.int t1), .val (.int h1), .val (.long w1), .second, .val (.int t2), .val (.int h2), .val (.long w2), .second, .val (.ref b_1), .val (.ref b_14), .val (.int (1 : Int32)), .val .null, .val (.ref r_39)] [(.int (1 : Int32))])) t
          refine XS.ifNo X_52.here hx rfl (hb hby at_190) rfl (XT.i0_eq_f (by decide)) ?_
          show Steps p.tables e below (T_52.setTop (mkF m 193 #[.val (.int pa), .val (.int pb), .val (.long pw), .second, .val (.int pc), .val (.int pd), .val (.long pv), .second, .val (.int t1), .val (.int h1), .val (.long w1), .second, .val (.int t2), .val (.int h2), .val (.long w2), .second, .val (.ref b_1), .val (.ref b_14), .val (.int (1 : Int32)), .val .null, .val (.ref r_39)] [])) t
          refine XS.aload X_52.here hx rfl (hb hby at_193) rfl rfl ?_
          show Steps p.tables e below (T_52.setTop (mkF m 195 #[.val (.int pa), .val (.int pb), .val (.long pw), .second, .val (.int pc), .val (.int pd), .val (.long pv), .second, .val (.int t1), .val (.int h1), .val (.long w1), .second, .val (.int t2), .val (.int h2), .val (.long w2), .second, .val (.ref b_1), .val (.ref b_14), .val (.int (1 : Int32)), .val .null, .val (.ref r_39)] [(.ref b_1)])) t
          refine XS.aload X_52.here hx rfl (hb hby at_195) rfl rfl ?_
          exact kt
        obtain ⟨v_53, T_53, L_53, X_53, q_53, st_53⟩ := callVirtual X_52 hx hZ (y := (⟨"com/example/copse/copse/Arc", "equals", "(Ljava/lang/Object;)Z"⟩ : MethodName)) (z := (⟨"com/example/copse/copse/Arc", "equals", "(Ljava/lang/Object;)Z"⟩ : MethodName)) (W := 0) hown (wdOf hw 33 rfl) (wdOf hw 34 rfl) (notFace_of_selects (args := #[]) (mvT hZ (wdOf hw 36 rfl))) (wdOf hw 36 rfl) (wdOf hw 35 rfl) (wdOf hw 8 rfl) (wdOf hw 37 rfl) (by decide) (rm_eqN l Z a0 hw [] b_1 T_39.heap n0 y_49) (by decide) (by decide) (by decide) (by decide) K_52 f_41 (g := (mkF m 197 #[.val (.int pa), .val (.int pb), .val (.long pw), .second, .val (.int pc), .val (.int pd), .val (.long pv), .second, .val (.int t1), .val (.int h1), .val (.long w1), .second, .val (.int t2), .val (.int h2), .val (.long w2), .second, .val (.ref b_1), .val (.ref b_14), .val (.int (1 : Int32)), .val .null, .val (.ref r_39)] [.null, (.ref b_1)])) rfl (by rw [hml]; rfl) (argsL := [.null]) (rest := []) (lenOf pd_4 rfl) rfl rfl (Nat.le_refl _) (hb hby at_197)
        obtain ⟨rfl, n_53, K_53⟩ := q_53
        have N_53 := Fr.app N_52 n_53
        refine Goes.go (U' := (T_53.setTop (mkF m 200 #[.val (.int pa), .val (.int pb), .val (.long pw), .second, .val (.int pc), .val (.int pd), .val (.long pv), .second, .val (.int t1), .val (.int h1), .val (.long w1), .second, .val (.int t2), .val (.int h2), .val (.long w2), .second, .val (.ref b_1), .val (.ref b_14), .val (.int (1 : Int32)), .val .null, .val (.ref r_39)] [(.int (0 : Int32))]))) st_53 ?_
        refine Goes.go (U' := (T_53.setTop (mkF m 207 #[.val (.int pa), .val (.int pb), .val (.long pw), .second, .val (.int pc), .val (.int pd), .val (.long pv), .second, .val (.int t1), .val (.int h1), .val (.long w1), .second, .val (.int t2), .val (.int h2), .val (.long w2), .second, .val (.ref b_1), .val (.ref b_14), .val (.int (1 : Int32)), .val .null, .val (.ref r_39)] [(.ref r_39), (.ref b_1)]))) (fun t kt => ?_) ?_
        · show Steps p.tables e below (T_53.setTop (mkF m 200 #[.val (.int pa), .val (.int pb), .val (.long pw), .second, .val (.int pc), .val (.int pd), .val (.long pv), .second, .val (.int t1), .val (.int h1), .val (.long w1), .second, .val (.int t2), .val (.int h2), .val (.long w2), .second, .val (.ref b_1), .val (.ref b_14), .val (.int (1 : Int32)), .val .null, .val (.ref r_39)] [(.int (0 : Int32))])) t
          refine XS.ifNo X_53.here hx rfl (hb hby at_200) rfl (XT.i0_ne_f (by decide)) ?_
          show Steps p.tables e below (T_53.setTop (mkF m 203 #[.val (.int pa), .val (.int pb), .val (.long pw), .second, .val (.int pc), .val (.int pd), .val (.long pv), .second, .val (.int t1), .val (.int h1), .val (.long w1), .second, .val (.int t2), .val (.int h2), .val (.long w2), .second, .val (.ref b_1), .val (.ref b_14), .val (.int (1 : Int32)), .val .null, .val (.ref r_39)] [])) t
          refine XS.aload X_53.here hx rfl (hb hby at_203) rfl rfl ?_
          show Steps p.tables e below (T_53.setTop (mkF m 205 #[.val (.int pa), .val (.int pb), .val (.long pw), .second, .val (.int pc), .val (.int pd), .val (.long pv), .second, .val (.int t1), .val (.int h1), .val (.long w1), .second, .val (.int t2), .val (.int h2), .val (.long w2), .second, .val (.ref b_1), .val (.ref b_14), .val (.int (1 : Int32)), .val .null, .val (.ref r_39)] [(.ref b_1)])) t
          refine XS.aload X_53.here hx rfl (hb hby at_205) rfl rfl ?_
          exact kt
        obtain ⟨v_54, T_54, L_54, X_54, q_54, st_54⟩ := callVirtual X_53 hx hZ (y := (⟨"com/example/copse/copse/Arc", "equals", "(Ljava/lang/Object;)Z"⟩ : MethodName)) (z := (⟨"com/example/copse/copse/Arc", "equals", "(Ljava/lang/Object;)Z"⟩ : MethodName)) (W := 0) hown (wdOf hw 33 rfl) (wdOf hw 34 rfl) (notFace_of_selects (args := #[]) (mvT hZ (wdOf hw 36 rfl))) (wdOf hw 36 rfl) (wdOf hw 35 rfl) (wdOf hw 8 rfl) (wdOf hw 37 rfl) (by decide) (rm_eqI l Z a0 hw [] b_1 r_39 T_39.heap n0 y_49 E_39) (by decide) (by decide) (by decide) (by decide) K_53 f_41 (g := (mkF m 207 #[.val (.int pa), .val (.int pb), .val (.long pw), .second, .val (.int pc), .val (.int pd), .val (.long pv), .second, .val (.int t1), .val (.int h1), .val (.long w1), .second, .val (.int t2), .val (.int h2), .val (.long w2), .second, .val (.ref b_1), .val (.ref b_14), .val (.int (1 : Int32)), .val .null, .val (.ref r_39)] [(.ref r_39), (.ref b_1)])) rfl (by rw [hml]; rfl) (argsL := [(.ref r_39)]) (rest := []) (lenOf pd_4 rfl) rfl rfl (Nat.le_refl _) (hb hby at_207)
        obtain ⟨rfl, n_54, K_54⟩ := q_54
        have N_54 := Fr.app N_53 n_54
        refine Goes.go (U' := (T_54.setTop (mkF m 210 #[.val (.int pa), .val (.int pb), .val (.long pw), .second, .val (.int pc), .val (.int pd), .val (.long pv), .second, .val (.int t1), .val (.int h1), .val (.long w1), .second, .val (.int t2), .val (.int h2), .val (.long w2), .second, .val (.ref b_1), .val (.ref b_14), .val (.int (1 : Int32)), .val .null, .val (.ref r_39)] [(.int (0 : Int32))]))) st_54 ?_
        refine Goes.go (U' := (T_54.setTop (mkF m 218 #[.val (.int pa), .val (.int pb), .val (.long pw), .second, .val (.int pc), .val (.int pd), .val (.long pv), .second, .val (.int t1), .val (.int h1), .val (.long w1), .second, .val (.int t2), .val (.int h2), .val (.long w2), .second, .val (.ref b_1), .val (.ref b_14), .val (.int (1 : Int32)), .val .null, .val (.ref r_39)] [(.int (1 : Int32))]))) (fun t kt => ?_) ?_
        · show Steps p.tables e below (T_54.setTop (mkF m 210 #[.val (.int pa), .val (.int pb), .val (.long pw), .second, .val (.int pc), .val (.int pd), .val (.long pv), .second, .val (.int t1), .val (.int h1), .val (.long w1), .second, .val (.int t2), .val (.int h2), .val (.long w2), .second, .val (.ref b_1), .val (.ref b_14), .val (.int (1 : Int32)), .val .null, .val (.ref r_39)] [(.int (0 : Int32))])) t
          refine XS.ifNo X_54.here hx rfl (hb hby at_210) rfl (XT.i0_ne_f (by decide)) ?_
          show Steps p.tables e below (T_54.setTop (mkF m 213 #[.val (.int pa), .val (.int pb), .val (.long pw), .second, .val (.int pc), .val (.int pd), .val (.long pv), .second, .val (.int t1), .val (.int h1), .val (.long w1), .second, .val (.int t2), .val (.int h2), .val (.long w2), .second, .val (.ref b_1), .val (.ref b_14), .val (.int (1 : Int32)), .val .null, .val (.ref r_39)] [])) t
          refine XS.iconst X_54.here hx rfl (hb hby at_213) ?_
          show Steps p.tables e below (T_54.setTop (mkF m 214 #[.val (.int pa), .val (.int pb), .val (.long pw), .second, .val (.int pc), .val (.int pd), .val (.long pv), .second, .val (.int t1), .val (.int h1), .val (.long w1), .second, .val (.int t2), .val (.int h2), .val (.long w2), .second, .val (.ref b_1), .val (.ref b_14), .val (.int (1 : Int32)), .val .null, .val (.ref r_39)] [(.int (1 : Int32))])) t
          refine XS.goto X_54.here hx rfl (pc0 := 214) (pc' := 218) rfl (hb hby at_214) (by decide) (by decide) ?_
          exact kt
        refine Goes.retB X_54 hx hlk hret (hb hby at_218) (by decide) (by decide) ?_
        try rw [K_54]
        exact ⟨rfl, N_54⟩
      · -- not w1 = w2
        refine Goes.go (U' := (T_25.setTop (mkF m 148 #[.val (.int pa), .val (.int pb), .val (.long pw), .second, .val (.int pc), .val (.int pd), .val (.long pv), .second, .val (.int t1), .val (.int h1), .val (.long w1), .second, .val (.int t2), .val (.int h2), .val (.long w2), .second, .val (.ref b_1), .val (.ref b_14), .unset, .unset, .unset] [(.int (0 : Int32))]))) (fun t kt => ?_) ?_
        · show Steps p.tables e below (T_25.setTop (mkF m 140 #[.val (.int pa), .val (.int pb), .val (.long pw), .second, .val (.int pc), .val (.int pd), .val (.long pv), .second, .val (.int t1), .val (.int h1), .val (.long w1), .second, .val (.int t2), .val (.int h2), .val (.long w2), .second, .val (.ref b_1), .val (.ref b_14), .unset, .unset, .unset] [(.int (XT.cmpL w1 w2))])) t
          refine XS.ifYes X_25.here hx rfl (pc0 := 140) (pc' := 147) rfl (hb hby at_140) rfl (XT.ll_ne_t c_38) (by decide) (by decide) ?_
          show Steps p.tables e below (T_25.setTop (mkF m 147 #[.val (.int pa), .val (.int pb), .val (.long pw), .second, .val (.int pc), .val (.int pd), .val (.long pv), .second, .val (.int t1), .val (.int h1), .val (.long w1), .second, .val (.int t2), .val (.int h2), .val (.long w2), .second, .val (.ref b_1), .val (.ref b_14), .unset, .unset, .unset] [])) t
          refine XS.iconst X_25.here hx rfl (hb hby at_147) ?_
          exact kt
        have c_38' : ¬ w2 = w1 := fun q => c_38 (Eq.symm q)
        refine Goes.go (U' := (T_25.setTop (mkF m 154 #[.val (.int pa), .val (.int pb), .val (.long pw), .second, .val (.int pc), .val (.int pd), .val (.long pv), .second, .val (.int t1), .val (.int h1), .val (.long w1), .second, .val (.int t2), .val (.int h2), .val (.long w2), .second, .val (.ref b_1), .val (.ref b_14), .val (.int (0 : Int32)), .val .null, .unset] [(.int pa)]))) (fun t kt => ?_) ?_
        · show Steps p.tables e below (T_25.setTop (mkF m 148 #[.val (.int pa), .val (.int pb), .val (.long pw), .second, .val (.int pc), .val (.int pd), .val (.long pv), .second, .val (.int t1), .val (.int h1), .val (.long w1), .second, .val (.int t2), .val (.int h2), .val (.long w2), .second, .val (.ref b_1), .val (.ref b_14), .unset, .unset, .unset] [(.int (0 : Int32))])) t
          refine XS.istore X_25.here hx rfl (hb hby at_148) rfl (l' := #[.val (.int pa), .val (.int pb), .val (.long pw), .second, .val (.int pc), .val (.int pd), .val (.long pv), .second, .val (.int t1), .val (.int h1), .val (.long w1), .second, .val (.int t2), .val (.int h2), .val (.long w2), .second, .val (.ref b_1), .val (.ref b_14), .val (.int (0 : Int32)), .unset, .unset]) rfl ?_
          show Steps p.tables e below (T_25.setTop (mkF m 150 #[.val (.int pa), .val (.int pb), .val (.long pw), .second, .val (.int pc), .val (.int pd), .val (.long pv), .second, .val (.int t1), .val (.int h1), .val (.long w1), .second, .val (.int t2), .val (.int h2), .val (.long w2), .second, .val (.ref b_1), .val (.ref b_14), .val (.int (0 : Int32)), .unset, .unset] [])) t
          refine XS.aconstNull X_25.here hx rfl (hb hby at_150) ?_
          show Steps p.tables e below (T_25.setTop (mkF m 151 #[.val (.int pa), .val (.int pb), .val (.long pw), .second, .val (.int pc), .val (.int pd), .val (.long pv), .second, .val (.int t1), .val (.int h1), .val (.long w1), .second, .val (.int t2), .val (.int h2), .val (.long w2), .second, .val (.ref b_1), .val (.ref b_14), .val (.int (0 : Int32)), .unset, .unset] [.null])) t
          refine XS.astore X_25.here hx rfl (hb hby at_151) rfl rfl (l' := #[.val (.int pa), .val (.int pb), .val (.long pw), .second, .val (.int pc), .val (.int pd), .val (.long pv), .second, .val (.int t1), .val (.int h1), .val (.long w1), .second, .val (.int t2), .val (.int h2), .val (.long w2), .second, .val (.ref b_1), .val (.ref b_14), .val (.int (0 : Int32)), .val .null, .unset]) rfl ?_
          show Steps p.tables e below (T_25.setTop (mkF m 153 #[.val (.int pa), .val (.int pb), .val (.long pw), .second, .val (.int pc), .val (.int pd), .val (.long pv), .second, .val (.int t1), .val (.int h1), .val (.long w1), .second, .val (.int t2), .val (.int h2), .val (.long w2), .second, .val (.ref b_1), .val (.ref b_14), .val (.int (0 : Int32)), .val .null, .unset] [])) t
          refine XS.iloadN X_25.here hx rfl (hb hby at_153) rfl ?_
          exact kt
        obtain ⟨v_55, T_55, L_55, X_55, q_55, st_55⟩ := callStatic X_25 hx hZ (y := (⟨"java/lang/Integer", "valueOf", "(I)Ljava/lang/Integer;"⟩ : MethodName)) (W := 0) hown (wdOf hw 26 rfl) (wdOf hw 27 rfl) (wdOf hw 28 rfl) (wdOf hw 29 rfl) (by decide) (rm_vo l Z a0 hw [] pa T_25.heap n0 y_35 f_26 BC SH) (by decide) (by decide) (by decide) (by decide) (rfl : T_25.heap = T_25.heap) (g := (mkF m 154 #[.val (.int pa), .val (.int pb), .val (.long pw), .second, .val (.int pc), .val (.int pd), .val (.long pv), .second, .val (.int t1), .val (.int h1), .val (.long w1), .second, .val (.int t2), .val (.int h2), .val (.long w2), .second, .val (.ref b_1), .val (.ref b_14), .val (.int (0 : Int32)), .val .null, .unset] [(.int pa)])) rfl (by rw [hml]; rfl) (argsL := [(.int pa)]) (rest := []) (lenOf pd_3 rfl) rfl rfl (Nat.le_refl _) (hb hby at_154)
        obtain ⟨r_55, rfl, n_55, K_55, E_55, F_55⟩ := q_55
        have N_55 := Fr.app N_25 n_55
        have f_56 : Old Z n0 T_55.heap := f_26.ext K_55
        have f_57 : Exa Z T_55.heap b_1 "com/example/copse/copse/Arc" := f_27.ext K_55
        have f_58 : Fld Z T_55.heap b_1 "com/example/copse/copse/Arc" "tail" "I" (.int t1) := f_28.ext K_55
        have f_59 : Fld Z T_55.heap b_1 "com/example/copse/copse/Arc" "head" "I" (.int h1) := f_29.ext K_55
        have f_60 : Fld Z T_55.heap b_1 "com/example/copse/copse/Arc" "weight" "J" (.long w1) := f_30.ext K_55
        have f_61 : Exa Z T_55.heap b_14 "com/example/copse/copse/Arc" := f_31.ext K_55
        have f_62 : Fld Z T_55.heap b_14 "com/example/copse/copse/Arc" "tail" "I" (.int t2) := Ft_25.ext K_55
        have f_63 : Fld Z T_55.heap b_14 "com/example/copse/copse/Arc" "head" "I" (.int h2) := Fh_25.ext K_55
        have f_64 : Fld Z T_55.heap b_14 "com/example/copse/copse/Arc" "weight" "J" (.long w2) := Fw_25.ext K_55
        have K_65 : Keep h0 T_55.heap [] := K_35.ext K_55
        have y_65 : n0 ≤ T_55.heap.size := Nat.le_trans Z0 K_65.1
        refine Goes.go (U' := (T_55.setTop (mkF m 157 #[.val (.int pa), .val (.int pb), .val (.long pw), .second, .val (.int pc), .val (.int pd), .val (.long pv), .second, .val (.int t1), .val (.int h1), .val (.long w1), .second, .val (.int t2), .val (.int h2), .val (.long w2), .second, .val (.ref b_1), .val (.ref b_14), .val (.int (0 : Int32)), .val .null, .unset] [(.ref r_55)]))) st_55 ?_
        refine Goes.go (U' := (T_55.setTop (mkF m 163 #[.val (.int pa), .val (.int pb), .val (.long pw), .second, .val (.int pc), .val (.int pd), .val (.long pv), .second, .val (.int t1), .val (.int h1), .val (.long w1), .second, .val (.int t2), .val (.int h2), .val (.long w2), .second, .val (.ref b_1), .val (.ref b_14), .val (.int (0 : Int32)), .val .null, .val (.ref r_55)] [(.ref b_14), (.ref b_1)]))) (fun t kt => ?_) ?_
        · show Steps p.tables e below (T_55.setTop (mkF m 157 #[.val (.int pa), .val (.int pb), .val (.long pw), .second, .val (.int pc), .val (.int pd), .val (.long pv), .second, .val (.int t1), .val (.int h1), .val (.long w1), .second, .val (.int t2), .val (.int h2), .val (.long w2), .second, .val (.ref b_1), .val (.ref b_14), .val (.int (0 : Int32)), .val .null, .unset] [(.ref r_55)])) t
          refine XS.astore X_55.here hx rfl (hb hby at_157) rfl rfl (l' := #[.val (.int pa), .val (.int pb), .val (.long pw), .second, .val (.int pc), .val (.int pd), .val (.long pv), .second, .val (.int t1), .val (.int h1), .val (.long w1), .second, .val (.int t2), .val (.int h2), .val (.long w2), .second, .val (.ref b_1), .val (.ref b_14), .val (.int (0 : Int32)), .val .null, .val (.ref r_55)]) rfl ?_
          show Steps p.tables e below (T_55.setTop (mkF m 159 #[.val (.int pa), .val (.int pb), .val (.long pw), .second, .val (.int pc), .val (.int pd), .val (.long pv), .second, .val (.int t1), .val (.int h1), .val (.long w1), .second, .val (.int t2), .val (.int h2), .val (.long w2), .second, .val (.ref b_1), .val (.ref b_14), .val (.int (0 : Int32)), .val .null, .val (.ref r_55)] [])) t
          refine XS.aload X_55.here hx rfl (hb hby at_159) rfl rfl ?_
          show Steps p.tables e below (T_55.setTop (mkF m 161 #[.val (.int pa), .val (.int pb), .val (.long pw), .second, .val (.int pc), .val (.int pd), .val (.long pv), .second, .val (.int t1), .val (.int h1), .val (.long w1), .second, .val (.int t2), .val (.int h2), .val (.long w2), .second, .val (.ref b_1), .val (.ref b_14), .val (.int (0 : Int32)), .val .null, .val (.ref r_55)] [(.ref b_1)])) t
          refine XS.aload X_55.here hx rfl (hb hby at_161) rfl rfl ?_
          exact kt
        obtain ⟨v_66, T_66, L_66, X_66, q_66, st_66⟩ := callVirtual X_55 hx hZ (y := (⟨"com/example/copse/copse/Arc", "equals", "(Ljava/lang/Object;)Z"⟩ : MethodName)) (z := (⟨"com/example/copse/copse/Arc", "equals", "(Ljava/lang/Object;)Z"⟩ : MethodName)) (W := 0) hown (wdOf hw 33 rfl) (wdOf hw 34 rfl) (notFace_of_selects (args := #[]) (mvT hZ (wdOf hw 36 rfl))) (wdOf hw 36 rfl) (wdOf hw 35 rfl) (wdOf hw 8 rfl) (wdOf hw 37 rfl) (by decide) (rm_eq l Z a0 hw [] b_1 b_14 t1 h1 t2 h2 (0 : Int32) w1 w2 T_55.heap n0 y_65 f_58 f_59 f_60 f_61 f_62 f_63 f_64 (by simp [c_36, c_37, c_38, c_38'])) (by decide) (by decide) (by decide) (by decide) (rfl : T_55.heap = T_55.heap) f_57 (g := (mkF m 163 #[.val (.int pa), .val (.int pb), .val (.long pw), .second, .val (.int pc), .val (.int pd), .val (.long pv), .second, .val (.int t1), .val (.int h1), .val (.long w1), .second, .val (.int t2), .val (.int h2), .val (.long w2), .second, .val (.ref b_1), .val (.ref b_14), .val (.int (0 : Int32)), .val .null, .val (.ref r_55)] [(.ref b_14), (.ref b_1)])) rfl (by rw [hml]; rfl) (argsL := [(.ref b_14)]) (rest := []) (lenOf pd_4 rfl) rfl rfl (Nat.le_refl _) (hb hby at_163)
        obtain ⟨rfl, n_66, K_66⟩ := q_66
        have N_66 := Fr.app N_55 n_66
        refine Goes.go (U' := (T_66.setTop (mkF m 166 #[.val (.int pa), .val (.int pb), .val (.long pw), .second, .val (.int pc), .val (.int pd), .val (.long pv), .second, .val (.int t1), .val (.int h1), .val (.long w1), .second, .val (.int t2), .val (.int h2), .val (.long w2), .second, .val (.ref b_1), .val (.ref b_14), .val (.int (0 : Int32)), .val .null, .val (.ref r_55)] [(.int (0 : Int32))]))) st_66 ?_
        refine Goes.go (U' := (T_66.setTop (mkF m 175 #[.val (.int pa), .val (.int pb), .val (.long pw), .second, .val (.int pc), .val (.int pd), .val (.long pv), .second, .val (.int t1), .val (.int h1), .val (.long w1), .second, .val (.int t2), .val (.int h2), .val (.long w2), .second, .val (.ref b_1), .val (.ref b_14), .val (.int (0 : Int32)), .val .null, .val (.ref r_55)] [(.ref b_1), (.ref b_14)]))) (fun t kt => ?_) ?_
        · show Steps p.tables e below (T_66.setTop (mkF m 166 #[.val (.int pa), .val (.int pb), .val (.long pw), .second, .val (.int pc), .val (.int pd), .val (.long pv), .second, .val (.int t1), .val (.int h1), .val (.long w1), .second, .val (.int t2), .val (.int h2), .val (.long w2), .second, .val (.ref b_1), .val (.ref b_14), .val (.int (0 : Int32)), .val .null, .val (.ref r_55)] [(.int (0 : Int32))])) t
          refine XS.iload X_66.here hx rfl (hb hby at_166) rfl ?_
          show Steps p.tables e below (T_66.setTop (mkF m 168 #[.val (.int pa), .val (.int pb), .val (.long pw), .second, .val (.int pc), .val (.int pd), .val (.long pv), .second, .val (.int t1), .val (.int h1), .val (.long w1), .second, .val (.int t2), .val (.int h2), .val (.long w2), .second, .val (.ref b_1), .val (.ref b_14), .val (.int (0 : Int32)), .val .null, .val (.ref r_55)] [(.int (0 : Int32)), (.int (0 : Int32))])) t
          refine XS.icmpNo X_66.here hx rfl (hb hby at_168) rfl (XT.ii_ne_f (by decide)) ?_
          show Steps p.tables e below (T_66.setTop (mkF m 171 #[.val (.int pa), .val (.int pb), .val (.long pw), .second, .val (.int pc), .val (.int pd), .val (.long pv), .second, .val (.int t1), .val (.int h1), .val (.long w1), .second, .val (.int t2), .val (.int h2), .val (.long w2), .second, .val (.ref b_1), .val (.ref b_14), .val (.int (0 : Int32)), .val .null, .val (.ref r_55)] [])) t
          refine XS.aload X_66.here hx rfl (hb hby at_171) rfl rfl ?_
          show Steps p.tables e below (T_66.setTop (mkF m 173 #[.val (.int pa), .val (.int pb), .val (.long pw), .second, .val (.int pc), .val (.int pd), .val (.long pv), .second, .val (.int t1), .val (.int h1), .val (.long w1), .second, .val (.int t2), .val (.int h2), .val (.long w2), .second, .val (.ref b_1), .val (.ref b_14), .val (.int (0 : Int32)), .val .null, .val (.ref r_55)] [(.ref b_14)])) t
          refine XS.aload X_66.here hx rfl (hb hby at_173) rfl rfl ?_
          exact kt
        obtain ⟨v_67, T_67, L_67, X_67, q_67, st_67⟩ := callVirtual X_66 hx hZ (y := (⟨"com/example/copse/copse/Arc", "equals", "(Ljava/lang/Object;)Z"⟩ : MethodName)) (z := (⟨"com/example/copse/copse/Arc", "equals", "(Ljava/lang/Object;)Z"⟩ : MethodName)) (W := 0) hown (wdOf hw 33 rfl) (wdOf hw 34 rfl) (notFace_of_selects (args := #[]) (mvT hZ (wdOf hw 36 rfl))) (wdOf hw 36 rfl) (wdOf hw 35 rfl) (wdOf hw 8 rfl) (wdOf hw 37 rfl) (by decide) (rm_eq l Z a0 hw [] b_14 b_1 t2 h2 t1 h1 (0 : Int32) w2 w1 T_55.heap n0 y_65 f_62 f_63 f_64 f_57 f_58 f_59 f_60 (by simp [c_36, c_37, c_38, c_38'])) (by decide) (by decide) (by decide) (by decide) K_66 f_61 (g := (mkF m 175 #[.val (.int pa), .val (.int pb), .val (.long pw), .second, .val (.int pc), .val (.int pd), .val (.long pv), .second, .val (.int t1), .val (.int h1), .val (.long w1), .second, .val (.int t2), .val (.int h2), .val (.long w2), .second, .val (.ref b_1), .val (.ref b_14), .val (.int (0 : Int32)), .val .null, .val (.ref r_55)] [(.ref b_1), (.ref b_14)])) rfl (by rw [hml]; rfl) (argsL := [(.ref b_1)]) (rest := []) (lenOf pd_4 rfl) rfl rfl (Nat.le_refl _) (hb hby at_175)
        obtain ⟨rfl, n_67, K_67⟩ := q_67
        have N_67 := Fr.app N_66 n_67
        refine Goes.go (U' := (T_67.setTop (mkF m 178 #[.val (.int pa), .val (.int pb), .val (.long pw), .second, .val (.int pc), .val (.int pd), .val (.long pv), .second, .val (.int t1), .val (.int h1), .val (.long w1), .second, .val (.int t2), .val (.int h2), .val (.long w2), .second, .val (.ref b_1), .val (.ref b_14), .val (.int (0 : Int32)), .val .null, .val (.ref r_55)] [(.int (0 : Int32))]))) st_67 ?_
        refine Goes.go (U' := (T_67.setTop (mkF m 187 #[.val (.int pa), .val (.int pb), .val (.long pw), .second, .val (.int pc), .val (.int pd), .val (.long pv), .second, .val (.int t1), .val (.int h1), .val (.long w1), .second, .val (.int t2), .val (.int h2), .val (.long w2), .second, .val (.ref b_1), .val (.ref b_14), .val (.int (0 : Int32)), .val .null, .val (.ref r_55)] [(.ref b_1), (.ref b_1)]))) (fun t kt => ?_) ?_
        · show Steps p.tables e below (T_67.setTop (mkF m 178 #[.val (.int pa), .val (.int pb), .val (.long pw), .second, .val (.int pc), .val (.int pd), .val (.long pv), .second, .val (.int t1), .val (.int h1), .val (.long w1), .second, .val (.int t2), .val (.int h2), .val (.long w2), .second, .val (.ref b_1), .val (.ref b_14), .val (.int (0 : Int32)), .val .null, .val (.ref r_55)] [(.int (0 : Int32))])) t
          refine XS.iload X_67.here hx rfl (hb hby at_178) rfl ?_
          show Steps p.tables e below (T_67.setTop (mkF m 180 #[.val (.int pa), .val (.int pb), .val (.long pw), .second, .val (.int pc), .val (.int pd), .val (.long pv), .second, .val (.int t1), .val (.int h1), .val (.long w1), .second, .val (.int t2), .val (.int h2), .val (.long w2), .second, .val (.ref b_1), .val (.ref b_14), .val (.int (0 : Int32)), .val .null, .val (.ref r_55)] [(.int (0 : Int32)), (.int (0 : Int32))])) t
          refine XS.icmpNo X_67.here hx rfl (hb hby at_180) rfl (XT.ii_ne_f (by decide)) ?_
          show Steps p.tables e below (T_67.setTop (mkF m 183 #[.val (.int pa), .val (.int pb), .val (.long pw), .second, .val (.int pc), .val (.int pd), .val (.long pv), .second, .val (.int t1), .val (.int h1), .val (.long w1), .second, .val (.int t2), .val (.int h2), .val (.long w2), .second, .val (.ref b_1), .val (.ref b_14), .val (.int (0 : Int32)), .val .null, .val (.ref r_55)] [])) t
          refine XS.aload X_67.here hx rfl (hb hby at_183) rfl rfl ?_
          show Steps p.tables e below (T_67.setTop (mkF m 185 #[.val (.int pa), .val (.int pb), .val (.long pw), .second, .val (.int pc), .val (.int pd), .val (.long pv), .second, .val (.int t1), .val (.int h1), .val (.long w1), .second, .val (.int t2), .val (.int h2), .val (.long w2), .second, .val (.ref b_1), .val (.ref b_14), .val (.int (0 : Int32)), .val .null, .val (.ref r_55)] [(.ref b_1)])) t
          refine XS.aload X_67.here hx rfl (hb hby at_185) rfl rfl ?_
          exact kt
        obtain ⟨v_68, T_68, L_68, X_68, q_68, st_68⟩ := callVirtual X_67 hx hZ (y := (⟨"com/example/copse/copse/Arc", "equals", "(Ljava/lang/Object;)Z"⟩ : MethodName)) (z := (⟨"com/example/copse/copse/Arc", "equals", "(Ljava/lang/Object;)Z"⟩ : MethodName)) (W := 0) hown (wdOf hw 33 rfl) (wdOf hw 34 rfl) (notFace_of_selects (args := #[]) (mvT hZ (wdOf hw 36 rfl))) (wdOf hw 36 rfl) (wdOf hw 35 rfl) (wdOf hw 8 rfl) (wdOf hw 37 rfl) (by decide) (rm_eq l Z a0 hw [] b_1 b_1 t1 h1 t1 h1 (1 : Int32) w1 w1 T_55.heap n0 y_65 f_58 f_59 f_60 f_57 f_58 f_59 f_60 (by simp)) (by decide) (by decide) (by decide) (by decide) K_67 f_57 (g := (mkF m 187 #[.val (.int pa), .val (.int pb), .val (.long pw), .second, .val (.int pc), .val (.int pd), .val (.long pv), .second, .val (.int t1), .val (.int h1), .val (.long w1), .second, .val (.int t2), .val (.int h2), .val (.long w2), .second, .val (.ref b_1), .val (.ref b_14), .val (.int (0 : Int32)), .val .null, .val (.ref r_55)] [(.ref b_1), (.ref b_1)])) rfl (by rw [hml]; rfl) (argsL := [(.ref b_1)]) (rest := []) (lenOf pd_4 rfl) rfl rfl (Nat.le_refl _) (hb hby at_187)
        obtain ⟨rfl, n_68, K_68⟩ := q_68
        have N_68 := Fr.app N_67 n_68
        refine Goes.go (U' := (T_68.setTop (mkF m 190 #[.val (.int pa), .val (.int pb), .val (.long pw), .second, .val (.int pc), .val (.int pd), .val (.long pv), .second, .val (.int t1), .val (.int h1), .val (.long w1), .second, .val (.int t2), .val (.int h2), .val (.long w2), .second, .val (.ref b_1), .val (.ref b_14), .val (.int (0 : Int32)), .val .null, .val (.ref r_55)] [(.int (1 : Int32))]))) st_68 ?_
        refine Goes.go (U' := (T_68.setTop (mkF m 197 #[.val (.int pa), .val (.int pb), .val (.long pw), .second, .val (.int pc), .val (.int pd), .val (.long pv), .second, .val (.int t1), .val (.int h1), .val (.long w1), .second, .val (.int t2), .val (.int h2), .val (.long w2), .second, .val (.ref b_1), .val (.ref b_14), .val (.int (0 : Int32)), .val .null, .val (.ref r_55)] [.null, (.ref b_1)]))) (fun t kt => ?_) ?_
        · show Steps p.tables e below (T_68.setTop (mkF m 190 #[.val (.int pa), .val (.int pb), .val (.long pw), .second, .val (.int pc), .val (.int pd), .val (.long pv), .second, .val (.int t1), .val (.int h1), .val (.long w1), .second, .val (.int t2), .val (.int h2), .val (.long w2), .second, .val (.ref b_1), .val (.ref b_14), .val (.int (0 : Int32)), .val .null, .val (.ref r_55)] [(.int (1 : Int32))])) t
          refine XS.ifNo X_68.here hx rfl (hb hby at_190) rfl (XT.i0_eq_f (by decide)) ?_
          show Steps p.tables e below (T_68.setTop (mkF m 193 #[.val (.int pa), .val (.int pb), .val (.long pw), .second, .val (.int pc), .val (.int pd), .val (.long pv), .second, .val (.int t1), .val (.int h1), .val (.long w1), .second, .val (.int t2), .val (.int h2), .val (.long w2), .second, .val (.ref b_1), .val (.ref b_14), .val (.int (0 : Int32)), .val .null, .val (.ref r_55)] [])) t
          refine XS.aload X_68.here hx rfl (hb hby at_193) rfl rfl ?_
          show Steps p.tables e below (T_68.setTop (mkF m 195 #[.val (.int pa), .val (.int pb), .val (.long pw), .second, .val (.int pc), .val (.int pd), .val (.long pv), .second, .val (.int t1), .val (.int h1), .val (.long w1), .second, .val (.int t2), .val (.int h2), .val (.long w2), .second, .val (.ref b_1), .val (.ref b_14), .val (.int (0 : Int32)), .val .null, .val (.ref r_55)] [(.ref b_1)])) t
          refine XS.aload X_68.here hx rfl (hb hby at_195) rfl rfl ?_
          exact kt
        obtain ⟨v_69, T_69, L_69, X_69, q_69, st_69⟩ := callVirtual X_68 hx hZ (y := (⟨"com/example/copse/copse/Arc", "equals", "(Ljava/lang/Object;)Z"⟩ : MethodName)) (z := (⟨"com/example/copse/copse/Arc", "equals", "(Ljava/lang/Object;)Z"⟩ : MethodName)) (W := 0) hown (wdOf hw 33 rfl) (wdOf hw 34 rfl) (notFace_of_selects (args := #[]) (mvT hZ (wdOf hw 36 rfl))) (wdOf hw 36 rfl) (wdOf hw 35 rfl) (wdOf hw 8 rfl) (wdOf hw 37 rfl) (by decide) (rm_eqN l Z a0 hw [] b_1 T_55.heap n0 y_65) (by decide) (by decide) (by decide) (by decide) K_68 f_57 (g := (mkF m 197 #[.val (.int pa), .val (.int pb), .val (.long pw), .second, .val (.int pc), .val (.int pd), .val (.long pv), .second, .val (.int t1), .val (.int h1), .val (.long w1), .second, .val (.int t2), .val (.int h2), .val (.long w2), .second, .val (.ref b_1), .val (.ref b_14), .val (.int (0 : Int32)), .val .null, .val (.ref r_55)] [.null, (.ref b_1)])) rfl (by rw [hml]; rfl) (argsL := [.null]) (rest := []) (lenOf pd_4 rfl) rfl rfl (Nat.le_refl _) (hb hby at_197)
        obtain ⟨rfl, n_69, K_69⟩ := q_69
        have N_69 := Fr.app N_68 n_69
        refine Goes.go (U' := (T_69.setTop (mkF m 200 #[.val (.int pa), .val (.int pb), .val (.long pw), .second, .val (.int pc), .val (.int pd), .val (.long pv), .second, .val (.int t1), .val (.int h1), .val (.long w1), .second, .val (.int t2), .val (.int h2), .val (.long w2), .second, .val (.ref b_1), .val (.ref b_14), .val (.int (0 : Int32)), .val .null, .val (.ref r_55)] [(.int (0 : Int32))]))) st_69 ?_
        refine Goes.go (U' := (T_69.setTop (mkF m 207 #[.val (.int pa), .val (.int pb), .val (.long pw), .second, .val (.int pc), .val (.int pd), .val (.long pv), .second, .val (.int t1), .val (.int h1), .val (.long w1), .second, .val (.int t2), .val (.int h2), .val (.long w2), .second, .val (.ref b_1), .val (.ref b_14), .val (.int (0 : Int32)), .val .null, .val (.ref r_55)] [(.ref r_55), (.ref b_1)]))) (fun t kt => ?_) ?_
        · show Steps p.tables e below (T_69.setTop (mkF m 200 #[.val (.int pa), .val (.int pb), .val (.long pw), .second, .val (.int pc), .val (.int pd), .val (.long pv), .second, .val (.int t1), .val (.int h1), .val (.long w1), .second, .val (.int t2), .val (.int h2), .val (.long w2), .second, .val (.ref b_1), .val (.ref b_14), .val (.int (0 : Int32)), .val .null, .val (.ref r_55)] [(.int (0 : Int32))])) t
          refine XS.ifNo X_69.here hx rfl (hb hby at_200) rfl (XT.i0_ne_f (by decide)) ?_
          show Steps p.tables e below (T_69.setTop (mkF m 203 #[.val (.int pa), .val (.int pb), .val (.long pw), .second, .val (.int pc), .val (.int pd), .val (.long pv), .second, .val (.int t1), .val (.int h1), .val (.long w1), .second, .val (.int t2), .val (.int h2), .val (.long w2), .second, .val (.ref b_1), .val (.ref b_14), .val (.int (0 : Int32)), .val .null, .val (.ref r_55)] [])) t
          refine XS.aload X_69.here hx rfl (hb hby at_203) rfl rfl ?_
          show Steps p.tables e below (T_69.setTop (mkF m 205 #[.val (.int pa), .val (.int pb), .val (.long pw), .second, .val (.int pc), .val (.int pd), .val (.long pv), .second, .val (.int t1), .val (.int h1), .val (.long w1), .second, .val (.int t2), .val (.int h2), .val (.long w2), .second, .val (.ref b_1), .val (.ref b_14), .val (.int (0 : Int32)), .val .null, .val (.ref r_55)] [(.ref b_1)])) t
          refine XS.aload X_69.here hx rfl (hb hby at_205) rfl rfl ?_
          exact kt
        obtain ⟨v_70, T_70, L_70, X_70, q_70, st_70⟩ := callVirtual X_69 hx hZ (y := (⟨"com/example/copse/copse/Arc", "equals", "(Ljava/lang/Object;)Z"⟩ : MethodName)) (z := (⟨"com/example/copse/copse/Arc", "equals", "(Ljava/lang/Object;)Z"⟩ : MethodName)) (W := 0) hown (wdOf hw 33 rfl) (wdOf hw 34 rfl) (notFace_of_selects (args := #[]) (mvT hZ (wdOf hw 36 rfl))) (wdOf hw 36 rfl) (wdOf hw 35 rfl) (wdOf hw 8 rfl) (wdOf hw 37 rfl) (by decide) (rm_eqI l Z a0 hw [] b_1 r_55 T_55.heap n0 y_65 E_55) (by decide) (by decide) (by decide) (by decide) K_69 f_57 (g := (mkF m 207 #[.val (.int pa), .val (.int pb), .val (.long pw), .second, .val (.int pc), .val (.int pd), .val (.long pv), .second, .val (.int t1), .val (.int h1), .val (.long w1), .second, .val (.int t2), .val (.int h2), .val (.long w2), .second, .val (.ref b_1), .val (.ref b_14), .val (.int (0 : Int32)), .val .null, .val (.ref r_55)] [(.ref r_55), (.ref b_1)])) rfl (by rw [hml]; rfl) (argsL := [(.ref r_55)]) (rest := []) (lenOf pd_4 rfl) rfl rfl (Nat.le_refl _) (hb hby at_207)
        obtain ⟨rfl, n_70, K_70⟩ := q_70
        have N_70 := Fr.app N_69 n_70
        refine Goes.go (U' := (T_70.setTop (mkF m 210 #[.val (.int pa), .val (.int pb), .val (.long pw), .second, .val (.int pc), .val (.int pd), .val (.long pv), .second, .val (.int t1), .val (.int h1), .val (.long w1), .second, .val (.int t2), .val (.int h2), .val (.long w2), .second, .val (.ref b_1), .val (.ref b_14), .val (.int (0 : Int32)), .val .null, .val (.ref r_55)] [(.int (0 : Int32))]))) st_70 ?_
        refine Goes.go (U' := (T_70.setTop (mkF m 218 #[.val (.int pa), .val (.int pb), .val (.long pw), .second, .val (.int pc), .val (.int pd), .val (.long pv), .second, .val (.int t1), .val (.int h1), .val (.long w1), .second, .val (.int t2), .val (.int h2), .val (.long w2), .second, .val (.ref b_1), .val (.ref b_14), .val (.int (0 : Int32)), .val .null, .val (.ref r_55)] [(.int (1 : Int32))]))) (fun t kt => ?_) ?_
        · show Steps p.tables e below (T_70.setTop (mkF m 210 #[.val (.int pa), .val (.int pb), .val (.long pw), .second, .val (.int pc), .val (.int pd), .val (.long pv), .second, .val (.int t1), .val (.int h1), .val (.long w1), .second, .val (.int t2), .val (.int h2), .val (.long w2), .second, .val (.ref b_1), .val (.ref b_14), .val (.int (0 : Int32)), .val .null, .val (.ref r_55)] [(.int (0 : Int32))])) t
          refine XS.ifNo X_70.here hx rfl (hb hby at_210) rfl (XT.i0_ne_f (by decide)) ?_
          show Steps p.tables e below (T_70.setTop (mkF m 213 #[.val (.int pa), .val (.int pb), .val (.long pw), .second, .val (.int pc), .val (.int pd), .val (.long pv), .second, .val (.int t1), .val (.int h1), .val (.long w1), .second, .val (.int t2), .val (.int h2), .val (.long w2), .second, .val (.ref b_1), .val (.ref b_14), .val (.int (0 : Int32)), .val .null, .val (.ref r_55)] [])) t
          refine XS.iconst X_70.here hx rfl (hb hby at_213) ?_
          show Steps p.tables e below (T_70.setTop (mkF m 214 #[.val (.int pa), .val (.int pb), .val (.long pw), .second, .val (.int pc), .val (.int pd), .val (.long pv), .second, .val (.int t1), .val (.int h1), .val (.long w1), .second, .val (.int t2), .val (.int h2), .val (.long w2), .second, .val (.ref b_1), .val (.ref b_14), .val (.int (0 : Int32)), .val .null, .val (.ref r_55)] [(.int (1 : Int32))])) t
          refine XS.goto X_70.here hx rfl (pc0 := 214) (pc' := 218) rfl (hb hby at_214) (by decide) (by decide) ?_
          exact kt
        refine Goes.retB X_70 hx hlk hret (hb hby at_218) (by decide) (by decide) ?_
        try rw [K_70]
        exact ⟨rfl, N_70⟩
    · -- not h1 = h2
      refine Goes.go (U' := (T_25.setTop (mkF m 148 #[.val (.int pa), .val (.int pb), .val (.long pw), .second, .val (.int pc), .val (.int pd), .val (.long pv), .second, .val (.int t1), .val (.int h1), .val (.long w1), .second, .val (.int t2), .val (.int h2), .val (.long w2), .second, .val (.ref b_1), .val (.ref b_14), .unset, .unset, .unset] [(.int (0 : Int32))]))) (fun t kt => ?_) ?_
      · show Steps p.tables e below (T_25.setTop (mkF m 132 #[.val (.int pa), .val (.int pb), .val (.long pw), .second, .val (.int pc), .val (.int pd), .val (.long pv), .second, .val (.int t1), .val (.int h1), .val (.long w1), .second, .val (.int t2), .val (.int h2), .val (.long w2), .second, .val (.ref b_1), .val (.ref b_14), .unset, .unset, .unset] [(.int h2), (.int h1)])) t
        refine XS.icmpYes X_25.here hx rfl (pc0 := 132) (pc' := 147) rfl (hb hby at_132) rfl (XT.ii_ne_t c_37) (by decide) (by decide) ?_
        show Steps p.tables e below (T_25.setTop (mkF m 147 #[.val (.int pa), .val (.int pb), .val (.long pw), .second, .val (.int pc), .val (.int pd), .val (.long pv), .second, .val (.int t1), .val (.int h1), .val (.long w1), .second, .val (.int t2), .val (.int h2), .val (.long w2), .second, .val (.ref b_1), .val (.ref b_14), .unset, .unset, .unset] [])) t
        refine XS.iconst X_25.here hx rfl (hb hby at_147) ?_
        exact kt
      have c_37' : ¬ h2 = h1 := fun q => c_37 (Eq.symm q)
      refine Goes.go (U' := (T_25.setTop (mkF m 154 #[.val (.int pa), .val (.int pb), .val (.long pw), .second, .val (.int pc), .val (.int pd), .val (.long pv), .second, .val (.int t1), .val (.int h1), .val (.long w1), .second, .val (.int t2), .val (.int h2), .val (.long w2), .second, .val (.ref b_1), .val (.ref b_14), .val (.int (0 : Int32)), .val .null, .unset] [(.int pa)]))) (fun t kt => ?_) ?_
      · show Steps p.tables e below (T_25.setTop (mkF m 148 #[.val (.int pa), .val (.int pb), .val (.long pw), .second, .val (.int pc), .val (.int pd), .val (.long pv), .second, .val (.int t1), .val (.int h1), .val (.long w1), .second, .val (.int t2), .val (.int h2), .val (.long w2), .second, .val (.ref b_1), .val (.ref b_14), .unset, .unset, .unset] [(.int (0 : Int32))])) t
        refine XS.istore X_25.here hx rfl (hb hby at_148) rfl (l' := #[.val (.int pa), .val (.int pb), .val (.long pw), .second, .val (.int pc), .val (.int pd), .val (.long pv), .second, .val (.int t1), .val (.int h1), .val (.long w1), .second, .val (.int t2), .val (.int h2), .val (.long w2), .second, .val (.ref b_1), .val (.ref b_14), .val (.int (0 : Int32)), .unset, .unset]) rfl ?_
        show Steps p.tables e below (T_25.setTop (mkF m 150 #[.val (.int pa), .val (.int pb), .val (.long pw), .second, .val (.int pc), .val (.int pd), .val (.long pv), .second, .val (.int t1), .val (.int h1), .val (.long w1), .second, .val (.int t2), .val (.int h2), .val (.long w2), .second, .val (.ref b_1), .val (.ref b_14), .val (.int (0 : Int32)), .unset, .unset] [])) t
        refine XS.aconstNull X_25.here hx rfl (hb hby at_150) ?_
        show Steps p.tables e below (T_25.setTop (mkF m 151 #[.val (.int pa), .val (.int pb), .val (.long pw), .second, .val (.int pc), .val (.int pd), .val (.long pv), .second, .val (.int t1), .val (.int h1), .val (.long w1), .second, .val (.int t2), .val (.int h2), .val (.long w2), .second, .val (.ref b_1), .val (.ref b_14), .val (.int (0 : Int32)), .unset, .unset] [.null])) t
        refine XS.astore X_25.here hx rfl (hb hby at_151) rfl rfl (l' := #[.val (.int pa), .val (.int pb), .val (.long pw), .second, .val (.int pc), .val (.int pd), .val (.long pv), .second, .val (.int t1), .val (.int h1), .val (.long w1), .second, .val (.int t2), .val (.int h2), .val (.long w2), .second, .val (.ref b_1), .val (.ref b_14), .val (.int (0 : Int32)), .val .null, .unset]) rfl ?_
        show Steps p.tables e below (T_25.setTop (mkF m 153 #[.val (.int pa), .val (.int pb), .val (.long pw), .second, .val (.int pc), .val (.int pd), .val (.long pv), .second, .val (.int t1), .val (.int h1), .val (.long w1), .second, .val (.int t2), .val (.int h2), .val (.long w2), .second, .val (.ref b_1), .val (.ref b_14), .val (.int (0 : Int32)), .val .null, .unset] [])) t
        refine XS.iloadN X_25.here hx rfl (hb hby at_153) rfl ?_
        exact kt
      obtain ⟨v_71, T_71, L_71, X_71, q_71, st_71⟩ := callStatic X_25 hx hZ (y := (⟨"java/lang/Integer", "valueOf", "(I)Ljava/lang/Integer;"⟩ : MethodName)) (W := 0) hown (wdOf hw 26 rfl) (wdOf hw 27 rfl) (wdOf hw 28 rfl) (wdOf hw 29 rfl) (by decide) (rm_vo l Z a0 hw [] pa T_25.heap n0 y_35 f_26 BC SH) (by decide) (by decide) (by decide) (by decide) (rfl : T_25.heap = T_25.heap) (g := (mkF m 154 #[.val (.int pa), .val (.int pb), .val (.long pw), .second, .val (.int pc), .val (.int pd), .val (.long pv), .second, .val (.int t1), .val (.int h1), .val (.long w1), .second, .val (.int t2), .val (.int h2), .val (.long w2), .second, .val (.ref b_1), .val (.ref b_14), .val (.int (0 : Int32)), .val .null, .unset] [(.int pa)])) rfl (by rw [hml]; rfl) (argsL := [(.int pa)]) (rest := []) (lenOf pd_3 rfl) rfl rfl (Nat.le_refl _) (hb hby at_154)
      obtain ⟨r_71, rfl, n_71, K_71, E_71, F_71⟩ := q_71
      have N_71 := Fr.app N_25 n_71
      have f_72 : Old Z n0 T_71.heap := f_26.ext K_71
      have f_73 : Exa Z T_71.heap b_1 "com/example/copse/copse/Arc" := f_27.ext K_71
      have f_74 : Fld Z T_71.heap b_1 "com/example/copse/copse/Arc" "tail" "I" (.int t1) := f_28.ext K_71
      have f_75 : Fld Z T_71.heap b_1 "com/example/copse/copse/Arc" "head" "I" (.int h1) := f_29.ext K_71
      have f_76 : Fld Z T_71.heap b_1 "com/example/copse/copse/Arc" "weight" "J" (.long w1) := f_30.ext K_71
      have f_77 : Exa Z T_71.heap b_14 "com/example/copse/copse/Arc" := f_31.ext K_71
      have f_78 : Fld Z T_71.heap b_14 "com/example/copse/copse/Arc" "tail" "I" (.int t2) := Ft_25.ext K_71
      have f_79 : Fld Z T_71.heap b_14 "com/example/copse/copse/Arc" "head" "I" (.int h2) := Fh_25.ext K_71
      have f_80 : Fld Z T_71.heap b_14 "com/example/copse/copse/Arc" "weight" "J" (.long w2) := Fw_25.ext K_71
      have K_81 : Keep h0 T_71.heap [] := K_35.ext K_71
      have y_81 : n0 ≤ T_71.heap.size := Nat.le_trans Z0 K_81.1
      refine Goes.go (U' := (T_71.setTop (mkF m 157 #[.val (.int pa), .val (.int pb), .val (.long pw), .second, .val (.int pc), .val (.int pd), .val (.long pv), .second, .val (.int t1), .val (.int h1), .val (.long w1), .second, .val (.int t2), .val (.int h2), .val (.long w2), .second, .val (.ref b_1), .val (.ref b_14), .val (.int (0 : Int32)), .val .null, .unset] [(.ref r_71)]))) st_71 ?_
      refine Goes.go (U' := (T_71.setTop (mkF m 163 #[.val (.int pa), .val (.int pb), .val (.long pw), .second, .val (.int pc), .val (.int pd), .val (.long pv), .second, .val (.int t1), .val (.int h1), .val (.long w1), .second, .val (.int t2), .val (.int h2), .val (.long w2), .second, .val (.ref b_1), .val (.ref b_14), .val (.int (0 : Int32)), .val .null, .val (.ref r_71)] [(.ref b_14), (.ref b_1)]))) (fun t kt => ?_) ?_
      · show Steps p.tables e below (T_71.setTop (mkF m 157 #[.val (.int pa), .val (.int pb), .val (.long pw), .second, .val (.int pc), .val (.int pd), .val (.long pv), .second, .val (.int t1), .val (.int h1), .val (.long w1), .second, .val (.int t2), .val (.int h2), .val (.long w2), .second, .val (.ref b_1), .val (.ref b_14), .val (.int (0 : Int32)), .val .null, .unset] [(.ref r_71)])) t
        refine XS.astore X_71.here hx rfl (hb hby at_157) rfl rfl (l' := #[.val (.int pa), .val (.int pb), .val (.long pw), .second, .val (.int pc), .val (.int pd), .val (.long pv), .second, .val (.int t1), .val (.int h1), .val (.long w1), .second, .val (.int t2), .val (.int h2), .val (.long w2), .second, .val (.ref b_1), .val (.ref b_14), .val (.int (0 : Int32)), .val .null, .val (.ref r_71)]) rfl ?_
        show Steps p.tables e below (T_71.setTop (mkF m 159 #[.val (.int pa), .val (.int pb), .val (.long pw), .second, .val (.int pc), .val (.int pd), .val (.long pv), .second, .val (.int t1), .val (.int h1), .val (.long w1), .second, .val (.int t2), .val (.int h2), .val (.long w2), .second, .val (.ref b_1), .val (.ref b_14), .val (.int (0 : Int32)), .val .null, .val (.ref r_71)] [])) t
        refine XS.aload X_71.here hx rfl (hb hby at_159) rfl rfl ?_
        show Steps p.tables e below (T_71.setTop (mkF m 161 #[.val (.int pa), .val (.int pb), .val (.long pw), .second, .val (.int pc), .val (.int pd), .val (.long pv), .second, .val (.int t1), .val (.int h1), .val (.long w1), .second, .val (.int t2), .val (.int h2), .val (.long w2), .second, .val (.ref b_1), .val (.ref b_14), .val (.int (0 : Int32)), .val .null, .val (.ref r_71)] [(.ref b_1)])) t
        refine XS.aload X_71.here hx rfl (hb hby at_161) rfl rfl ?_
        exact kt
      obtain ⟨v_82, T_82, L_82, X_82, q_82, st_82⟩ := callVirtual X_71 hx hZ (y := (⟨"com/example/copse/copse/Arc", "equals", "(Ljava/lang/Object;)Z"⟩ : MethodName)) (z := (⟨"com/example/copse/copse/Arc", "equals", "(Ljava/lang/Object;)Z"⟩ : MethodName)) (W := 0) hown (wdOf hw 33 rfl) (wdOf hw 34 rfl) (notFace_of_selects (args := #[]) (mvT hZ (wdOf hw 36 rfl))) (wdOf hw 36 rfl) (wdOf hw 35 rfl) (wdOf hw 8 rfl) (wdOf hw 37 rfl) (by decide) (rm_eq l Z a0 hw [] b_1 b_14 t1 h1 t2 h2 (0 : Int32) w1 w2 T_71.heap n0 y_81 f_74 f_75 f_76 f_77 f_78 f_79 f_80 (by simp [c_36, c_37, c_37'])) (by decide) (by decide) (by decide) (by decide) (rfl : T_71.heap = T_71.heap) f_73 (g := (mkF m 163 #[.val (.int pa), .val (.int pb), .val (.long pw), .second, .val (.int pc), .val (.int pd), .val (.long pv), .second, .val (.int t1), .val (.int h1), .val (.long w1), .second, .val (.int t2), .val (.int h2), .val (.long w2), .second, .val (.ref b_1), .val (.ref b_14), .val (.int (0 : Int32)), .val .null, .val (.ref r_71)] [(.ref b_14), (.ref b_1)])) rfl (by rw [hml]; rfl) (argsL := [(.ref b_14)]) (rest := []) (lenOf pd_4 rfl) rfl rfl (Nat.le_refl _) (hb hby at_163)
      obtain ⟨rfl, n_82, K_82⟩ := q_82
      have N_82 := Fr.app N_71 n_82
      refine Goes.go (U' := (T_82.setTop (mkF m 166 #[.val (.int pa), .val (.int pb), .val (.long pw), .second, .val (.int pc), .val (.int pd), .val (.long pv), .second, .val (.int t1), .val (.int h1), .val (.long w1), .second, .val (.int t2), .val (.int h2), .val (.long w2), .second, .val (.ref b_1), .val (.ref b_14), .val (.int (0 : Int32)), .val .null, .val (.ref r_71)] [(.int (0 : Int32))]))) st_82 ?_
      refine Goes.go (U' := (T_82.setTop (mkF m 175 #[.val (.int pa), .val (.int pb), .val (.long pw), .second, .val (.int pc), .val (.int pd), .val (.long pv), .second, .val (.int t1), .val (.int h1), .val (.long w1), .second, .val (.int t2), .val (.int h2), .val (.long w2), .second, .val (.ref b_1), .val (.ref b_14), .val (.int (0 : Int32)), .val .null, .val (.ref r_71)] [(.ref b_1), (.ref b_14)]))) (fun t kt => ?_) ?_
      · show Steps p.tables e below (T_82.setTop (mkF m 166 #[.val (.int pa), .val (.int pb), .val (.long pw), .second, .val (.int pc), .val (.int pd), .val (.long pv), .second, .val (.int t1), .val (.int h1), .val (.long w1), .second, .val (.int t2), .val (.int h2), .val (.long w2), .second, .val (.ref b_1), .val (.ref b_14), .val (.int (0 : Int32)), .val .null, .val (.ref r_71)] [(.int (0 : Int32))])) t
        refine XS.iload X_82.here hx rfl (hb hby at_166) rfl ?_
        show Steps p.tables e below (T_82.setTop (mkF m 168 #[.val (.int pa), .val (.int pb), .val (.long pw), .second, .val (.int pc), .val (.int pd), .val (.long pv), .second, .val (.int t1), .val (.int h1), .val (.long w1), .second, .val (.int t2), .val (.int h2), .val (.long w2), .second, .val (.ref b_1), .val (.ref b_14), .val (.int (0 : Int32)), .val .null, .val (.ref r_71)] [(.int (0 : Int32)), (.int (0 : Int32))])) t
        refine XS.icmpNo X_82.here hx rfl (hb hby at_168) rfl (XT.ii_ne_f (by decide)) ?_
        show Steps p.tables e below (T_82.setTop (mkF m 171 #[.val (.int pa), .val (.int pb), .val (.long pw), .second, .val (.int pc), .val (.int pd), .val (.long pv), .second, .val (.int t1), .val (.int h1), .val (.long w1), .second, .val (.int t2), .val (.int h2), .val (.long w2), .second, .val (.ref b_1), .val (.ref b_14), .val (.int (0 : Int32)), .val .null, .val (.ref r_71)] [])) t
        refine XS.aload X_82.here hx rfl (hb hby at_171) rfl rfl ?_
        show Steps p.tables e below (T_82.setTop (mkF m 173 #[.val (.int pa), .val (.int pb), .val (.long pw), .second, .val (.int pc), .val (.int pd), .val (.long pv), .second, .val (.int t1), .val (.int h1), .val (.long w1), .second, .val (.int t2), .val (.int h2), .val (.long w2), .second, .val (.ref b_1), .val (.ref b_14), .val (.int (0 : Int32)), .val .null, .val (.ref r_71)] [(.ref b_14)])) t
        refine XS.aload X_82.here hx rfl (hb hby at_173) rfl rfl ?_
        exact kt
      obtain ⟨v_83, T_83, L_83, X_83, q_83, st_83⟩ := callVirtual X_82 hx hZ (y := (⟨"com/example/copse/copse/Arc", "equals", "(Ljava/lang/Object;)Z"⟩ : MethodName)) (z := (⟨"com/example/copse/copse/Arc", "equals", "(Ljava/lang/Object;)Z"⟩ : MethodName)) (W := 0) hown (wdOf hw 33 rfl) (wdOf hw 34 rfl) (notFace_of_selects (args := #[]) (mvT hZ (wdOf hw 36 rfl))) (wdOf hw 36 rfl) (wdOf hw 35 rfl) (wdOf hw 8 rfl) (wdOf hw 37 rfl) (by decide) (rm_eq l Z a0 hw [] b_14 b_1 t2 h2 t1 h1 (0 : Int32) w2 w1 T_71.heap n0 y_81 f_78 f_79 f_80 f_73 f_74 f_75 f_76 (by simp [c_36, c_37, c_37'])) (by decide) (by decide) (by decide) (by decide) K_82 f_77 (g := (mkF m 175 #[.val (.int pa), .val (.int pb), .val (.long pw), .second, .val (.int pc), .val (.int pd), .val (.long pv), .second, .val (.int t1), .val (.int h1), .val (.long w1), .second, .val (.int t2), .val (.int h2), .val (.long w2), .second, .val (.ref b_1), .val (.ref b_14), .val (.int (0 : Int32)), .val .null, .val (.ref r_71)] [(.ref b_1), (.ref b_14)])) rfl (by rw [hml]; rfl) (argsL := [(.ref b_1)]) (rest := []) (lenOf pd_4 rfl) rfl rfl (Nat.le_refl _) (hb hby at_175)
      obtain ⟨rfl, n_83, K_83⟩ := q_83
      have N_83 := Fr.app N_82 n_83
      refine Goes.go (U' := (T_83.setTop (mkF m 178 #[.val (.int pa), .val (.int pb), .val (.long pw), .second, .val (.int pc), .val (.int pd), .val (.long pv), .second, .val (.int t1), .val (.int h1), .val (.long w1), .second, .val (.int t2), .val (.int h2), .val (.long w2), .second, .val (.ref b_1), .val (.ref b_14), .val (.int (0 : Int32)), .val .null, .val (.ref r_71)] [(.int (0 : Int32))]))) st_83 ?_
      refine Goes.go (U' := (T_83.setTop (mkF m 187 #[.val (.int pa), .val (.int pb), .val (.long pw), .second, .val (.int pc), .val (.int pd), .val (.long pv), .second, .val (.int t1), .val (.int h1), .val (.long w1), .second, .val (.int t2), .val (.int h2), .val (.long w2), .second, .val (.ref b_1), .val (.ref b_14), .val (.int (0 : Int32)), .val .null, .val (.ref r_71)] [(.ref b_1), (.ref b_1)]))) (fun t kt => ?_) ?_
      · show Steps p.tables e below (T_83.setTop (mkF m 178 #[.val (.int pa), .val (.int pb), .val (.long pw), .second, .val (.int pc), .val (.int pd), .val (.long pv), .second, .val (.int t1), .val (.int h1), .val (.long w1), .second, .val (.int t2), .val (.int h2), .val (.long w2), .second, .val (.ref b_1), .val (.ref b_14), .val (.int (0 : Int32)), .val .null, .val (.ref r_71)] [(.int (0 : Int32))])) t
        refine XS.iload X_83.here hx rfl (hb hby at_178) rfl ?_
        show Steps p.tables e below (T_83.setTop (mkF m 180 #[.val (.int pa), .val (.int pb), .val (.long pw), .second, .val (.int pc), .val (.int pd), .val (.long pv), .second, .val (.int t1), .val (.int h1), .val (.long w1), .second, .val (.int t2), .val (.int h2), .val (.long w2), .second, .val (.ref b_1), .val (.ref b_14), .val (.int (0 : Int32)), .val .null, .val (.ref r_71)] [(.int (0 : Int32)), (.int (0 : Int32))])) t
        refine XS.icmpNo X_83.here hx rfl (hb hby at_180) rfl (XT.ii_ne_f (by decide)) ?_
        show Steps p.tables e below (T_83.setTop (mkF m 183 #[.val (.int pa), .val (.int pb), .val (.long pw), .second, .val (.int pc), .val (.int pd), .val (.long pv), .second, .val (.int t1), .val (.int h1), .val (.long w1), .second, .val (.int t2), .val (.int h2), .val (.long w2), .second, .val (.ref b_1), .val (.ref b_14), .val (.int (0 : Int32)), .val .null, .val (.ref r_71)] [])) t
        refine XS.aload X_83.here hx rfl (hb hby at_183) rfl rfl ?_
        show Steps p.tables e below (T_83.setTop (mkF m 185 #[.val (.int pa), .val (.int pb), .val (.long pw), .second, .val (.int pc), .val (.int pd), .val (.long pv), .second, .val (.int t1), .val (.int h1), .val (.long w1), .second, .val (.int t2), .val (.int h2), .val (.long w2), .second, .val (.ref b_1), .val (.ref b_14), .val (.int (0 : Int32)), .val .null, .val (.ref r_71)] [(.ref b_1)])) t
        refine XS.aload X_83.here hx rfl (hb hby at_185) rfl rfl ?_
        exact kt
      obtain ⟨v_84, T_84, L_84, X_84, q_84, st_84⟩ := callVirtual X_83 hx hZ (y := (⟨"com/example/copse/copse/Arc", "equals", "(Ljava/lang/Object;)Z"⟩ : MethodName)) (z := (⟨"com/example/copse/copse/Arc", "equals", "(Ljava/lang/Object;)Z"⟩ : MethodName)) (W := 0) hown (wdOf hw 33 rfl) (wdOf hw 34 rfl) (notFace_of_selects (args := #[]) (mvT hZ (wdOf hw 36 rfl))) (wdOf hw 36 rfl) (wdOf hw 35 rfl) (wdOf hw 8 rfl) (wdOf hw 37 rfl) (by decide) (rm_eq l Z a0 hw [] b_1 b_1 t1 h1 t1 h1 (1 : Int32) w1 w1 T_71.heap n0 y_81 f_74 f_75 f_76 f_73 f_74 f_75 f_76 (by simp)) (by decide) (by decide) (by decide) (by decide) K_83 f_73 (g := (mkF m 187 #[.val (.int pa), .val (.int pb), .val (.long pw), .second, .val (.int pc), .val (.int pd), .val (.long pv), .second, .val (.int t1), .val (.int h1), .val (.long w1), .second, .val (.int t2), .val (.int h2), .val (.long w2), .second, .val (.ref b_1), .val (.ref b_14), .val (.int (0 : Int32)), .val .null, .val (.ref r_71)] [(.ref b_1), (.ref b_1)])) rfl (by rw [hml]; rfl) (argsL := [(.ref b_1)]) (rest := []) (lenOf pd_4 rfl) rfl rfl (Nat.le_refl _) (hb hby at_187)
      obtain ⟨rfl, n_84, K_84⟩ := q_84
      have N_84 := Fr.app N_83 n_84
      refine Goes.go (U' := (T_84.setTop (mkF m 190 #[.val (.int pa), .val (.int pb), .val (.long pw), .second, .val (.int pc), .val (.int pd), .val (.long pv), .second, .val (.int t1), .val (.int h1), .val (.long w1), .second, .val (.int t2), .val (.int h2), .val (.long w2), .second, .val (.ref b_1), .val (.ref b_14), .val (.int (0 : Int32)), .val .null, .val (.ref r_71)] [(.int (1 : Int32))]))) st_84 ?_
      refine Goes.go (U' := (T_84.setTop (mkF m 197 #[.val (.int pa), .val (.int pb), .val (.long pw), .second, .val (.int pc), .val (.int pd), .val (.long pv), .second, .val (.int t1), .val (.int h1), .val (.long w1), .second, .val (.int t2), .val (.int h2), .val (.long w2), .second, .val (.ref b_1), .val (.ref b_14), .val (.int (0 : Int32)), .val .null, .val (.ref r_71)] [.null, (.ref b_1)]))) (fun t kt => ?_) ?_
      · show Steps p.tables e below (T_84.setTop (mkF m 190 #[.val (.int pa), .val (.int pb), .val (.long pw), .second, .val (.int pc), .val (.int pd), .val (.long pv), .second, .val (.int t1), .val (.int h1), .val (.long w1), .second, .val (.int t2), .val (.int h2), .val (.long w2), .second, .val (.ref b_1), .val (.ref b_14), .val (.int (0 : Int32)), .val .null, .val (.ref r_71)] [(.int (1 : Int32))])) t
        refine XS.ifNo X_84.here hx rfl (hb hby at_190) rfl (XT.i0_eq_f (by decide)) ?_
        show Steps p.tables e below (T_84.setTop (mkF m 193 #[.val (.int pa), .val (.int pb), .val (.long pw), .second, .val (.int pc), .val (.int pd), .val (.long pv), .second, .val (.int t1), .val (.int h1), .val (.long w1), .second, .val (.int t2), .val (.int h2), .val (.long w2), .second, .val (.ref b_1), .val (.ref b_14), .val (.int (0 : Int32)), .val .null, .val (.ref r_71)] [])) t
        refine XS.aload X_84.here hx rfl (hb hby at_193) rfl rfl ?_
        show Steps p.tables e below (T_84.setTop (mkF m 195 #[.val (.int pa), .val (.int pb), .val (.long pw), .second, .val (.int pc), .val (.int pd), .val (.long pv), .second, .val (.int t1), .val (.int h1), .val (.long w1), .second, .val (.int t2), .val (.int h2), .val (.long w2), .second, .val (.ref b_1), .val (.ref b_14), .val (.int (0 : Int32)), .val .null, .val (.ref r_71)] [(.ref b_1)])) t
        refine XS.aload X_84.here hx rfl (hb hby at_195) rfl rfl ?_
        exact kt
      obtain ⟨v_85, T_85, L_85, X_85, q_85, st_85⟩ := callVirtual X_84 hx hZ (y := (⟨"com/example/copse/copse/Arc", "equals", "(Ljava/lang/Object;)Z"⟩ : MethodName)) (z := (⟨"com/example/copse/copse/Arc", "equals", "(Ljava/lang/Object;)Z"⟩ : MethodName)) (W := 0) hown (wdOf hw 33 rfl) (wdOf hw 34 rfl) (notFace_of_selects (args := #[]) (mvT hZ (wdOf hw 36 rfl))) (wdOf hw 36 rfl) (wdOf hw 35 rfl) (wdOf hw 8 rfl) (wdOf hw 37 rfl) (by decide) (rm_eqN l Z a0 hw [] b_1 T_71.heap n0 y_81) (by decide) (by decide) (by decide) (by decide) K_84 f_73 (g := (mkF m 197 #[.val (.int pa), .val (.int pb), .val (.long pw), .second, .val (.int pc), .val (.int pd), .val (.long pv), .second, .val (.int t1), .val (.int h1), .val (.long w1), .second, .val (.int t2), .val (.int h2), .val (.long w2), .second, .val (.ref b_1), .val (.ref b_14), .val (.int (0 : Int32)), .val .null, .val (.ref r_71)] [.null, (.ref b_1)])) rfl (by rw [hml]; rfl) (argsL := [.null]) (rest := []) (lenOf pd_4 rfl) rfl rfl (Nat.le_refl _) (hb hby at_197)
      obtain ⟨rfl, n_85, K_85⟩ := q_85
      have N_85 := Fr.app N_84 n_85
      refine Goes.go (U' := (T_85.setTop (mkF m 200 #[.val (.int pa), .val (.int pb), .val (.long pw), .second, .val (.int pc), .val (.int pd), .val (.long pv), .second, .val (.int t1), .val (.int h1), .val (.long w1), .second, .val (.int t2), .val (.int h2), .val (.long w2), .second, .val (.ref b_1), .val (.ref b_14), .val (.int (0 : Int32)), .val .null, .val (.ref r_71)] [(.int (0 : Int32))]))) st_85 ?_
      refine Goes.go (U' := (T_85.setTop (mkF m 207 #[.val (.int pa), .val (.int pb), .val (.long pw), .second, .val (.int pc), .val (.int pd), .val (.long pv), .second, .val (.int t1), .val (.int h1), .val (.long w1), .second, .val (.int t2), .val (.int h2), .val (.long w2), .second, .val (.ref b_1), .val (.ref b_14), .val (.int (0 : Int32)), .val .null, .val (.ref r_71)] [(.ref r_71), (.ref b_1)]))) (fun t kt => ?_) ?_
      · show Steps p.tables e below (T_85.setTop (mkF m 200 #[.val (.int pa), .val (.int pb), .val (.long pw), .second, .val (.int pc), .val (.int pd), .val (.long pv), .second, .val (.int t1), .val (.int h1), .val (.long w1), .second, .val (.int t2), .val (.int h2), .val (.long w2), .second, .val (.ref b_1), .val (.ref b_14), .val (.int (0 : Int32)), .val .null, .val (.ref r_71)] [(.int (0 : Int32))])) t
        refine XS.ifNo X_85.here hx rfl (hb hby at_200) rfl (XT.i0_ne_f (by decide)) ?_
        show Steps p.tables e below (T_85.setTop (mkF m 203 #[.val (.int pa), .val (.int pb), .val (.long pw), .second, .val (.int pc), .val (.int pd), .val (.long pv), .second, .val (.int t1), .val (.int h1), .val (.long w1), .second, .val (.int t2), .val (.int h2), .val (.long w2), .second, .val (.ref b_1), .val (.ref b_14), .val (.int (0 : Int32)), .val .null, .val (.ref r_71)] [])) t
        refine XS.aload X_85.here hx rfl (hb hby at_203) rfl rfl ?_
        show Steps p.tables e below (T_85.setTop (mkF m 205 #[.val (.int pa), .val (.int pb), .val (.long pw), .second, .val (.int pc), .val (.int pd), .val (.long pv), .second, .val (.int t1), .val (.int h1), .val (.long w1), .second, .val (.int t2), .val (.int h2), .val (.long w2), .second, .val (.ref b_1), .val (.ref b_14), .val (.int (0 : Int32)), .val .null, .val (.ref r_71)] [(.ref b_1)])) t
        refine XS.aload X_85.here hx rfl (hb hby at_205) rfl rfl ?_
        exact kt
      obtain ⟨v_86, T_86, L_86, X_86, q_86, st_86⟩ := callVirtual X_85 hx hZ (y := (⟨"com/example/copse/copse/Arc", "equals", "(Ljava/lang/Object;)Z"⟩ : MethodName)) (z := (⟨"com/example/copse/copse/Arc", "equals", "(Ljava/lang/Object;)Z"⟩ : MethodName)) (W := 0) hown (wdOf hw 33 rfl) (wdOf hw 34 rfl) (notFace_of_selects (args := #[]) (mvT hZ (wdOf hw 36 rfl))) (wdOf hw 36 rfl) (wdOf hw 35 rfl) (wdOf hw 8 rfl) (wdOf hw 37 rfl) (by decide) (rm_eqI l Z a0 hw [] b_1 r_71 T_71.heap n0 y_81 E_71) (by decide) (by decide) (by decide) (by decide) K_85 f_73 (g := (mkF m 207 #[.val (.int pa), .val (.int pb), .val (.long pw), .second, .val (.int pc), .val (.int pd), .val (.long pv), .second, .val (.int t1), .val (.int h1), .val (.long w1), .second, .val (.int t2), .val (.int h2), .val (.long w2), .second, .val (.ref b_1), .val (.ref b_14), .val (.int (0 : Int32)), .val .null, .val (.ref r_71)] [(.ref r_71), (.ref b_1)])) rfl (by rw [hml]; rfl) (argsL := [(.ref r_71)]) (rest := []) (lenOf pd_4 rfl) rfl rfl (Nat.le_refl _) (hb hby at_207)
      obtain ⟨rfl, n_86, K_86⟩ := q_86
      have N_86 := Fr.app N_85 n_86
      refine Goes.go (U' := (T_86.setTop (mkF m 210 #[.val (.int pa), .val (.int pb), .val (.long pw), .second, .val (.int pc), .val (.int pd), .val (.long pv), .second, .val (.int t1), .val (.int h1), .val (.long w1), .second, .val (.int t2), .val (.int h2), .val (.long w2), .second, .val (.ref b_1), .val (.ref b_14), .val (.int (0 : Int32)), .val .null, .val (.ref r_71)] [(.int (0 : Int32))]))) st_86 ?_
      refine Goes.go (U' := (T_86.setTop (mkF m 218 #[.val (.int pa), .val (.int pb), .val (.long pw), .second, .val (.int pc), .val (.int pd), .val (.long pv), .second, .val (.int t1), .val (.int h1), .val (.long w1), .second, .val (.int t2), .val (.int h2), .val (.long w2), .second, .val (.ref b_1), .val (.ref b_14), .val (.int (0 : Int32)), .val .null, .val (.ref r_71)] [(.int (1 : Int32))]))) (fun t kt => ?_) ?_
      · show Steps p.tables e below (T_86.setTop (mkF m 210 #[.val (.int pa), .val (.int pb), .val (.long pw), .second, .val (.int pc), .val (.int pd), .val (.long pv), .second, .val (.int t1), .val (.int h1), .val (.long w1), .second, .val (.int t2), .val (.int h2), .val (.long w2), .second, .val (.ref b_1), .val (.ref b_14), .val (.int (0 : Int32)), .val .null, .val (.ref r_71)] [(.int (0 : Int32))])) t
        refine XS.ifNo X_86.here hx rfl (hb hby at_210) rfl (XT.i0_ne_f (by decide)) ?_
        show Steps p.tables e below (T_86.setTop (mkF m 213 #[.val (.int pa), .val (.int pb), .val (.long pw), .second, .val (.int pc), .val (.int pd), .val (.long pv), .second, .val (.int t1), .val (.int h1), .val (.long w1), .second, .val (.int t2), .val (.int h2), .val (.long w2), .second, .val (.ref b_1), .val (.ref b_14), .val (.int (0 : Int32)), .val .null, .val (.ref r_71)] [])) t
        refine XS.iconst X_86.here hx rfl (hb hby at_213) ?_
        show Steps p.tables e below (T_86.setTop (mkF m 214 #[.val (.int pa), .val (.int pb), .val (.long pw), .second, .val (.int pc), .val (.int pd), .val (.long pv), .second, .val (.int t1), .val (.int h1), .val (.long w1), .second, .val (.int t2), .val (.int h2), .val (.long w2), .second, .val (.ref b_1), .val (.ref b_14), .val (.int (0 : Int32)), .val .null, .val (.ref r_71)] [(.int (1 : Int32))])) t
        refine XS.goto X_86.here hx rfl (pc0 := 214) (pc' := 218) rfl (hb hby at_214) (by decide) (by decide) ?_
        exact kt
      refine Goes.retB X_86 hx hlk hret (hb hby at_218) (by decide) (by decide) ?_
      try rw [K_86]
      exact ⟨rfl, N_86⟩
  · -- not t1 = t2
    refine Goes.go (U' := (T_25.setTop (mkF m 148 #[.val (.int pa), .val (.int pb), .val (.long pw), .second, .val (.int pc), .val (.int pd), .val (.long pv), .second, .val (.int t1), .val (.int h1), .val (.long w1), .second, .val (.int t2), .val (.int h2), .val (.long w2), .second, .val (.ref b_1), .val (.ref b_14), .unset, .unset, .unset] [(.int (0 : Int32))]))) (fun t kt => ?_) ?_
    · show Steps p.tables e below (T_25.setTop (mkF m 125 #[.val (.int pa), .val (.int pb), .val (.long pw), .second, .val (.int pc), .val (.int pd), .val (.long pv), .second, .val (.int t1), .val (.int h1), .val (.long w1), .second, .val (.int t2), .val (.int h2), .val (.long w2), .second, .val (.ref b_1), .val (.ref b_14), .unset, .unset, .unset] [(.int t2), (.int t1)])) t
      refine XS.icmpYes X_25.here hx rfl (pc0 := 125) (pc' := 147) rfl (hb hby at_125) rfl (XT.ii_ne_t c_36) (by decide) (by decide) ?_
      show Steps p.tables e below (T_25.setTop (mkF m 147 #[.val (.int pa), .val (.int pb), .val (.long pw), .second, .val (.int pc), .val (.int pd), .val (.long pv), .second, .val (.int t1), .val (.int h1), .val (.long w1), .second, .val (.int t2), .val (.int h2), .val (.long w2), .second, .val (.ref b_1), .val (.ref b_14), .unset, .unset, .unset] [])) t
      refine XS.iconst X_25.here hx rfl (hb hby at_147) ?_
      exact kt
    have c_36' : ¬ t2 = t1 := fun q => c_36 (Eq.symm q)
    refine Goes.go (U' := (T_25.setTop (mkF m 154 #[.val (.int pa), .val (.int pb), .val (.long pw), .second, .val (.int pc), .val (.int pd), .val (.long pv), .second, .val (.int t1), .val (.int h1), .val (.long w1), .second, .val (.int t2), .val (.int h2), .val (.long w2), .second, .val (.ref b_1), .val (.ref b_14), .val (.int (0 : Int32)), .val .null, .unset] [(.int pa)]))) (fun t kt => ?_) ?_
    · show Steps p.tables e below (T_25.setTop (mkF m 148 #[.val (.int pa), .val (.int pb), .val (.long pw), .second, .val (.int pc), .val (.int pd), .val (.long pv), .second, .val (.int t1), .val (.int h1), .val (.long w1), .second, .val (.int t2), .val (.int h2), .val (.long w2), .second, .val (.ref b_1), .val (.ref b_14), .unset, .unset, .unset] [(.int (0 : Int32))])) t
      refine XS.istore X_25.here hx rfl (hb hby at_148) rfl (l' := #[.val (.int pa), .val (.int pb), .val (.long pw), .second, .val (.int pc), .val (.int pd), .val (.long pv), .second, .val (.int t1), .val (.int h1), .val (.long w1), .second, .val (.int t2), .val (.int h2), .val (.long w2), .second, .val (.ref b_1), .val (.ref b_14), .val (.int (0 : Int32)), .unset, .unset]) rfl ?_
      show Steps p.tables e below (T_25.setTop (mkF m 150 #[.val (.int pa), .val (.int pb), .val (.long pw), .second, .val (.int pc), .val (.int pd), .val (.long pv), .second, .val (.int t1), .val (.int h1), .val (.long w1), .second, .val (.int t2), .val (.int h2), .val (.long w2), .second, .val (.ref b_1), .val (.ref b_14), .val (.int (0 : Int32)), .unset, .unset] [])) t
      refine XS.aconstNull X_25.here hx rfl (hb hby at_150) ?_
      show Steps p.tables e below (T_25.setTop (mkF m 151 #[.val (.int pa), .val (.int pb), .val (.long pw), .second, .val (.int pc), .val (.int pd), .val (.long pv), .second, .val (.int t1), .val (.int h1), .val (.long w1), .second, .val (.int t2), .val (.int h2), .val (.long w2), .second, .val (.ref b_1), .val (.ref b_14), .val (.int (0 : Int32)), .unset, .unset] [.null])) t
      refine XS.astore X_25.here hx rfl (hb hby at_151) rfl rfl (l' := #[.val (.int pa), .val (.int pb), .val (.long pw), .second, .val (.int pc), .val (.int pd), .val (.long pv), .second, .val (.int t1), .val (.int h1), .val (.long w1), .second, .val (.int t2), .val (.int h2), .val (.long w2), .second, .val (.ref b_1), .val (.ref b_14), .val (.int (0 : Int32)), .val .null, .unset]) rfl ?_
      show Steps p.tables e below (T_25.setTop (mkF m 153 #[.val (.int pa), .val (.int pb), .val (.long pw), .second, .val (.int pc), .val (.int pd), .val (.long pv), .second, .val (.int t1), .val (.int h1), .val (.long w1), .second, .val (.int t2), .val (.int h2), .val (.long w2), .second, .val (.ref b_1), .val (.ref b_14), .val (.int (0 : Int32)), .val .null, .unset] [])) t
      refine XS.iloadN X_25.here hx rfl (hb hby at_153) rfl ?_
      exact kt
    obtain ⟨v_87, T_87, L_87, X_87, q_87, st_87⟩ := callStatic X_25 hx hZ (y := (⟨"java/lang/Integer", "valueOf", "(I)Ljava/lang/Integer;"⟩ : MethodName)) (W := 0) hown (wdOf hw 26 rfl) (wdOf hw 27 rfl) (wdOf hw 28 rfl) (wdOf hw 29 rfl) (by decide) (rm_vo l Z a0 hw [] pa T_25.heap n0 y_35 f_26 BC SH) (by decide) (by decide) (by decide) (by decide) (rfl : T_25.heap = T_25.heap) (g := (mkF m 154 #[.val (.int pa), .val (.int pb), .val (.long pw), .second, .val (.int pc), .val (.int pd), .val (.long pv), .second, .val (.int t1), .val (.int h1), .val (.long w1), .second, .val (.int t2), .val (.int h2), .val (.long w2), .second, .val (.ref b_1), .val (.ref b_14), .val (.int (0 : Int32)), .val .null, .unset] [(.int pa)])) rfl (by rw [hml]; rfl) (argsL := [(.int pa)]) (rest := []) (lenOf pd_3 rfl) rfl rfl (Nat.le_refl _) (hb hby at_154)
    obtain ⟨r_87, rfl, n_87, K_87, E_87, F_87⟩ := q_87
    have N_87 := Fr.app N_25 n_87
    have f_88 : Old Z n0 T_87.heap := f_26.ext K_87
    have f_89 : Exa Z T_87.heap b_1 "com/example/copse/copse/Arc" := f_27.ext K_87
    have f_90 : Fld Z T_87.heap b_1 "com/example/copse/copse/Arc" "tail" "I" (.int t1) := f_28.ext K_87
    have f_91 : Fld Z T_87.heap b_1 "com/example/copse/copse/Arc" "head" "I" (.int h1) := f_29.ext K_87
    have f_92 : Fld Z T_87.heap b_1 "com/example/copse/copse/Arc" "weight" "J" (.long w1) := f_30.ext K_87
    have f_93 : Exa Z T_87.heap b_14 "com/example/copse/copse/Arc" := f_31.ext K_87
    have f_94 : Fld Z T_87.heap b_14 "com/example/copse/copse/Arc" "tail" "I" (.int t2) := Ft_25.ext K_87
    have f_95 : Fld Z T_87.heap b_14 "com/example/copse/copse/Arc" "head" "I" (.int h2) := Fh_25.ext K_87
    have f_96 : Fld Z T_87.heap b_14 "com/example/copse/copse/Arc" "weight" "J" (.long w2) := Fw_25.ext K_87
    have K_97 : Keep h0 T_87.heap [] := K_35.ext K_87
    have y_97 : n0 ≤ T_87.heap.size := Nat.le_trans Z0 K_97.1
    refine Goes.go (U' := (T_87.setTop (mkF m 157 #[.val (.int pa), .val (.int pb), .val (.long pw), .second, .val (.int pc), .val (.int pd), .val (.long pv), .second, .val (.int t1), .val (.int h1), .val (.long w1), .second, .val (.int t2), .val (.int h2), .val (.long w2), .second, .val (.ref b_1), .val (.ref b_14), .val (.int (0 : Int32)), .val .null, .unset] [(.ref r_87)]))) st_87 ?_
    refine Goes.go (U' := (T_87.setTop (mkF m 163 #[.val (.int pa), .val (.int pb), .val (.long pw), .second, .val (.int pc), .val (.int pd), .val (.long pv), .second, .val (.int t1), .val (.int h1), .val (.long w1), .second, .val (.int t2), .val (.int h2), .val (.long w2), .second, .val (.ref b_1), .val (.ref b_14), .val (.int (0 : Int32)), .val .null, .val (.ref r_87)] [(.ref b_14), (.ref b_1)]))) (fun t kt => ?_) ?_
    · show Steps p.tables e below (T_87.setTop (mkF m 157 #[.val (.int pa), .val (.int pb), .val (.long pw), .second, .val (.int pc), .val (.int pd), .val (.long pv), .second, .val (.int t1), .val (.int h1), .val (.long w1), .second, .val (.int t2), .val (.int h2), .val (.long w2), .second, .val (.ref b_1), .val (.ref b_14), .val (.int (0 : Int32)), .val .null, .unset] [(.ref r_87)])) t
      refine XS.astore X_87.here hx rfl (hb hby at_157) rfl rfl (l' := #[.val (.int pa), .val (.int pb), .val (.long pw), .second, .val (.int pc), .val (.int pd), .val (.long pv), .second, .val (.int t1), .val (.int h1), .val (.long w1), .second, .val (.int t2), .val (.int h2), .val (.long w2), .second, .val (.ref b_1), .val (.ref b_14), .val (.int (0 : Int32)), .val .null, .val (.ref r_87)]) rfl ?_
      show Steps p.tables e below (T_87.setTop (mkF m 159 #[.val (.int pa), .val (.int pb), .val (.long pw), .second, .val (.int pc), .val (.int pd), .val (.long pv), .second, .val (.int t1), .val (.int h1), .val (.long w1), .second, .val (.int t2), .val (.int h2), .val (.long w2), .second, .val (.ref b_1), .val (.ref b_14), .val (.int (0 : Int32)), .val .null, .val (.ref r_87)] [])) t
      refine XS.aload X_87.here hx rfl (hb hby at_159) rfl rfl ?_
      show Steps p.tables e below (T_87.setTop (mkF m 161 #[.val (.int pa), .val (.int pb), .val (.long pw), .second, .val (.int pc), .val (.int pd), .val (.long pv), .second, .val (.int t1), .val (.int h1), .val (.long w1), .second, .val (.int t2), .val (.int h2), .val (.long w2), .second, .val (.ref b_1), .val (.ref b_14), .val (.int (0 : Int32)), .val .null, .val (.ref r_87)] [(.ref b_1)])) t
      refine XS.aload X_87.here hx rfl (hb hby at_161) rfl rfl ?_
      exact kt
    obtain ⟨v_98, T_98, L_98, X_98, q_98, st_98⟩ := callVirtual X_87 hx hZ (y := (⟨"com/example/copse/copse/Arc", "equals", "(Ljava/lang/Object;)Z"⟩ : MethodName)) (z := (⟨"com/example/copse/copse/Arc", "equals", "(Ljava/lang/Object;)Z"⟩ : MethodName)) (W := 0) hown (wdOf hw 33 rfl) (wdOf hw 34 rfl) (notFace_of_selects (args := #[]) (mvT hZ (wdOf hw 36 rfl))) (wdOf hw 36 rfl) (wdOf hw 35 rfl) (wdOf hw 8 rfl) (wdOf hw 37 rfl) (by decide) (rm_eq l Z a0 hw [] b_1 b_14 t1 h1 t2 h2 (0 : Int32) w1 w2 T_87.heap n0 y_97 f_90 f_91 f_92 f_93 f_94 f_95 f_96 (by simp [c_36, c_36'])) (by decide) (by decide) (by decide) (by decide) (rfl : T_87.heap = T_87.heap) f_89 (g := (mkF m 163 #[.val (.int pa), .val (.int pb), .val (.long pw), .second, .val (.int pc), .val (.int pd), .val (.long pv), .second, .val (.int t1), .val (.int h1), .val (.long w1), .second, .val (.int t2), .val (.int h2), .val (.long w2), .second, .val (.ref b_1), .val (.ref b_14), .val (.int (0 : Int32)), .val .null, .val (.ref r_87)] [(.ref b_14), (.ref b_1)])) rfl (by rw [hml]; rfl) (argsL := [(.ref b_14)]) (rest := []) (lenOf pd_4 rfl) rfl rfl (Nat.le_refl _) (hb hby at_163)
    obtain ⟨rfl, n_98, K_98⟩ := q_98
    have N_98 := Fr.app N_87 n_98
    refine Goes.go (U' := (T_98.setTop (mkF m 166 #[.val (.int pa), .val (.int pb), .val (.long pw), .second, .val (.int pc), .val (.int pd), .val (.long pv), .second, .val (.int t1), .val (.int h1), .val (.long w1), .second, .val (.int t2), .val (.int h2), .val (.long w2), .second, .val (.ref b_1), .val (.ref b_14), .val (.int (0 : Int32)), .val .null, .val (.ref r_87)] [(.int (0 : Int32))]))) st_98 ?_
    refine Goes.go (U' := (T_98.setTop (mkF m 175 #[.val (.int pa), .val (.int pb), .val (.long pw), .second, .val (.int pc), .val (.int pd), .val (.long pv), .second, .val (.int t1), .val (.int h1), .val (.long w1), .second, .val (.int t2), .val (.int h2), .val (.long w2), .second, .val (.ref b_1), .val (.ref b_14), .val (.int (0 : Int32)), .val .null, .val (.ref r_87)] [(.ref b_1), (.ref b_14)]))) (fun t kt => ?_) ?_
    · show Steps p.tables e below (T_98.setTop (mkF m 166 #[.val (.int pa), .val (.int pb), .val (.long pw), .second, .val (.int pc), .val (.int pd), .val (.long pv), .second, .val (.int t1), .val (.int h1), .val (.long w1), .second, .val (.int t2), .val (.int h2), .val (.long w2), .second, .val (.ref b_1), .val (.ref b_14), .val (.int (0 : Int32)), .val .null, .val (.ref r_87)] [(.int (0 : Int32))])) t
      refine XS.iload X_98.here hx rfl (hb hby at_166) rfl ?_
      show Steps p.tables e below (T_98.setTop (mkF m 168 #[.val (.int pa), .val (.int pb), .val (.long pw), .second, .val (.int pc), .val (.int pd), .val (.long pv), .second, .val (.int t1), .val (.int h1), .val (.long w1), .second, .val (.int t2), .val (.int h2), .val (.long w2), .second, .val (.ref b_1), .val (.ref b_14), .val (.int (0 : Int32)), .val .null, .val (.ref r_87)] [(.int (0 : Int32)), (.int (0 : Int32))])) t
      refine XS.icmpNo X_98.here hx rfl (hb hby at_168) rfl (XT.ii_ne_f (by decide)) ?_
      show Steps p.tables e below (T_98.setTop (mkF m 171 #[.val (.int pa), .val (.int pb), .val (.long pw), .second, .val (.int pc), .val (.int pd), .val (.long pv), .second, .val (.int t1), .val (.int h1), .val (.long w1), .second, .val (.int t2), .val (.int h2), .val (.long w2), .second, .val (.ref b_1), .val (.ref b_14), .val (.int (0 : Int32)), .val .null, .val (.ref r_87)] [])) t
      refine XS.aload X_98.here hx rfl (hb hby at_171) rfl rfl ?_
      show Steps p.tables e below (T_98.setTop (mkF m 173 #[.val (.int pa), .val (.int pb), .val (.long pw), .second, .val (.int pc), .val (.int pd), .val (.long pv), .second, .val (.int t1), .val (.int h1), .val (.long w1), .second, .val (.int t2), .val (.int h2), .val (.long w2), .second, .val (.ref b_1), .val (.ref b_14), .val (.int (0 : Int32)), .val .null, .val (.ref r_87)] [(.ref b_14)])) t
      refine XS.aload X_98.here hx rfl (hb hby at_173) rfl rfl ?_
      exact kt
    obtain ⟨v_99, T_99, L_99, X_99, q_99, st_99⟩ := callVirtual X_98 hx hZ (y := (⟨"com/example/copse/copse/Arc", "equals", "(Ljava/lang/Object;)Z"⟩ : MethodName)) (z := (⟨"com/example/copse/copse/Arc", "equals", "(Ljava/lang/Object;)Z"⟩ : MethodName)) (W := 0) hown (wdOf hw 33 rfl) (wdOf hw 34 rfl) (notFace_of_selects (args := #[]) (mvT hZ (wdOf hw 36 rfl))) (wdOf hw 36 rfl) (wdOf hw 35 rfl) (wdOf hw 8 rfl) (wdOf hw 37 rfl) (by decide) (rm_eq l Z a0 hw [] b_14 b_1 t2 h2 t1 h1 (0 : Int32) w2 w1 T_87.heap n0 y_97 f_94 f_95 f_96 f_89 f_90 f_91 f_92 (by simp [c_36, c_36'])) (by decide) (by decide) (by decide) (by decide) K_98 f_93 (g := (mkF m 175 #[.val (.int pa), .val (.int pb), .val (.long pw), .second, .val (.int pc), .val (.int pd), .val (.long pv), .second, .val (.int t1), .val (.int h1), .val (.long w1), .second, .val (.int t2), .val (.int h2), .val (.long w2), .second, .val (.ref b_1), .val (.ref b_14), .val (.int (0 : Int32)), .val .null, .val (.ref r_87)] [(.ref b_1), (.ref b_14)])) rfl (by rw [hml]; rfl) (argsL := [(.ref b_1)]) (rest := []) (lenOf pd_4 rfl) rfl rfl (Nat.le_refl _) (hb hby at_175)
    obtain ⟨rfl, n_99, K_99⟩ := q_99
    have N_99 := Fr.app N_98 n_99
    refine Goes.go (U' := (T_99.setTop (mkF m 178 #[.val (.int pa), .val (.int pb), .val (.long pw), .second, .val (.int pc), .val (.int pd), .val (.long pv), .second, .val (.int t1), .val (.int h1), .val (.long w1), .second, .val (.int t2), .val (.int h2), .val (.long w2), .second, .val (.ref b_1), .val (.ref b_14), .val (.int (0 : Int32)), .val .null, .val (.ref r_87)] [(.int (0 : Int32))]))) st_99 ?_
    refine Goes.go (U' := (T_99.setTop (mkF m 187 #[.val (.int pa), .val (.int pb), .val (.long pw), .second, .val (.int pc), .val (.int pd), .val (.long pv), .second, .val (.int t1), .val (.int h1), .val (.long w1), .second, .val (.int t2), .val (.int h2), .val (.long w2), .second, .val (.ref b_1), .val (.ref b_14), .val (.int (0 : Int32)), .val .null, .val (.ref r_87)] [(.ref b_1), (.ref b_1)]))) (fun t kt => ?_) ?_
    · show Steps p.tables e below (T_99.setTop (mkF m 178 #[.val (.int pa), .val (.int pb), .val (.long pw), .second, .val (.int pc), .val (.int pd), .val (.long pv), .second, .val (.int t1), .val (.int h1), .val (.long w1), .second, .val (.int t2), .val (.int h2), .val (.long w2), .second, .val (.ref b_1), .val (.ref b_14), .val (.int (0 : Int32)), .val .null, .val (.ref r_87)] [(.int (0 : Int32))])) t
      refine XS.iload X_99.here hx rfl (hb hby at_178) rfl ?_
      show Steps p.tables e below (T_99.setTop (mkF m 180 #[.val (.int pa), .val (.int pb), .val (.long pw), .second, .val (.int pc), .val (.int pd), .val (.long pv), .second, .val (.int t1), .val (.int h1), .val (.long w1), .second, .val (.int t2), .val (.int h2), .val (.long w2), .second, .val (.ref b_1), .val (.ref b_14), .val (.int (0 : Int32)), .val .null, .val (.ref r_87)] [(.int (0 : Int32)), (.int (0 : Int32))])) t
      refine XS.icmpNo X_99.here hx rfl (hb hby at_180) rfl (XT.ii_ne_f (by decide)) ?_
      show Steps p.tables e below (T_99.setTop (mkF m 183 #[.val (.int pa), .val (.int pb), .val (.long pw), .second, .val (.int pc), .val (.int pd), .val (.long pv), .second, .val (.int t1), .val (.int h1), .val (.long w1), .second, .val (.int t2), .val (.int h2), .val (.long w2), .second, .val (.ref b_1), .val (.ref b_14), .val (.int (0 : Int32)), .val .null, .val (.ref r_87)] [])) t
      refine XS.aload X_99.here hx rfl (hb hby at_183) rfl rfl ?_
      show Steps p.tables e below (T_99.setTop (mkF m 185 #[.val (.int pa), .val (.int pb), .val (.long pw), .second, .val (.int pc), .val (.int pd), .val (.long pv), .second, .val (.int t1), .val (.int h1), .val (.long w1), .second, .val (.int t2), .val (.int h2), .val (.long w2), .second, .val (.ref b_1), .val (.ref b_14), .val (.int (0 : Int32)), .val .null, .val (.ref r_87)] [(.ref b_1)])) t
      refine XS.aload X_99.here hx rfl (hb hby at_185) rfl rfl ?_
      exact kt
    obtain ⟨v_100, T_100, L_100, X_100, q_100, st_100⟩ := callVirtual X_99 hx hZ (y := (⟨"com/example/copse/copse/Arc", "equals", "(Ljava/lang/Object;)Z"⟩ : MethodName)) (z := (⟨"com/example/copse/copse/Arc", "equals", "(Ljava/lang/Object;)Z"⟩ : MethodName)) (W := 0) hown (wdOf hw 33 rfl) (wdOf hw 34 rfl) (notFace_of_selects (args := #[]) (mvT hZ (wdOf hw 36 rfl))) (wdOf hw 36 rfl) (wdOf hw 35 rfl) (wdOf hw 8 rfl) (wdOf hw 37 rfl) (by decide) (rm_eq l Z a0 hw [] b_1 b_1 t1 h1 t1 h1 (1 : Int32) w1 w1 T_87.heap n0 y_97 f_90 f_91 f_92 f_89 f_90 f_91 f_92 (by simp)) (by decide) (by decide) (by decide) (by decide) K_99 f_89 (g := (mkF m 187 #[.val (.int pa), .val (.int pb), .val (.long pw), .second, .val (.int pc), .val (.int pd), .val (.long pv), .second, .val (.int t1), .val (.int h1), .val (.long w1), .second, .val (.int t2), .val (.int h2), .val (.long w2), .second, .val (.ref b_1), .val (.ref b_14), .val (.int (0 : Int32)), .val .null, .val (.ref r_87)] [(.ref b_1), (.ref b_1)])) rfl (by rw [hml]; rfl) (argsL := [(.ref b_1)]) (rest := []) (lenOf pd_4 rfl) rfl rfl (Nat.le_refl _) (hb hby at_187)
    obtain ⟨rfl, n_100, K_100⟩ := q_100
    have N_100 := Fr.app N_99 n_100
    refine Goes.go (U' := (T_100.setTop (mkF m 190 #[.val (.int pa), .val (.int pb), .val (.long pw), .second, .val (.int pc), .val (.int pd), .val (.long pv), .second, .val (.int t1), .val (.int h1), .val (.long w1), .second, .val (.int t2), .val (.int h2), .val (.long w2), .second, .val (.ref b_1), .val (.ref b_14), .val (.int (0 : Int32)), .val .null, .val (.ref r_87)] [(.int (1 : Int32))]))) st_100 ?_
    refine Goes.go (U' := (T_100.setTop (mkF m 197 #[.val (.int pa), .val (.int pb), .val (.long pw), .second, .val (.int pc), .val (.int pd), .val (.long pv), .second, .val (.int t1), .val (.int h1), .val (.long w1), .second, .val (.int t2), .val (.int h2), .val (.long w2), .second, .val (.ref b_1), .val (.ref b_14), .val (.int (0 : Int32)), .val .null, .val (.ref r_87)] [.null, (.ref b_1)]))) (fun t kt => ?_) ?_
    · show Steps p.tables e below (T_100.setTop (mkF m 190 #[.val (.int pa), .val (.int pb), .val (.long pw), .second, .val (.int pc), .val (.int pd), .val (.long pv), .second, .val (.int t1), .val (.int h1), .val (.long w1), .second, .val (.int t2), .val (.int h2), .val (.long w2), .second, .val (.ref b_1), .val (.ref b_14), .val (.int (0 : Int32)), .val .null, .val (.ref r_87)] [(.int (1 : Int32))])) t
      refine XS.ifNo X_100.here hx rfl (hb hby at_190) rfl (XT.i0_eq_f (by decide)) ?_
      show Steps p.tables e below (T_100.setTop (mkF m 193 #[.val (.int pa), .val (.int pb), .val (.long pw), .second, .val (.int pc), .val (.int pd), .val (.long pv), .second, .val (.int t1), .val (.int h1), .val (.long w1), .second, .val (.int t2), .val (.int h2), .val (.long w2), .second, .val (.ref b_1), .val (.ref b_14), .val (.int (0 : Int32)), .val .null, .val (.ref r_87)] [])) t
      refine XS.aload X_100.here hx rfl (hb hby at_193) rfl rfl ?_
      show Steps p.tables e below (T_100.setTop (mkF m 195 #[.val (.int pa), .val (.int pb), .val (.long pw), .second, .val (.int pc), .val (.int pd), .val (.long pv), .second, .val (.int t1), .val (.int h1), .val (.long w1), .second, .val (.int t2), .val (.int h2), .val (.long w2), .second, .val (.ref b_1), .val (.ref b_14), .val (.int (0 : Int32)), .val .null, .val (.ref r_87)] [(.ref b_1)])) t
      refine XS.aload X_100.here hx rfl (hb hby at_195) rfl rfl ?_
      exact kt
    obtain ⟨v_101, T_101, L_101, X_101, q_101, st_101⟩ := callVirtual X_100 hx hZ (y := (⟨"com/example/copse/copse/Arc", "equals", "(Ljava/lang/Object;)Z"⟩ : MethodName)) (z := (⟨"com/example/copse/copse/Arc", "equals", "(Ljava/lang/Object;)Z"⟩ : MethodName)) (W := 0) hown (wdOf hw 33 rfl) (wdOf hw 34 rfl) (notFace_of_selects (args := #[]) (mvT hZ (wdOf hw 36 rfl))) (wdOf hw 36 rfl) (wdOf hw 35 rfl) (wdOf hw 8 rfl) (wdOf hw 37 rfl) (by decide) (rm_eqN l Z a0 hw [] b_1 T_87.heap n0 y_97) (by decide) (by decide) (by decide) (by decide) K_100 f_89 (g := (mkF m 197 #[.val (.int pa), .val (.int pb), .val (.long pw), .second, .val (.int pc), .val (.int pd), .val (.long pv), .second, .val (.int t1), .val (.int h1), .val (.long w1), .second, .val (.int t2), .val (.int h2), .val (.long w2), .second, .val (.ref b_1), .val (.ref b_14), .val (.int (0 : Int32)), .val .null, .val (.ref r_87)] [.null, (.ref b_1)])) rfl (by rw [hml]; rfl) (argsL := [.null]) (rest := []) (lenOf pd_4 rfl) rfl rfl (Nat.le_refl _) (hb hby at_197)
    obtain ⟨rfl, n_101, K_101⟩ := q_101
    have N_101 := Fr.app N_100 n_101
    refine Goes.go (U' := (T_101.setTop (mkF m 200 #[.val (.int pa), .val (.int pb), .val (.long pw), .second, .val (.int pc), .val (.int pd), .val (.long pv), .second, .val (.int t1), .val (.int h1), .val (.long w1), .second, .val (.int t2), .val (.int h2), .val (.long w2), .second, .val (.ref b_1), .val (.ref b_14), .val (.int (0 : Int32)), .val .null, .val (.ref r_87)] [(.int (0 : Int32))]))) st_101 ?_
    refine Goes.go (U' := (T_101.setTop (mkF m 207 #[.val (.int pa), .val (.int pb), .val (.long pw), .second, .val (.int pc), .val (.int pd), .val (.long pv), .second, .val (.int t1), .val (.int h1), .val (.long w1), .second, .val (.int t2), .val (.int h2), .val (.long w2), .second, .val (.ref b_1), .val (.ref b_14), .val (.int (0 : Int32)), .val .null, .val (.ref r_87)] [(.ref r_87), (.ref b_1)]))) (fun t kt => ?_) ?_
    · show Steps p.tables e below (T_101.setTop (mkF m 200 #[.val (.int pa), .val (.int pb), .val (.long pw), .second, .val (.int pc), .val (.int pd), .val (.long pv), .second, .val (.int t1), .val (.int h1), .val (.long w1), .second, .val (.int t2), .val (.int h2), .val (.long w2), .second, .val (.ref b_1), .val (.ref b_14), .val (.int (0 : Int32)), .val .null, .val (.ref r_87)] [(.int (0 : Int32))])) t
      refine XS.ifNo X_101.here hx rfl (hb hby at_200) rfl (XT.i0_ne_f (by decide)) ?_
      show Steps p.tables e below (T_101.setTop (mkF m 203 #[.val (.int pa), .val (.int pb), .val (.long pw), .second, .val (.int pc), .val (.int pd), .val (.long pv), .second, .val (.int t1), .val (.int h1), .val (.long w1), .second, .val (.int t2), .val (.int h2), .val (.long w2), .second, .val (.ref b_1), .val (.ref b_14), .val (.int (0 : Int32)), .val .null, .val (.ref r_87)] [])) t
      refine XS.aload X_101.here hx rfl (hb hby at_203) rfl rfl ?_
      show Steps p.tables e below (T_101.setTop (mkF m 205 #[.val (.int pa), .val (.int pb), .val (.long pw), .second, .val (.int pc), .val (.int pd), .val (.long pv), .second, .val (.int t1), .val (.int h1), .val (.long w1), .second, .val (.int t2), .val (.int h2), .val (.long w2), .second, .val (.ref b_1), .val (.ref b_14), .val (.int (0 : Int32)), .val .null, .val (.ref r_87)] [(.ref b_1)])) t
      refine XS.aload X_101.here hx rfl (hb hby at_205) rfl rfl ?_
      exact kt
    obtain ⟨v_102, T_102, L_102, X_102, q_102, st_102⟩ := callVirtual X_101 hx hZ (y := (⟨"com/example/copse/copse/Arc", "equals", "(Ljava/lang/Object;)Z"⟩ : MethodName)) (z := (⟨"com/example/copse/copse/Arc", "equals", "(Ljava/lang/Object;)Z"⟩ : MethodName)) (W := 0) hown (wdOf hw 33 rfl) (wdOf hw 34 rfl) (notFace_of_selects (args := #[]) (mvT hZ (wdOf hw 36 rfl))) (wdOf hw 36 rfl) (wdOf hw 35 rfl) (wdOf hw 8 rfl) (wdOf hw 37 rfl) (by decide) (rm_eqI l Z a0 hw [] b_1 r_87 T_87.heap n0 y_97 E_87) (by decide) (by decide) (by decide) (by decide) K_101 f_89 (g := (mkF m 207 #[.val (.int pa), .val (.int pb), .val (.long pw), .second, .val (.int pc), .val (.int pd), .val (.long pv), .second, .val (.int t1), .val (.int h1), .val (.long w1), .second, .val (.int t2), .val (.int h2), .val (.long w2), .second, .val (.ref b_1), .val (.ref b_14), .val (.int (0 : Int32)), .val .null, .val (.ref r_87)] [(.ref r_87), (.ref b_1)])) rfl (by rw [hml]; rfl) (argsL := [(.ref r_87)]) (rest := []) (lenOf pd_4 rfl) rfl rfl (Nat.le_refl _) (hb hby at_207)
    obtain ⟨rfl, n_102, K_102⟩ := q_102
    have N_102 := Fr.app N_101 n_102
    refine Goes.go (U' := (T_102.setTop (mkF m 210 #[.val (.int pa), .val (.int pb), .val (.long pw), .second, .val (.int pc), .val (.int pd), .val (.long pv), .second, .val (.int t1), .val (.int h1), .val (.long w1), .second, .val (.int t2), .val (.int h2), .val (.long w2), .second, .val (.ref b_1), .val (.ref b_14), .val (.int (0 : Int32)), .val .null, .val (.ref r_87)] [(.int (0 : Int32))]))) st_102 ?_
    refine Goes.go (U' := (T_102.setTop (mkF m 218 #[.val (.int pa), .val (.int pb), .val (.long pw), .second, .val (.int pc), .val (.int pd), .val (.long pv), .second, .val (.int t1), .val (.int h1), .val (.long w1), .second, .val (.int t2), .val (.int h2), .val (.long w2), .second, .val (.ref b_1), .val (.ref b_14), .val (.int (0 : Int32)), .val .null, .val (.ref r_87)] [(.int (1 : Int32))]))) (fun t kt => ?_) ?_
    · show Steps p.tables e below (T_102.setTop (mkF m 210 #[.val (.int pa), .val (.int pb), .val (.long pw), .second, .val (.int pc), .val (.int pd), .val (.long pv), .second, .val (.int t1), .val (.int h1), .val (.long w1), .second, .val (.int t2), .val (.int h2), .val (.long w2), .second, .val (.ref b_1), .val (.ref b_14), .val (.int (0 : Int32)), .val .null, .val (.ref r_87)] [(.int (0 : Int32))])) t
      refine XS.ifNo X_102.here hx rfl (hb hby at_210) rfl (XT.i0_ne_f (by decide)) ?_
      show Steps p.tables e below (T_102.setTop (mkF m 213 #[.val (.int pa), .val (.int pb), .val (.long pw), .second, .val (.int pc), .val (.int pd), .val (.long pv), .second, .val (.int t1), .val (.int h1), .val (.long w1), .second, .val (.int t2), .val (.int h2), .val (.long w2), .second, .val (.ref b_1), .val (.ref b_14), .val (.int (0 : Int32)), .val .null, .val (.ref r_87)] [])) t
      refine XS.iconst X_102.here hx rfl (hb hby at_213) ?_
      show Steps p.tables e below (T_102.setTop (mkF m 214 #[.val (.int pa), .val (.int pb), .val (.long pw), .second, .val (.int pc), .val (.int pd), .val (.long pv), .second, .val (.int t1), .val (.int h1), .val (.long w1), .second, .val (.int t2), .val (.int h2), .val (.long w2), .second, .val (.ref b_1), .val (.ref b_14), .val (.int (0 : Int32)), .val .null, .val (.ref r_87)] [(.int (1 : Int32))])) t
      refine XS.goto X_102.here hx rfl (pc0 := 214) (pc' := 218) rfl (hb hby at_214) (by decide) (by decide) ?_
      exact kt
    refine Goes.retB X_102 hx hlk hret (hb hby at_218) (by decide) (by decide) ?_
    try rw [K_102]
    exact ⟨rfl, N_102⟩
set_option maxHeartbeats 4000000 in
theorem ef_rm_law (m : MethodId) (x0 : Int32) (x1 : Int32) (x2 : Int64) (x3 : Int32) (x4 : Int32) (x5 : Int64)  : entryFrame m #[(.int x0), (.int x1), (.long x2), (.int x3), (.int x4), (.long x5)] maxLocals = mkF m 0 #[.val (.int x0), .val (.int x1), .val (.long x2), .second, .val (.int x3), .val (.int x4), .val (.long x5), .second, .unset, .unset, .unset, .unset, .unset, .unset, .unset, .unset, .unset, .unset, .unset, .unset, .unset] [] := by first | (simp [entryFrame, mkF, argsToLocals, catR, catN, catI, catJ, maxLocals]; done) | rfl
set_option maxRecDepth 65536 in
set_option maxHeartbeats 40000000 in
theorem rm_law (l : Launch) (Z : State) (a0 : Array Value) (hw : ∀ d ∈ tables_1, d.before a0 Z = true) (ws : List Jvm.Cond) (pa pb : Int32) (pw : Int64) (pc pd : Int32) (pv : Int64) (h0 : Heap) (n0 : Nat) (Z0 : n0 ≤ h0.size) (O : Old Z n0 h0) (BC : BoxC Z "java/lang/Integer$IntegerCache" "[Ljava/lang/Integer;" "java/lang/Integer" "I" (fun i => .int (i.toInt32 - 128))) (SH : Sta Z Z.heap "java/lang/Integer$IntegerCache" "high" "I" (.int (127 : Int32))) :
    Pays l Z x code maxLocals ret ws room_1 #[(.int pa), (.int pb), (.long pw), (.int pc), (.int pd), (.long pv)] h0 (fun v h L => v = some (.int 1) ∧ Fr n0 L) := by
  refine Pays.of (plainFor_of_name (by first | (simp [plainName, overriddenIn]; done) | decide +kernel)) ?_
  intro p e s m below meth c s₁ hx hby hml hown hnm hret hlk hZ e0 X0
  have N0 := Fr.nil n0
  have K0 : Keep h0 h0 [] := Keep.refl _ _
  refine Goes.go (U' := (s₁.setTop (mkF m 0 #[.val (.int pa), .val (.int pb), .val (.long pw), .second, .val (.int pc), .val (.int pd), .val (.long pv), .second, .unset, .unset, .unset, .unset, .unset, .unset, .unset, .unset, .unset, .unset, .unset, .unset, .unset] []))) (fun t kt => castTop (ef_rm_law m pa pb pw pc pd pv) kt) ?_
  refine Goes.go (U' := (s₁.setTop (mkF m 5 #[.val (.int pa), .val (.int pb), .val (.long pw), .second, .val (.int pc), .val (.int pd), .val (.long pv), .second, .unset, .unset, .unset, .unset, .unset, .unset, .unset, .unset, .unset, .unset, .unset, .unset, .unset] [(.int (pa &&& (2147483647 : Int32))), (.int (1 : Int32))]))) (fun t kt => ?_) ?_
  · show Steps p.tables e below (s₁.setTop (mkF m 0 #[.val (.int pa), .val (.int pb), .val (.long pw), .second, .val (.int pc), .val (.int pd), .val (.long pv), .second, .unset, .unset, .unset, .unset, .unset, .unset, .unset, .unset, .unset, .unset, .unset, .unset, .unset] [])) t
    refine XS.iconst X0.here hx rfl (hb hby at_0) ?_
    show Steps p.tables e below (s₁.setTop (mkF m 1 #[.val (.int pa), .val (.int pb), .val (.long pw), .second, .val (.int pc), .val (.int pd), .val (.long pv), .second, .unset, .unset, .unset, .unset, .unset, .unset, .unset, .unset, .unset, .unset, .unset, .unset, .unset] [(.int (1 : Int32))])) t
    refine XS.iloadN X0.here hx rfl (hb hby at_1) rfl ?_
    show Steps p.tables e below (s₁.setTop (mkF m 2 #[.val (.int pa), .val (.int pb), .val (.long pw), .second, .val (.int pc), .val (.int pd), .val (.long pv), .second, .unset, .unset, .unset, .unset, .unset, .unset, .unset, .unset, .unset, .unset, .unset, .unset, .unset] [(.int pa), (.int (1 : Int32))])) t
    refine Jvm.Stand.ldcI X0 hx hown (mvT hZ (wdOf hw 0 rfl)) rfl (hb hby at_2) ?_
    show Steps p.tables e below (s₁.setTop (mkF m 4 #[.val (.int pa), .val (.int pb), .val (.long pw), .second, .val (.int pc), .val (.int pd), .val (.long pv), .second, .unset, .unset, .unset, .unset, .unset, .unset, .unset, .unset, .unset, .unset, .unset, .unset, .unset] [(.int (2147483647 : Int32)), (.int pa), (.int (1 : Int32))])) t
    refine XS.iand X0.here hx rfl (hb hby at_4) rfl ?_
    exact kt
  obtain ⟨v_1, T_1, L_1, X_1, q_1, st_1⟩ := callStatic X0 hx hZ (y := (⟨"java/lang/Math", "max", "(II)I"⟩ : MethodName)) (W := 0) hown (wdOf hw 1 rfl) (wdOf hw 2 rfl) (wdOf hw 3 rfl) (wdOf hw 4 rfl) (by decide) (rm_max l Z a0 hw [] (1 : Int32) (pa &&& (2147483647 : Int32)) h0 n0 Z0) (by decide) (by decide) (by decide) (by decide) e0 (g := (mkF m 5 #[.val (.int pa), .val (.int pb), .val (.long pw), .second, .val (.int pc), .val (.int pd), .val (.long pv), .second, .unset, .unset, .unset, .unset, .unset, .unset, .unset, .unset, .unset, .unset, .unset, .unset, .unset] [(.int (pa &&& (2147483647 : Int32))), (.int (1 : Int32))])) rfl (by rw [hml]; rfl) (argsL := [(.int (1 : Int32)), (.int (pa &&& (2147483647 : Int32)))]) (rest := []) (lenOf pd_5 rfl) rfl rfl (Nat.le_refl _) (hb hby at_5)
  obtain ⟨z_1, rfl, n_1, K_1, m_1, -, -⟩ := q_1
  have N_1 := Fr.app N0 n_1
  refine Goes.go (U' := (T_1.setTop (mkF m 8 #[.val (.int pa), .val (.int pb), .val (.long pw), .second, .val (.int pc), .val (.int pd), .val (.long pv), .second, .unset, .unset, .unset, .unset, .unset, .unset, .unset, .unset, .unset, .unset, .unset, .unset, .unset] [(.int z_1)]))) st_1 ?_
  refine Goes.go (U' := (T_1.setTop (mkF m 15 #[.val (.int pa), .val (.int pb), .val (.long pw), .second, .val (.int pc), .val (.int pd), .val (.long pv), .second, .val (.int z_1), .unset, .unset, .unset, .unset, .unset, .unset, .unset, .unset, .unset, .unset, .unset, .unset] [(.int (pb &&& (2147483647 : Int32))), (.int (1 : Int32))]))) (fun t kt => ?_) ?_
  · show Steps p.tables e below (T_1.setTop (mkF m 8 #[.val (.int pa), .val (.int pb), .val (.long pw), .second, .val (.int pc), .val (.int pd), .val (.long pv), .second, .unset, .unset, .unset, .unset, .unset, .unset, .unset, .unset, .unset, .unset, .unset, .unset, .unset] [(.int z_1)])) t
    refine XS.istore X_1.here hx rfl (hb hby at_8) rfl (l' := #[.val (.int pa), .val (.int pb), .val (.long pw), .second, .val (.int pc), .val (.int pd), .val (.long pv), .second, .val (.int z_1), .unset, .unset, .unset, .unset, .unset, .unset, .unset, .unset, .unset, .unset, .unset, .unset]) rfl ?_
    show Steps p.tables e below (T_1.setTop (mkF m 10 #[.val (.int pa), .val (.int pb), .val (.long pw), .second, .val (.int pc), .val (.int pd), .val (.long pv), .second, .val (.int z_1), .unset, .unset, .unset, .unset, .unset, .unset, .unset, .unset, .unset, .unset, .unset, .unset] [])) t
    refine XS.iconst X_1.here hx rfl (hb hby at_10) ?_
    show Steps p.tables e below (T_1.setTop (mkF m 11 #[.val (.int pa), .val (.int pb), .val (.long pw), .second, .val (.int pc), .val (.int pd), .val (.long pv), .second, .val (.int z_1), .unset, .unset, .unset, .unset, .unset, .unset, .unset, .unset, .unset, .unset, .unset, .unset] [(.int (1 : Int32))])) t
    refine XS.iloadN X_1.here hx rfl (hb hby at_11) rfl ?_
    show Steps p.tables e below (T_1.setTop (mkF m 12 #[.val (.int pa), .val (.int pb), .val (.long pw), .second, .val (.int pc), .val (.int pd), .val (.long pv), .second, .val (.int z_1), .unset, .unset, .unset, .unset, .unset, .unset, .unset, .unset, .unset, .unset, .unset, .unset] [(.int pb), (.int (1 : Int32))])) t
    refine Jvm.Stand.ldcI X_1 hx hown (mvT hZ (wdOf hw 0 rfl)) rfl (hb hby at_12) ?_
    show Steps p.tables e below (T_1.setTop (mkF m 14 #[.val (.int pa), .val (.int pb), .val (.long pw), .second, .val (.int pc), .val (.int pd), .val (.long pv), .second, .val (.int z_1), .unset, .unset, .unset, .unset, .unset, .unset, .unset, .unset, .unset, .unset, .unset, .unset] [(.int (2147483647 : Int32)), (.int pb), (.int (1 : Int32))])) t
    refine XS.iand X_1.here hx rfl (hb hby at_14) rfl ?_
    exact kt
  obtain ⟨v_2, T_2, L_2, X_2, q_2, st_2⟩ := callStatic X_1 hx hZ (y := (⟨"java/lang/Math", "max", "(II)I"⟩ : MethodName)) (W := 0) hown (wdOf hw 1 rfl) (wdOf hw 2 rfl) (wdOf hw 3 rfl) (wdOf hw 4 rfl) (by decide) (rm_max l Z a0 hw [] (1 : Int32) (pb &&& (2147483647 : Int32)) h0 n0 Z0) (by decide) (by decide) (by decide) (by decide) K_1 (g := (mkF m 15 #[.val (.int pa), .val (.int pb), .val (.long pw), .second, .val (.int pc), .val (.int pd), .val (.long pv), .second, .val (.int z_1), .unset, .unset, .unset, .unset, .unset, .unset, .unset, .unset, .unset, .unset, .unset, .unset] [(.int (pb &&& (2147483647 : Int32))), (.int (1 : Int32))])) rfl (by rw [hml]; rfl) (argsL := [(.int (1 : Int32)), (.int (pb &&& (2147483647 : Int32)))]) (rest := []) (lenOf pd_5 rfl) rfl rfl (Nat.le_refl _) (hb hby at_15)
  obtain ⟨z_2, rfl, n_2, K_2, m_2, -, -⟩ := q_2
  have N_2 := Fr.app N_1 n_2
  refine Goes.go (U' := (T_2.setTop (mkF m 18 #[.val (.int pa), .val (.int pb), .val (.long pw), .second, .val (.int pc), .val (.int pd), .val (.long pv), .second, .val (.int z_1), .unset, .unset, .unset, .unset, .unset, .unset, .unset, .unset, .unset, .unset, .unset, .unset] [(.int z_2)]))) st_2 ?_
  refine Goes.go (U' := (T_2.setTop (mkF m 31 #[.val (.int pa), .val (.int pb), .val (.long pw), .second, .val (.int pc), .val (.int pd), .val (.long pv), .second, .val (.int z_1), .val (.int z_2), .val (.long (pw &&& (9223372036854775807 : Int64))), .second, .unset, .unset, .unset, .unset, .unset, .unset, .unset, .unset, .unset] [(.int (pc &&& (1 : Int32)))]))) (fun t kt => ?_) ?_
  · show Steps p.tables e below (T_2.setTop (mkF m 18 #[.val (.int pa), .val (.int pb), .val (.long pw), .second, .val (.int pc), .val (.int pd), .val (.long pv), .second, .val (.int z_1), .unset, .unset, .unset, .unset, .unset, .unset, .unset, .unset, .unset, .unset, .unset, .unset] [(.int z_2)])) t
    refine XS.istore X_2.here hx rfl (hb hby at_18) rfl (l' := #[.val (.int pa), .val (.int pb), .val (.long pw), .second, .val (.int pc), .val (.int pd), .val (.long pv), .second, .val (.int z_1), .val (.int z_2), .unset, .unset, .unset, .unset, .unset, .unset, .unset, .unset, .unset, .unset, .unset]) rfl ?_
    show Steps p.tables e below (T_2.setTop (mkF m 20 #[.val (.int pa), .val (.int pb), .val (.long pw), .second, .val (.int pc), .val (.int pd), .val (.long pv), .second, .val (.int z_1), .val (.int z_2), .unset, .unset, .unset, .unset, .unset, .unset, .unset, .unset, .unset, .unset, .unset] [])) t
    refine XS.lloadN X_2.here hx rfl (hb hby at_20) rfl ?_
    show Steps p.tables e below (T_2.setTop (mkF m 21 #[.val (.int pa), .val (.int pb), .val (.long pw), .second, .val (.int pc), .val (.int pd), .val (.long pv), .second, .val (.int z_1), .val (.int z_2), .unset, .unset, .unset, .unset, .unset, .unset, .unset, .unset, .unset, .unset, .unset] [(.long pw)])) t
    refine Jvm.Stand.ldc2J X_2 hx hown (mvT hZ (wdOf hw 5 rfl)) rfl (hb hby at_21) ?_
    show Steps p.tables e below (T_2.setTop (mkF m 24 #[.val (.int pa), .val (.int pb), .val (.long pw), .second, .val (.int pc), .val (.int pd), .val (.long pv), .second, .val (.int z_1), .val (.int z_2), .unset, .unset, .unset, .unset, .unset, .unset, .unset, .unset, .unset, .unset, .unset] [(.long (9223372036854775807 : Int64)), (.long pw)])) t
    refine XS.land X_2.here hx rfl (hb hby at_24) rfl ?_
    show Steps p.tables e below (T_2.setTop (mkF m 25 #[.val (.int pa), .val (.int pb), .val (.long pw), .second, .val (.int pc), .val (.int pd), .val (.long pv), .second, .val (.int z_1), .val (.int z_2), .unset, .unset, .unset, .unset, .unset, .unset, .unset, .unset, .unset, .unset, .unset] [(.long (pw &&& (9223372036854775807 : Int64)))])) t
    refine XS.lstore X_2.here hx rfl (hb hby at_25) rfl (l' := #[.val (.int pa), .val (.int pb), .val (.long pw), .second, .val (.int pc), .val (.int pd), .val (.long pv), .second, .val (.int z_1), .val (.int z_2), .val (.long (pw &&& (9223372036854775807 : Int64))), .second, .unset, .unset, .unset, .unset, .unset, .unset, .unset, .unset, .unset]) rfl ?_
    show Steps p.tables e below (T_2.setTop (mkF m 27 #[.val (.int pa), .val (.int pb), .val (.long pw), .second, .val (.int pc), .val (.int pd), .val (.long pv), .second, .val (.int z_1), .val (.int z_2), .val (.long (pw &&& (9223372036854775807 : Int64))), .second, .unset, .unset, .unset, .unset, .unset, .unset, .unset, .unset, .unset] [])) t
    refine XS.iload X_2.here hx rfl (hb hby at_27) rfl ?_
    show Steps p.tables e below (T_2.setTop (mkF m 29 #[.val (.int pa), .val (.int pb), .val (.long pw), .second, .val (.int pc), .val (.int pd), .val (.long pv), .second, .val (.int z_1), .val (.int z_2), .val (.long (pw &&& (9223372036854775807 : Int64))), .second, .unset, .unset, .unset, .unset, .unset, .unset, .unset, .unset, .unset] [(.int pc)])) t
    refine XS.iconst X_2.here hx rfl (hb hby at_29) ?_
    show Steps p.tables e below (T_2.setTop (mkF m 30 #[.val (.int pa), .val (.int pb), .val (.long pw), .second, .val (.int pc), .val (.int pd), .val (.long pv), .second, .val (.int z_1), .val (.int z_2), .val (.long (pw &&& (9223372036854775807 : Int64))), .second, .unset, .unset, .unset, .unset, .unset, .unset, .unset, .unset, .unset] [(.int (1 : Int32)), (.int pc)])) t
    refine XS.iand X_2.here hx rfl (hb hby at_30) rfl ?_
    exact kt
  by_cases c_3 : (pc &&& (1 : Int32)) = 0
  · -- (pc &&& (1 : Int32)) = 0
    refine Goes.go (U' := (T_2.setTop (mkF m 44 #[.val (.int pa), .val (.int pb), .val (.long pw), .second, .val (.int pc), .val (.int pd), .val (.long pv), .second, .val (.int z_1), .val (.int z_2), .val (.long (pw &&& (9223372036854775807 : Int64))), .second, .unset, .unset, .unset, .unset, .unset, .unset, .unset, .unset, .unset] [(.int ((pc.toUInt32 >>> ((1 : Int32) &&& 31).toUInt32).toInt32)), (.int (1 : Int32))]))) (fun t kt => ?_) ?_
    · show Steps p.tables e below (T_2.setTop (mkF m 31 #[.val (.int pa), .val (.int pb), .val (.long pw), .second, .val (.int pc), .val (.int pd), .val (.long pv), .second, .val (.int z_1), .val (.int z_2), .val (.long (pw &&& (9223372036854775807 : Int64))), .second, .unset, .unset, .unset, .unset, .unset, .unset, .unset, .unset, .unset] [(.int (pc &&& (1 : Int32)))])) t
      refine XS.ifYes X_2.here hx rfl (pc0 := 31) (pc' := 39) rfl (hb hby at_31) rfl (XT.i0_eq_t c_3) (by decide) (by decide) ?_
      show Steps p.tables e below (T_2.setTop (mkF m 39 #[.val (.int pa), .val (.int pb), .val (.long pw), .second, .val (.int pc), .val (.int pd), .val (.long pv), .second, .val (.int z_1), .val (.int z_2), .val (.long (pw &&& (9223372036854775807 : Int64))), .second, .unset, .unset, .unset, .unset, .unset, .unset, .unset, .unset, .unset] [])) t
      refine XS.iconst X_2.here hx rfl (hb hby at_39) ?_
      show Steps p.tables e below (T_2.setTop (mkF m 40 #[.val (.int pa), .val (.int pb), .val (.long pw), .second, .val (.int pc), .val (.int pd), .val (.long pv), .second, .val (.int z_1), .val (.int z_2), .val (.long (pw &&& (9223372036854775807 : Int64))), .second, .unset, .unset, .unset, .unset, .unset, .unset, .unset, .unset, .unset] [(.int (1 : Int32))])) t
      refine XS.iload X_2.here hx rfl (hb hby at_40) rfl ?_
      show Steps p.tables e below (T_2.setTop (mkF m 42 #[.val (.int pa), .val (.int pb), .val (.long pw), .second, .val (.int pc), .val (.int pd), .val (.long pv), .second, .val (.int z_1), .val (.int z_2), .val (.long (pw &&& (9223372036854775807 : Int64))), .second, .unset, .unset, .unset, .unset, .unset, .unset, .unset, .unset, .unset] [(.int pc), (.int (1 : Int32))])) t
      refine XS.iconst X_2.here hx rfl (hb hby at_42) ?_
      show Steps p.tables e below (T_2.setTop (mkF m 43 #[.val (.int pa), .val (.int pb), .val (.long pw), .second, .val (.int pc), .val (.int pd), .val (.long pv), .second, .val (.int z_1), .val (.int z_2), .val (.long (pw &&& (9223372036854775807 : Int64))), .second, .unset, .unset, .unset, .unset, .unset, .unset, .unset, .unset, .unset] [(.int (1 : Int32)), (.int pc), (.int (1 : Int32))])) t
      refine XS.iushr X_2.here hx rfl (hb hby at_43) rfl ?_
      exact kt
    obtain ⟨v_4, T_4, L_4, X_4, q_4, st_4⟩ := callStatic X_2 hx hZ (y := (⟨"java/lang/Math", "max", "(II)I"⟩ : MethodName)) (W := 0) hown (wdOf hw 1 rfl) (wdOf hw 2 rfl) (wdOf hw 3 rfl) (wdOf hw 4 rfl) (by decide) (rm_max l Z a0 hw [] (1 : Int32) ((pc.toUInt32 >>> ((1 : Int32) &&& 31).toUInt32).toInt32) h0 n0 Z0) (by decide) (by decide) (by decide) (by decide) K_2 (g := (mkF m 44 #[.val (.int pa), .val (.int pb), .val (.long pw), .second, .val (.int pc), .val (.int pd), .val (.long pv), .second, .val (.int z_1), .val (.int z_2), .val (.long (pw &&& (9223372036854775807 : Int64))), .second, .unset, .unset, .unset, .unset, .unset, .unset, .unset, .unset, .unset] [(.int ((pc.toUInt32 >>> ((1 : Int32) &&& 31).toUInt32).toInt32)), (.int (1 : Int32))])) rfl (by rw [hml]; rfl) (argsL := [(.int (1 : Int32)), (.int ((pc.toUInt32 >>> ((1 : Int32) &&& 31).toUInt32).toInt32))]) (rest := []) (lenOf pd_5 rfl) rfl rfl (Nat.le_refl _) (hb hby at_44)
    obtain ⟨z_4, rfl, n_4, K_4, m_4, -, -⟩ := q_4
    have N_4 := Fr.app N_2 n_4
    refine Goes.go (U' := (T_4.setTop (mkF m 47 #[.val (.int pa), .val (.int pb), .val (.long pw), .second, .val (.int pc), .val (.int pd), .val (.long pv), .second, .val (.int z_1), .val (.int z_2), .val (.long (pw &&& (9223372036854775807 : Int64))), .second, .unset, .unset, .unset, .unset, .unset, .unset, .unset, .unset, .unset] [(.int z_4)]))) st_4 ?_
    refine Goes.go (U' := (T_4.setTop (mkF m 53 #[.val (.int pa), .val (.int pb), .val (.long pw), .second, .val (.int pc), .val (.int pd), .val (.long pv), .second, .val (.int z_1), .val (.int z_2), .val (.long (pw &&& (9223372036854775807 : Int64))), .second, .val (.int z_4), .unset, .unset, .unset, .unset, .unset, .unset, .unset, .unset] [(.int (pd &&& (1 : Int32)))]))) (fun t kt => ?_) ?_
    · show Steps p.tables e below (T_4.setTop (mkF m 47 #[.val (.int pa), .val (.int pb), .val (.long pw), .second, .val (.int pc), .val (.int pd), .val (.long pv), .second, .val (.int z_1), .val (.int z_2), .val (.long (pw &&& (9223372036854775807 : Int64))), .second, .unset, .unset, .unset, .unset, .unset, .unset, .unset, .unset, .unset] [(.int z_4)])) t
      refine XS.istore X_4.here hx rfl (hb hby at_47) rfl (l' := #[.val (.int pa), .val (.int pb), .val (.long pw), .second, .val (.int pc), .val (.int pd), .val (.long pv), .second, .val (.int z_1), .val (.int z_2), .val (.long (pw &&& (9223372036854775807 : Int64))), .second, .val (.int z_4), .unset, .unset, .unset, .unset, .unset, .unset, .unset, .unset]) rfl ?_
      show Steps p.tables e below (T_4.setTop (mkF m 49 #[.val (.int pa), .val (.int pb), .val (.long pw), .second, .val (.int pc), .val (.int pd), .val (.long pv), .second, .val (.int z_1), .val (.int z_2), .val (.long (pw &&& (9223372036854775807 : Int64))), .second, .val (.int z_4), .unset, .unset, .unset, .unset, .unset, .unset, .unset, .unset] [])) t
      refine XS.iload X_4.here hx rfl (hb hby at_49) rfl ?_
      show Steps p.tables e below (T_4.setTop (mkF m 51 #[.val (.int pa), .val (.int pb), .val (.long pw), .second, .val (.int pc), .val (.int pd), .val (.long pv), .second, .val (.int z_1), .val (.int z_2), .val (.long (pw &&& (9223372036854775807 : Int64))), .second, .val (.int z_4), .unset, .unset, .unset, .unset, .unset, .unset, .unset, .unset] [(.int pd)])) t
      refine XS.iconst X_4.here hx rfl (hb hby at_51) ?_
      show Steps p.tables e below (T_4.setTop (mkF m 52 #[.val (.int pa), .val (.int pb), .val (.long pw), .second, .val (.int pc), .val (.int pd), .val (.long pv), .second, .val (.int z_1), .val (.int z_2), .val (.long (pw &&& (9223372036854775807 : Int64))), .second, .val (.int z_4), .unset, .unset, .unset, .unset, .unset, .unset, .unset, .unset] [(.int (1 : Int32)), (.int pd)])) t
      refine XS.iand X_4.here hx rfl (hb hby at_52) rfl ?_
      exact kt
    by_cases c_5 : (pd &&& (1 : Int32)) = 0
    · -- (pd &&& (1 : Int32)) = 0
      refine Goes.go (U' := (T_4.setTop (mkF m 66 #[.val (.int pa), .val (.int pb), .val (.long pw), .second, .val (.int pc), .val (.int pd), .val (.long pv), .second, .val (.int z_1), .val (.int z_2), .val (.long (pw &&& (9223372036854775807 : Int64))), .second, .val (.int z_4), .unset, .unset, .unset, .unset, .unset, .unset, .unset, .unset] [(.int ((pd.toUInt32 >>> ((1 : Int32) &&& 31).toUInt32).toInt32)), (.int (1 : Int32))]))) (fun t kt => ?_) ?_
      · show Steps p.tables e below (T_4.setTop (mkF m 53 #[.val (.int pa), .val (.int pb), .val (.long pw), .second, .val (.int pc), .val (.int pd), .val (.long pv), .second, .val (.int z_1), .val (.int z_2), .val (.long (pw &&& (9223372036854775807 : Int64))), .second, .val (.int z_4), .unset, .unset, .unset, .unset, .unset, .unset, .unset, .unset] [(.int (pd &&& (1 : Int32)))])) t
        refine XS.ifYes X_4.here hx rfl (pc0 := 53) (pc' := 61) rfl (hb hby at_53) rfl (XT.i0_eq_t c_5) (by decide) (by decide) ?_
        show Steps p.tables e below (T_4.setTop (mkF m 61 #[.val (.int pa), .val (.int pb), .val (.long pw), .second, .val (.int pc), .val (.int pd), .val (.long pv), .second, .val (.int z_1), .val (.int z_2), .val (.long (pw &&& (9223372036854775807 : Int64))), .second, .val (.int z_4), .unset, .unset, .unset, .unset, .unset, .unset, .unset, .unset] [])) t
        refine XS.iconst X_4.here hx rfl (hb hby at_61) ?_
        show Steps p.tables e below (T_4.setTop (mkF m 62 #[.val (.int pa), .val (.int pb), .val (.long pw), .second, .val (.int pc), .val (.int pd), .val (.long pv), .second, .val (.int z_1), .val (.int z_2), .val (.long (pw &&& (9223372036854775807 : Int64))), .second, .val (.int z_4), .unset, .unset, .unset, .unset, .unset, .unset, .unset, .unset] [(.int (1 : Int32))])) t
        refine XS.iload X_4.here hx rfl (hb hby at_62) rfl ?_
        show Steps p.tables e below (T_4.setTop (mkF m 64 #[.val (.int pa), .val (.int pb), .val (.long pw), .second, .val (.int pc), .val (.int pd), .val (.long pv), .second, .val (.int z_1), .val (.int z_2), .val (.long (pw &&& (9223372036854775807 : Int64))), .second, .val (.int z_4), .unset, .unset, .unset, .unset, .unset, .unset, .unset, .unset] [(.int pd), (.int (1 : Int32))])) t
        refine XS.iconst X_4.here hx rfl (hb hby at_64) ?_
        show Steps p.tables e below (T_4.setTop (mkF m 65 #[.val (.int pa), .val (.int pb), .val (.long pw), .second, .val (.int pc), .val (.int pd), .val (.long pv), .second, .val (.int z_1), .val (.int z_2), .val (.long (pw &&& (9223372036854775807 : Int64))), .second, .val (.int z_4), .unset, .unset, .unset, .unset, .unset, .unset, .unset, .unset] [(.int (1 : Int32)), (.int pd), (.int (1 : Int32))])) t
        refine XS.iushr X_4.here hx rfl (hb hby at_65) rfl ?_
        exact kt
      obtain ⟨v_6, T_6, L_6, X_6, q_6, st_6⟩ := callStatic X_4 hx hZ (y := (⟨"java/lang/Math", "max", "(II)I"⟩ : MethodName)) (W := 0) hown (wdOf hw 1 rfl) (wdOf hw 2 rfl) (wdOf hw 3 rfl) (wdOf hw 4 rfl) (by decide) (rm_max l Z a0 hw [] (1 : Int32) ((pd.toUInt32 >>> ((1 : Int32) &&& 31).toUInt32).toInt32) h0 n0 Z0) (by decide) (by decide) (by decide) (by decide) K_4 (g := (mkF m 66 #[.val (.int pa), .val (.int pb), .val (.long pw), .second, .val (.int pc), .val (.int pd), .val (.long pv), .second, .val (.int z_1), .val (.int z_2), .val (.long (pw &&& (9223372036854775807 : Int64))), .second, .val (.int z_4), .unset, .unset, .unset, .unset, .unset, .unset, .unset, .unset] [(.int ((pd.toUInt32 >>> ((1 : Int32) &&& 31).toUInt32).toInt32)), (.int (1 : Int32))])) rfl (by rw [hml]; rfl) (argsL := [(.int (1 : Int32)), (.int ((pd.toUInt32 >>> ((1 : Int32) &&& 31).toUInt32).toInt32))]) (rest := []) (lenOf pd_5 rfl) rfl rfl (Nat.le_refl _) (hb hby at_66)
      obtain ⟨z_6, rfl, n_6, K_6, m_6, -, -⟩ := q_6
      have N_6 := Fr.app N_4 n_6
      refine Goes.go (U' := (T_6.setTop (mkF m 69 #[.val (.int pa), .val (.int pb), .val (.long pw), .second, .val (.int pc), .val (.int pd), .val (.long pv), .second, .val (.int z_1), .val (.int z_2), .val (.long (pw &&& (9223372036854775807 : Int64))), .second, .val (.int z_4), .unset, .unset, .unset, .unset, .unset, .unset, .unset, .unset] [(.int z_6)]))) st_6 ?_
      refine Goes.go (U' := (T_6.setTop (mkF m 77 #[.val (.int pa), .val (.int pb), .val (.long pw), .second, .val (.int pc), .val (.int pd), .val (.long pv), .second, .val (.int z_1), .val (.int z_2), .val (.long (pw &&& (9223372036854775807 : Int64))), .second, .val (.int z_4), .val (.int z_6), .unset, .unset, .unset, .unset, .unset, .unset, .unset] [(.int (XT.cmpL (pv &&& (1 : Int64)) (0 : Int64)))]))) (fun t kt => ?_) ?_
      · show Steps p.tables e below (T_6.setTop (mkF m 69 #[.val (.int pa), .val (.int pb), .val (.long pw), .second, .val (.int pc), .val (.int pd), .val (.long pv), .second, .val (.int z_1), .val (.int z_2), .val (.long (pw &&& (9223372036854775807 : Int64))), .second, .val (.int z_4), .unset, .unset, .unset, .unset, .unset, .unset, .unset, .unset] [(.int z_6)])) t
        refine XS.istore X_6.here hx rfl (hb hby at_69) rfl (l' := #[.val (.int pa), .val (.int pb), .val (.long pw), .second, .val (.int pc), .val (.int pd), .val (.long pv), .second, .val (.int z_1), .val (.int z_2), .val (.long (pw &&& (9223372036854775807 : Int64))), .second, .val (.int z_4), .val (.int z_6), .unset, .unset, .unset, .unset, .unset, .unset, .unset]) rfl ?_
        show Steps p.tables e below (T_6.setTop (mkF m 71 #[.val (.int pa), .val (.int pb), .val (.long pw), .second, .val (.int pc), .val (.int pd), .val (.long pv), .second, .val (.int z_1), .val (.int z_2), .val (.long (pw &&& (9223372036854775807 : Int64))), .second, .val (.int z_4), .val (.int z_6), .unset, .unset, .unset, .unset, .unset, .unset, .unset] [])) t
        refine XS.lload X_6.here hx rfl (hb hby at_71) rfl ?_
        show Steps p.tables e below (T_6.setTop (mkF m 73 #[.val (.int pa), .val (.int pb), .val (.long pw), .second, .val (.int pc), .val (.int pd), .val (.long pv), .second, .val (.int z_1), .val (.int z_2), .val (.long (pw &&& (9223372036854775807 : Int64))), .second, .val (.int z_4), .val (.int z_6), .unset, .unset, .unset, .unset, .unset, .unset, .unset] [(.long pv)])) t
        refine XS.lconst X_6.here hx rfl (hb hby at_73) ?_
        show Steps p.tables e below (T_6.setTop (mkF m 74 #[.val (.int pa), .val (.int pb), .val (.long pw), .second, .val (.int pc), .val (.int pd), .val (.long pv), .second, .val (.int z_1), .val (.int z_2), .val (.long (pw &&& (9223372036854775807 : Int64))), .second, .val (.int z_4), .val (.int z_6), .unset, .unset, .unset, .unset, .unset, .unset, .unset] [(.long (1 : Int64)), (.long pv)])) t
        refine XS.land X_6.here hx rfl (hb hby at_74) rfl ?_
        show Steps p.tables e below (T_6.setTop (mkF m 75 #[.val (.int pa), .val (.int pb), .val (.long pw), .second, .val (.int pc), .val (.int pd), .val (.long pv), .second, .val (.int z_1), .val (.int z_2), .val (.long (pw &&& (9223372036854775807 : Int64))), .second, .val (.int z_4), .val (.int z_6), .unset, .unset, .unset, .unset, .unset, .unset, .unset] [(.long (pv &&& (1 : Int64)))])) t
        refine XS.lconst X_6.here hx rfl (hb hby at_75) ?_
        show Steps p.tables e below (T_6.setTop (mkF m 76 #[.val (.int pa), .val (.int pb), .val (.long pw), .second, .val (.int pc), .val (.int pd), .val (.long pv), .second, .val (.int z_1), .val (.int z_2), .val (.long (pw &&& (9223372036854775807 : Int64))), .second, .val (.int z_4), .val (.int z_6), .unset, .unset, .unset, .unset, .unset, .unset, .unset] [(.long (0 : Int64)), (.long (pv &&& (1 : Int64)))])) t
        refine XT.lcmp X_6.here hx rfl (hb hby at_76) rfl ?_
        exact kt
      by_cases c_7 : (pv &&& (1 : Int64)) = (0 : Int64)
      · -- (pv &&& (1 : Int64)) = (0 : Int64)
        refine Goes.go (U' := (T_6.setTop (mkF m 91 #[.val (.int pa), .val (.int pb), .val (.long pw), .second, .val (.int pc), .val (.int pd), .val (.long pv), .second, .val (.int z_1), .val (.int z_2), .val (.long (pw &&& (9223372036854775807 : Int64))), .second, .val (.int z_4), .val (.int z_6), .val (.long ((pv.toUInt64 >>> ((1 : Int32) &&& 0x3f).toInt64.toUInt64).toInt64)), .second, .unset, .unset, .unset, .unset, .unset] []))) (fun t kt => ?_) ?_
        · show Steps p.tables e below (T_6.setTop (mkF m 77 #[.val (.int pa), .val (.int pb), .val (.long pw), .second, .val (.int pc), .val (.int pd), .val (.long pv), .second, .val (.int z_1), .val (.int z_2), .val (.long (pw &&& (9223372036854775807 : Int64))), .second, .val (.int z_4), .val (.int z_6), .unset, .unset, .unset, .unset, .unset, .unset, .unset] [(.int (XT.cmpL (pv &&& (1 : Int64)) (0 : Int64)))])) t
          refine XS.ifYes X_6.here hx rfl (pc0 := 77) (pc' := 85) rfl (hb hby at_77) rfl (XT.ll_eq_t c_7) (by decide) (by decide) ?_
          show Steps p.tables e below (T_6.setTop (mkF m 85 #[.val (.int pa), .val (.int pb), .val (.long pw), .second, .val (.int pc), .val (.int pd), .val (.long pv), .second, .val (.int z_1), .val (.int z_2), .val (.long (pw &&& (9223372036854775807 : Int64))), .second, .val (.int z_4), .val (.int z_6), .unset, .unset, .unset, .unset, .unset, .unset, .unset] [])) t
          refine XS.lload X_6.here hx rfl (hb hby at_85) rfl ?_
          show Steps p.tables e below (T_6.setTop (mkF m 87 #[.val (.int pa), .val (.int pb), .val (.long pw), .second, .val (.int pc), .val (.int pd), .val (.long pv), .second, .val (.int z_1), .val (.int z_2), .val (.long (pw &&& (9223372036854775807 : Int64))), .second, .val (.int z_4), .val (.int z_6), .unset, .unset, .unset, .unset, .unset, .unset, .unset] [(.long pv)])) t
          refine XS.iconst X_6.here hx rfl (hb hby at_87) ?_
          show Steps p.tables e below (T_6.setTop (mkF m 88 #[.val (.int pa), .val (.int pb), .val (.long pw), .second, .val (.int pc), .val (.int pd), .val (.long pv), .second, .val (.int z_1), .val (.int z_2), .val (.long (pw &&& (9223372036854775807 : Int64))), .second, .val (.int z_4), .val (.int z_6), .unset, .unset, .unset, .unset, .unset, .unset, .unset] [(.int (1 : Int32)), (.long pv)])) t
          refine XS.lushr X_6.here hx rfl (hb hby at_88) rfl ?_
          show Steps p.tables e below (T_6.setTop (mkF m 89 #[.val (.int pa), .val (.int pb), .val (.long pw), .second, .val (.int pc), .val (.int pd), .val (.long pv), .second, .val (.int z_1), .val (.int z_2), .val (.long (pw &&& (9223372036854775807 : Int64))), .second, .val (.int z_4), .val (.int z_6), .unset, .unset, .unset, .unset, .unset, .unset, .unset] [(.long ((pv.toUInt64 >>> ((1 : Int32) &&& 0x3f).toInt64.toUInt64).toInt64))])) t
          refine XS.lstore X_6.here hx rfl (hb hby at_89) rfl (l' := #[.val (.int pa), .val (.int pb), .val (.long pw), .second, .val (.int pc), .val (.int pd), .val (.long pv), .second, .val (.int z_1), .val (.int z_2), .val (.long (pw &&& (9223372036854775807 : Int64))), .second, .val (.int z_4), .val (.int z_6), .val (.long ((pv.toUInt64 >>> ((1 : Int32) &&& 0x3f).toInt64.toUInt64).toInt64)), .second, .unset, .unset, .unset, .unset, .unset]) rfl ?_
          exact kt
        exact law_91 l Z a0 hw pa pb pw pc pd pv z_1 z_2 (pw &&& (9223372036854775807 : Int64)) z_4 z_6 ((pv.toUInt64 >>> ((1 : Int32) &&& 0x3f).toInt64.toUInt64).toInt64) h0 n0 Z0 p e s m below meth c hx hby hml hown hnm hret hlk hZ _ _ _ X_6 K_6 N_6 K0 O BC SH m_1 m_2 (own_land pw) m_4 m_6 (own_lsh pv)
      · -- not (pv &&& (1 : Int64)) = (0 : Int64)
        refine Goes.go (U' := (T_6.setTop (mkF m 91 #[.val (.int pa), .val (.int pb), .val (.long pw), .second, .val (.int pc), .val (.int pd), .val (.long pv), .second, .val (.int z_1), .val (.int z_2), .val (.long (pw &&& (9223372036854775807 : Int64))), .second, .val (.int z_4), .val (.int z_6), .val (.long (pw &&& (9223372036854775807 : Int64))), .second, .unset, .unset, .unset, .unset, .unset] []))) (fun t kt => ?_) ?_
        · show Steps p.tables e below (T_6.setTop (mkF m 77 #[.val (.int pa), .val (.int pb), .val (.long pw), .second, .val (.int pc), .val (.int pd), .val (.long pv), .second, .val (.int z_1), .val (.int z_2), .val (.long (pw &&& (9223372036854775807 : Int64))), .second, .val (.int z_4), .val (.int z_6), .unset, .unset, .unset, .unset, .unset, .unset, .unset] [(.int (XT.cmpL (pv &&& (1 : Int64)) (0 : Int64)))])) t
          refine XS.ifNo X_6.here hx rfl (hb hby at_77) rfl (XT.ll_eq_f c_7) ?_
          show Steps p.tables e below (T_6.setTop (mkF m 80 #[.val (.int pa), .val (.int pb), .val (.long pw), .second, .val (.int pc), .val (.int pd), .val (.long pv), .second, .val (.int z_1), .val (.int z_2), .val (.long (pw &&& (9223372036854775807 : Int64))), .second, .val (.int z_4), .val (.int z_6), .unset, .unset, .unset, .unset, .unset, .unset, .unset] [])) t
          refine XS.lload X_6.here hx rfl (hb hby at_80) rfl ?_
          show Steps p.tables e below (T_6.setTop (mkF m 82 #[.val (.int pa), .val (.int pb), .val (.long pw), .second, .val (.int pc), .val (.int pd), .val (.long pv), .second, .val (.int z_1), .val (.int z_2), .val (.long (pw &&& (9223372036854775807 : Int64))), .second, .val (.int z_4), .val (.int z_6), .unset, .unset, .unset, .unset, .unset, .unset, .unset] [(.long (pw &&& (9223372036854775807 : Int64)))])) t
          refine XS.goto X_6.here hx rfl (pc0 := 82) (pc' := 89) rfl (hb hby at_82) (by decide) (by decide) ?_
          show Steps p.tables e below (T_6.setTop (mkF m 89 #[.val (.int pa), .val (.int pb), .val (.long pw), .second, .val (.int pc), .val (.int pd), .val (.long pv), .second, .val (.int z_1), .val (.int z_2), .val (.long (pw &&& (9223372036854775807 : Int64))), .second, .val (.int z_4), .val (.int z_6), .unset, .unset, .unset, .unset, .unset, .unset, .unset] [(.long (pw &&& (9223372036854775807 : Int64)))])) t
          refine XS.lstore X_6.here hx rfl (hb hby at_89) rfl (l' := #[.val (.int pa), .val (.int pb), .val (.long pw), .second, .val (.int pc), .val (.int pd), .val (.long pv), .second, .val (.int z_1), .val (.int z_2), .val (.long (pw &&& (9223372036854775807 : Int64))), .second, .val (.int z_4), .val (.int z_6), .val (.long (pw &&& (9223372036854775807 : Int64))), .second, .unset, .unset, .unset, .unset, .unset]) rfl ?_
          exact kt
        exact law_91 l Z a0 hw pa pb pw pc pd pv z_1 z_2 (pw &&& (9223372036854775807 : Int64)) z_4 z_6 (pw &&& (9223372036854775807 : Int64)) h0 n0 Z0 p e s m below meth c hx hby hml hown hnm hret hlk hZ _ _ _ X_6 K_6 N_6 K0 O BC SH m_1 m_2 (own_land pw) m_4 m_6 (own_land pw)
    · -- not (pd &&& (1 : Int32)) = 0
      refine Goes.go (U' := (T_4.setTop (mkF m 77 #[.val (.int pa), .val (.int pb), .val (.long pw), .second, .val (.int pc), .val (.int pd), .val (.long pv), .second, .val (.int z_1), .val (.int z_2), .val (.long (pw &&& (9223372036854775807 : Int64))), .second, .val (.int z_4), .val (.int z_2), .unset, .unset, .unset, .unset, .unset, .unset, .unset] [(.int (XT.cmpL (pv &&& (1 : Int64)) (0 : Int64)))]))) (fun t kt => ?_) ?_
      · show Steps p.tables e below (T_4.setTop (mkF m 53 #[.val (.int pa), .val (.int pb), .val (.long pw), .second, .val (.int pc), .val (.int pd), .val (.long pv), .second, .val (.int z_1), .val (.int z_2), .val (.long (pw &&& (9223372036854775807 : Int64))), .second, .val (.int z_4), .unset, .unset, .unset, .unset, .unset, .unset, .unset, .unset] [(.int (pd &&& (1 : Int32)))])) t
        refine XS.ifNo X_4.here hx rfl (hb hby at_53) rfl (XT.i0_eq_f c_5) ?_
        show Steps p.tables e below (T_4.setTop (mkF m 56 #[.val (.int pa), .val (.int pb), .val (.long pw), .second, .val (.int pc), .val (.int pd), .val (.long pv), .second, .val (.int z_1), .val (.int z_2), .val (.long (pw &&& (9223372036854775807 : Int64))), .second, .val (.int z_4), .unset, .unset, .unset, .unset, .unset, .unset, .unset, .unset] [])) t
        refine XS.iload X_4.here hx rfl (hb hby at_56) rfl ?_
        show Steps p.tables e below (T_4.setTop (mkF m 58 #[.val (.int pa), .val (.int pb), .val (.long pw), .second, .val (.int pc), .val (.int pd), .val (.long pv), .second, .val (.int z_1), .val (.int z_2), .val (.long (pw &&& (9223372036854775807 : Int64))), .second, .val (.int z_4), .unset, .unset, .unset, .unset, .unset, .unset, .unset, .unset] [(.int z_2)])) t
        refine XS.goto X_4.here hx rfl (pc0 := 58) (pc' := 69) rfl (hb hby at_58) (by decide) (by decide) ?_
        show Steps p.tables e below (T_4.setTop (mkF m 69 #[.val (.int pa), .val (.int pb), .val (.long pw), .second, .val (.int pc), .val (.int pd), .val (.long pv), .second, .val (.int z_1), .val (.int z_2), .val (.long (pw &&& (9223372036854775807 : Int64))), .second, .val (.int z_4), .unset, .unset, .unset, .unset, .unset, .unset, .unset, .unset] [(.int z_2)])) t
        refine XS.istore X_4.here hx rfl (hb hby at_69) rfl (l' := #[.val (.int pa), .val (.int pb), .val (.long pw), .second, .val (.int pc), .val (.int pd), .val (.long pv), .second, .val (.int z_1), .val (.int z_2), .val (.long (pw &&& (9223372036854775807 : Int64))), .second, .val (.int z_4), .val (.int z_2), .unset, .unset, .unset, .unset, .unset, .unset, .unset]) rfl ?_
        show Steps p.tables e below (T_4.setTop (mkF m 71 #[.val (.int pa), .val (.int pb), .val (.long pw), .second, .val (.int pc), .val (.int pd), .val (.long pv), .second, .val (.int z_1), .val (.int z_2), .val (.long (pw &&& (9223372036854775807 : Int64))), .second, .val (.int z_4), .val (.int z_2), .unset, .unset, .unset, .unset, .unset, .unset, .unset] [])) t
        refine XS.lload X_4.here hx rfl (hb hby at_71) rfl ?_
        show Steps p.tables e below (T_4.setTop (mkF m 73 #[.val (.int pa), .val (.int pb), .val (.long pw), .second, .val (.int pc), .val (.int pd), .val (.long pv), .second, .val (.int z_1), .val (.int z_2), .val (.long (pw &&& (9223372036854775807 : Int64))), .second, .val (.int z_4), .val (.int z_2), .unset, .unset, .unset, .unset, .unset, .unset, .unset] [(.long pv)])) t
        refine XS.lconst X_4.here hx rfl (hb hby at_73) ?_
        show Steps p.tables e below (T_4.setTop (mkF m 74 #[.val (.int pa), .val (.int pb), .val (.long pw), .second, .val (.int pc), .val (.int pd), .val (.long pv), .second, .val (.int z_1), .val (.int z_2), .val (.long (pw &&& (9223372036854775807 : Int64))), .second, .val (.int z_4), .val (.int z_2), .unset, .unset, .unset, .unset, .unset, .unset, .unset] [(.long (1 : Int64)), (.long pv)])) t
        refine XS.land X_4.here hx rfl (hb hby at_74) rfl ?_
        show Steps p.tables e below (T_4.setTop (mkF m 75 #[.val (.int pa), .val (.int pb), .val (.long pw), .second, .val (.int pc), .val (.int pd), .val (.long pv), .second, .val (.int z_1), .val (.int z_2), .val (.long (pw &&& (9223372036854775807 : Int64))), .second, .val (.int z_4), .val (.int z_2), .unset, .unset, .unset, .unset, .unset, .unset, .unset] [(.long (pv &&& (1 : Int64)))])) t
        refine XS.lconst X_4.here hx rfl (hb hby at_75) ?_
        show Steps p.tables e below (T_4.setTop (mkF m 76 #[.val (.int pa), .val (.int pb), .val (.long pw), .second, .val (.int pc), .val (.int pd), .val (.long pv), .second, .val (.int z_1), .val (.int z_2), .val (.long (pw &&& (9223372036854775807 : Int64))), .second, .val (.int z_4), .val (.int z_2), .unset, .unset, .unset, .unset, .unset, .unset, .unset] [(.long (0 : Int64)), (.long (pv &&& (1 : Int64)))])) t
        refine XT.lcmp X_4.here hx rfl (hb hby at_76) rfl ?_
        exact kt
      by_cases c_8 : (pv &&& (1 : Int64)) = (0 : Int64)
      · -- (pv &&& (1 : Int64)) = (0 : Int64)
        refine Goes.go (U' := (T_4.setTop (mkF m 91 #[.val (.int pa), .val (.int pb), .val (.long pw), .second, .val (.int pc), .val (.int pd), .val (.long pv), .second, .val (.int z_1), .val (.int z_2), .val (.long (pw &&& (9223372036854775807 : Int64))), .second, .val (.int z_4), .val (.int z_2), .val (.long ((pv.toUInt64 >>> ((1 : Int32) &&& 0x3f).toInt64.toUInt64).toInt64)), .second, .unset, .unset, .unset, .unset, .unset] []))) (fun t kt => ?_) ?_
        · show Steps p.tables e below (T_4.setTop (mkF m 77 #[.val (.int pa), .val (.int pb), .val (.long pw), .second, .val (.int pc), .val (.int pd), .val (.long pv), .second, .val (.int z_1), .val (.int z_2), .val (.long (pw &&& (9223372036854775807 : Int64))), .second, .val (.int z_4), .val (.int z_2), .unset, .unset, .unset, .unset, .unset, .unset, .unset] [(.int (XT.cmpL (pv &&& (1 : Int64)) (0 : Int64)))])) t
          refine XS.ifYes X_4.here hx rfl (pc0 := 77) (pc' := 85) rfl (hb hby at_77) rfl (XT.ll_eq_t c_8) (by decide) (by decide) ?_
          show Steps p.tables e below (T_4.setTop (mkF m 85 #[.val (.int pa), .val (.int pb), .val (.long pw), .second, .val (.int pc), .val (.int pd), .val (.long pv), .second, .val (.int z_1), .val (.int z_2), .val (.long (pw &&& (9223372036854775807 : Int64))), .second, .val (.int z_4), .val (.int z_2), .unset, .unset, .unset, .unset, .unset, .unset, .unset] [])) t
          refine XS.lload X_4.here hx rfl (hb hby at_85) rfl ?_
          show Steps p.tables e below (T_4.setTop (mkF m 87 #[.val (.int pa), .val (.int pb), .val (.long pw), .second, .val (.int pc), .val (.int pd), .val (.long pv), .second, .val (.int z_1), .val (.int z_2), .val (.long (pw &&& (9223372036854775807 : Int64))), .second, .val (.int z_4), .val (.int z_2), .unset, .unset, .unset, .unset, .unset, .unset, .unset] [(.long pv)])) t
          refine XS.iconst X_4.here hx rfl (hb hby at_87) ?_
          show Steps p.tables e below (T_4.setTop (mkF m 88 #[.val (.int pa), .val (.int pb), .val (.long pw), .second, .val (.int pc), .val (.int pd), .val (.long pv), .second, .val (.int z_1), .val (.int z_2), .val (.long (pw &&& (9223372036854775807 : Int64))), .second, .val (.int z_4), .val (.int z_2), .unset, .unset, .unset, .unset, .unset, .unset, .unset] [(.int (1 : Int32)), (.long pv)])) t
          refine XS.lushr X_4.here hx rfl (hb hby at_88) rfl ?_
          show Steps p.tables e below (T_4.setTop (mkF m 89 #[.val (.int pa), .val (.int pb), .val (.long pw), .second, .val (.int pc), .val (.int pd), .val (.long pv), .second, .val (.int z_1), .val (.int z_2), .val (.long (pw &&& (9223372036854775807 : Int64))), .second, .val (.int z_4), .val (.int z_2), .unset, .unset, .unset, .unset, .unset, .unset, .unset] [(.long ((pv.toUInt64 >>> ((1 : Int32) &&& 0x3f).toInt64.toUInt64).toInt64))])) t
          refine XS.lstore X_4.here hx rfl (hb hby at_89) rfl (l' := #[.val (.int pa), .val (.int pb), .val (.long pw), .second, .val (.int pc), .val (.int pd), .val (.long pv), .second, .val (.int z_1), .val (.int z_2), .val (.long (pw &&& (9223372036854775807 : Int64))), .second, .val (.int z_4), .val (.int z_2), .val (.long ((pv.toUInt64 >>> ((1 : Int32) &&& 0x3f).toInt64.toUInt64).toInt64)), .second, .unset, .unset, .unset, .unset, .unset]) rfl ?_
          exact kt
        exact law_91 l Z a0 hw pa pb pw pc pd pv z_1 z_2 (pw &&& (9223372036854775807 : Int64)) z_4 z_2 ((pv.toUInt64 >>> ((1 : Int32) &&& 0x3f).toInt64.toUInt64).toInt64) h0 n0 Z0 p e s m below meth c hx hby hml hown hnm hret hlk hZ _ _ _ X_4 K_4 N_4 K0 O BC SH m_1 m_2 (own_land pw) m_4 m_2 (own_lsh pv)
      · -- not (pv &&& (1 : Int64)) = (0 : Int64)
        refine Goes.go (U' := (T_4.setTop (mkF m 91 #[.val (.int pa), .val (.int pb), .val (.long pw), .second, .val (.int pc), .val (.int pd), .val (.long pv), .second, .val (.int z_1), .val (.int z_2), .val (.long (pw &&& (9223372036854775807 : Int64))), .second, .val (.int z_4), .val (.int z_2), .val (.long (pw &&& (9223372036854775807 : Int64))), .second, .unset, .unset, .unset, .unset, .unset] []))) (fun t kt => ?_) ?_
        · show Steps p.tables e below (T_4.setTop (mkF m 77 #[.val (.int pa), .val (.int pb), .val (.long pw), .second, .val (.int pc), .val (.int pd), .val (.long pv), .second, .val (.int z_1), .val (.int z_2), .val (.long (pw &&& (9223372036854775807 : Int64))), .second, .val (.int z_4), .val (.int z_2), .unset, .unset, .unset, .unset, .unset, .unset, .unset] [(.int (XT.cmpL (pv &&& (1 : Int64)) (0 : Int64)))])) t
          refine XS.ifNo X_4.here hx rfl (hb hby at_77) rfl (XT.ll_eq_f c_8) ?_
          show Steps p.tables e below (T_4.setTop (mkF m 80 #[.val (.int pa), .val (.int pb), .val (.long pw), .second, .val (.int pc), .val (.int pd), .val (.long pv), .second, .val (.int z_1), .val (.int z_2), .val (.long (pw &&& (9223372036854775807 : Int64))), .second, .val (.int z_4), .val (.int z_2), .unset, .unset, .unset, .unset, .unset, .unset, .unset] [])) t
          refine XS.lload X_4.here hx rfl (hb hby at_80) rfl ?_
          show Steps p.tables e below (T_4.setTop (mkF m 82 #[.val (.int pa), .val (.int pb), .val (.long pw), .second, .val (.int pc), .val (.int pd), .val (.long pv), .second, .val (.int z_1), .val (.int z_2), .val (.long (pw &&& (9223372036854775807 : Int64))), .second, .val (.int z_4), .val (.int z_2), .unset, .unset, .unset, .unset, .unset, .unset, .unset] [(.long (pw &&& (9223372036854775807 : Int64)))])) t
          refine XS.goto X_4.here hx rfl (pc0 := 82) (pc' := 89) rfl (hb hby at_82) (by decide) (by decide) ?_
          show Steps p.tables e below (T_4.setTop (mkF m 89 #[.val (.int pa), .val (.int pb), .val (.long pw), .second, .val (.int pc), .val (.int pd), .val (.long pv), .second, .val (.int z_1), .val (.int z_2), .val (.long (pw &&& (9223372036854775807 : Int64))), .second, .val (.int z_4), .val (.int z_2), .unset, .unset, .unset, .unset, .unset, .unset, .unset] [(.long (pw &&& (9223372036854775807 : Int64)))])) t
          refine XS.lstore X_4.here hx rfl (hb hby at_89) rfl (l' := #[.val (.int pa), .val (.int pb), .val (.long pw), .second, .val (.int pc), .val (.int pd), .val (.long pv), .second, .val (.int z_1), .val (.int z_2), .val (.long (pw &&& (9223372036854775807 : Int64))), .second, .val (.int z_4), .val (.int z_2), .val (.long (pw &&& (9223372036854775807 : Int64))), .second, .unset, .unset, .unset, .unset, .unset]) rfl ?_
          exact kt
        exact law_91 l Z a0 hw pa pb pw pc pd pv z_1 z_2 (pw &&& (9223372036854775807 : Int64)) z_4 z_2 (pw &&& (9223372036854775807 : Int64)) h0 n0 Z0 p e s m below meth c hx hby hml hown hnm hret hlk hZ _ _ _ X_4 K_4 N_4 K0 O BC SH m_1 m_2 (own_land pw) m_4 m_2 (own_land pw)
  · -- not (pc &&& (1 : Int32)) = 0
    refine Goes.go (U' := (T_2.setTop (mkF m 53 #[.val (.int pa), .val (.int pb), .val (.long pw), .second, .val (.int pc), .val (.int pd), .val (.long pv), .second, .val (.int z_1), .val (.int z_2), .val (.long (pw &&& (9223372036854775807 : Int64))), .second, .val (.int z_1), .unset, .unset, .unset, .unset, .unset, .unset, .unset, .unset] [(.int (pd &&& (1 : Int32)))]))) (fun t kt => ?_) ?_
    · show Steps p.tables e below (T_2.setTop (mkF m 31 #[.val (.int pa), .val (.int pb), .val (.long pw), .second, .val (.int pc), .val (.int pd), .val (.long pv), .second, .val (.int z_1), .val (.int z_2), .val (.long (pw &&& (9223372036854775807 : Int64))), .second, .unset, .unset, .unset, .unset, .unset, .unset, .unset, .unset, .unset] [(.int (pc &&& (1 : Int32)))])) t
      refine XS.ifNo X_2.here hx rfl (hb hby at_31) rfl (XT.i0_eq_f c_3) ?_
      show Steps p.tables e below (T_2.setTop (mkF m 34 #[.val (.int pa), .val (.int pb), .val (.long pw), .second, .val (.int pc), .val (.int pd), .val (.long pv), .second, .val (.int z_1), .val (.int z_2), .val (.long (pw &&& (9223372036854775807 : Int64))), .second, .unset, .unset, .unset, .unset, .unset, .unset, .unset, .unset, .unset] [])) t
      refine XS.iload X_2.here hx rfl (hb hby at_34) rfl ?_
      show Steps p.tables e below (T_2.setTop (mkF m 36 #[.val (.int pa), .val (.int pb), .val (.long pw), .second, .val (.int pc), .val (.int pd), .val (.long pv), .second, .val (.int z_1), .val (.int z_2), .val (.long (pw &&& (9223372036854775807 : Int64))), .second, .unset, .unset, .unset, .unset, .unset, .unset, .unset, .unset, .unset] [(.int z_1)])) t
      refine XS.goto X_2.here hx rfl (pc0 := 36) (pc' := 47) rfl (hb hby at_36) (by decide) (by decide) ?_
      show Steps p.tables e below (T_2.setTop (mkF m 47 #[.val (.int pa), .val (.int pb), .val (.long pw), .second, .val (.int pc), .val (.int pd), .val (.long pv), .second, .val (.int z_1), .val (.int z_2), .val (.long (pw &&& (9223372036854775807 : Int64))), .second, .unset, .unset, .unset, .unset, .unset, .unset, .unset, .unset, .unset] [(.int z_1)])) t
      refine XS.istore X_2.here hx rfl (hb hby at_47) rfl (l' := #[.val (.int pa), .val (.int pb), .val (.long pw), .second, .val (.int pc), .val (.int pd), .val (.long pv), .second, .val (.int z_1), .val (.int z_2), .val (.long (pw &&& (9223372036854775807 : Int64))), .second, .val (.int z_1), .unset, .unset, .unset, .unset, .unset, .unset, .unset, .unset]) rfl ?_
      show Steps p.tables e below (T_2.setTop (mkF m 49 #[.val (.int pa), .val (.int pb), .val (.long pw), .second, .val (.int pc), .val (.int pd), .val (.long pv), .second, .val (.int z_1), .val (.int z_2), .val (.long (pw &&& (9223372036854775807 : Int64))), .second, .val (.int z_1), .unset, .unset, .unset, .unset, .unset, .unset, .unset, .unset] [])) t
      refine XS.iload X_2.here hx rfl (hb hby at_49) rfl ?_
      show Steps p.tables e below (T_2.setTop (mkF m 51 #[.val (.int pa), .val (.int pb), .val (.long pw), .second, .val (.int pc), .val (.int pd), .val (.long pv), .second, .val (.int z_1), .val (.int z_2), .val (.long (pw &&& (9223372036854775807 : Int64))), .second, .val (.int z_1), .unset, .unset, .unset, .unset, .unset, .unset, .unset, .unset] [(.int pd)])) t
      refine XS.iconst X_2.here hx rfl (hb hby at_51) ?_
      show Steps p.tables e below (T_2.setTop (mkF m 52 #[.val (.int pa), .val (.int pb), .val (.long pw), .second, .val (.int pc), .val (.int pd), .val (.long pv), .second, .val (.int z_1), .val (.int z_2), .val (.long (pw &&& (9223372036854775807 : Int64))), .second, .val (.int z_1), .unset, .unset, .unset, .unset, .unset, .unset, .unset, .unset] [(.int (1 : Int32)), (.int pd)])) t
      refine XS.iand X_2.here hx rfl (hb hby at_52) rfl ?_
      exact kt
    by_cases c_9 : (pd &&& (1 : Int32)) = 0
    · -- (pd &&& (1 : Int32)) = 0
      refine Goes.go (U' := (T_2.setTop (mkF m 66 #[.val (.int pa), .val (.int pb), .val (.long pw), .second, .val (.int pc), .val (.int pd), .val (.long pv), .second, .val (.int z_1), .val (.int z_2), .val (.long (pw &&& (9223372036854775807 : Int64))), .second, .val (.int z_1), .unset, .unset, .unset, .unset, .unset, .unset, .unset, .unset] [(.int ((pd.toUInt32 >>> ((1 : Int32) &&& 31).toUInt32).toInt32)), (.int (1 : Int32))]))) (fun t kt => ?_) ?_
      · show Steps p.tables e below (T_2.setTop (mkF m 53 #[.val (.int pa), .val (.int pb), .val (.long pw), .second, .val (.int pc), .val (.int pd), .val (.long pv), .second, .val (.int z_1), .val (.int z_2), .val (.long (pw &&& (9223372036854775807 : Int64))), .second, .val (.int z_1), .unset, .unset, .unset, .unset, .unset, .unset, .unset, .unset] [(.int (pd &&& (1 : Int32)))])) t
        refine XS.ifYes X_2.here hx rfl (pc0 := 53) (pc' := 61) rfl (hb hby at_53) rfl (XT.i0_eq_t c_9) (by decide) (by decide) ?_
        show Steps p.tables e below (T_2.setTop (mkF m 61 #[.val (.int pa), .val (.int pb), .val (.long pw), .second, .val (.int pc), .val (.int pd), .val (.long pv), .second, .val (.int z_1), .val (.int z_2), .val (.long (pw &&& (9223372036854775807 : Int64))), .second, .val (.int z_1), .unset, .unset, .unset, .unset, .unset, .unset, .unset, .unset] [])) t
        refine XS.iconst X_2.here hx rfl (hb hby at_61) ?_
        show Steps p.tables e below (T_2.setTop (mkF m 62 #[.val (.int pa), .val (.int pb), .val (.long pw), .second, .val (.int pc), .val (.int pd), .val (.long pv), .second, .val (.int z_1), .val (.int z_2), .val (.long (pw &&& (9223372036854775807 : Int64))), .second, .val (.int z_1), .unset, .unset, .unset, .unset, .unset, .unset, .unset, .unset] [(.int (1 : Int32))])) t
        refine XS.iload X_2.here hx rfl (hb hby at_62) rfl ?_
        show Steps p.tables e below (T_2.setTop (mkF m 64 #[.val (.int pa), .val (.int pb), .val (.long pw), .second, .val (.int pc), .val (.int pd), .val (.long pv), .second, .val (.int z_1), .val (.int z_2), .val (.long (pw &&& (9223372036854775807 : Int64))), .second, .val (.int z_1), .unset, .unset, .unset, .unset, .unset, .unset, .unset, .unset] [(.int pd), (.int (1 : Int32))])) t
        refine XS.iconst X_2.here hx rfl (hb hby at_64) ?_
        show Steps p.tables e below (T_2.setTop (mkF m 65 #[.val (.int pa), .val (.int pb), .val (.long pw), .second, .val (.int pc), .val (.int pd), .val (.long pv), .second, .val (.int z_1), .val (.int z_2), .val (.long (pw &&& (9223372036854775807 : Int64))), .second, .val (.int z_1), .unset, .unset, .unset, .unset, .unset, .unset, .unset, .unset] [(.int (1 : Int32)), (.int pd), (.int (1 : Int32))])) t
        refine XS.iushr X_2.here hx rfl (hb hby at_65) rfl ?_
        exact kt
      obtain ⟨v_10, T_10, L_10, X_10, q_10, st_10⟩ := callStatic X_2 hx hZ (y := (⟨"java/lang/Math", "max", "(II)I"⟩ : MethodName)) (W := 0) hown (wdOf hw 1 rfl) (wdOf hw 2 rfl) (wdOf hw 3 rfl) (wdOf hw 4 rfl) (by decide) (rm_max l Z a0 hw [] (1 : Int32) ((pd.toUInt32 >>> ((1 : Int32) &&& 31).toUInt32).toInt32) h0 n0 Z0) (by decide) (by decide) (by decide) (by decide) K_2 (g := (mkF m 66 #[.val (.int pa), .val (.int pb), .val (.long pw), .second, .val (.int pc), .val (.int pd), .val (.long pv), .second, .val (.int z_1), .val (.int z_2), .val (.long (pw &&& (9223372036854775807 : Int64))), .second, .val (.int z_1), .unset, .unset, .unset, .unset, .unset, .unset, .unset, .unset] [(.int ((pd.toUInt32 >>> ((1 : Int32) &&& 31).toUInt32).toInt32)), (.int (1 : Int32))])) rfl (by rw [hml]; rfl) (argsL := [(.int (1 : Int32)), (.int ((pd.toUInt32 >>> ((1 : Int32) &&& 31).toUInt32).toInt32))]) (rest := []) (lenOf pd_5 rfl) rfl rfl (Nat.le_refl _) (hb hby at_66)
      obtain ⟨z_10, rfl, n_10, K_10, m_10, -, -⟩ := q_10
      have N_10 := Fr.app N_2 n_10
      refine Goes.go (U' := (T_10.setTop (mkF m 69 #[.val (.int pa), .val (.int pb), .val (.long pw), .second, .val (.int pc), .val (.int pd), .val (.long pv), .second, .val (.int z_1), .val (.int z_2), .val (.long (pw &&& (9223372036854775807 : Int64))), .second, .val (.int z_1), .unset, .unset, .unset, .unset, .unset, .unset, .unset, .unset] [(.int z_10)]))) st_10 ?_
      refine Goes.go (U' := (T_10.setTop (mkF m 77 #[.val (.int pa), .val (.int pb), .val (.long pw), .second, .val (.int pc), .val (.int pd), .val (.long pv), .second, .val (.int z_1), .val (.int z_2), .val (.long (pw &&& (9223372036854775807 : Int64))), .second, .val (.int z_1), .val (.int z_10), .unset, .unset, .unset, .unset, .unset, .unset, .unset] [(.int (XT.cmpL (pv &&& (1 : Int64)) (0 : Int64)))]))) (fun t kt => ?_) ?_
      · show Steps p.tables e below (T_10.setTop (mkF m 69 #[.val (.int pa), .val (.int pb), .val (.long pw), .second, .val (.int pc), .val (.int pd), .val (.long pv), .second, .val (.int z_1), .val (.int z_2), .val (.long (pw &&& (9223372036854775807 : Int64))), .second, .val (.int z_1), .unset, .unset, .unset, .unset, .unset, .unset, .unset, .unset] [(.int z_10)])) t
        refine XS.istore X_10.here hx rfl (hb hby at_69) rfl (l' := #[.val (.int pa), .val (.int pb), .val (.long pw), .second, .val (.int pc), .val (.int pd), .val (.long pv), .second, .val (.int z_1), .val (.int z_2), .val (.long (pw &&& (9223372036854775807 : Int64))), .second, .val (.int z_1), .val (.int z_10), .unset, .unset, .unset, .unset, .unset, .unset, .unset]) rfl ?_
        show Steps p.tables e below (T_10.setTop (mkF m 71 #[.val (.int pa), .val (.int pb), .val (.long pw), .second, .val (.int pc), .val (.int pd), .val (.long pv), .second, .val (.int z_1), .val (.int z_2), .val (.long (pw &&& (9223372036854775807 : Int64))), .second, .val (.int z_1), .val (.int z_10), .unset, .unset, .unset, .unset, .unset, .unset, .unset] [])) t
        refine XS.lload X_10.here hx rfl (hb hby at_71) rfl ?_
        show Steps p.tables e below (T_10.setTop (mkF m 73 #[.val (.int pa), .val (.int pb), .val (.long pw), .second, .val (.int pc), .val (.int pd), .val (.long pv), .second, .val (.int z_1), .val (.int z_2), .val (.long (pw &&& (9223372036854775807 : Int64))), .second, .val (.int z_1), .val (.int z_10), .unset, .unset, .unset, .unset, .unset, .unset, .unset] [(.long pv)])) t
        refine XS.lconst X_10.here hx rfl (hb hby at_73) ?_
        show Steps p.tables e below (T_10.setTop (mkF m 74 #[.val (.int pa), .val (.int pb), .val (.long pw), .second, .val (.int pc), .val (.int pd), .val (.long pv), .second, .val (.int z_1), .val (.int z_2), .val (.long (pw &&& (9223372036854775807 : Int64))), .second, .val (.int z_1), .val (.int z_10), .unset, .unset, .unset, .unset, .unset, .unset, .unset] [(.long (1 : Int64)), (.long pv)])) t
        refine XS.land X_10.here hx rfl (hb hby at_74) rfl ?_
        show Steps p.tables e below (T_10.setTop (mkF m 75 #[.val (.int pa), .val (.int pb), .val (.long pw), .second, .val (.int pc), .val (.int pd), .val (.long pv), .second, .val (.int z_1), .val (.int z_2), .val (.long (pw &&& (9223372036854775807 : Int64))), .second, .val (.int z_1), .val (.int z_10), .unset, .unset, .unset, .unset, .unset, .unset, .unset] [(.long (pv &&& (1 : Int64)))])) t
        refine XS.lconst X_10.here hx rfl (hb hby at_75) ?_
        show Steps p.tables e below (T_10.setTop (mkF m 76 #[.val (.int pa), .val (.int pb), .val (.long pw), .second, .val (.int pc), .val (.int pd), .val (.long pv), .second, .val (.int z_1), .val (.int z_2), .val (.long (pw &&& (9223372036854775807 : Int64))), .second, .val (.int z_1), .val (.int z_10), .unset, .unset, .unset, .unset, .unset, .unset, .unset] [(.long (0 : Int64)), (.long (pv &&& (1 : Int64)))])) t
        refine XT.lcmp X_10.here hx rfl (hb hby at_76) rfl ?_
        exact kt
      by_cases c_11 : (pv &&& (1 : Int64)) = (0 : Int64)
      · -- (pv &&& (1 : Int64)) = (0 : Int64)
        refine Goes.go (U' := (T_10.setTop (mkF m 91 #[.val (.int pa), .val (.int pb), .val (.long pw), .second, .val (.int pc), .val (.int pd), .val (.long pv), .second, .val (.int z_1), .val (.int z_2), .val (.long (pw &&& (9223372036854775807 : Int64))), .second, .val (.int z_1), .val (.int z_10), .val (.long ((pv.toUInt64 >>> ((1 : Int32) &&& 0x3f).toInt64.toUInt64).toInt64)), .second, .unset, .unset, .unset, .unset, .unset] []))) (fun t kt => ?_) ?_
        · show Steps p.tables e below (T_10.setTop (mkF m 77 #[.val (.int pa), .val (.int pb), .val (.long pw), .second, .val (.int pc), .val (.int pd), .val (.long pv), .second, .val (.int z_1), .val (.int z_2), .val (.long (pw &&& (9223372036854775807 : Int64))), .second, .val (.int z_1), .val (.int z_10), .unset, .unset, .unset, .unset, .unset, .unset, .unset] [(.int (XT.cmpL (pv &&& (1 : Int64)) (0 : Int64)))])) t
          refine XS.ifYes X_10.here hx rfl (pc0 := 77) (pc' := 85) rfl (hb hby at_77) rfl (XT.ll_eq_t c_11) (by decide) (by decide) ?_
          show Steps p.tables e below (T_10.setTop (mkF m 85 #[.val (.int pa), .val (.int pb), .val (.long pw), .second, .val (.int pc), .val (.int pd), .val (.long pv), .second, .val (.int z_1), .val (.int z_2), .val (.long (pw &&& (9223372036854775807 : Int64))), .second, .val (.int z_1), .val (.int z_10), .unset, .unset, .unset, .unset, .unset, .unset, .unset] [])) t
          refine XS.lload X_10.here hx rfl (hb hby at_85) rfl ?_
          show Steps p.tables e below (T_10.setTop (mkF m 87 #[.val (.int pa), .val (.int pb), .val (.long pw), .second, .val (.int pc), .val (.int pd), .val (.long pv), .second, .val (.int z_1), .val (.int z_2), .val (.long (pw &&& (9223372036854775807 : Int64))), .second, .val (.int z_1), .val (.int z_10), .unset, .unset, .unset, .unset, .unset, .unset, .unset] [(.long pv)])) t
          refine XS.iconst X_10.here hx rfl (hb hby at_87) ?_
          show Steps p.tables e below (T_10.setTop (mkF m 88 #[.val (.int pa), .val (.int pb), .val (.long pw), .second, .val (.int pc), .val (.int pd), .val (.long pv), .second, .val (.int z_1), .val (.int z_2), .val (.long (pw &&& (9223372036854775807 : Int64))), .second, .val (.int z_1), .val (.int z_10), .unset, .unset, .unset, .unset, .unset, .unset, .unset] [(.int (1 : Int32)), (.long pv)])) t
          refine XS.lushr X_10.here hx rfl (hb hby at_88) rfl ?_
          show Steps p.tables e below (T_10.setTop (mkF m 89 #[.val (.int pa), .val (.int pb), .val (.long pw), .second, .val (.int pc), .val (.int pd), .val (.long pv), .second, .val (.int z_1), .val (.int z_2), .val (.long (pw &&& (9223372036854775807 : Int64))), .second, .val (.int z_1), .val (.int z_10), .unset, .unset, .unset, .unset, .unset, .unset, .unset] [(.long ((pv.toUInt64 >>> ((1 : Int32) &&& 0x3f).toInt64.toUInt64).toInt64))])) t
          refine XS.lstore X_10.here hx rfl (hb hby at_89) rfl (l' := #[.val (.int pa), .val (.int pb), .val (.long pw), .second, .val (.int pc), .val (.int pd), .val (.long pv), .second, .val (.int z_1), .val (.int z_2), .val (.long (pw &&& (9223372036854775807 : Int64))), .second, .val (.int z_1), .val (.int z_10), .val (.long ((pv.toUInt64 >>> ((1 : Int32) &&& 0x3f).toInt64.toUInt64).toInt64)), .second, .unset, .unset, .unset, .unset, .unset]) rfl ?_
          exact kt
        exact law_91 l Z a0 hw pa pb pw pc pd pv z_1 z_2 (pw &&& (9223372036854775807 : Int64)) z_1 z_10 ((pv.toUInt64 >>> ((1 : Int32) &&& 0x3f).toInt64.toUInt64).toInt64) h0 n0 Z0 p e s m below meth c hx hby hml hown hnm hret hlk hZ _ _ _ X_10 K_10 N_10 K0 O BC SH m_1 m_2 (own_land pw) m_1 m_10 (own_lsh pv)
      · -- not (pv &&& (1 : Int64)) = (0 : Int64)
        refine Goes.go (U' := (T_10.setTop (mkF m 91 #[.val (.int pa), .val (.int pb), .val (.long pw), .second, .val (.int pc), .val (.int pd), .val (.long pv), .second, .val (.int z_1), .val (.int z_2), .val (.long (pw &&& (9223372036854775807 : Int64))), .second, .val (.int z_1), .val (.int z_10), .val (.long (pw &&& (9223372036854775807 : Int64))), .second, .unset, .unset, .unset, .unset, .unset] []))) (fun t kt => ?_) ?_
        · show Steps p.tables e below (T_10.setTop (mkF m 77 #[.val (.int pa), .val (.int pb), .val (.long pw), .second, .val (.int pc), .val (.int pd), .val (.long pv), .second, .val (.int z_1), .val (.int z_2), .val (.long (pw &&& (9223372036854775807 : Int64))), .second, .val (.int z_1), .val (.int z_10), .unset, .unset, .unset, .unset, .unset, .unset, .unset] [(.int (XT.cmpL (pv &&& (1 : Int64)) (0 : Int64)))])) t
          refine XS.ifNo X_10.here hx rfl (hb hby at_77) rfl (XT.ll_eq_f c_11) ?_
          show Steps p.tables e below (T_10.setTop (mkF m 80 #[.val (.int pa), .val (.int pb), .val (.long pw), .second, .val (.int pc), .val (.int pd), .val (.long pv), .second, .val (.int z_1), .val (.int z_2), .val (.long (pw &&& (9223372036854775807 : Int64))), .second, .val (.int z_1), .val (.int z_10), .unset, .unset, .unset, .unset, .unset, .unset, .unset] [])) t
          refine XS.lload X_10.here hx rfl (hb hby at_80) rfl ?_
          show Steps p.tables e below (T_10.setTop (mkF m 82 #[.val (.int pa), .val (.int pb), .val (.long pw), .second, .val (.int pc), .val (.int pd), .val (.long pv), .second, .val (.int z_1), .val (.int z_2), .val (.long (pw &&& (9223372036854775807 : Int64))), .second, .val (.int z_1), .val (.int z_10), .unset, .unset, .unset, .unset, .unset, .unset, .unset] [(.long (pw &&& (9223372036854775807 : Int64)))])) t
          refine XS.goto X_10.here hx rfl (pc0 := 82) (pc' := 89) rfl (hb hby at_82) (by decide) (by decide) ?_
          show Steps p.tables e below (T_10.setTop (mkF m 89 #[.val (.int pa), .val (.int pb), .val (.long pw), .second, .val (.int pc), .val (.int pd), .val (.long pv), .second, .val (.int z_1), .val (.int z_2), .val (.long (pw &&& (9223372036854775807 : Int64))), .second, .val (.int z_1), .val (.int z_10), .unset, .unset, .unset, .unset, .unset, .unset, .unset] [(.long (pw &&& (9223372036854775807 : Int64)))])) t
          refine XS.lstore X_10.here hx rfl (hb hby at_89) rfl (l' := #[.val (.int pa), .val (.int pb), .val (.long pw), .second, .val (.int pc), .val (.int pd), .val (.long pv), .second, .val (.int z_1), .val (.int z_2), .val (.long (pw &&& (9223372036854775807 : Int64))), .second, .val (.int z_1), .val (.int z_10), .val (.long (pw &&& (9223372036854775807 : Int64))), .second, .unset, .unset, .unset, .unset, .unset]) rfl ?_
          exact kt
        exact law_91 l Z a0 hw pa pb pw pc pd pv z_1 z_2 (pw &&& (9223372036854775807 : Int64)) z_1 z_10 (pw &&& (9223372036854775807 : Int64)) h0 n0 Z0 p e s m below meth c hx hby hml hown hnm hret hlk hZ _ _ _ X_10 K_10 N_10 K0 O BC SH m_1 m_2 (own_land pw) m_1 m_10 (own_land pw)
    · -- not (pd &&& (1 : Int32)) = 0
      refine Goes.go (U' := (T_2.setTop (mkF m 77 #[.val (.int pa), .val (.int pb), .val (.long pw), .second, .val (.int pc), .val (.int pd), .val (.long pv), .second, .val (.int z_1), .val (.int z_2), .val (.long (pw &&& (9223372036854775807 : Int64))), .second, .val (.int z_1), .val (.int z_2), .unset, .unset, .unset, .unset, .unset, .unset, .unset] [(.int (XT.cmpL (pv &&& (1 : Int64)) (0 : Int64)))]))) (fun t kt => ?_) ?_
      · show Steps p.tables e below (T_2.setTop (mkF m 53 #[.val (.int pa), .val (.int pb), .val (.long pw), .second, .val (.int pc), .val (.int pd), .val (.long pv), .second, .val (.int z_1), .val (.int z_2), .val (.long (pw &&& (9223372036854775807 : Int64))), .second, .val (.int z_1), .unset, .unset, .unset, .unset, .unset, .unset, .unset, .unset] [(.int (pd &&& (1 : Int32)))])) t
        refine XS.ifNo X_2.here hx rfl (hb hby at_53) rfl (XT.i0_eq_f c_9) ?_
        show Steps p.tables e below (T_2.setTop (mkF m 56 #[.val (.int pa), .val (.int pb), .val (.long pw), .second, .val (.int pc), .val (.int pd), .val (.long pv), .second, .val (.int z_1), .val (.int z_2), .val (.long (pw &&& (9223372036854775807 : Int64))), .second, .val (.int z_1), .unset, .unset, .unset, .unset, .unset, .unset, .unset, .unset] [])) t
        refine XS.iload X_2.here hx rfl (hb hby at_56) rfl ?_
        show Steps p.tables e below (T_2.setTop (mkF m 58 #[.val (.int pa), .val (.int pb), .val (.long pw), .second, .val (.int pc), .val (.int pd), .val (.long pv), .second, .val (.int z_1), .val (.int z_2), .val (.long (pw &&& (9223372036854775807 : Int64))), .second, .val (.int z_1), .unset, .unset, .unset, .unset, .unset, .unset, .unset, .unset] [(.int z_2)])) t
        refine XS.goto X_2.here hx rfl (pc0 := 58) (pc' := 69) rfl (hb hby at_58) (by decide) (by decide) ?_
        show Steps p.tables e below (T_2.setTop (mkF m 69 #[.val (.int pa), .val (.int pb), .val (.long pw), .second, .val (.int pc), .val (.int pd), .val (.long pv), .second, .val (.int z_1), .val (.int z_2), .val (.long (pw &&& (9223372036854775807 : Int64))), .second, .val (.int z_1), .unset, .unset, .unset, .unset, .unset, .unset, .unset, .unset] [(.int z_2)])) t
        refine XS.istore X_2.here hx rfl (hb hby at_69) rfl (l' := #[.val (.int pa), .val (.int pb), .val (.long pw), .second, .val (.int pc), .val (.int pd), .val (.long pv), .second, .val (.int z_1), .val (.int z_2), .val (.long (pw &&& (9223372036854775807 : Int64))), .second, .val (.int z_1), .val (.int z_2), .unset, .unset, .unset, .unset, .unset, .unset, .unset]) rfl ?_
        show Steps p.tables e below (T_2.setTop (mkF m 71 #[.val (.int pa), .val (.int pb), .val (.long pw), .second, .val (.int pc), .val (.int pd), .val (.long pv), .second, .val (.int z_1), .val (.int z_2), .val (.long (pw &&& (9223372036854775807 : Int64))), .second, .val (.int z_1), .val (.int z_2), .unset, .unset, .unset, .unset, .unset, .unset, .unset] [])) t
        refine XS.lload X_2.here hx rfl (hb hby at_71) rfl ?_
        show Steps p.tables e below (T_2.setTop (mkF m 73 #[.val (.int pa), .val (.int pb), .val (.long pw), .second, .val (.int pc), .val (.int pd), .val (.long pv), .second, .val (.int z_1), .val (.int z_2), .val (.long (pw &&& (9223372036854775807 : Int64))), .second, .val (.int z_1), .val (.int z_2), .unset, .unset, .unset, .unset, .unset, .unset, .unset] [(.long pv)])) t
        refine XS.lconst X_2.here hx rfl (hb hby at_73) ?_
        show Steps p.tables e below (T_2.setTop (mkF m 74 #[.val (.int pa), .val (.int pb), .val (.long pw), .second, .val (.int pc), .val (.int pd), .val (.long pv), .second, .val (.int z_1), .val (.int z_2), .val (.long (pw &&& (9223372036854775807 : Int64))), .second, .val (.int z_1), .val (.int z_2), .unset, .unset, .unset, .unset, .unset, .unset, .unset] [(.long (1 : Int64)), (.long pv)])) t
        refine XS.land X_2.here hx rfl (hb hby at_74) rfl ?_
        show Steps p.tables e below (T_2.setTop (mkF m 75 #[.val (.int pa), .val (.int pb), .val (.long pw), .second, .val (.int pc), .val (.int pd), .val (.long pv), .second, .val (.int z_1), .val (.int z_2), .val (.long (pw &&& (9223372036854775807 : Int64))), .second, .val (.int z_1), .val (.int z_2), .unset, .unset, .unset, .unset, .unset, .unset, .unset] [(.long (pv &&& (1 : Int64)))])) t
        refine XS.lconst X_2.here hx rfl (hb hby at_75) ?_
        show Steps p.tables e below (T_2.setTop (mkF m 76 #[.val (.int pa), .val (.int pb), .val (.long pw), .second, .val (.int pc), .val (.int pd), .val (.long pv), .second, .val (.int z_1), .val (.int z_2), .val (.long (pw &&& (9223372036854775807 : Int64))), .second, .val (.int z_1), .val (.int z_2), .unset, .unset, .unset, .unset, .unset, .unset, .unset] [(.long (0 : Int64)), (.long (pv &&& (1 : Int64)))])) t
        refine XT.lcmp X_2.here hx rfl (hb hby at_76) rfl ?_
        exact kt
      by_cases c_12 : (pv &&& (1 : Int64)) = (0 : Int64)
      · -- (pv &&& (1 : Int64)) = (0 : Int64)
        refine Goes.go (U' := (T_2.setTop (mkF m 91 #[.val (.int pa), .val (.int pb), .val (.long pw), .second, .val (.int pc), .val (.int pd), .val (.long pv), .second, .val (.int z_1), .val (.int z_2), .val (.long (pw &&& (9223372036854775807 : Int64))), .second, .val (.int z_1), .val (.int z_2), .val (.long ((pv.toUInt64 >>> ((1 : Int32) &&& 0x3f).toInt64.toUInt64).toInt64)), .second, .unset, .unset, .unset, .unset, .unset] []))) (fun t kt => ?_) ?_
        · show Steps p.tables e below (T_2.setTop (mkF m 77 #[.val (.int pa), .val (.int pb), .val (.long pw), .second, .val (.int pc), .val (.int pd), .val (.long pv), .second, .val (.int z_1), .val (.int z_2), .val (.long (pw &&& (9223372036854775807 : Int64))), .second, .val (.int z_1), .val (.int z_2), .unset, .unset, .unset, .unset, .unset, .unset, .unset] [(.int (XT.cmpL (pv &&& (1 : Int64)) (0 : Int64)))])) t
          refine XS.ifYes X_2.here hx rfl (pc0 := 77) (pc' := 85) rfl (hb hby at_77) rfl (XT.ll_eq_t c_12) (by decide) (by decide) ?_
          show Steps p.tables e below (T_2.setTop (mkF m 85 #[.val (.int pa), .val (.int pb), .val (.long pw), .second, .val (.int pc), .val (.int pd), .val (.long pv), .second, .val (.int z_1), .val (.int z_2), .val (.long (pw &&& (9223372036854775807 : Int64))), .second, .val (.int z_1), .val (.int z_2), .unset, .unset, .unset, .unset, .unset, .unset, .unset] [])) t
          refine XS.lload X_2.here hx rfl (hb hby at_85) rfl ?_
          show Steps p.tables e below (T_2.setTop (mkF m 87 #[.val (.int pa), .val (.int pb), .val (.long pw), .second, .val (.int pc), .val (.int pd), .val (.long pv), .second, .val (.int z_1), .val (.int z_2), .val (.long (pw &&& (9223372036854775807 : Int64))), .second, .val (.int z_1), .val (.int z_2), .unset, .unset, .unset, .unset, .unset, .unset, .unset] [(.long pv)])) t
          refine XS.iconst X_2.here hx rfl (hb hby at_87) ?_
          show Steps p.tables e below (T_2.setTop (mkF m 88 #[.val (.int pa), .val (.int pb), .val (.long pw), .second, .val (.int pc), .val (.int pd), .val (.long pv), .second, .val (.int z_1), .val (.int z_2), .val (.long (pw &&& (9223372036854775807 : Int64))), .second, .val (.int z_1), .val (.int z_2), .unset, .unset, .unset, .unset, .unset, .unset, .unset] [(.int (1 : Int32)), (.long pv)])) t
          refine XS.lushr X_2.here hx rfl (hb hby at_88) rfl ?_
          show Steps p.tables e below (T_2.setTop (mkF m 89 #[.val (.int pa), .val (.int pb), .val (.long pw), .second, .val (.int pc), .val (.int pd), .val (.long pv), .second, .val (.int z_1), .val (.int z_2), .val (.long (pw &&& (9223372036854775807 : Int64))), .second, .val (.int z_1), .val (.int z_2), .unset, .unset, .unset, .unset, .unset, .unset, .unset] [(.long ((pv.toUInt64 >>> ((1 : Int32) &&& 0x3f).toInt64.toUInt64).toInt64))])) t
          refine XS.lstore X_2.here hx rfl (hb hby at_89) rfl (l' := #[.val (.int pa), .val (.int pb), .val (.long pw), .second, .val (.int pc), .val (.int pd), .val (.long pv), .second, .val (.int z_1), .val (.int z_2), .val (.long (pw &&& (9223372036854775807 : Int64))), .second, .val (.int z_1), .val (.int z_2), .val (.long ((pv.toUInt64 >>> ((1 : Int32) &&& 0x3f).toInt64.toUInt64).toInt64)), .second, .unset, .unset, .unset, .unset, .unset]) rfl ?_
          exact kt
        exact law_91 l Z a0 hw pa pb pw pc pd pv z_1 z_2 (pw &&& (9223372036854775807 : Int64)) z_1 z_2 ((pv.toUInt64 >>> ((1 : Int32) &&& 0x3f).toInt64.toUInt64).toInt64) h0 n0 Z0 p e s m below meth c hx hby hml hown hnm hret hlk hZ _ _ _ X_2 K_2 N_2 K0 O BC SH m_1 m_2 (own_land pw) m_1 m_2 (own_lsh pv)
      · -- not (pv &&& (1 : Int64)) = (0 : Int64)
        refine Goes.go (U' := (T_2.setTop (mkF m 91 #[.val (.int pa), .val (.int pb), .val (.long pw), .second, .val (.int pc), .val (.int pd), .val (.long pv), .second, .val (.int z_1), .val (.int z_2), .val (.long (pw &&& (9223372036854775807 : Int64))), .second, .val (.int z_1), .val (.int z_2), .val (.long (pw &&& (9223372036854775807 : Int64))), .second, .unset, .unset, .unset, .unset, .unset] []))) (fun t kt => ?_) ?_
        · show Steps p.tables e below (T_2.setTop (mkF m 77 #[.val (.int pa), .val (.int pb), .val (.long pw), .second, .val (.int pc), .val (.int pd), .val (.long pv), .second, .val (.int z_1), .val (.int z_2), .val (.long (pw &&& (9223372036854775807 : Int64))), .second, .val (.int z_1), .val (.int z_2), .unset, .unset, .unset, .unset, .unset, .unset, .unset] [(.int (XT.cmpL (pv &&& (1 : Int64)) (0 : Int64)))])) t
          refine XS.ifNo X_2.here hx rfl (hb hby at_77) rfl (XT.ll_eq_f c_12) ?_
          show Steps p.tables e below (T_2.setTop (mkF m 80 #[.val (.int pa), .val (.int pb), .val (.long pw), .second, .val (.int pc), .val (.int pd), .val (.long pv), .second, .val (.int z_1), .val (.int z_2), .val (.long (pw &&& (9223372036854775807 : Int64))), .second, .val (.int z_1), .val (.int z_2), .unset, .unset, .unset, .unset, .unset, .unset, .unset] [])) t
          refine XS.lload X_2.here hx rfl (hb hby at_80) rfl ?_
          show Steps p.tables e below (T_2.setTop (mkF m 82 #[.val (.int pa), .val (.int pb), .val (.long pw), .second, .val (.int pc), .val (.int pd), .val (.long pv), .second, .val (.int z_1), .val (.int z_2), .val (.long (pw &&& (9223372036854775807 : Int64))), .second, .val (.int z_1), .val (.int z_2), .unset, .unset, .unset, .unset, .unset, .unset, .unset] [(.long (pw &&& (9223372036854775807 : Int64)))])) t
          refine XS.goto X_2.here hx rfl (pc0 := 82) (pc' := 89) rfl (hb hby at_82) (by decide) (by decide) ?_
          show Steps p.tables e below (T_2.setTop (mkF m 89 #[.val (.int pa), .val (.int pb), .val (.long pw), .second, .val (.int pc), .val (.int pd), .val (.long pv), .second, .val (.int z_1), .val (.int z_2), .val (.long (pw &&& (9223372036854775807 : Int64))), .second, .val (.int z_1), .val (.int z_2), .unset, .unset, .unset, .unset, .unset, .unset, .unset] [(.long (pw &&& (9223372036854775807 : Int64)))])) t
          refine XS.lstore X_2.here hx rfl (hb hby at_89) rfl (l' := #[.val (.int pa), .val (.int pb), .val (.long pw), .second, .val (.int pc), .val (.int pd), .val (.long pv), .second, .val (.int z_1), .val (.int z_2), .val (.long (pw &&& (9223372036854775807 : Int64))), .second, .val (.int z_1), .val (.int z_2), .val (.long (pw &&& (9223372036854775807 : Int64))), .second, .unset, .unset, .unset, .unset, .unset]) rfl ?_
          exact kt
        exact law_91 l Z a0 hw pa pb pw pc pd pv z_1 z_2 (pw &&& (9223372036854775807 : Int64)) z_1 z_2 (pw &&& (9223372036854775807 : Int64)) h0 n0 Z0 p e s m below meth c hx hby hml hown hnm hret hlk hZ _ _ _ X_2 K_2 N_2 K0 O BC SH m_1 m_2 (own_land pw) m_1 m_2 (own_land pw)
set_option maxRecDepth 65536 in
set_option maxHeartbeats 40000000 in
theorem comes_1 {Post : Tables → Env → Array Value → State → Outcome → State → Prop} (hpost : ∀ tb e args s v u, (limb_1_1.after args s (.returned v) u = true ∧ limb_1_2.after args s (.returned v) u = true) → FrameEnd s (.returned v) u (Jvm.fieldLocs frame_1_writes args s ++ Jvm.arrayLocs frame_1_arrays args s ++ Jvm.staticLocs frame_1_statics s) 16 128 → Post tb e args s (.returned v) u) :
    ArmFor flags0 classFile x code maxLocals ret World_1 tables_1 room_1 Calls_1 rest_1 Pre_1 Post := by
  intro l hfl _ _ p e ha hc hk s m args below hf hA hF happ hP
  obtain ⟨hcalls, hrest, hpre⟩ := hP
  obtain ⟨-, -, -, hnamed, -, -, -, hat⟩ := (Spec.applies_iff hf).mp happ
  obtain ⟨hg, hn⟩ := and_e (Cond.before_iff.mp (show (Jvm.Cond.and given_1 narrow_1).before args s = true from hpre))
  obtain ⟨gc, gs⟩ := and_e hg
  obtain ⟨ga0, gs⟩ := and_e gs
  obtain ⟨ga1, gs⟩ := and_e gs
  obtain ⟨ga2, gs⟩ := and_e gs
  obtain ⟨ga3, gs⟩ := and_e gs
  obtain ⟨ga4, gs⟩ := and_e gs
  have ga5 := gs
  obtain ⟨w0, w1, w2, w3, w4, w5, rfl⟩ : ∃ w0 w1 w2 w3 w4 w5 : Value, args = #[w0, w1, w2, w3, w4, w5] := by
    have hs : args.size = 6 := by simpa [Cond.value, given_1] using gc
    obtain ⟨L⟩ := args
    match L, hs with
    | [w0, w1, w2, w3, w4, w5], _ => exact ⟨w0, w1, w2, w3, w4, w5, rfl⟩
  have hw := fun d (hd : d ∈ tables_1) => atoms_spec (ws := Jvm.Cond.code x code maxLocals ret :: tables_1) hat d (List.mem_cons_of_mem _ hd)
  have hfit : Fit s := fun {y c} hc i hi => by
    obtain ⟨ha, rfl⟩ := Array.getElem?_eq_some_iff.mp hc
    have q := List.all_eq_true.mp ((Array.all_eq_true_iff_forall_mem.mp hF) _ (Array.getElem_mem ha)) i (List.mem_range.mpr hi)
    simpa [Array.getElem?_eq_getElem hi] using q
  obtain ⟨i0, ei0⟩ := is_v ga0
  obtain rfl : w0 = (.int i0) := Option.some.inj ei0
  obtain ⟨i1, ei1⟩ := is_v ga1
  obtain rfl : w1 = (.int i1) := Option.some.inj ei1
  obtain ⟨i2, ei2⟩ := isL_v ga2
  obtain rfl : w2 = (.long i2) := Option.some.inj ei2
  obtain ⟨i3, ei3⟩ := is_v ga3
  obtain rfl : w3 = (.int i3) := Option.some.inj ei3
  obtain ⟨i4, ei4⟩ := is_v ga4
  obtain rfl : w4 = (.int i4) := Option.some.inj ei4
  obtain ⟨i5, ei5⟩ := isL_v ga5
  obtain rfl : w5 = (.long i5) := Option.some.inj ei5
  obtain ⟨hsets, hown0⟩ := atoms_of _ (rest_1_c_eq ▸ (show rest_1_c.before _ s = true from hrest))
  have BC : BoxC s "java/lang/Integer$IntegerCache" "[Ljava/lang/Integer;" "java/lang/Integer" "I" (fun i => .int (i.toInt32 - 128)) := BoxC.start (wdOf hw 31 rfl) (wdOf hsets 2 rfl) (wdOf hsets 4 rfl) (wdOf hsets 6 rfl) (wdOf hsets 7 rfl) (fun _ => rfl) (fun _ => Or.inl ⟨_, rfl⟩)
  have SH : Sta s s.heap "java/lang/Integer$IntegerCache" "high" "I" (.int (127 : Int32)) := Sta.start (eqInt_v (Cond.before_iff.mp (wdOf hsets 3 rfl))) (Or.inr ⟨(wdOf hw 31 rfl), (wdOf hsets 0 rfl)⟩)
  obtain ⟨n, o, h1, h2, h3, _, L, rfl, ⟨rfl, N⟩, hq⟩ := rm_law l s _ hw tables_1 i0 i1 i2 i3 i4 i5 s.heap s.heap.size (Nat.le_refl _) (Old.start s) BC SH p e ha hc hk s m _ below hf ((Spec.applies_iff_loose hf).mp happ).1 ⟨rfl, State.Warmed39.refl s, rfl⟩ trivial
  refine ⟨n, _, h1, h2, h3, hpost _ _ _ _ _ _ ⟨Cond.after_iff.mpr rfl, Cond.after_iff.mpr (eq_i res_at (Term.int_eval (1)) rfl)⟩ ⟨hq.1, hq.2.1, (hq.2.2.sift fun y hy => Or.inr (N y hy)).mono (by decide) (by decide)⟩⟩
theorem main_1_1 : Claimed_1_1 := comes_1 fun _ _ _ _ _ _ h hF => ⟨h.1, hF⟩
theorem main_1_2 : Claimed_1_2 := comes_1 fun _ _ _ _ _ _ h hF => ⟨h.2, hF⟩
end Jvm.Pilot.@@N@@
namespace Jvm.Pilot.@@N@@
open Jvm Jvm.ClassFile Sem Op Lib Jvm.Free Jvm.Stand Jvm.Pilot.@@N@@.Jvm.D
/-! MADE BY PROGRAM (witnessworld.py) out of the Statement's table words and the real class files: 18 classes; the members and pool entries that the words name. The judged class is class 1, her method 1. -/
namespace start1
open Jvm.ClassFile
def u (s : String) : CpInfo := .utf8 (stringToUtf16 s)
/-- a pool by its gaps: so many unusable entries, then the entry; so many at the end -/
def gap : Nat → List CpInfo → List CpInfo
  | 0, r => r
  | n + 1, r => .unusable :: gap n r
def poolList (es : List (Nat × CpInfo)) (last : Nat) : List CpInfo := es.foldr (fun e r => gap e.1 (e.2 :: r)) (gap last [])
def pool (es : List (Nat × CpInfo)) (last : Nat) : Array CpInfo := ⟨poolList es last⟩
def fileOf (pool : Array CpInfo) (this : Nat) (attrs : Array Attribute := #[]) (ms : Array MethodInfo := #[]) (fl : Nat := 33) (sup : Nat := 0) (ifs : Array Nat := #[]) (fds : Array FieldInfo := #[]) : ClassFile where
  minorVersion := 0
  majorVersion := 65
  constantPool := pool
  accessFlags := fl
  thisClass := this
  superClass := sup
  interfaces := ifs
  fields := fds
  methods := ms
  attributes := attrs
def plain (name : String) (sup : Option ClassId) : Class where
  name := name
  kind := .ordinary
  loader := none
  accessFlags := 33
  super := sup
  interfaces := #[]
  cf := none
  fields := #[]
  methods := #[]
  instanceTypes := #[]
  staticTypes := #[]
  resolved := #[]
  callSites := []
  init := .initialized
  statics := none
  mirror := none

def pool0 : Array CpInfo := pool [(5, u "<init>"), (0, u "()V"), (1, .class_ 10), (1, u "java/lang/Object")] 113

def k0c0 : Code := { maxStack := 0, maxLocals := 1, code := object_method_1_code, exceptionTable := #[], attributes := #[] }
def k0m0 : Method := { name := "<init>", desc := "()V", sig := { parameters := [], returnType := none }, accessFlags := 1, code := some k0c0 }
/-- java/lang/Object -/
def k0 : Class := { plain "java/lang/Object" none with
  accessFlags := 33
  interfaces := #[]
  cf := some (fileOf pool0 8 #[] #[{ accessFlags := 1, nameIndex := 5, descriptorIndex := 6, attributes := #[] }] 33 0 #[] #[])
  fields := #[]
  methods := #[k0m0]
  instanceTypes := #[]
  staticTypes := #[]
  resolved := Array.replicate 124 none
  statics := none }

def pool1 : Array CpInfo := pool [(2, .class_ 4), (1, u "java/lang/Object"), (0, u "<init>"), (0, u "()V"), (0, .integer 2147483647), (0, .methodref 9 10), (0, .class_ 11), (0, .nameAndType 12 13), (0, u "java/lang/Math"), (0, u "max"), (0, u "(II)I"), (2, .long 9223372036854775807), (1, .class_ 19), (0, u "com/example/copse/copse/Arc"), (0, .methodref 18 21), (0, .nameAndType 5 22), (0, u "(IIJ)V"), (0, .methodref 24 25), (0, .class_ 26), (0, .nameAndType 27 28), (0, u "java/lang/Integer"), (0, u "valueOf"), (0, u "(I)Ljava/lang/Integer;"), (0, .methodref 18 30), (0, .nameAndType 31 32), (0, u "equals"), (0, u "(Ljava/lang/Object;)Z"), (0, .class_ 34), (0, u "com/example/copse/copse/ArcEqualsPinLaw"), (2, u "law"), (0, u "(IIJIIJ)Z")] 3

def k1m0 : Method := { name := "<init>", desc := "()V", sig := { parameters := [], returnType := none }, accessFlags := 1, code := none }
def k1c1 : Code := { maxStack := 6, maxLocals := 21, code := code, exceptionTable := #[], attributes := #[] }
def k1m1 : Method := { name := "law", desc := "(IIJIIJ)Z", sig := { parameters := [.int, .int, .long, .int, .int, .long], returnType := some .boolean }, accessFlags := 9, code := some k1c1 }
/-- com/example/copse/copse/ArcEqualsPinLaw -/
def k1 : Class := { plain "com/example/copse/copse/ArcEqualsPinLaw" (some 0) with
  accessFlags := 49
  interfaces := #[]
  cf := some (fileOf pool1 33 #[] #[{ accessFlags := 1, nameIndex := 5, descriptorIndex := 6, attributes := #[] }, { accessFlags := 9, nameIndex := 37, descriptorIndex := 38, attributes := #[] }] 49 2 #[] #[])
  fields := #[]
  methods := #[k1m0, k1m1]
  instanceTypes := #[]
  staticTypes := #[]
  resolved := Array.replicate 42 none
  statics := none }

def pool2 : Array CpInfo := pool [(1, .class_ 2), (0, u "java/lang/Math"), (1, .class_ 6), (1, u "java/lang/Object"), (0, u "<init>"), (0, u "()V"), (89, .class_ 100), (1, u "java/lang/Math$RandomNumberGeneratorHolder"), (71, u "negativeZeroFloatBits"), (0, u "J"), (2, u "negativeZeroDoubleBits"), (21, u "max"), (46, u "$assertionsDisabled"), (0, u "Z"), (88, u "(II)I"), (2, u "twoToTheDoubleScaleDown"), (0, u "D"), (4, u "twoToTheDoubleScaleUp"), (9, u "E"), (3, u "PI"), (2, u "TAU"), (2, u "DEGREES_TO_RADIANS"), (0, u "RADIANS_TO_DEGREES")] 94

def k2m0 : Method := { name := "<init>", desc := "()V", sig := { parameters := [], returnType := none }, accessFlags := 2, code := none }
def k2c1 : Code := { maxStack := 2, maxLocals := 2, code := jdk_29_method_65_code, exceptionTable := #[], attributes := #[] }
def k2m1 : Method := { name := "max", desc := "(II)I", sig := { parameters := [.int, .int], returnType := some .int }, accessFlags := 9, code := some k2c1 }
/-- java/lang/Math -/
def k2 : Class := { plain "java/lang/Math" (some 0) with
  accessFlags := 49
  interfaces := #[]
  cf := some (fileOf pool2 1 #[.nestMembers #[98]] #[{ accessFlags := 2, nameIndex := 7, descriptorIndex := 8, attributes := #[] }, { accessFlags := 9, nameIndex := 198, descriptorIndex := 335, attributes := #[] }] 49 4 #[] #[{ accessFlags := 25, nameIndex := 354, descriptorIndex := 339, attributes := #[] }, { accessFlags := 25, nameIndex := 358, descriptorIndex := 339, attributes := #[] }, { accessFlags := 25, nameIndex := 361, descriptorIndex := 339, attributes := #[] }, { accessFlags := 26, nameIndex := 364, descriptorIndex := 339, attributes := #[] }, { accessFlags := 26, nameIndex := 365, descriptorIndex := 339, attributes := #[] }, { accessFlags := 26, nameIndex := 172, descriptorIndex := 173, attributes := #[] }, { accessFlags := 26, nameIndex := 176, descriptorIndex := 173, attributes := #[] }, { accessFlags := 8, nameIndex := 344, descriptorIndex := 339, attributes := #[] }, { accessFlags := 8, nameIndex := 338, descriptorIndex := 339, attributes := #[] }, { accessFlags := 4120, nameIndex := 245, descriptorIndex := 246, attributes := #[] }])
  fields := #[{ name := "E", type := .double, accessFlags := 25, slot := 0, constantValue := 0 }, { name := "PI", type := .double, accessFlags := 25, slot := 1, constantValue := 0 }, { name := "TAU", type := .double, accessFlags := 25, slot := 2, constantValue := 0 }, { name := "DEGREES_TO_RADIANS", type := .double, accessFlags := 26, slot := 3, constantValue := 0 }, { name := "RADIANS_TO_DEGREES", type := .double, accessFlags := 26, slot := 4, constantValue := 0 }, { name := "negativeZeroFloatBits", type := .long, accessFlags := 26, slot := 5, constantValue := 0 }, { name := "negativeZeroDoubleBits", type := .long, accessFlags := 26, slot := 6, constantValue := 0 }, { name := "twoToTheDoubleScaleUp", type := .double, accessFlags := 8, slot := 7, constantValue := 0 }, { name := "twoToTheDoubleScaleDown", type := .double, accessFlags := 8, slot := 8, constantValue := 0 }, { name := "$assertionsDisabled", type := .boolean, accessFlags := 4120, slot := 9, constantValue := 0 }]
  methods := #[k2m0, k2m1]
  instanceTypes := #[]
  staticTypes := #[.double, .double, .double, .double, .double, .long, .long, .double, .double, .boolean]
  resolved := Array.replicate 460 none
  statics := none }

def pool3 : Array CpInfo := pool [(1, .methodref 2 3), (0, .class_ 4), (0, .nameAndType 5 6), (0, u "java/lang/Object"), (0, u "<init>"), (0, u "()V"), (0, .class_ 8), (0, u "java/lang/Record")] 13

def k3c0 : Code := { maxStack := 1, maxLocals := 1, code := jdk_30_method_1_code, exceptionTable := #[], attributes := #[] }
def k3m0 : Method := { name := "<init>", desc := "()V", sig := { parameters := [], returnType := none }, accessFlags := 4, code := some k3c0 }
/-- java/lang/Record -/
def k3 : Class := { plain "java/lang/Record" (some 0) with
  accessFlags := 1057
  interfaces := #[]
  cf := some (fileOf pool3 7 #[] #[{ accessFlags := 4, nameIndex := 5, descriptorIndex := 6, attributes := #[] }] 1057 2 #[] #[])
  fields := #[]
  methods := #[k3m0]
  instanceTypes := #[]
  staticTypes := #[]
  resolved := Array.replicate 22 none
  statics := none }

def pool4 : Array CpInfo := pool [(1, .methodref 2 3), (0, .class_ 4), (0, .nameAndType 5 6), (0, u "java/lang/Record"), (0, u "<init>"), (0, u "()V"), (12, .fieldref 20 21), (0, .class_ 22), (0, .nameAndType 23 24), (0, u "com/example/copse/copse/Arc"), (0, u "tail"), (0, u "I"), (0, .fieldref 20 26), (0, .nameAndType 27 24), (0, u "head"), (0, .fieldref 20 29), (0, .nameAndType 30 31), (0, u "weight"), (0, u "J"), (8, u "(IIJ)V"), (9, u "equals"), (0, u "(Ljava/lang/Object;)Z")] 36

def k4c0 : Code := { maxStack := 4, maxLocals := 5, code := prog_4_method_1_code, exceptionTable := #[], attributes := #[] }
def k4m0 : Method := { name := "<init>", desc := "(IIJ)V", sig := { parameters := [.int, .int, .long], returnType := none }, accessFlags := 1, code := some k4c0 }
def k4c1 : Code := { maxStack := 4, maxLocals := 3, code := prog_4_method_3_code, exceptionTable := #[], attributes := #[] }
def k4m1 : Method := { name := "equals", desc := "(Ljava/lang/Object;)Z", sig := { parameters := [(.object "java/lang/Object")], returnType := some .boolean }, accessFlags := 1, code := some k4c1 }
/-- com/example/copse/copse/Arc -/
def k4 : Class := { plain "com/example/copse/copse/Arc" (some 3) with
  accessFlags := 49
  interfaces := #[]
  cf := some (fileOf pool4 20 #[] #[{ accessFlags := 1, nameIndex := 5, descriptorIndex := 40, attributes := #[] }, { accessFlags := 1, nameIndex := 50, descriptorIndex := 51, attributes := #[] }] 49 2 #[] #[{ accessFlags := 18, nameIndex := 23, descriptorIndex := 24, attributes := #[] }, { accessFlags := 18, nameIndex := 27, descriptorIndex := 24, attributes := #[] }, { accessFlags := 18, nameIndex := 30, descriptorIndex := 31, attributes := #[] }])
  fields := #[{ name := "tail", type := .int, accessFlags := 18, slot := 0, constantValue := 0 }, { name := "head", type := .int, accessFlags := 18, slot := 1, constantValue := 0 }, { name := "weight", type := .long, accessFlags := 18, slot := 2, constantValue := 0 }]
  methods := #[k4m0, k4m1]
  instanceTypes := #[.int, .int, .long]
  staticTypes := #[]
  resolved := Array.replicate 88 none
  statics := none }

def pool5 : Array CpInfo := pool [(1, .class_ 2), (0, u "java/io/Serializable"), (0, .class_ 4), (0, u "java/lang/Object")] 2

/-- java/io/Serializable -/
def k5 : Class := { plain "java/io/Serializable" (some 0) with
  accessFlags := 1537
  interfaces := #[]
  cf := some (fileOf pool5 1 #[] #[] 1537 3 #[] #[])
  fields := #[]
  methods := #[]
  instanceTypes := #[]
  staticTypes := #[]
  resolved := Array.replicate 7 none
  statics := none }

def pool6 : Array CpInfo := pool [(1, .methodref 2 3), (0, .class_ 4), (0, .nameAndType 5 6), (0, u "java/lang/Object"), (0, u "<init>"), (0, u "()V"), (1, .class_ 10), (1, u "java/lang/Number"), (2, .class_ 14), (0, u "java/io/Serializable"), (0, u "serialVersionUID"), (0, u "J")] 20

def k6c0 : Code := { maxStack := 1, maxLocals := 1, code := jdk_18_method_1_code, exceptionTable := #[], attributes := #[] }
def k6m0 : Method := { name := "<init>", desc := "()V", sig := { parameters := [], returnType := none }, accessFlags := 1, code := some k6c0 }
/-- java/lang/Number -/
def k6 : Class := { plain "java/lang/Number" (some 0) with
  accessFlags := 1057
  interfaces := #[5]
  cf := some (fileOf pool6 8 #[] #[{ accessFlags := 1, nameIndex := 5, descriptorIndex := 6, attributes := #[] }] 1057 2 #[13] #[{ accessFlags := 26, nameIndex := 15, descriptorIndex := 16, attributes := #[] }])
  fields := #[{ name := "serialVersionUID", type := .long, accessFlags := 26, slot := 0, constantValue := 0 }]
  methods := #[k6m0]
  instanceTypes := #[]
  staticTypes := #[.long]
  resolved := Array.replicate 37 none
  statics := none }

def pool7 : Array CpInfo := pool [(1, .class_ 2), (0, u "java/lang/Comparable"), (0, .class_ 4), (0, u "java/lang/Object")] 7

/-- java/lang/Comparable -/
def k7 : Class := { plain "java/lang/Comparable" (some 0) with
  accessFlags := 1537
  interfaces := #[]
  cf := some (fileOf pool7 1 #[] #[] 1537 3 #[] #[])
  fields := #[]
  methods := #[]
  instanceTypes := #[]
  staticTypes := #[]
  resolved := Array.replicate 12 none
  statics := none }

def pool8 : Array CpInfo := pool [(1, .class_ 2), (0, u "java/lang/constant/Constable"), (0, .class_ 4), (0, u "java/lang/Object")] 6

/-- java/lang/constant/Constable -/
def k8 : Class := { plain "java/lang/constant/Constable" (some 0) with
  accessFlags := 1537
  interfaces := #[]
  cf := some (fileOf pool8 1 #[] #[] 1537 3 #[] #[])
  fields := #[]
  methods := #[]
  instanceTypes := #[]
  staticTypes := #[]
  resolved := Array.replicate 11 none
  statics := none }

def pool9 : Array CpInfo := pool [(1, .class_ 2), (0, u "java/lang/constant/ConstantDesc"), (0, .class_ 4), (0, u "java/lang/Object")] 32

/-- java/lang/constant/ConstantDesc -/
def k9 : Class := { plain "java/lang/constant/ConstantDesc" (some 0) with
  accessFlags := 1537
  interfaces := #[]
  cf := some (fileOf pool9 1 #[] #[] 1537 3 #[] #[])
  fields := #[]
  methods := #[]
  instanceTypes := #[]
  staticTypes := #[]
  resolved := Array.replicate 37 none
  statics := none }

def pool10 : Array CpInfo := pool [(1, .class_ 2), (0, u "java/lang/Integer"), (16, u "digits"), (0, u "[C"), (46, u "<init>"), (17, u "DigitOnes"), (0, u "[B"), (2, u "DigitTens"), (10, .nameAndType 67 101), (0, u "()V"), (85, u "valueOf"), (0, u "(I)Ljava/lang/Integer;"), (0, .class_ 190), (0, u "java/lang/Integer$IntegerCache"), (0, .fieldref 189 192), (0, .nameAndType 193 194), (0, u "high"), (0, u "I"), (0, .fieldref 189 196), (0, .nameAndType 197 198), (0, u "cache"), (0, u "[Ljava/lang/Integer;"), (0, .methodref 1 200), (0, .nameAndType 67 201), (0, u "(I)V"), (0, .methodref 203 100), (0, .class_ 204), (0, u "java/lang/Number"), (0, .fieldref 1 206), (0, .nameAndType 207 194), (0, u "value"), (94, u "TYPE"), (0, u "Ljava/lang/Class;"), (0, .class_ 305), (0, u "java/lang/Comparable"), (0, .class_ 307), (0, u "java/lang/constant/Constable"), (0, .class_ 309), (0, u "java/lang/constant/ConstantDesc"), (0, u "MIN_VALUE"), (1, u "MAX_VALUE"), (3, u "SIZE"), (1, u "BYTES"), (1, u "serialVersionUID"), (0, u "J")] 131

def k10c0 : Code := { maxStack := 3, maxLocals := 1, code := jdk_33_method_22_code, exceptionTable := #[], attributes := #[] }
def k10m0 : Method := { name := "valueOf", desc := "(I)Ljava/lang/Integer;", sig := { parameters := [.int], returnType := some (.object "java/lang/Integer") }, accessFlags := 9, code := some k10c0 }
def k10c1 : Code := { maxStack := 2, maxLocals := 2, code := jdk_33_method_23_code, exceptionTable := #[], attributes := #[] }
def k10m1 : Method := { name := "<init>", desc := "(I)V", sig := { parameters := [.int], returnType := none }, accessFlags := 1, code := some k10c1 }
/-- java/lang/Integer -/
def k10 : Class := { plain "java/lang/Integer" (some 6) with
  accessFlags := 49
  interfaces := #[7, 8, 9]
  cf := some (fileOf pool10 1 #[.nestMembers #[189]] #[{ accessFlags := 9, nameIndex := 187, descriptorIndex := 188, attributes := #[] }, { accessFlags := 1, nameIndex := 67, descriptorIndex := 201, attributes := #[] }] 49 203 #[304, 306, 308] #[{ accessFlags := 25, nameIndex := 310, descriptorIndex := 194, attributes := #[] }, { accessFlags := 25, nameIndex := 312, descriptorIndex := 194, attributes := #[] }, { accessFlags := 25, nameIndex := 302, descriptorIndex := 303, attributes := #[] }, { accessFlags := 24, nameIndex := 19, descriptorIndex := 20, attributes := #[] }, { accessFlags := 24, nameIndex := 89, descriptorIndex := 86, attributes := #[] }, { accessFlags := 24, nameIndex := 85, descriptorIndex := 86, attributes := #[] }, { accessFlags := 18, nameIndex := 207, descriptorIndex := 194, attributes := #[] }, { accessFlags := 25, nameIndex := 316, descriptorIndex := 194, attributes := #[] }, { accessFlags := 25, nameIndex := 318, descriptorIndex := 194, attributes := #[] }, { accessFlags := 26, nameIndex := 320, descriptorIndex := 321, attributes := #[] }])
  fields := #[{ name := "MIN_VALUE", type := .int, accessFlags := 25, slot := 0, constantValue := 0 }, { name := "MAX_VALUE", type := .int, accessFlags := 25, slot := 1, constantValue := 0 }, { name := "TYPE", type := (.object "java/lang/Class"), accessFlags := 25, slot := 2, constantValue := 0 }, { name := "digits", type := (.array .char), accessFlags := 24, slot := 3, constantValue := 0 }, { name := "DigitTens", type := (.array .byte), accessFlags := 24, slot := 4, constantValue := 0 }, { name := "DigitOnes", type := (.array .byte), accessFlags := 24, slot := 5, constantValue := 0 }, { name := "value", type := .int, accessFlags := 18, slot := 0, constantValue := 0 }, { name := "SIZE", type := .int, accessFlags := 25, slot := 6, constantValue := 0 }, { name := "BYTES", type := .int, accessFlags := 25, slot := 7, constantValue := 0 }, { name := "serialVersionUID", type := .long, accessFlags := 26, slot := 8, constantValue := 0 }]
  methods := #[k10m0, k10m1]
  instanceTypes := #[.int]
  staticTypes := #[.int, .int, (.object "java/lang/Class"), (.array .char), (.array .byte), (.array .byte), .int, .int, .long]
  resolved := Array.replicate 453 none
  statics := none }

def pool11 : Array CpInfo := pool [(2, .class_ 4), (1, u "java/lang/Object"), (0, u "<init>"), (0, u "()V"), (0, .class_ 8), (0, u "java/lang/Integer"), (7, .class_ 18), (1, u "java/lang/Integer$IntegerCache"), (0, u "$assertionsDisabled"), (0, u "Z"), (26, u "high"), (0, u "I"), (8, u "archivedCache"), (0, u "[Ljava/lang/Integer;"), (12, u "cache"), (0, u "low")] 27

def k11m0 : Method := { name := "<init>", desc := "()V", sig := { parameters := [], returnType := none }, accessFlags := 2, code := none }
/-- java/lang/Integer$IntegerCache -/
def k11 : Class := { plain "java/lang/Integer$IntegerCache" (some 0) with
  accessFlags := 48
  interfaces := #[]
  cf := some (fileOf pool11 16 #[.nestHost 7] #[{ accessFlags := 2, nameIndex := 5, descriptorIndex := 6, attributes := #[] }] 48 2 #[] #[{ accessFlags := 24, nameIndex := 72, descriptorIndex := 48, attributes := #[] }, { accessFlags := 24, nameIndex := 47, descriptorIndex := 48, attributes := #[] }, { accessFlags := 24, nameIndex := 71, descriptorIndex := 58, attributes := #[] }, { accessFlags := 8, nameIndex := 57, descriptorIndex := 58, attributes := #[] }, { accessFlags := 4120, nameIndex := 19, descriptorIndex := 20, attributes := #[] }])
  fields := #[{ name := "low", type := .int, accessFlags := 24, slot := 0, constantValue := 0 }, { name := "high", type := .int, accessFlags := 24, slot := 1, constantValue := 0 }, { name := "cache", type := (.array (.object "java/lang/Integer")), accessFlags := 24, slot := 2, constantValue := 0 }, { name := "archivedCache", type := (.array (.object "java/lang/Integer")), accessFlags := 8, slot := 3, constantValue := 0 }, { name := "$assertionsDisabled", type := .boolean, accessFlags := 4120, slot := 4, constantValue := 0 }]
  methods := #[k11m0]
  instanceTypes := #[]
  staticTypes := #[.int, .int, (.array (.object "java/lang/Integer")), (.array (.object "java/lang/Integer")), .boolean]
  resolved := Array.replicate 100 none
  statics := some 0 }

def pool12 : Array CpInfo := pool [(1, u "java/lang/Cloneable"), (0, .class_ 1), (0, u "java/lang/Object"), (0, .class_ 3)] 3

/-- java/lang/Cloneable -/
def k12 : Class := { plain "java/lang/Cloneable" (some 0) with
  accessFlags := 1537
  interfaces := #[]
  cf := some (fileOf pool12 2 #[] #[] 1537 4 #[] #[])
  fields := #[]
  methods := #[]
  instanceTypes := #[]
  staticTypes := #[]
  resolved := Array.replicate 8 none
  statics := none }

/-- the primitive byte -/
def k13 : Class := { plain "byte" none with kind := .primitive 'B', accessFlags := 0x411 }
/-- [B -/
def k14 : Class := { plain "[B" (some 0) with kind := .array 13 .byte, interfaces := #[12, 5], accessFlags := 1041 }

/-- the primitive int -/
def k15 : Class := { plain "int" none with kind := .primitive 'I', accessFlags := 0x411 }
/-- [I -/
def k16 : Class := { plain "[I" (some 0) with kind := .array 15 .int, interfaces := #[12, 5], accessFlags := 1041 }

/-- [Ljava/lang/Integer; -/
def k17 : Class := { plain "[Ljava/lang/Integer;" (some 0) with kind := .array 10 (.object "java/lang/Integer"), interfaces := #[12, 5], accessFlags := 1041 }

def heap : Heap := #[{ cls := 11, slots := #[.int 0, .int 127, .ref 1, .null, .int 0], vm := .statics 11 },
  { cls := 17, slots := #[.ref 2, .ref 3, .ref 4, .ref 5, .ref 6, .ref 7, .ref 8, .ref 9, .ref 10, .ref 11, .ref 12, .ref 13, .ref 14, .ref 15, .ref 16, .ref 17, .ref 18, .ref 19, .ref 20, .ref 21, .ref 22, .ref 23, .ref 24, .ref 25, .ref 26, .ref 27, .ref 28, .ref 29, .ref 30, .ref 31, .ref 32, .ref 33, .ref 34, .ref 35, .ref 36, .ref 37, .ref 38, .ref 39, .ref 40, .ref 41, .ref 42, .ref 43, .ref 44, .ref 45, .ref 46, .ref 47, .ref 48, .ref 49, .ref 50, .ref 51, .ref 52, .ref 53, .ref 54, .ref 55, .ref 56, .ref 57, .ref 58, .ref 59, .ref 60, .ref 61, .ref 62, .ref 63, .ref 64, .ref 65, .ref 66, .ref 67, .ref 68, .ref 69, .ref 70, .ref 71, .ref 72, .ref 73, .ref 74, .ref 75, .ref 76, .ref 77, .ref 78, .ref 79, .ref 80, .ref 81, .ref 82, .ref 83, .ref 84, .ref 85, .ref 86, .ref 87, .ref 88, .ref 89, .ref 90, .ref 91, .ref 92, .ref 93, .ref 94, .ref 95, .ref 96, .ref 97, .ref 98, .ref 99, .ref 100, .ref 101, .ref 102, .ref 103, .ref 104, .ref 105, .ref 106, .ref 107, .ref 108, .ref 109, .ref 110, .ref 111, .ref 112, .ref 113, .ref 114, .ref 115, .ref 116, .ref 117, .ref 118, .ref 119, .ref 120, .ref 121, .ref 122, .ref 123, .ref 124, .ref 125, .ref 126, .ref 127, .ref 128, .ref 129, .ref 130, .ref 131, .ref 132, .ref 133, .ref 134, .ref 135, .ref 136, .ref 137, .ref 138, .ref 139, .ref 140, .ref 141, .ref 142, .ref 143, .ref 144, .ref 145, .ref 146, .ref 147, .ref 148, .ref 149, .ref 150, .ref 151, .ref 152, .ref 153, .ref 154, .ref 155, .ref 156, .ref 157, .ref 158, .ref 159, .ref 160, .ref 161, .ref 162, .ref 163, .ref 164, .ref 165, .ref 166, .ref 167, .ref 168, .ref 169, .ref 170, .ref 171, .ref 172, .ref 173, .ref 174, .ref 175, .ref 176, .ref 177, .ref 178, .ref 179, .ref 180, .ref 181, .ref 182, .ref 183, .ref 184, .ref 185, .ref 186, .ref 187, .ref 188, .ref 189, .ref 190, .ref 191, .ref 192, .ref 193, .ref 194, .ref 195, .ref 196, .ref 197, .ref 198, .ref 199, .ref 200, .ref 201, .ref 202, .ref 203, .ref 204, .ref 205, .ref 206, .ref 207, .ref 208, .ref 209, .ref 210, .ref 211, .ref 212, .ref 213, .ref 214, .ref 215, .ref 216, .ref 217, .ref 218, .ref 219, .ref 220, .ref 221, .ref 222, .ref 223, .ref 224, .ref 225, .ref 226, .ref 227, .ref 228, .ref 229, .ref 230, .ref 231, .ref 232, .ref 233, .ref 234, .ref 235, .ref 236, .ref 237, .ref 238, .ref 239, .ref 240, .ref 241, .ref 242, .ref 243, .ref 244, .ref 245, .ref 246, .ref 247, .ref 248, .ref 249, .ref 250, .ref 251, .ref 252, .ref 253, .ref 254, .ref 255, .ref 256, .ref 257], vm := .none },
  { cls := 10, slots := #[.int (-128)], vm := .none },
  { cls := 10, slots := #[.int (-127)], vm := .none },
  { cls := 10, slots := #[.int (-126)], vm := .none },
  { cls := 10, slots := #[.int (-125)], vm := .none },
  { cls := 10, slots := #[.int (-124)], vm := .none },
  { cls := 10, slots := #[.int (-123)], vm := .none },
  { cls := 10, slots := #[.int (-122)], vm := .none },
  { cls := 10, slots := #[.int (-121)], vm := .none },
  { cls := 10, slots := #[.int (-120)], vm := .none },
  { cls := 10, slots := #[.int (-119)], vm := .none },
  { cls := 10, slots := #[.int (-118)], vm := .none },
  { cls := 10, slots := #[.int (-117)], vm := .none },
  { cls := 10, slots := #[.int (-116)], vm := .none },
  { cls := 10, slots := #[.int (-115)], vm := .none },
  { cls := 10, slots := #[.int (-114)], vm := .none },
  { cls := 10, slots := #[.int (-113)], vm := .none },
  { cls := 10, slots := #[.int (-112)], vm := .none },
  { cls := 10, slots := #[.int (-111)], vm := .none },
  { cls := 10, slots := #[.int (-110)], vm := .none },
  { cls := 10, slots := #[.int (-109)], vm := .none },
  { cls := 10, slots := #[.int (-108)], vm := .none },
  { cls := 10, slots := #[.int (-107)], vm := .none },
  { cls := 10, slots := #[.int (-106)], vm := .none },
  { cls := 10, slots := #[.int (-105)], vm := .none },
  { cls := 10, slots := #[.int (-104)], vm := .none },
  { cls := 10, slots := #[.int (-103)], vm := .none },
  { cls := 10, slots := #[.int (-102)], vm := .none },
  { cls := 10, slots := #[.int (-101)], vm := .none },
  { cls := 10, slots := #[.int (-100)], vm := .none },
  { cls := 10, slots := #[.int (-99)], vm := .none },
  { cls := 10, slots := #[.int (-98)], vm := .none },
  { cls := 10, slots := #[.int (-97)], vm := .none },
  { cls := 10, slots := #[.int (-96)], vm := .none },
  { cls := 10, slots := #[.int (-95)], vm := .none },
  { cls := 10, slots := #[.int (-94)], vm := .none },
  { cls := 10, slots := #[.int (-93)], vm := .none },
  { cls := 10, slots := #[.int (-92)], vm := .none },
  { cls := 10, slots := #[.int (-91)], vm := .none },
  { cls := 10, slots := #[.int (-90)], vm := .none },
  { cls := 10, slots := #[.int (-89)], vm := .none },
  { cls := 10, slots := #[.int (-88)], vm := .none },
  { cls := 10, slots := #[.int (-87)], vm := .none },
  { cls := 10, slots := #[.int (-86)], vm := .none },
  { cls := 10, slots := #[.int (-85)], vm := .none },
  { cls := 10, slots := #[.int (-84)], vm := .none },
  { cls := 10, slots := #[.int (-83)], vm := .none },
  { cls := 10, slots := #[.int (-82)], vm := .none },
  { cls := 10, slots := #[.int (-81)], vm := .none },
  { cls := 10, slots := #[.int (-80)], vm := .none },
  { cls := 10, slots := #[.int (-79)], vm := .none },
  { cls := 10, slots := #[.int (-78)], vm := .none },
  { cls := 10, slots := #[.int (-77)], vm := .none },
  { cls := 10, slots := #[.int (-76)], vm := .none },
  { cls := 10, slots := #[.int (-75)], vm := .none },
  { cls := 10, slots := #[.int (-74)], vm := .none },
  { cls := 10, slots := #[.int (-73)], vm := .none },
  { cls := 10, slots := #[.int (-72)], vm := .none },
  { cls := 10, slots := #[.int (-71)], vm := .none },
  { cls := 10, slots := #[.int (-70)], vm := .none },
  { cls := 10, slots := #[.int (-69)], vm := .none },
  { cls := 10, slots := #[.int (-68)], vm := .none },
  { cls := 10, slots := #[.int (-67)], vm := .none },
  { cls := 10, slots := #[.int (-66)], vm := .none },
  { cls := 10, slots := #[.int (-65)], vm := .none },
  { cls := 10, slots := #[.int (-64)], vm := .none },
  { cls := 10, slots := #[.int (-63)], vm := .none },
  { cls := 10, slots := #[.int (-62)], vm := .none },
  { cls := 10, slots := #[.int (-61)], vm := .none },
  { cls := 10, slots := #[.int (-60)], vm := .none },
  { cls := 10, slots := #[.int (-59)], vm := .none },
  { cls := 10, slots := #[.int (-58)], vm := .none },
  { cls := 10, slots := #[.int (-57)], vm := .none },
  { cls := 10, slots := #[.int (-56)], vm := .none },
  { cls := 10, slots := #[.int (-55)], vm := .none },
  { cls := 10, slots := #[.int (-54)], vm := .none },
  { cls := 10, slots := #[.int (-53)], vm := .none },
  { cls := 10, slots := #[.int (-52)], vm := .none },
  { cls := 10, slots := #[.int (-51)], vm := .none },
  { cls := 10, slots := #[.int (-50)], vm := .none },
  { cls := 10, slots := #[.int (-49)], vm := .none },
  { cls := 10, slots := #[.int (-48)], vm := .none },
  { cls := 10, slots := #[.int (-47)], vm := .none },
  { cls := 10, slots := #[.int (-46)], vm := .none },
  { cls := 10, slots := #[.int (-45)], vm := .none },
  { cls := 10, slots := #[.int (-44)], vm := .none },
  { cls := 10, slots := #[.int (-43)], vm := .none },
  { cls := 10, slots := #[.int (-42)], vm := .none },
  { cls := 10, slots := #[.int (-41)], vm := .none },
  { cls := 10, slots := #[.int (-40)], vm := .none },
  { cls := 10, slots := #[.int (-39)], vm := .none },
  { cls := 10, slots := #[.int (-38)], vm := .none },
  { cls := 10, slots := #[.int (-37)], vm := .none },
  { cls := 10, slots := #[.int (-36)], vm := .none },
  { cls := 10, slots := #[.int (-35)], vm := .none },
  { cls := 10, slots := #[.int (-34)], vm := .none },
  { cls := 10, slots := #[.int (-33)], vm := .none },
  { cls := 10, slots := #[.int (-32)], vm := .none },
  { cls := 10, slots := #[.int (-31)], vm := .none },
  { cls := 10, slots := #[.int (-30)], vm := .none },
  { cls := 10, slots := #[.int (-29)], vm := .none },
  { cls := 10, slots := #[.int (-28)], vm := .none },
  { cls := 10, slots := #[.int (-27)], vm := .none },
  { cls := 10, slots := #[.int (-26)], vm := .none },
  { cls := 10, slots := #[.int (-25)], vm := .none },
  { cls := 10, slots := #[.int (-24)], vm := .none },
  { cls := 10, slots := #[.int (-23)], vm := .none },
  { cls := 10, slots := #[.int (-22)], vm := .none },
  { cls := 10, slots := #[.int (-21)], vm := .none },
  { cls := 10, slots := #[.int (-20)], vm := .none },
  { cls := 10, slots := #[.int (-19)], vm := .none },
  { cls := 10, slots := #[.int (-18)], vm := .none },
  { cls := 10, slots := #[.int (-17)], vm := .none },
  { cls := 10, slots := #[.int (-16)], vm := .none },
  { cls := 10, slots := #[.int (-15)], vm := .none },
  { cls := 10, slots := #[.int (-14)], vm := .none },
  { cls := 10, slots := #[.int (-13)], vm := .none },
  { cls := 10, slots := #[.int (-12)], vm := .none },
  { cls := 10, slots := #[.int (-11)], vm := .none },
  { cls := 10, slots := #[.int (-10)], vm := .none },
  { cls := 10, slots := #[.int (-9)], vm := .none },
  { cls := 10, slots := #[.int (-8)], vm := .none },
  { cls := 10, slots := #[.int (-7)], vm := .none },
  { cls := 10, slots := #[.int (-6)], vm := .none },
  { cls := 10, slots := #[.int (-5)], vm := .none },
  { cls := 10, slots := #[.int (-4)], vm := .none },
  { cls := 10, slots := #[.int (-3)], vm := .none },
  { cls := 10, slots := #[.int (-2)], vm := .none },
  { cls := 10, slots := #[.int (-1)], vm := .none },
  { cls := 10, slots := #[.int 0], vm := .none },
  { cls := 10, slots := #[.int 1], vm := .none },
  { cls := 10, slots := #[.int 2], vm := .none },
  { cls := 10, slots := #[.int 3], vm := .none },
  { cls := 10, slots := #[.int 4], vm := .none },
  { cls := 10, slots := #[.int 5], vm := .none },
  { cls := 10, slots := #[.int 6], vm := .none },
  { cls := 10, slots := #[.int 7], vm := .none },
  { cls := 10, slots := #[.int 8], vm := .none },
  { cls := 10, slots := #[.int 9], vm := .none },
  { cls := 10, slots := #[.int 10], vm := .none },
  { cls := 10, slots := #[.int 11], vm := .none },
  { cls := 10, slots := #[.int 12], vm := .none },
  { cls := 10, slots := #[.int 13], vm := .none },
  { cls := 10, slots := #[.int 14], vm := .none },
  { cls := 10, slots := #[.int 15], vm := .none },
  { cls := 10, slots := #[.int 16], vm := .none },
  { cls := 10, slots := #[.int 17], vm := .none },
  { cls := 10, slots := #[.int 18], vm := .none },
  { cls := 10, slots := #[.int 19], vm := .none },
  { cls := 10, slots := #[.int 20], vm := .none },
  { cls := 10, slots := #[.int 21], vm := .none },
  { cls := 10, slots := #[.int 22], vm := .none },
  { cls := 10, slots := #[.int 23], vm := .none },
  { cls := 10, slots := #[.int 24], vm := .none },
  { cls := 10, slots := #[.int 25], vm := .none },
  { cls := 10, slots := #[.int 26], vm := .none },
  { cls := 10, slots := #[.int 27], vm := .none },
  { cls := 10, slots := #[.int 28], vm := .none },
  { cls := 10, slots := #[.int 29], vm := .none },
  { cls := 10, slots := #[.int 30], vm := .none },
  { cls := 10, slots := #[.int 31], vm := .none },
  { cls := 10, slots := #[.int 32], vm := .none },
  { cls := 10, slots := #[.int 33], vm := .none },
  { cls := 10, slots := #[.int 34], vm := .none },
  { cls := 10, slots := #[.int 35], vm := .none },
  { cls := 10, slots := #[.int 36], vm := .none },
  { cls := 10, slots := #[.int 37], vm := .none },
  { cls := 10, slots := #[.int 38], vm := .none },
  { cls := 10, slots := #[.int 39], vm := .none },
  { cls := 10, slots := #[.int 40], vm := .none },
  { cls := 10, slots := #[.int 41], vm := .none },
  { cls := 10, slots := #[.int 42], vm := .none },
  { cls := 10, slots := #[.int 43], vm := .none },
  { cls := 10, slots := #[.int 44], vm := .none },
  { cls := 10, slots := #[.int 45], vm := .none },
  { cls := 10, slots := #[.int 46], vm := .none },
  { cls := 10, slots := #[.int 47], vm := .none },
  { cls := 10, slots := #[.int 48], vm := .none },
  { cls := 10, slots := #[.int 49], vm := .none },
  { cls := 10, slots := #[.int 50], vm := .none },
  { cls := 10, slots := #[.int 51], vm := .none },
  { cls := 10, slots := #[.int 52], vm := .none },
  { cls := 10, slots := #[.int 53], vm := .none },
  { cls := 10, slots := #[.int 54], vm := .none },
  { cls := 10, slots := #[.int 55], vm := .none },
  { cls := 10, slots := #[.int 56], vm := .none },
  { cls := 10, slots := #[.int 57], vm := .none },
  { cls := 10, slots := #[.int 58], vm := .none },
  { cls := 10, slots := #[.int 59], vm := .none },
  { cls := 10, slots := #[.int 60], vm := .none },
  { cls := 10, slots := #[.int 61], vm := .none },
  { cls := 10, slots := #[.int 62], vm := .none },
  { cls := 10, slots := #[.int 63], vm := .none },
  { cls := 10, slots := #[.int 64], vm := .none },
  { cls := 10, slots := #[.int 65], vm := .none },
  { cls := 10, slots := #[.int 66], vm := .none },
  { cls := 10, slots := #[.int 67], vm := .none },
  { cls := 10, slots := #[.int 68], vm := .none },
  { cls := 10, slots := #[.int 69], vm := .none },
  { cls := 10, slots := #[.int 70], vm := .none },
  { cls := 10, slots := #[.int 71], vm := .none },
  { cls := 10, slots := #[.int 72], vm := .none },
  { cls := 10, slots := #[.int 73], vm := .none },
  { cls := 10, slots := #[.int 74], vm := .none },
  { cls := 10, slots := #[.int 75], vm := .none },
  { cls := 10, slots := #[.int 76], vm := .none },
  { cls := 10, slots := #[.int 77], vm := .none },
  { cls := 10, slots := #[.int 78], vm := .none },
  { cls := 10, slots := #[.int 79], vm := .none },
  { cls := 10, slots := #[.int 80], vm := .none },
  { cls := 10, slots := #[.int 81], vm := .none },
  { cls := 10, slots := #[.int 82], vm := .none },
  { cls := 10, slots := #[.int 83], vm := .none },
  { cls := 10, slots := #[.int 84], vm := .none },
  { cls := 10, slots := #[.int 85], vm := .none },
  { cls := 10, slots := #[.int 86], vm := .none },
  { cls := 10, slots := #[.int 87], vm := .none },
  { cls := 10, slots := #[.int 88], vm := .none },
  { cls := 10, slots := #[.int 89], vm := .none },
  { cls := 10, slots := #[.int 90], vm := .none },
  { cls := 10, slots := #[.int 91], vm := .none },
  { cls := 10, slots := #[.int 92], vm := .none },
  { cls := 10, slots := #[.int 93], vm := .none },
  { cls := 10, slots := #[.int 94], vm := .none },
  { cls := 10, slots := #[.int 95], vm := .none },
  { cls := 10, slots := #[.int 96], vm := .none },
  { cls := 10, slots := #[.int 97], vm := .none },
  { cls := 10, slots := #[.int 98], vm := .none },
  { cls := 10, slots := #[.int 99], vm := .none },
  { cls := 10, slots := #[.int 100], vm := .none },
  { cls := 10, slots := #[.int 101], vm := .none },
  { cls := 10, slots := #[.int 102], vm := .none },
  { cls := 10, slots := #[.int 103], vm := .none },
  { cls := 10, slots := #[.int 104], vm := .none },
  { cls := 10, slots := #[.int 105], vm := .none },
  { cls := 10, slots := #[.int 106], vm := .none },
  { cls := 10, slots := #[.int 107], vm := .none },
  { cls := 10, slots := #[.int 108], vm := .none },
  { cls := 10, slots := #[.int 109], vm := .none },
  { cls := 10, slots := #[.int 110], vm := .none },
  { cls := 10, slots := #[.int 111], vm := .none },
  { cls := 10, slots := #[.int 112], vm := .none },
  { cls := 10, slots := #[.int 113], vm := .none },
  { cls := 10, slots := #[.int 114], vm := .none },
  { cls := 10, slots := #[.int 115], vm := .none },
  { cls := 10, slots := #[.int 116], vm := .none },
  { cls := 10, slots := #[.int 117], vm := .none },
  { cls := 10, slots := #[.int 118], vm := .none },
  { cls := 10, slots := #[.int 119], vm := .none },
  { cls := 10, slots := #[.int 120], vm := .none },
  { cls := 10, slots := #[.int 121], vm := .none },
  { cls := 10, slots := #[.int 122], vm := .none },
  { cls := 10, slots := #[.int 123], vm := .none },
  { cls := 10, slots := #[.int 124], vm := .none },
  { cls := 10, slots := #[.int 125], vm := .none },
  { cls := 10, slots := #[.int 126], vm := .none },
  { cls := 10, slots := #[.int 127], vm := .none }]
def classes : Array Class := #[k0, k1, k2, k3, k4, k5, k6, k7, k8, k9, k10, k11, k12, k13, k14, k15, k16, k17]
def interned : List (Array UInt16 × Addr) := []
def slotsUsed : Nat := 517
def theMethod : MethodId := ⟨1, 1⟩
def args0 : Array Value := #[.int 5, .int 6, .long 7, .int 8, .int 9, .long 10]
def aboutOver (below : List Frame) : State where
  vm := { classes := classes, interned := interned.toArray }
  heap := heap
  slotsUsed := slotsUsed
  threads := #[{ frames := .invoking theMethod args0 :: below }]
def below0 : List Frame := [.native { method := ⟨0, 0⟩, args := #[] }]
def about1 : State := aboutOver below0
def p0 : Program := .bare "" "" ""
def e0 : Env := launch0.env 0 0 0
theorem w_frames : about1.frames = Frame.invoking theMethod args0 :: below0 := rfl
set_option maxRecDepth 65536 in
theorem w_args : argsFit about1.vm theMethod args0 = true := by decide +kernel
set_option maxRecDepth 65536 in
theorem w_heap : heapFits about1 = true := by decide +kernel
set_option maxRecDepth 65536 in
theorem w_runnable : about1.curStatus? = some .runnable := by decide +kernel
set_option maxRecDepth 65536 in
theorem w_alone : about1.alone = true := by decide +kernel
set_option maxRecDepth 65536 in
theorem w_named : about1.methodNamed? x = some theMethod := by decide +kernel
set_option maxRecDepth 65536 in
theorem w_hears : about1.hears theMethod below0 = true := by decide +kernel
set_option maxRecDepth 65536 in
theorem w_ripe : about1.ripe theMethod args0 below0 = true := by decide +kernel
theorem w_running : about1.status = .running := rfl
set_option maxRecDepth 65536 in
theorem w_room : about1.hasRoom e0.platform room_1 = true :=
  launch0.hasRoom_least _ room_1 (by decide +kernel) (by decide +kernel) (by decide +kernel) (by decide +kernel) (by decide +kernel) (by decide +kernel)
theorem allAtoms_all (ts : List Jvm.Cond) (a : Array Jvm.Value) (st : Jvm.State) : (allAtoms ts).before a st = ts.all (fun c => c.before a st) := by
  induction ts with
  | nil => rfl
  | cons c t ih =>
    show (Jvm.Cond.and c (allAtoms t)).before a st = _
    rw [Jvm.Cond.before_and, ih, List.all_cons]
def words1 : List Jvm.Cond := Jvm.Cond.code x code maxLocals ret :: tables_1
/-- a 'code' word, met by the world's own term for the bytes: nothing is compared byte by byte -/
theorem code_word {y : MethodName} {bytes : ByteArray} {mx : Nat} {rt : Option FieldType} {a : Array Value} {s : State} {m : MethodId} {meth : Method} {c : Code} (h1 : s.methodNamed? y = some m) (h2 : s.vm.method? m = some meth) (h3 : meth.code = some c) (h4 : c.code = bytes)
    (h5 : (c.maxLocals == mx && c.exceptionTable.isEmpty && decide (c.maxStack ≤ mostOperands) && decide (meth.sig.returnType = rt) && !meth.locks && decide (parseMethodDescriptor y.desc = some meth.sig)) = true) : (Jvm.Cond.code y bytes mx rt).before a s = true := by
  simp only [Bool.and_eq_true, beq_iff_eq, Bool.not_eq_true', decide_eq_true_eq] at h5
  obtain ⟨⟨⟨⟨⟨g1, g2⟩, g3⟩, g4⟩, g5⟩, g6⟩ := h5
  simp [Cond.before, Cond.holds, Cond.value, h1, h2, h3, h4, g1, g2, g3, g4, g5, g6]
def isCode : Jvm.Cond → Bool
  | .code _ _ _ _ => true
  | _ => false
theorem all_split {L : List Jvm.Cond} {P : Jvm.Cond → Bool} (h1 : L.all (fun c => isCode c || P c) = true) (h2 : ∀ c ∈ L.filter isCode, P c = true) : L.all P = true := by
  refine List.all_eq_true.mpr fun c hc => ?_
  have h := List.all_eq_true.mp h1 c hc
  rcases Bool.eq_false_or_eq_true (isCode c) with hi | hi
  · exact h2 c (List.mem_filter.mpr ⟨hc, hi⟩)
  · simpa [hi] using h
set_option maxRecDepth 65536 in
theorem w_c0 : (Jvm.Cond.code x code maxLocals ret).before args0 about1 = true := code_word (m := ⟨1, 1⟩) (meth := k1m1) (c := k1c1) (by decide +kernel) rfl rfl rfl (by decide +kernel)
set_option maxRecDepth 65536 in
theorem w_c1 : (Jvm.Cond.code ({ cls := "java/lang/Math", name := "max", desc := "(II)I" } : Jvm.MethodName) jdk_29_method_65_code (2 : Nat) (Option.some Jvm.ClassFile.FieldType.int)).before args0 about1 = true := code_word (m := ⟨2, 1⟩) (meth := k2m1) (c := k2c1) (by decide +kernel) rfl rfl rfl (by decide +kernel)
set_option maxRecDepth 65536 in
theorem w_c2 : (Jvm.Cond.code ({ cls := "com/example/copse/copse/Arc", name := "<init>", desc := "(IIJ)V" } : Jvm.MethodName) prog_4_method_1_code (5 : Nat) (Option.none : Option Jvm.ClassFile.FieldType)).before args0 about1 = true := code_word (m := ⟨4, 0⟩) (meth := k4m0) (c := k4c0) (by decide +kernel) rfl rfl rfl (by decide +kernel)
set_option maxRecDepth 65536 in
theorem w_c3 : (Jvm.Cond.code ({ cls := "java/lang/Record", name := "<init>", desc := "()V" } : Jvm.MethodName) jdk_30_method_1_code (1 : Nat) (Option.none : Option Jvm.ClassFile.FieldType)).before args0 about1 = true := code_word (m := ⟨3, 0⟩) (meth := k3m0) (c := k3c0) (by decide +kernel) rfl rfl rfl (by decide +kernel)
set_option maxRecDepth 65536 in
theorem w_c4 : (Jvm.Cond.code ({ cls := "java/lang/Object", name := "<init>", desc := "()V" } : Jvm.MethodName) object_method_1_code (1 : Nat) (Option.none : Option Jvm.ClassFile.FieldType)).before args0 about1 = true := code_word (m := ⟨0, 0⟩) (meth := k0m0) (c := k0c0) (by decide +kernel) rfl rfl rfl (by decide +kernel)
set_option maxRecDepth 65536 in
theorem w_c5 : (Jvm.Cond.code ({ cls := "java/lang/Integer", name := "valueOf", desc := "(I)Ljava/lang/Integer;" } : Jvm.MethodName) jdk_33_method_22_code (1 : Nat) (Option.some (Jvm.ClassFile.FieldType.object "java/lang/Integer"))).before args0 about1 = true := code_word (m := ⟨10, 0⟩) (meth := k10m0) (c := k10c0) (by decide +kernel) rfl rfl rfl (by decide +kernel)
set_option maxRecDepth 65536 in
theorem w_c6 : (Jvm.Cond.code ({ cls := "com/example/copse/copse/Arc", name := "equals", desc := "(Ljava/lang/Object;)Z" } : Jvm.MethodName) prog_4_method_3_code (3 : Nat) (Option.some Jvm.ClassFile.FieldType.boolean)).before args0 about1 = true := code_word (m := ⟨4, 1⟩) (meth := k4m1) (c := k4c1) (by decide +kernel) rfl rfl rfl (by decide +kernel)
set_option maxRecDepth 65536 in
theorem w_c7 : (Jvm.Cond.code ({ cls := "java/lang/Integer", name := "<init>", desc := "(I)V" } : Jvm.MethodName) jdk_33_method_23_code (2 : Nat) (Option.none : Option Jvm.ClassFile.FieldType)).before args0 about1 = true := code_word (m := ⟨10, 1⟩) (meth := k10m1) (c := k10c1) (by decide +kernel) rfl rfl rfl (by decide +kernel)
set_option maxRecDepth 65536 in
theorem w_c8 : (Jvm.Cond.code ({ cls := "java/lang/Number", name := "<init>", desc := "()V" } : Jvm.MethodName) jdk_18_method_1_code (1 : Nat) (Option.none : Option Jvm.ClassFile.FieldType)).before args0 about1 = true := code_word (m := ⟨6, 0⟩) (meth := k6m0) (c := k6c0) (by decide +kernel) rfl rfl rfl (by decide +kernel)
def codes1 : List Jvm.Cond := [Jvm.Cond.code x code maxLocals ret, Jvm.Cond.code ({ cls := "java/lang/Math", name := "max", desc := "(II)I" } : Jvm.MethodName) jdk_29_method_65_code (2 : Nat) (Option.some Jvm.ClassFile.FieldType.int), Jvm.Cond.code ({ cls := "com/example/copse/copse/Arc", name := "<init>", desc := "(IIJ)V" } : Jvm.MethodName) prog_4_method_1_code (5 : Nat) (Option.none : Option Jvm.ClassFile.FieldType), Jvm.Cond.code ({ cls := "java/lang/Record", name := "<init>", desc := "()V" } : Jvm.MethodName) jdk_30_method_1_code (1 : Nat) (Option.none : Option Jvm.ClassFile.FieldType), Jvm.Cond.code ({ cls := "java/lang/Object", name := "<init>", desc := "()V" } : Jvm.MethodName) object_method_1_code (1 : Nat) (Option.none : Option Jvm.ClassFile.FieldType), Jvm.Cond.code ({ cls := "java/lang/Integer", name := "valueOf", desc := "(I)Ljava/lang/Integer;" } : Jvm.MethodName) jdk_33_method_22_code (1 : Nat) (Option.some (Jvm.ClassFile.FieldType.object "java/lang/Integer")), Jvm.Cond.code ({ cls := "com/example/copse/copse/Arc", name := "equals", desc := "(Ljava/lang/Object;)Z" } : Jvm.MethodName) prog_4_method_3_code (3 : Nat) (Option.some Jvm.ClassFile.FieldType.boolean), Jvm.Cond.code ({ cls := "java/lang/Integer", name := "<init>", desc := "(I)V" } : Jvm.MethodName) jdk_33_method_23_code (2 : Nat) (Option.none : Option Jvm.ClassFile.FieldType), Jvm.Cond.code ({ cls := "java/lang/Number", name := "<init>", desc := "()V" } : Jvm.MethodName) jdk_18_method_1_code (1 : Nat) (Option.none : Option Jvm.ClassFile.FieldType)]
set_option maxRecDepth 65536 in
theorem codes_eq : words1.filter isCode = codes1 := rfl
theorem w_codes : ∀ c ∈ words1.filter isCode, c.before args0 about1 = true := by
  rw [codes_eq]
  intro c hc
  simp only [codes1, List.mem_cons, List.not_mem_nil, or_false] at hc
  rcases hc with rfl | rfl | rfl | rfl | rfl | rfl | rfl | rfl | rfl
  · exact w_c0
  · exact w_c1
  · exact w_c2
  · exact w_c3
  · exact w_c4
  · exact w_c5
  · exact w_c6
  · exact w_c7
  · exact w_c8
set_option maxRecDepth 65536 in
theorem w_t1 : (words1.take 24).all (fun c => isCode c || c.before args0 about1) = true := by decide +kernel
set_option maxRecDepth 65536 in
theorem w_t2 : ((words1.drop 24).take 24).all (fun c => isCode c || c.before args0 about1) = true := by decide +kernel
set_option maxRecDepth 65536 in
theorem w_t3 : ((words1.drop 24).drop 24).all (fun c => isCode c || c.before args0 about1) = true := by decide +kernel
theorem w_tables : (allAtoms (Jvm.Cond.code x code maxLocals ret :: tables_1)).before args0 about1 = true := by
  rw [allAtoms_all]
  show words1.all (fun c => c.before args0 about1) = true
  refine all_split ?_ w_codes
  rw [← List.take_append_drop 24 words1, List.all_append, w_t1, ← List.take_append_drop 24 (words1.drop 24), List.all_append, w_t2, w_t3]
  rfl
set_option maxRecDepth 65536 in
theorem w_rest : rest_1_c.before args0 about1 = true := by decide +kernel
set_option maxRecDepth 65536 in
theorem w_case : (Jvm.Cond.and given_1 narrow_1).before args0 about1 = true := by decide +kernel
theorem w_applies : (headSpec (Jvm.Cond.code x code maxLocals ret :: tables_1) room_1).applies x e0.platform about1 = true :=
  (Spec.applies_iff w_frames).mpr ⟨w_running, w_runnable, w_alone, w_named, w_hears, w_ripe, w_room, w_tables⟩
theorem atStart : AtStart classFile x code maxLocals ret World_1 tables_1 room_1 Calls_1 rest_1 Pre_1 launch0 p0 e0 about1 theMethod args0 below0 :=
  ⟨lists_1, trivial, launch0.admits_env _ _ _, launch0.least_env, fairChoices_fair.cas, fairChoices_fair.clock, w_frames, w_args, w_heap, w_applies, trivial, w_rest, w_case⟩
end start1
theorem witness_1 : WitnessClaimed_1 := ⟨start1.p0, start1.e0, start1.about1, start1.theMethod, start1.args0, start1.below0, start1.atStart⟩
end Jvm.Pilot.@@N@@
