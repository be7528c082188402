import JvmDerived
import JvmDerived.Pilot.@@N@@Statement
import JvmDerived.Pilot.@@N@@Code
set_option linter.unusedVariables false
set_option linter.unusedSimpArgs false
namespace Jvm.RoadKit
open Sem ClassFile Op Lib Jvm.Stand Jvm.Free Jvm.LawKit
abbrev sI_ (x : Int32) : Slot := .val (.int x)
abbrev sJ_ (x : Int64) : Slot := .val (.long x)
abbrev sR_ (x : Addr) : Slot := .val (.ref x)
abbrev sU_ : Slot := .unset
abbrev sS_ : Slot := .second
theorem catR (a : Addr) : (Value.ref a).category = 1 := rfl
theorem catN : Value.null.category = 1 := rfl
theorem catI (x : Int32) : (Value.int x).category = 1 := rfl
theorem catJ (x : Int64) : (Value.long x).category = 2 := rfl
section Own
variable {p : Program} {l : Launch} {e : Env} {R : Room} {s : State} {m : MethodId} {args : Array Value} {below : List Frame} {meth : Method} {c : Code} {T U U' : State} {locs : List Loc} {cells slots : Nat} {Z : State} {a0 : Array Value} {h : Heap} {Q : Option Value → Heap → List Loc → Prop} {C S : Nat}
/-- what is left to show at a point of a walk: from U the body comes to its end, and Q holds there -/
def Goes (p : Program) (e : Env) (s : State) (below : List Frame) (Q : Option Value → Heap → List Loc → Prop) (C S : Nat) (U : State) : Prop :=
  ∃ s₂ o, Steps p.tables e below U s₂ ∧ s₂.status = .running ∧ Ended s₂ below o ∧ ∃ v L, o = .returned v ∧ Q v s₂.heap L ∧ FrameEnd s o s₂ L C S
theorem Goes.go (st : ∀ t, Steps p.tables e below U' t → Steps p.tables e below U t) (k : Goes p e s below Q C S U') : Goes p e s below Q C S U := by
  obtain ⟨s₂, o, h1, h2⟩ := k
  exact ⟨s₂, o, st _ h1, h2⟩
theorem Goes.leave {v : Option Value} (X : Stand p l e R s m args below meth c T locs cells slots) (hlk : meth.locks = false) (hv : meth.sig.returnType = none → v = none) (hQ : Q v T.heap locs) (hc : cells ≤ C) (hs : slots ≤ S)
    (st : ∀ fs, (∀ (f : JFrame) (acts : List Action), f.method = m → f.locked = none → f.entered = [] → (doReturn e (T.setTop f) acts v).1 = T.setFrames fs) → Steps p.tables e below U (T.setFrames fs)) : Goes p e s below Q C S U := by
  obtain ⟨fs, hr, hrun, hended, hW, hsame⟩ := X.leave (v := v) hv hlk
  exact ⟨_, _, st fs hr, hrun, hended, _, _, rfl, hQ, ⟨_, rfl⟩, hW, hsame.mono hc hs⟩
theorem Goes.retB {pc : Nat} {Ls : Array Slot} {z : Int32} {rest : List Value} (X : Stand p l e R s m args below meth c T locs cells slots) (hx : p.tables.exec = Jvm.exec) (hlk : meth.locks = false) (hret : meth.sig.returnType = some .boolean) (hd : decode c.code pc = .ok (.ireturn, 1)) (hc : cells ≤ C) (hs : slots ≤ S) (hQ : Q (some (.int (nar .boolean z))) T.heap locs) : Goes p e s below Q C S (T.setTop (mkF m pc Ls (.int z :: rest))) :=
  Goes.leave X hlk (fun h => by rw [hret] at h; cases h) hQ hc hs fun fs hr => retN X hx (t := .boolean) hret (by simp) hd hr
theorem Goes.retC {pc : Nat} {Ls : Array Slot} {z : Int32} {rest : List Value} (X : Stand p l e R s m args below meth c T locs cells slots) (hx : p.tables.exec = Jvm.exec) (hlk : meth.locks = false) (hret : meth.sig.returnType = some .char) (hd : decode c.code pc = .ok (.ireturn, 1)) (hc : cells ≤ C) (hs : slots ≤ S) (hQ : Q (some (.int (nar .char z))) T.heap locs) : Goes p e s below Q C S (T.setTop (mkF m pc Ls (.int z :: rest))) :=
  Goes.leave X hlk (fun h => by rw [hret] at h; cases h) hQ hc hs fun fs hr => retN X hx (t := .char) hret (by simp) hd hr
theorem Goes.retI {pc : Nat} {Ls : Array Slot} {z : Int32} {rest : List Value} (X : Stand p l e R s m args below meth c T locs cells slots) (hx : p.tables.exec = Jvm.exec) (hlk : meth.locks = false) (hret : meth.sig.returnType = some .int) (hd : decode c.code pc = .ok (.ireturn, 1)) (hc : cells ≤ C) (hs : slots ≤ S) (hQ : Q (some (.int z)) T.heap locs) : Goes p e s below Q C S (T.setTop (mkF m pc Ls (.int z :: rest))) :=
  Goes.leave X hlk (fun h => by rw [hret] at h; cases h) hQ hc hs fun fs hr => retOut X hx hret rfl (Or.inl ⟨rfl, Or.inl rfl, _, rfl⟩) hd hr
theorem Goes.retJ {pc : Nat} {Ls : Array Slot} {z : Int64} {rest : List Value} (X : Stand p l e R s m args below meth c T locs cells slots) (hx : p.tables.exec = Jvm.exec) (hlk : meth.locks = false) (hret : meth.sig.returnType = some .long) (hd : decode c.code pc = .ok (.lreturn, 1)) (hc : cells ≤ C) (hs : slots ≤ S) (hQ : Q (some (.long z)) T.heap locs) : Goes p e s below Q C S (T.setTop (mkF m pc Ls (.long z :: rest))) :=
  Goes.leave X hlk (fun h => by rw [hret] at h; cases h) hQ hc hs fun fs hr => retOut X hx hret rfl (Or.inr (Or.inl ⟨rfl, rfl, _, rfl⟩)) hd hr
theorem ownNarrow {t : FieldType} {v : Value} (hv : v.isRef = true) (ht : t.isReference = true) : narrow t v = v := by
  rcases ref_cases hv with rfl | ⟨a, rfl⟩ <;> cases t <;> first | rfl | cases ht
theorem Goes.retA {pc : Nat} {Ls : Array Slot} {v : Value} {t : FieldType} {rest : List Value} (X : Stand p l e R s m args below meth c T locs cells slots) (hx : p.tables.exec = Jvm.exec) (hlk : meth.locks = false) (hret : meth.sig.returnType = some t) (ht : t.isReference = true) (hv : v.isRef = true) (hd : decode c.code pc = .ok (.areturn, 1)) (hc : cells ≤ C) (hs : slots ≤ S) (hQ : Q (some v) T.heap locs) : Goes p e s below Q C S (T.setTop (mkF m pc Ls (v :: rest))) :=
  Goes.leave X hlk (fun h => by rw [hret] at h; cases h) hQ hc hs fun fs hr => retOut X hx hret (ownNarrow hv ht) (Or.inr (Or.inr (Or.inr (Or.inr ⟨rfl, ht, hv⟩)))) hd hr
theorem Goes.retV {pc : Nat} {Ls : Array Slot} (X : Stand p l e R s m args below meth c T locs cells slots) (hx : p.tables.exec = Jvm.exec) (hlk : meth.locks = false) (hret : meth.sig.returnType = none) (hd : decode c.code pc = .ok (.return_, 1)) (hc : cells ≤ C) (hs : slots ≤ S) (hQ : Q none T.heap locs) : Goes p e s below Q C S (T.setTop (mkF m pc Ls [])) :=
  Goes.leave X hlk (fun _ => rfl) hQ hc hs fun fs hr => X.returnOut hx hret hd hr
/-- a body's contract: with these arguments over this heap it returns, and Q holds -/
def Pays (l : Launch) (Z : State) (y : MethodName) (bytes : ByteArray) (maxL : Nat) (ret : Option FieldType) (ws : List Jvm.Cond) (rm : Room) (as' : Array Value) (h : Heap) (Q : Option Value → Heap → List Loc → Prop) : Prop :=
  MetFree l y (head1 (Jvm.Cond.code y bytes maxL ret :: ws) rm) (fun a U => a = as' ∧ Z.Warmed39 U.vm ∧ U.heap = h) (fun _ _ _ _ _ => True) (fun _ U o U' => ∃ v L, o = .returned v ∧ Q v U'.heap L ∧ FrameEnd U o U' L rm.cells rm.slots)
theorem Pays.of {y : MethodName} {bytes : ByteArray} {maxL : Nat} {ret : Option FieldType} {ws : List Jvm.Cond} {rm : Room} {as' : Array Value} (hpl : plainFor y = true)
    (body : ∀ (p : Program) (e : Env) (s : State) (m : MethodId) (below : List Frame) (meth : Method) (c : Code) (s₁ : State), p.tables.exec = Jvm.exec → c.code = bytes → c.maxLocals = maxL → s.vm.findClass y.cls = some m.cls → meth.name = y.name → meth.sig.returnType = ret → meth.locks = false → Z.Warmed39 s.vm → s₁.heap = h → Stand p l e rm s m as' below meth c s₁ [] 0 0 → Goes p e s below Q rm.cells rm.slots (s₁.setTop (entryFrame m as' maxL))) :
    Pays l Z y bytes maxL ret ws rm as' h Q := by
  refine MetFree.of_bodySF hpl hisR ?_
  intro p e s m args below meth c s₁ Bd hml hP hK
  obtain ⟨rfl, hZ, hh⟩ := hP
  obtain ⟨s₂, o, h1, h2, h3, h4⟩ := body p e s m below meth c s₁ Bd.exec Bd.bytes hml (findClass_of_methodNamed Bd.named) (name_of_methodNamed Bd.named Bd.method).1 Bd.returns Bd.notSynchronized hZ (by rw [← hh, Bd.state]; rfl) (Stand.of_body Bd)
  exact ⟨s₂, o, h1, h2, h3, h4⟩
theorem callStatic (X : Stand p l e R s m args below meth c T locs cells slots) (hx : p.tables.exec = Jvm.exec) (hZ : Z.Warmed39 s.vm) {own : String} {index : Nat} {y : MethodName} {bytes : ByteArray} {maxL W : Nat} {ret : Option FieldType} {rm : Room} {as' : Array Value}
    (hown : s.vm.findClass own = some m.cls) (w1 : (Jvm.Cond.methodLink own index y).before a0 Z = true) (w2 : (Jvm.Cond.static y).before a0 Z = true) (w3 : (Jvm.Cond.initialized y.cls).before a0 Z = true) (w4 : (Jvm.Cond.code y bytes maxL ret).before a0 Z = true) (hy : y.cls ≠ "java/lang/invoke/MethodHandle" ∧ y.cls ≠ "java/lang/invoke/VarHandle")
    (M : Pays l Z y bytes maxL ret [] rm as' h Q) (hf : rm.frames + 1 ≤ R.frames) (hl : W + (maxL + 11) + rm.locals ≤ R.locals) (hc : cells + rm.cells ≤ R.cells) (hs : slots + rm.slots ≤ R.slots) (eT : T.heap = h)
    {g : JFrame} (hg : g.method = m) (hsize : g.locals.size = c.maxLocals) {argsL rest : List Value} (hlen : ∀ sig, parseMethodDescriptor y.desc = some sig → argsL.length = sig.parameters.length) (hstack : g.stack = argsL.reverse ++ rest) (has : argsL.toArray = as') (hW : 2 * g.monitorRoom + (rest.map fun v => v.category).sum ≤ W) (hdg : decode c.code g.pc = .ok (.invokestatic index, 3)) :
    ∃ (v : Option Value) (T' : State) (L : List Loc), Stand p l e R s m args below meth c T' (locs ++ L) (cells + rm.cells) (slots + rm.slots) ∧ Q v T'.heap L ∧ ∀ t, Steps p.tables e below (T'.setTop { g with pc := g.pc + 3, stack := v.toList ++ rest }) t → Steps p.tables e below (T.setTop g) t := by
  obtain ⟨v, vm1, ⟨T', L', k', n'⟩, -, X', ⟨Lc, hQ, l1, y1, z1⟩, st⟩ := Jvm.LawKit.callS X hx (y := y) hown (mvT hZ w1) (mvT hZ w2) (mvT hZ w3) (mvT hZ w4) hy (backOf (W := W) M hZ w4 w3 hf hl) hg hsize (argsL := argsL) (rest := rest) hlen hstack hW hdg (fun _ _ => ⟨has, eT, hc, hs⟩)
  dsimp only [Pt.U, Pt.locs, Pt.cells, Pt.slots] at X' l1 y1 z1 st hQ
  subst l1 y1 z1
  exact ⟨v, T', Lc, X', hQ, st⟩
theorem callVirtual (X : Stand p l e R s m args below meth c T locs cells slots) (hx : p.tables.exec = Jvm.exec) (hZ : Z.Warmed39 s.vm) {own K : String} {index : Nat} {y z : MethodName} {bytes : ByteArray} {maxL W : Nat} {ret : Option FieldType} {rm : Room} {as' : Array Value}
    (hown : s.vm.findClass own = some m.cls) (w1 : (Jvm.Cond.methodLink own index y).before a0 Z = true) (w2 : (Jvm.Cond.declares y).before a0 Z = true) (nf : NotFace s y) (w3 : (Jvm.Cond.selects K y z).before a0 Z = true) (w5 : (Jvm.Cond.instanceMethod z).before a0 Z = true) (w6 : (Jvm.Cond.initialized z.cls).before a0 Z = true) (w4 : (Jvm.Cond.code z bytes maxL ret).before a0 Z = true) (hy : y.cls ≠ "java/lang/invoke/MethodHandle" ∧ y.cls ≠ "java/lang/invoke/VarHandle")
    (M : Pays l Z z bytes maxL ret [] rm as' h Q) (hf : rm.frames + 1 ≤ R.frames) (hl : W + (maxL + 11) + rm.locals ≤ R.locals) (hc : cells + rm.cells ≤ R.cells) (hs : slots + rm.slots ≤ R.slots) (eT : T.heap = h) {b : Addr} (E : Exa Z h b K)
    {g : JFrame} (hg : g.method = m) (hsize : g.locals.size = c.maxLocals) {argsL rest : List Value} (hlen : ∀ sig, parseMethodDescriptor y.desc = some sig → argsL.length = sig.parameters.length) (hstack : g.stack = argsL.reverse ++ .ref b :: rest) (has : (.ref b :: argsL).toArray = as') (hW : 2 * g.monitorRoom + (rest.map fun v => v.category).sum ≤ W) (hdg : decode c.code g.pc = .ok (.invokevirtual index, 3)) :
    ∃ (v : Option Value) (T' : State) (L : List Loc), Stand p l e R s m args below meth c T' (locs ++ L) (cells + rm.cells) (slots + rm.slots) ∧ Q v T'.heap L ∧ ∀ t, Steps p.tables e below (T'.setTop { g with pc := g.pc + 3, stack := v.toList ++ rest }) t → Steps p.tables e below (T.setTop g) t := by
  obtain ⟨cq, kq, qa, -, qc⟩ := isOf (T := T) hZ eT E
  obtain ⟨v, vm1, ⟨T', L', k', n'⟩, -, X', ⟨Lc, hQ, l1, y1, z1⟩, st⟩ := X.virtualBack hx (y := y) (z := z) hown (mvT hZ w1) (mvT hZ w2) nf (mvT hZ w3) (mvT hZ w5) hy (backOf (W := W) M hZ w4 w6 hf hl) qa qc hg hsize (Steps.refl _) (argsL := argsL) (rest := rest) hlen hstack hW hdg (fun _ _ => ⟨has, eT, hc, hs⟩)
  dsimp only [Pt.U, Pt.locs, Pt.cells, Pt.slots] at X' l1 y1 z1 st hQ
  subst l1 y1 z1
  exact ⟨v, T', Lc, X', hQ, fun t k => st.trans k⟩
theorem callInit (X : Stand p l e R s m args below meth c T locs cells slots) (hx : p.tables.exec = Jvm.exec) (hZ : Z.Warmed39 s.vm) {own : String} {index : Nat} {y : MethodName} {bytes : ByteArray} {maxL W : Nat} {rm : Room} {as' : Array Value}
    (hy1 : y.name = "<init>") (hown : s.vm.findClass own = some m.cls) (w1 : (Jvm.Cond.methodLink own index y).before a0 Z = true) (w5 : (Jvm.Cond.instanceMethod y).before a0 Z = true) (w6 : (Jvm.Cond.initialized y.cls).before a0 Z = true) (w4 : (Jvm.Cond.code y bytes maxL none).before a0 Z = true) (hy : y.cls ≠ "java/lang/invoke/MethodHandle" ∧ y.cls ≠ "java/lang/invoke/VarHandle")
    (M : Pays l Z y bytes maxL none [] rm as' h Q) (hf : rm.frames + 1 ≤ R.frames) (hl : W + (maxL + 11) + rm.locals ≤ R.locals) (hc : cells + rm.cells ≤ R.cells) (hs : slots + rm.slots ≤ R.slots) (eT : T.heap = h) {b : Addr}
    {g : JFrame} (hg : g.method = m) (hsize : g.locals.size = c.maxLocals) {argsL rest : List Value} (hlen : ∀ sig, parseMethodDescriptor y.desc = some sig → argsL.length = sig.parameters.length) (hstack : g.stack = argsL.reverse ++ .ref b :: rest) (has : (.ref b :: argsL).toArray = as') (hW : 2 * g.monitorRoom + (rest.map fun v => v.category).sum ≤ W) (hdg : decode c.code g.pc = .ok (.invokespecial index, 3)) :
    ∃ (v : Option Value) (T' : State) (L : List Loc), Stand p l e R s m args below meth c T' (locs ++ L) (cells + rm.cells) (slots + rm.slots) ∧ Q v T'.heap L ∧ ∀ t, Steps p.tables e below (T'.setTop { g with pc := g.pc + 3, stack := v.toList ++ rest }) t → Steps p.tables e below (T.setTop g) t := by
  obtain ⟨v, vm1, ⟨T', L', k', n'⟩, -, X', ⟨Lc, hQ, l1, y1, z1⟩, st⟩ := X.specialBack hx (y := y) hy1 hown (mvT hZ w1) (mvT hZ w5) (mvT hZ w4) hy (backOf (W := W) M hZ w4 w6 hf hl) hg hsize (Steps.refl _) (a := b) (argsL := argsL) (rest := rest) hlen hstack hW hdg (fun _ _ => ⟨has, eT, hc, hs⟩)
  dsimp only [Pt.U, Pt.locs, Pt.cells, Pt.slots] at X' l1 y1 z1 st hQ
  subst l1 y1 z1
  exact ⟨v, T', Lc, X', hQ, fun t k => st.trans k⟩
theorem callPrivate (X : Stand p l e R s m args below meth c T locs cells slots) (hx : p.tables.exec = Jvm.exec) (hZ : Z.Warmed39 s.vm) {own K : String} {index kk : Nat} {y : MethodName} {bytes : ByteArray} {maxL W : Nat} {ret : Option FieldType} {rm : Room} {as' : Array Value}
    (hown : s.vm.findClass own = some m.cls) (w1 : (Jvm.Cond.methodLink own index y).before a0 Z = true) (w5 : (Jvm.Cond.instanceMethod y).before a0 Z = true) (wp : (Jvm.Cond.privateMethod y).before a0 Z = true) (wi : (Jvm.Cond.instantiable y.cls kk).before a0 Z = true) (w6 : (Jvm.Cond.initialized y.cls).before a0 Z = true) (w4 : (Jvm.Cond.code y bytes maxL ret).before a0 Z = true) (hy : y.cls ≠ "java/lang/invoke/MethodHandle" ∧ y.cls ≠ "java/lang/invoke/VarHandle")
    (M : Pays l Z y bytes maxL ret [] rm as' h Q) (hf : rm.frames + 1 ≤ R.frames) (hl : W + (maxL + 11) + rm.locals ≤ R.locals) (hc : cells + rm.cells ≤ R.cells) (hs : slots + rm.slots ≤ R.slots) (eT : T.heap = h) {b : Addr} (E : Exa Z h b K)
    {g : JFrame} (hg : g.method = m) (hsize : g.locals.size = c.maxLocals) {argsL rest : List Value} (hlen : ∀ sig, parseMethodDescriptor y.desc = some sig → argsL.length = sig.parameters.length) (hstack : g.stack = argsL.reverse ++ .ref b :: rest) (has : (.ref b :: argsL).toArray = as') (hW : 2 * g.monitorRoom + (rest.map fun v => v.category).sum ≤ W) (hdg : decode c.code g.pc = .ok (.invokevirtual index, 3)) :
    ∃ (v : Option Value) (T' : State) (L : List Loc), Stand p l e R s m args below meth c T' (locs ++ L) (cells + rm.cells) (slots + rm.slots) ∧ Q v T'.heap L ∧ ∀ t, Steps p.tables e below (T'.setTop { g with pc := g.pc + 3, stack := v.toList ++ rest }) t → Steps p.tables e below (T.setTop g) t := by
  obtain ⟨cc, kc, i1, i2, -, i4, -⟩ := Cond.instantiable_spec (mvT (args := args) hZ wi)
  have i5 : kc.isInterface = false := by cases hq : kc.isInterface <;> simp_all
  have hpr := Cond.privateMethod_at (mvP (args := #[]) hZ wp)
  obtain ⟨cell, c1, c2⟩ := E.cell
  obtain ⟨v, vm1, ⟨T', L', k', n'⟩, -, X', ⟨Lc, hQ, l1, y1, z1⟩, st⟩ := X.privateBack hx (y := y) hown (mvT hZ w1) (mvT hZ w5) (selects_self_of_private i1 i2 i5 hpr (mvT hZ w5) hy) hpr (mvT hZ w4) hy (backOf (W := W) M hZ w4 w6 hf hl) hg hsize (Steps.refl _) (a := b) (cell := cell) (by rw [eT]; exact c1) c2 (argsL := argsL) (rest := rest) hlen hstack hW hdg (fun _ _ => ⟨has, eT, hc, hs⟩)
  dsimp only [Pt.U, Pt.locs, Pt.cells, Pt.slots] at X' l1 y1 z1 st hQ
  subst l1 y1 z1
  exact ⟨v, T', Lc, X', hQ, fun t k => st.trans k⟩
theorem callFace (X : Stand p l e R s m args below meth c T locs cells slots) (hx : p.tables.exec = Jvm.exec) (hZ : Z.Warmed39 s.vm) {own K : String} {index count : Nat} {y z : MethodName} {bytes : ByteArray} {maxL W : Nat} {ret : Option FieldType} {rm : Room} {as' : Array Value}
    (hown : s.vm.findClass own = some m.cls) (w1 : (Jvm.Cond.methodLink own index y).before a0 Z = true) (w2 : (Jvm.Cond.declares y).before a0 Z = true) (wf : (Jvm.Cond.interfaceMethod y.cls y.cls y.name y.desc).before args s = true) (w3 : (Jvm.Cond.selects K y z).before a0 Z = true) (w5 : (Jvm.Cond.instanceMethod z).before a0 Z = true) (wp : (Jvm.Cond.publicMethod z).before a0 Z = true) (wu : (Jvm.Cond.unhidden K y.name y.desc).before a0 Z = true) (wc : (Jvm.Cond.castable K y.cls).before a0 Z = true) (w6 : (Jvm.Cond.initialized z.cls).before a0 Z = true) (w4 : (Jvm.Cond.code z bytes maxL ret).before a0 Z = true) (hy : y.cls ≠ "java/lang/invoke/MethodHandle" ∧ y.cls ≠ "java/lang/invoke/VarHandle")
    (M : Pays l Z z bytes maxL ret [] rm as' h Q) (hf : rm.frames + 1 ≤ R.frames) (hl : W + (maxL + 11) + rm.locals ≤ R.locals) (hc : cells + rm.cells ≤ R.cells) (hs : slots + rm.slots ≤ R.slots) (eT : T.heap = h) {b : Addr} (E : Exa Z h b K)
    {g : JFrame} (hg : g.method = m) (hsize : g.locals.size = c.maxLocals) {argsL rest : List Value} (hlen : ∀ sig, parseMethodDescriptor y.desc = some sig → argsL.length = sig.parameters.length) (hstack : g.stack = argsL.reverse ++ .ref b :: rest) (has : (.ref b :: argsL).toArray = as') (hW : 2 * g.monitorRoom + (rest.map fun v => v.category).sum ≤ W) (hdg : decode c.code g.pc = .ok (.invokeinterface index count, 5)) :
    ∃ (v : Option Value) (T' : State) (L : List Loc), Stand p l e R s m args below meth c T' (locs ++ L) (cells + rm.cells) (slots + rm.slots) ∧ Q v T'.heap L ∧ ∀ t, Steps p.tables e below (T'.setTop { g with pc := g.pc + 5, stack := v.toList ++ rest }) t → Steps p.tables e below (T.setTop g) t := by
  obtain ⟨cq, kq, qa, qb, qc⟩ := isOf (T := T) hZ eT E
  obtain ⟨v, vm1, ⟨T', L', k', n'⟩, -, X', ⟨Lc, hQ, l1, y1, z1⟩, st⟩ := X.interfaceBack hx (xi := y) (y := z) hown (mvT hZ w1) (mvT hZ w2) wf (mvT hZ w3) (mvT hZ w5) (mvT hZ wp) (mvT hZ wu) (mvT hZ wc) hy (backOf (W := W) M hZ w4 w6 hf hl) qa qb qc hg hsize (Steps.refl _) (argsL := argsL) (rest := rest) hlen hstack hW hdg (fun _ _ => ⟨has, eT, hc, hs⟩)
  dsimp only [Pt.U, Pt.locs, Pt.cells, Pt.slots] at X' l1 y1 z1 st hQ
  subst l1 y1 z1
  exact ⟨v, T', Lc, X', hQ, fun t k => st.trans k⟩
theorem castV (X : Stand p l e R s m args below meth c T locs cells slots) (hx : p.tables.exec = Jvm.exec) (hZ : Z.Warmed39 s.vm) {own K : String} {index : Nat} (hown : s.vm.findClass own = some m.cls) (w : (Jvm.Cond.classLink own index K).before a0 Z = true) (eT : T.heap = h) {v : Value} (F : v = .null ∨ ∃ a, v = .ref a ∧ Ins Z h a K true)
    {g : JFrame} (hg : g.method = m) {rest : List Value} (hs : g.stack = v :: rest) (hd : decode c.code g.pc = .ok (.checkcast index, 3)) : ∃ T', Stand p l e R s m args below meth c T' locs cells slots ∧ T'.heap = h ∧ ∀ target, Steps p.tables e below (T'.setTop { g with pc := g.pc + 3 }) target → Steps p.tables e below (T.setTop g) target := by
  rcases F with rfl | ⟨a, rfl, I⟩
  · exact ⟨T, X, eT, fun t k => X.checkcastNull hx (g := g) hg hs hd t k⟩
  · exact castY X hx hZ hown w eT I hg hs hd
theorem moreRoom {cells' slots' : Nat} (X : Stand p l e R s m args below meth c T locs cells slots) (h1 : cells ≤ cells') (h2 : slots ≤ slots') : Stand p l e R s m args below meth c T locs cells' slots' :=
  { X with same := X.same.mono h1 h2 }
theorem wdOf {ts : List Jvm.Cond} (hw : ∀ d ∈ ts, d.before a0 Z = true) {d : Jvm.Cond} (k : Nat) (hk : ts[k]? = some d) : d.before a0 Z = true := hw _ (List.mem_of_getElem? hk)
end Own
end Jvm.RoadKit
namespace Jvm.RoadKit
open Sem ClassFile Op Lib Jvm.Stand Jvm.Free Jvm.LawKit
section OwnWords
variable {args : Array Value} {first s : State} {o : Option Outcome} {idx : List Nat} {t : Term}
theorem eqInt_v {k : Int32} (h : (Jvm.Cond.eq t (.int k)).value args first o s idx = some true) : t.eval args first o idx s = some (.int k) := by
  simp only [Jvm.Cond.value, Term.eval] at h
  cases ht : t.eval args first o idx s with
  | none => simp [ht] at h
  | some x => cases x <;> simp [ht] at h ⊢; exact h
theorem ownFits {ty : FieldType} {v : Value} (hv : v.isRef = true) (ht : ty.isReference = true) : fits ty v = true := by
  rcases ref_cases hv with rfl | ⟨a, rfl⟩ <;> cases ty <;> first | rfl | cases ht
theorem Sta.keepN {Z : State} {h h' : Heap} {C n d : String} {v : Value} {ws : List Addr} (F : Sta Z h C n d v) (K : Keep h h' ws) (hn : ∀ a ∈ ws, ∃ c : Cell, h[a]? = some c ∧ ∀ q, c.vm ≠ .statics q) : Sta Z h' C n d v := by
  obtain ⟨cf, i, k, f, st, cell, h1, h2, h3, h4, h5, h6, h7⟩ := F
  refine ⟨cf, i, k, f, st, cell, h1, h2, h3, h4, K.2.1 _ _ h5 fun hm => ?_, h6, h7⟩
  obtain ⟨c, g1, g2⟩ := hn st hm
  cases h5.symm.trans g1
  cases hq : cell.vm <;> first | (rw [hq] at h6; exact Bool.noConfusion h6) | exact g2 _ hq
theorem NSr {Z : State} {a0 : Array Value} {O K : String} {n : Nat} (w : (Jvm.Cond.noSuperclass O).before a0 Z = true) (wi : (Jvm.Cond.instantiable K n).before a0 Z = true) (hn : O ≠ K) : NS Z O K := by
  obtain ⟨c, k, h1, h2, h3, -, -⟩ := Cond.noSuperclass_spec w
  obtain ⟨t, kt, g1, -⟩ := Cond.instantiable_spec wi
  refine ⟨c, t, h1, g1, fun fuel => ?_⟩
  cases fuel with
  | zero => rfl
  | succ f => simp [Vm.isSubclassAux, ids_ne h1 g1 hn, h2, h3]
theorem NSno {Z : State} {a0 : Array Value} {C S K : String} {n : Nat} (w : (Jvm.Cond.superclass C S).before a0 Z = true) (wi : (Jvm.Cond.instantiable K n).before a0 Z = true) (q : NS Z C K) (hn : C ≠ K) : ∃ c t, Z.vm.findClass C = some c ∧ Z.vm.findClass K = some t ∧ Z.vm.assignable c t = false := by
  obtain ⟨c, t, h0, g0, n3⟩ := q
  obtain ⟨_, k, _, -, h2, -, -, h5, -, -⟩ := Cond.superclass_spec h0 w
  obtain ⟨t', k', g1, g2, g5, g7, -⟩ := Cond.instantiable_spec wi
  cases g0.symm.trans g1
  have g8 : k'.isInterface = false := by cases hq : k'.isInterface <;> simp_all
  refine ⟨c, t, h0, g0, ?_⟩
  show Z.vm.assignableAux (255 + 1) c t = false
  simp [Vm.assignableAux, ids_ne h0 g0 hn, h2, g2, h5, g5, g8, Vm.isSubclass, n3]
theorem Ext.of_keep {h h' : Heap} (K : Keep h h' []) : Ext h h' := ⟨K.1, fun a c q => K.2.1 a c q nin0⟩
theorem Keep.of_ext {h h' : Heap} (E : Ext h h') (ws : List Addr) : Keep h h' ws := (Keep.refl h ws).ext E
theorem ofInt {x : Int32} (n : Int32) (h : x.toInt = n.toInt) : x = n := Int32.toInt_inj.mp h
end OwnWords
end Jvm.RoadKit
namespace Jvm.RoadKit
open Sem ClassFile Op Lib Jvm.Stand Jvm.Free Jvm.LawKit
section OwnBox
theorem eqVal_v {args : Array Value} {first s : State} {o : Option Outcome} {idx : List Nat} {t u : Term} {w : Value} (h : (Jvm.Cond.eq t u).value args first o s idx = some true) (hu : u.eval args first o idx s = some w) (hw : (∃ n, w = .int n) ∨ ∃ n, w = .long n) : t.eval args first o idx s = some w := by
  rcases hw with ⟨n, rfl⟩ | ⟨n, rfl⟩ <;>
  · simp only [Jvm.Cond.value, hu] at h
    cases ht : t.eval args first o idx s with
    | none => simp [ht] at h
    | some x => cases x <;> simp [ht] at h ⊢; exact h
/-- a cache of 256 boxes, as it stands in the heap of Z: the i-th holds val i -/
def BoxC (Z : State) (K D B vd : String) (val : Nat → Value) : Prop := ∃ (ca : Addr) (cl : Cell), Sta Z Z.heap K "cache" D (.ref ca) ∧ Arr Z Z.heap ca cl (.object B) ∧ cl.slots.size = 256 ∧ ∀ i, i < 256 → ∃ r, cl.slots[i]? = some (.ref r) ∧ Exa Z Z.heap r B ∧ Fld Z Z.heap r B "value" vd (val i)
theorem clamp256 {i : Nat} (h : i < 256) : i.toInt32.toNatClampNeg = i := by
  have : i.toInt32.toInt = i := Int32.toInt_ofNat_small (by omega)
  simp [Int32.toNatClampNeg, this]
theorem BoxC.start {s : State} {args : Array Value} {K D B vd : String} {u : Term} {val : Nat → Value} (hi : (Jvm.Cond.initialized K).before args s = true) (hl : (Jvm.Cond.laysStatic K "cache" D).before args s = true)
    (ha : (Jvm.Cond.arrayOf (.static K "cache" D) (.object B)).before args s = true) (hn : (Jvm.Cond.eq (.length (.static K "cache" D)) (.int 256)).before args s = true)
    (hall : (Jvm.Cond.all (.static K "cache" D) (.and (.exactly (.elem (.static K "cache" D) (.index 0)) B) (.eq (.field (.elem (.static K "cache" D) (.index 0)) B "value" vd) u))).before args s = true)
    (hu : ∀ i : Nat, u.eval args s none [i] s = some (val i)) (hv : ∀ i, (∃ n, val i = .int n) ∨ ∃ n, val i = .long n) : BoxC s K D B vd val := by
  have ha' := Cond.before_iff.mp ha
  obtain ⟨ca, ev⟩ := arr_v ha'
  obtain ⟨cl, A⟩ := Arr.start ev ha'
  have hat : s.arrayAt? ca = some cl := A.fin (Vm.Alike.refl _)
  have hsz : cl.slots.size = 256 := by
    have h1 := eqInt_v (Cond.before_iff.mp hn)
    simp only [Term.eval, hat] at h1
    have ev' := ev
    simp only [Term.eval] at ev'
    rw [ev'] at h1
    by_cases hq : cl.slots.size < 2 ^ 31
    · simp [hat, hq] at h1
      have h2 : cl.slots.size.toInt32.toInt = 256 := by rw [h1]; rfl
      rw [Int32.toInt_ofNat_small hq] at h2
      omega
    · simp [hat, hq] at h1
  refine ⟨ca, cl, Sta.start ev (Or.inr ⟨hi, hl⟩), A, hsz, fun i hi => ?_⟩
  obtain ⟨h1, h2⟩ := and_e (Cond.all_elim ev hat (Cond.before_iff.mp hall) i (by omega))
  obtain ⟨r, er⟩ := exa_v h1
  have ev1 : (Term.static K "cache" D).eval args s none [i] s = some (.ref ca) := ev
  obtain ⟨-, q⟩ := elem_in er ev1 (Term.index_eval (idx := []) i) A.1
  rw [clamp256 hi] at q
  refine ⟨r, q, exa_at er h1, Fld.start ?_⟩
  rw [← fld_at er]
  exact eqVal_v h2 (hu i) (hv i)
end OwnBox
end Jvm.RoadKit
namespace Jvm.Pilot.@@N@@
open Jvm Jvm.ClassFile Sem Op Lib Jvm.Free Jvm.Stand Jvm.LawKit Jvm.RoadKit Bundle Jvm.Pilot.@@N@@.Jvm.D
theorem pd_0 : parseMethodDescriptor "()V" = some ⟨[], none⟩ := by decide +kernel
theorem pd_1 : parseMethodDescriptor "(I)V" = some ⟨[.int], none⟩ := by decide +kernel
theorem pd_2 : parseMethodDescriptor "(C)Z" = some ⟨[.char], some .boolean⟩ := by decide +kernel
theorem pd_3 : parseMethodDescriptor "(C)[B" = some ⟨[.char], some (.array .byte)⟩ := by decide +kernel
theorem pd_4 : parseMethodDescriptor "([BB)V" = some ⟨[(.array .byte), .byte], none⟩ := by decide +kernel
theorem pd_5 : parseMethodDescriptor "(Ljava/lang/Object;)Z" = some ⟨[(.object "java/lang/Object")], some .boolean⟩ := by decide +kernel
theorem pd_6 : parseMethodDescriptor "()I" = some ⟨[], some .int⟩ := by decide +kernel
theorem pd_7 : parseMethodDescriptor "(Ljava/lang/Object;Ljava/lang/Object;)Ljava/lang/Object;" = some ⟨[(.object "java/lang/Object"), (.object "java/lang/Object")], some (.object "java/lang/Object")⟩ := by decide +kernel
theorem pd_8 : parseMethodDescriptor "(Ljava/lang/String;Ljava/lang/Integer;Ljava/lang/String;Ljava/lang/Integer;Ljava/lang/Integer;)V" = some ⟨[(.object "java/lang/String"), (.object "java/lang/Integer"), (.object "java/lang/String"), (.object "java/lang/Integer"), (.object "java/lang/Integer")], none⟩ := by decide +kernel
theorem pd_9 : parseMethodDescriptor "()Ljava/lang/Integer;" = some ⟨[], some (.object "java/lang/Integer")⟩ := by decide +kernel
theorem pd_10 : parseMethodDescriptor "(Ljava/lang/Integer;Ljava/lang/Integer;)Z" = some ⟨[(.object "java/lang/Integer"), (.object "java/lang/Integer")], some .boolean⟩ := by decide +kernel
theorem pd_11 : parseMethodDescriptor "()Ljava/lang/String;" = some ⟨[], some (.object "java/lang/String")⟩ := by decide +kernel
theorem pd_12 : parseMethodDescriptor "(Ljava/lang/String;Ljava/lang/String;)Z" = some ⟨[(.object "java/lang/String"), (.object "java/lang/String")], some .boolean⟩ := by decide +kernel
theorem pd_13 : parseMethodDescriptor "(Lcom/example/kilnroute/kilnroute/spark/Resources;)Lcom/example/kilnroute/kilnroute/spark/Resources;" = some ⟨[(.object "com/example/kilnroute/kilnroute/spark/Resources")], some (.object "com/example/kilnroute/kilnroute/spark/Resources")⟩ := by decide +kernel
theorem pd_14 : parseMethodDescriptor "(I)Ljava/lang/Integer;" = some ⟨[.int], some (.object "java/lang/Integer")⟩ := by decide +kernel
theorem pd_15 : parseMethodDescriptor "(C)Ljava/lang/String;" = some ⟨[.char], some (.object "java/lang/String")⟩ := by decide +kernel
theorem own_ff (x : Int32) : ¬ (255 : Int32) < ((x &&& (255 : Int32)).toUInt32.toUInt16.toUInt32.toInt32) := by
  rw [i2c_mask, Int32.lt_iff_toInt_lt, c_mask x 255 8 (by decide) (by decide)]
  show ¬ (255 : Int) < _
  omega
theorem own_cs {args : Array Value} {s : State} {t : Term} {k : Int32} (e : t.eval args s none [] s = some (.int k)) (h : (Jvm.Cond.not (.eq t (.int 0))).value args s none s [] = some true) : ¬ k = 0 := fun q => by
  subst q
  have h1 := not_v h
  rw [eq_i e (Term.int_eval 0) rfl] at h1
  cases h1
section OwnRef
variable {Z : State} {h h' : Heap} {v : Value} {a : Addr} {C : String}
/-- null, or an object of just that class -/
def RefV (Z : State) (h : Heap) (v : Value) (C : String) : Prop := v = .null ∨ ∃ r, v = .ref r ∧ Exa Z h r C
theorem RefV.ext (F : RefV Z h v C) (E : Ext h h') : RefV Z h' v C := F.imp id fun ⟨r, e, E1⟩ => ⟨r, e, E1.ext E⟩
theorem RefV.keep {ws : List Addr} (F : RefV Z h v C) (K : Keep h h' ws) : RefV Z h' v C := F.imp id fun ⟨r, e, E1⟩ => ⟨r, e, E1.keep K⟩
theorem RefV.isRef (F : RefV Z h v C) : v.isRef = true := by rcases F with rfl | ⟨r, rfl, -⟩ <;> rfl
theorem RefV.cast (F : RefV Z h v C) : v = .null ∨ ∃ a, v = .ref a ∧ Ins Z h a C true := F.imp id fun ⟨r, e, E1⟩ => ⟨r, e, Ins.self E1⟩
/-- null, or an Integer -/
def IntV (Z : State) (h : Heap) (v : Value) : Prop := v = .null ∨ ∃ r x, v = .ref r ∧ Exa Z h r "java/lang/Integer" ∧ Fld Z h r "java/lang/Integer" "value" "I" (.int x)
theorem IntV.ext (F : IntV Z h v) (E : Ext h h') : IntV Z h' v := F.imp id fun ⟨r, x, e, E1, F1⟩ => ⟨r, x, e, E1.ext E, F1.ext E⟩
theorem IntV.keepX {a : Addr} (F : IntV Z h v) (K : Keep h h' [a]) (E : Exa Z h a C) (hc : "java/lang/Integer" ≠ C) : IntV Z h' v := F.imp id fun ⟨r, x, e, E1, F1⟩ => ⟨r, x, e, E1.keep K, F1.keep K (ninS (ne_exa E1 E hc) nin0)⟩
theorem IntV.isRef (F : IntV Z h v) : v.isRef = true := by rcases F with rfl | ⟨r, x, rfl, -⟩ <;> rfl
theorem IntV.ref (F : IntV Z h v) : RefV Z h v "java/lang/Integer" := F.imp id fun ⟨r, x, e, E1, _⟩ => ⟨r, e, E1⟩
theorem own_pick (x y : Value) : ∃ w : Value, (x = .null → w = y) ∧ (¬ x = .null → w = x) := by
  by_cases q : x = .null
  · exact ⟨y, fun _ => rfl, fun r => absurd q r⟩
  · exact ⟨x, fun r => absurd r q, fun _ => rfl⟩
theorem own_pickR {x y w : Value} (P : Value → Prop) (h1 : x = .null → w = y) (h2 : ¬ x = .null → w = x) (hx : P x) (hy : P y) : P w := by
  by_cases q : x = .null
  · rw [h1 q]; exact hy
  · rw [h2 q]; exact hx
end OwnRef

theorem d_rm_vo_num_0 : decode jdk_18_method_1_code 0 = .ok (.aload_n 0, 1) := by decide +kernel
theorem d_rm_vo_num_1 : decode jdk_18_method_1_code 1 = .ok (.invokespecial 1, 3) := by decide +kernel
theorem d_rm_vo_num_4 : decode jdk_18_method_1_code 4 = .ok (.return_, 1) := by decide +kernel
set_option maxHeartbeats 4000000 in
theorem ef_rm_vo_num (m : MethodId) (x0 : Addr)  : entryFrame m #[(.ref x0)] 1 = mkF m 0 #[.val (.ref x0)] [] := by first | (simp [entryFrame, mkF, argsToLocals, catR, catN, catI, catJ]; done) | rfl
set_option maxRecDepth 65536 in
set_option maxHeartbeats 40000000 in
theorem rm_vo_num (l : Launch) (Z : State) (a0 : Array Value) (hw : ∀ d ∈ tables_1, d.before a0 Z = true) (ws : List Jvm.Cond) (ax : Addr) (h0 : Heap) (n0 : Nat) (Z0 : n0 ≤ h0.size)  :
    Pays l Z (⟨"java/lang/Number", "<init>", "()V"⟩ : MethodName) jdk_18_method_1_code 1 none ws ({ frames := 1, cells := 0, slots := 0, locals := 12 } : Room) #[(.ref ax)] h0 (fun v h L => v = none ∧ Fr n0 L ∧ h = h0) := by
  refine Pays.of (plainFor_of_name (by first | (simp [plainName, overriddenIn]; done) | decide +kernel)) ?_
  intro p e s m below meth c s₁ hx hby hml hown hnm hret hlk hZ e0 X0
  have N0 := Fr.nil n0
  have K0 : Keep h0 h0 [] := Keep.refl _ _
  refine Goes.go (U' := (s₁.setTop (mkF m 0 #[sR_ ax] []))) (fun t kt => castTop (ef_rm_vo_num m ax) kt) ?_
  refine Goes.go (U' := (s₁.setTop (mkF m 1 #[sR_ ax] [(.ref ax)]))) (fun t kt => ?_) ?_
  · skip
    refine XS.aloadN X0.here hx rfl (hb hby d_rm_vo_num_0) rfl rfl ?_
    exact kt
  obtain ⟨T_1, X_1, e_1, st_1⟩ := initO X0 hx hZ hown (wdOf hw 45 rfl) (wdOf hw 20 rfl) (wdOf hw 21 rfl) e0 (g := (mkF m 1 #[sR_ ax] [(.ref ax)])) rfl (by rw [hml]; rfl) rfl (hb hby d_rm_vo_num_1) (by decide) (W := 0) (Nat.le_refl _) (by decide)
  refine Goes.go (U' := (T_1.setTop (mkF m 4 #[sR_ ax] []))) st_1 ?_
  refine Goes.retV X_1 hx hlk hret (hb hby d_rm_vo_num_4) (by decide) (by decide) ?_
  try rw [e_1]
  exact ⟨rfl, N0, rfl⟩
theorem d_rm_vo_init_0 : decode jdk_33_method_23_code 0 = .ok (.aload_n 0, 1) := by decide +kernel
theorem d_rm_vo_init_1 : decode jdk_33_method_23_code 1 = .ok (.invokespecial 202, 3) := by decide +kernel
theorem d_rm_vo_init_4 : decode jdk_33_method_23_code 4 = .ok (.aload_n 0, 1) := by decide +kernel
theorem d_rm_vo_init_5 : decode jdk_33_method_23_code 5 = .ok (.iload_n 1, 1) := by decide +kernel
theorem d_rm_vo_init_6 : decode jdk_33_method_23_code 6 = .ok (.putfield 205, 3) := by decide +kernel
theorem d_rm_vo_init_9 : decode jdk_33_method_23_code 9 = .ok (.return_, 1) := by decide +kernel
set_option maxHeartbeats 4000000 in
theorem ef_rm_vo_init (m : MethodId) (x0 : Addr) (x1 : Int32)  : entryFrame m #[(.ref x0), (.int x1)] 2 = mkF m 0 #[.val (.ref x0), .val (.int x1)] [] := by first | (simp [entryFrame, mkF, argsToLocals, catR, catN, catI, catJ]; done) | rfl
set_option maxRecDepth 65536 in
set_option maxHeartbeats 40000000 in
theorem rm_vo_init (l : Launch) (Z : State) (a0 : Array Value) (hw : ∀ d ∈ tables_1, d.before a0 Z = true) (ws : List Jvm.Cond) (ax : Addr) (xv : Int32) (h0 : Heap) (n0 : Nat) (Z0 : n0 ≤ h0.size) (o0 : n0 ≤ ax) (E0 : Exa Z h0 ax "java/lang/Integer") (F0 : Fld Z h0 ax "java/lang/Integer" "value" "I" (.int (0 : Int32))) :
    Pays l Z (⟨"java/lang/Integer", "<init>", "(I)V"⟩ : MethodName) jdk_33_method_23_code 2 none ws ({ frames := 2, cells := 0, slots := 0, locals := 24 } : Room) #[(.ref ax), (.int xv)] h0 (fun v h L => v = none ∧ Fr n0 L ∧ Keep h0 h [ax] ∧ Exa Z h ax "java/lang/Integer" ∧ Fld Z h ax "java/lang/Integer" "value" "I" (.int xv)) := by
  refine Pays.of (plainFor_of_name (by first | (simp [plainName, overriddenIn]; done) | decide +kernel)) ?_
  intro p e s m below meth c s₁ hx hby hml hown hnm hret hlk hZ e0 X0
  have N0 := Fr.nil n0
  have K0 : Keep h0 h0 [ax] := Keep.refl _ _
  refine Goes.go (U' := (s₁.setTop (mkF m 0 #[sR_ ax, sI_ xv] []))) (fun t kt => castTop (ef_rm_vo_init m ax xv) kt) ?_
  refine Goes.go (U' := (s₁.setTop (mkF m 1 #[sR_ ax, sI_ xv] [(.ref ax)]))) (fun t kt => ?_) ?_
  · skip
    refine XS.aloadN X0.here hx rfl (hb hby d_rm_vo_init_0) rfl rfl ?_
    exact kt
  obtain ⟨v_1, T_1, L_1, X_1, q_1, st_1⟩ := callInit X0 hx hZ (y := (⟨"java/lang/Number", "<init>", "()V"⟩ : MethodName)) (W := 0) rfl hown (wdOf hw 39 rfl) (wdOf hw 40 rfl) (wdOf hw 43 rfl) (wdOf hw 44 rfl) (by decide) (rm_vo_num l Z a0 hw [] ax h0 n0 Z0) (by decide) (by decide) (by decide) (by decide) e0 (b := ax) (g := (mkF m 1 #[sR_ ax, sI_ xv] [(.ref ax)])) rfl (by rw [hml]; rfl) (argsL := []) (rest := []) (lenOf pd_0 rfl) rfl rfl (Nat.le_refl _) (hb hby d_rm_vo_init_1)
  obtain ⟨rfl, n_1, K_1⟩ := q_1
  have N_1 := Fr.app N0 n_1
  refine Goes.go (U' := (T_1.setTop (mkF m 4 #[sR_ ax, sI_ xv] []))) st_1 ?_
  refine Goes.go (U' := (T_1.setTop (mkF m 6 #[sR_ ax, sI_ xv] [(.int xv), (.ref ax)]))) (fun t kt => ?_) ?_
  · skip
    refine XS.aloadN X_1.here hx rfl (hb hby d_rm_vo_init_4) rfl rfl ?_
    refine XS.iloadN X_1.here hx rfl (hb hby d_rm_vo_init_5) rfl ?_
    exact kt
  obtain ⟨T_2, h_2, X_2, e_2, W_2, st_2⟩ := putF X_1 hx hZ hown (host := "") (Or.inl (wdOf hw 46 rfl)) Via.refl K_1 F0 E0 (Or.inr ⟨wdOf hw 47 rfl, rfl, hnm⟩) (wdOf hw 34 rfl) (ty := .int) (by decide) rfl rfl (g := (mkF m 6 #[sR_ ax, sI_ xv] [(.int xv), (.ref ax)])) rfl rfl (hb hby d_rm_vo_init_6)
  have N_2 := Fr.snoc X_2 N_1 o0
  have f_3 : Exa Z h_2 ax "java/lang/Integer" := E0.wr W_2
  have f_4 : Fld Z h_2 ax "java/lang/Integer" "value" "I" (.int xv) := F0.same W_2
  have K_5 : Keep h0 h_2 [ax] := K0.wr W_2 (Or.inl (List.mem_of_getElem? (i := 0) rfl))
  have y_5 : n0 ≤ h_2.size := Nat.le_trans Z0 K_5.1
  refine Goes.go (U' := (T_2.setTop (mkF m 9 #[sR_ ax, sI_ xv] []))) st_2 ?_
  refine Goes.retV X_2 hx hlk hret (hb hby d_rm_vo_init_9) (by decide) (by decide) ?_
  try rw [e_2]
  exact ⟨rfl, N_2, K_5, f_3, f_4⟩
theorem own_ix {i : Int32} (h1 : ¬ i < (-128 : Int32)) (h2 : ¬ (127 : Int32) < i) : ¬ (i + (128 : Int32)) < 0 ∧ (i + (128 : Int32)).toNatClampNeg < 256 ∧ (Value.int ((i + (128 : Int32)).toNatClampNeg.toInt32 - 128)) = .int i := by
  rw [Int32.lt_iff_toInt_lt] at h1 h2
  have e1 : (-128 : Int32).toInt = -128 := rfl
  have e2 : (127 : Int32).toInt = 127 := rfl
  have e3 : (128 : Int32).toInt = 128 := rfl
  have q := c_iadd i 128
  have r := rng32 (i + 128)
  have h3 : (i + (128 : Int32)).toInt = i.toInt + 128 := by omega
  have h0 : ¬ (i + (128 : Int32)) < 0 := by rw [Int32.lt_iff_toInt_lt]; show ¬ _ < (0 : Int); omega
  refine ⟨h0, by simp only [Int32.toNatClampNeg]; omega, ?_⟩
  rw [(back32 h0).1]
  congr 1
  apply Int32.toInt_inj.mp
  have q2 := c_isub (i + 128) 128
  have r2 := rng32 (i + 128 - 128)
  have r3 := rng32 i
  omega
theorem d_rm_vo_0 : decode jdk_33_method_22_code 0 = .ok (.iload_n 0, 1) := by decide +kernel
theorem d_rm_vo_1 : decode jdk_33_method_22_code 1 = .ok (.bipush (-128), 2) := by decide +kernel
theorem d_rm_vo_3 : decode jdk_33_method_22_code 3 = .ok (.if_icmp .lt 20, 3) := by decide +kernel
theorem d_rm_vo_6 : decode jdk_33_method_22_code 6 = .ok (.iload_n 0, 1) := by decide +kernel
theorem d_rm_vo_7 : decode jdk_33_method_22_code 7 = .ok (.getstatic 191, 3) := by decide +kernel
theorem d_rm_vo_10 : decode jdk_33_method_22_code 10 = .ok (.if_icmp .gt 13, 3) := by decide +kernel
theorem d_rm_vo_13 : decode jdk_33_method_22_code 13 = .ok (.getstatic 195, 3) := by decide +kernel
theorem d_rm_vo_16 : decode jdk_33_method_22_code 16 = .ok (.iload_n 0, 1) := by decide +kernel
theorem d_rm_vo_17 : decode jdk_33_method_22_code 17 = .ok (.sipush 128, 3) := by decide +kernel
theorem d_rm_vo_20 : decode jdk_33_method_22_code 20 = .ok (.iadd, 1) := by decide +kernel
theorem d_rm_vo_21 : decode jdk_33_method_22_code 21 = .ok (.aaload, 1) := by decide +kernel
theorem d_rm_vo_22 : decode jdk_33_method_22_code 22 = .ok (.areturn, 1) := by decide +kernel
theorem d_rm_vo_23 : decode jdk_33_method_22_code 23 = .ok (.new 1, 3) := by decide +kernel
theorem d_rm_vo_26 : decode jdk_33_method_22_code 26 = .ok (.dup, 1) := by decide +kernel
theorem d_rm_vo_27 : decode jdk_33_method_22_code 27 = .ok (.iload_n 0, 1) := by decide +kernel
theorem d_rm_vo_28 : decode jdk_33_method_22_code 28 = .ok (.invokespecial 199, 3) := by decide +kernel
theorem d_rm_vo_31 : decode jdk_33_method_22_code 31 = .ok (.areturn, 1) := by decide +kernel
set_option maxHeartbeats 4000000 in
theorem ef_rm_vo (m : MethodId) (x0 : Int32)  : entryFrame m #[(.int x0)] 1 = mkF m 0 #[.val (.int x0)] [] := by first | (simp [entryFrame, mkF, argsToLocals, catR, catN, catI, catJ]; done) | rfl
set_option maxRecDepth 65536 in
set_option maxHeartbeats 40000000 in
theorem rm_vo (l : Launch) (Z : State) (a0 : Array Value) (hw : ∀ d ∈ tables_1, d.before a0 Z = true) (ws : List Jvm.Cond) (iv : Int32) (h0 : Heap) (n0 : Nat) (Z0 : n0 ≤ h0.size) (O : Old Z n0 h0) (BC : BoxC Z "java/lang/Integer$IntegerCache" "[Ljava/lang/Integer;" "java/lang/Integer" "I" (fun i => .int (i.toInt32 - 128))) (SH : Sta Z Z.heap "java/lang/Integer$IntegerCache" "high" "I" (.int (127 : Int32))) :
    Pays l Z (⟨"java/lang/Integer", "valueOf", "(I)Ljava/lang/Integer;"⟩ : MethodName) jdk_33_method_22_code 1 (some (.object "java/lang/Integer")) ws ({ frames := 3, cells := 1, slots := 1, locals := 38 } : Room) #[(.int iv)] h0 (fun v h L => ∃ r, v = some (.ref r) ∧ Fr n0 L ∧ Ext h0 h ∧ Exa Z h r "java/lang/Integer" ∧ Fld Z h r "java/lang/Integer" "value" "I" (.int iv)) := by
  refine Pays.of (plainFor_of_name (by first | (simp [plainName, overriddenIn]; done) | decide +kernel)) ?_
  intro p e s m below meth c s₁ hx hby hml hown hnm hret hlk hZ e0 X0
  have N0 := Fr.nil n0
  have K0 : Keep h0 h0 [] := Keep.refl _ _
  refine Goes.go (U' := (s₁.setTop (mkF m 0 #[sI_ iv] []))) (fun t kt => castTop (ef_rm_vo m iv) kt) ?_
  refine Goes.go (U' := (s₁.setTop (mkF m 3 #[sI_ iv] [(.int (-128 : Int32)), (.int iv)]))) (fun t kt => ?_) ?_
  · skip
    refine XS.iloadN X0.here hx rfl (hb hby d_rm_vo_0) rfl ?_
    refine XS.bipush X0.here hx rfl (hb hby d_rm_vo_1) ?_
    exact kt
  by_cases ci : iv < (-128 : Int32)
  · -- iv < (-128 : Int32)
    refine Goes.go (U' := (s₁.setTop (mkF m 23 #[sI_ iv] []))) (fun t kt => ?_) ?_
    · skip
      refine XS.icmpYes X0.here hx rfl (pc0 := 3) (pc' := 23) rfl (hb hby d_rm_vo_3) rfl (XT.ii_lt_t ci) (by decide) (by decide) ?_
      exact kt
    obtain ⟨T_1, h_1, X_1, e_1, E_1, A_1, D_1, -, st_1⟩ := newO X0 hx hZ hown (wdOf hw 33 rfl) (wdOf hw 34 rfl) (wdOf hw 28 rfl) e0 (g := (mkF m 23 #[sI_ iv] [])) rfl (hb hby d_rm_vo_23) (by decide) (by decide)
    obtain ⟨b_1, g_1⟩ : ∃ z, z = h0.size := ⟨_, rfl⟩
    rw [← g_1] at A_1 D_1 st_1
    have o_1 : n0 ≤ b_1 := Nat.le_trans Z0 (Nat.le_of_eq g_1.symm)
    have z_1 : h0.size ≤ b_1 := Nat.le_trans K0.1 (Nat.le_of_eq g_1.symm)
    have f_2 : Sta Z h_1 "java/lang/Integer$IntegerCache" "high" "I" (.int (127 : Int32)) := (SH.ext O.2).ext E_1
    have f_3 : Fld Z h_1 b_1 "java/lang/Integer" "value" "I" (.int (0 : Int32)) := D_1 (Or.inr (wdOf hw 47 rfl)) (ty := .int) (by decide)
    have K_4 : Keep h0 h_1 [] := K0.ext E_1
    have y_4 : n0 ≤ h_1.size := Nat.le_trans Z0 K_4.1
    refine Goes.go (U' := (T_1.setTop (mkF m 26 #[sI_ iv] [(.ref b_1)]))) st_1 ?_
    refine Goes.go (U' := (T_1.setTop (mkF m 28 #[sI_ iv] [(.int iv), (.ref b_1), (.ref b_1)]))) (fun t kt => ?_) ?_
    · skip
      refine XS.dup X_1.here hx rfl (hb hby d_rm_vo_26) rfl rfl ?_
      refine XS.iloadN X_1.here hx rfl (hb hby d_rm_vo_27) rfl ?_
      exact kt
    obtain ⟨v_5, T_5, L_5, X_5, q_5, st_5⟩ := callInit X_1 hx hZ (y := (⟨"java/lang/Integer", "<init>", "(I)V"⟩ : MethodName)) (W := 1) rfl hown (wdOf hw 35 rfl) (wdOf hw 36 rfl) (wdOf hw 28 rfl) (wdOf hw 38 rfl) (by decide) (rm_vo_init l Z a0 hw [] b_1 iv h_1 n0 y_4 o_1 A_1 f_3) (by decide) (by decide) (by decide) (by decide) e_1 (b := b_1) (g := (mkF m 28 #[sI_ iv] [(.int iv), (.ref b_1), (.ref b_1)])) rfl (by rw [hml]; rfl) (argsL := [(.int iv)]) (rest := [(.ref b_1)]) (lenOf pd_1 rfl) rfl rfl (Nat.le_refl _) (hb hby d_rm_vo_28)
    obtain ⟨rfl, n_5, K_5, E_5, F_5⟩ := q_5
    have N_5 := Fr.app N0 n_5
    have f_6 : Sta Z T_5.heap "java/lang/Integer$IntegerCache" "high" "I" (.int (127 : Int32)) := f_2.keepN K_5 (allS (A_1.cell) all0)
    have f_7 : Exa Z T_5.heap b_1 "java/lang/Integer" := A_1.keep K_5
    have K_9 : Keep h0 T_5.heap [] := K_4.trans K_5 (allS (P := fun x => x ∈ [] ∨ h0.size ≤ x) (Or.inr z_1) all0)
    have y_9 : n0 ≤ T_5.heap.size := Nat.le_trans Z0 K_9.1
    refine Goes.go (U' := (T_5.setTop (mkF m 31 #[sI_ iv] [(.ref b_1)]))) st_5 ?_
    refine Goes.retA X_5 hx hlk hret rfl rfl (hb hby d_rm_vo_31) (by decide) (by decide) ?_
    try rw [(rfl : T_5.heap = T_5.heap)]
    exact ⟨_, rfl, N_5, Ext.of_keep K_9, f_7, F_5⟩
  · -- not iv < (-128 : Int32)
    refine Goes.go (U' := (s₁.setTop (mkF m 7 #[sI_ iv] [(.int iv)]))) (fun t kt => ?_) ?_
    · skip
      refine XS.icmpNo X0.here hx rfl (hb hby d_rm_vo_3) rfl (XT.ii_lt_f ci) ?_
      refine XS.iloadN X0.here hx rfl (hb hby d_rm_vo_6) rfl ?_
      exact kt
    obtain ⟨T_10, X_10, e_10, st_10⟩ := getS X0 hx hZ hown (host := "") (wdOf hw 30 rfl) Via.refl e0 (SH.ext O.2) (g := (mkF m 7 #[sI_ iv] [(.int iv)])) rfl (hb hby d_rm_vo_7)
    refine Goes.go (U' := (T_10.setTop (mkF m 10 #[sI_ iv] [(.int (127 : Int32)), (.int iv)]))) st_10 ?_
    by_cases cj : (127 : Int32) < iv
    · -- (127 : Int32) < iv
      refine Goes.go (U' := (T_10.setTop (mkF m 23 #[sI_ iv] []))) (fun t kt => ?_) ?_
      · skip
        refine XS.icmpYes X_10.here hx rfl (pc0 := 10) (pc' := 23) rfl (hb hby d_rm_vo_10) rfl (XT.ii_gt_t cj) (by decide) (by decide) ?_
        exact kt
      obtain ⟨T_11, h_11, X_11, e_11, E_11, A_11, D_11, -, st_11⟩ := newO X_10 hx hZ hown (wdOf hw 33 rfl) (wdOf hw 34 rfl) (wdOf hw 28 rfl) e_10 (g := (mkF m 23 #[sI_ iv] [])) rfl (hb hby d_rm_vo_23) (by decide) (by decide)
      obtain ⟨b_11, g_11⟩ : ∃ z, z = h0.size := ⟨_, rfl⟩
      rw [← g_11] at A_11 D_11 st_11
      have o_11 : n0 ≤ b_11 := Nat.le_trans Z0 (Nat.le_of_eq g_11.symm)
      have z_11 : h0.size ≤ b_11 := Nat.le_trans K0.1 (Nat.le_of_eq g_11.symm)
      have f_12 : Sta Z h_11 "java/lang/Integer$IntegerCache" "high" "I" (.int (127 : Int32)) := (SH.ext O.2).ext E_11
      have f_13 : Fld Z h_11 b_11 "java/lang/Integer" "value" "I" (.int (0 : Int32)) := D_11 (Or.inr (wdOf hw 47 rfl)) (ty := .int) (by decide)
      have K_14 : Keep h0 h_11 [] := K0.ext E_11
      have y_14 : n0 ≤ h_11.size := Nat.le_trans Z0 K_14.1
      refine Goes.go (U' := (T_11.setTop (mkF m 26 #[sI_ iv] [(.ref b_11)]))) st_11 ?_
      refine Goes.go (U' := (T_11.setTop (mkF m 28 #[sI_ iv] [(.int iv), (.ref b_11), (.ref b_11)]))) (fun t kt => ?_) ?_
      · skip
        refine XS.dup X_11.here hx rfl (hb hby d_rm_vo_26) rfl rfl ?_
        refine XS.iloadN X_11.here hx rfl (hb hby d_rm_vo_27) rfl ?_
        exact kt
      obtain ⟨v_15, T_15, L_15, X_15, q_15, st_15⟩ := callInit X_11 hx hZ (y := (⟨"java/lang/Integer", "<init>", "(I)V"⟩ : MethodName)) (W := 1) rfl hown (wdOf hw 35 rfl) (wdOf hw 36 rfl) (wdOf hw 28 rfl) (wdOf hw 38 rfl) (by decide) (rm_vo_init l Z a0 hw [] b_11 iv h_11 n0 y_14 o_11 A_11 f_13) (by decide) (by decide) (by decide) (by decide) e_11 (b := b_11) (g := (mkF m 28 #[sI_ iv] [(.int iv), (.ref b_11), (.ref b_11)])) rfl (by rw [hml]; rfl) (argsL := [(.int iv)]) (rest := [(.ref b_11)]) (lenOf pd_1 rfl) rfl rfl (Nat.le_refl _) (hb hby d_rm_vo_28)
      obtain ⟨rfl, n_15, K_15, E_15, F_15⟩ := q_15
      have N_15 := Fr.app N0 n_15
      have f_16 : Sta Z T_15.heap "java/lang/Integer$IntegerCache" "high" "I" (.int (127 : Int32)) := f_12.keepN K_15 (allS (A_11.cell) all0)
      have f_17 : Exa Z T_15.heap b_11 "java/lang/Integer" := A_11.keep K_15
      have K_19 : Keep h0 T_15.heap [] := K_14.trans K_15 (allS (P := fun x => x ∈ [] ∨ h0.size ≤ x) (Or.inr z_11) all0)
      have y_19 : n0 ≤ T_15.heap.size := Nat.le_trans Z0 K_19.1
      refine Goes.go (U' := (T_15.setTop (mkF m 31 #[sI_ iv] [(.ref b_11)]))) st_15 ?_
      refine Goes.retA X_15 hx hlk hret rfl rfl (hb hby d_rm_vo_31) (by decide) (by decide) ?_
      try rw [(rfl : T_15.heap = T_15.heap)]
      exact ⟨_, rfl, N_15, Ext.of_keep K_19, f_17, F_15⟩
    · -- not (127 : Int32) < iv
      refine Goes.go (U' := (T_10.setTop (mkF m 13 #[sI_ iv] []))) (fun t kt => ?_) ?_
      · skip
        refine XS.icmpNo X_10.here hx rfl (hb hby d_rm_vo_10) rfl (XT.ii_gt_f cj) ?_
        exact kt
      obtain ⟨ca, cl, Sc, Ac, hsz, hel⟩ := BC
      have A1 := Ac.ext O.2
      obtain ⟨hj0, hj1, hj2⟩ := own_ix ci cj
      obtain ⟨rr, hat, Er, Fr1⟩ := hel _ hj1
      replace Fr1 := Eq.subst (motive := fun q => Fld Z Z.heap rr "java/lang/Integer" "value" "I" q) hj2 Fr1
      obtain ⟨T_20, X_20, e_20, st_20⟩ := getS X_10 hx hZ hown (host := "") (wdOf hw 32 rfl) Via.refl e_10 (Sc.ext O.2) (g := (mkF m 13 #[sI_ iv] [])) rfl (hb hby d_rm_vo_13)
      refine Goes.go (U' := (T_20.setTop (mkF m 16 #[sI_ iv] [(.ref ca)]))) st_20 ?_
      refine Goes.go (U' := (T_20.setTop (mkF m 22 #[sI_ iv] [(.ref rr)]))) (fun t kt => ?_) ?_
      · skip
        refine XS.iloadN X_20.here hx rfl (hb hby d_rm_vo_16) rfl ?_
        refine XS.sipush X_20.here hx rfl (hb hby d_rm_vo_17) ?_
        refine XS.iadd X_20.here hx rfl (hb hby d_rm_vo_20) rfl ?_
        refine X_20.aaload hx (j := (iv + (128 : Int32))) (v := (.ref rr)) (by rw [e_20]; exact A1.1) (State.isArrayOf_alike hZ.alike A1.2.1) rfl A1.2.2 (fun q => q.elim hj0 (fun q => absurd hj1 (Nat.not_lt.mpr (hsz ▸ q)))) hat (g := (mkF m 21 #[sI_ iv] [(.int (iv + (128 : Int32))), (.ref ca)])) rfl rfl (hb hby d_rm_vo_21) _ ?_
        exact kt
      refine Goes.retA X_20 hx hlk hret rfl rfl (hb hby d_rm_vo_22) (by decide) (by decide) ?_
      try rw [e_20]
      exact ⟨_, rfl, N0, ⟨Nat.le_refl _, fun _ _ q => q⟩, Er.ext O.2, Fr1.ext O.2⟩
theorem d_rm_ce_0 : decode jdk_43_method_3_code 0 = .ok (.iload_n 0, 1) := by decide +kernel
theorem d_rm_ce_1 : decode jdk_43_method_3_code 1 = .ok (.sipush 255, 3) := by decide +kernel
theorem d_rm_ce_4 : decode jdk_43_method_3_code 4 = .ok (.if_icmp .gt 7, 3) := by decide +kernel
theorem d_rm_ce_7 : decode jdk_43_method_3_code 7 = .ok (.iconst 1, 1) := by decide +kernel
theorem d_rm_ce_8 : decode jdk_43_method_3_code 8 = .ok (.goto 4, 3) := by decide +kernel
theorem d_rm_ce_12 : decode jdk_43_method_3_code 12 = .ok (.ireturn, 1) := by decide +kernel
set_option maxHeartbeats 4000000 in
theorem ef_rm_ce (m : MethodId) (x0 : Int32)  : entryFrame m #[(.int x0)] 1 = mkF m 0 #[.val (.int x0)] [] := by first | (simp [entryFrame, mkF, argsToLocals, catR, catN, catI, catJ]; done) | rfl
set_option maxRecDepth 65536 in
set_option maxHeartbeats 40000000 in
theorem rm_ce (l : Launch) (Z : State) (a0 : Array Value) (hw : ∀ d ∈ tables_1, d.before a0 Z = true) (ws : List Jvm.Cond) (xc : Int32) (h0 : Heap) (n0 : Nat) (Z0 : n0 ≤ h0.size) (hc : ¬ (255 : Int32) < xc) :
    Pays l Z (⟨"java/lang/StringLatin1", "canEncode", "(C)Z"⟩ : MethodName) jdk_43_method_3_code 1 (some .boolean) ws ({ frames := 0, cells := 0, slots := 0, locals := 0 } : Room) #[(.int xc)] h0 (fun v h L => v = some (.int 1) ∧ Fr n0 L ∧ h = h0) := by
  refine Pays.of (plainFor_of_name (by first | (simp [plainName, overriddenIn]; done) | decide +kernel)) ?_
  intro p e s m below meth c s₁ hx hby hml hown hnm hret hlk hZ e0 X0
  have N0 := Fr.nil n0
  have K0 : Keep h0 h0 [] := Keep.refl _ _
  refine Goes.go (U' := (s₁.setTop (mkF m 0 #[sI_ xc] []))) (fun t kt => castTop (ef_rm_ce m xc) kt) ?_
  refine Goes.go (U' := (s₁.setTop (mkF m 12 #[sI_ xc] [(.int (1 : Int32))]))) (fun t kt => ?_) ?_
  · skip
    refine XS.iloadN X0.here hx rfl (hb hby d_rm_ce_0) rfl ?_
    refine XS.sipush X0.here hx rfl (hb hby d_rm_ce_1) ?_
    refine XS.icmpNo X0.here hx rfl (hb hby d_rm_ce_4) rfl (XT.ii_gt_f hc) ?_
    refine XS.iconst X0.here hx rfl (hb hby d_rm_ce_7) ?_
    refine XS.goto X0.here hx rfl (pc0 := 8) (pc' := 12) rfl (hb hby d_rm_ce_8) (by decide) (by decide) ?_
    exact kt
  refine Goes.retB X0 hx hlk hret (hb hby d_rm_ce_12) (by decide) (by decide) ?_
  try rw [e0]
  exact ⟨rfl, N0, rfl⟩
theorem d_rm_tb_0 : decode jdk_43_method_46_code 0 = .ok (.iconst 1, 1) := by decide +kernel
theorem d_rm_tb_1 : decode jdk_43_method_46_code 1 = .ok (.newarray .byte, 2) := by decide +kernel
theorem d_rm_tb_3 : decode jdk_43_method_46_code 3 = .ok (.dup, 1) := by decide +kernel
theorem d_rm_tb_4 : decode jdk_43_method_46_code 4 = .ok (.iconst 0, 1) := by decide +kernel
theorem d_rm_tb_5 : decode jdk_43_method_46_code 5 = .ok (.iload_n 0, 1) := by decide +kernel
theorem d_rm_tb_6 : decode jdk_43_method_46_code 6 = .ok (.i2b, 1) := by decide +kernel
theorem d_rm_tb_7 : decode jdk_43_method_46_code 7 = .ok (.bastore, 1) := by decide +kernel
theorem d_rm_tb_8 : decode jdk_43_method_46_code 8 = .ok (.areturn, 1) := by decide +kernel
set_option maxHeartbeats 4000000 in
theorem ef_rm_tb (m : MethodId) (x0 : Int32)  : entryFrame m #[(.int x0)] 1 = mkF m 0 #[.val (.int x0)] [] := by first | (simp [entryFrame, mkF, argsToLocals, catR, catN, catI, catJ]; done) | rfl
set_option maxRecDepth 65536 in
set_option maxHeartbeats 40000000 in
theorem rm_tb (l : Launch) (Z : State) (a0 : Array Value) (hw : ∀ d ∈ tables_1, d.before a0 Z = true) (ws : List Jvm.Cond) (xc : Int32) (h0 : Heap) (n0 : Nat) (Z0 : n0 ≤ h0.size)  :
    Pays l Z (⟨"java/lang/StringLatin1", "toBytes", "(C)[B"⟩ : MethodName) jdk_43_method_46_code 1 (some (.array .byte)) ws ({ frames := 0, cells := 1, slots := 1, locals := 0 } : Room) #[(.int xc)] h0 (fun v h L => ∃ r kb, v = some (.ref r) ∧ Fr n0 L ∧ Ext h0 h ∧ Arv Z h r kb .byte (1 : Int32) [(.int (xc.toInt8.toInt32).toInt8.toInt32)] (.int (0 : Int32))) := by
  refine Pays.of (plainFor_of_name (by first | (simp [plainName, overriddenIn]; done) | decide +kernel)) ?_
  intro p e s m below meth c s₁ hx hby hml hown hnm hret hlk hZ e0 X0
  have N0 := Fr.nil n0
  have K0 : Keep h0 h0 [] := Keep.refl _ _
  refine Goes.go (U' := (s₁.setTop (mkF m 0 #[sI_ xc] []))) (fun t kt => castTop (ef_rm_tb m xc) kt) ?_
  refine Goes.go (U' := (s₁.setTop (mkF m 1 #[sI_ xc] [(.int (1 : Int32))]))) (fun t kt => ?_) ?_
  · skip
    refine XS.iconst X0.here hx rfl (hb hby d_rm_tb_0) ?_
    exact kt
  obtain ⟨T_1, h_1, k_1, X_1, e_1, E_1, A_1, st_1⟩ := newP X0 hx hZ (wdOf hw 14 rfl) e0 (g := (mkF m 1 #[sI_ xc] [(.int (1 : Int32))])) rfl (hb hby d_rm_tb_1) rfl (by decide) (cap := 1) (by decide) (by decide) (by decide) (by decide)
  obtain ⟨b_1, g_1⟩ : ∃ z, z = h0.size := ⟨_, rfl⟩
  rw [← g_1] at A_1 st_1
  have o_1 : n0 ≤ b_1 := Nat.le_trans Z0 (Nat.le_of_eq g_1.symm)
  have z_1 : h0.size ≤ b_1 := Nat.le_trans K0.1 (Nat.le_of_eq g_1.symm)
  have V_1 : Arv Z h_1 b_1 k_1 .byte (1 : Int32) [(.int (0 : Int32))] (.int (0 : Int32)) := (Arv.new A_1 (by decide)).pad (pad_rep [] (.int (0 : Int32)) 1)
  have K_2 : Keep h0 h_1 [] := K0.ext E_1
  have y_2 : n0 ≤ h_1.size := Nat.le_trans Z0 K_2.1
  refine Goes.go (U' := (T_1.setTop (mkF m 3 #[sI_ xc] [(.ref b_1)]))) st_1 ?_
  refine Goes.go (U' := (T_1.setTop (mkF m 7 #[sI_ xc] [(.int (xc.toInt8.toInt32)), (.int (0 : Int32)), (.ref b_1), (.ref b_1)]))) (fun t kt => ?_) ?_
  · skip
    refine XS.dup X_1.here hx rfl (hb hby d_rm_tb_3) rfl rfl ?_
    refine XS.iconst X_1.here hx rfl (hb hby d_rm_tb_4) ?_
    refine XS.iloadN X_1.here hx rfl (hb hby d_rm_tb_5) rfl ?_
    refine XS.i2b X_1.here hx rfl (hb hby d_rm_tb_6) rfl ?_
    exact kt
  obtain ⟨cl_3, Ar_3, q_3, S_3, M_3, H_3, G_3⟩ := V_1
  have hin_3 : ¬ ((0 : Int32) < 0 ∨ cl_3.slots.size ≤ ((0 : Int32)).toNatClampNeg) := inb_of S_3 ⟨by decide, by decide⟩
  obtain ⟨T_3, h_3, X_3, e_3, W_3, st_3⟩ := stB X_1 hx hZ e_1 Ar_3 (j := (0 : Int32)) hin_3 (g := (mkF m 7 #[sI_ xc] [(.int (xc.toInt8.toInt32)), (.int (0 : Int32)), (.ref b_1), (.ref b_1)])) rfl rfl (hb hby d_rm_tb_7)
  have V_3 : Arv Z h_3 b_1 k_1 .byte (1 : Int32) [(.int (xc.toInt8.toInt32).toInt8.toInt32)] (.int (0 : Int32)) := Arv.set Ar_3 q_3 S_3 M_3 H_3 G_3 (fits_nar_byte _) W_3 0 rfl (Nat.le_of_ble_eq_true rfl)
  have N_3 := Fr.snoc X_3 N0 o_1
  have K_5 : Keep h0 h_3 [] := K_2.wr W_3 (Or.inr z_1)
  have y_5 : n0 ≤ h_3.size := Nat.le_trans Z0 K_5.1
  refine Goes.go (U' := (T_3.setTop (mkF m 8 #[sI_ xc] [(.ref b_1)]))) st_3 ?_
  refine Goes.retA X_3 hx hlk hret rfl rfl (hb hby d_rm_tb_8) (by decide) (by decide) ?_
  try rw [e_3]
  exact ⟨_, _, rfl, N_3, Ext.of_keep K_5, V_3⟩
theorem d_rm_sinit_0 : decode jdk_42_method_151_code 0 = .ok (.aload_n 0, 1) := by decide +kernel
theorem d_rm_sinit_1 : decode jdk_42_method_151_code 1 = .ok (.invokespecial 1, 3) := by decide +kernel
theorem d_rm_sinit_4 : decode jdk_42_method_151_code 4 = .ok (.aload_n 0, 1) := by decide +kernel
theorem d_rm_sinit_5 : decode jdk_42_method_151_code 5 = .ok (.aload_n 1, 1) := by decide +kernel
theorem d_rm_sinit_6 : decode jdk_42_method_151_code 6 = .ok (.putfield 9, 3) := by decide +kernel
theorem d_rm_sinit_9 : decode jdk_42_method_151_code 9 = .ok (.aload_n 0, 1) := by decide +kernel
theorem d_rm_sinit_10 : decode jdk_42_method_151_code 10 = .ok (.iload_n 2, 1) := by decide +kernel
theorem d_rm_sinit_11 : decode jdk_42_method_151_code 11 = .ok (.putfield 15, 3) := by decide +kernel
theorem d_rm_sinit_14 : decode jdk_42_method_151_code 14 = .ok (.return_, 1) := by decide +kernel
set_option maxHeartbeats 4000000 in
theorem ef_rm_sinit (m : MethodId) (x0 : Addr) (x1 : Addr) (x2 : Int32)  : entryFrame m #[(.ref x0), (.ref x1), (.int x2)] 3 = mkF m 0 #[.val (.ref x0), .val (.ref x1), .val (.int x2)] [] := by first | (simp [entryFrame, mkF, argsToLocals, catR, catN, catI, catJ]; done) | rfl
set_option maxRecDepth 65536 in
set_option maxHeartbeats 40000000 in
theorem rm_sinit (l : Launch) (Z : State) (a0 : Array Value) (hw : ∀ d ∈ tables_1, d.before a0 Z = true) (ws : List Jvm.Cond) (ax bx : Addr) (h0 : Heap) (n0 : Nat) (Z0 : n0 ≤ h0.size) (o0 : n0 ≤ ax) (E0 : Exa Z h0 ax "java/lang/String") (F0_value : Fld Z h0 ax "java/lang/String" "value" "[B" .null) (F0_coder : Fld Z h0 ax "java/lang/String" "coder" "B" (.int (0 : Int32))) :
    Pays l Z (⟨"java/lang/String", "<init>", "([BB)V"⟩ : MethodName) jdk_42_method_151_code 3 none ws ({ frames := 1, cells := 0, slots := 0, locals := 12 } : Room) #[(.ref ax), (.ref bx), (.int (0 : Int32))] h0 (fun v h L => v = none ∧ Fr n0 L ∧ Keep h0 h [ax] ∧ Exa Z h ax "java/lang/String" ∧ Fld Z h ax "java/lang/String" "value" "[B" (.ref bx) ∧ Fld Z h ax "java/lang/String" "coder" "B" (.int (0 : Int32))) := by
  refine Pays.of (plainFor_of_name (by first | (simp [plainName, overriddenIn]; done) | decide +kernel)) ?_
  intro p e s m below meth c s₁ hx hby hml hown hnm hret hlk hZ e0 X0
  have N0 := Fr.nil n0
  have K0 : Keep h0 h0 [ax] := Keep.refl _ _
  refine Goes.go (U' := (s₁.setTop (mkF m 0 #[sR_ ax, sR_ bx, sI_ (0 : Int32)] []))) (fun t kt => castTop (ef_rm_sinit m ax bx (0 : Int32)) kt) ?_
  refine Goes.go (U' := (s₁.setTop (mkF m 1 #[sR_ ax, sR_ bx, sI_ (0 : Int32)] [(.ref ax)]))) (fun t kt => ?_) ?_
  · skip
    refine XS.aloadN X0.here hx rfl (hb hby d_rm_sinit_0) rfl rfl ?_
    exact kt
  obtain ⟨T_1, X_1, e_1, st_1⟩ := initO X0 hx hZ hown (wdOf hw 19 rfl) (wdOf hw 20 rfl) (wdOf hw 21 rfl) e0 (g := (mkF m 1 #[sR_ ax, sR_ bx, sI_ (0 : Int32)] [(.ref ax)])) rfl (by rw [hml]; rfl) rfl (hb hby d_rm_sinit_1) (by decide) (W := 0) (Nat.le_refl _) (by decide)
  refine Goes.go (U' := (T_1.setTop (mkF m 4 #[sR_ ax, sR_ bx, sI_ (0 : Int32)] []))) st_1 ?_
  refine Goes.go (U' := (T_1.setTop (mkF m 6 #[sR_ ax, sR_ bx, sI_ (0 : Int32)] [(.ref bx), (.ref ax)]))) (fun t kt => ?_) ?_
  · skip
    refine XS.aloadN X_1.here hx rfl (hb hby d_rm_sinit_4) rfl rfl ?_
    refine XS.aloadN X_1.here hx rfl (hb hby d_rm_sinit_5) rfl rfl ?_
    exact kt
  obtain ⟨T_2, h_2, X_2, e_2, W_2, st_2⟩ := putF X_1 hx hZ hown (host := "") (Or.inl (wdOf hw 22 rfl)) Via.refl e_1 F0_value E0 (Or.inr ⟨wdOf hw 23 rfl, rfl, hnm⟩) (wdOf hw 10 rfl) (ty := (.array .byte)) (by decide) rfl rfl (g := (mkF m 6 #[sR_ ax, sR_ bx, sI_ (0 : Int32)] [(.ref bx), (.ref ax)])) rfl rfl (hb hby d_rm_sinit_6)
  have N_2 := Fr.snoc X_2 N0 o0
  have f_3 : Exa Z h_2 ax "java/lang/String" := E0.wr W_2
  have f_4 : Fld Z h_2 ax "java/lang/String" "value" "[B" (.ref bx) := F0_value.same W_2
  have f_5 : Fld Z h_2 ax "java/lang/String" "coder" "B" (.int (0 : Int32)) := F0_coder.other W_2 (Or.inr (slot_ne (Or.inr (wdOf hw 25 rfl)) (Or.inr (wdOf hw 23 rfl)) (by decide) (t := .byte) (t' := (.array .byte)) (by decide) (by decide)))
  have K_6 : Keep h0 h_2 [ax] := K0.wr W_2 (Or.inl (List.mem_of_getElem? (i := 0) rfl))
  have y_6 : n0 ≤ h_2.size := Nat.le_trans Z0 K_6.1
  refine Goes.go (U' := (T_2.setTop (mkF m 9 #[sR_ ax, sR_ bx, sI_ (0 : Int32)] []))) st_2 ?_
  refine Goes.go (U' := (T_2.setTop (mkF m 11 #[sR_ ax, sR_ bx, sI_ (0 : Int32)] [(.int (0 : Int32)), (.ref ax)]))) (fun t kt => ?_) ?_
  · skip
    refine XS.aloadN X_2.here hx rfl (hb hby d_rm_sinit_9) rfl rfl ?_
    refine XS.iloadN X_2.here hx rfl (hb hby d_rm_sinit_10) rfl ?_
    exact kt
  obtain ⟨T_7, h_7, X_7, e_7, W_7, st_7⟩ := putFN X_2 hx hZ hown (wdOf hw 24 rfl) Via.refl e_2 f_5 f_3 (Or.inr ⟨wdOf hw 25 rfl, rfl, hnm⟩) (wdOf hw 10 rfl) (ty := .byte) (v' := (.int (0 : Int32))) (by decide) rfl rfl (g := (mkF m 11 #[sR_ ax, sR_ bx, sI_ (0 : Int32)] [(.int (0 : Int32)), (.ref ax)])) rfl rfl (hb hby d_rm_sinit_11)
  have N_7 := Fr.snoc X_7 N_2 o0
  have f_8 : Exa Z h_7 ax "java/lang/String" := f_3.wr W_7
  have f_9 : Fld Z h_7 ax "java/lang/String" "value" "[B" (.ref bx) := f_4.other W_7 (Or.inr (slot_ne (Or.inr (wdOf hw 23 rfl)) (Or.inr (wdOf hw 25 rfl)) (by decide) (t := (.array .byte)) (t' := .byte) (by decide) (by decide)))
  have f_10 : Fld Z h_7 ax "java/lang/String" "coder" "B" (.int (0 : Int32)) := f_5.same W_7
  have K_11 : Keep h0 h_7 [ax] := K_6.wr W_7 (Or.inl (List.mem_of_getElem? (i := 0) rfl))
  have y_11 : n0 ≤ h_7.size := Nat.le_trans Z0 K_11.1
  refine Goes.go (U' := (T_7.setTop (mkF m 14 #[sR_ ax, sR_ bx, sI_ (0 : Int32)] []))) st_7 ?_
  refine Goes.retV X_7 hx hlk hret (hb hby d_rm_sinit_14) (by decide) (by decide) ?_
  try rw [e_7]
  exact ⟨rfl, N_7, K_11, f_8, f_9, f_10⟩
theorem d_rm_sv_0 : decode jdk_42_method_139_code 0 = .ok (.getstatic 38, 3) := by decide +kernel
theorem d_rm_sv_3 : decode jdk_42_method_139_code 3 = .ok (.ifCond .eq 23, 3) := by decide +kernel
theorem d_rm_sv_6 : decode jdk_42_method_139_code 6 = .ok (.iload_n 0, 1) := by decide +kernel
theorem d_rm_sv_7 : decode jdk_42_method_139_code 7 = .ok (.invokestatic 1015, 3) := by decide +kernel
theorem d_rm_sv_10 : decode jdk_42_method_139_code 10 = .ok (.ifCond .eq 16, 3) := by decide +kernel
theorem d_rm_sv_13 : decode jdk_42_method_139_code 13 = .ok (.new 10, 3) := by decide +kernel
theorem d_rm_sv_16 : decode jdk_42_method_139_code 16 = .ok (.dup, 1) := by decide +kernel
theorem d_rm_sv_17 : decode jdk_42_method_139_code 17 = .ok (.iload_n 0, 1) := by decide +kernel
theorem d_rm_sv_18 : decode jdk_42_method_139_code 18 = .ok (.invokestatic 1018, 3) := by decide +kernel
theorem d_rm_sv_21 : decode jdk_42_method_139_code 21 = .ok (.iconst 0, 1) := by decide +kernel
theorem d_rm_sv_22 : decode jdk_42_method_139_code 22 = .ok (.invokespecial 209, 3) := by decide +kernel
theorem d_rm_sv_25 : decode jdk_42_method_139_code 25 = .ok (.areturn, 1) := by decide +kernel
set_option maxHeartbeats 4000000 in
theorem ef_rm_sv (m : MethodId) (x0 : Int32)  : entryFrame m #[(.int x0)] 1 = mkF m 0 #[.val (.int x0)] [] := by first | (simp [entryFrame, mkF, argsToLocals, catR, catN, catI, catJ]; done) | rfl
set_option maxRecDepth 65536 in
set_option maxHeartbeats 40000000 in
theorem rm_sv (l : Launch) (Z : State) (a0 : Array Value) (hw : ∀ d ∈ tables_1, d.before a0 Z = true) (ws : List Jvm.Cond) (xc cs : Int32) (h0 : Heap) (n0 : Nat) (Z0 : n0 ≤ h0.size) (O : Old Z n0 h0) (SC : Sta Z Z.heap "java/lang/String" "COMPACT_STRINGS" "Z" (.int cs)) (hcs : ¬ cs = 0) (hc : ¬ (255 : Int32) < xc) :
    Pays l Z (⟨"java/lang/String", "valueOf", "(C)Ljava/lang/String;"⟩ : MethodName) jdk_42_method_139_code 1 (some (.object "java/lang/String")) ws ({ frames := 2, cells := 2, slots := 5, locals := 27 } : Room) #[(.int xc)] h0 (fun v h L => ∃ r rb kb, v = some (.ref r) ∧ Fr n0 L ∧ Ext h0 h ∧ Exa Z h r "java/lang/String" ∧ Fld Z h r "java/lang/String" "value" "[B" (.ref rb) ∧ Fld Z h r "java/lang/String" "coder" "B" (.int (0 : Int32)) ∧ Arv Z h rb kb .byte (1 : Int32) [(.int (xc.toInt8.toInt32).toInt8.toInt32)] (.int (0 : Int32))) := by
  refine Pays.of (plainFor_of_name (by first | (simp [plainName, overriddenIn]; done) | decide +kernel)) ?_
  intro p e s m below meth c s₁ hx hby hml hown hnm hret hlk hZ e0 X0
  have N0 := Fr.nil n0
  have K0 : Keep h0 h0 [] := Keep.refl _ _
  refine Goes.go (U' := (s₁.setTop (mkF m 0 #[sI_ xc] []))) (fun t kt => castTop (ef_rm_sv m xc) kt) ?_
  obtain ⟨T_1, X_1, e_1, st_1⟩ := getS X0 hx hZ hown (host := "") (wdOf hw 4 rfl) Via.refl e0 (SC.ext O.2) (g := (mkF m 0 #[sI_ xc] [])) rfl (hb hby d_rm_sv_0)
  refine Goes.go (U' := (T_1.setTop (mkF m 3 #[sI_ xc] [(.int cs)]))) st_1 ?_
  refine Goes.go (U' := (T_1.setTop (mkF m 7 #[sI_ xc] [(.int xc)]))) (fun t kt => ?_) ?_
  · skip
    refine XS.ifNo X_1.here hx rfl (hb hby d_rm_sv_3) rfl (XT.i0_eq_f hcs) ?_
    refine XS.iloadN X_1.here hx rfl (hb hby d_rm_sv_6) rfl ?_
    exact kt
  obtain ⟨v_2, T_2, L_2, X_2, q_2, st_2⟩ := callStatic X_1 hx hZ (y := (⟨"java/lang/StringLatin1", "canEncode", "(C)Z"⟩ : MethodName)) (W := 0) hown (wdOf hw 5 rfl) (wdOf hw 6 rfl) (wdOf hw 7 rfl) (wdOf hw 8 rfl) (by decide) (rm_ce l Z a0 hw [] xc h0 n0 Z0 hc) (by decide) (by decide) (by decide) (by decide) e_1 (g := (mkF m 7 #[sI_ xc] [(.int xc)])) rfl (by rw [hml]; rfl) (argsL := [(.int xc)]) (rest := []) (lenOf pd_2 rfl) rfl rfl (Nat.le_refl _) (hb hby d_rm_sv_7)
  obtain ⟨rfl, n_2, K_2⟩ := q_2
  have N_2 := Fr.app N0 n_2
  refine Goes.go (U' := (T_2.setTop (mkF m 10 #[sI_ xc] [(.int (1 : Int32))]))) st_2 ?_
  refine Goes.go (U' := (T_2.setTop (mkF m 13 #[sI_ xc] []))) (fun t kt => ?_) ?_
  · skip
    refine XS.ifNo X_2.here hx rfl (hb hby d_rm_sv_10) rfl (XT.i0_eq_f (by decide)) ?_
    exact kt
  obtain ⟨T_3, h_3, X_3, e_3, E_3, A_3, D_3, -, st_3⟩ := newO X_2 hx hZ hown (wdOf hw 9 rfl) (wdOf hw 10 rfl) (wdOf hw 2 rfl) K_2 (g := (mkF m 13 #[sI_ xc] [])) rfl (hb hby d_rm_sv_13) (by decide) (by decide)
  obtain ⟨b_3, g_3⟩ : ∃ z, z = h0.size := ⟨_, rfl⟩
  rw [← g_3] at A_3 D_3 st_3
  have o_3 : n0 ≤ b_3 := Nat.le_trans Z0 (Nat.le_of_eq g_3.symm)
  have z_3 : h0.size ≤ b_3 := Nat.le_trans K0.1 (Nat.le_of_eq g_3.symm)
  have f_4 : Sta Z h_3 "java/lang/String" "COMPACT_STRINGS" "Z" (.int cs) := (SC.ext O.2).ext E_3
  have f_5 : Fld Z h_3 b_3 "java/lang/String" "value" "[B" .null := D_3 (Or.inr (wdOf hw 23 rfl)) (ty := (.array .byte)) (by decide)
  have f_6 : Fld Z h_3 b_3 "java/lang/String" "coder" "B" (.int (0 : Int32)) := D_3 (Or.inr (wdOf hw 25 rfl)) (ty := .byte) (by decide)
  have K_7 : Keep h0 h_3 [] := K0.ext E_3
  have y_7 : n0 ≤ h_3.size := Nat.le_trans Z0 K_7.1
  refine Goes.go (U' := (T_3.setTop (mkF m 16 #[sI_ xc] [(.ref b_3)]))) st_3 ?_
  refine Goes.go (U' := (T_3.setTop (mkF m 18 #[sI_ xc] [(.int xc), (.ref b_3), (.ref b_3)]))) (fun t kt => ?_) ?_
  · skip
    refine XS.dup X_3.here hx rfl (hb hby d_rm_sv_16) rfl rfl ?_
    refine XS.iloadN X_3.here hx rfl (hb hby d_rm_sv_17) rfl ?_
    exact kt
  obtain ⟨v_8, T_8, L_8, X_8, q_8, st_8⟩ := callStatic X_3 hx hZ (y := (⟨"java/lang/StringLatin1", "toBytes", "(C)[B"⟩ : MethodName)) (W := 2) hown (wdOf hw 11 rfl) (wdOf hw 12 rfl) (wdOf hw 7 rfl) (wdOf hw 13 rfl) (by decide) (rm_tb l Z a0 hw [] xc h_3 n0 y_7) (by decide) (by decide) (by decide) (by decide) e_3 (g := (mkF m 18 #[sI_ xc] [(.int xc), (.ref b_3), (.ref b_3)])) rfl (by rw [hml]; rfl) (argsL := [(.int xc)]) (rest := [(.ref b_3), (.ref b_3)]) (lenOf pd_3 rfl) rfl rfl (Nat.le_refl _) (hb hby d_rm_sv_18)
  obtain ⟨r_8, kb_8, rfl, n_8, K_8, V_8⟩ := q_8
  have N_8 := Fr.app N_2 n_8
  have f_9 : Sta Z T_8.heap "java/lang/String" "COMPACT_STRINGS" "Z" (.int cs) := f_4.ext K_8
  have f_10 : Exa Z T_8.heap b_3 "java/lang/String" := A_3.ext K_8
  have f_11 : Fld Z T_8.heap b_3 "java/lang/String" "value" "[B" .null := f_5.ext K_8
  have f_12 : Fld Z T_8.heap b_3 "java/lang/String" "coder" "B" (.int (0 : Int32)) := f_6.ext K_8
  have K_13 : Keep h0 T_8.heap [] := K_7.ext K_8
  have y_13 : n0 ≤ T_8.heap.size := Nat.le_trans Z0 K_13.1
  refine Goes.go (U' := (T_8.setTop (mkF m 21 #[sI_ xc] [(.ref r_8), (.ref b_3), (.ref b_3)]))) st_8 ?_
  have nrs : r_8 ≠ b_3 := (ne_arr f_10 (wdOf hw 10 rfl) V_8.choose_spec.1).symm
  refine Goes.go (U' := (T_8.setTop (mkF m 22 #[sI_ xc] [(.int (0 : Int32)), (.ref r_8), (.ref b_3), (.ref b_3)]))) (fun t kt => ?_) ?_
  · skip
    refine XS.iconst X_8.here hx rfl (hb hby d_rm_sv_21) ?_
    exact kt
  obtain ⟨v_14, T_14, L_14, X_14, q_14, st_14⟩ := callInit X_8 hx hZ (y := (⟨"java/lang/String", "<init>", "([BB)V"⟩ : MethodName)) (W := 1) rfl hown (wdOf hw 15 rfl) (wdOf hw 16 rfl) (wdOf hw 2 rfl) (wdOf hw 18 rfl) (by decide) (rm_sinit l Z a0 hw [] b_3 r_8 T_8.heap n0 y_13 o_3 f_10 f_11 f_12) (by decide) (by decide) (by decide) (by decide) (rfl : T_8.heap = T_8.heap) (b := b_3) (g := (mkF m 22 #[sI_ xc] [(.int (0 : Int32)), (.ref r_8), (.ref b_3), (.ref b_3)])) rfl (by rw [hml]; rfl) (argsL := [(.ref r_8), (.int (0 : Int32))]) (rest := [(.ref b_3)]) (lenOf pd_4 rfl) rfl rfl (Nat.le_refl _) (hb hby d_rm_sv_22)
  obtain ⟨rfl, n_14, K_14, GE__14, Gvalue__14, Gcoder__14⟩ := q_14
  have N_14 := Fr.app N_8 n_14
  have f_15 : Sta Z T_14.heap "java/lang/String" "COMPACT_STRINGS" "Z" (.int cs) := f_9.keepN K_14 (allS (f_10.cell) all0)
  have f_16 : Exa Z T_14.heap b_3 "java/lang/String" := f_10.keep K_14
  have f_19 : Arv Z T_14.heap r_8 kb_8 .byte (1 : Int32) [(.int (xc.toInt8.toInt32).toInt8.toInt32)] (.int (0 : Int32)) := V_8.keep K_14 (ninS nrs nin0)
  have K_20 : Keep h0 T_14.heap [] := K_13.trans K_14 (allS (P := fun x => x ∈ [] ∨ h0.size ≤ x) (Or.inr z_3) all0)
  have y_20 : n0 ≤ T_14.heap.size := Nat.le_trans Z0 K_20.1
  refine Goes.go (U' := (T_14.setTop (mkF m 25 #[sI_ xc] [(.ref b_3)]))) st_14 ?_
  refine Goes.retA X_14 hx hlk hret rfl rfl (hb hby d_rm_sv_25) (by decide) (by decide) ?_
  try rw [(rfl : T_14.heap = T_14.heap)]
  exact ⟨_, _, _, rfl, N_14, Ext.of_keep K_20, f_16, Gvalue__14, Gcoder__14, f_19⟩
theorem d_rm_rec_0 : decode jdk_30_method_1_code 0 = .ok (.aload_n 0, 1) := by decide +kernel
theorem d_rm_rec_1 : decode jdk_30_method_1_code 1 = .ok (.invokespecial 1, 3) := by decide +kernel
theorem d_rm_rec_4 : decode jdk_30_method_1_code 4 = .ok (.return_, 1) := by decide +kernel
set_option maxHeartbeats 4000000 in
theorem ef_rm_rec (m : MethodId) (x0 : Addr)  : entryFrame m #[(.ref x0)] 1 = mkF m 0 #[.val (.ref x0)] [] := by first | (simp [entryFrame, mkF, argsToLocals, catR, catN, catI, catJ]; done) | rfl
set_option maxRecDepth 65536 in
set_option maxHeartbeats 40000000 in
theorem rm_rec (l : Launch) (Z : State) (a0 : Array Value) (hw : ∀ d ∈ tables_1, d.before a0 Z = true) (ws : List Jvm.Cond) (ax : Addr) (h0 : Heap) (n0 : Nat) (Z0 : n0 ≤ h0.size)  :
    Pays l Z (⟨"java/lang/Record", "<init>", "()V"⟩ : MethodName) jdk_30_method_1_code 1 none ws ({ frames := 1, cells := 0, slots := 0, locals := 12 } : Room) #[(.ref ax)] h0 (fun v h L => v = none ∧ Fr n0 L ∧ h = h0) := by
  refine Pays.of (plainFor_of_name (by first | (simp [plainName, overriddenIn]; done) | decide +kernel)) ?_
  intro p e s m below meth c s₁ hx hby hml hown hnm hret hlk hZ e0 X0
  have N0 := Fr.nil n0
  have K0 : Keep h0 h0 [] := Keep.refl _ _
  refine Goes.go (U' := (s₁.setTop (mkF m 0 #[sR_ ax] []))) (fun t kt => castTop (ef_rm_rec m ax) kt) ?_
  refine Goes.go (U' := (s₁.setTop (mkF m 1 #[sR_ ax] [(.ref ax)]))) (fun t kt => ?_) ?_
  · skip
    refine XS.aloadN X0.here hx rfl (hb hby d_rm_rec_0) rfl rfl ?_
    exact kt
  obtain ⟨T_1, X_1, e_1, st_1⟩ := initO X0 hx hZ hown (wdOf hw 59 rfl) (wdOf hw 20 rfl) (wdOf hw 21 rfl) e0 (g := (mkF m 1 #[sR_ ax] [(.ref ax)])) rfl (by rw [hml]; rfl) rfl (hb hby d_rm_rec_1) (by decide) (W := 0) (Nat.le_refl _) (by decide)
  refine Goes.go (U' := (T_1.setTop (mkF m 4 #[sR_ ax] []))) st_1 ?_
  refine Goes.retV X_1 hx hlk hret (hb hby d_rm_rec_4) (by decide) (by decide) ?_
  try rw [e_1]
  exact ⟨rfl, N0, rfl⟩
theorem d_rm_ri_0 : decode prog_18_method_1_code 0 = .ok (.aload_n 0, 1) := by decide +kernel
theorem d_rm_ri_1 : decode prog_18_method_1_code 1 = .ok (.invokespecial 1, 3) := by decide +kernel
theorem d_rm_ri_4 : decode prog_18_method_1_code 4 = .ok (.aload_n 0, 1) := by decide +kernel
theorem d_rm_ri_5 : decode prog_18_method_1_code 5 = .ok (.aload_n 1, 1) := by decide +kernel
theorem d_rm_ri_6 : decode prog_18_method_1_code 6 = .ok (.putfield 7, 3) := by decide +kernel
theorem d_rm_ri_9 : decode prog_18_method_1_code 9 = .ok (.aload_n 0, 1) := by decide +kernel
theorem d_rm_ri_10 : decode prog_18_method_1_code 10 = .ok (.aload_n 2, 1) := by decide +kernel
theorem d_rm_ri_11 : decode prog_18_method_1_code 11 = .ok (.putfield 13, 3) := by decide +kernel
theorem d_rm_ri_14 : decode prog_18_method_1_code 14 = .ok (.aload_n 0, 1) := by decide +kernel
theorem d_rm_ri_15 : decode prog_18_method_1_code 15 = .ok (.aload_n 3, 1) := by decide +kernel
theorem d_rm_ri_16 : decode prog_18_method_1_code 16 = .ok (.putfield 17, 3) := by decide +kernel
theorem d_rm_ri_19 : decode prog_18_method_1_code 19 = .ok (.aload_n 0, 1) := by decide +kernel
theorem d_rm_ri_20 : decode prog_18_method_1_code 20 = .ok (.aload 4, 2) := by decide +kernel
theorem d_rm_ri_22 : decode prog_18_method_1_code 22 = .ok (.putfield 20, 3) := by decide +kernel
theorem d_rm_ri_25 : decode prog_18_method_1_code 25 = .ok (.aload_n 0, 1) := by decide +kernel
theorem d_rm_ri_26 : decode prog_18_method_1_code 26 = .ok (.aload 5, 2) := by decide +kernel
theorem d_rm_ri_28 : decode prog_18_method_1_code 28 = .ok (.putfield 23, 3) := by decide +kernel
theorem d_rm_ri_31 : decode prog_18_method_1_code 31 = .ok (.return_, 1) := by decide +kernel
set_option maxHeartbeats 4000000 in
theorem ef_rm_ri (m : MethodId) (x0 : Addr) (x1 : Value) (x2 : Value) (x3 : Value) (x4 : Value) (x5 : Value) (rx1 : x1.isRef = true) (rx2 : x2.isRef = true) (rx3 : x3.isRef = true) (rx4 : x4.isRef = true) (rx5 : x5.isRef = true) : entryFrame m #[(.ref x0), x1, x2, x3, x4, x5] 6 = mkF m 0 #[.val (.ref x0), .val x1, .val x2, .val x3, .val x4, .val x5] [] := by simp [entryFrame, mkF, argsToLocals, catR, catN, catI, catJ, XT.cat1 rx1, XT.cat1 rx2, XT.cat1 rx3, XT.cat1 rx4, XT.cat1 rx5]
set_option maxRecDepth 65536 in
set_option maxHeartbeats 40000000 in
theorem rm_ri (l : Launch) (Z : State) (a0 : Array Value) (hw : ∀ d ∈ tables_1, d.before a0 Z = true) (ws : List Jvm.Cond) (ax : Addr) (x1 x2 x3 x4 x5 : Value) (q1 : x1.isRef = true) (q2 : x2.isRef = true) (q3 : x3.isRef = true) (q4 : x4.isRef = true) (q5 : x5.isRef = true) (h0 : Heap) (n0 : Nat) (Z0 : n0 ≤ h0.size) (o0 : n0 ≤ ax) (E0 : Exa Z h0 ax "com/example/kilnroute/kilnroute/spark/Resources") (F0_driverMemory : Fld Z h0 ax "com/example/kilnroute/kilnroute/spark/Resources" "driverMemory" "Ljava/lang/String;" .null) (F0_driverCores : Fld Z h0 ax "com/example/kilnroute/kilnroute/spark/Resources" "driverCores" "Ljava/lang/Integer;" .null) (F0_executorMemory : Fld Z h0 ax "com/example/kilnroute/kilnroute/spark/Resources" "executorMemory" "Ljava/lang/String;" .null) (F0_executorCores : Fld Z h0 ax "com/example/kilnroute/kilnroute/spark/Resources" "executorCores" "Ljava/lang/Integer;" .null) (F0_numExecutors : Fld Z h0 ax "com/example/kilnroute/kilnroute/spark/Resources" "numExecutors" "Ljava/lang/Integer;" .null) :
    Pays l Z (⟨"com/example/kilnroute/kilnroute/spark/Resources", "<init>", "(Ljava/lang/String;Ljava/lang/Integer;Ljava/lang/String;Ljava/lang/Integer;Ljava/lang/Integer;)V"⟩ : MethodName) prog_18_method_1_code 6 none ws ({ frames := 2, cells := 0, slots := 0, locals := 24 } : Room) #[(.ref ax), x1, x2, x3, x4, x5] h0 (fun v h L => v = none ∧ Fr n0 L ∧ Keep h0 h [ax] ∧ Exa Z h ax "com/example/kilnroute/kilnroute/spark/Resources" ∧ Fld Z h ax "com/example/kilnroute/kilnroute/spark/Resources" "driverMemory" "Ljava/lang/String;" x1 ∧ Fld Z h ax "com/example/kilnroute/kilnroute/spark/Resources" "driverCores" "Ljava/lang/Integer;" x2 ∧ Fld Z h ax "com/example/kilnroute/kilnroute/spark/Resources" "executorMemory" "Ljava/lang/String;" x3 ∧ Fld Z h ax "com/example/kilnroute/kilnroute/spark/Resources" "executorCores" "Ljava/lang/Integer;" x4 ∧ Fld Z h ax "com/example/kilnroute/kilnroute/spark/Resources" "numExecutors" "Ljava/lang/Integer;" x5) := by
  refine Pays.of (plainFor_of_name (by first | (simp [plainName, overriddenIn]; done) | decide +kernel)) ?_
  intro p e s m below meth c s₁ hx hby hml hown hnm hret hlk hZ e0 X0
  have N0 := Fr.nil n0
  have K0 : Keep h0 h0 [ax] := Keep.refl _ _
  refine Goes.go (U' := (s₁.setTop (mkF m 0 #[sR_ ax, .val x1, .val x2, .val x3, .val x4, .val x5] []))) (fun t kt => castTop (ef_rm_ri m ax x1 x2 x3 x4 x5 q1 q2 q3 q4 q5) kt) ?_
  refine Goes.go (U' := (s₁.setTop (mkF m 1 #[sR_ ax, .val x1, .val x2, .val x3, .val x4, .val x5] [(.ref ax)]))) (fun t kt => ?_) ?_
  · skip
    refine XS.aloadN X0.here hx rfl (hb hby d_rm_ri_0) rfl rfl ?_
    exact kt
  obtain ⟨v_1, T_1, L_1, X_1, q_1, st_1⟩ := callInit X0 hx hZ (y := (⟨"java/lang/Record", "<init>", "()V"⟩ : MethodName)) (W := 0) rfl hown (wdOf hw 54 rfl) (wdOf hw 55 rfl) (wdOf hw 57 rfl) (wdOf hw 58 rfl) (by decide) (rm_rec l Z a0 hw [] ax h0 n0 Z0) (by decide) (by decide) (by decide) (by decide) e0 (b := ax) (g := (mkF m 1 #[sR_ ax, .val x1, .val x2, .val x3, .val x4, .val x5] [(.ref ax)])) rfl (by rw [hml]; rfl) (argsL := []) (rest := []) (lenOf pd_0 rfl) rfl rfl (Nat.le_refl _) (hb hby d_rm_ri_1)
  obtain ⟨rfl, n_1, K_1⟩ := q_1
  have N_1 := Fr.app N0 n_1
  refine Goes.go (U' := (T_1.setTop (mkF m 4 #[sR_ ax, .val x1, .val x2, .val x3, .val x4, .val x5] []))) st_1 ?_
  refine Goes.go (U' := (T_1.setTop (mkF m 6 #[sR_ ax, .val x1, .val x2, .val x3, .val x4, .val x5] [x1, (.ref ax)]))) (fun t kt => ?_) ?_
  · skip
    refine XS.aloadN X_1.here hx rfl (hb hby d_rm_ri_4) rfl rfl ?_
    refine XS.aloadN X_1.here hx rfl (hb hby d_rm_ri_5) rfl q1 ?_
    exact kt
  obtain ⟨T_2, h_2, X_2, e_2, W_2, st_2⟩ := putF X_1 hx hZ hown (host := "") (Or.inl (wdOf hw 60 rfl)) Via.refl K_1 F0_driverMemory E0 (Or.inr ⟨wdOf hw 61 rfl, rfl, hnm⟩) (wdOf hw 49 rfl) (ty := (.object "java/lang/String")) (by decide) (ownNarrow q1 rfl) (ownFits q1 rfl) (g := (mkF m 6 #[sR_ ax, .val x1, .val x2, .val x3, .val x4, .val x5] [x1, (.ref ax)])) rfl rfl (hb hby d_rm_ri_6)
  have N_2 := Fr.snoc X_2 N_1 o0
  have f_3 : Exa Z h_2 ax "com/example/kilnroute/kilnroute/spark/Resources" := E0.wr W_2
  have f_4 : Fld Z h_2 ax "com/example/kilnroute/kilnroute/spark/Resources" "driverMemory" "Ljava/lang/String;" x1 := F0_driverMemory.same W_2
  have f_5 : Fld Z h_2 ax "com/example/kilnroute/kilnroute/spark/Resources" "driverCores" "Ljava/lang/Integer;" .null := F0_driverCores.other W_2 (Or.inr (slot_ne (Or.inr (wdOf hw 63 rfl)) (Or.inr (wdOf hw 61 rfl)) (by decide) (t := (.object "java/lang/Integer")) (t' := (.object "java/lang/String")) (by decide) (by decide)))
  have f_6 : Fld Z h_2 ax "com/example/kilnroute/kilnroute/spark/Resources" "executorMemory" "Ljava/lang/String;" .null := F0_executorMemory.other W_2 (Or.inr (slot_ne (Or.inr (wdOf hw 65 rfl)) (Or.inr (wdOf hw 61 rfl)) (by decide) (t := (.object "java/lang/String")) (t' := (.object "java/lang/String")) (by decide) (by decide)))
  have f_7 : Fld Z h_2 ax "com/example/kilnroute/kilnroute/spark/Resources" "executorCores" "Ljava/lang/Integer;" .null := F0_executorCores.other W_2 (Or.inr (slot_ne (Or.inr (wdOf hw 67 rfl)) (Or.inr (wdOf hw 61 rfl)) (by decide) (t := (.object "java/lang/Integer")) (t' := (.object "java/lang/String")) (by decide) (by decide)))
  have f_8 : Fld Z h_2 ax "com/example/kilnroute/kilnroute/spark/Resources" "numExecutors" "Ljava/lang/Integer;" .null := F0_numExecutors.other W_2 (Or.inr (slot_ne (Or.inr (wdOf hw 69 rfl)) (Or.inr (wdOf hw 61 rfl)) (by decide) (t := (.object "java/lang/Integer")) (t' := (.object "java/lang/String")) (by decide) (by decide)))
  have K_9 : Keep h0 h_2 [ax] := K0.wr W_2 (Or.inl (List.mem_of_getElem? (i := 0) rfl))
  have y_9 : n0 ≤ h_2.size := Nat.le_trans Z0 K_9.1
  refine Goes.go (U' := (T_2.setTop (mkF m 9 #[sR_ ax, .val x1, .val x2, .val x3, .val x4, .val x5] []))) st_2 ?_
  refine Goes.go (U' := (T_2.setTop (mkF m 11 #[sR_ ax, .val x1, .val x2, .val x3, .val x4, .val x5] [x2, (.ref ax)]))) (fun t kt => ?_) ?_
  · skip
    refine XS.aloadN X_2.here hx rfl (hb hby d_rm_ri_9) rfl rfl ?_
    refine XS.aloadN X_2.here hx rfl (hb hby d_rm_ri_10) rfl q2 ?_
    exact kt
  obtain ⟨T_10, h_10, X_10, e_10, W_10, st_10⟩ := putF X_2 hx hZ hown (host := "") (Or.inl (wdOf hw 62 rfl)) Via.refl e_2 f_5 f_3 (Or.inr ⟨wdOf hw 63 rfl, rfl, hnm⟩) (wdOf hw 49 rfl) (ty := (.object "java/lang/Integer")) (by decide) (ownNarrow q2 rfl) (ownFits q2 rfl) (g := (mkF m 11 #[sR_ ax, .val x1, .val x2, .val x3, .val x4, .val x5] [x2, (.ref ax)])) rfl rfl (hb hby d_rm_ri_11)
  have N_10 := Fr.snoc X_10 N_2 o0
  have f_11 : Exa Z h_10 ax "com/example/kilnroute/kilnroute/spark/Resources" := f_3.wr W_10
  have f_12 : Fld Z h_10 ax "com/example/kilnroute/kilnroute/spark/Resources" "driverMemory" "Ljava/lang/String;" x1 := f_4.other W_10 (Or.inr (slot_ne (Or.inr (wdOf hw 61 rfl)) (Or.inr (wdOf hw 63 rfl)) (by decide) (t := (.object "java/lang/String")) (t' := (.object "java/lang/Integer")) (by decide) (by decide)))
  have f_13 : Fld Z h_10 ax "com/example/kilnroute/kilnroute/spark/Resources" "driverCores" "Ljava/lang/Integer;" x2 := f_5.same W_10
  have f_14 : Fld Z h_10 ax "com/example/kilnroute/kilnroute/spark/Resources" "executorMemory" "Ljava/lang/String;" .null := f_6.other W_10 (Or.inr (slot_ne (Or.inr (wdOf hw 65 rfl)) (Or.inr (wdOf hw 63 rfl)) (by decide) (t := (.object "java/lang/String")) (t' := (.object "java/lang/Integer")) (by decide) (by decide)))
  have f_15 : Fld Z h_10 ax "com/example/kilnroute/kilnroute/spark/Resources" "executorCores" "Ljava/lang/Integer;" .null := f_7.other W_10 (Or.inr (slot_ne (Or.inr (wdOf hw 67 rfl)) (Or.inr (wdOf hw 63 rfl)) (by decide) (t := (.object "java/lang/Integer")) (t' := (.object "java/lang/Integer")) (by decide) (by decide)))
  have f_16 : Fld Z h_10 ax "com/example/kilnroute/kilnroute/spark/Resources" "numExecutors" "Ljava/lang/Integer;" .null := f_8.other W_10 (Or.inr (slot_ne (Or.inr (wdOf hw 69 rfl)) (Or.inr (wdOf hw 63 rfl)) (by decide) (t := (.object "java/lang/Integer")) (t' := (.object "java/lang/Integer")) (by decide) (by decide)))
  have K_17 : Keep h0 h_10 [ax] := K_9.wr W_10 (Or.inl (List.mem_of_getElem? (i := 0) rfl))
  have y_17 : n0 ≤ h_10.size := Nat.le_trans Z0 K_17.1
  refine Goes.go (U' := (T_10.setTop (mkF m 14 #[sR_ ax, .val x1, .val x2, .val x3, .val x4, .val x5] []))) st_10 ?_
  refine Goes.go (U' := (T_10.setTop (mkF m 16 #[sR_ ax, .val x1, .val x2, .val x3, .val x4, .val x5] [x3, (.ref ax)]))) (fun t kt => ?_) ?_
  · skip
    refine XS.aloadN X_10.here hx rfl (hb hby d_rm_ri_14) rfl rfl ?_
    refine XS.aloadN X_10.here hx rfl (hb hby d_rm_ri_15) rfl q3 ?_
    exact kt
  obtain ⟨T_18, h_18, X_18, e_18, W_18, st_18⟩ := putF X_10 hx hZ hown (host := "") (Or.inl (wdOf hw 64 rfl)) Via.refl e_10 f_14 f_11 (Or.inr ⟨wdOf hw 65 rfl, rfl, hnm⟩) (wdOf hw 49 rfl) (ty := (.object "java/lang/String")) (by decide) (ownNarrow q3 rfl) (ownFits q3 rfl) (g := (mkF m 16 #[sR_ ax, .val x1, .val x2, .val x3, .val x4, .val x5] [x3, (.ref ax)])) rfl rfl (hb hby d_rm_ri_16)
  have N_18 := Fr.snoc X_18 N_10 o0
  have f_19 : Exa Z h_18 ax "com/example/kilnroute/kilnroute/spark/Resources" := f_11.wr W_18
  have f_20 : Fld Z h_18 ax "com/example/kilnroute/kilnroute/spark/Resources" "driverMemory" "Ljava/lang/String;" x1 := f_12.other W_18 (Or.inr (slot_ne (Or.inr (wdOf hw 61 rfl)) (Or.inr (wdOf hw 65 rfl)) (by decide) (t := (.object "java/lang/String")) (t' := (.object "java/lang/String")) (by decide) (by decide)))
  have f_21 : Fld Z h_18 ax "com/example/kilnroute/kilnroute/spark/Resources" "driverCores" "Ljava/lang/Integer;" x2 := f_13.other W_18 (Or.inr (slot_ne (Or.inr (wdOf hw 63 rfl)) (Or.inr (wdOf hw 65 rfl)) (by decide) (t := (.object "java/lang/Integer")) (t' := (.object "java/lang/String")) (by decide) (by decide)))
  have f_22 : Fld Z h_18 ax "com/example/kilnroute/kilnroute/spark/Resources" "executorMemory" "Ljava/lang/String;" x3 := f_14.same W_18
  have f_23 : Fld Z h_18 ax "com/example/kilnroute/kilnroute/spark/Resources" "executorCores" "Ljava/lang/Integer;" .null := f_15.other W_18 (Or.inr (slot_ne (Or.inr (wdOf hw 67 rfl)) (Or.inr (wdOf hw 65 rfl)) (by decide) (t := (.object "java/lang/Integer")) (t' := (.object "java/lang/String")) (by decide) (by decide)))
  have f_24 : Fld Z h_18 ax "com/example/kilnroute/kilnroute/spark/Resources" "numExecutors" "Ljava/lang/Integer;" .null := f_16.other W_18 (Or.inr (slot_ne (Or.inr (wdOf hw 69 rfl)) (Or.inr (wdOf hw 65 rfl)) (by decide) (t := (.object "java/lang/Integer")) (t' := (.object "java/lang/String")) (by decide) (by decide)))
  have K_25 : Keep h0 h_18 [ax] := K_17.wr W_18 (Or.inl (List.mem_of_getElem? (i := 0) rfl))
  have y_25 : n0 ≤ h_18.size := Nat.le_trans Z0 K_25.1
  refine Goes.go (U' := (T_18.setTop (mkF m 19 #[sR_ ax, .val x1, .val x2, .val x3, .val x4, .val x5] []))) st_18 ?_
  refine Goes.go (U' := (T_18.setTop (mkF m 22 #[sR_ ax, .val x1, .val x2, .val x3, .val x4, .val x5] [x4, (.ref ax)]))) (fun t kt => ?_) ?_
  · skip
    refine XS.aloadN X_18.here hx rfl (hb hby d_rm_ri_19) rfl rfl ?_
    refine XS.aload X_18.here hx rfl (hb hby d_rm_ri_20) rfl q4 ?_
    exact kt
  obtain ⟨T_26, h_26, X_26, e_26, W_26, st_26⟩ := putF X_18 hx hZ hown (host := "") (Or.inl (wdOf hw 66 rfl)) Via.refl e_18 f_23 f_19 (Or.inr ⟨wdOf hw 67 rfl, rfl, hnm⟩) (wdOf hw 49 rfl) (ty := (.object "java/lang/Integer")) (by decide) (ownNarrow q4 rfl) (ownFits q4 rfl) (g := (mkF m 22 #[sR_ ax, .val x1, .val x2, .val x3, .val x4, .val x5] [x4, (.ref ax)])) rfl rfl (hb hby d_rm_ri_22)
  have N_26 := Fr.snoc X_26 N_18 o0
  have f_27 : Exa Z h_26 ax "com/example/kilnroute/kilnroute/spark/Resources" := f_19.wr W_26
  have f_28 : Fld Z h_26 ax "com/example/kilnroute/kilnroute/spark/Resources" "driverMemory" "Ljava/lang/String;" x1 := f_20.other W_26 (Or.inr (slot_ne (Or.inr (wdOf hw 61 rfl)) (Or.inr (wdOf hw 67 rfl)) (by decide) (t := (.object "java/lang/String")) (t' := (.object "java/lang/Integer")) (by decide) (by decide)))
  have f_29 : Fld Z h_26 ax "com/example/kilnroute/kilnroute/spark/Resources" "driverCores" "Ljava/lang/Integer;" x2 := f_21.other W_26 (Or.inr (slot_ne (Or.inr (wdOf hw 63 rfl)) (Or.inr (wdOf hw 67 rfl)) (by decide) (t := (.object "java/lang/Integer")) (t' := (.object "java/lang/Integer")) (by decide) (by decide)))
  have f_30 : Fld Z h_26 ax "com/example/kilnroute/kilnroute/spark/Resources" "executorMemory" "Ljava/lang/String;" x3 := f_22.other W_26 (Or.inr (slot_ne (Or.inr (wdOf hw 65 rfl)) (Or.inr (wdOf hw 67 rfl)) (by decide) (t := (.object "java/lang/String")) (t' := (.object "java/lang/Integer")) (by decide) (by decide)))
  have f_31 : Fld Z h_26 ax "com/example/kilnroute/kilnroute/spark/Resources" "executorCores" "Ljava/lang/Integer;" x4 := f_23.same W_26
  have f_32 : Fld Z h_26 ax "com/example/kilnroute/kilnroute/spark/Resources" "numExecutors" "Ljava/lang/Integer;" .null := f_24.other W_26 (Or.inr (slot_ne (Or.inr (wdOf hw 69 rfl)) (Or.inr (wdOf hw 67 rfl)) (by decide) (t := (.object "java/lang/Integer")) (t' := (.object "java/lang/Integer")) (by decide) (by decide)))
  have K_33 : Keep h0 h_26 [ax] := K_25.wr W_26 (Or.inl (List.mem_of_getElem? (i := 0) rfl))
  have y_33 : n0 ≤ h_26.size := Nat.le_trans Z0 K_33.1
  refine Goes.go (U' := (T_26.setTop (mkF m 25 #[sR_ ax, .val x1, .val x2, .val x3, .val x4, .val x5] []))) st_26 ?_
  refine Goes.go (U' := (T_26.setTop (mkF m 28 #[sR_ ax, .val x1, .val x2, .val x3, .val x4, .val x5] [x5, (.ref ax)]))) (fun t kt => ?_) ?_
  · skip
    refine XS.aloadN X_26.here hx rfl (hb hby d_rm_ri_25) rfl rfl ?_
    refine XS.aload X_26.here hx rfl (hb hby d_rm_ri_26) rfl q5 ?_
    exact kt
  obtain ⟨T_34, h_34, X_34, e_34, W_34, st_34⟩ := putF X_26 hx hZ hown (host := "") (Or.inl (wdOf hw 68 rfl)) Via.refl e_26 f_32 f_27 (Or.inr ⟨wdOf hw 69 rfl, rfl, hnm⟩) (wdOf hw 49 rfl) (ty := (.object "java/lang/Integer")) (by decide) (ownNarrow q5 rfl) (ownFits q5 rfl) (g := (mkF m 28 #[sR_ ax, .val x1, .val x2, .val x3, .val x4, .val x5] [x5, (.ref ax)])) rfl rfl (hb hby d_rm_ri_28)
  have N_34 := Fr.snoc X_34 N_26 o0
  have f_35 : Exa Z h_34 ax "com/example/kilnroute/kilnroute/spark/Resources" := f_27.wr W_34
  have f_36 : Fld Z h_34 ax "com/example/kilnroute/kilnroute/spark/Resources" "driverMemory" "Ljava/lang/String;" x1 := f_28.other W_34 (Or.inr (slot_ne (Or.inr (wdOf hw 61 rfl)) (Or.inr (wdOf hw 69 rfl)) (by decide) (t := (.object "java/lang/String")) (t' := (.object "java/lang/Integer")) (by decide) (by decide)))
  have f_37 : Fld Z h_34 ax "com/example/kilnroute/kilnroute/spark/Resources" "driverCores" "Ljava/lang/Integer;" x2 := f_29.other W_34 (Or.inr (slot_ne (Or.inr (wdOf hw 63 rfl)) (Or.inr (wdOf hw 69 rfl)) (by decide) (t := (.object "java/lang/Integer")) (t' := (.object "java/lang/Integer")) (by decide) (by decide)))
  have f_38 : Fld Z h_34 ax "com/example/kilnroute/kilnroute/spark/Resources" "executorMemory" "Ljava/lang/String;" x3 := f_30.other W_34 (Or.inr (slot_ne (Or.inr (wdOf hw 65 rfl)) (Or.inr (wdOf hw 69 rfl)) (by decide) (t := (.object "java/lang/String")) (t' := (.object "java/lang/Integer")) (by decide) (by decide)))
  have f_39 : Fld Z h_34 ax "com/example/kilnroute/kilnroute/spark/Resources" "executorCores" "Ljava/lang/Integer;" x4 := f_31.other W_34 (Or.inr (slot_ne (Or.inr (wdOf hw 67 rfl)) (Or.inr (wdOf hw 69 rfl)) (by decide) (t := (.object "java/lang/Integer")) (t' := (.object "java/lang/Integer")) (by decide) (by decide)))
  have f_40 : Fld Z h_34 ax "com/example/kilnroute/kilnroute/spark/Resources" "numExecutors" "Ljava/lang/Integer;" x5 := f_32.same W_34
  have K_41 : Keep h0 h_34 [ax] := K_33.wr W_34 (Or.inl (List.mem_of_getElem? (i := 0) rfl))
  have y_41 : n0 ≤ h_34.size := Nat.le_trans Z0 K_41.1
  refine Goes.go (U' := (T_34.setTop (mkF m 31 #[sR_ ax, .val x1, .val x2, .val x3, .val x4, .val x5] []))) st_34 ?_
  refine Goes.retV X_34 hx hlk hret (hb hby d_rm_ri_31) (by decide) (by decide) ?_
  try rw [e_34]
  exact ⟨rfl, N_34, K_41, f_35, f_36, f_37, f_38, f_39, f_40⟩
theorem d_rm_g_driverMemory_0 : decode prog_18_method_17_code 0 = .ok (.aload_n 0, 1) := by decide +kernel
theorem d_rm_g_driverMemory_1 : decode prog_18_method_17_code 1 = .ok (.getfield 7, 3) := by decide +kernel
theorem d_rm_g_driverMemory_4 : decode prog_18_method_17_code 4 = .ok (.areturn, 1) := by decide +kernel
set_option maxHeartbeats 4000000 in
theorem ef_rm_g_driverMemory (m : MethodId) (x0 : Addr)  : entryFrame m #[(.ref x0)] 1 = mkF m 0 #[.val (.ref x0)] [] := by first | (simp [entryFrame, mkF, argsToLocals, catR, catN, catI, catJ]; done) | rfl
set_option maxRecDepth 65536 in
set_option maxHeartbeats 40000000 in
theorem rm_g_driverMemory (l : Launch) (Z : State) (a0 : Array Value) (hw : ∀ d ∈ tables_1, d.before a0 Z = true) (ws : List Jvm.Cond) (ax : Addr) (xv : Value) (qv : xv.isRef = true) (h0 : Heap) (n0 : Nat) (Z0 : n0 ≤ h0.size) (F0 : Fld Z h0 ax "com/example/kilnroute/kilnroute/spark/Resources" "driverMemory" "Ljava/lang/String;" xv) :
    Pays l Z (⟨"com/example/kilnroute/kilnroute/spark/Resources", "driverMemory", "()Ljava/lang/String;"⟩ : MethodName) prog_18_method_17_code 1 (some (.object "java/lang/String")) ws ({ frames := 0, cells := 0, slots := 0, locals := 0 } : Room) #[(.ref ax)] h0 (fun v h L => v = some xv ∧ Fr n0 L ∧ h = h0) := by
  refine Pays.of (plainFor_of_name (by first | (simp [plainName, overriddenIn]; done) | decide +kernel)) ?_
  intro p e s m below meth c s₁ hx hby hml hown hnm hret hlk hZ e0 X0
  have N0 := Fr.nil n0
  have K0 : Keep h0 h0 [] := Keep.refl _ _
  refine Goes.go (U' := (s₁.setTop (mkF m 0 #[sR_ ax] []))) (fun t kt => castTop (ef_rm_g_driverMemory m ax) kt) ?_
  refine Goes.go (U' := (s₁.setTop (mkF m 1 #[sR_ ax] [(.ref ax)]))) (fun t kt => ?_) ?_
  · skip
    refine XS.aloadN X0.here hx rfl (hb hby d_rm_g_driverMemory_0) rfl rfl ?_
    exact kt
  obtain ⟨T_1, X_1, e_1, st_1⟩ := getF X0 hx hZ hown (host := "") (Or.inl (wdOf hw 60 rfl)) Via.refl e0 F0 (g := (mkF m 1 #[sR_ ax] [(.ref ax)])) rfl rfl (hb hby d_rm_g_driverMemory_1)
  refine Goes.go (U' := (T_1.setTop (mkF m 4 #[sR_ ax] [xv]))) st_1 ?_
  refine Goes.retA X_1 hx hlk hret rfl qv (hb hby d_rm_g_driverMemory_4) (by decide) (by decide) ?_
  try rw [e_1]
  exact ⟨rfl, N0, rfl⟩
theorem d_rm_g_driverCores_0 : decode prog_18_method_18_code 0 = .ok (.aload_n 0, 1) := by decide +kernel
theorem d_rm_g_driverCores_1 : decode prog_18_method_18_code 1 = .ok (.getfield 13, 3) := by decide +kernel
theorem d_rm_g_driverCores_4 : decode prog_18_method_18_code 4 = .ok (.areturn, 1) := by decide +kernel
set_option maxHeartbeats 4000000 in
theorem ef_rm_g_driverCores (m : MethodId) (x0 : Addr)  : entryFrame m #[(.ref x0)] 1 = mkF m 0 #[.val (.ref x0)] [] := by first | (simp [entryFrame, mkF, argsToLocals, catR, catN, catI, catJ]; done) | rfl
set_option maxRecDepth 65536 in
set_option maxHeartbeats 40000000 in
theorem rm_g_driverCores (l : Launch) (Z : State) (a0 : Array Value) (hw : ∀ d ∈ tables_1, d.before a0 Z = true) (ws : List Jvm.Cond) (ax : Addr) (xv : Value) (qv : xv.isRef = true) (h0 : Heap) (n0 : Nat) (Z0 : n0 ≤ h0.size) (F0 : Fld Z h0 ax "com/example/kilnroute/kilnroute/spark/Resources" "driverCores" "Ljava/lang/Integer;" xv) :
    Pays l Z (⟨"com/example/kilnroute/kilnroute/spark/Resources", "driverCores", "()Ljava/lang/Integer;"⟩ : MethodName) prog_18_method_18_code 1 (some (.object "java/lang/Integer")) ws ({ frames := 0, cells := 0, slots := 0, locals := 0 } : Room) #[(.ref ax)] h0 (fun v h L => v = some xv ∧ Fr n0 L ∧ h = h0) := by
  refine Pays.of (plainFor_of_name (by first | (simp [plainName, overriddenIn]; done) | decide +kernel)) ?_
  intro p e s m below meth c s₁ hx hby hml hown hnm hret hlk hZ e0 X0
  have N0 := Fr.nil n0
  have K0 : Keep h0 h0 [] := Keep.refl _ _
  refine Goes.go (U' := (s₁.setTop (mkF m 0 #[sR_ ax] []))) (fun t kt => castTop (ef_rm_g_driverCores m ax) kt) ?_
  refine Goes.go (U' := (s₁.setTop (mkF m 1 #[sR_ ax] [(.ref ax)]))) (fun t kt => ?_) ?_
  · skip
    refine XS.aloadN X0.here hx rfl (hb hby d_rm_g_driverCores_0) rfl rfl ?_
    exact kt
  obtain ⟨T_1, X_1, e_1, st_1⟩ := getF X0 hx hZ hown (host := "") (Or.inl (wdOf hw 62 rfl)) Via.refl e0 F0 (g := (mkF m 1 #[sR_ ax] [(.ref ax)])) rfl rfl (hb hby d_rm_g_driverCores_1)
  refine Goes.go (U' := (T_1.setTop (mkF m 4 #[sR_ ax] [xv]))) st_1 ?_
  refine Goes.retA X_1 hx hlk hret rfl qv (hb hby d_rm_g_driverCores_4) (by decide) (by decide) ?_
  try rw [e_1]
  exact ⟨rfl, N0, rfl⟩
theorem d_rm_g_executorMemory_0 : decode prog_18_method_19_code 0 = .ok (.aload_n 0, 1) := by decide +kernel
theorem d_rm_g_executorMemory_1 : decode prog_18_method_19_code 1 = .ok (.getfield 17, 3) := by decide +kernel
theorem d_rm_g_executorMemory_4 : decode prog_18_method_19_code 4 = .ok (.areturn, 1) := by decide +kernel
set_option maxHeartbeats 4000000 in
theorem ef_rm_g_executorMemory (m : MethodId) (x0 : Addr)  : entryFrame m #[(.ref x0)] 1 = mkF m 0 #[.val (.ref x0)] [] := by first | (simp [entryFrame, mkF, argsToLocals, catR, catN, catI, catJ]; done) | rfl
set_option maxRecDepth 65536 in
set_option maxHeartbeats 40000000 in
theorem rm_g_executorMemory (l : Launch) (Z : State) (a0 : Array Value) (hw : ∀ d ∈ tables_1, d.before a0 Z = true) (ws : List Jvm.Cond) (ax : Addr) (xv : Value) (qv : xv.isRef = true) (h0 : Heap) (n0 : Nat) (Z0 : n0 ≤ h0.size) (F0 : Fld Z h0 ax "com/example/kilnroute/kilnroute/spark/Resources" "executorMemory" "Ljava/lang/String;" xv) :
    Pays l Z (⟨"com/example/kilnroute/kilnroute/spark/Resources", "executorMemory", "()Ljava/lang/String;"⟩ : MethodName) prog_18_method_19_code 1 (some (.object "java/lang/String")) ws ({ frames := 0, cells := 0, slots := 0, locals := 0 } : Room) #[(.ref ax)] h0 (fun v h L => v = some xv ∧ Fr n0 L ∧ h = h0) := by
  refine Pays.of (plainFor_of_name (by first | (simp [plainName, overriddenIn]; done) | decide +kernel)) ?_
  intro p e s m below meth c s₁ hx hby hml hown hnm hret hlk hZ e0 X0
  have N0 := Fr.nil n0
  have K0 : Keep h0 h0 [] := Keep.refl _ _
  refine Goes.go (U' := (s₁.setTop (mkF m 0 #[sR_ ax] []))) (fun t kt => castTop (ef_rm_g_executorMemory m ax) kt) ?_
  refine Goes.go (U' := (s₁.setTop (mkF m 1 #[sR_ ax] [(.ref ax)]))) (fun t kt => ?_) ?_
  · skip
    refine XS.aloadN X0.here hx rfl (hb hby d_rm_g_executorMemory_0) rfl rfl ?_
    exact kt
  obtain ⟨T_1, X_1, e_1, st_1⟩ := getF X0 hx hZ hown (host := "") (Or.inl (wdOf hw 64 rfl)) Via.refl e0 F0 (g := (mkF m 1 #[sR_ ax] [(.ref ax)])) rfl rfl (hb hby d_rm_g_executorMemory_1)
  refine Goes.go (U' := (T_1.setTop (mkF m 4 #[sR_ ax] [xv]))) st_1 ?_
  refine Goes.retA X_1 hx hlk hret rfl qv (hb hby d_rm_g_executorMemory_4) (by decide) (by decide) ?_
  try rw [e_1]
  exact ⟨rfl, N0, rfl⟩
theorem d_rm_g_executorCores_0 : decode prog_18_method_20_code 0 = .ok (.aload_n 0, 1) := by decide +kernel
theorem d_rm_g_executorCores_1 : decode prog_18_method_20_code 1 = .ok (.getfield 20, 3) := by decide +kernel
theorem d_rm_g_executorCores_4 : decode prog_18_method_20_code 4 = .ok (.areturn, 1) := by decide +kernel
set_option maxHeartbeats 4000000 in
theorem ef_rm_g_executorCores (m : MethodId) (x0 : Addr)  : entryFrame m #[(.ref x0)] 1 = mkF m 0 #[.val (.ref x0)] [] := by first | (simp [entryFrame, mkF, argsToLocals, catR, catN, catI, catJ]; done) | rfl
set_option maxRecDepth 65536 in
set_option maxHeartbeats 40000000 in
theorem rm_g_executorCores (l : Launch) (Z : State) (a0 : Array Value) (hw : ∀ d ∈ tables_1, d.before a0 Z = true) (ws : List Jvm.Cond) (ax : Addr) (xv : Value) (qv : xv.isRef = true) (h0 : Heap) (n0 : Nat) (Z0 : n0 ≤ h0.size) (F0 : Fld Z h0 ax "com/example/kilnroute/kilnroute/spark/Resources" "executorCores" "Ljava/lang/Integer;" xv) :
    Pays l Z (⟨"com/example/kilnroute/kilnroute/spark/Resources", "executorCores", "()Ljava/lang/Integer;"⟩ : MethodName) prog_18_method_20_code 1 (some (.object "java/lang/Integer")) ws ({ frames := 0, cells := 0, slots := 0, locals := 0 } : Room) #[(.ref ax)] h0 (fun v h L => v = some xv ∧ Fr n0 L ∧ h = h0) := by
  refine Pays.of (plainFor_of_name (by first | (simp [plainName, overriddenIn]; done) | decide +kernel)) ?_
  intro p e s m below meth c s₁ hx hby hml hown hnm hret hlk hZ e0 X0
  have N0 := Fr.nil n0
  have K0 : Keep h0 h0 [] := Keep.refl _ _
  refine Goes.go (U' := (s₁.setTop (mkF m 0 #[sR_ ax] []))) (fun t kt => castTop (ef_rm_g_executorCores m ax) kt) ?_
  refine Goes.go (U' := (s₁.setTop (mkF m 1 #[sR_ ax] [(.ref ax)]))) (fun t kt => ?_) ?_
  · skip
    refine XS.aloadN X0.here hx rfl (hb hby d_rm_g_executorCores_0) rfl rfl ?_
    exact kt
  obtain ⟨T_1, X_1, e_1, st_1⟩ := getF X0 hx hZ hown (host := "") (Or.inl (wdOf hw 66 rfl)) Via.refl e0 F0 (g := (mkF m 1 #[sR_ ax] [(.ref ax)])) rfl rfl (hb hby d_rm_g_executorCores_1)
  refine Goes.go (U' := (T_1.setTop (mkF m 4 #[sR_ ax] [xv]))) st_1 ?_
  refine Goes.retA X_1 hx hlk hret rfl qv (hb hby d_rm_g_executorCores_4) (by decide) (by decide) ?_
  try rw [e_1]
  exact ⟨rfl, N0, rfl⟩
theorem d_rm_g_numExecutors_0 : decode prog_18_method_21_code 0 = .ok (.aload_n 0, 1) := by decide +kernel
theorem d_rm_g_numExecutors_1 : decode prog_18_method_21_code 1 = .ok (.getfield 23, 3) := by decide +kernel
theorem d_rm_g_numExecutors_4 : decode prog_18_method_21_code 4 = .ok (.areturn, 1) := by decide +kernel
set_option maxHeartbeats 4000000 in
theorem ef_rm_g_numExecutors (m : MethodId) (x0 : Addr)  : entryFrame m #[(.ref x0)] 1 = mkF m 0 #[.val (.ref x0)] [] := by first | (simp [entryFrame, mkF, argsToLocals, catR, catN, catI, catJ]; done) | rfl
set_option maxRecDepth 65536 in
set_option maxHeartbeats 40000000 in
theorem rm_g_numExecutors (l : Launch) (Z : State) (a0 : Array Value) (hw : ∀ d ∈ tables_1, d.before a0 Z = true) (ws : List Jvm.Cond) (ax : Addr) (xv : Value) (qv : xv.isRef = true) (h0 : Heap) (n0 : Nat) (Z0 : n0 ≤ h0.size) (F0 : Fld Z h0 ax "com/example/kilnroute/kilnroute/spark/Resources" "numExecutors" "Ljava/lang/Integer;" xv) :
    Pays l Z (⟨"com/example/kilnroute/kilnroute/spark/Resources", "numExecutors", "()Ljava/lang/Integer;"⟩ : MethodName) prog_18_method_21_code 1 (some (.object "java/lang/Integer")) ws ({ frames := 0, cells := 0, slots := 0, locals := 0 } : Room) #[(.ref ax)] h0 (fun v h L => v = some xv ∧ Fr n0 L ∧ h = h0) := by
  refine Pays.of (plainFor_of_name (by first | (simp [plainName, overriddenIn]; done) | decide +kernel)) ?_
  intro p e s m below meth c s₁ hx hby hml hown hnm hret hlk hZ e0 X0
  have N0 := Fr.nil n0
  have K0 : Keep h0 h0 [] := Keep.refl _ _
  refine Goes.go (U' := (s₁.setTop (mkF m 0 #[sR_ ax] []))) (fun t kt => castTop (ef_rm_g_numExecutors m ax) kt) ?_
  refine Goes.go (U' := (s₁.setTop (mkF m 1 #[sR_ ax] [(.ref ax)]))) (fun t kt => ?_) ?_
  · skip
    refine XS.aloadN X0.here hx rfl (hb hby d_rm_g_numExecutors_0) rfl rfl ?_
    exact kt
  obtain ⟨T_1, X_1, e_1, st_1⟩ := getF X0 hx hZ hown (host := "") (Or.inl (wdOf hw 68 rfl)) Via.refl e0 F0 (g := (mkF m 1 #[sR_ ax] [(.ref ax)])) rfl rfl (hb hby d_rm_g_numExecutors_1)
  refine Goes.go (U' := (T_1.setTop (mkF m 4 #[sR_ ax] [xv]))) st_1 ?_
  refine Goes.retA X_1 hx hlk hret rfl qv (hb hby d_rm_g_numExecutors_4) (by decide) (by decide) ?_
  try rw [e_1]
  exact ⟨rfl, N0, rfl⟩
theorem d_rm_seq_0 : decode jdk_42_method_66_code 0 = .ok (.aload_n 0, 1) := by decide +kernel
theorem d_rm_seq_1 : decode jdk_42_method_66_code 1 = .ok (.aload_n 1, 1) := by decide +kernel
theorem d_rm_seq_2 : decode jdk_42_method_66_code 2 = .ok (.if_acmp .ne 5, 3) := by decide +kernel
theorem d_rm_seq_5 : decode jdk_42_method_66_code 5 = .ok (.iconst 1, 1) := by decide +kernel
theorem d_rm_seq_6 : decode jdk_42_method_66_code 6 = .ok (.ireturn, 1) := by decide +kernel
set_option maxHeartbeats 4000000 in
theorem ef_rm_seq (m : MethodId) (x0 : Addr) (x1 : Addr)  : entryFrame m #[(.ref x0), (.ref x1)] 3 = mkF m 0 #[.val (.ref x0), .val (.ref x1), .unset] [] := by first | (simp [entryFrame, mkF, argsToLocals, catR, catN, catI, catJ]; done) | rfl
set_option maxRecDepth 65536 in
set_option maxHeartbeats 40000000 in
theorem rm_seq (l : Launch) (Z : State) (a0 : Array Value) (hw : ∀ d ∈ tables_1, d.before a0 Z = true) (ws : List Jvm.Cond) (ax : Addr) (h0 : Heap) (n0 : Nat) (Z0 : n0 ≤ h0.size)  :
    Pays l Z (⟨"java/lang/String", "equals", "(Ljava/lang/Object;)Z"⟩ : MethodName) jdk_42_method_66_code 3 (some .boolean) ws ({ frames := 0, cells := 0, slots := 0, locals := 0 } : Room) #[(.ref ax), (.ref ax)] h0 (fun v h L => v = some (.int 1) ∧ Fr n0 L ∧ h = h0) := by
  refine Pays.of (plainFor_of_name (by first | (simp [plainName, overriddenIn]; done) | decide +kernel)) ?_
  intro p e s m below meth c s₁ hx hby hml hown hnm hret hlk hZ e0 X0
  have N0 := Fr.nil n0
  have K0 : Keep h0 h0 [] := Keep.refl _ _
  refine Goes.go (U' := (s₁.setTop (mkF m 0 #[sR_ ax, sR_ ax, sU_] []))) (fun t kt => castTop (ef_rm_seq m ax ax) kt) ?_
  refine Goes.go (U' := (s₁.setTop (mkF m 6 #[sR_ ax, sR_ ax, sU_] [(.int (1 : Int32))]))) (fun t kt => ?_) ?_
  · skip
    refine XS.aloadN X0.here hx rfl (hb hby d_rm_seq_0) rfl rfl ?_
    refine XS.aloadN X0.here hx rfl (hb hby d_rm_seq_1) rfl rfl ?_
    refine XT.acmpNo X0.here hx rfl (hb hby d_rm_seq_2) rfl rfl rfl (XT.aa_ne_f (congrArg Value.ref rfl)) ?_
    refine XS.iconst X0.here hx rfl (hb hby d_rm_seq_5) ?_
    exact kt
  refine Goes.retB X0 hx hlk hret (hb hby d_rm_seq_6) (by decide) (by decide) ?_
  try rw [e0]
  exact ⟨rfl, N0, rfl⟩
theorem d_rm_iv_0 : decode jdk_33_method_27_code 0 = .ok (.aload_n 0, 1) := by decide +kernel
theorem d_rm_iv_1 : decode jdk_33_method_27_code 1 = .ok (.getfield 205, 3) := by decide +kernel
theorem d_rm_iv_4 : decode jdk_33_method_27_code 4 = .ok (.ireturn, 1) := by decide +kernel
set_option maxHeartbeats 4000000 in
theorem ef_rm_iv (m : MethodId) (x0 : Addr)  : entryFrame m #[(.ref x0)] 1 = mkF m 0 #[.val (.ref x0)] [] := by first | (simp [entryFrame, mkF, argsToLocals, catR, catN, catI, catJ]; done) | rfl
set_option maxRecDepth 65536 in
set_option maxHeartbeats 40000000 in
theorem rm_iv (l : Launch) (Z : State) (a0 : Array Value) (hw : ∀ d ∈ tables_1, d.before a0 Z = true) (ws : List Jvm.Cond) (ax : Addr) (xv : Int32) (h0 : Heap) (n0 : Nat) (Z0 : n0 ≤ h0.size) (F0 : Fld Z h0 ax "java/lang/Integer" "value" "I" (.int xv)) :
    Pays l Z (⟨"java/lang/Integer", "intValue", "()I"⟩ : MethodName) jdk_33_method_27_code 1 (some .int) ws ({ frames := 0, cells := 0, slots := 0, locals := 0 } : Room) #[(.ref ax)] h0 (fun v h L => v = some (.int xv) ∧ Fr n0 L ∧ h = h0) := by
  refine Pays.of (plainFor_of_name (by first | (simp [plainName, overriddenIn]; done) | decide +kernel)) ?_
  intro p e s m below meth c s₁ hx hby hml hown hnm hret hlk hZ e0 X0
  have N0 := Fr.nil n0
  have K0 : Keep h0 h0 [] := Keep.refl _ _
  refine Goes.go (U' := (s₁.setTop (mkF m 0 #[sR_ ax] []))) (fun t kt => castTop (ef_rm_iv m ax) kt) ?_
  refine Goes.go (U' := (s₁.setTop (mkF m 1 #[sR_ ax] [(.ref ax)]))) (fun t kt => ?_) ?_
  · skip
    refine XS.aloadN X0.here hx rfl (hb hby d_rm_iv_0) rfl rfl ?_
    exact kt
  obtain ⟨T_1, X_1, e_1, st_1⟩ := getF X0 hx hZ hown (host := "") (Or.inl (wdOf hw 46 rfl)) Via.refl e0 F0 (g := (mkF m 1 #[sR_ ax] [(.ref ax)])) rfl rfl (hb hby d_rm_iv_1)
  refine Goes.go (U' := (T_1.setTop (mkF m 4 #[sR_ ax] [(.int xv)]))) st_1 ?_
  refine Goes.retI X_1 hx hlk hret (hb hby d_rm_iv_4) (by decide) (by decide) ?_
  try rw [e_1]
  exact ⟨rfl, N0, rfl⟩
theorem d_rm_ss_0 : decode method_3_code 0 = .ok (.aload_n 0, 1) := by decide +kernel
theorem d_rm_ss_1 : decode method_3_code 1 = .ok (.ifnonnull 13, 3) := by decide +kernel
theorem d_rm_ss_4 : decode method_3_code 4 = .ok (.aload_n 1, 1) := by decide +kernel
theorem d_rm_ss_5 : decode method_3_code 5 = .ok (.ifnonnull 7, 3) := by decide +kernel
theorem d_rm_ss_8 : decode method_3_code 8 = .ok (.iconst 1, 1) := by decide +kernel
theorem d_rm_ss_9 : decode method_3_code 9 = .ok (.goto 4, 3) := by decide +kernel
theorem d_rm_ss_13 : decode method_3_code 13 = .ok (.ireturn, 1) := by decide +kernel
theorem d_rm_ss_14 : decode method_3_code 14 = .ok (.aload_n 1, 1) := by decide +kernel
theorem d_rm_ss_15 : decode method_3_code 15 = .ok (.ifnull 15, 3) := by decide +kernel
theorem d_rm_ss_18 : decode method_3_code 18 = .ok (.aload_n 0, 1) := by decide +kernel
theorem d_rm_ss_19 : decode method_3_code 19 = .ok (.aload_n 1, 1) := by decide +kernel
theorem d_rm_ss_20 : decode method_3_code 20 = .ok (.invokevirtual 54, 3) := by decide +kernel
theorem d_rm_ss_23 : decode method_3_code 23 = .ok (.ifCond .eq 7, 3) := by decide +kernel
theorem d_rm_ss_26 : decode method_3_code 26 = .ok (.iconst 1, 1) := by decide +kernel
theorem d_rm_ss_27 : decode method_3_code 27 = .ok (.goto 4, 3) := by decide +kernel
theorem d_rm_ss_31 : decode method_3_code 31 = .ok (.ireturn, 1) := by decide +kernel
set_option maxHeartbeats 4000000 in
theorem ef_rm_ss (m : MethodId) (x0 : Value) (x1 : Value) (rx0 : x0.isRef = true) (rx1 : x1.isRef = true) : entryFrame m #[x0, x1] 2 = mkF m 0 #[.val x0, .val x1] [] := by simp [entryFrame, mkF, argsToLocals, catR, catN, catI, catJ, XT.cat1 rx0, XT.cat1 rx1]
set_option maxRecDepth 65536 in
set_option maxHeartbeats 40000000 in
theorem rm_ss (l : Launch) (Z : State) (a0 : Array Value) (hw : ∀ d ∈ tables_1, d.before a0 Z = true) (ws : List Jvm.Cond) (xa xb : Value) (h0 : Heap) (n0 : Nat) (Z0 : n0 ≤ h0.size) (hxy : xa = xb) (R0 : RefV Z h0 xb "java/lang/String") :
    Pays l Z (⟨"com/example/kilnroute/kilnroute/spark/ResourcesOverriddenByPinLaw", "sameStr", "(Ljava/lang/String;Ljava/lang/String;)Z"⟩ : MethodName) method_3_code 2 (some .boolean) ws ({ frames := 1, cells := 0, slots := 0, locals := 14 } : Room) #[xa, xb] h0 (fun v h L => v = some (.int 1) ∧ Fr n0 L ∧ h = h0) := by
  refine Pays.of (plainFor_of_name (by first | (simp [plainName, overriddenIn]; done) | decide +kernel)) ?_
  intro p e s m below meth c s₁ hx hby hml hown hnm hret hlk hZ e0 X0
  have N0 := Fr.nil n0
  have K0 : Keep h0 h0 [] := Keep.refl _ _
  refine Goes.go (U' := (s₁.setTop (mkF m 0 #[.val xa, .val xb] []))) (fun t kt => castTop (ef_rm_ss m xa xb (hxy ▸ R0.isRef) R0.isRef) kt) ?_
  subst hxy
  rcases R0 with rfl | ⟨ra, rfl, Ea⟩
  · -- null
    refine Goes.go (U' := (s₁.setTop (mkF m 13 #[.val .null, .val .null] [(.int (1 : Int32))]))) (fun t kt => ?_) ?_
    · skip
      refine XS.aloadN X0.here hx rfl (hb hby d_rm_ss_0) rfl rfl ?_
      refine XS.ifnonnullNo X0.here hx rfl (hb hby d_rm_ss_1) rfl ?_
      refine XS.aloadN X0.here hx rfl (hb hby d_rm_ss_4) rfl rfl ?_
      refine XS.ifnonnullNo X0.here hx rfl (hb hby d_rm_ss_5) rfl ?_
      refine XS.iconst X0.here hx rfl (hb hby d_rm_ss_8) ?_
      refine XS.goto X0.here hx rfl (pc0 := 9) (pc' := 13) rfl (hb hby d_rm_ss_9) (by decide) (by decide) ?_
      exact kt
    refine Goes.retB X0 hx hlk hret (hb hby d_rm_ss_13) (by decide) (by decide) ?_
    try rw [e0]
    exact ⟨rfl, N0, rfl⟩
  · -- a String
    refine Goes.go (U' := (s₁.setTop (mkF m 20 #[sR_ ra, sR_ ra] [(.ref ra), (.ref ra)]))) (fun t kt => ?_) ?_
    · skip
      refine XS.aloadN X0.here hx rfl (hb hby d_rm_ss_0) rfl rfl ?_
      refine XS.ifnonnullYes X0.here hx rfl (pc0 := 1) (pc' := 14) rfl (hb hby d_rm_ss_1) rfl (by decide) (by decide) ?_
      refine XS.aloadN X0.here hx rfl (hb hby d_rm_ss_14) rfl rfl ?_
      refine XS.ifnullNo X0.here hx rfl (hb hby d_rm_ss_15) rfl ?_
      refine XS.aloadN X0.here hx rfl (hb hby d_rm_ss_18) rfl rfl ?_
      refine XS.aloadN X0.here hx rfl (hb hby d_rm_ss_19) rfl rfl ?_
      exact kt
    obtain ⟨v_1, T_1, L_1, X_1, q_1, st_1⟩ := callVirtual X0 hx hZ (y := (⟨"java/lang/String", "equals", "(Ljava/lang/Object;)Z"⟩ : MethodName)) (z := (⟨"java/lang/String", "equals", "(Ljava/lang/Object;)Z"⟩ : MethodName)) (W := 0) hown (wdOf hw 91 rfl) (wdOf hw 92 rfl) (notFace_of_selects (args := #[]) (mvT hZ (wdOf hw 94 rfl))) (wdOf hw 94 rfl) (wdOf hw 93 rfl) (wdOf hw 2 rfl) (wdOf hw 95 rfl) (by decide) (rm_seq l Z a0 hw [] ra h0 n0 Z0) (by decide) (by decide) (by decide) (by decide) e0 Ea (g := (mkF m 20 #[sR_ ra, sR_ ra] [(.ref ra), (.ref ra)])) rfl (by rw [hml]; rfl) (argsL := [(.ref ra)]) (rest := []) (lenOf pd_5 rfl) rfl rfl (Nat.le_refl _) (hb hby d_rm_ss_20)
    obtain ⟨rfl, n_1, K_1⟩ := q_1
    have N_1 := Fr.app N0 n_1
    refine Goes.go (U' := (T_1.setTop (mkF m 23 #[sR_ ra, sR_ ra] [(.int (1 : Int32))]))) st_1 ?_
    refine Goes.go (U' := (T_1.setTop (mkF m 31 #[sR_ ra, sR_ ra] [(.int (1 : Int32))]))) (fun t kt => ?_) ?_
    · skip
      refine XS.ifNo X_1.here hx rfl (hb hby d_rm_ss_23) rfl (XT.i0_eq_f (by decide)) ?_
      refine XS.iconst X_1.here hx rfl (hb hby d_rm_ss_26) ?_
      refine XS.goto X_1.here hx rfl (pc0 := 27) (pc' := 31) rfl (hb hby d_rm_ss_27) (by decide) (by decide) ?_
      exact kt
    refine Goes.retB X_1 hx hlk hret (hb hby d_rm_ss_31) (by decide) (by decide) ?_
    try rw [K_1]
    exact ⟨rfl, N_1, rfl⟩
theorem d_rm_si_0 : decode method_4_code 0 = .ok (.aload_n 0, 1) := by decide +kernel
theorem d_rm_si_1 : decode method_4_code 1 = .ok (.ifnonnull 13, 3) := by decide +kernel
theorem d_rm_si_4 : decode method_4_code 4 = .ok (.aload_n 1, 1) := by decide +kernel
theorem d_rm_si_5 : decode method_4_code 5 = .ok (.ifnonnull 7, 3) := by decide +kernel
theorem d_rm_si_8 : decode method_4_code 8 = .ok (.iconst 1, 1) := by decide +kernel
theorem d_rm_si_9 : decode method_4_code 9 = .ok (.goto 4, 3) := by decide +kernel
theorem d_rm_si_13 : decode method_4_code 13 = .ok (.ireturn, 1) := by decide +kernel
theorem d_rm_si_14 : decode method_4_code 14 = .ok (.aload_n 1, 1) := by decide +kernel
theorem d_rm_si_15 : decode method_4_code 15 = .ok (.ifnull 18, 3) := by decide +kernel
theorem d_rm_si_18 : decode method_4_code 18 = .ok (.aload_n 0, 1) := by decide +kernel
theorem d_rm_si_19 : decode method_4_code 19 = .ok (.invokevirtual 58, 3) := by decide +kernel
theorem d_rm_si_22 : decode method_4_code 22 = .ok (.aload_n 1, 1) := by decide +kernel
theorem d_rm_si_23 : decode method_4_code 23 = .ok (.invokevirtual 58, 3) := by decide +kernel
theorem d_rm_si_26 : decode method_4_code 26 = .ok (.if_icmp .ne 7, 3) := by decide +kernel
theorem d_rm_si_29 : decode method_4_code 29 = .ok (.iconst 1, 1) := by decide +kernel
theorem d_rm_si_30 : decode method_4_code 30 = .ok (.goto 4, 3) := by decide +kernel
theorem d_rm_si_34 : decode method_4_code 34 = .ok (.ireturn, 1) := by decide +kernel
set_option maxHeartbeats 4000000 in
theorem ef_rm_si (m : MethodId) (x0 : Value) (x1 : Value) (rx0 : x0.isRef = true) (rx1 : x1.isRef = true) : entryFrame m #[x0, x1] 2 = mkF m 0 #[.val x0, .val x1] [] := by simp [entryFrame, mkF, argsToLocals, catR, catN, catI, catJ, XT.cat1 rx0, XT.cat1 rx1]
set_option maxRecDepth 65536 in
set_option maxHeartbeats 40000000 in
theorem rm_si (l : Launch) (Z : State) (a0 : Array Value) (hw : ∀ d ∈ tables_1, d.before a0 Z = true) (ws : List Jvm.Cond) (xa xb : Value) (h0 : Heap) (n0 : Nat) (Z0 : n0 ≤ h0.size) (hxy : xa = xb) (R0 : IntV Z h0 xb) :
    Pays l Z (⟨"com/example/kilnroute/kilnroute/spark/ResourcesOverriddenByPinLaw", "sameInt", "(Ljava/lang/Integer;Ljava/lang/Integer;)Z"⟩ : MethodName) method_4_code 2 (some .boolean) ws ({ frames := 1, cells := 0, slots := 0, locals := 13 } : Room) #[xa, xb] h0 (fun v h L => v = some (.int 1) ∧ Fr n0 L ∧ h = h0) := by
  refine Pays.of (plainFor_of_name (by first | (simp [plainName, overriddenIn]; done) | decide +kernel)) ?_
  intro p e s m below meth c s₁ hx hby hml hown hnm hret hlk hZ e0 X0
  have N0 := Fr.nil n0
  have K0 : Keep h0 h0 [] := Keep.refl _ _
  refine Goes.go (U' := (s₁.setTop (mkF m 0 #[.val xa, .val xb] []))) (fun t kt => castTop (ef_rm_si m xa xb (hxy ▸ R0.isRef) R0.isRef) kt) ?_
  subst hxy
  rcases R0 with rfl | ⟨ra, xi, rfl, Ea, Fa⟩
  · -- null
    refine Goes.go (U' := (s₁.setTop (mkF m 13 #[.val .null, .val .null] [(.int (1 : Int32))]))) (fun t kt => ?_) ?_
    · skip
      refine XS.aloadN X0.here hx rfl (hb hby d_rm_si_0) rfl rfl ?_
      refine XS.ifnonnullNo X0.here hx rfl (hb hby d_rm_si_1) rfl ?_
      refine XS.aloadN X0.here hx rfl (hb hby d_rm_si_4) rfl rfl ?_
      refine XS.ifnonnullNo X0.here hx rfl (hb hby d_rm_si_5) rfl ?_
      refine XS.iconst X0.here hx rfl (hb hby d_rm_si_8) ?_
      refine XS.goto X0.here hx rfl (pc0 := 9) (pc' := 13) rfl (hb hby d_rm_si_9) (by decide) (by decide) ?_
      exact kt
    refine Goes.retB X0 hx hlk hret (hb hby d_rm_si_13) (by decide) (by decide) ?_
    try rw [e0]
    exact ⟨rfl, N0, rfl⟩
  · -- an Integer
    refine Goes.go (U' := (s₁.setTop (mkF m 19 #[sR_ ra, sR_ ra] [(.ref ra)]))) (fun t kt => ?_) ?_
    · skip
      refine XS.aloadN X0.here hx rfl (hb hby d_rm_si_0) rfl rfl ?_
      refine XS.ifnonnullYes X0.here hx rfl (pc0 := 1) (pc' := 14) rfl (hb hby d_rm_si_1) rfl (by decide) (by decide) ?_
      refine XS.aloadN X0.here hx rfl (hb hby d_rm_si_14) rfl rfl ?_
      refine XS.ifnullNo X0.here hx rfl (hb hby d_rm_si_15) rfl ?_
      refine XS.aloadN X0.here hx rfl (hb hby d_rm_si_18) rfl rfl ?_
      exact kt
    obtain ⟨v_1, T_1, L_1, X_1, q_1, st_1⟩ := callVirtual X0 hx hZ (y := (⟨"java/lang/Integer", "intValue", "()I"⟩ : MethodName)) (z := (⟨"java/lang/Integer", "intValue", "()I"⟩ : MethodName)) (W := 0) hown (wdOf hw 104 rfl) (wdOf hw 105 rfl) (notFace_of_selects (args := #[]) (mvT hZ (wdOf hw 107 rfl))) (wdOf hw 107 rfl) (wdOf hw 106 rfl) (wdOf hw 28 rfl) (wdOf hw 108 rfl) (by decide) (rm_iv l Z a0 hw [] ra xi h0 n0 Z0 Fa) (by decide) (by decide) (by decide) (by decide) e0 Ea (g := (mkF m 19 #[sR_ ra, sR_ ra] [(.ref ra)])) rfl (by rw [hml]; rfl) (argsL := []) (rest := []) (lenOf pd_6 rfl) rfl rfl (Nat.le_refl _) (hb hby d_rm_si_19)
    obtain ⟨rfl, n_1, K_1⟩ := q_1
    have N_1 := Fr.app N0 n_1
    refine Goes.go (U' := (T_1.setTop (mkF m 22 #[sR_ ra, sR_ ra] [(.int xi)]))) st_1 ?_
    refine Goes.go (U' := (T_1.setTop (mkF m 23 #[sR_ ra, sR_ ra] [(.ref ra), (.int xi)]))) (fun t kt => ?_) ?_
    · skip
      refine XS.aloadN X_1.here hx rfl (hb hby d_rm_si_22) rfl rfl ?_
      exact kt
    obtain ⟨v_2, T_2, L_2, X_2, q_2, st_2⟩ := callVirtual X_1 hx hZ (y := (⟨"java/lang/Integer", "intValue", "()I"⟩ : MethodName)) (z := (⟨"java/lang/Integer", "intValue", "()I"⟩ : MethodName)) (W := 1) hown (wdOf hw 104 rfl) (wdOf hw 105 rfl) (notFace_of_selects (args := #[]) (mvT hZ (wdOf hw 107 rfl))) (wdOf hw 107 rfl) (wdOf hw 106 rfl) (wdOf hw 28 rfl) (wdOf hw 108 rfl) (by decide) (rm_iv l Z a0 hw [] ra xi h0 n0 Z0 Fa) (by decide) (by decide) (by decide) (by decide) K_1 Ea (g := (mkF m 23 #[sR_ ra, sR_ ra] [(.ref ra), (.int xi)])) rfl (by rw [hml]; rfl) (argsL := []) (rest := [(.int xi)]) (lenOf pd_6 rfl) rfl rfl (Nat.le_refl _) (hb hby d_rm_si_23)
    obtain ⟨rfl, n_2, K_2⟩ := q_2
    have N_2 := Fr.app N_1 n_2
    refine Goes.go (U' := (T_2.setTop (mkF m 26 #[sR_ ra, sR_ ra] [(.int xi), (.int xi)]))) st_2 ?_
    refine Goes.go (U' := (T_2.setTop (mkF m 34 #[sR_ ra, sR_ ra] [(.int (1 : Int32))]))) (fun t kt => ?_) ?_
    · skip
      refine XS.icmpNo X_2.here hx rfl (hb hby d_rm_si_26) rfl (XT.ii_ne_f rfl) ?_
      refine XS.iconst X_2.here hx rfl (hb hby d_rm_si_29) ?_
      refine XS.goto X_2.here hx rfl (pc0 := 30) (pc' := 34) rfl (hb hby d_rm_si_30) (by decide) (by decide) ?_
      exact kt
    refine Goes.retB X_2 hx hlk hret (hb hby d_rm_si_34) (by decide) (by decide) ?_
    try rw [K_2]
    exact ⟨rfl, N_2, rfl⟩
theorem d_rm_ei_0 : decode prog_18_method_13_code 0 = .ok (.aload_n 0, 1) := by decide +kernel
theorem d_rm_ei_1 : decode prog_18_method_13_code 1 = .ok (.ifnull 7, 3) := by decide +kernel
theorem d_rm_ei_4 : decode prog_18_method_13_code 4 = .ok (.aload_n 0, 1) := by decide +kernel
theorem d_rm_ei_5 : decode prog_18_method_13_code 5 = .ok (.goto 4, 3) := by decide +kernel
theorem d_rm_ei_8 : decode prog_18_method_13_code 8 = .ok (.aload_n 1, 1) := by decide +kernel
theorem d_rm_ei_9 : decode prog_18_method_13_code 9 = .ok (.areturn, 1) := by decide +kernel
set_option maxHeartbeats 4000000 in
theorem ef_rm_ei (m : MethodId) (x0 : Value) (x1 : Value) (rx0 : x0.isRef = true) (rx1 : x1.isRef = true) : entryFrame m #[x0, x1] 2 = mkF m 0 #[.val x0, .val x1] [] := by simp [entryFrame, mkF, argsToLocals, catR, catN, catI, catJ, XT.cat1 rx0, XT.cat1 rx1]
set_option maxRecDepth 65536 in
set_option maxHeartbeats 40000000 in
theorem rm_ei (l : Launch) (Z : State) (a0 : Array Value) (hw : ∀ d ∈ tables_1, d.before a0 Z = true) (ws : List Jvm.Cond) (xa xb xw : Value) (qa : xa.isRef = true) (qb : xb.isRef = true) (h0 : Heap) (n0 : Nat) (Z0 : n0 ≤ h0.size) (h1 : xa = .null → xw = xb) (h2 : ¬ xa = .null → xw = xa) :
    Pays l Z (⟨"com/example/kilnroute/kilnroute/spark/Resources", "either", "(Ljava/lang/Object;Ljava/lang/Object;)Ljava/lang/Object;"⟩ : MethodName) prog_18_method_13_code 2 (some (.object "java/lang/Object")) ws ({ frames := 0, cells := 0, slots := 0, locals := 0 } : Room) #[xa, xb] h0 (fun v h L => v = some xw ∧ Fr n0 L ∧ h = h0) := by
  refine Pays.of (plainFor_of_name (by first | (simp [plainName, overriddenIn]; done) | decide +kernel)) ?_
  intro p e s m below meth c s₁ hx hby hml hown hnm hret hlk hZ e0 X0
  have N0 := Fr.nil n0
  have K0 : Keep h0 h0 [] := Keep.refl _ _
  refine Goes.go (U' := (s₁.setTop (mkF m 0 #[.val xa, .val xb] []))) (fun t kt => castTop (ef_rm_ei m xa xb qa qb) kt) ?_
  refine Goes.go (U' := (s₁.setTop (mkF m 1 #[.val xa, .val xb] [xa]))) (fun t kt => ?_) ?_
  · skip
    refine XS.aloadN X0.here hx rfl (hb hby d_rm_ei_0) rfl qa ?_
    exact kt
  by_cases c_1 : xa = Value.null
  · -- xa = Value.null
    refine Goes.go (U' := (s₁.setTop (mkF m 9 #[.val xa, .val xb] [xb]))) (fun t kt => ?_) ?_
    · skip
      refine XT.nullYes X0.here hx rfl (pc0 := 1) (pc' := 8) rfl (hb hby d_rm_ei_1) rfl  c_1 (by decide) (by decide) ?_
      refine XS.aloadN X0.here hx rfl (hb hby d_rm_ei_8) rfl qb ?_
      exact kt
    refine Goes.retA X0 hx hlk hret rfl qb (hb hby d_rm_ei_9) (by decide) (by decide) ?_
    try rw [e0]
    exact ⟨by rw [h1 c_1], N0, rfl⟩
  · -- not xa = Value.null
    refine Goes.go (U' := (s₁.setTop (mkF m 9 #[.val xa, .val xb] [xa]))) (fun t kt => ?_) ?_
    · skip
      refine XT.nullNo X0.here hx rfl (hb hby d_rm_ei_1) rfl qa  c_1 ?_
      refine XS.aloadN X0.here hx rfl (hb hby d_rm_ei_4) rfl qa ?_
      refine XS.goto X0.here hx rfl (pc0 := 5) (pc' := 9) rfl (hb hby d_rm_ei_5) (by decide) (by decide) ?_
      exact kt
    refine Goes.retA X0 hx hlk hret rfl qa (hb hby d_rm_ei_9) (by decide) (by decide) ?_
    try rw [e0]
    exact ⟨by rw [h2 c_1], N0, rfl⟩
theorem d_rm_ob_0 : decode prog_18_method_6_code 0 = .ok (.new 8, 3) := by decide +kernel
theorem d_rm_ob_3 : decode prog_18_method_6_code 3 = .ok (.dup, 1) := by decide +kernel
theorem d_rm_ob_4 : decode prog_18_method_6_code 4 = .ok (.aload_n 1, 1) := by decide +kernel
theorem d_rm_ob_5 : decode prog_18_method_6_code 5 = .ok (.getfield 7, 3) := by decide +kernel
theorem d_rm_ob_8 : decode prog_18_method_6_code 8 = .ok (.aload_n 0, 1) := by decide +kernel
theorem d_rm_ob_9 : decode prog_18_method_6_code 9 = .ok (.getfield 7, 3) := by decide +kernel
theorem d_rm_ob_12 : decode prog_18_method_6_code 12 = .ok (.invokestatic 119, 3) := by decide +kernel
theorem d_rm_ob_15 : decode prog_18_method_6_code 15 = .ok (.checkcast 37, 3) := by decide +kernel
theorem d_rm_ob_18 : decode prog_18_method_6_code 18 = .ok (.aload_n 1, 1) := by decide +kernel
theorem d_rm_ob_19 : decode prog_18_method_6_code 19 = .ok (.getfield 13, 3) := by decide +kernel
theorem d_rm_ob_22 : decode prog_18_method_6_code 22 = .ok (.aload_n 0, 1) := by decide +kernel
theorem d_rm_ob_23 : decode prog_18_method_6_code 23 = .ok (.getfield 13, 3) := by decide +kernel
theorem d_rm_ob_26 : decode prog_18_method_6_code 26 = .ok (.invokestatic 119, 3) := by decide +kernel
theorem d_rm_ob_29 : decode prog_18_method_6_code 29 = .ok (.checkcast 89, 3) := by decide +kernel
theorem d_rm_ob_32 : decode prog_18_method_6_code 32 = .ok (.aload_n 1, 1) := by decide +kernel
theorem d_rm_ob_33 : decode prog_18_method_6_code 33 = .ok (.getfield 17, 3) := by decide +kernel
theorem d_rm_ob_36 : decode prog_18_method_6_code 36 = .ok (.aload_n 0, 1) := by decide +kernel
theorem d_rm_ob_37 : decode prog_18_method_6_code 37 = .ok (.getfield 17, 3) := by decide +kernel
theorem d_rm_ob_40 : decode prog_18_method_6_code 40 = .ok (.invokestatic 119, 3) := by decide +kernel
theorem d_rm_ob_43 : decode prog_18_method_6_code 43 = .ok (.checkcast 37, 3) := by decide +kernel
theorem d_rm_ob_46 : decode prog_18_method_6_code 46 = .ok (.aload_n 1, 1) := by decide +kernel
theorem d_rm_ob_47 : decode prog_18_method_6_code 47 = .ok (.getfield 20, 3) := by decide +kernel
theorem d_rm_ob_50 : decode prog_18_method_6_code 50 = .ok (.aload_n 0, 1) := by decide +kernel
theorem d_rm_ob_51 : decode prog_18_method_6_code 51 = .ok (.getfield 20, 3) := by decide +kernel
theorem d_rm_ob_54 : decode prog_18_method_6_code 54 = .ok (.invokestatic 119, 3) := by decide +kernel
theorem d_rm_ob_57 : decode prog_18_method_6_code 57 = .ok (.checkcast 89, 3) := by decide +kernel
theorem d_rm_ob_60 : decode prog_18_method_6_code 60 = .ok (.aload_n 1, 1) := by decide +kernel
theorem d_rm_ob_61 : decode prog_18_method_6_code 61 = .ok (.getfield 23, 3) := by decide +kernel
theorem d_rm_ob_64 : decode prog_18_method_6_code 64 = .ok (.aload_n 0, 1) := by decide +kernel
theorem d_rm_ob_65 : decode prog_18_method_6_code 65 = .ok (.getfield 23, 3) := by decide +kernel
theorem d_rm_ob_68 : decode prog_18_method_6_code 68 = .ok (.invokestatic 119, 3) := by decide +kernel
theorem d_rm_ob_71 : decode prog_18_method_6_code 71 = .ok (.checkcast 89, 3) := by decide +kernel
theorem d_rm_ob_74 : decode prog_18_method_6_code 74 = .ok (.invokespecial 123, 3) := by decide +kernel
theorem d_rm_ob_77 : decode prog_18_method_6_code 77 = .ok (.areturn, 1) := by decide +kernel
set_option maxHeartbeats 4000000 in
theorem ef_rm_ob (m : MethodId) (x0 : Addr) (x1 : Addr)  : entryFrame m #[(.ref x0), (.ref x1)] 2 = mkF m 0 #[.val (.ref x0), .val (.ref x1)] [] := by first | (simp [entryFrame, mkF, argsToLocals, catR, catN, catI, catJ]; done) | rfl
set_option maxRecDepth 65536 in
set_option maxHeartbeats 40000000 in
theorem rm_ob (l : Launch) (Z : State) (a0 : Array Value) (hw : ∀ d ∈ tables_1, d.before a0 Z = true) (ws : List Jvm.Cond) (ax bx : Addr) (x1 x2 x3 x4 x5 y1 y2 y3 y4 y5 w1 w2 w3 w4 w5 : Value) (h0 : Heap) (n0 : Nat) (Z0 : n0 ≤ h0.size) (Ea : Exa Z h0 ax "com/example/kilnroute/kilnroute/spark/Resources") (Fa_driverMemory : Fld Z h0 ax "com/example/kilnroute/kilnroute/spark/Resources" "driverMemory" "Ljava/lang/String;" x1) (Fa_driverCores : Fld Z h0 ax "com/example/kilnroute/kilnroute/spark/Resources" "driverCores" "Ljava/lang/Integer;" x2) (Fa_executorMemory : Fld Z h0 ax "com/example/kilnroute/kilnroute/spark/Resources" "executorMemory" "Ljava/lang/String;" x3) (Fa_executorCores : Fld Z h0 ax "com/example/kilnroute/kilnroute/spark/Resources" "executorCores" "Ljava/lang/Integer;" x4) (Fa_numExecutors : Fld Z h0 ax "com/example/kilnroute/kilnroute/spark/Resources" "numExecutors" "Ljava/lang/Integer;" x5) (Eb : Exa Z h0 bx "com/example/kilnroute/kilnroute/spark/Resources") (Fb_driverMemory : Fld Z h0 bx "com/example/kilnroute/kilnroute/spark/Resources" "driverMemory" "Ljava/lang/String;" y1) (Fb_driverCores : Fld Z h0 bx "com/example/kilnroute/kilnroute/spark/Resources" "driverCores" "Ljava/lang/Integer;" y2) (Fb_executorMemory : Fld Z h0 bx "com/example/kilnroute/kilnroute/spark/Resources" "executorMemory" "Ljava/lang/String;" y3) (Fb_executorCores : Fld Z h0 bx "com/example/kilnroute/kilnroute/spark/Resources" "executorCores" "Ljava/lang/Integer;" y4) (Fb_numExecutors : Fld Z h0 bx "com/example/kilnroute/kilnroute/spark/Resources" "numExecutors" "Ljava/lang/Integer;" y5) (X1_ : RefV Z h0 x1 "java/lang/String") (X2_ : IntV Z h0 x2) (X3_ : RefV Z h0 x3 "java/lang/String") (X4_ : IntV Z h0 x4) (X5_ : IntV Z h0 x5) (Y1_ : RefV Z h0 y1 "java/lang/String") (Y2_ : IntV Z h0 y2) (Y3_ : RefV Z h0 y3 "java/lang/String") (Y4_ : IntV Z h0 y4) (Y5_ : IntV Z h0 y5) (ha1 : y1 = .null → w1 = x1) (hb1 : ¬ y1 = .null → w1 = y1) (ha2 : y2 = .null → w2 = x2) (hb2 : ¬ y2 = .null → w2 = y2) (ha3 : y3 = .null → w3 = x3) (hb3 : ¬ y3 = .null → w3 = y3) (ha4 : y4 = .null → w4 = x4) (hb4 : ¬ y4 = .null → w4 = y4) (ha5 : y5 = .null → w5 = x5) (hb5 : ¬ y5 = .null → w5 = y5) :
    Pays l Z (⟨"com/example/kilnroute/kilnroute/spark/Resources", "overriddenBy", "(Lcom/example/kilnroute/kilnroute/spark/Resources;)Lcom/example/kilnroute/kilnroute/spark/Resources;"⟩ : MethodName) prog_18_method_6_code 2 (some (.object "com/example/kilnroute/kilnroute/spark/Resources")) ws ({ frames := 3, cells := 1, slots := 5, locals := 42 } : Room) #[(.ref ax), (.ref bx)] h0 (fun v h L => ∃ r, v = some (.ref r) ∧ Fr n0 L ∧ Ext h0 h ∧ Exa Z h r "com/example/kilnroute/kilnroute/spark/Resources" ∧ Fld Z h r "com/example/kilnroute/kilnroute/spark/Resources" "driverMemory" "Ljava/lang/String;" w1 ∧ Fld Z h r "com/example/kilnroute/kilnroute/spark/Resources" "driverCores" "Ljava/lang/Integer;" w2 ∧ Fld Z h r "com/example/kilnroute/kilnroute/spark/Resources" "executorMemory" "Ljava/lang/String;" w3 ∧ Fld Z h r "com/example/kilnroute/kilnroute/spark/Resources" "executorCores" "Ljava/lang/Integer;" w4 ∧ Fld Z h r "com/example/kilnroute/kilnroute/spark/Resources" "numExecutors" "Ljava/lang/Integer;" w5) := by
  refine Pays.of (plainFor_of_name (by first | (simp [plainName, overriddenIn]; done) | decide +kernel)) ?_
  intro p e s m below meth c s₁ hx hby hml hown hnm hret hlk hZ e0 X0
  have N0 := Fr.nil n0
  have K0 : Keep h0 h0 [] := Keep.refl _ _
  refine Goes.go (U' := (s₁.setTop (mkF m 0 #[sR_ ax, sR_ bx] []))) (fun t kt => castTop (ef_rm_ob m ax bx) kt) ?_
  have W1_ : RefV Z h0 w1 "java/lang/String" := own_pickR (fun v => RefV Z h0 v "java/lang/String") ha1 hb1 Y1_ X1_
  have W2_ : IntV Z h0 w2 := own_pickR (fun v => IntV Z h0 v) ha2 hb2 Y2_ X2_
  have W3_ : RefV Z h0 w3 "java/lang/String" := own_pickR (fun v => RefV Z h0 v "java/lang/String") ha3 hb3 Y3_ X3_
  have W4_ : IntV Z h0 w4 := own_pickR (fun v => IntV Z h0 v) ha4 hb4 Y4_ X4_
  have W5_ : IntV Z h0 w5 := own_pickR (fun v => IntV Z h0 v) ha5 hb5 Y5_ X5_
  obtain ⟨T_1, h_1, X_1, e_1, E_1, A_1, D_1, -, st_1⟩ := newO X0 hx hZ hown (wdOf hw 75 rfl) (wdOf hw 49 rfl) (wdOf hw 50 rfl) e0 (g := (mkF m 0 #[sR_ ax, sR_ bx] [])) rfl (hb hby d_rm_ob_0) (by decide) (by decide)
  obtain ⟨b_1, g_1⟩ : ∃ z, z = h0.size := ⟨_, rfl⟩
  rw [← g_1] at A_1 D_1 st_1
  have ne_2 : ax ≠ b_1 := Nat.ne_of_lt (Nat.lt_of_lt_of_le Ea.lt (Nat.le_of_eq g_1.symm))
  have ne_3 : bx ≠ b_1 := Nat.ne_of_lt (Nat.lt_of_lt_of_le Eb.lt (Nat.le_of_eq g_1.symm))
  have o_1 : n0 ≤ b_1 := Nat.le_trans Z0 (Nat.le_of_eq g_1.symm)
  have z_1 : h0.size ≤ b_1 := Nat.le_trans K0.1 (Nat.le_of_eq g_1.symm)
  have f_4 : Exa Z h_1 ax "com/example/kilnroute/kilnroute/spark/Resources" := Ea.ext E_1
  have f_5 : Fld Z h_1 ax "com/example/kilnroute/kilnroute/spark/Resources" "driverMemory" "Ljava/lang/String;" x1 := Fa_driverMemory.ext E_1
  have f_6 : Fld Z h_1 ax "com/example/kilnroute/kilnroute/spark/Resources" "driverCores" "Ljava/lang/Integer;" x2 := Fa_driverCores.ext E_1
  have f_7 : Fld Z h_1 ax "com/example/kilnroute/kilnroute/spark/Resources" "executorMemory" "Ljava/lang/String;" x3 := Fa_executorMemory.ext E_1
  have f_8 : Fld Z h_1 ax "com/example/kilnroute/kilnroute/spark/Resources" "executorCores" "Ljava/lang/Integer;" x4 := Fa_executorCores.ext E_1
  have f_9 : Fld Z h_1 ax "com/example/kilnroute/kilnroute/spark/Resources" "numExecutors" "Ljava/lang/Integer;" x5 := Fa_numExecutors.ext E_1
  have f_10 : Exa Z h_1 bx "com/example/kilnroute/kilnroute/spark/Resources" := Eb.ext E_1
  have f_11 : Fld Z h_1 bx "com/example/kilnroute/kilnroute/spark/Resources" "driverMemory" "Ljava/lang/String;" y1 := Fb_driverMemory.ext E_1
  have f_12 : Fld Z h_1 bx "com/example/kilnroute/kilnroute/spark/Resources" "driverCores" "Ljava/lang/Integer;" y2 := Fb_driverCores.ext E_1
  have f_13 : Fld Z h_1 bx "com/example/kilnroute/kilnroute/spark/Resources" "executorMemory" "Ljava/lang/String;" y3 := Fb_executorMemory.ext E_1
  have f_14 : Fld Z h_1 bx "com/example/kilnroute/kilnroute/spark/Resources" "executorCores" "Ljava/lang/Integer;" y4 := Fb_executorCores.ext E_1
  have f_15 : Fld Z h_1 bx "com/example/kilnroute/kilnroute/spark/Resources" "numExecutors" "Ljava/lang/Integer;" y5 := Fb_numExecutors.ext E_1
  have f_16 : RefV Z h_1 x1 "java/lang/String" := X1_.ext E_1
  have f_17 : IntV Z h_1 x2 := X2_.ext E_1
  have f_18 : RefV Z h_1 x3 "java/lang/String" := X3_.ext E_1
  have f_19 : IntV Z h_1 x4 := X4_.ext E_1
  have f_20 : IntV Z h_1 x5 := X5_.ext E_1
  have f_21 : RefV Z h_1 y1 "java/lang/String" := Y1_.ext E_1
  have f_22 : IntV Z h_1 y2 := Y2_.ext E_1
  have f_23 : RefV Z h_1 y3 "java/lang/String" := Y3_.ext E_1
  have f_24 : IntV Z h_1 y4 := Y4_.ext E_1
  have f_25 : IntV Z h_1 y5 := Y5_.ext E_1
  have f_26 : RefV Z h_1 w1 "java/lang/String" := W1_.ext E_1
  have f_27 : IntV Z h_1 w2 := W2_.ext E_1
  have f_28 : RefV Z h_1 w3 "java/lang/String" := W3_.ext E_1
  have f_29 : IntV Z h_1 w4 := W4_.ext E_1
  have f_30 : IntV Z h_1 w5 := W5_.ext E_1
  have f_31 : Fld Z h_1 b_1 "com/example/kilnroute/kilnroute/spark/Resources" "driverMemory" "Ljava/lang/String;" .null := D_1 (Or.inr (wdOf hw 61 rfl)) (ty := (.object "java/lang/String")) (by decide)
  have f_32 : Fld Z h_1 b_1 "com/example/kilnroute/kilnroute/spark/Resources" "driverCores" "Ljava/lang/Integer;" .null := D_1 (Or.inr (wdOf hw 63 rfl)) (ty := (.object "java/lang/Integer")) (by decide)
  have f_33 : Fld Z h_1 b_1 "com/example/kilnroute/kilnroute/spark/Resources" "executorMemory" "Ljava/lang/String;" .null := D_1 (Or.inr (wdOf hw 65 rfl)) (ty := (.object "java/lang/String")) (by decide)
  have f_34 : Fld Z h_1 b_1 "com/example/kilnroute/kilnroute/spark/Resources" "executorCores" "Ljava/lang/Integer;" .null := D_1 (Or.inr (wdOf hw 67 rfl)) (ty := (.object "java/lang/Integer")) (by decide)
  have f_35 : Fld Z h_1 b_1 "com/example/kilnroute/kilnroute/spark/Resources" "numExecutors" "Ljava/lang/Integer;" .null := D_1 (Or.inr (wdOf hw 69 rfl)) (ty := (.object "java/lang/Integer")) (by decide)
  have K_36 : Keep h0 h_1 [] := K0.ext E_1
  have y_36 : n0 ≤ h_1.size := Nat.le_trans Z0 K_36.1
  refine Goes.go (U' := (T_1.setTop (mkF m 3 #[sR_ ax, sR_ bx] [(.ref b_1)]))) st_1 ?_
  refine Goes.go (U' := (T_1.setTop (mkF m 5 #[sR_ ax, sR_ bx] [(.ref bx), (.ref b_1), (.ref b_1)]))) (fun t kt => ?_) ?_
  · skip
    refine XS.dup X_1.here hx rfl (hb hby d_rm_ob_3) rfl rfl ?_
    refine XS.aloadN X_1.here hx rfl (hb hby d_rm_ob_4) rfl rfl ?_
    exact kt
  obtain ⟨T_37, X_37, e_37, st_37⟩ := getF X_1 hx hZ hown (host := "") (Or.inl (wdOf hw 60 rfl)) Via.refl e_1 f_11 (g := (mkF m 5 #[sR_ ax, sR_ bx] [(.ref bx), (.ref b_1), (.ref b_1)])) rfl rfl (hb hby d_rm_ob_5)
  refine Goes.go (U' := (T_37.setTop (mkF m 8 #[sR_ ax, sR_ bx] [y1, (.ref b_1), (.ref b_1)]))) st_37 ?_
  refine Goes.go (U' := (T_37.setTop (mkF m 9 #[sR_ ax, sR_ bx] [(.ref ax), y1, (.ref b_1), (.ref b_1)]))) (fun t kt => ?_) ?_
  · skip
    refine XS.aloadN X_37.here hx rfl (hb hby d_rm_ob_8) rfl rfl ?_
    exact kt
  obtain ⟨T_38, X_38, e_38, st_38⟩ := getF X_37 hx hZ hown (host := "") (Or.inl (wdOf hw 60 rfl)) Via.refl e_37 f_5 (g := (mkF m 9 #[sR_ ax, sR_ bx] [(.ref ax), y1, (.ref b_1), (.ref b_1)])) rfl rfl (hb hby d_rm_ob_9)
  refine Goes.go (U' := (T_38.setTop (mkF m 12 #[sR_ ax, sR_ bx] [x1, y1, (.ref b_1), (.ref b_1)]))) st_38 ?_
  obtain ⟨v_39, T_39, L_39, X_39, q_39, st_39⟩ := callStatic X_38 hx hZ (y := (⟨"com/example/kilnroute/kilnroute/spark/Resources", "either", "(Ljava/lang/Object;Ljava/lang/Object;)Ljava/lang/Object;"⟩ : MethodName)) (W := 2) hown (wdOf hw 76 rfl) (wdOf hw 77 rfl) (wdOf hw 50 rfl) (wdOf hw 78 rfl) (by decide) (rm_ei l Z a0 hw [] y1 x1 w1 Y1_.isRef X1_.isRef h_1 n0 y_36 ha1 hb1) (by decide) (by decide) (by decide) (by decide) e_38 (g := (mkF m 12 #[sR_ ax, sR_ bx] [x1, y1, (.ref b_1), (.ref b_1)])) rfl (by rw [hml]; rfl) (argsL := [y1, x1]) (rest := [(.ref b_1), (.ref b_1)]) (lenOf pd_7 rfl) rfl rfl (Nat.le_refl _) (hb hby d_rm_ob_12)
  obtain ⟨rfl, n_39, K_39⟩ := q_39
  have N_39 := Fr.app N0 n_39
  refine Goes.go (U' := (T_39.setTop (mkF m 15 #[sR_ ax, sR_ bx] [w1, (.ref b_1), (.ref b_1)]))) st_39 ?_
  obtain ⟨T_40, X_40, e_40, st_40⟩ := castV X_39 hx hZ hown (wdOf hw 79 rfl) K_39 f_26.cast (g := (mkF m 15 #[sR_ ax, sR_ bx] [w1, (.ref b_1), (.ref b_1)])) rfl rfl (hb hby d_rm_ob_15)
  refine Goes.go (U' := (T_40.setTop (mkF m 18 #[sR_ ax, sR_ bx] [w1, (.ref b_1), (.ref b_1)]))) st_40 ?_
  refine Goes.go (U' := (T_40.setTop (mkF m 19 #[sR_ ax, sR_ bx] [(.ref bx), w1, (.ref b_1), (.ref b_1)]))) (fun t kt => ?_) ?_
  · skip
    refine XS.aloadN X_40.here hx rfl (hb hby d_rm_ob_18) rfl rfl ?_
    exact kt
  obtain ⟨T_41, X_41, e_41, st_41⟩ := getF X_40 hx hZ hown (host := "") (Or.inl (wdOf hw 62 rfl)) Via.refl e_40 f_12 (g := (mkF m 19 #[sR_ ax, sR_ bx] [(.ref bx), w1, (.ref b_1), (.ref b_1)])) rfl rfl (hb hby d_rm_ob_19)
  refine Goes.go (U' := (T_41.setTop (mkF m 22 #[sR_ ax, sR_ bx] [y2, w1, (.ref b_1), (.ref b_1)]))) st_41 ?_
  refine Goes.go (U' := (T_41.setTop (mkF m 23 #[sR_ ax, sR_ bx] [(.ref ax), y2, w1, (.ref b_1), (.ref b_1)]))) (fun t kt => ?_) ?_
  · skip
    refine XS.aloadN X_41.here hx rfl (hb hby d_rm_ob_22) rfl rfl ?_
    exact kt
  obtain ⟨T_42, X_42, e_42, st_42⟩ := getF X_41 hx hZ hown (host := "") (Or.inl (wdOf hw 62 rfl)) Via.refl e_41 f_6 (g := (mkF m 23 #[sR_ ax, sR_ bx] [(.ref ax), y2, w1, (.ref b_1), (.ref b_1)])) rfl rfl (hb hby d_rm_ob_23)
  refine Goes.go (U' := (T_42.setTop (mkF m 26 #[sR_ ax, sR_ bx] [x2, y2, w1, (.ref b_1), (.ref b_1)]))) st_42 ?_
  obtain ⟨v_43, T_43, L_43, X_43, q_43, st_43⟩ := callStatic X_42 hx hZ (y := (⟨"com/example/kilnroute/kilnroute/spark/Resources", "either", "(Ljava/lang/Object;Ljava/lang/Object;)Ljava/lang/Object;"⟩ : MethodName)) (W := 3) hown (wdOf hw 76 rfl) (wdOf hw 77 rfl) (wdOf hw 50 rfl) (wdOf hw 78 rfl) (by decide) (rm_ei l Z a0 hw [] y2 x2 w2 Y2_.isRef X2_.isRef h_1 n0 y_36 ha2 hb2) (by decide) (by decide) (by decide) (by decide) e_42 (g := (mkF m 26 #[sR_ ax, sR_ bx] [x2, y2, w1, (.ref b_1), (.ref b_1)])) rfl (by rw [hml]; rfl) (argsL := [y2, x2]) (rest := [w1, (.ref b_1), (.ref b_1)]) (lenOf pd_7 rfl) rfl rfl (by simp [catR, catN, catI, catJ, XT.cat1 W1_.isRef]) (hb hby d_rm_ob_26)
  obtain ⟨rfl, n_43, K_43⟩ := q_43
  have N_43 := Fr.app N_39 n_43
  refine Goes.go (U' := (T_43.setTop (mkF m 29 #[sR_ ax, sR_ bx] [w2, w1, (.ref b_1), (.ref b_1)]))) st_43 ?_
  obtain ⟨T_44, X_44, e_44, st_44⟩ := castV X_43 hx hZ hown (wdOf hw 80 rfl) K_43 f_27.ref.cast (g := (mkF m 29 #[sR_ ax, sR_ bx] [w2, w1, (.ref b_1), (.ref b_1)])) rfl rfl (hb hby d_rm_ob_29)
  refine Goes.go (U' := (T_44.setTop (mkF m 32 #[sR_ ax, sR_ bx] [w2, w1, (.ref b_1), (.ref b_1)]))) st_44 ?_
  refine Goes.go (U' := (T_44.setTop (mkF m 33 #[sR_ ax, sR_ bx] [(.ref bx), w2, w1, (.ref b_1), (.ref b_1)]))) (fun t kt => ?_) ?_
  · skip
    refine XS.aloadN X_44.here hx rfl (hb hby d_rm_ob_32) rfl rfl ?_
    exact kt
  obtain ⟨T_45, X_45, e_45, st_45⟩ := getF X_44 hx hZ hown (host := "") (Or.inl (wdOf hw 64 rfl)) Via.refl e_44 f_13 (g := (mkF m 33 #[sR_ ax, sR_ bx] [(.ref bx), w2, w1, (.ref b_1), (.ref b_1)])) rfl rfl (hb hby d_rm_ob_33)
  refine Goes.go (U' := (T_45.setTop (mkF m 36 #[sR_ ax, sR_ bx] [y3, w2, w1, (.ref b_1), (.ref b_1)]))) st_45 ?_
  refine Goes.go (U' := (T_45.setTop (mkF m 37 #[sR_ ax, sR_ bx] [(.ref ax), y3, w2, w1, (.ref b_1), (.ref b_1)]))) (fun t kt => ?_) ?_
  · skip
    refine XS.aloadN X_45.here hx rfl (hb hby d_rm_ob_36) rfl rfl ?_
    exact kt
  obtain ⟨T_46, X_46, e_46, st_46⟩ := getF X_45 hx hZ hown (host := "") (Or.inl (wdOf hw 64 rfl)) Via.refl e_45 f_7 (g := (mkF m 37 #[sR_ ax, sR_ bx] [(.ref ax), y3, w2, w1, (.ref b_1), (.ref b_1)])) rfl rfl (hb hby d_rm_ob_37)
  refine Goes.go (U' := (T_46.setTop (mkF m 40 #[sR_ ax, sR_ bx] [x3, y3, w2, w1, (.ref b_1), (.ref b_1)]))) st_46 ?_
  obtain ⟨v_47, T_47, L_47, X_47, q_47, st_47⟩ := callStatic X_46 hx hZ (y := (⟨"com/example/kilnroute/kilnroute/spark/Resources", "either", "(Ljava/lang/Object;Ljava/lang/Object;)Ljava/lang/Object;"⟩ : MethodName)) (W := 4) hown (wdOf hw 76 rfl) (wdOf hw 77 rfl) (wdOf hw 50 rfl) (wdOf hw 78 rfl) (by decide) (rm_ei l Z a0 hw [] y3 x3 w3 Y3_.isRef X3_.isRef h_1 n0 y_36 ha3 hb3) (by decide) (by decide) (by decide) (by decide) e_46 (g := (mkF m 40 #[sR_ ax, sR_ bx] [x3, y3, w2, w1, (.ref b_1), (.ref b_1)])) rfl (by rw [hml]; rfl) (argsL := [y3, x3]) (rest := [w2, w1, (.ref b_1), (.ref b_1)]) (lenOf pd_7 rfl) rfl rfl (by simp [catR, catN, catI, catJ, XT.cat1 W2_.isRef, XT.cat1 W1_.isRef]) (hb hby d_rm_ob_40)
  obtain ⟨rfl, n_47, K_47⟩ := q_47
  have N_47 := Fr.app N_43 n_47
  refine Goes.go (U' := (T_47.setTop (mkF m 43 #[sR_ ax, sR_ bx] [w3, w2, w1, (.ref b_1), (.ref b_1)]))) st_47 ?_
  obtain ⟨T_48, X_48, e_48, st_48⟩ := castV X_47 hx hZ hown (wdOf hw 79 rfl) K_47 f_28.cast (g := (mkF m 43 #[sR_ ax, sR_ bx] [w3, w2, w1, (.ref b_1), (.ref b_1)])) rfl rfl (hb hby d_rm_ob_43)
  refine Goes.go (U' := (T_48.setTop (mkF m 46 #[sR_ ax, sR_ bx] [w3, w2, w1, (.ref b_1), (.ref b_1)]))) st_48 ?_
  refine Goes.go (U' := (T_48.setTop (mkF m 47 #[sR_ ax, sR_ bx] [(.ref bx), w3, w2, w1, (.ref b_1), (.ref b_1)]))) (fun t kt => ?_) ?_
  · skip
    refine XS.aloadN X_48.here hx rfl (hb hby d_rm_ob_46) rfl rfl ?_
    exact kt
  obtain ⟨T_49, X_49, e_49, st_49⟩ := getF X_48 hx hZ hown (host := "") (Or.inl (wdOf hw 66 rfl)) Via.refl e_48 f_14 (g := (mkF m 47 #[sR_ ax, sR_ bx] [(.ref bx), w3, w2, w1, (.ref b_1), (.ref b_1)])) rfl rfl (hb hby d_rm_ob_47)
  refine Goes.go (U' := (T_49.setTop (mkF m 50 #[sR_ ax, sR_ bx] [y4, w3, w2, w1, (.ref b_1), (.ref b_1)]))) st_49 ?_
  refine Goes.go (U' := (T_49.setTop (mkF m 51 #[sR_ ax, sR_ bx] [(.ref ax), y4, w3, w2, w1, (.ref b_1), (.ref b_1)]))) (fun t kt => ?_) ?_
  · skip
    refine XS.aloadN X_49.here hx rfl (hb hby d_rm_ob_50) rfl rfl ?_
    exact kt
  obtain ⟨T_50, X_50, e_50, st_50⟩ := getF X_49 hx hZ hown (host := "") (Or.inl (wdOf hw 66 rfl)) Via.refl e_49 f_8 (g := (mkF m 51 #[sR_ ax, sR_ bx] [(.ref ax), y4, w3, w2, w1, (.ref b_1), (.ref b_1)])) rfl rfl (hb hby d_rm_ob_51)
  refine Goes.go (U' := (T_50.setTop (mkF m 54 #[sR_ ax, sR_ bx] [x4, y4, w3, w2, w1, (.ref b_1), (.ref b_1)]))) st_50 ?_
  obtain ⟨v_51, T_51, L_51, X_51, q_51, st_51⟩ := callStatic X_50 hx hZ (y := (⟨"com/example/kilnroute/kilnroute/spark/Resources", "either", "(Ljava/lang/Object;Ljava/lang/Object;)Ljava/lang/Object;"⟩ : MethodName)) (W := 5) hown (wdOf hw 76 rfl) (wdOf hw 77 rfl) (wdOf hw 50 rfl) (wdOf hw 78 rfl) (by decide) (rm_ei l Z a0 hw [] y4 x4 w4 Y4_.isRef X4_.isRef h_1 n0 y_36 ha4 hb4) (by decide) (by decide) (by decide) (by decide) e_50 (g := (mkF m 54 #[sR_ ax, sR_ bx] [x4, y4, w3, w2, w1, (.ref b_1), (.ref b_1)])) rfl (by rw [hml]; rfl) (argsL := [y4, x4]) (rest := [w3, w2, w1, (.ref b_1), (.ref b_1)]) (lenOf pd_7 rfl) rfl rfl (by simp [catR, catN, catI, catJ, XT.cat1 W3_.isRef, XT.cat1 W2_.isRef, XT.cat1 W1_.isRef]) (hb hby d_rm_ob_54)
  obtain ⟨rfl, n_51, K_51⟩ := q_51
  have N_51 := Fr.app N_47 n_51
  refine Goes.go (U' := (T_51.setTop (mkF m 57 #[sR_ ax, sR_ bx] [w4, w3, w2, w1, (.ref b_1), (.ref b_1)]))) st_51 ?_
  obtain ⟨T_52, X_52, e_52, st_52⟩ := castV X_51 hx hZ hown (wdOf hw 80 rfl) K_51 f_29.ref.cast (g := (mkF m 57 #[sR_ ax, sR_ bx] [w4, w3, w2, w1, (.ref b_1), (.ref b_1)])) rfl rfl (hb hby d_rm_ob_57)
  refine Goes.go (U' := (T_52.setTop (mkF m 60 #[sR_ ax, sR_ bx] [w4, w3, w2, w1, (.ref b_1), (.ref b_1)]))) st_52 ?_
  refine Goes.go (U' := (T_52.setTop (mkF m 61 #[sR_ ax, sR_ bx] [(.ref bx), w4, w3, w2, w1, (.ref b_1), (.ref b_1)]))) (fun t kt => ?_) ?_
  · skip
    refine XS.aloadN X_52.here hx rfl (hb hby d_rm_ob_60) rfl rfl ?_
    exact kt
  obtain ⟨T_53, X_53, e_53, st_53⟩ := getF X_52 hx hZ hown (host := "") (Or.inl (wdOf hw 68 rfl)) Via.refl e_52 f_15 (g := (mkF m 61 #[sR_ ax, sR_ bx] [(.ref bx), w4, w3, w2, w1, (.ref b_1), (.ref b_1)])) rfl rfl (hb hby d_rm_ob_61)
  refine Goes.go (U' := (T_53.setTop (mkF m 64 #[sR_ ax, sR_ bx] [y5, w4, w3, w2, w1, (.ref b_1), (.ref b_1)]))) st_53 ?_
  refine Goes.go (U' := (T_53.setTop (mkF m 65 #[sR_ ax, sR_ bx] [(.ref ax), y5, w4, w3, w2, w1, (.ref b_1), (.ref b_1)]))) (fun t kt => ?_) ?_
  · skip
    refine XS.aloadN X_53.here hx rfl (hb hby d_rm_ob_64) rfl rfl ?_
    exact kt
  obtain ⟨T_54, X_54, e_54, st_54⟩ := getF X_53 hx hZ hown (host := "") (Or.inl (wdOf hw 68 rfl)) Via.refl e_53 f_9 (g := (mkF m 65 #[sR_ ax, sR_ bx] [(.ref ax), y5, w4, w3, w2, w1, (.ref b_1), (.ref b_1)])) rfl rfl (hb hby d_rm_ob_65)
  refine Goes.go (U' := (T_54.setTop (mkF m 68 #[sR_ ax, sR_ bx] [x5, y5, w4, w3, w2, w1, (.ref b_1), (.ref b_1)]))) st_54 ?_
  obtain ⟨v_55, T_55, L_55, X_55, q_55, st_55⟩ := callStatic X_54 hx hZ (y := (⟨"com/example/kilnroute/kilnroute/spark/Resources", "either", "(Ljava/lang/Object;Ljava/lang/Object;)Ljava/lang/Object;"⟩ : MethodName)) (W := 6) hown (wdOf hw 76 rfl) (wdOf hw 77 rfl) (wdOf hw 50 rfl) (wdOf hw 78 rfl) (by decide) (rm_ei l Z a0 hw [] y5 x5 w5 Y5_.isRef X5_.isRef h_1 n0 y_36 ha5 hb5) (by decide) (by decide) (by decide) (by decide) e_54 (g := (mkF m 68 #[sR_ ax, sR_ bx] [x5, y5, w4, w3, w2, w1, (.ref b_1), (.ref b_1)])) rfl (by rw [hml]; rfl) (argsL := [y5, x5]) (rest := [w4, w3, w2, w1, (.ref b_1), (.ref b_1)]) (lenOf pd_7 rfl) rfl rfl (by simp [catR, catN, catI, catJ, XT.cat1 W4_.isRef, XT.cat1 W3_.isRef, XT.cat1 W2_.isRef, XT.cat1 W1_.isRef]) (hb hby d_rm_ob_68)
  obtain ⟨rfl, n_55, K_55⟩ := q_55
  have N_55 := Fr.app N_51 n_55
  refine Goes.go (U' := (T_55.setTop (mkF m 71 #[sR_ ax, sR_ bx] [w5, w4, w3, w2, w1, (.ref b_1), (.ref b_1)]))) st_55 ?_
  obtain ⟨T_56, X_56, e_56, st_56⟩ := castV X_55 hx hZ hown (wdOf hw 80 rfl) K_55 f_30.ref.cast (g := (mkF m 71 #[sR_ ax, sR_ bx] [w5, w4, w3, w2, w1, (.ref b_1), (.ref b_1)])) rfl rfl (hb hby d_rm_ob_71)
  refine Goes.go (U' := (T_56.setTop (mkF m 74 #[sR_ ax, sR_ bx] [w5, w4, w3, w2, w1, (.ref b_1), (.ref b_1)]))) st_56 ?_
  obtain ⟨v_57, T_57, L_57, X_57, q_57, st_57⟩ := callInit X_56 hx hZ (y := (⟨"com/example/kilnroute/kilnroute/spark/Resources", "<init>", "(Ljava/lang/String;Ljava/lang/Integer;Ljava/lang/String;Ljava/lang/Integer;Ljava/lang/Integer;)V"⟩ : MethodName)) (W := 1) rfl hown (wdOf hw 81 rfl) (wdOf hw 52 rfl) (wdOf hw 50 rfl) (wdOf hw 53 rfl) (by decide) (rm_ri l Z a0 hw [] b_1 w1 w2 w3 w4 w5 W1_.isRef W2_.isRef W3_.isRef W4_.isRef W5_.isRef h_1 n0 y_36 o_1 A_1 f_31 f_32 f_33 f_34 f_35) (by decide) (by decide) (by decide) (by decide) e_56 (b := b_1) (g := (mkF m 74 #[sR_ ax, sR_ bx] [w5, w4, w3, w2, w1, (.ref b_1), (.ref b_1)])) rfl (by rw [hml]; rfl) (argsL := [w1, w2, w3, w4, w5]) (rest := [(.ref b_1)]) (lenOf pd_8 rfl) rfl rfl (Nat.le_refl _) (hb hby d_rm_ob_74)
  obtain ⟨rfl, n_57, K_57, GE__57, GdriverMemory__57, GdriverCores__57, GexecutorMemory__57, GexecutorCores__57, GnumExecutors__57⟩ := q_57
  have N_57 := Fr.app N_55 n_57
  have f_58 : Exa Z T_57.heap ax "com/example/kilnroute/kilnroute/spark/Resources" := f_4.keep K_57
  have f_59 : Fld Z T_57.heap ax "com/example/kilnroute/kilnroute/spark/Resources" "driverMemory" "Ljava/lang/String;" x1 := f_5.keep K_57 (ninS ne_2 nin0)
  have f_60 : Fld Z T_57.heap ax "com/example/kilnroute/kilnroute/spark/Resources" "driverCores" "Ljava/lang/Integer;" x2 := f_6.keep K_57 (ninS ne_2 nin0)
  have f_61 : Fld Z T_57.heap ax "com/example/kilnroute/kilnroute/spark/Resources" "executorMemory" "Ljava/lang/String;" x3 := f_7.keep K_57 (ninS ne_2 nin0)
  have f_62 : Fld Z T_57.heap ax "com/example/kilnroute/kilnroute/spark/Resources" "executorCores" "Ljava/lang/Integer;" x4 := f_8.keep K_57 (ninS ne_2 nin0)
  have f_63 : Fld Z T_57.heap ax "com/example/kilnroute/kilnroute/spark/Resources" "numExecutors" "Ljava/lang/Integer;" x5 := f_9.keep K_57 (ninS ne_2 nin0)
  have f_64 : Exa Z T_57.heap bx "com/example/kilnroute/kilnroute/spark/Resources" := f_10.keep K_57
  have f_65 : Fld Z T_57.heap bx "com/example/kilnroute/kilnroute/spark/Resources" "driverMemory" "Ljava/lang/String;" y1 := f_11.keep K_57 (ninS ne_3 nin0)
  have f_66 : Fld Z T_57.heap bx "com/example/kilnroute/kilnroute/spark/Resources" "driverCores" "Ljava/lang/Integer;" y2 := f_12.keep K_57 (ninS ne_3 nin0)
  have f_67 : Fld Z T_57.heap bx "com/example/kilnroute/kilnroute/spark/Resources" "executorMemory" "Ljava/lang/String;" y3 := f_13.keep K_57 (ninS ne_3 nin0)
  have f_68 : Fld Z T_57.heap bx "com/example/kilnroute/kilnroute/spark/Resources" "executorCores" "Ljava/lang/Integer;" y4 := f_14.keep K_57 (ninS ne_3 nin0)
  have f_69 : Fld Z T_57.heap bx "com/example/kilnroute/kilnroute/spark/Resources" "numExecutors" "Ljava/lang/Integer;" y5 := f_15.keep K_57 (ninS ne_3 nin0)
  have f_70 : RefV Z T_57.heap x1 "java/lang/String" := f_16.keep K_57
  have f_71 : IntV Z T_57.heap x2 := f_17.keepX K_57 A_1 (by decide)
  have f_72 : RefV Z T_57.heap x3 "java/lang/String" := f_18.keep K_57
  have f_73 : IntV Z T_57.heap x4 := f_19.keepX K_57 A_1 (by decide)
  have f_74 : IntV Z T_57.heap x5 := f_20.keepX K_57 A_1 (by decide)
  have f_75 : RefV Z T_57.heap y1 "java/lang/String" := f_21.keep K_57
  have f_76 : IntV Z T_57.heap y2 := f_22.keepX K_57 A_1 (by decide)
  have f_77 : RefV Z T_57.heap y3 "java/lang/String" := f_23.keep K_57
  have f_78 : IntV Z T_57.heap y4 := f_24.keepX K_57 A_1 (by decide)
  have f_79 : IntV Z T_57.heap y5 := f_25.keepX K_57 A_1 (by decide)
  have f_80 : RefV Z T_57.heap w1 "java/lang/String" := f_26.keep K_57
  have f_81 : IntV Z T_57.heap w2 := f_27.keepX K_57 A_1 (by decide)
  have f_82 : RefV Z T_57.heap w3 "java/lang/String" := f_28.keep K_57
  have f_83 : IntV Z T_57.heap w4 := f_29.keepX K_57 A_1 (by decide)
  have f_84 : IntV Z T_57.heap w5 := f_30.keepX K_57 A_1 (by decide)
  have f_85 : Exa Z T_57.heap b_1 "com/example/kilnroute/kilnroute/spark/Resources" := A_1.keep K_57
  have K_91 : Keep h0 T_57.heap [] := K_36.trans K_57 (allS (P := fun x => x ∈ [] ∨ h0.size ≤ x) (Or.inr z_1) all0)
  have y_91 : n0 ≤ T_57.heap.size := Nat.le_trans Z0 K_91.1
  refine Goes.go (U' := (T_57.setTop (mkF m 77 #[sR_ ax, sR_ bx] [(.ref b_1)]))) st_57 ?_
  refine Goes.retA X_57 hx hlk hret rfl rfl (hb hby d_rm_ob_77) (by decide) (by decide) ?_
  try rw [(rfl : T_57.heap = T_57.heap)]
  exact ⟨_, rfl, N_57, Ext.of_keep K_91, f_85, GdriverMemory__57, GdriverCores__57, GexecutorMemory__57, GexecutorCores__57, GnumExecutors__57⟩
set_option maxRecDepth 65536 in
set_option maxHeartbeats 40000000 in
theorem law_354 (l : Launch) (Z : State) (a0 : Array Value) (hw : ∀ d ∈ tables_1, d.before a0 Z = true) (fl : Int32) (pp pq : Int64) (pr ps ph : Int32) (cs : Int32) (x1 x2 x3 x4 x5 y1 y2 y3 y4 y5 : Value) (ax bx cx : Addr) (w1 w2 w3 w4 w5 : Value) (h0 : Heap) (n0 : Nat) (Z0 : n0 ≤ h0.size) (p : Program) (e : Env) (s : State) (m : MethodId) (below : List Frame) (meth : Method) (c : Code) (hx : p.tables.exec = Jvm.exec) (hby : c.code = code) (hml : c.maxLocals = maxLocals) (hown : s.vm.findClass "com/example/kilnroute/kilnroute/spark/ResourcesOverriddenByPinLaw" = some m.cls) (hnm : meth.name = "law") (hret : meth.sig.returnType = ret) (hlk : meth.locks = false) (hZ : Z.Warmed39 s.vm) (h : Heap) (T : State) (locs : List Loc) (X : Stand p l e room_1 s m #[(.int fl), (.long pp), (.long pq), (.int pr), (.int ps), (.int ph)] below meth c T locs 17 41) (eT : T.heap = h) (N : Fr n0 locs) (K0 : Keep h0 h []) (O : Old Z n0 h) (BC : BoxC Z "java/lang/Integer$IntegerCache" "[Ljava/lang/Integer;" "java/lang/Integer" "I" (fun i => .int (i.toInt32 - 128))) (SH : Sta Z Z.heap "java/lang/Integer$IntegerCache" "high" "I" (.int (127 : Int32))) (SC : Sta Z Z.heap "java/lang/String" "COMPACT_STRINGS" "Z" (.int cs)) (hcs : ¬ cs = 0) (Ux1 : RefV Z h x1 "java/lang/String") (Ux2 : IntV Z h x2) (Ux3 : RefV Z h x3 "java/lang/String") (Ux4 : IntV Z h x4) (Ux5 : IntV Z h x5) (Uy1 : RefV Z h y1 "java/lang/String") (Uy2 : IntV Z h y2) (Uy3 : RefV Z h y3 "java/lang/String") (Uy4 : IntV Z h y4) (Uy5 : IntV Z h y5) (Ec : Exa Z h cx "com/example/kilnroute/kilnroute/spark/Resources") (Fc_driverMemory : Fld Z h cx "com/example/kilnroute/kilnroute/spark/Resources" "driverMemory" "Ljava/lang/String;" w1) (Fc_driverCores : Fld Z h cx "com/example/kilnroute/kilnroute/spark/Resources" "driverCores" "Ljava/lang/Integer;" w2) (Fc_executorMemory : Fld Z h cx "com/example/kilnroute/kilnroute/spark/Resources" "executorMemory" "Ljava/lang/String;" w3) (Fc_executorCores : Fld Z h cx "com/example/kilnroute/kilnroute/spark/Resources" "executorCores" "Ljava/lang/Integer;" w4) (Fc_numExecutors : Fld Z h cx "com/example/kilnroute/kilnroute/spark/Resources" "numExecutors" "Ljava/lang/Integer;" w5) (Q1 : w1.isRef = true) (ha1 : y1 = .null → w1 = x1) (hb1 : ¬ y1 = .null → w1 = y1) (Q2 : w2.isRef = true) (ha2 : y2 = .null → w2 = x2) (hb2 : ¬ y2 = .null → w2 = y2) (Q3 : w3.isRef = true) (ha3 : y3 = .null → w3 = x3) (hb3 : ¬ y3 = .null → w3 = y3) (Q4 : w4.isRef = true) (ha4 : y4 = .null → w4 = x4) (hb4 : ¬ y4 = .null → w4 = y4) (Q5 : w5.isRef = true) (ha5 : y5 = .null → w5 = x5) (hb5 : ¬ y5 = .null → w5 = y5) :
    Goes p e s below (fun v h L => v = some (.int 1) ∧ Fr n0 L) room_1.cells room_1.slots (T.setTop (mkF m 354 #[sI_ fl, sJ_ pp, sS_, sJ_ pq, sS_, sI_ pr, sI_ ps, sI_ ph, .val x1, .val x2, .val x3, .val x4, .val x5, .val y1, .val y2, .val y3, .val y4, .val y5, sR_ ax, sR_ bx, sR_ cx] [])) := by
  have sz0 : n0 ≤ h.size := Nat.le_trans Z0 K0.1
  refine Goes.go (U' := (T.setTop (mkF m 356 #[sI_ fl, sJ_ pp, sS_, sJ_ pq, sS_, sI_ pr, sI_ ps, sI_ ph, .val x1, .val x2, .val x3, .val x4, .val x5, .val y1, .val y2, .val y3, .val y4, .val y5, sR_ ax, sR_ bx, sR_ cx] [(.ref cx)]))) (fun t kt => ?_) ?_
  · skip
    refine XS.aload X.here hx rfl (hb hby at_354) rfl rfl ?_
    exact kt
  obtain ⟨v_1, T_1, L_1, X_1, q_1, st_1⟩ := callVirtual X hx hZ (y := (⟨"com/example/kilnroute/kilnroute/spark/Resources", "numExecutors", "()Ljava/lang/Integer;"⟩ : MethodName)) (z := (⟨"com/example/kilnroute/kilnroute/spark/Resources", "numExecutors", "()Ljava/lang/Integer;"⟩ : MethodName)) (W := 0) hown (wdOf hw 119 rfl) (wdOf hw 120 rfl) (notFace_of_selects (args := #[]) (mvT hZ (wdOf hw 122 rfl))) (wdOf hw 122 rfl) (wdOf hw 121 rfl) (wdOf hw 50 rfl) (wdOf hw 123 rfl) (by decide) (rm_g_numExecutors l Z a0 hw [] cx w5 Q5 h n0 sz0 Fc_numExecutors) (by decide) (by decide) (by decide) (by decide) eT Ec (g := (mkF m 356 #[sI_ fl, sJ_ pp, sS_, sJ_ pq, sS_, sI_ pr, sI_ ps, sI_ ph, .val x1, .val x2, .val x3, .val x4, .val x5, .val y1, .val y2, .val y3, .val y4, .val y5, sR_ ax, sR_ bx, sR_ cx] [(.ref cx)])) rfl (by rw [hml]; rfl) (argsL := []) (rest := []) (lenOf pd_9 rfl) rfl rfl (Nat.le_refl _) (hb hby at_356)
  obtain ⟨rfl, n_1, K_1⟩ := q_1
  have N_1 := Fr.app N n_1
  refine Goes.go (U' := (T_1.setTop (mkF m 359 #[sI_ fl, sJ_ pp, sS_, sJ_ pq, sS_, sI_ pr, sI_ ps, sI_ ph, .val x1, .val x2, .val x3, .val x4, .val x5, .val y1, .val y2, .val y3, .val y4, .val y5, sR_ ax, sR_ bx, sR_ cx] [w5]))) st_1 ?_
  refine Goes.go (U' := (T_1.setTop (mkF m 361 #[sI_ fl, sJ_ pp, sS_, sJ_ pq, sS_, sI_ pr, sI_ ps, sI_ ph, .val x1, .val x2, .val x3, .val x4, .val x5, .val y1, .val y2, .val y3, .val y4, .val y5, sR_ ax, sR_ bx, sR_ cx] [y5, w5]))) (fun t kt => ?_) ?_
  · skip
    refine XS.aload X_1.here hx rfl (hb hby at_359) rfl Uy5.isRef ?_
    exact kt
  by_cases cc : y5 = Value.null
  · -- y5 = Value.null
    refine Goes.go (U' := (T_1.setTop (mkF m 371 #[sI_ fl, sJ_ pp, sS_, sJ_ pq, sS_, sI_ pr, sI_ ps, sI_ ph, .val x1, .val x2, .val x3, .val x4, .val x5, .val y1, .val y2, .val y3, .val y4, .val y5, sR_ ax, sR_ bx, sR_ cx] [x5, w5]))) (fun t kt => ?_) ?_
    · skip
      refine XT.nullYes X_1.here hx rfl (pc0 := 361) (pc' := 369) rfl (hb hby at_361) rfl  cc (by decide) (by decide) ?_
      refine XS.aload X_1.here hx rfl (hb hby at_369) rfl Ux5.isRef ?_
      exact kt
    obtain ⟨v_2, T_2, L_2, X_2, q_2, st_2⟩ := callStatic X_1 hx hZ (y := (⟨"com/example/kilnroute/kilnroute/spark/ResourcesOverriddenByPinLaw", "sameInt", "(Ljava/lang/Integer;Ljava/lang/Integer;)Z"⟩ : MethodName)) (W := 0) hown (wdOf hw 101 rfl) (wdOf hw 102 rfl) (wdOf hw 89 rfl) (wdOf hw 103 rfl) (by decide) (rm_si l Z a0 hw [] w5 x5 h n0 sz0 (ha5 cc) Ux5) (by decide) (by decide) (by decide) (by decide) K_1 (g := (mkF m 371 #[sI_ fl, sJ_ pp, sS_, sJ_ pq, sS_, sI_ pr, sI_ ps, sI_ ph, .val x1, .val x2, .val x3, .val x4, .val x5, .val y1, .val y2, .val y3, .val y4, .val y5, sR_ ax, sR_ bx, sR_ cx] [x5, w5])) rfl (by rw [hml]; rfl) (argsL := [w5, x5]) (rest := []) (lenOf pd_10 rfl) rfl rfl (Nat.le_refl _) (hb hby at_371)
    obtain ⟨rfl, n_2, K_2⟩ := q_2
    have N_2 := Fr.app N_1 n_2
    refine Goes.go (U' := (T_2.setTop (mkF m 374 #[sI_ fl, sJ_ pp, sS_, sJ_ pq, sS_, sI_ pr, sI_ ps, sI_ ph, .val x1, .val x2, .val x3, .val x4, .val x5, .val y1, .val y2, .val y3, .val y4, .val y5, sR_ ax, sR_ bx, sR_ cx] [(.int (1 : Int32))]))) st_2 ?_
    refine Goes.go (U' := (T_2.setTop (mkF m 382 #[sI_ fl, sJ_ pp, sS_, sJ_ pq, sS_, sI_ pr, sI_ ps, sI_ ph, .val x1, .val x2, .val x3, .val x4, .val x5, .val y1, .val y2, .val y3, .val y4, .val y5, sR_ ax, sR_ bx, sR_ cx] [(.int (1 : Int32))]))) (fun t kt => ?_) ?_
    · skip
      refine XS.ifNo X_2.here hx rfl (hb hby at_374) rfl (XT.i0_eq_f (by decide)) ?_
      refine XS.iconst X_2.here hx rfl (hb hby at_377) ?_
      refine XS.goto X_2.here hx rfl (pc0 := 378) (pc' := 382) rfl (hb hby at_378) (by decide) (by decide) ?_
      exact kt
    refine Goes.retB X_2 hx hlk hret (hb hby at_382) (by decide) (by decide) ?_
    try rw [K_2]
    exact ⟨rfl, N_2⟩
  · -- not y5 = Value.null
    refine Goes.go (U' := (T_1.setTop (mkF m 371 #[sI_ fl, sJ_ pp, sS_, sJ_ pq, sS_, sI_ pr, sI_ ps, sI_ ph, .val x1, .val x2, .val x3, .val x4, .val x5, .val y1, .val y2, .val y3, .val y4, .val y5, sR_ ax, sR_ bx, sR_ cx] [y5, w5]))) (fun t kt => ?_) ?_
    · skip
      refine XT.nullNo X_1.here hx rfl (hb hby at_361) rfl Uy5.isRef  cc ?_
      refine XS.aload X_1.here hx rfl (hb hby at_364) rfl Uy5.isRef ?_
      refine XS.goto X_1.here hx rfl (pc0 := 366) (pc' := 371) rfl (hb hby at_366) (by decide) (by decide) ?_
      exact kt
    obtain ⟨v_3, T_3, L_3, X_3, q_3, st_3⟩ := callStatic X_1 hx hZ (y := (⟨"com/example/kilnroute/kilnroute/spark/ResourcesOverriddenByPinLaw", "sameInt", "(Ljava/lang/Integer;Ljava/lang/Integer;)Z"⟩ : MethodName)) (W := 0) hown (wdOf hw 101 rfl) (wdOf hw 102 rfl) (wdOf hw 89 rfl) (wdOf hw 103 rfl) (by decide) (rm_si l Z a0 hw [] w5 y5 h n0 sz0 (hb5 cc) Uy5) (by decide) (by decide) (by decide) (by decide) K_1 (g := (mkF m 371 #[sI_ fl, sJ_ pp, sS_, sJ_ pq, sS_, sI_ pr, sI_ ps, sI_ ph, .val x1, .val x2, .val x3, .val x4, .val x5, .val y1, .val y2, .val y3, .val y4, .val y5, sR_ ax, sR_ bx, sR_ cx] [y5, w5])) rfl (by rw [hml]; rfl) (argsL := [w5, y5]) (rest := []) (lenOf pd_10 rfl) rfl rfl (Nat.le_refl _) (hb hby at_371)
    obtain ⟨rfl, n_3, K_3⟩ := q_3
    have N_3 := Fr.app N_1 n_3
    refine Goes.go (U' := (T_3.setTop (mkF m 374 #[sI_ fl, sJ_ pp, sS_, sJ_ pq, sS_, sI_ pr, sI_ ps, sI_ ph, .val x1, .val x2, .val x3, .val x4, .val x5, .val y1, .val y2, .val y3, .val y4, .val y5, sR_ ax, sR_ bx, sR_ cx] [(.int (1 : Int32))]))) st_3 ?_
    refine Goes.go (U' := (T_3.setTop (mkF m 382 #[sI_ fl, sJ_ pp, sS_, sJ_ pq, sS_, sI_ pr, sI_ ps, sI_ ph, .val x1, .val x2, .val x3, .val x4, .val x5, .val y1, .val y2, .val y3, .val y4, .val y5, sR_ ax, sR_ bx, sR_ cx] [(.int (1 : Int32))]))) (fun t kt => ?_) ?_
    · skip
      refine XS.ifNo X_3.here hx rfl (hb hby at_374) rfl (XT.i0_eq_f (by decide)) ?_
      refine XS.iconst X_3.here hx rfl (hb hby at_377) ?_
      refine XS.goto X_3.here hx rfl (pc0 := 378) (pc' := 382) rfl (hb hby at_378) (by decide) (by decide) ?_
      exact kt
    refine Goes.retB X_3 hx hlk hret (hb hby at_382) (by decide) (by decide) ?_
    try rw [K_3]
    exact ⟨rfl, N_3⟩
set_option maxRecDepth 65536 in
set_option maxHeartbeats 40000000 in
theorem law_331 (l : Launch) (Z : State) (a0 : Array Value) (hw : ∀ d ∈ tables_1, d.before a0 Z = true) (fl : Int32) (pp pq : Int64) (pr ps ph : Int32) (cs : Int32) (x1 x2 x3 x4 x5 y1 y2 y3 y4 y5 : Value) (ax bx cx : Addr) (w1 w2 w3 w4 w5 : Value) (h0 : Heap) (n0 : Nat) (Z0 : n0 ≤ h0.size) (p : Program) (e : Env) (s : State) (m : MethodId) (below : List Frame) (meth : Method) (c : Code) (hx : p.tables.exec = Jvm.exec) (hby : c.code = code) (hml : c.maxLocals = maxLocals) (hown : s.vm.findClass "com/example/kilnroute/kilnroute/spark/ResourcesOverriddenByPinLaw" = some m.cls) (hnm : meth.name = "law") (hret : meth.sig.returnType = ret) (hlk : meth.locks = false) (hZ : Z.Warmed39 s.vm) (h : Heap) (T : State) (locs : List Loc) (X : Stand p l e room_1 s m #[(.int fl), (.long pp), (.long pq), (.int pr), (.int ps), (.int ph)] below meth c T locs 17 41) (eT : T.heap = h) (N : Fr n0 locs) (K0 : Keep h0 h []) (O : Old Z n0 h) (BC : BoxC Z "java/lang/Integer$IntegerCache" "[Ljava/lang/Integer;" "java/lang/Integer" "I" (fun i => .int (i.toInt32 - 128))) (SH : Sta Z Z.heap "java/lang/Integer$IntegerCache" "high" "I" (.int (127 : Int32))) (SC : Sta Z Z.heap "java/lang/String" "COMPACT_STRINGS" "Z" (.int cs)) (hcs : ¬ cs = 0) (Ux1 : RefV Z h x1 "java/lang/String") (Ux2 : IntV Z h x2) (Ux3 : RefV Z h x3 "java/lang/String") (Ux4 : IntV Z h x4) (Ux5 : IntV Z h x5) (Uy1 : RefV Z h y1 "java/lang/String") (Uy2 : IntV Z h y2) (Uy3 : RefV Z h y3 "java/lang/String") (Uy4 : IntV Z h y4) (Uy5 : IntV Z h y5) (Ec : Exa Z h cx "com/example/kilnroute/kilnroute/spark/Resources") (Fc_driverMemory : Fld Z h cx "com/example/kilnroute/kilnroute/spark/Resources" "driverMemory" "Ljava/lang/String;" w1) (Fc_driverCores : Fld Z h cx "com/example/kilnroute/kilnroute/spark/Resources" "driverCores" "Ljava/lang/Integer;" w2) (Fc_executorMemory : Fld Z h cx "com/example/kilnroute/kilnroute/spark/Resources" "executorMemory" "Ljava/lang/String;" w3) (Fc_executorCores : Fld Z h cx "com/example/kilnroute/kilnroute/spark/Resources" "executorCores" "Ljava/lang/Integer;" w4) (Fc_numExecutors : Fld Z h cx "com/example/kilnroute/kilnroute/spark/Resources" "numExecutors" "Ljava/lang/Integer;" w5) (Q1 : w1.isRef = true) (ha1 : y1 = .null → w1 = x1) (hb1 : ¬ y1 = .null → w1 = y1) (Q2 : w2.isRef = true) (ha2 : y2 = .null → w2 = x2) (hb2 : ¬ y2 = .null → w2 = y2) (Q3 : w3.isRef = true) (ha3 : y3 = .null → w3 = x3) (hb3 : ¬ y3 = .null → w3 = y3) (Q4 : w4.isRef = true) (ha4 : y4 = .null → w4 = x4) (hb4 : ¬ y4 = .null → w4 = y4) (Q5 : w5.isRef = true) (ha5 : y5 = .null → w5 = x5) (hb5 : ¬ y5 = .null → w5 = y5) :
    Goes p e s below (fun v h L => v = some (.int 1) ∧ Fr n0 L) room_1.cells room_1.slots (T.setTop (mkF m 331 #[sI_ fl, sJ_ pp, sS_, sJ_ pq, sS_, sI_ pr, sI_ ps, sI_ ph, .val x1, .val x2, .val x3, .val x4, .val x5, .val y1, .val y2, .val y3, .val y4, .val y5, sR_ ax, sR_ bx, sR_ cx] [])) := by
  have sz0 : n0 ≤ h.size := Nat.le_trans Z0 K0.1
  refine Goes.go (U' := (T.setTop (mkF m 333 #[sI_ fl, sJ_ pp, sS_, sJ_ pq, sS_, sI_ pr, sI_ ps, sI_ ph, .val x1, .val x2, .val x3, .val x4, .val x5, .val y1, .val y2, .val y3, .val y4, .val y5, sR_ ax, sR_ bx, sR_ cx] [(.ref cx)]))) (fun t kt => ?_) ?_
  · skip
    refine XS.aload X.here hx rfl (hb hby at_331) rfl rfl ?_
    exact kt
  obtain ⟨v_1, T_1, L_1, X_1, q_1, st_1⟩ := callVirtual X hx hZ (y := (⟨"com/example/kilnroute/kilnroute/spark/Resources", "executorCores", "()Ljava/lang/Integer;"⟩ : MethodName)) (z := (⟨"com/example/kilnroute/kilnroute/spark/Resources", "executorCores", "()Ljava/lang/Integer;"⟩ : MethodName)) (W := 0) hown (wdOf hw 114 rfl) (wdOf hw 115 rfl) (notFace_of_selects (args := #[]) (mvT hZ (wdOf hw 117 rfl))) (wdOf hw 117 rfl) (wdOf hw 116 rfl) (wdOf hw 50 rfl) (wdOf hw 118 rfl) (by decide) (rm_g_executorCores l Z a0 hw [] cx w4 Q4 h n0 sz0 Fc_executorCores) (by decide) (by decide) (by decide) (by decide) eT Ec (g := (mkF m 333 #[sI_ fl, sJ_ pp, sS_, sJ_ pq, sS_, sI_ pr, sI_ ps, sI_ ph, .val x1, .val x2, .val x3, .val x4, .val x5, .val y1, .val y2, .val y3, .val y4, .val y5, sR_ ax, sR_ bx, sR_ cx] [(.ref cx)])) rfl (by rw [hml]; rfl) (argsL := []) (rest := []) (lenOf pd_9 rfl) rfl rfl (Nat.le_refl _) (hb hby at_333)
  obtain ⟨rfl, n_1, K_1⟩ := q_1
  have N_1 := Fr.app N n_1
  refine Goes.go (U' := (T_1.setTop (mkF m 336 #[sI_ fl, sJ_ pp, sS_, sJ_ pq, sS_, sI_ pr, sI_ ps, sI_ ph, .val x1, .val x2, .val x3, .val x4, .val x5, .val y1, .val y2, .val y3, .val y4, .val y5, sR_ ax, sR_ bx, sR_ cx] [w4]))) st_1 ?_
  refine Goes.go (U' := (T_1.setTop (mkF m 338 #[sI_ fl, sJ_ pp, sS_, sJ_ pq, sS_, sI_ pr, sI_ ps, sI_ ph, .val x1, .val x2, .val x3, .val x4, .val x5, .val y1, .val y2, .val y3, .val y4, .val y5, sR_ ax, sR_ bx, sR_ cx] [y4, w4]))) (fun t kt => ?_) ?_
  · skip
    refine XS.aload X_1.here hx rfl (hb hby at_336) rfl Uy4.isRef ?_
    exact kt
  by_cases cc : y4 = Value.null
  · -- y4 = Value.null
    refine Goes.go (U' := (T_1.setTop (mkF m 348 #[sI_ fl, sJ_ pp, sS_, sJ_ pq, sS_, sI_ pr, sI_ ps, sI_ ph, .val x1, .val x2, .val x3, .val x4, .val x5, .val y1, .val y2, .val y3, .val y4, .val y5, sR_ ax, sR_ bx, sR_ cx] [x4, w4]))) (fun t kt => ?_) ?_
    · skip
      refine XT.nullYes X_1.here hx rfl (pc0 := 338) (pc' := 346) rfl (hb hby at_338) rfl  cc (by decide) (by decide) ?_
      refine XS.aload X_1.here hx rfl (hb hby at_346) rfl Ux4.isRef ?_
      exact kt
    obtain ⟨v_2, T_2, L_2, X_2, q_2, st_2⟩ := callStatic X_1 hx hZ (y := (⟨"com/example/kilnroute/kilnroute/spark/ResourcesOverriddenByPinLaw", "sameInt", "(Ljava/lang/Integer;Ljava/lang/Integer;)Z"⟩ : MethodName)) (W := 0) hown (wdOf hw 101 rfl) (wdOf hw 102 rfl) (wdOf hw 89 rfl) (wdOf hw 103 rfl) (by decide) (rm_si l Z a0 hw [] w4 x4 h n0 sz0 (ha4 cc) Ux4) (by decide) (by decide) (by decide) (by decide) K_1 (g := (mkF m 348 #[sI_ fl, sJ_ pp, sS_, sJ_ pq, sS_, sI_ pr, sI_ ps, sI_ ph, .val x1, .val x2, .val x3, .val x4, .val x5, .val y1, .val y2, .val y3, .val y4, .val y5, sR_ ax, sR_ bx, sR_ cx] [x4, w4])) rfl (by rw [hml]; rfl) (argsL := [w4, x4]) (rest := []) (lenOf pd_10 rfl) rfl rfl (Nat.le_refl _) (hb hby at_348)
    obtain ⟨rfl, n_2, K_2⟩ := q_2
    have N_2 := Fr.app N_1 n_2
    refine Goes.go (U' := (T_2.setTop (mkF m 351 #[sI_ fl, sJ_ pp, sS_, sJ_ pq, sS_, sI_ pr, sI_ ps, sI_ ph, .val x1, .val x2, .val x3, .val x4, .val x5, .val y1, .val y2, .val y3, .val y4, .val y5, sR_ ax, sR_ bx, sR_ cx] [(.int (1 : Int32))]))) st_2 ?_
    refine Goes.go (U' := (T_2.setTop (mkF m 354 #[sI_ fl, sJ_ pp, sS_, sJ_ pq, sS_, sI_ pr, sI_ ps, sI_ ph, .val x1, .val x2, .val x3, .val x4, .val x5, .val y1, .val y2, .val y3, .val y4, .val y5, sR_ ax, sR_ bx, sR_ cx] []))) (fun t kt => ?_) ?_
    · skip
      refine XS.ifNo X_2.here hx rfl (hb hby at_351) rfl (XT.i0_eq_f (by decide)) ?_
      exact kt
    exact law_354 l Z a0 hw fl pp pq pr ps ph cs x1 x2 x3 x4 x5 y1 y2 y3 y4 y5 ax bx cx w1 w2 w3 w4 w5 h0 n0 Z0 p e s m below meth c hx hby hml hown hnm hret hlk hZ _ _ _ X_2 K_2 N_2 K0 O BC SH SC hcs Ux1 Ux2 Ux3 Ux4 Ux5 Uy1 Uy2 Uy3 Uy4 Uy5 Ec Fc_driverMemory Fc_driverCores Fc_executorMemory Fc_executorCores Fc_numExecutors Q1 ha1 hb1 Q2 ha2 hb2 Q3 ha3 hb3 Q4 ha4 hb4 Q5 ha5 hb5
  · -- not y4 = Value.null
    refine Goes.go (U' := (T_1.setTop (mkF m 348 #[sI_ fl, sJ_ pp, sS_, sJ_ pq, sS_, sI_ pr, sI_ ps, sI_ ph, .val x1, .val x2, .val x3, .val x4, .val x5, .val y1, .val y2, .val y3, .val y4, .val y5, sR_ ax, sR_ bx, sR_ cx] [y4, w4]))) (fun t kt => ?_) ?_
    · skip
      refine XT.nullNo X_1.here hx rfl (hb hby at_338) rfl Uy4.isRef  cc ?_
      refine XS.aload X_1.here hx rfl (hb hby at_341) rfl Uy4.isRef ?_
      refine XS.goto X_1.here hx rfl (pc0 := 343) (pc' := 348) rfl (hb hby at_343) (by decide) (by decide) ?_
      exact kt
    obtain ⟨v_3, T_3, L_3, X_3, q_3, st_3⟩ := callStatic X_1 hx hZ (y := (⟨"com/example/kilnroute/kilnroute/spark/ResourcesOverriddenByPinLaw", "sameInt", "(Ljava/lang/Integer;Ljava/lang/Integer;)Z"⟩ : MethodName)) (W := 0) hown (wdOf hw 101 rfl) (wdOf hw 102 rfl) (wdOf hw 89 rfl) (wdOf hw 103 rfl) (by decide) (rm_si l Z a0 hw [] w4 y4 h n0 sz0 (hb4 cc) Uy4) (by decide) (by decide) (by decide) (by decide) K_1 (g := (mkF m 348 #[sI_ fl, sJ_ pp, sS_, sJ_ pq, sS_, sI_ pr, sI_ ps, sI_ ph, .val x1, .val x2, .val x3, .val x4, .val x5, .val y1, .val y2, .val y3, .val y4, .val y5, sR_ ax, sR_ bx, sR_ cx] [y4, w4])) rfl (by rw [hml]; rfl) (argsL := [w4, y4]) (rest := []) (lenOf pd_10 rfl) rfl rfl (Nat.le_refl _) (hb hby at_348)
    obtain ⟨rfl, n_3, K_3⟩ := q_3
    have N_3 := Fr.app N_1 n_3
    refine Goes.go (U' := (T_3.setTop (mkF m 351 #[sI_ fl, sJ_ pp, sS_, sJ_ pq, sS_, sI_ pr, sI_ ps, sI_ ph, .val x1, .val x2, .val x3, .val x4, .val x5, .val y1, .val y2, .val y3, .val y4, .val y5, sR_ ax, sR_ bx, sR_ cx] [(.int (1 : Int32))]))) st_3 ?_
    refine Goes.go (U' := (T_3.setTop (mkF m 354 #[sI_ fl, sJ_ pp, sS_, sJ_ pq, sS_, sI_ pr, sI_ ps, sI_ ph, .val x1, .val x2, .val x3, .val x4, .val x5, .val y1, .val y2, .val y3, .val y4, .val y5, sR_ ax, sR_ bx, sR_ cx] []))) (fun t kt => ?_) ?_
    · skip
      refine XS.ifNo X_3.here hx rfl (hb hby at_351) rfl (XT.i0_eq_f (by decide)) ?_
      exact kt
    exact law_354 l Z a0 hw fl pp pq pr ps ph cs x1 x2 x3 x4 x5 y1 y2 y3 y4 y5 ax bx cx w1 w2 w3 w4 w5 h0 n0 Z0 p e s m below meth c hx hby hml hown hnm hret hlk hZ _ _ _ X_3 K_3 N_3 K0 O BC SH SC hcs Ux1 Ux2 Ux3 Ux4 Ux5 Uy1 Uy2 Uy3 Uy4 Uy5 Ec Fc_driverMemory Fc_driverCores Fc_executorMemory Fc_executorCores Fc_numExecutors Q1 ha1 hb1 Q2 ha2 hb2 Q3 ha3 hb3 Q4 ha4 hb4 Q5 ha5 hb5
set_option maxRecDepth 65536 in
set_option maxHeartbeats 40000000 in
theorem law_308 (l : Launch) (Z : State) (a0 : Array Value) (hw : ∀ d ∈ tables_1, d.before a0 Z = true) (fl : Int32) (pp pq : Int64) (pr ps ph : Int32) (cs : Int32) (x1 x2 x3 x4 x5 y1 y2 y3 y4 y5 : Value) (ax bx cx : Addr) (w1 w2 w3 w4 w5 : Value) (h0 : Heap) (n0 : Nat) (Z0 : n0 ≤ h0.size) (p : Program) (e : Env) (s : State) (m : MethodId) (below : List Frame) (meth : Method) (c : Code) (hx : p.tables.exec = Jvm.exec) (hby : c.code = code) (hml : c.maxLocals = maxLocals) (hown : s.vm.findClass "com/example/kilnroute/kilnroute/spark/ResourcesOverriddenByPinLaw" = some m.cls) (hnm : meth.name = "law") (hret : meth.sig.returnType = ret) (hlk : meth.locks = false) (hZ : Z.Warmed39 s.vm) (h : Heap) (T : State) (locs : List Loc) (X : Stand p l e room_1 s m #[(.int fl), (.long pp), (.long pq), (.int pr), (.int ps), (.int ph)] below meth c T locs 17 41) (eT : T.heap = h) (N : Fr n0 locs) (K0 : Keep h0 h []) (O : Old Z n0 h) (BC : BoxC Z "java/lang/Integer$IntegerCache" "[Ljava/lang/Integer;" "java/lang/Integer" "I" (fun i => .int (i.toInt32 - 128))) (SH : Sta Z Z.heap "java/lang/Integer$IntegerCache" "high" "I" (.int (127 : Int32))) (SC : Sta Z Z.heap "java/lang/String" "COMPACT_STRINGS" "Z" (.int cs)) (hcs : ¬ cs = 0) (Ux1 : RefV Z h x1 "java/lang/String") (Ux2 : IntV Z h x2) (Ux3 : RefV Z h x3 "java/lang/String") (Ux4 : IntV Z h x4) (Ux5 : IntV Z h x5) (Uy1 : RefV Z h y1 "java/lang/String") (Uy2 : IntV Z h y2) (Uy3 : RefV Z h y3 "java/lang/String") (Uy4 : IntV Z h y4) (Uy5 : IntV Z h y5) (Ec : Exa Z h cx "com/example/kilnroute/kilnroute/spark/Resources") (Fc_driverMemory : Fld Z h cx "com/example/kilnroute/kilnroute/spark/Resources" "driverMemory" "Ljava/lang/String;" w1) (Fc_driverCores : Fld Z h cx "com/example/kilnroute/kilnroute/spark/Resources" "driverCores" "Ljava/lang/Integer;" w2) (Fc_executorMemory : Fld Z h cx "com/example/kilnroute/kilnroute/spark/Resources" "executorMemory" "Ljava/lang/String;" w3) (Fc_executorCores : Fld Z h cx "com/example/kilnroute/kilnroute/spark/Resources" "executorCores" "Ljava/lang/Integer;" w4) (Fc_numExecutors : Fld Z h cx "com/example/kilnroute/kilnroute/spark/Resources" "numExecutors" "Ljava/lang/Integer;" w5) (Q1 : w1.isRef = true) (ha1 : y1 = .null → w1 = x1) (hb1 : ¬ y1 = .null → w1 = y1) (Q2 : w2.isRef = true) (ha2 : y2 = .null → w2 = x2) (hb2 : ¬ y2 = .null → w2 = y2) (Q3 : w3.isRef = true) (ha3 : y3 = .null → w3 = x3) (hb3 : ¬ y3 = .null → w3 = y3) (Q4 : w4.isRef = true) (ha4 : y4 = .null → w4 = x4) (hb4 : ¬ y4 = .null → w4 = y4) (Q5 : w5.isRef = true) (ha5 : y5 = .null → w5 = x5) (hb5 : ¬ y5 = .null → w5 = y5) :
    Goes p e s below (fun v h L => v = some (.int 1) ∧ Fr n0 L) room_1.cells room_1.slots (T.setTop (mkF m 308 #[sI_ fl, sJ_ pp, sS_, sJ_ pq, sS_, sI_ pr, sI_ ps, sI_ ph, .val x1, .val x2, .val x3, .val x4, .val x5, .val y1, .val y2, .val y3, .val y4, .val y5, sR_ ax, sR_ bx, sR_ cx] [])) := by
  have sz0 : n0 ≤ h.size := Nat.le_trans Z0 K0.1
  refine Goes.go (U' := (T.setTop (mkF m 310 #[sI_ fl, sJ_ pp, sS_, sJ_ pq, sS_, sI_ pr, sI_ ps, sI_ ph, .val x1, .val x2, .val x3, .val x4, .val x5, .val y1, .val y2, .val y3, .val y4, .val y5, sR_ ax, sR_ bx, sR_ cx] [(.ref cx)]))) (fun t kt => ?_) ?_
  · skip
    refine XS.aload X.here hx rfl (hb hby at_308) rfl rfl ?_
    exact kt
  obtain ⟨v_1, T_1, L_1, X_1, q_1, st_1⟩ := callVirtual X hx hZ (y := (⟨"com/example/kilnroute/kilnroute/spark/Resources", "executorMemory", "()Ljava/lang/String;"⟩ : MethodName)) (z := (⟨"com/example/kilnroute/kilnroute/spark/Resources", "executorMemory", "()Ljava/lang/String;"⟩ : MethodName)) (W := 0) hown (wdOf hw 109 rfl) (wdOf hw 110 rfl) (notFace_of_selects (args := #[]) (mvT hZ (wdOf hw 112 rfl))) (wdOf hw 112 rfl) (wdOf hw 111 rfl) (wdOf hw 50 rfl) (wdOf hw 113 rfl) (by decide) (rm_g_executorMemory l Z a0 hw [] cx w3 Q3 h n0 sz0 Fc_executorMemory) (by decide) (by decide) (by decide) (by decide) eT Ec (g := (mkF m 310 #[sI_ fl, sJ_ pp, sS_, sJ_ pq, sS_, sI_ pr, sI_ ps, sI_ ph, .val x1, .val x2, .val x3, .val x4, .val x5, .val y1, .val y2, .val y3, .val y4, .val y5, sR_ ax, sR_ bx, sR_ cx] [(.ref cx)])) rfl (by rw [hml]; rfl) (argsL := []) (rest := []) (lenOf pd_11 rfl) rfl rfl (Nat.le_refl _) (hb hby at_310)
  obtain ⟨rfl, n_1, K_1⟩ := q_1
  have N_1 := Fr.app N n_1
  refine Goes.go (U' := (T_1.setTop (mkF m 313 #[sI_ fl, sJ_ pp, sS_, sJ_ pq, sS_, sI_ pr, sI_ ps, sI_ ph, .val x1, .val x2, .val x3, .val x4, .val x5, .val y1, .val y2, .val y3, .val y4, .val y5, sR_ ax, sR_ bx, sR_ cx] [w3]))) st_1 ?_
  refine Goes.go (U' := (T_1.setTop (mkF m 315 #[sI_ fl, sJ_ pp, sS_, sJ_ pq, sS_, sI_ pr, sI_ ps, sI_ ph, .val x1, .val x2, .val x3, .val x4, .val x5, .val y1, .val y2, .val y3, .val y4, .val y5, sR_ ax, sR_ bx, sR_ cx] [y3, w3]))) (fun t kt => ?_) ?_
  · skip
    refine XS.aload X_1.here hx rfl (hb hby at_313) rfl Uy3.isRef ?_
    exact kt
  by_cases cc : y3 = Value.null
  · -- y3 = Value.null
    refine Goes.go (U' := (T_1.setTop (mkF m 325 #[sI_ fl, sJ_ pp, sS_, sJ_ pq, sS_, sI_ pr, sI_ ps, sI_ ph, .val x1, .val x2, .val x3, .val x4, .val x5, .val y1, .val y2, .val y3, .val y4, .val y5, sR_ ax, sR_ bx, sR_ cx] [x3, w3]))) (fun t kt => ?_) ?_
    · skip
      refine XT.nullYes X_1.here hx rfl (pc0 := 315) (pc' := 323) rfl (hb hby at_315) rfl  cc (by decide) (by decide) ?_
      refine XS.aload X_1.here hx rfl (hb hby at_323) rfl Ux3.isRef ?_
      exact kt
    obtain ⟨v_2, T_2, L_2, X_2, q_2, st_2⟩ := callStatic X_1 hx hZ (y := (⟨"com/example/kilnroute/kilnroute/spark/ResourcesOverriddenByPinLaw", "sameStr", "(Ljava/lang/String;Ljava/lang/String;)Z"⟩ : MethodName)) (W := 0) hown (wdOf hw 87 rfl) (wdOf hw 88 rfl) (wdOf hw 89 rfl) (wdOf hw 90 rfl) (by decide) (rm_ss l Z a0 hw [] w3 x3 h n0 sz0 (ha3 cc) Ux3) (by decide) (by decide) (by decide) (by decide) K_1 (g := (mkF m 325 #[sI_ fl, sJ_ pp, sS_, sJ_ pq, sS_, sI_ pr, sI_ ps, sI_ ph, .val x1, .val x2, .val x3, .val x4, .val x5, .val y1, .val y2, .val y3, .val y4, .val y5, sR_ ax, sR_ bx, sR_ cx] [x3, w3])) rfl (by rw [hml]; rfl) (argsL := [w3, x3]) (rest := []) (lenOf pd_12 rfl) rfl rfl (Nat.le_refl _) (hb hby at_325)
    obtain ⟨rfl, n_2, K_2⟩ := q_2
    have N_2 := Fr.app N_1 n_2
    refine Goes.go (U' := (T_2.setTop (mkF m 328 #[sI_ fl, sJ_ pp, sS_, sJ_ pq, sS_, sI_ pr, sI_ ps, sI_ ph, .val x1, .val x2, .val x3, .val x4, .val x5, .val y1, .val y2, .val y3, .val y4, .val y5, sR_ ax, sR_ bx, sR_ cx] [(.int (1 : Int32))]))) st_2 ?_
    refine Goes.go (U' := (T_2.setTop (mkF m 331 #[sI_ fl, sJ_ pp, sS_, sJ_ pq, sS_, sI_ pr, sI_ ps, sI_ ph, .val x1, .val x2, .val x3, .val x4, .val x5, .val y1, .val y2, .val y3, .val y4, .val y5, sR_ ax, sR_ bx, sR_ cx] []))) (fun t kt => ?_) ?_
    · skip
      refine XS.ifNo X_2.here hx rfl (hb hby at_328) rfl (XT.i0_eq_f (by decide)) ?_
      exact kt
    exact law_331 l Z a0 hw fl pp pq pr ps ph cs x1 x2 x3 x4 x5 y1 y2 y3 y4 y5 ax bx cx w1 w2 w3 w4 w5 h0 n0 Z0 p e s m below meth c hx hby hml hown hnm hret hlk hZ _ _ _ X_2 K_2 N_2 K0 O BC SH SC hcs Ux1 Ux2 Ux3 Ux4 Ux5 Uy1 Uy2 Uy3 Uy4 Uy5 Ec Fc_driverMemory Fc_driverCores Fc_executorMemory Fc_executorCores Fc_numExecutors Q1 ha1 hb1 Q2 ha2 hb2 Q3 ha3 hb3 Q4 ha4 hb4 Q5 ha5 hb5
  · -- not y3 = Value.null
    refine Goes.go (U' := (T_1.setTop (mkF m 325 #[sI_ fl, sJ_ pp, sS_, sJ_ pq, sS_, sI_ pr, sI_ ps, sI_ ph, .val x1, .val x2, .val x3, .val x4, .val x5, .val y1, .val y2, .val y3, .val y4, .val y5, sR_ ax, sR_ bx, sR_ cx] [y3, w3]))) (fun t kt => ?_) ?_
    · skip
      refine XT.nullNo X_1.here hx rfl (hb hby at_315) rfl Uy3.isRef  cc ?_
      refine XS.aload X_1.here hx rfl (hb hby at_318) rfl Uy3.isRef ?_
      refine XS.goto X_1.here hx rfl (pc0 := 320) (pc' := 325) rfl (hb hby at_320) (by decide) (by decide) ?_
      exact kt
    obtain ⟨v_3, T_3, L_3, X_3, q_3, st_3⟩ := callStatic X_1 hx hZ (y := (⟨"com/example/kilnroute/kilnroute/spark/ResourcesOverriddenByPinLaw", "sameStr", "(Ljava/lang/String;Ljava/lang/String;)Z"⟩ : MethodName)) (W := 0) hown (wdOf hw 87 rfl) (wdOf hw 88 rfl) (wdOf hw 89 rfl) (wdOf hw 90 rfl) (by decide) (rm_ss l Z a0 hw [] w3 y3 h n0 sz0 (hb3 cc) Uy3) (by decide) (by decide) (by decide) (by decide) K_1 (g := (mkF m 325 #[sI_ fl, sJ_ pp, sS_, sJ_ pq, sS_, sI_ pr, sI_ ps, sI_ ph, .val x1, .val x2, .val x3, .val x4, .val x5, .val y1, .val y2, .val y3, .val y4, .val y5, sR_ ax, sR_ bx, sR_ cx] [y3, w3])) rfl (by rw [hml]; rfl) (argsL := [w3, y3]) (rest := []) (lenOf pd_12 rfl) rfl rfl (Nat.le_refl _) (hb hby at_325)
    obtain ⟨rfl, n_3, K_3⟩ := q_3
    have N_3 := Fr.app N_1 n_3
    refine Goes.go (U' := (T_3.setTop (mkF m 328 #[sI_ fl, sJ_ pp, sS_, sJ_ pq, sS_, sI_ pr, sI_ ps, sI_ ph, .val x1, .val x2, .val x3, .val x4, .val x5, .val y1, .val y2, .val y3, .val y4, .val y5, sR_ ax, sR_ bx, sR_ cx] [(.int (1 : Int32))]))) st_3 ?_
    refine Goes.go (U' := (T_3.setTop (mkF m 331 #[sI_ fl, sJ_ pp, sS_, sJ_ pq, sS_, sI_ pr, sI_ ps, sI_ ph, .val x1, .val x2, .val x3, .val x4, .val x5, .val y1, .val y2, .val y3, .val y4, .val y5, sR_ ax, sR_ bx, sR_ cx] []))) (fun t kt => ?_) ?_
    · skip
      refine XS.ifNo X_3.here hx rfl (hb hby at_328) rfl (XT.i0_eq_f (by decide)) ?_
      exact kt
    exact law_331 l Z a0 hw fl pp pq pr ps ph cs x1 x2 x3 x4 x5 y1 y2 y3 y4 y5 ax bx cx w1 w2 w3 w4 w5 h0 n0 Z0 p e s m below meth c hx hby hml hown hnm hret hlk hZ _ _ _ X_3 K_3 N_3 K0 O BC SH SC hcs Ux1 Ux2 Ux3 Ux4 Ux5 Uy1 Uy2 Uy3 Uy4 Uy5 Ec Fc_driverMemory Fc_driverCores Fc_executorMemory Fc_executorCores Fc_numExecutors Q1 ha1 hb1 Q2 ha2 hb2 Q3 ha3 hb3 Q4 ha4 hb4 Q5 ha5 hb5
set_option maxRecDepth 65536 in
set_option maxHeartbeats 40000000 in
theorem law_285 (l : Launch) (Z : State) (a0 : Array Value) (hw : ∀ d ∈ tables_1, d.before a0 Z = true) (fl : Int32) (pp pq : Int64) (pr ps ph : Int32) (cs : Int32) (x1 x2 x3 x4 x5 y1 y2 y3 y4 y5 : Value) (ax bx cx : Addr) (w1 w2 w3 w4 w5 : Value) (h0 : Heap) (n0 : Nat) (Z0 : n0 ≤ h0.size) (p : Program) (e : Env) (s : State) (m : MethodId) (below : List Frame) (meth : Method) (c : Code) (hx : p.tables.exec = Jvm.exec) (hby : c.code = code) (hml : c.maxLocals = maxLocals) (hown : s.vm.findClass "com/example/kilnroute/kilnroute/spark/ResourcesOverriddenByPinLaw" = some m.cls) (hnm : meth.name = "law") (hret : meth.sig.returnType = ret) (hlk : meth.locks = false) (hZ : Z.Warmed39 s.vm) (h : Heap) (T : State) (locs : List Loc) (X : Stand p l e room_1 s m #[(.int fl), (.long pp), (.long pq), (.int pr), (.int ps), (.int ph)] below meth c T locs 17 41) (eT : T.heap = h) (N : Fr n0 locs) (K0 : Keep h0 h []) (O : Old Z n0 h) (BC : BoxC Z "java/lang/Integer$IntegerCache" "[Ljava/lang/Integer;" "java/lang/Integer" "I" (fun i => .int (i.toInt32 - 128))) (SH : Sta Z Z.heap "java/lang/Integer$IntegerCache" "high" "I" (.int (127 : Int32))) (SC : Sta Z Z.heap "java/lang/String" "COMPACT_STRINGS" "Z" (.int cs)) (hcs : ¬ cs = 0) (Ux1 : RefV Z h x1 "java/lang/String") (Ux2 : IntV Z h x2) (Ux3 : RefV Z h x3 "java/lang/String") (Ux4 : IntV Z h x4) (Ux5 : IntV Z h x5) (Uy1 : RefV Z h y1 "java/lang/String") (Uy2 : IntV Z h y2) (Uy3 : RefV Z h y3 "java/lang/String") (Uy4 : IntV Z h y4) (Uy5 : IntV Z h y5) (Ec : Exa Z h cx "com/example/kilnroute/kilnroute/spark/Resources") (Fc_driverMemory : Fld Z h cx "com/example/kilnroute/kilnroute/spark/Resources" "driverMemory" "Ljava/lang/String;" w1) (Fc_driverCores : Fld Z h cx "com/example/kilnroute/kilnroute/spark/Resources" "driverCores" "Ljava/lang/Integer;" w2) (Fc_executorMemory : Fld Z h cx "com/example/kilnroute/kilnroute/spark/Resources" "executorMemory" "Ljava/lang/String;" w3) (Fc_executorCores : Fld Z h cx "com/example/kilnroute/kilnroute/spark/Resources" "executorCores" "Ljava/lang/Integer;" w4) (Fc_numExecutors : Fld Z h cx "com/example/kilnroute/kilnroute/spark/Resources" "numExecutors" "Ljava/lang/Integer;" w5) (Q1 : w1.isRef = true) (ha1 : y1 = .null → w1 = x1) (hb1 : ¬ y1 = .null → w1 = y1) (Q2 : w2.isRef = true) (ha2 : y2 = .null → w2 = x2) (hb2 : ¬ y2 = .null → w2 = y2) (Q3 : w3.isRef = true) (ha3 : y3 = .null → w3 = x3) (hb3 : ¬ y3 = .null → w3 = y3) (Q4 : w4.isRef = true) (ha4 : y4 = .null → w4 = x4) (hb4 : ¬ y4 = .null → w4 = y4) (Q5 : w5.isRef = true) (ha5 : y5 = .null → w5 = x5) (hb5 : ¬ y5 = .null → w5 = y5) :
    Goes p e s below (fun v h L => v = some (.int 1) ∧ Fr n0 L) room_1.cells room_1.slots (T.setTop (mkF m 285 #[sI_ fl, sJ_ pp, sS_, sJ_ pq, sS_, sI_ pr, sI_ ps, sI_ ph, .val x1, .val x2, .val x3, .val x4, .val x5, .val y1, .val y2, .val y3, .val y4, .val y5, sR_ ax, sR_ bx, sR_ cx] [])) := by
  have sz0 : n0 ≤ h.size := Nat.le_trans Z0 K0.1
  refine Goes.go (U' := (T.setTop (mkF m 287 #[sI_ fl, sJ_ pp, sS_, sJ_ pq, sS_, sI_ pr, sI_ ps, sI_ ph, .val x1, .val x2, .val x3, .val x4, .val x5, .val y1, .val y2, .val y3, .val y4, .val y5, sR_ ax, sR_ bx, sR_ cx] [(.ref cx)]))) (fun t kt => ?_) ?_
  · skip
    refine XS.aload X.here hx rfl (hb hby at_285) rfl rfl ?_
    exact kt
  obtain ⟨v_1, T_1, L_1, X_1, q_1, st_1⟩ := callVirtual X hx hZ (y := (⟨"com/example/kilnroute/kilnroute/spark/Resources", "driverCores", "()Ljava/lang/Integer;"⟩ : MethodName)) (z := (⟨"com/example/kilnroute/kilnroute/spark/Resources", "driverCores", "()Ljava/lang/Integer;"⟩ : MethodName)) (W := 0) hown (wdOf hw 96 rfl) (wdOf hw 97 rfl) (notFace_of_selects (args := #[]) (mvT hZ (wdOf hw 99 rfl))) (wdOf hw 99 rfl) (wdOf hw 98 rfl) (wdOf hw 50 rfl) (wdOf hw 100 rfl) (by decide) (rm_g_driverCores l Z a0 hw [] cx w2 Q2 h n0 sz0 Fc_driverCores) (by decide) (by decide) (by decide) (by decide) eT Ec (g := (mkF m 287 #[sI_ fl, sJ_ pp, sS_, sJ_ pq, sS_, sI_ pr, sI_ ps, sI_ ph, .val x1, .val x2, .val x3, .val x4, .val x5, .val y1, .val y2, .val y3, .val y4, .val y5, sR_ ax, sR_ bx, sR_ cx] [(.ref cx)])) rfl (by rw [hml]; rfl) (argsL := []) (rest := []) (lenOf pd_9 rfl) rfl rfl (Nat.le_refl _) (hb hby at_287)
  obtain ⟨rfl, n_1, K_1⟩ := q_1
  have N_1 := Fr.app N n_1
  refine Goes.go (U' := (T_1.setTop (mkF m 290 #[sI_ fl, sJ_ pp, sS_, sJ_ pq, sS_, sI_ pr, sI_ ps, sI_ ph, .val x1, .val x2, .val x3, .val x4, .val x5, .val y1, .val y2, .val y3, .val y4, .val y5, sR_ ax, sR_ bx, sR_ cx] [w2]))) st_1 ?_
  refine Goes.go (U' := (T_1.setTop (mkF m 292 #[sI_ fl, sJ_ pp, sS_, sJ_ pq, sS_, sI_ pr, sI_ ps, sI_ ph, .val x1, .val x2, .val x3, .val x4, .val x5, .val y1, .val y2, .val y3, .val y4, .val y5, sR_ ax, sR_ bx, sR_ cx] [y2, w2]))) (fun t kt => ?_) ?_
  · skip
    refine XS.aload X_1.here hx rfl (hb hby at_290) rfl Uy2.isRef ?_
    exact kt
  by_cases cc : y2 = Value.null
  · -- y2 = Value.null
    refine Goes.go (U' := (T_1.setTop (mkF m 302 #[sI_ fl, sJ_ pp, sS_, sJ_ pq, sS_, sI_ pr, sI_ ps, sI_ ph, .val x1, .val x2, .val x3, .val x4, .val x5, .val y1, .val y2, .val y3, .val y4, .val y5, sR_ ax, sR_ bx, sR_ cx] [x2, w2]))) (fun t kt => ?_) ?_
    · skip
      refine XT.nullYes X_1.here hx rfl (pc0 := 292) (pc' := 300) rfl (hb hby at_292) rfl  cc (by decide) (by decide) ?_
      refine XS.aload X_1.here hx rfl (hb hby at_300) rfl Ux2.isRef ?_
      exact kt
    obtain ⟨v_2, T_2, L_2, X_2, q_2, st_2⟩ := callStatic X_1 hx hZ (y := (⟨"com/example/kilnroute/kilnroute/spark/ResourcesOverriddenByPinLaw", "sameInt", "(Ljava/lang/Integer;Ljava/lang/Integer;)Z"⟩ : MethodName)) (W := 0) hown (wdOf hw 101 rfl) (wdOf hw 102 rfl) (wdOf hw 89 rfl) (wdOf hw 103 rfl) (by decide) (rm_si l Z a0 hw [] w2 x2 h n0 sz0 (ha2 cc) Ux2) (by decide) (by decide) (by decide) (by decide) K_1 (g := (mkF m 302 #[sI_ fl, sJ_ pp, sS_, sJ_ pq, sS_, sI_ pr, sI_ ps, sI_ ph, .val x1, .val x2, .val x3, .val x4, .val x5, .val y1, .val y2, .val y3, .val y4, .val y5, sR_ ax, sR_ bx, sR_ cx] [x2, w2])) rfl (by rw [hml]; rfl) (argsL := [w2, x2]) (rest := []) (lenOf pd_10 rfl) rfl rfl (Nat.le_refl _) (hb hby at_302)
    obtain ⟨rfl, n_2, K_2⟩ := q_2
    have N_2 := Fr.app N_1 n_2
    refine Goes.go (U' := (T_2.setTop (mkF m 305 #[sI_ fl, sJ_ pp, sS_, sJ_ pq, sS_, sI_ pr, sI_ ps, sI_ ph, .val x1, .val x2, .val x3, .val x4, .val x5, .val y1, .val y2, .val y3, .val y4, .val y5, sR_ ax, sR_ bx, sR_ cx] [(.int (1 : Int32))]))) st_2 ?_
    refine Goes.go (U' := (T_2.setTop (mkF m 308 #[sI_ fl, sJ_ pp, sS_, sJ_ pq, sS_, sI_ pr, sI_ ps, sI_ ph, .val x1, .val x2, .val x3, .val x4, .val x5, .val y1, .val y2, .val y3, .val y4, .val y5, sR_ ax, sR_ bx, sR_ cx] []))) (fun t kt => ?_) ?_
    · skip
      refine XS.ifNo X_2.here hx rfl (hb hby at_305) rfl (XT.i0_eq_f (by decide)) ?_
      exact kt
    exact law_308 l Z a0 hw fl pp pq pr ps ph cs x1 x2 x3 x4 x5 y1 y2 y3 y4 y5 ax bx cx w1 w2 w3 w4 w5 h0 n0 Z0 p e s m below meth c hx hby hml hown hnm hret hlk hZ _ _ _ X_2 K_2 N_2 K0 O BC SH SC hcs Ux1 Ux2 Ux3 Ux4 Ux5 Uy1 Uy2 Uy3 Uy4 Uy5 Ec Fc_driverMemory Fc_driverCores Fc_executorMemory Fc_executorCores Fc_numExecutors Q1 ha1 hb1 Q2 ha2 hb2 Q3 ha3 hb3 Q4 ha4 hb4 Q5 ha5 hb5
  · -- not y2 = Value.null
    refine Goes.go (U' := (T_1.setTop (mkF m 302 #[sI_ fl, sJ_ pp, sS_, sJ_ pq, sS_, sI_ pr, sI_ ps, sI_ ph, .val x1, .val x2, .val x3, .val x4, .val x5, .val y1, .val y2, .val y3, .val y4, .val y5, sR_ ax, sR_ bx, sR_ cx] [y2, w2]))) (fun t kt => ?_) ?_
    · skip
      refine XT.nullNo X_1.here hx rfl (hb hby at_292) rfl Uy2.isRef  cc ?_
      refine XS.aload X_1.here hx rfl (hb hby at_295) rfl Uy2.isRef ?_
      refine XS.goto X_1.here hx rfl (pc0 := 297) (pc' := 302) rfl (hb hby at_297) (by decide) (by decide) ?_
      exact kt
    obtain ⟨v_3, T_3, L_3, X_3, q_3, st_3⟩ := callStatic X_1 hx hZ (y := (⟨"com/example/kilnroute/kilnroute/spark/ResourcesOverriddenByPinLaw", "sameInt", "(Ljava/lang/Integer;Ljava/lang/Integer;)Z"⟩ : MethodName)) (W := 0) hown (wdOf hw 101 rfl) (wdOf hw 102 rfl) (wdOf hw 89 rfl) (wdOf hw 103 rfl) (by decide) (rm_si l Z a0 hw [] w2 y2 h n0 sz0 (hb2 cc) Uy2) (by decide) (by decide) (by decide) (by decide) K_1 (g := (mkF m 302 #[sI_ fl, sJ_ pp, sS_, sJ_ pq, sS_, sI_ pr, sI_ ps, sI_ ph, .val x1, .val x2, .val x3, .val x4, .val x5, .val y1, .val y2, .val y3, .val y4, .val y5, sR_ ax, sR_ bx, sR_ cx] [y2, w2])) rfl (by rw [hml]; rfl) (argsL := [w2, y2]) (rest := []) (lenOf pd_10 rfl) rfl rfl (Nat.le_refl _) (hb hby at_302)
    obtain ⟨rfl, n_3, K_3⟩ := q_3
    have N_3 := Fr.app N_1 n_3
    refine Goes.go (U' := (T_3.setTop (mkF m 305 #[sI_ fl, sJ_ pp, sS_, sJ_ pq, sS_, sI_ pr, sI_ ps, sI_ ph, .val x1, .val x2, .val x3, .val x4, .val x5, .val y1, .val y2, .val y3, .val y4, .val y5, sR_ ax, sR_ bx, sR_ cx] [(.int (1 : Int32))]))) st_3 ?_
    refine Goes.go (U' := (T_3.setTop (mkF m 308 #[sI_ fl, sJ_ pp, sS_, sJ_ pq, sS_, sI_ pr, sI_ ps, sI_ ph, .val x1, .val x2, .val x3, .val x4, .val x5, .val y1, .val y2, .val y3, .val y4, .val y5, sR_ ax, sR_ bx, sR_ cx] []))) (fun t kt => ?_) ?_
    · skip
      refine XS.ifNo X_3.here hx rfl (hb hby at_305) rfl (XT.i0_eq_f (by decide)) ?_
      exact kt
    exact law_308 l Z a0 hw fl pp pq pr ps ph cs x1 x2 x3 x4 x5 y1 y2 y3 y4 y5 ax bx cx w1 w2 w3 w4 w5 h0 n0 Z0 p e s m below meth c hx hby hml hown hnm hret hlk hZ _ _ _ X_3 K_3 N_3 K0 O BC SH SC hcs Ux1 Ux2 Ux3 Ux4 Ux5 Uy1 Uy2 Uy3 Uy4 Uy5 Ec Fc_driverMemory Fc_driverCores Fc_executorMemory Fc_executorCores Fc_numExecutors Q1 ha1 hb1 Q2 ha2 hb2 Q3 ha3 hb3 Q4 ha4 hb4 Q5 ha5 hb5
set_option maxRecDepth 65536 in
set_option maxHeartbeats 40000000 in
theorem law_262 (l : Launch) (Z : State) (a0 : Array Value) (hw : ∀ d ∈ tables_1, d.before a0 Z = true) (fl : Int32) (pp pq : Int64) (pr ps ph : Int32) (cs : Int32) (x1 x2 x3 x4 x5 y1 y2 y3 y4 y5 : Value) (ax bx cx : Addr) (w1 w2 w3 w4 w5 : Value) (h0 : Heap) (n0 : Nat) (Z0 : n0 ≤ h0.size) (p : Program) (e : Env) (s : State) (m : MethodId) (below : List Frame) (meth : Method) (c : Code) (hx : p.tables.exec = Jvm.exec) (hby : c.code = code) (hml : c.maxLocals = maxLocals) (hown : s.vm.findClass "com/example/kilnroute/kilnroute/spark/ResourcesOverriddenByPinLaw" = some m.cls) (hnm : meth.name = "law") (hret : meth.sig.returnType = ret) (hlk : meth.locks = false) (hZ : Z.Warmed39 s.vm) (h : Heap) (T : State) (locs : List Loc) (X : Stand p l e room_1 s m #[(.int fl), (.long pp), (.long pq), (.int pr), (.int ps), (.int ph)] below meth c T locs 17 41) (eT : T.heap = h) (N : Fr n0 locs) (K0 : Keep h0 h []) (O : Old Z n0 h) (BC : BoxC Z "java/lang/Integer$IntegerCache" "[Ljava/lang/Integer;" "java/lang/Integer" "I" (fun i => .int (i.toInt32 - 128))) (SH : Sta Z Z.heap "java/lang/Integer$IntegerCache" "high" "I" (.int (127 : Int32))) (SC : Sta Z Z.heap "java/lang/String" "COMPACT_STRINGS" "Z" (.int cs)) (hcs : ¬ cs = 0) (Ux1 : RefV Z h x1 "java/lang/String") (Ux2 : IntV Z h x2) (Ux3 : RefV Z h x3 "java/lang/String") (Ux4 : IntV Z h x4) (Ux5 : IntV Z h x5) (Uy1 : RefV Z h y1 "java/lang/String") (Uy2 : IntV Z h y2) (Uy3 : RefV Z h y3 "java/lang/String") (Uy4 : IntV Z h y4) (Uy5 : IntV Z h y5) (Ec : Exa Z h cx "com/example/kilnroute/kilnroute/spark/Resources") (Fc_driverMemory : Fld Z h cx "com/example/kilnroute/kilnroute/spark/Resources" "driverMemory" "Ljava/lang/String;" w1) (Fc_driverCores : Fld Z h cx "com/example/kilnroute/kilnroute/spark/Resources" "driverCores" "Ljava/lang/Integer;" w2) (Fc_executorMemory : Fld Z h cx "com/example/kilnroute/kilnroute/spark/Resources" "executorMemory" "Ljava/lang/String;" w3) (Fc_executorCores : Fld Z h cx "com/example/kilnroute/kilnroute/spark/Resources" "executorCores" "Ljava/lang/Integer;" w4) (Fc_numExecutors : Fld Z h cx "com/example/kilnroute/kilnroute/spark/Resources" "numExecutors" "Ljava/lang/Integer;" w5) (Q1 : w1.isRef = true) (ha1 : y1 = .null → w1 = x1) (hb1 : ¬ y1 = .null → w1 = y1) (Q2 : w2.isRef = true) (ha2 : y2 = .null → w2 = x2) (hb2 : ¬ y2 = .null → w2 = y2) (Q3 : w3.isRef = true) (ha3 : y3 = .null → w3 = x3) (hb3 : ¬ y3 = .null → w3 = y3) (Q4 : w4.isRef = true) (ha4 : y4 = .null → w4 = x4) (hb4 : ¬ y4 = .null → w4 = y4) (Q5 : w5.isRef = true) (ha5 : y5 = .null → w5 = x5) (hb5 : ¬ y5 = .null → w5 = y5) :
    Goes p e s below (fun v h L => v = some (.int 1) ∧ Fr n0 L) room_1.cells room_1.slots (T.setTop (mkF m 262 #[sI_ fl, sJ_ pp, sS_, sJ_ pq, sS_, sI_ pr, sI_ ps, sI_ ph, .val x1, .val x2, .val x3, .val x4, .val x5, .val y1, .val y2, .val y3, .val y4, .val y5, sR_ ax, sR_ bx, sR_ cx] [])) := by
  have sz0 : n0 ≤ h.size := Nat.le_trans Z0 K0.1
  refine Goes.go (U' := (T.setTop (mkF m 264 #[sI_ fl, sJ_ pp, sS_, sJ_ pq, sS_, sI_ pr, sI_ ps, sI_ ph, .val x1, .val x2, .val x3, .val x4, .val x5, .val y1, .val y2, .val y3, .val y4, .val y5, sR_ ax, sR_ bx, sR_ cx] [(.ref cx)]))) (fun t kt => ?_) ?_
  · skip
    refine XS.aload X.here hx rfl (hb hby at_262) rfl rfl ?_
    exact kt
  obtain ⟨v_1, T_1, L_1, X_1, q_1, st_1⟩ := callVirtual X hx hZ (y := (⟨"com/example/kilnroute/kilnroute/spark/Resources", "driverMemory", "()Ljava/lang/String;"⟩ : MethodName)) (z := (⟨"com/example/kilnroute/kilnroute/spark/Resources", "driverMemory", "()Ljava/lang/String;"⟩ : MethodName)) (W := 0) hown (wdOf hw 82 rfl) (wdOf hw 83 rfl) (notFace_of_selects (args := #[]) (mvT hZ (wdOf hw 85 rfl))) (wdOf hw 85 rfl) (wdOf hw 84 rfl) (wdOf hw 50 rfl) (wdOf hw 86 rfl) (by decide) (rm_g_driverMemory l Z a0 hw [] cx w1 Q1 h n0 sz0 Fc_driverMemory) (by decide) (by decide) (by decide) (by decide) eT Ec (g := (mkF m 264 #[sI_ fl, sJ_ pp, sS_, sJ_ pq, sS_, sI_ pr, sI_ ps, sI_ ph, .val x1, .val x2, .val x3, .val x4, .val x5, .val y1, .val y2, .val y3, .val y4, .val y5, sR_ ax, sR_ bx, sR_ cx] [(.ref cx)])) rfl (by rw [hml]; rfl) (argsL := []) (rest := []) (lenOf pd_11 rfl) rfl rfl (Nat.le_refl _) (hb hby at_264)
  obtain ⟨rfl, n_1, K_1⟩ := q_1
  have N_1 := Fr.app N n_1
  refine Goes.go (U' := (T_1.setTop (mkF m 267 #[sI_ fl, sJ_ pp, sS_, sJ_ pq, sS_, sI_ pr, sI_ ps, sI_ ph, .val x1, .val x2, .val x3, .val x4, .val x5, .val y1, .val y2, .val y3, .val y4, .val y5, sR_ ax, sR_ bx, sR_ cx] [w1]))) st_1 ?_
  refine Goes.go (U' := (T_1.setTop (mkF m 269 #[sI_ fl, sJ_ pp, sS_, sJ_ pq, sS_, sI_ pr, sI_ ps, sI_ ph, .val x1, .val x2, .val x3, .val x4, .val x5, .val y1, .val y2, .val y3, .val y4, .val y5, sR_ ax, sR_ bx, sR_ cx] [y1, w1]))) (fun t kt => ?_) ?_
  · skip
    refine XS.aload X_1.here hx rfl (hb hby at_267) rfl Uy1.isRef ?_
    exact kt
  by_cases cc : y1 = Value.null
  · -- y1 = Value.null
    refine Goes.go (U' := (T_1.setTop (mkF m 279 #[sI_ fl, sJ_ pp, sS_, sJ_ pq, sS_, sI_ pr, sI_ ps, sI_ ph, .val x1, .val x2, .val x3, .val x4, .val x5, .val y1, .val y2, .val y3, .val y4, .val y5, sR_ ax, sR_ bx, sR_ cx] [x1, w1]))) (fun t kt => ?_) ?_
    · skip
      refine XT.nullYes X_1.here hx rfl (pc0 := 269) (pc' := 277) rfl (hb hby at_269) rfl  cc (by decide) (by decide) ?_
      refine XS.aload X_1.here hx rfl (hb hby at_277) rfl Ux1.isRef ?_
      exact kt
    obtain ⟨v_2, T_2, L_2, X_2, q_2, st_2⟩ := callStatic X_1 hx hZ (y := (⟨"com/example/kilnroute/kilnroute/spark/ResourcesOverriddenByPinLaw", "sameStr", "(Ljava/lang/String;Ljava/lang/String;)Z"⟩ : MethodName)) (W := 0) hown (wdOf hw 87 rfl) (wdOf hw 88 rfl) (wdOf hw 89 rfl) (wdOf hw 90 rfl) (by decide) (rm_ss l Z a0 hw [] w1 x1 h n0 sz0 (ha1 cc) Ux1) (by decide) (by decide) (by decide) (by decide) K_1 (g := (mkF m 279 #[sI_ fl, sJ_ pp, sS_, sJ_ pq, sS_, sI_ pr, sI_ ps, sI_ ph, .val x1, .val x2, .val x3, .val x4, .val x5, .val y1, .val y2, .val y3, .val y4, .val y5, sR_ ax, sR_ bx, sR_ cx] [x1, w1])) rfl (by rw [hml]; rfl) (argsL := [w1, x1]) (rest := []) (lenOf pd_12 rfl) rfl rfl (Nat.le_refl _) (hb hby at_279)
    obtain ⟨rfl, n_2, K_2⟩ := q_2
    have N_2 := Fr.app N_1 n_2
    refine Goes.go (U' := (T_2.setTop (mkF m 282 #[sI_ fl, sJ_ pp, sS_, sJ_ pq, sS_, sI_ pr, sI_ ps, sI_ ph, .val x1, .val x2, .val x3, .val x4, .val x5, .val y1, .val y2, .val y3, .val y4, .val y5, sR_ ax, sR_ bx, sR_ cx] [(.int (1 : Int32))]))) st_2 ?_
    refine Goes.go (U' := (T_2.setTop (mkF m 285 #[sI_ fl, sJ_ pp, sS_, sJ_ pq, sS_, sI_ pr, sI_ ps, sI_ ph, .val x1, .val x2, .val x3, .val x4, .val x5, .val y1, .val y2, .val y3, .val y4, .val y5, sR_ ax, sR_ bx, sR_ cx] []))) (fun t kt => ?_) ?_
    · skip
      refine XS.ifNo X_2.here hx rfl (hb hby at_282) rfl (XT.i0_eq_f (by decide)) ?_
      exact kt
    exact law_285 l Z a0 hw fl pp pq pr ps ph cs x1 x2 x3 x4 x5 y1 y2 y3 y4 y5 ax bx cx w1 w2 w3 w4 w5 h0 n0 Z0 p e s m below meth c hx hby hml hown hnm hret hlk hZ _ _ _ X_2 K_2 N_2 K0 O BC SH SC hcs Ux1 Ux2 Ux3 Ux4 Ux5 Uy1 Uy2 Uy3 Uy4 Uy5 Ec Fc_driverMemory Fc_driverCores Fc_executorMemory Fc_executorCores Fc_numExecutors Q1 ha1 hb1 Q2 ha2 hb2 Q3 ha3 hb3 Q4 ha4 hb4 Q5 ha5 hb5
  · -- not y1 = Value.null
    refine Goes.go (U' := (T_1.setTop (mkF m 279 #[sI_ fl, sJ_ pp, sS_, sJ_ pq, sS_, sI_ pr, sI_ ps, sI_ ph, .val x1, .val x2, .val x3, .val x4, .val x5, .val y1, .val y2, .val y3, .val y4, .val y5, sR_ ax, sR_ bx, sR_ cx] [y1, w1]))) (fun t kt => ?_) ?_
    · skip
      refine XT.nullNo X_1.here hx rfl (hb hby at_269) rfl Uy1.isRef  cc ?_
      refine XS.aload X_1.here hx rfl (hb hby at_272) rfl Uy1.isRef ?_
      refine XS.goto X_1.here hx rfl (pc0 := 274) (pc' := 279) rfl (hb hby at_274) (by decide) (by decide) ?_
      exact kt
    obtain ⟨v_3, T_3, L_3, X_3, q_3, st_3⟩ := callStatic X_1 hx hZ (y := (⟨"com/example/kilnroute/kilnroute/spark/ResourcesOverriddenByPinLaw", "sameStr", "(Ljava/lang/String;Ljava/lang/String;)Z"⟩ : MethodName)) (W := 0) hown (wdOf hw 87 rfl) (wdOf hw 88 rfl) (wdOf hw 89 rfl) (wdOf hw 90 rfl) (by decide) (rm_ss l Z a0 hw [] w1 y1 h n0 sz0 (hb1 cc) Uy1) (by decide) (by decide) (by decide) (by decide) K_1 (g := (mkF m 279 #[sI_ fl, sJ_ pp, sS_, sJ_ pq, sS_, sI_ pr, sI_ ps, sI_ ph, .val x1, .val x2, .val x3, .val x4, .val x5, .val y1, .val y2, .val y3, .val y4, .val y5, sR_ ax, sR_ bx, sR_ cx] [y1, w1])) rfl (by rw [hml]; rfl) (argsL := [w1, y1]) (rest := []) (lenOf pd_12 rfl) rfl rfl (Nat.le_refl _) (hb hby at_279)
    obtain ⟨rfl, n_3, K_3⟩ := q_3
    have N_3 := Fr.app N_1 n_3
    refine Goes.go (U' := (T_3.setTop (mkF m 282 #[sI_ fl, sJ_ pp, sS_, sJ_ pq, sS_, sI_ pr, sI_ ps, sI_ ph, .val x1, .val x2, .val x3, .val x4, .val x5, .val y1, .val y2, .val y3, .val y4, .val y5, sR_ ax, sR_ bx, sR_ cx] [(.int (1 : Int32))]))) st_3 ?_
    refine Goes.go (U' := (T_3.setTop (mkF m 285 #[sI_ fl, sJ_ pp, sS_, sJ_ pq, sS_, sI_ pr, sI_ ps, sI_ ph, .val x1, .val x2, .val x3, .val x4, .val x5, .val y1, .val y2, .val y3, .val y4, .val y5, sR_ ax, sR_ bx, sR_ cx] []))) (fun t kt => ?_) ?_
    · skip
      refine XS.ifNo X_3.here hx rfl (hb hby at_282) rfl (XT.i0_eq_f (by decide)) ?_
      exact kt
    exact law_285 l Z a0 hw fl pp pq pr ps ph cs x1 x2 x3 x4 x5 y1 y2 y3 y4 y5 ax bx cx w1 w2 w3 w4 w5 h0 n0 Z0 p e s m below meth c hx hby hml hown hnm hret hlk hZ _ _ _ X_3 K_3 N_3 K0 O BC SH SC hcs Ux1 Ux2 Ux3 Ux4 Ux5 Uy1 Uy2 Uy3 Uy4 Uy5 Ec Fc_driverMemory Fc_driverCores Fc_executorMemory Fc_executorCores Fc_numExecutors Q1 ha1 hb1 Q2 ha2 hb2 Q3 ha3 hb3 Q4 ha4 hb4 Q5 ha5 hb5
set_option maxRecDepth 65536 in
set_option maxHeartbeats 40000000 in
theorem law_215 (l : Launch) (Z : State) (a0 : Array Value) (hw : ∀ d ∈ tables_1, d.before a0 Z = true) (fl : Int32) (pp pq : Int64) (pr ps ph : Int32) (cs : Int32) (x1 x2 x3 x4 x5 y1 y2 y3 y4 y5 : Value) (h0 : Heap) (n0 : Nat) (Z0 : n0 ≤ h0.size) (p : Program) (e : Env) (s : State) (m : MethodId) (below : List Frame) (meth : Method) (c : Code) (hx : p.tables.exec = Jvm.exec) (hby : c.code = code) (hml : c.maxLocals = maxLocals) (hown : s.vm.findClass "com/example/kilnroute/kilnroute/spark/ResourcesOverriddenByPinLaw" = some m.cls) (hnm : meth.name = "law") (hret : meth.sig.returnType = ret) (hlk : meth.locks = false) (hZ : Z.Warmed39 s.vm) (h : Heap) (T : State) (locs : List Loc) (X : Stand p l e room_1 s m #[(.int fl), (.long pp), (.long pq), (.int pr), (.int ps), (.int ph)] below meth c T locs 14 26) (eT : T.heap = h) (N : Fr n0 locs) (K0 : Keep h0 h []) (O : Old Z n0 h) (BC : BoxC Z "java/lang/Integer$IntegerCache" "[Ljava/lang/Integer;" "java/lang/Integer" "I" (fun i => .int (i.toInt32 - 128))) (SH : Sta Z Z.heap "java/lang/Integer$IntegerCache" "high" "I" (.int (127 : Int32))) (SC : Sta Z Z.heap "java/lang/String" "COMPACT_STRINGS" "Z" (.int cs)) (hcs : ¬ cs = 0) (Ux1 : RefV Z h x1 "java/lang/String") (Ux2 : IntV Z h x2) (Ux3 : RefV Z h x3 "java/lang/String") (Ux4 : IntV Z h x4) (Ux5 : IntV Z h x5) (Uy1 : RefV Z h y1 "java/lang/String") (Uy2 : IntV Z h y2) (Uy3 : RefV Z h y3 "java/lang/String") (Uy4 : IntV Z h y4) (Uy5 : IntV Z h y5) :
    Goes p e s below (fun v h L => v = some (.int 1) ∧ Fr n0 L) room_1.cells room_1.slots (T.setTop (mkF m 215 #[sI_ fl, sJ_ pp, sS_, sJ_ pq, sS_, sI_ pr, sI_ ps, sI_ ph, .val x1, .val x2, .val x3, .val x4, .val x5, .val y1, .val y2, .val y3, .val y4, .val y5, sU_, sU_, sU_] [])) := by
  have sz0 : n0 ≤ h.size := Nat.le_trans Z0 K0.1
  obtain ⟨T_1, h_1, X_1, e_1, E_1, A_1, D_1, -, st_1⟩ := newO X hx hZ hown (wdOf hw 48 rfl) (wdOf hw 49 rfl) (wdOf hw 50 rfl) eT (g := (mkF m 215 #[sI_ fl, sJ_ pp, sS_, sJ_ pq, sS_, sI_ pr, sI_ ps, sI_ ph, .val x1, .val x2, .val x3, .val x4, .val x5, .val y1, .val y2, .val y3, .val y4, .val y5, sU_, sU_, sU_] [])) rfl (hb hby at_215) (by decide) (by decide)
  obtain ⟨b_1, g_1⟩ : ∃ z, z = h.size := ⟨_, rfl⟩
  rw [← g_1] at A_1 D_1 st_1
  have o_1 : n0 ≤ b_1 := Nat.le_trans sz0 (Nat.le_of_eq g_1.symm)
  have z_1 : h0.size ≤ b_1 := Nat.le_trans K0.1 (Nat.le_of_eq g_1.symm)
  have f_2 : Old Z n0 h_1 := O.ext E_1
  have f_3 : RefV Z h_1 x1 "java/lang/String" := Ux1.ext E_1
  have f_4 : IntV Z h_1 x2 := Ux2.ext E_1
  have f_5 : RefV Z h_1 x3 "java/lang/String" := Ux3.ext E_1
  have f_6 : IntV Z h_1 x4 := Ux4.ext E_1
  have f_7 : IntV Z h_1 x5 := Ux5.ext E_1
  have f_8 : RefV Z h_1 y1 "java/lang/String" := Uy1.ext E_1
  have f_9 : IntV Z h_1 y2 := Uy2.ext E_1
  have f_10 : RefV Z h_1 y3 "java/lang/String" := Uy3.ext E_1
  have f_11 : IntV Z h_1 y4 := Uy4.ext E_1
  have f_12 : IntV Z h_1 y5 := Uy5.ext E_1
  have f_13 : Fld Z h_1 b_1 "com/example/kilnroute/kilnroute/spark/Resources" "driverMemory" "Ljava/lang/String;" .null := D_1 (Or.inr (wdOf hw 61 rfl)) (ty := (.object "java/lang/String")) (by decide)
  have f_14 : Fld Z h_1 b_1 "com/example/kilnroute/kilnroute/spark/Resources" "driverCores" "Ljava/lang/Integer;" .null := D_1 (Or.inr (wdOf hw 63 rfl)) (ty := (.object "java/lang/Integer")) (by decide)
  have f_15 : Fld Z h_1 b_1 "com/example/kilnroute/kilnroute/spark/Resources" "executorMemory" "Ljava/lang/String;" .null := D_1 (Or.inr (wdOf hw 65 rfl)) (ty := (.object "java/lang/String")) (by decide)
  have f_16 : Fld Z h_1 b_1 "com/example/kilnroute/kilnroute/spark/Resources" "executorCores" "Ljava/lang/Integer;" .null := D_1 (Or.inr (wdOf hw 67 rfl)) (ty := (.object "java/lang/Integer")) (by decide)
  have f_17 : Fld Z h_1 b_1 "com/example/kilnroute/kilnroute/spark/Resources" "numExecutors" "Ljava/lang/Integer;" .null := D_1 (Or.inr (wdOf hw 69 rfl)) (ty := (.object "java/lang/Integer")) (by decide)
  have K_18 : Keep h0 h_1 [] := K0.ext E_1
  have y_18 : n0 ≤ h_1.size := Nat.le_trans Z0 K_18.1
  refine Goes.go (U' := (T_1.setTop (mkF m 218 #[sI_ fl, sJ_ pp, sS_, sJ_ pq, sS_, sI_ pr, sI_ ps, sI_ ph, .val x1, .val x2, .val x3, .val x4, .val x5, .val y1, .val y2, .val y3, .val y4, .val y5, sU_, sU_, sU_] [(.ref b_1)]))) st_1 ?_
  refine Goes.go (U' := (T_1.setTop (mkF m 229 #[sI_ fl, sJ_ pp, sS_, sJ_ pq, sS_, sI_ pr, sI_ ps, sI_ ph, .val x1, .val x2, .val x3, .val x4, .val x5, .val y1, .val y2, .val y3, .val y4, .val y5, sU_, sU_, sU_] [x5, x4, x3, x2, x1, (.ref b_1), (.ref b_1)]))) (fun t kt => ?_) ?_
  · skip
    refine XS.dup X_1.here hx rfl (hb hby at_218) rfl rfl ?_
    refine XS.aload X_1.here hx rfl (hb hby at_219) rfl Ux1.isRef ?_
    refine XS.aload X_1.here hx rfl (hb hby at_221) rfl Ux2.isRef ?_
    refine XS.aload X_1.here hx rfl (hb hby at_223) rfl Ux3.isRef ?_
    refine XS.aload X_1.here hx rfl (hb hby at_225) rfl Ux4.isRef ?_
    refine XS.aload X_1.here hx rfl (hb hby at_227) rfl Ux5.isRef ?_
    exact kt
  obtain ⟨v_19, T_19, L_19, X_19, q_19, st_19⟩ := callInit X_1 hx hZ (y := (⟨"com/example/kilnroute/kilnroute/spark/Resources", "<init>", "(Ljava/lang/String;Ljava/lang/Integer;Ljava/lang/String;Ljava/lang/Integer;Ljava/lang/Integer;)V"⟩ : MethodName)) (W := 1) rfl hown (wdOf hw 51 rfl) (wdOf hw 52 rfl) (wdOf hw 50 rfl) (wdOf hw 53 rfl) (by decide) (rm_ri l Z a0 hw [] b_1 x1 x2 x3 x4 x5 Ux1.isRef Ux2.isRef Ux3.isRef Ux4.isRef Ux5.isRef h_1 n0 y_18 o_1 A_1 f_13 f_14 f_15 f_16 f_17) (by decide) (by decide) (by decide) (by decide) e_1 (b := b_1) (g := (mkF m 229 #[sI_ fl, sJ_ pp, sS_, sJ_ pq, sS_, sI_ pr, sI_ ps, sI_ ph, .val x1, .val x2, .val x3, .val x4, .val x5, .val y1, .val y2, .val y3, .val y4, .val y5, sU_, sU_, sU_] [x5, x4, x3, x2, x1, (.ref b_1), (.ref b_1)])) rfl (by rw [hml]; rfl) (argsL := [x1, x2, x3, x4, x5]) (rest := [(.ref b_1)]) (lenOf pd_8 rfl) rfl rfl (Nat.le_refl _) (hb hby at_229)
  obtain ⟨rfl, n_19, K_19, GE__19, GdriverMemory__19, GdriverCores__19, GexecutorMemory__19, GexecutorCores__19, GnumExecutors__19⟩ := q_19
  have N_19 := Fr.app N n_19
  have f_20 : Old Z n0 T_19.heap := f_2.keep K_19 (allS o_1 all0)
  have f_21 : RefV Z T_19.heap x1 "java/lang/String" := f_3.keep K_19
  have f_22 : IntV Z T_19.heap x2 := f_4.keepX K_19 A_1 (by decide)
  have f_23 : RefV Z T_19.heap x3 "java/lang/String" := f_5.keep K_19
  have f_24 : IntV Z T_19.heap x4 := f_6.keepX K_19 A_1 (by decide)
  have f_25 : IntV Z T_19.heap x5 := f_7.keepX K_19 A_1 (by decide)
  have f_26 : RefV Z T_19.heap y1 "java/lang/String" := f_8.keep K_19
  have f_27 : IntV Z T_19.heap y2 := f_9.keepX K_19 A_1 (by decide)
  have f_28 : RefV Z T_19.heap y3 "java/lang/String" := f_10.keep K_19
  have f_29 : IntV Z T_19.heap y4 := f_11.keepX K_19 A_1 (by decide)
  have f_30 : IntV Z T_19.heap y5 := f_12.keepX K_19 A_1 (by decide)
  have f_31 : Exa Z T_19.heap b_1 "com/example/kilnroute/kilnroute/spark/Resources" := A_1.keep K_19
  have K_37 : Keep h0 T_19.heap [] := K_18.trans K_19 (allS (P := fun x => x ∈ [] ∨ h0.size ≤ x) (Or.inr z_1) all0)
  have y_37 : n0 ≤ T_19.heap.size := Nat.le_trans Z0 K_37.1
  refine Goes.go (U' := (T_19.setTop (mkF m 232 #[sI_ fl, sJ_ pp, sS_, sJ_ pq, sS_, sI_ pr, sI_ ps, sI_ ph, .val x1, .val x2, .val x3, .val x4, .val x5, .val y1, .val y2, .val y3, .val y4, .val y5, sU_, sU_, sU_] [(.ref b_1)]))) st_19 ?_
  refine Goes.go (U' := (T_19.setTop (mkF m 234 #[sI_ fl, sJ_ pp, sS_, sJ_ pq, sS_, sI_ pr, sI_ ps, sI_ ph, .val x1, .val x2, .val x3, .val x4, .val x5, .val y1, .val y2, .val y3, .val y4, .val y5, sR_ b_1, sU_, sU_] []))) (fun t kt => ?_) ?_
  · skip
    refine XS.astore X_19.here hx rfl (hb hby at_232) rfl rfl (l' := #[sI_ fl, sJ_ pp, sS_, sJ_ pq, sS_, sI_ pr, sI_ ps, sI_ ph, .val x1, .val x2, .val x3, .val x4, .val x5, .val y1, .val y2, .val y3, .val y4, .val y5, sR_ b_1, sU_, sU_]) rfl ?_
    exact kt
  obtain ⟨T_38, h_38, X_38, e_38, E_38, A_38, D_38, -, st_38⟩ := newO X_19 hx hZ hown (wdOf hw 48 rfl) (wdOf hw 49 rfl) (wdOf hw 50 rfl) (rfl : T_19.heap = T_19.heap) (g := (mkF m 234 #[sI_ fl, sJ_ pp, sS_, sJ_ pq, sS_, sI_ pr, sI_ ps, sI_ ph, .val x1, .val x2, .val x3, .val x4, .val x5, .val y1, .val y2, .val y3, .val y4, .val y5, sR_ b_1, sU_, sU_] [])) rfl (hb hby at_234) (by decide) (by decide)
  obtain ⟨b_38, g_38⟩ : ∃ z, z = T_19.heap.size := ⟨_, rfl⟩
  rw [← g_38] at A_38 D_38 st_38
  have ne_39 : b_1 ≠ b_38 := Nat.ne_of_lt (Nat.lt_of_lt_of_le f_31.lt (Nat.le_of_eq g_38.symm))
  have o_38 : n0 ≤ b_38 := Nat.le_trans y_37 (Nat.le_of_eq g_38.symm)
  have z_38 : h0.size ≤ b_38 := Nat.le_trans K_37.1 (Nat.le_of_eq g_38.symm)
  have f_40 : Old Z n0 h_38 := f_20.ext E_38
  have f_41 : RefV Z h_38 x1 "java/lang/String" := f_21.ext E_38
  have f_42 : IntV Z h_38 x2 := f_22.ext E_38
  have f_43 : RefV Z h_38 x3 "java/lang/String" := f_23.ext E_38
  have f_44 : IntV Z h_38 x4 := f_24.ext E_38
  have f_45 : IntV Z h_38 x5 := f_25.ext E_38
  have f_46 : RefV Z h_38 y1 "java/lang/String" := f_26.ext E_38
  have f_47 : IntV Z h_38 y2 := f_27.ext E_38
  have f_48 : RefV Z h_38 y3 "java/lang/String" := f_28.ext E_38
  have f_49 : IntV Z h_38 y4 := f_29.ext E_38
  have f_50 : IntV Z h_38 y5 := f_30.ext E_38
  have f_51 : Exa Z h_38 b_1 "com/example/kilnroute/kilnroute/spark/Resources" := f_31.ext E_38
  have f_52 : Fld Z h_38 b_1 "com/example/kilnroute/kilnroute/spark/Resources" "driverMemory" "Ljava/lang/String;" x1 := GdriverMemory__19.ext E_38
  have f_53 : Fld Z h_38 b_1 "com/example/kilnroute/kilnroute/spark/Resources" "driverCores" "Ljava/lang/Integer;" x2 := GdriverCores__19.ext E_38
  have f_54 : Fld Z h_38 b_1 "com/example/kilnroute/kilnroute/spark/Resources" "executorMemory" "Ljava/lang/String;" x3 := GexecutorMemory__19.ext E_38
  have f_55 : Fld Z h_38 b_1 "com/example/kilnroute/kilnroute/spark/Resources" "executorCores" "Ljava/lang/Integer;" x4 := GexecutorCores__19.ext E_38
  have f_56 : Fld Z h_38 b_1 "com/example/kilnroute/kilnroute/spark/Resources" "numExecutors" "Ljava/lang/Integer;" x5 := GnumExecutors__19.ext E_38
  have f_57 : Fld Z h_38 b_38 "com/example/kilnroute/kilnroute/spark/Resources" "driverMemory" "Ljava/lang/String;" .null := D_38 (Or.inr (wdOf hw 61 rfl)) (ty := (.object "java/lang/String")) (by decide)
  have f_58 : Fld Z h_38 b_38 "com/example/kilnroute/kilnroute/spark/Resources" "driverCores" "Ljava/lang/Integer;" .null := D_38 (Or.inr (wdOf hw 63 rfl)) (ty := (.object "java/lang/Integer")) (by decide)
  have f_59 : Fld Z h_38 b_38 "com/example/kilnroute/kilnroute/spark/Resources" "executorMemory" "Ljava/lang/String;" .null := D_38 (Or.inr (wdOf hw 65 rfl)) (ty := (.object "java/lang/String")) (by decide)
  have f_60 : Fld Z h_38 b_38 "com/example/kilnroute/kilnroute/spark/Resources" "executorCores" "Ljava/lang/Integer;" .null := D_38 (Or.inr (wdOf hw 67 rfl)) (ty := (.object "java/lang/Integer")) (by decide)
  have f_61 : Fld Z h_38 b_38 "com/example/kilnroute/kilnroute/spark/Resources" "numExecutors" "Ljava/lang/Integer;" .null := D_38 (Or.inr (wdOf hw 69 rfl)) (ty := (.object "java/lang/Integer")) (by decide)
  have K_62 : Keep h0 h_38 [] := K_37.ext E_38
  have y_62 : n0 ≤ h_38.size := Nat.le_trans Z0 K_62.1
  refine Goes.go (U' := (T_38.setTop (mkF m 237 #[sI_ fl, sJ_ pp, sS_, sJ_ pq, sS_, sI_ pr, sI_ ps, sI_ ph, .val x1, .val x2, .val x3, .val x4, .val x5, .val y1, .val y2, .val y3, .val y4, .val y5, sR_ b_1, sU_, sU_] [(.ref b_38)]))) st_38 ?_
  refine Goes.go (U' := (T_38.setTop (mkF m 248 #[sI_ fl, sJ_ pp, sS_, sJ_ pq, sS_, sI_ pr, sI_ ps, sI_ ph, .val x1, .val x2, .val x3, .val x4, .val x5, .val y1, .val y2, .val y3, .val y4, .val y5, sR_ b_1, sU_, sU_] [y5, y4, y3, y2, y1, (.ref b_38), (.ref b_38)]))) (fun t kt => ?_) ?_
  · skip
    refine XS.dup X_38.here hx rfl (hb hby at_237) rfl rfl ?_
    refine XS.aload X_38.here hx rfl (hb hby at_238) rfl Uy1.isRef ?_
    refine XS.aload X_38.here hx rfl (hb hby at_240) rfl Uy2.isRef ?_
    refine XS.aload X_38.here hx rfl (hb hby at_242) rfl Uy3.isRef ?_
    refine XS.aload X_38.here hx rfl (hb hby at_244) rfl Uy4.isRef ?_
    refine XS.aload X_38.here hx rfl (hb hby at_246) rfl Uy5.isRef ?_
    exact kt
  obtain ⟨v_63, T_63, L_63, X_63, q_63, st_63⟩ := callInit X_38 hx hZ (y := (⟨"com/example/kilnroute/kilnroute/spark/Resources", "<init>", "(Ljava/lang/String;Ljava/lang/Integer;Ljava/lang/String;Ljava/lang/Integer;Ljava/lang/Integer;)V"⟩ : MethodName)) (W := 1) rfl hown (wdOf hw 51 rfl) (wdOf hw 52 rfl) (wdOf hw 50 rfl) (wdOf hw 53 rfl) (by decide) (rm_ri l Z a0 hw [] b_38 y1 y2 y3 y4 y5 Uy1.isRef Uy2.isRef Uy3.isRef Uy4.isRef Uy5.isRef h_38 n0 y_62 o_38 A_38 f_57 f_58 f_59 f_60 f_61) (by decide) (by decide) (by decide) (by decide) e_38 (b := b_38) (g := (mkF m 248 #[sI_ fl, sJ_ pp, sS_, sJ_ pq, sS_, sI_ pr, sI_ ps, sI_ ph, .val x1, .val x2, .val x3, .val x4, .val x5, .val y1, .val y2, .val y3, .val y4, .val y5, sR_ b_1, sU_, sU_] [y5, y4, y3, y2, y1, (.ref b_38), (.ref b_38)])) rfl (by rw [hml]; rfl) (argsL := [y1, y2, y3, y4, y5]) (rest := [(.ref b_38)]) (lenOf pd_8 rfl) rfl rfl (Nat.le_refl _) (hb hby at_248)
  obtain ⟨rfl, n_63, K_63, GE__63, GdriverMemory__63, GdriverCores__63, GexecutorMemory__63, GexecutorCores__63, GnumExecutors__63⟩ := q_63
  have N_63 := Fr.app N_19 n_63
  have f_64 : Old Z n0 T_63.heap := f_40.keep K_63 (allS o_38 all0)
  have f_65 : RefV Z T_63.heap x1 "java/lang/String" := f_41.keep K_63
  have f_66 : IntV Z T_63.heap x2 := f_42.keepX K_63 A_38 (by decide)
  have f_67 : RefV Z T_63.heap x3 "java/lang/String" := f_43.keep K_63
  have f_68 : IntV Z T_63.heap x4 := f_44.keepX K_63 A_38 (by decide)
  have f_69 : IntV Z T_63.heap x5 := f_45.keepX K_63 A_38 (by decide)
  have f_70 : RefV Z T_63.heap y1 "java/lang/String" := f_46.keep K_63
  have f_71 : IntV Z T_63.heap y2 := f_47.keepX K_63 A_38 (by decide)
  have f_72 : RefV Z T_63.heap y3 "java/lang/String" := f_48.keep K_63
  have f_73 : IntV Z T_63.heap y4 := f_49.keepX K_63 A_38 (by decide)
  have f_74 : IntV Z T_63.heap y5 := f_50.keepX K_63 A_38 (by decide)
  have f_75 : Exa Z T_63.heap b_1 "com/example/kilnroute/kilnroute/spark/Resources" := f_51.keep K_63
  have f_76 : Fld Z T_63.heap b_1 "com/example/kilnroute/kilnroute/spark/Resources" "driverMemory" "Ljava/lang/String;" x1 := f_52.keep K_63 (ninS ne_39 nin0)
  have f_77 : Fld Z T_63.heap b_1 "com/example/kilnroute/kilnroute/spark/Resources" "driverCores" "Ljava/lang/Integer;" x2 := f_53.keep K_63 (ninS ne_39 nin0)
  have f_78 : Fld Z T_63.heap b_1 "com/example/kilnroute/kilnroute/spark/Resources" "executorMemory" "Ljava/lang/String;" x3 := f_54.keep K_63 (ninS ne_39 nin0)
  have f_79 : Fld Z T_63.heap b_1 "com/example/kilnroute/kilnroute/spark/Resources" "executorCores" "Ljava/lang/Integer;" x4 := f_55.keep K_63 (ninS ne_39 nin0)
  have f_80 : Fld Z T_63.heap b_1 "com/example/kilnroute/kilnroute/spark/Resources" "numExecutors" "Ljava/lang/Integer;" x5 := f_56.keep K_63 (ninS ne_39 nin0)
  have f_81 : Exa Z T_63.heap b_38 "com/example/kilnroute/kilnroute/spark/Resources" := A_38.keep K_63
  have K_87 : Keep h0 T_63.heap [] := K_62.trans K_63 (allS (P := fun x => x ∈ [] ∨ h0.size ≤ x) (Or.inr z_38) all0)
  have y_87 : n0 ≤ T_63.heap.size := Nat.le_trans Z0 K_87.1
  refine Goes.go (U' := (T_63.setTop (mkF m 251 #[sI_ fl, sJ_ pp, sS_, sJ_ pq, sS_, sI_ pr, sI_ ps, sI_ ph, .val x1, .val x2, .val x3, .val x4, .val x5, .val y1, .val y2, .val y3, .val y4, .val y5, sR_ b_1, sU_, sU_] [(.ref b_38)]))) st_63 ?_
  obtain ⟨w1, ha1, hb1⟩ := own_pick y1 x1
  have W1_ : RefV Z T_63.heap w1 "java/lang/String" := own_pickR (fun v => RefV Z T_63.heap v "java/lang/String") ha1 hb1 f_70 f_65
  obtain ⟨w2, ha2, hb2⟩ := own_pick y2 x2
  have W2_ : IntV Z T_63.heap w2 := own_pickR (fun v => IntV Z T_63.heap v) ha2 hb2 f_71 f_66
  obtain ⟨w3, ha3, hb3⟩ := own_pick y3 x3
  have W3_ : RefV Z T_63.heap w3 "java/lang/String" := own_pickR (fun v => RefV Z T_63.heap v "java/lang/String") ha3 hb3 f_72 f_67
  obtain ⟨w4, ha4, hb4⟩ := own_pick y4 x4
  have W4_ : IntV Z T_63.heap w4 := own_pickR (fun v => IntV Z T_63.heap v) ha4 hb4 f_73 f_68
  obtain ⟨w5, ha5, hb5⟩ := own_pick y5 x5
  have W5_ : IntV Z T_63.heap w5 := own_pickR (fun v => IntV Z T_63.heap v) ha5 hb5 f_74 f_69
  refine Goes.go (U' := (T_63.setTop (mkF m 257 #[sI_ fl, sJ_ pp, sS_, sJ_ pq, sS_, sI_ pr, sI_ ps, sI_ ph, .val x1, .val x2, .val x3, .val x4, .val x5, .val y1, .val y2, .val y3, .val y4, .val y5, sR_ b_1, sR_ b_38, sU_] [(.ref b_38), (.ref b_1)]))) (fun t kt => ?_) ?_
  · skip
    refine XS.astore X_63.here hx rfl (hb hby at_251) rfl rfl (l' := #[sI_ fl, sJ_ pp, sS_, sJ_ pq, sS_, sI_ pr, sI_ ps, sI_ ph, .val x1, .val x2, .val x3, .val x4, .val x5, .val y1, .val y2, .val y3, .val y4, .val y5, sR_ b_1, sR_ b_38, sU_]) rfl ?_
    refine XS.aload X_63.here hx rfl (hb hby at_253) rfl rfl ?_
    refine XS.aload X_63.here hx rfl (hb hby at_255) rfl rfl ?_
    exact kt
  obtain ⟨v_88, T_88, L_88, X_88, q_88, st_88⟩ := callVirtual X_63 hx hZ (y := (⟨"com/example/kilnroute/kilnroute/spark/Resources", "overriddenBy", "(Lcom/example/kilnroute/kilnroute/spark/Resources;)Lcom/example/kilnroute/kilnroute/spark/Resources;"⟩ : MethodName)) (z := (⟨"com/example/kilnroute/kilnroute/spark/Resources", "overriddenBy", "(Lcom/example/kilnroute/kilnroute/spark/Resources;)Lcom/example/kilnroute/kilnroute/spark/Resources;"⟩ : MethodName)) (W := 0) hown (wdOf hw 70 rfl) (wdOf hw 71 rfl) (notFace_of_selects (args := #[]) (mvT hZ (wdOf hw 73 rfl))) (wdOf hw 73 rfl) (wdOf hw 72 rfl) (wdOf hw 50 rfl) (wdOf hw 74 rfl) (by decide) (rm_ob l Z a0 hw [] b_1 b_38 x1 x2 x3 x4 x5 y1 y2 y3 y4 y5 w1 w2 w3 w4 w5 T_63.heap n0 y_87 f_75 f_76 f_77 f_78 f_79 f_80 f_81 GdriverMemory__63 GdriverCores__63 GexecutorMemory__63 GexecutorCores__63 GnumExecutors__63 f_65 f_66 f_67 f_68 f_69 f_70 f_71 f_72 f_73 f_74 ha1 hb1 ha2 hb2 ha3 hb3 ha4 hb4 ha5 hb5) (by decide) (by decide) (by decide) (by decide) (rfl : T_63.heap = T_63.heap) f_75 (g := (mkF m 257 #[sI_ fl, sJ_ pp, sS_, sJ_ pq, sS_, sI_ pr, sI_ ps, sI_ ph, .val x1, .val x2, .val x3, .val x4, .val x5, .val y1, .val y2, .val y3, .val y4, .val y5, sR_ b_1, sR_ b_38, sU_] [(.ref b_38), (.ref b_1)])) rfl (by rw [hml]; rfl) (argsL := [(.ref b_38)]) (rest := []) (lenOf pd_13 rfl) rfl rfl (Nat.le_refl _) (hb hby at_257)
  obtain ⟨r_88, rfl, n_88, K_88, GE__88, GdriverMemory__88, GdriverCores__88, GexecutorMemory__88, GexecutorCores__88, GnumExecutors__88⟩ := q_88
  have N_88 := Fr.app N_63 n_88
  have f_89 : Old Z n0 T_88.heap := f_64.ext K_88
  have f_90 : RefV Z T_88.heap x1 "java/lang/String" := f_65.ext K_88
  have f_91 : IntV Z T_88.heap x2 := f_66.ext K_88
  have f_92 : RefV Z T_88.heap x3 "java/lang/String" := f_67.ext K_88
  have f_93 : IntV Z T_88.heap x4 := f_68.ext K_88
  have f_94 : IntV Z T_88.heap x5 := f_69.ext K_88
  have f_95 : RefV Z T_88.heap y1 "java/lang/String" := f_70.ext K_88
  have f_96 : IntV Z T_88.heap y2 := f_71.ext K_88
  have f_97 : RefV Z T_88.heap y3 "java/lang/String" := f_72.ext K_88
  have f_98 : IntV Z T_88.heap y4 := f_73.ext K_88
  have f_99 : IntV Z T_88.heap y5 := f_74.ext K_88
  have f_100 : Exa Z T_88.heap b_1 "com/example/kilnroute/kilnroute/spark/Resources" := f_75.ext K_88
  have f_101 : Fld Z T_88.heap b_1 "com/example/kilnroute/kilnroute/spark/Resources" "driverMemory" "Ljava/lang/String;" x1 := f_76.ext K_88
  have f_102 : Fld Z T_88.heap b_1 "com/example/kilnroute/kilnroute/spark/Resources" "driverCores" "Ljava/lang/Integer;" x2 := f_77.ext K_88
  have f_103 : Fld Z T_88.heap b_1 "com/example/kilnroute/kilnroute/spark/Resources" "executorMemory" "Ljava/lang/String;" x3 := f_78.ext K_88
  have f_104 : Fld Z T_88.heap b_1 "com/example/kilnroute/kilnroute/spark/Resources" "executorCores" "Ljava/lang/Integer;" x4 := f_79.ext K_88
  have f_105 : Fld Z T_88.heap b_1 "com/example/kilnroute/kilnroute/spark/Resources" "numExecutors" "Ljava/lang/Integer;" x5 := f_80.ext K_88
  have f_106 : Exa Z T_88.heap b_38 "com/example/kilnroute/kilnroute/spark/Resources" := f_81.ext K_88
  have f_107 : Fld Z T_88.heap b_38 "com/example/kilnroute/kilnroute/spark/Resources" "driverMemory" "Ljava/lang/String;" y1 := GdriverMemory__63.ext K_88
  have f_108 : Fld Z T_88.heap b_38 "com/example/kilnroute/kilnroute/spark/Resources" "driverCores" "Ljava/lang/Integer;" y2 := GdriverCores__63.ext K_88
  have f_109 : Fld Z T_88.heap b_38 "com/example/kilnroute/kilnroute/spark/Resources" "executorMemory" "Ljava/lang/String;" y3 := GexecutorMemory__63.ext K_88
  have f_110 : Fld Z T_88.heap b_38 "com/example/kilnroute/kilnroute/spark/Resources" "executorCores" "Ljava/lang/Integer;" y4 := GexecutorCores__63.ext K_88
  have f_111 : Fld Z T_88.heap b_38 "com/example/kilnroute/kilnroute/spark/Resources" "numExecutors" "Ljava/lang/Integer;" y5 := GnumExecutors__63.ext K_88
  have K_112 : Keep h0 T_88.heap [] := K_87.ext K_88
  have y_112 : n0 ≤ T_88.heap.size := Nat.le_trans Z0 K_112.1
  refine Goes.go (U' := (T_88.setTop (mkF m 260 #[sI_ fl, sJ_ pp, sS_, sJ_ pq, sS_, sI_ pr, sI_ ps, sI_ ph, .val x1, .val x2, .val x3, .val x4, .val x5, .val y1, .val y2, .val y3, .val y4, .val y5, sR_ b_1, sR_ b_38, sU_] [(.ref r_88)]))) st_88 ?_
  refine Goes.go (U' := (T_88.setTop (mkF m 262 #[sI_ fl, sJ_ pp, sS_, sJ_ pq, sS_, sI_ pr, sI_ ps, sI_ ph, .val x1, .val x2, .val x3, .val x4, .val x5, .val y1, .val y2, .val y3, .val y4, .val y5, sR_ b_1, sR_ b_38, sR_ r_88] []))) (fun t kt => ?_) ?_
  · skip
    refine XS.astore X_88.here hx rfl (hb hby at_260) rfl rfl (l' := #[sI_ fl, sJ_ pp, sS_, sJ_ pq, sS_, sI_ pr, sI_ ps, sI_ ph, .val x1, .val x2, .val x3, .val x4, .val x5, .val y1, .val y2, .val y3, .val y4, .val y5, sR_ b_1, sR_ b_38, sR_ r_88]) rfl ?_
    exact kt
  exact law_262 l Z a0 hw fl pp pq pr ps ph cs x1 x2 x3 x4 x5 y1 y2 y3 y4 y5 b_1 b_38 r_88 w1 w2 w3 w4 w5 h0 n0 Z0 p e s m below meth c hx hby hml hown hnm hret hlk hZ _ _ _ X_88 (rfl : T_88.heap = T_88.heap) N_88 K_112 f_89 BC SH SC hcs f_90 f_91 f_92 f_93 f_94 f_95 f_96 f_97 f_98 f_99 GE__88 GdriverMemory__88 GdriverCores__88 GexecutorMemory__88 GexecutorCores__88 GnumExecutors__88 W1_.isRef ha1 hb1 W2_.isRef ha2 hb2 W3_.isRef ha3 hb3 W4_.isRef ha4 hb4 W5_.isRef ha5 hb5
set_option maxRecDepth 65536 in
set_option maxHeartbeats 40000000 in
theorem law_196 (l : Launch) (Z : State) (a0 : Array Value) (hw : ∀ d ∈ tables_1, d.before a0 Z = true) (fl : Int32) (pp pq : Int64) (pr ps ph : Int32) (cs : Int32) (x1 x2 x3 x4 x5 y1 y2 y3 y4 : Value) (h0 : Heap) (n0 : Nat) (Z0 : n0 ≤ h0.size) (p : Program) (e : Env) (s : State) (m : MethodId) (below : List Frame) (meth : Method) (c : Code) (hx : p.tables.exec = Jvm.exec) (hby : c.code = code) (hml : c.maxLocals = maxLocals) (hown : s.vm.findClass "com/example/kilnroute/kilnroute/spark/ResourcesOverriddenByPinLaw" = some m.cls) (hnm : meth.name = "law") (hret : meth.sig.returnType = ret) (hlk : meth.locks = false) (hZ : Z.Warmed39 s.vm) (h : Heap) (T : State) (locs : List Loc) (X : Stand p l e room_1 s m #[(.int fl), (.long pp), (.long pq), (.int pr), (.int ps), (.int ph)] below meth c T locs 13 25) (eT : T.heap = h) (N : Fr n0 locs) (K0 : Keep h0 h []) (O : Old Z n0 h) (BC : BoxC Z "java/lang/Integer$IntegerCache" "[Ljava/lang/Integer;" "java/lang/Integer" "I" (fun i => .int (i.toInt32 - 128))) (SH : Sta Z Z.heap "java/lang/Integer$IntegerCache" "high" "I" (.int (127 : Int32))) (SC : Sta Z Z.heap "java/lang/String" "COMPACT_STRINGS" "Z" (.int cs)) (hcs : ¬ cs = 0) (Ux1 : RefV Z h x1 "java/lang/String") (Ux2 : IntV Z h x2) (Ux3 : RefV Z h x3 "java/lang/String") (Ux4 : IntV Z h x4) (Ux5 : IntV Z h x5) (Uy1 : RefV Z h y1 "java/lang/String") (Uy2 : IntV Z h y2) (Uy3 : RefV Z h y3 "java/lang/String") (Uy4 : IntV Z h y4) :
    Goes p e s below (fun v h L => v = some (.int 1) ∧ Fr n0 L) room_1.cells room_1.slots (T.setTop (mkF m 196 #[sI_ fl, sJ_ pp, sS_, sJ_ pq, sS_, sI_ pr, sI_ ps, sI_ ph, .val x1, .val x2, .val x3, .val x4, .val x5, .val y1, .val y2, .val y3, .val y4, sU_, sU_, sU_, sU_] [])) := by
  have sz0 : n0 ≤ h.size := Nat.le_trans Z0 K0.1
  refine Goes.go (U' := (T.setTop (mkF m 201 #[sI_ fl, sJ_ pp, sS_, sJ_ pq, sS_, sI_ pr, sI_ ps, sI_ ph, .val x1, .val x2, .val x3, .val x4, .val x5, .val y1, .val y2, .val y3, .val y4, sU_, sU_, sU_, sU_] [(.int (fl &&& (512 : Int32)))]))) (fun t kt => ?_) ?_
  · skip
    refine XS.iloadN X.here hx rfl (hb hby at_196) rfl ?_
    refine XS.sipush X.here hx rfl (hb hby at_197) ?_
    refine XS.iand X.here hx rfl (hb hby at_200) rfl ?_
    exact kt
  by_cases cc : (fl &&& (512 : Int32)) = 0
  · -- (fl &&& (512 : Int32)) = 0
    refine Goes.go (U' := (T.setTop (mkF m 210 #[sI_ fl, sJ_ pp, sS_, sJ_ pq, sS_, sI_ pr, sI_ ps, sI_ ph, .val x1, .val x2, .val x3, .val x4, .val x5, .val y1, .val y2, .val y3, .val y4, sU_, sU_, sU_, sU_] [(.int ps)]))) (fun t kt => ?_) ?_
    · skip
      refine XS.ifYes X.here hx rfl (pc0 := 201) (pc' := 208) rfl (hb hby at_201) rfl (XT.i0_eq_t cc) (by decide) (by decide) ?_
      refine XS.iload X.here hx rfl (hb hby at_208) rfl ?_
      exact kt
    obtain ⟨v_1, T_1, L_1, X_1, q_1, st_1⟩ := callStatic X hx hZ (y := (⟨"java/lang/Integer", "valueOf", "(I)Ljava/lang/Integer;"⟩ : MethodName)) (W := 0) hown (wdOf hw 26 rfl) (wdOf hw 27 rfl) (wdOf hw 28 rfl) (wdOf hw 29 rfl) (by decide) (rm_vo l Z a0 hw [] ps h n0 sz0 O BC SH) (by decide) (by decide) (by decide) (by decide) eT (g := (mkF m 210 #[sI_ fl, sJ_ pp, sS_, sJ_ pq, sS_, sI_ pr, sI_ ps, sI_ ph, .val x1, .val x2, .val x3, .val x4, .val x5, .val y1, .val y2, .val y3, .val y4, sU_, sU_, sU_, sU_] [(.int ps)])) rfl (by rw [hml]; rfl) (argsL := [(.int ps)]) (rest := []) (lenOf pd_14 rfl) rfl rfl (Nat.le_refl _) (hb hby at_210)
    obtain ⟨r_1, rfl, n_1, K_1, E_1, F_1⟩ := q_1
    have N_1 := Fr.app N n_1
    have f_2 : Old Z n0 T_1.heap := O.ext K_1
    have f_3 : RefV Z T_1.heap x1 "java/lang/String" := Ux1.ext K_1
    have f_4 : IntV Z T_1.heap x2 := Ux2.ext K_1
    have f_5 : RefV Z T_1.heap x3 "java/lang/String" := Ux3.ext K_1
    have f_6 : IntV Z T_1.heap x4 := Ux4.ext K_1
    have f_7 : IntV Z T_1.heap x5 := Ux5.ext K_1
    have f_8 : RefV Z T_1.heap y1 "java/lang/String" := Uy1.ext K_1
    have f_9 : IntV Z T_1.heap y2 := Uy2.ext K_1
    have f_10 : RefV Z T_1.heap y3 "java/lang/String" := Uy3.ext K_1
    have f_11 : IntV Z T_1.heap y4 := Uy4.ext K_1
    have K_12 : Keep h0 T_1.heap [] := K0.ext K_1
    have y_12 : n0 ≤ T_1.heap.size := Nat.le_trans Z0 K_12.1
    refine Goes.go (U' := (T_1.setTop (mkF m 213 #[sI_ fl, sJ_ pp, sS_, sJ_ pq, sS_, sI_ pr, sI_ ps, sI_ ph, .val x1, .val x2, .val x3, .val x4, .val x5, .val y1, .val y2, .val y3, .val y4, sU_, sU_, sU_, sU_] [(.ref r_1)]))) st_1 ?_
    refine Goes.go (U' := (T_1.setTop (mkF m 215 #[sI_ fl, sJ_ pp, sS_, sJ_ pq, sS_, sI_ pr, sI_ ps, sI_ ph, .val x1, .val x2, .val x3, .val x4, .val x5, .val y1, .val y2, .val y3, .val y4, sR_ r_1, sU_, sU_, sU_] []))) (fun t kt => ?_) ?_
    · skip
      refine XS.astore X_1.here hx rfl (hb hby at_213) rfl rfl (l' := #[sI_ fl, sJ_ pp, sS_, sJ_ pq, sS_, sI_ pr, sI_ ps, sI_ ph, .val x1, .val x2, .val x3, .val x4, .val x5, .val y1, .val y2, .val y3, .val y4, sR_ r_1, sU_, sU_, sU_]) rfl ?_
      exact kt
    exact law_215 l Z a0 hw fl pp pq pr ps ph cs x1 x2 x3 x4 x5 y1 y2 y3 y4 (.ref r_1) h0 n0 Z0 p e s m below meth c hx hby hml hown hnm hret hlk hZ _ _ _ X_1 (rfl : T_1.heap = T_1.heap) N_1 K_12 f_2 BC SH SC hcs f_3 f_4 f_5 f_6 f_7 f_8 f_9 f_10 f_11 (Or.inr ⟨_, _, rfl, E_1, F_1⟩)
  · -- not (fl &&& (512 : Int32)) = 0
    refine Goes.go (U' := (T.setTop (mkF m 215 #[sI_ fl, sJ_ pp, sS_, sJ_ pq, sS_, sI_ pr, sI_ ps, sI_ ph, .val x1, .val x2, .val x3, .val x4, .val x5, .val y1, .val y2, .val y3, .val y4, .val .null, sU_, sU_, sU_] []))) (fun t kt => ?_) ?_
    · skip
      refine XS.ifNo X.here hx rfl (hb hby at_201) rfl (XT.i0_eq_f cc) ?_
      refine XS.aconstNull X.here hx rfl (hb hby at_204) ?_
      refine XS.goto X.here hx rfl (pc0 := 205) (pc' := 213) rfl (hb hby at_205) (by decide) (by decide) ?_
      refine XS.astore X.here hx rfl (hb hby at_213) rfl rfl (l' := #[sI_ fl, sJ_ pp, sS_, sJ_ pq, sS_, sI_ pr, sI_ ps, sI_ ph, .val x1, .val x2, .val x3, .val x4, .val x5, .val y1, .val y2, .val y3, .val y4, .val .null, sU_, sU_, sU_]) rfl ?_
      exact kt
    exact law_215 l Z a0 hw fl pp pq pr ps ph cs x1 x2 x3 x4 x5 y1 y2 y3 y4 Value.null h0 n0 Z0 p e s m below meth c hx hby hml hown hnm hret hlk hZ _ _ _ (moreRoom (cells' := 14) (slots' := 26) X (by decide) (by decide)) eT N K0 O BC SH SC hcs Ux1 Ux2 Ux3 Ux4 Ux5 Uy1 Uy2 Uy3 Uy4 (Or.inl rfl)
set_option maxRecDepth 65536 in
set_option maxHeartbeats 40000000 in
theorem law_177 (l : Launch) (Z : State) (a0 : Array Value) (hw : ∀ d ∈ tables_1, d.before a0 Z = true) (fl : Int32) (pp pq : Int64) (pr ps ph : Int32) (cs : Int32) (x1 x2 x3 x4 x5 y1 y2 y3 : Value) (h0 : Heap) (n0 : Nat) (Z0 : n0 ≤ h0.size) (p : Program) (e : Env) (s : State) (m : MethodId) (below : List Frame) (meth : Method) (c : Code) (hx : p.tables.exec = Jvm.exec) (hby : c.code = code) (hml : c.maxLocals = maxLocals) (hown : s.vm.findClass "com/example/kilnroute/kilnroute/spark/ResourcesOverriddenByPinLaw" = some m.cls) (hnm : meth.name = "law") (hret : meth.sig.returnType = ret) (hlk : meth.locks = false) (hZ : Z.Warmed39 s.vm) (h : Heap) (T : State) (locs : List Loc) (X : Stand p l e room_1 s m #[(.int fl), (.long pp), (.long pq), (.int pr), (.int ps), (.int ph)] below meth c T locs 12 24) (eT : T.heap = h) (N : Fr n0 locs) (K0 : Keep h0 h []) (O : Old Z n0 h) (BC : BoxC Z "java/lang/Integer$IntegerCache" "[Ljava/lang/Integer;" "java/lang/Integer" "I" (fun i => .int (i.toInt32 - 128))) (SH : Sta Z Z.heap "java/lang/Integer$IntegerCache" "high" "I" (.int (127 : Int32))) (SC : Sta Z Z.heap "java/lang/String" "COMPACT_STRINGS" "Z" (.int cs)) (hcs : ¬ cs = 0) (Ux1 : RefV Z h x1 "java/lang/String") (Ux2 : IntV Z h x2) (Ux3 : RefV Z h x3 "java/lang/String") (Ux4 : IntV Z h x4) (Ux5 : IntV Z h x5) (Uy1 : RefV Z h y1 "java/lang/String") (Uy2 : IntV Z h y2) (Uy3 : RefV Z h y3 "java/lang/String") :
    Goes p e s below (fun v h L => v = some (.int 1) ∧ Fr n0 L) room_1.cells room_1.slots (T.setTop (mkF m 177 #[sI_ fl, sJ_ pp, sS_, sJ_ pq, sS_, sI_ pr, sI_ ps, sI_ ph, .val x1, .val x2, .val x3, .val x4, .val x5, .val y1, .val y2, .val y3, sU_, sU_, sU_, sU_, sU_] [])) := by
  have sz0 : n0 ≤ h.size := Nat.le_trans Z0 K0.1
  refine Goes.go (U' := (T.setTop (mkF m 182 #[sI_ fl, sJ_ pp, sS_, sJ_ pq, sS_, sI_ pr, sI_ ps, sI_ ph, .val x1, .val x2, .val x3, .val x4, .val x5, .val y1, .val y2, .val y3, sU_, sU_, sU_, sU_, sU_] [(.int (fl &&& (256 : Int32)))]))) (fun t kt => ?_) ?_
  · skip
    refine XS.iloadN X.here hx rfl (hb hby at_177) rfl ?_
    refine XS.sipush X.here hx rfl (hb hby at_178) ?_
    refine XS.iand X.here hx rfl (hb hby at_181) rfl ?_
    exact kt
  by_cases cc : (fl &&& (256 : Int32)) = 0
  · -- (fl &&& (256 : Int32)) = 0
    refine Goes.go (U' := (T.setTop (mkF m 191 #[sI_ fl, sJ_ pp, sS_, sJ_ pq, sS_, sI_ pr, sI_ ps, sI_ ph, .val x1, .val x2, .val x3, .val x4, .val x5, .val y1, .val y2, .val y3, sU_, sU_, sU_, sU_, sU_] [(.int (pq.toInt32))]))) (fun t kt => ?_) ?_
    · skip
      refine XS.ifYes X.here hx rfl (pc0 := 182) (pc' := 189) rfl (hb hby at_182) rfl (XT.i0_eq_t cc) (by decide) (by decide) ?_
      refine XS.lloadN X.here hx rfl (hb hby at_189) rfl ?_
      refine XS.l2i X.here hx rfl (hb hby at_190) rfl ?_
      exact kt
    obtain ⟨v_1, T_1, L_1, X_1, q_1, st_1⟩ := callStatic X hx hZ (y := (⟨"java/lang/Integer", "valueOf", "(I)Ljava/lang/Integer;"⟩ : MethodName)) (W := 0) hown (wdOf hw 26 rfl) (wdOf hw 27 rfl) (wdOf hw 28 rfl) (wdOf hw 29 rfl) (by decide) (rm_vo l Z a0 hw [] (pq.toInt32) h n0 sz0 O BC SH) (by decide) (by decide) (by decide) (by decide) eT (g := (mkF m 191 #[sI_ fl, sJ_ pp, sS_, sJ_ pq, sS_, sI_ pr, sI_ ps, sI_ ph, .val x1, .val x2, .val x3, .val x4, .val x5, .val y1, .val y2, .val y3, sU_, sU_, sU_, sU_, sU_] [(.int (pq.toInt32))])) rfl (by rw [hml]; rfl) (argsL := [(.int (pq.toInt32))]) (rest := []) (lenOf pd_14 rfl) rfl rfl (Nat.le_refl _) (hb hby at_191)
    obtain ⟨r_1, rfl, n_1, K_1, E_1, F_1⟩ := q_1
    have N_1 := Fr.app N n_1
    have f_2 : Old Z n0 T_1.heap := O.ext K_1
    have f_3 : RefV Z T_1.heap x1 "java/lang/String" := Ux1.ext K_1
    have f_4 : IntV Z T_1.heap x2 := Ux2.ext K_1
    have f_5 : RefV Z T_1.heap x3 "java/lang/String" := Ux3.ext K_1
    have f_6 : IntV Z T_1.heap x4 := Ux4.ext K_1
    have f_7 : IntV Z T_1.heap x5 := Ux5.ext K_1
    have f_8 : RefV Z T_1.heap y1 "java/lang/String" := Uy1.ext K_1
    have f_9 : IntV Z T_1.heap y2 := Uy2.ext K_1
    have f_10 : RefV Z T_1.heap y3 "java/lang/String" := Uy3.ext K_1
    have K_11 : Keep h0 T_1.heap [] := K0.ext K_1
    have y_11 : n0 ≤ T_1.heap.size := Nat.le_trans Z0 K_11.1
    refine Goes.go (U' := (T_1.setTop (mkF m 194 #[sI_ fl, sJ_ pp, sS_, sJ_ pq, sS_, sI_ pr, sI_ ps, sI_ ph, .val x1, .val x2, .val x3, .val x4, .val x5, .val y1, .val y2, .val y3, sU_, sU_, sU_, sU_, sU_] [(.ref r_1)]))) st_1 ?_
    refine Goes.go (U' := (T_1.setTop (mkF m 196 #[sI_ fl, sJ_ pp, sS_, sJ_ pq, sS_, sI_ pr, sI_ ps, sI_ ph, .val x1, .val x2, .val x3, .val x4, .val x5, .val y1, .val y2, .val y3, sR_ r_1, sU_, sU_, sU_, sU_] []))) (fun t kt => ?_) ?_
    · skip
      refine XS.astore X_1.here hx rfl (hb hby at_194) rfl rfl (l' := #[sI_ fl, sJ_ pp, sS_, sJ_ pq, sS_, sI_ pr, sI_ ps, sI_ ph, .val x1, .val x2, .val x3, .val x4, .val x5, .val y1, .val y2, .val y3, sR_ r_1, sU_, sU_, sU_, sU_]) rfl ?_
      exact kt
    exact law_196 l Z a0 hw fl pp pq pr ps ph cs x1 x2 x3 x4 x5 y1 y2 y3 (.ref r_1) h0 n0 Z0 p e s m below meth c hx hby hml hown hnm hret hlk hZ _ _ _ X_1 (rfl : T_1.heap = T_1.heap) N_1 K_11 f_2 BC SH SC hcs f_3 f_4 f_5 f_6 f_7 f_8 f_9 f_10 (Or.inr ⟨_, _, rfl, E_1, F_1⟩)
  · -- not (fl &&& (256 : Int32)) = 0
    refine Goes.go (U' := (T.setTop (mkF m 196 #[sI_ fl, sJ_ pp, sS_, sJ_ pq, sS_, sI_ pr, sI_ ps, sI_ ph, .val x1, .val x2, .val x3, .val x4, .val x5, .val y1, .val y2, .val y3, .val .null, sU_, sU_, sU_, sU_] []))) (fun t kt => ?_) ?_
    · skip
      refine XS.ifNo X.here hx rfl (hb hby at_182) rfl (XT.i0_eq_f cc) ?_
      refine XS.aconstNull X.here hx rfl (hb hby at_185) ?_
      refine XS.goto X.here hx rfl (pc0 := 186) (pc' := 194) rfl (hb hby at_186) (by decide) (by decide) ?_
      refine XS.astore X.here hx rfl (hb hby at_194) rfl rfl (l' := #[sI_ fl, sJ_ pp, sS_, sJ_ pq, sS_, sI_ pr, sI_ ps, sI_ ph, .val x1, .val x2, .val x3, .val x4, .val x5, .val y1, .val y2, .val y3, .val .null, sU_, sU_, sU_, sU_]) rfl ?_
      exact kt
    exact law_196 l Z a0 hw fl pp pq pr ps ph cs x1 x2 x3 x4 x5 y1 y2 y3 Value.null h0 n0 Z0 p e s m below meth c hx hby hml hown hnm hret hlk hZ _ _ _ (moreRoom (cells' := 13) (slots' := 25) X (by decide) (by decide)) eT N K0 O BC SH SC hcs Ux1 Ux2 Ux3 Ux4 Ux5 Uy1 Uy2 Uy3 (Or.inl rfl)
set_option maxRecDepth 65536 in
set_option maxHeartbeats 40000000 in
theorem law_150 (l : Launch) (Z : State) (a0 : Array Value) (hw : ∀ d ∈ tables_1, d.before a0 Z = true) (fl : Int32) (pp pq : Int64) (pr ps ph : Int32) (cs : Int32) (x1 x2 x3 x4 x5 y1 y2 : Value) (h0 : Heap) (n0 : Nat) (Z0 : n0 ≤ h0.size) (p : Program) (e : Env) (s : State) (m : MethodId) (below : List Frame) (meth : Method) (c : Code) (hx : p.tables.exec = Jvm.exec) (hby : c.code = code) (hml : c.maxLocals = maxLocals) (hown : s.vm.findClass "com/example/kilnroute/kilnroute/spark/ResourcesOverriddenByPinLaw" = some m.cls) (hnm : meth.name = "law") (hret : meth.sig.returnType = ret) (hlk : meth.locks = false) (hZ : Z.Warmed39 s.vm) (h : Heap) (T : State) (locs : List Loc) (X : Stand p l e room_1 s m #[(.int fl), (.long pp), (.long pq), (.int pr), (.int ps), (.int ph)] below meth c T locs 10 19) (eT : T.heap = h) (N : Fr n0 locs) (K0 : Keep h0 h []) (O : Old Z n0 h) (BC : BoxC Z "java/lang/Integer$IntegerCache" "[Ljava/lang/Integer;" "java/lang/Integer" "I" (fun i => .int (i.toInt32 - 128))) (SH : Sta Z Z.heap "java/lang/Integer$IntegerCache" "high" "I" (.int (127 : Int32))) (SC : Sta Z Z.heap "java/lang/String" "COMPACT_STRINGS" "Z" (.int cs)) (hcs : ¬ cs = 0) (Ux1 : RefV Z h x1 "java/lang/String") (Ux2 : IntV Z h x2) (Ux3 : RefV Z h x3 "java/lang/String") (Ux4 : IntV Z h x4) (Ux5 : IntV Z h x5) (Uy1 : RefV Z h y1 "java/lang/String") (Uy2 : IntV Z h y2) :
    Goes p e s below (fun v h L => v = some (.int 1) ∧ Fr n0 L) room_1.cells room_1.slots (T.setTop (mkF m 150 #[sI_ fl, sJ_ pp, sS_, sJ_ pq, sS_, sI_ pr, sI_ ps, sI_ ph, .val x1, .val x2, .val x3, .val x4, .val x5, .val y1, .val y2, sU_, sU_, sU_, sU_, sU_, sU_] [])) := by
  have sz0 : n0 ≤ h.size := Nat.le_trans Z0 K0.1
  refine Goes.go (U' := (T.setTop (mkF m 155 #[sI_ fl, sJ_ pp, sS_, sJ_ pq, sS_, sI_ pr, sI_ ps, sI_ ph, .val x1, .val x2, .val x3, .val x4, .val x5, .val y1, .val y2, sU_, sU_, sU_, sU_, sU_, sU_] [(.int (fl &&& (128 : Int32)))]))) (fun t kt => ?_) ?_
  · skip
    refine XS.iloadN X.here hx rfl (hb hby at_150) rfl ?_
    refine XS.sipush X.here hx rfl (hb hby at_151) ?_
    refine XS.iand X.here hx rfl (hb hby at_154) rfl ?_
    exact kt
  by_cases cc : (fl &&& (128 : Int32)) = 0
  · -- (fl &&& (128 : Int32)) = 0
    refine Goes.go (U' := (T.setTop (mkF m 172 #[sI_ fl, sJ_ pp, sS_, sJ_ pq, sS_, sI_ pr, sI_ ps, sI_ ph, .val x1, .val x2, .val x3, .val x4, .val x5, .val y1, .val y2, sU_, sU_, sU_, sU_, sU_, sU_] [(.int ((((ph.toUInt32 >>> ((24 : Int32) &&& 31).toUInt32).toInt32) &&& (255 : Int32)).toUInt32.toUInt16.toUInt32.toInt32))]))) (fun t kt => ?_) ?_
    · skip
      refine XS.ifYes X.here hx rfl (pc0 := 155) (pc' := 162) rfl (hb hby at_155) rfl (XT.i0_eq_t cc) (by decide) (by decide) ?_
      refine XS.iload X.here hx rfl (hb hby at_162) rfl ?_
      refine XS.bipush X.here hx rfl (hb hby at_164) ?_
      refine XS.iushr X.here hx rfl (hb hby at_166) rfl ?_
      refine XS.sipush X.here hx rfl (hb hby at_167) ?_
      refine XS.iand X.here hx rfl (hb hby at_170) rfl ?_
      refine XS.i2c X.here hx rfl (hb hby at_171) rfl ?_
      exact kt
    obtain ⟨v_1, T_1, L_1, X_1, q_1, st_1⟩ := callStatic X hx hZ (y := (⟨"java/lang/String", "valueOf", "(C)Ljava/lang/String;"⟩ : MethodName)) (W := 0) hown (wdOf hw 0 rfl) (wdOf hw 1 rfl) (wdOf hw 2 rfl) (wdOf hw 3 rfl) (by decide) (rm_sv l Z a0 hw [] ((((ph.toUInt32 >>> ((24 : Int32) &&& 31).toUInt32).toInt32) &&& (255 : Int32)).toUInt32.toUInt16.toUInt32.toInt32) cs h n0 sz0 O SC hcs (own_ff _)) (by decide) (by decide) (by decide) (by decide) eT (g := (mkF m 172 #[sI_ fl, sJ_ pp, sS_, sJ_ pq, sS_, sI_ pr, sI_ ps, sI_ ph, .val x1, .val x2, .val x3, .val x4, .val x5, .val y1, .val y2, sU_, sU_, sU_, sU_, sU_, sU_] [(.int ((((ph.toUInt32 >>> ((24 : Int32) &&& 31).toUInt32).toInt32) &&& (255 : Int32)).toUInt32.toUInt16.toUInt32.toInt32))])) rfl (by rw [hml]; rfl) (argsL := [(.int ((((ph.toUInt32 >>> ((24 : Int32) &&& 31).toUInt32).toInt32) &&& (255 : Int32)).toUInt32.toUInt16.toUInt32.toInt32))]) (rest := []) (lenOf pd_15 rfl) rfl rfl (Nat.le_refl _) (hb hby at_172)
    obtain ⟨r_1, rb_1, kb_1, rfl, n_1, K_1, E_1, -, -, -⟩ := q_1
    have N_1 := Fr.app N n_1
    have f_2 : Old Z n0 T_1.heap := O.ext K_1
    have f_3 : RefV Z T_1.heap x1 "java/lang/String" := Ux1.ext K_1
    have f_4 : IntV Z T_1.heap x2 := Ux2.ext K_1
    have f_5 : RefV Z T_1.heap x3 "java/lang/String" := Ux3.ext K_1
    have f_6 : IntV Z T_1.heap x4 := Ux4.ext K_1
    have f_7 : IntV Z T_1.heap x5 := Ux5.ext K_1
    have f_8 : RefV Z T_1.heap y1 "java/lang/String" := Uy1.ext K_1
    have f_9 : IntV Z T_1.heap y2 := Uy2.ext K_1
    have K_10 : Keep h0 T_1.heap [] := K0.ext K_1
    have y_10 : n0 ≤ T_1.heap.size := Nat.le_trans Z0 K_10.1
    refine Goes.go (U' := (T_1.setTop (mkF m 175 #[sI_ fl, sJ_ pp, sS_, sJ_ pq, sS_, sI_ pr, sI_ ps, sI_ ph, .val x1, .val x2, .val x3, .val x4, .val x5, .val y1, .val y2, sU_, sU_, sU_, sU_, sU_, sU_] [(.ref r_1)]))) st_1 ?_
    refine Goes.go (U' := (T_1.setTop (mkF m 177 #[sI_ fl, sJ_ pp, sS_, sJ_ pq, sS_, sI_ pr, sI_ ps, sI_ ph, .val x1, .val x2, .val x3, .val x4, .val x5, .val y1, .val y2, sR_ r_1, sU_, sU_, sU_, sU_, sU_] []))) (fun t kt => ?_) ?_
    · skip
      refine XS.astore X_1.here hx rfl (hb hby at_175) rfl rfl (l' := #[sI_ fl, sJ_ pp, sS_, sJ_ pq, sS_, sI_ pr, sI_ ps, sI_ ph, .val x1, .val x2, .val x3, .val x4, .val x5, .val y1, .val y2, sR_ r_1, sU_, sU_, sU_, sU_, sU_]) rfl ?_
      exact kt
    exact law_177 l Z a0 hw fl pp pq pr ps ph cs x1 x2 x3 x4 x5 y1 y2 (.ref r_1) h0 n0 Z0 p e s m below meth c hx hby hml hown hnm hret hlk hZ _ _ _ X_1 (rfl : T_1.heap = T_1.heap) N_1 K_10 f_2 BC SH SC hcs f_3 f_4 f_5 f_6 f_7 f_8 f_9 (Or.inr ⟨_, rfl, E_1⟩)
  · -- not (fl &&& (128 : Int32)) = 0
    refine Goes.go (U' := (T.setTop (mkF m 177 #[sI_ fl, sJ_ pp, sS_, sJ_ pq, sS_, sI_ pr, sI_ ps, sI_ ph, .val x1, .val x2, .val x3, .val x4, .val x5, .val y1, .val y2, .val .null, sU_, sU_, sU_, sU_, sU_] []))) (fun t kt => ?_) ?_
    · skip
      refine XS.ifNo X.here hx rfl (hb hby at_155) rfl (XT.i0_eq_f cc) ?_
      refine XS.aconstNull X.here hx rfl (hb hby at_158) ?_
      refine XS.goto X.here hx rfl (pc0 := 159) (pc' := 175) rfl (hb hby at_159) (by decide) (by decide) ?_
      refine XS.astore X.here hx rfl (hb hby at_175) rfl rfl (l' := #[sI_ fl, sJ_ pp, sS_, sJ_ pq, sS_, sI_ pr, sI_ ps, sI_ ph, .val x1, .val x2, .val x3, .val x4, .val x5, .val y1, .val y2, .val .null, sU_, sU_, sU_, sU_, sU_]) rfl ?_
      exact kt
    exact law_177 l Z a0 hw fl pp pq pr ps ph cs x1 x2 x3 x4 x5 y1 y2 Value.null h0 n0 Z0 p e s m below meth c hx hby hml hown hnm hret hlk hZ _ _ _ (moreRoom (cells' := 12) (slots' := 24) X (by decide) (by decide)) eT N K0 O BC SH SC hcs Ux1 Ux2 Ux3 Ux4 Ux5 Uy1 Uy2 (Or.inl rfl)
set_option maxRecDepth 65536 in
set_option maxHeartbeats 40000000 in
theorem law_129 (l : Launch) (Z : State) (a0 : Array Value) (hw : ∀ d ∈ tables_1, d.before a0 Z = true) (fl : Int32) (pp pq : Int64) (pr ps ph : Int32) (cs : Int32) (x1 x2 x3 x4 x5 y1 : Value) (h0 : Heap) (n0 : Nat) (Z0 : n0 ≤ h0.size) (p : Program) (e : Env) (s : State) (m : MethodId) (below : List Frame) (meth : Method) (c : Code) (hx : p.tables.exec = Jvm.exec) (hby : c.code = code) (hml : c.maxLocals = maxLocals) (hown : s.vm.findClass "com/example/kilnroute/kilnroute/spark/ResourcesOverriddenByPinLaw" = some m.cls) (hnm : meth.name = "law") (hret : meth.sig.returnType = ret) (hlk : meth.locks = false) (hZ : Z.Warmed39 s.vm) (h : Heap) (T : State) (locs : List Loc) (X : Stand p l e room_1 s m #[(.int fl), (.long pp), (.long pq), (.int pr), (.int ps), (.int ph)] below meth c T locs 9 18) (eT : T.heap = h) (N : Fr n0 locs) (K0 : Keep h0 h []) (O : Old Z n0 h) (BC : BoxC Z "java/lang/Integer$IntegerCache" "[Ljava/lang/Integer;" "java/lang/Integer" "I" (fun i => .int (i.toInt32 - 128))) (SH : Sta Z Z.heap "java/lang/Integer$IntegerCache" "high" "I" (.int (127 : Int32))) (SC : Sta Z Z.heap "java/lang/String" "COMPACT_STRINGS" "Z" (.int cs)) (hcs : ¬ cs = 0) (Ux1 : RefV Z h x1 "java/lang/String") (Ux2 : IntV Z h x2) (Ux3 : RefV Z h x3 "java/lang/String") (Ux4 : IntV Z h x4) (Ux5 : IntV Z h x5) (Uy1 : RefV Z h y1 "java/lang/String") :
    Goes p e s below (fun v h L => v = some (.int 1) ∧ Fr n0 L) room_1.cells room_1.slots (T.setTop (mkF m 129 #[sI_ fl, sJ_ pp, sS_, sJ_ pq, sS_, sI_ pr, sI_ ps, sI_ ph, .val x1, .val x2, .val x3, .val x4, .val x5, .val y1, sU_, sU_, sU_, sU_, sU_, sU_, sU_] [])) := by
  have sz0 : n0 ≤ h.size := Nat.le_trans Z0 K0.1
  refine Goes.go (U' := (T.setTop (mkF m 133 #[sI_ fl, sJ_ pp, sS_, sJ_ pq, sS_, sI_ pr, sI_ ps, sI_ ph, .val x1, .val x2, .val x3, .val x4, .val x5, .val y1, sU_, sU_, sU_, sU_, sU_, sU_, sU_] [(.int (fl &&& (64 : Int32)))]))) (fun t kt => ?_) ?_
  · skip
    refine XS.iloadN X.here hx rfl (hb hby at_129) rfl ?_
    refine XS.bipush X.here hx rfl (hb hby at_130) ?_
    refine XS.iand X.here hx rfl (hb hby at_132) rfl ?_
    exact kt
  by_cases cc : (fl &&& (64 : Int32)) = 0
  · -- (fl &&& (64 : Int32)) = 0
    refine Goes.go (U' := (T.setTop (mkF m 145 #[sI_ fl, sJ_ pp, sS_, sJ_ pq, sS_, sI_ pr, sI_ ps, sI_ ph, .val x1, .val x2, .val x3, .val x4, .val x5, .val y1, sU_, sU_, sU_, sU_, sU_, sU_, sU_] [(.int (((pq.toUInt64 >>> ((32 : Int32) &&& 0x3f).toInt64.toUInt64).toInt64).toInt32))]))) (fun t kt => ?_) ?_
    · skip
      refine XS.ifYes X.here hx rfl (pc0 := 133) (pc' := 140) rfl (hb hby at_133) rfl (XT.i0_eq_t cc) (by decide) (by decide) ?_
      refine XS.lloadN X.here hx rfl (hb hby at_140) rfl ?_
      refine XS.bipush X.here hx rfl (hb hby at_141) ?_
      refine XS.lushr X.here hx rfl (hb hby at_143) rfl ?_
      refine XS.l2i X.here hx rfl (hb hby at_144) rfl ?_
      exact kt
    obtain ⟨v_1, T_1, L_1, X_1, q_1, st_1⟩ := callStatic X hx hZ (y := (⟨"java/lang/Integer", "valueOf", "(I)Ljava/lang/Integer;"⟩ : MethodName)) (W := 0) hown (wdOf hw 26 rfl) (wdOf hw 27 rfl) (wdOf hw 28 rfl) (wdOf hw 29 rfl) (by decide) (rm_vo l Z a0 hw [] (((pq.toUInt64 >>> ((32 : Int32) &&& 0x3f).toInt64.toUInt64).toInt64).toInt32) h n0 sz0 O BC SH) (by decide) (by decide) (by decide) (by decide) eT (g := (mkF m 145 #[sI_ fl, sJ_ pp, sS_, sJ_ pq, sS_, sI_ pr, sI_ ps, sI_ ph, .val x1, .val x2, .val x3, .val x4, .val x5, .val y1, sU_, sU_, sU_, sU_, sU_, sU_, sU_] [(.int (((pq.toUInt64 >>> ((32 : Int32) &&& 0x3f).toInt64.toUInt64).toInt64).toInt32))])) rfl (by rw [hml]; rfl) (argsL := [(.int (((pq.toUInt64 >>> ((32 : Int32) &&& 0x3f).toInt64.toUInt64).toInt64).toInt32))]) (rest := []) (lenOf pd_14 rfl) rfl rfl (Nat.le_refl _) (hb hby at_145)
    obtain ⟨r_1, rfl, n_1, K_1, E_1, F_1⟩ := q_1
    have N_1 := Fr.app N n_1
    have f_2 : Old Z n0 T_1.heap := O.ext K_1
    have f_3 : RefV Z T_1.heap x1 "java/lang/String" := Ux1.ext K_1
    have f_4 : IntV Z T_1.heap x2 := Ux2.ext K_1
    have f_5 : RefV Z T_1.heap x3 "java/lang/String" := Ux3.ext K_1
    have f_6 : IntV Z T_1.heap x4 := Ux4.ext K_1
    have f_7 : IntV Z T_1.heap x5 := Ux5.ext K_1
    have f_8 : RefV Z T_1.heap y1 "java/lang/String" := Uy1.ext K_1
    have K_9 : Keep h0 T_1.heap [] := K0.ext K_1
    have y_9 : n0 ≤ T_1.heap.size := Nat.le_trans Z0 K_9.1
    refine Goes.go (U' := (T_1.setTop (mkF m 148 #[sI_ fl, sJ_ pp, sS_, sJ_ pq, sS_, sI_ pr, sI_ ps, sI_ ph, .val x1, .val x2, .val x3, .val x4, .val x5, .val y1, sU_, sU_, sU_, sU_, sU_, sU_, sU_] [(.ref r_1)]))) st_1 ?_
    refine Goes.go (U' := (T_1.setTop (mkF m 150 #[sI_ fl, sJ_ pp, sS_, sJ_ pq, sS_, sI_ pr, sI_ ps, sI_ ph, .val x1, .val x2, .val x3, .val x4, .val x5, .val y1, sR_ r_1, sU_, sU_, sU_, sU_, sU_, sU_] []))) (fun t kt => ?_) ?_
    · skip
      refine XS.astore X_1.here hx rfl (hb hby at_148) rfl rfl (l' := #[sI_ fl, sJ_ pp, sS_, sJ_ pq, sS_, sI_ pr, sI_ ps, sI_ ph, .val x1, .val x2, .val x3, .val x4, .val x5, .val y1, sR_ r_1, sU_, sU_, sU_, sU_, sU_, sU_]) rfl ?_
      exact kt
    exact law_150 l Z a0 hw fl pp pq pr ps ph cs x1 x2 x3 x4 x5 y1 (.ref r_1) h0 n0 Z0 p e s m below meth c hx hby hml hown hnm hret hlk hZ _ _ _ X_1 (rfl : T_1.heap = T_1.heap) N_1 K_9 f_2 BC SH SC hcs f_3 f_4 f_5 f_6 f_7 f_8 (Or.inr ⟨_, _, rfl, E_1, F_1⟩)
  · -- not (fl &&& (64 : Int32)) = 0
    refine Goes.go (U' := (T.setTop (mkF m 150 #[sI_ fl, sJ_ pp, sS_, sJ_ pq, sS_, sI_ pr, sI_ ps, sI_ ph, .val x1, .val x2, .val x3, .val x4, .val x5, .val y1, .val .null, sU_, sU_, sU_, sU_, sU_, sU_] []))) (fun t kt => ?_) ?_
    · skip
      refine XS.ifNo X.here hx rfl (hb hby at_133) rfl (XT.i0_eq_f cc) ?_
      refine XS.aconstNull X.here hx rfl (hb hby at_136) ?_
      refine XS.goto X.here hx rfl (pc0 := 137) (pc' := 148) rfl (hb hby at_137) (by decide) (by decide) ?_
      refine XS.astore X.here hx rfl (hb hby at_148) rfl rfl (l' := #[sI_ fl, sJ_ pp, sS_, sJ_ pq, sS_, sI_ pr, sI_ ps, sI_ ph, .val x1, .val x2, .val x3, .val x4, .val x5, .val y1, .val .null, sU_, sU_, sU_, sU_, sU_, sU_]) rfl ?_
      exact kt
    exact law_150 l Z a0 hw fl pp pq pr ps ph cs x1 x2 x3 x4 x5 y1 Value.null h0 n0 Z0 p e s m below meth c hx hby hml hown hnm hret hlk hZ _ _ _ (moreRoom (cells' := 10) (slots' := 19) X (by decide) (by decide)) eT N K0 O BC SH SC hcs Ux1 Ux2 Ux3 Ux4 Ux5 Uy1 (Or.inl rfl)
set_option maxRecDepth 65536 in
set_option maxHeartbeats 40000000 in
theorem law_103 (l : Launch) (Z : State) (a0 : Array Value) (hw : ∀ d ∈ tables_1, d.before a0 Z = true) (fl : Int32) (pp pq : Int64) (pr ps ph : Int32) (cs : Int32) (x1 x2 x3 x4 x5 : Value) (h0 : Heap) (n0 : Nat) (Z0 : n0 ≤ h0.size) (p : Program) (e : Env) (s : State) (m : MethodId) (below : List Frame) (meth : Method) (c : Code) (hx : p.tables.exec = Jvm.exec) (hby : c.code = code) (hml : c.maxLocals = maxLocals) (hown : s.vm.findClass "com/example/kilnroute/kilnroute/spark/ResourcesOverriddenByPinLaw" = some m.cls) (hnm : meth.name = "law") (hret : meth.sig.returnType = ret) (hlk : meth.locks = false) (hZ : Z.Warmed39 s.vm) (h : Heap) (T : State) (locs : List Loc) (X : Stand p l e room_1 s m #[(.int fl), (.long pp), (.long pq), (.int pr), (.int ps), (.int ph)] below meth c T locs 7 13) (eT : T.heap = h) (N : Fr n0 locs) (K0 : Keep h0 h []) (O : Old Z n0 h) (BC : BoxC Z "java/lang/Integer$IntegerCache" "[Ljava/lang/Integer;" "java/lang/Integer" "I" (fun i => .int (i.toInt32 - 128))) (SH : Sta Z Z.heap "java/lang/Integer$IntegerCache" "high" "I" (.int (127 : Int32))) (SC : Sta Z Z.heap "java/lang/String" "COMPACT_STRINGS" "Z" (.int cs)) (hcs : ¬ cs = 0) (Ux1 : RefV Z h x1 "java/lang/String") (Ux2 : IntV Z h x2) (Ux3 : RefV Z h x3 "java/lang/String") (Ux4 : IntV Z h x4) (Ux5 : IntV Z h x5) :
    Goes p e s below (fun v h L => v = some (.int 1) ∧ Fr n0 L) room_1.cells room_1.slots (T.setTop (mkF m 103 #[sI_ fl, sJ_ pp, sS_, sJ_ pq, sS_, sI_ pr, sI_ ps, sI_ ph, .val x1, .val x2, .val x3, .val x4, .val x5, sU_, sU_, sU_, sU_, sU_, sU_, sU_, sU_] [])) := by
  have sz0 : n0 ≤ h.size := Nat.le_trans Z0 K0.1
  refine Goes.go (U' := (T.setTop (mkF m 107 #[sI_ fl, sJ_ pp, sS_, sJ_ pq, sS_, sI_ pr, sI_ ps, sI_ ph, .val x1, .val x2, .val x3, .val x4, .val x5, sU_, sU_, sU_, sU_, sU_, sU_, sU_, sU_] [(.int (fl &&& (32 : Int32)))]))) (fun t kt => ?_) ?_
  · skip
    refine XS.iloadN X.here hx rfl (hb hby at_103) rfl ?_
    refine XS.bipush X.here hx rfl (hb hby at_104) ?_
    refine XS.iand X.here hx rfl (hb hby at_106) rfl ?_
    exact kt
  by_cases cc : (fl &&& (32 : Int32)) = 0
  · -- (fl &&& (32 : Int32)) = 0
    refine Goes.go (U' := (T.setTop (mkF m 124 #[sI_ fl, sJ_ pp, sS_, sJ_ pq, sS_, sI_ pr, sI_ ps, sI_ ph, .val x1, .val x2, .val x3, .val x4, .val x5, sU_, sU_, sU_, sU_, sU_, sU_, sU_, sU_] [(.int ((((ph.toUInt32 >>> ((16 : Int32) &&& 31).toUInt32).toInt32) &&& (255 : Int32)).toUInt32.toUInt16.toUInt32.toInt32))]))) (fun t kt => ?_) ?_
    · skip
      refine XS.ifYes X.here hx rfl (pc0 := 107) (pc' := 114) rfl (hb hby at_107) rfl (XT.i0_eq_t cc) (by decide) (by decide) ?_
      refine XS.iload X.here hx rfl (hb hby at_114) rfl ?_
      refine XS.bipush X.here hx rfl (hb hby at_116) ?_
      refine XS.iushr X.here hx rfl (hb hby at_118) rfl ?_
      refine XS.sipush X.here hx rfl (hb hby at_119) ?_
      refine XS.iand X.here hx rfl (hb hby at_122) rfl ?_
      refine XS.i2c X.here hx rfl (hb hby at_123) rfl ?_
      exact kt
    obtain ⟨v_1, T_1, L_1, X_1, q_1, st_1⟩ := callStatic X hx hZ (y := (⟨"java/lang/String", "valueOf", "(C)Ljava/lang/String;"⟩ : MethodName)) (W := 0) hown (wdOf hw 0 rfl) (wdOf hw 1 rfl) (wdOf hw 2 rfl) (wdOf hw 3 rfl) (by decide) (rm_sv l Z a0 hw [] ((((ph.toUInt32 >>> ((16 : Int32) &&& 31).toUInt32).toInt32) &&& (255 : Int32)).toUInt32.toUInt16.toUInt32.toInt32) cs h n0 sz0 O SC hcs (own_ff _)) (by decide) (by decide) (by decide) (by decide) eT (g := (mkF m 124 #[sI_ fl, sJ_ pp, sS_, sJ_ pq, sS_, sI_ pr, sI_ ps, sI_ ph, .val x1, .val x2, .val x3, .val x4, .val x5, sU_, sU_, sU_, sU_, sU_, sU_, sU_, sU_] [(.int ((((ph.toUInt32 >>> ((16 : Int32) &&& 31).toUInt32).toInt32) &&& (255 : Int32)).toUInt32.toUInt16.toUInt32.toInt32))])) rfl (by rw [hml]; rfl) (argsL := [(.int ((((ph.toUInt32 >>> ((16 : Int32) &&& 31).toUInt32).toInt32) &&& (255 : Int32)).toUInt32.toUInt16.toUInt32.toInt32))]) (rest := []) (lenOf pd_15 rfl) rfl rfl (Nat.le_refl _) (hb hby at_124)
    obtain ⟨r_1, rb_1, kb_1, rfl, n_1, K_1, E_1, -, -, -⟩ := q_1
    have N_1 := Fr.app N n_1
    have f_2 : Old Z n0 T_1.heap := O.ext K_1
    have f_3 : RefV Z T_1.heap x1 "java/lang/String" := Ux1.ext K_1
    have f_4 : IntV Z T_1.heap x2 := Ux2.ext K_1
    have f_5 : RefV Z T_1.heap x3 "java/lang/String" := Ux3.ext K_1
    have f_6 : IntV Z T_1.heap x4 := Ux4.ext K_1
    have f_7 : IntV Z T_1.heap x5 := Ux5.ext K_1
    have K_8 : Keep h0 T_1.heap [] := K0.ext K_1
    have y_8 : n0 ≤ T_1.heap.size := Nat.le_trans Z0 K_8.1
    refine Goes.go (U' := (T_1.setTop (mkF m 127 #[sI_ fl, sJ_ pp, sS_, sJ_ pq, sS_, sI_ pr, sI_ ps, sI_ ph, .val x1, .val x2, .val x3, .val x4, .val x5, sU_, sU_, sU_, sU_, sU_, sU_, sU_, sU_] [(.ref r_1)]))) st_1 ?_
    refine Goes.go (U' := (T_1.setTop (mkF m 129 #[sI_ fl, sJ_ pp, sS_, sJ_ pq, sS_, sI_ pr, sI_ ps, sI_ ph, .val x1, .val x2, .val x3, .val x4, .val x5, sR_ r_1, sU_, sU_, sU_, sU_, sU_, sU_, sU_] []))) (fun t kt => ?_) ?_
    · skip
      refine XS.astore X_1.here hx rfl (hb hby at_127) rfl rfl (l' := #[sI_ fl, sJ_ pp, sS_, sJ_ pq, sS_, sI_ pr, sI_ ps, sI_ ph, .val x1, .val x2, .val x3, .val x4, .val x5, sR_ r_1, sU_, sU_, sU_, sU_, sU_, sU_, sU_]) rfl ?_
      exact kt
    exact law_129 l Z a0 hw fl pp pq pr ps ph cs x1 x2 x3 x4 x5 (.ref r_1) h0 n0 Z0 p e s m below meth c hx hby hml hown hnm hret hlk hZ _ _ _ X_1 (rfl : T_1.heap = T_1.heap) N_1 K_8 f_2 BC SH SC hcs f_3 f_4 f_5 f_6 f_7 (Or.inr ⟨_, rfl, E_1⟩)
  · -- not (fl &&& (32 : Int32)) = 0
    refine Goes.go (U' := (T.setTop (mkF m 129 #[sI_ fl, sJ_ pp, sS_, sJ_ pq, sS_, sI_ pr, sI_ ps, sI_ ph, .val x1, .val x2, .val x3, .val x4, .val x5, .val .null, sU_, sU_, sU_, sU_, sU_, sU_, sU_] []))) (fun t kt => ?_) ?_
    · skip
      refine XS.ifNo X.here hx rfl (hb hby at_107) rfl (XT.i0_eq_f cc) ?_
      refine XS.aconstNull X.here hx rfl (hb hby at_110) ?_
      refine XS.goto X.here hx rfl (pc0 := 111) (pc' := 127) rfl (hb hby at_111) (by decide) (by decide) ?_
      refine XS.astore X.here hx rfl (hb hby at_127) rfl rfl (l' := #[sI_ fl, sJ_ pp, sS_, sJ_ pq, sS_, sI_ pr, sI_ ps, sI_ ph, .val x1, .val x2, .val x3, .val x4, .val x5, .val .null, sU_, sU_, sU_, sU_, sU_, sU_, sU_]) rfl ?_
      exact kt
    exact law_129 l Z a0 hw fl pp pq pr ps ph cs x1 x2 x3 x4 x5 Value.null h0 n0 Z0 p e s m below meth c hx hby hml hown hnm hret hlk hZ _ _ _ (moreRoom (cells' := 9) (slots' := 18) X (by decide) (by decide)) eT N K0 O BC SH SC hcs Ux1 Ux2 Ux3 Ux4 Ux5 (Or.inl rfl)
set_option maxRecDepth 65536 in
set_option maxHeartbeats 40000000 in
theorem law_85 (l : Launch) (Z : State) (a0 : Array Value) (hw : ∀ d ∈ tables_1, d.before a0 Z = true) (fl : Int32) (pp pq : Int64) (pr ps ph : Int32) (cs : Int32) (x1 x2 x3 x4 : Value) (h0 : Heap) (n0 : Nat) (Z0 : n0 ≤ h0.size) (p : Program) (e : Env) (s : State) (m : MethodId) (below : List Frame) (meth : Method) (c : Code) (hx : p.tables.exec = Jvm.exec) (hby : c.code = code) (hml : c.maxLocals = maxLocals) (hown : s.vm.findClass "com/example/kilnroute/kilnroute/spark/ResourcesOverriddenByPinLaw" = some m.cls) (hnm : meth.name = "law") (hret : meth.sig.returnType = ret) (hlk : meth.locks = false) (hZ : Z.Warmed39 s.vm) (h : Heap) (T : State) (locs : List Loc) (X : Stand p l e room_1 s m #[(.int fl), (.long pp), (.long pq), (.int pr), (.int ps), (.int ph)] below meth c T locs 6 12) (eT : T.heap = h) (N : Fr n0 locs) (K0 : Keep h0 h []) (O : Old Z n0 h) (BC : BoxC Z "java/lang/Integer$IntegerCache" "[Ljava/lang/Integer;" "java/lang/Integer" "I" (fun i => .int (i.toInt32 - 128))) (SH : Sta Z Z.heap "java/lang/Integer$IntegerCache" "high" "I" (.int (127 : Int32))) (SC : Sta Z Z.heap "java/lang/String" "COMPACT_STRINGS" "Z" (.int cs)) (hcs : ¬ cs = 0) (Ux1 : RefV Z h x1 "java/lang/String") (Ux2 : IntV Z h x2) (Ux3 : RefV Z h x3 "java/lang/String") (Ux4 : IntV Z h x4) :
    Goes p e s below (fun v h L => v = some (.int 1) ∧ Fr n0 L) room_1.cells room_1.slots (T.setTop (mkF m 85 #[sI_ fl, sJ_ pp, sS_, sJ_ pq, sS_, sI_ pr, sI_ ps, sI_ ph, .val x1, .val x2, .val x3, .val x4, sU_, sU_, sU_, sU_, sU_, sU_, sU_, sU_, sU_] [])) := by
  have sz0 : n0 ≤ h.size := Nat.le_trans Z0 K0.1
  refine Goes.go (U' := (T.setTop (mkF m 89 #[sI_ fl, sJ_ pp, sS_, sJ_ pq, sS_, sI_ pr, sI_ ps, sI_ ph, .val x1, .val x2, .val x3, .val x4, sU_, sU_, sU_, sU_, sU_, sU_, sU_, sU_, sU_] [(.int (fl &&& (16 : Int32)))]))) (fun t kt => ?_) ?_
  · skip
    refine XS.iloadN X.here hx rfl (hb hby at_85) rfl ?_
    refine XS.bipush X.here hx rfl (hb hby at_86) ?_
    refine XS.iand X.here hx rfl (hb hby at_88) rfl ?_
    exact kt
  by_cases cc : (fl &&& (16 : Int32)) = 0
  · -- (fl &&& (16 : Int32)) = 0
    refine Goes.go (U' := (T.setTop (mkF m 98 #[sI_ fl, sJ_ pp, sS_, sJ_ pq, sS_, sI_ pr, sI_ ps, sI_ ph, .val x1, .val x2, .val x3, .val x4, sU_, sU_, sU_, sU_, sU_, sU_, sU_, sU_, sU_] [(.int pr)]))) (fun t kt => ?_) ?_
    · skip
      refine XS.ifYes X.here hx rfl (pc0 := 89) (pc' := 96) rfl (hb hby at_89) rfl (XT.i0_eq_t cc) (by decide) (by decide) ?_
      refine XS.iload X.here hx rfl (hb hby at_96) rfl ?_
      exact kt
    obtain ⟨v_1, T_1, L_1, X_1, q_1, st_1⟩ := callStatic X hx hZ (y := (⟨"java/lang/Integer", "valueOf", "(I)Ljava/lang/Integer;"⟩ : MethodName)) (W := 0) hown (wdOf hw 26 rfl) (wdOf hw 27 rfl) (wdOf hw 28 rfl) (wdOf hw 29 rfl) (by decide) (rm_vo l Z a0 hw [] pr h n0 sz0 O BC SH) (by decide) (by decide) (by decide) (by decide) eT (g := (mkF m 98 #[sI_ fl, sJ_ pp, sS_, sJ_ pq, sS_, sI_ pr, sI_ ps, sI_ ph, .val x1, .val x2, .val x3, .val x4, sU_, sU_, sU_, sU_, sU_, sU_, sU_, sU_, sU_] [(.int pr)])) rfl (by rw [hml]; rfl) (argsL := [(.int pr)]) (rest := []) (lenOf pd_14 rfl) rfl rfl (Nat.le_refl _) (hb hby at_98)
    obtain ⟨r_1, rfl, n_1, K_1, E_1, F_1⟩ := q_1
    have N_1 := Fr.app N n_1
    have f_2 : Old Z n0 T_1.heap := O.ext K_1
    have f_3 : RefV Z T_1.heap x1 "java/lang/String" := Ux1.ext K_1
    have f_4 : IntV Z T_1.heap x2 := Ux2.ext K_1
    have f_5 : RefV Z T_1.heap x3 "java/lang/String" := Ux3.ext K_1
    have f_6 : IntV Z T_1.heap x4 := Ux4.ext K_1
    have K_7 : Keep h0 T_1.heap [] := K0.ext K_1
    have y_7 : n0 ≤ T_1.heap.size := Nat.le_trans Z0 K_7.1
    refine Goes.go (U' := (T_1.setTop (mkF m 101 #[sI_ fl, sJ_ pp, sS_, sJ_ pq, sS_, sI_ pr, sI_ ps, sI_ ph, .val x1, .val x2, .val x3, .val x4, sU_, sU_, sU_, sU_, sU_, sU_, sU_, sU_, sU_] [(.ref r_1)]))) st_1 ?_
    refine Goes.go (U' := (T_1.setTop (mkF m 103 #[sI_ fl, sJ_ pp, sS_, sJ_ pq, sS_, sI_ pr, sI_ ps, sI_ ph, .val x1, .val x2, .val x3, .val x4, sR_ r_1, sU_, sU_, sU_, sU_, sU_, sU_, sU_, sU_] []))) (fun t kt => ?_) ?_
    · skip
      refine XS.astore X_1.here hx rfl (hb hby at_101) rfl rfl (l' := #[sI_ fl, sJ_ pp, sS_, sJ_ pq, sS_, sI_ pr, sI_ ps, sI_ ph, .val x1, .val x2, .val x3, .val x4, sR_ r_1, sU_, sU_, sU_, sU_, sU_, sU_, sU_, sU_]) rfl ?_
      exact kt
    exact law_103 l Z a0 hw fl pp pq pr ps ph cs x1 x2 x3 x4 (.ref r_1) h0 n0 Z0 p e s m below meth c hx hby hml hown hnm hret hlk hZ _ _ _ X_1 (rfl : T_1.heap = T_1.heap) N_1 K_7 f_2 BC SH SC hcs f_3 f_4 f_5 f_6 (Or.inr ⟨_, _, rfl, E_1, F_1⟩)
  · -- not (fl &&& (16 : Int32)) = 0
    refine Goes.go (U' := (T.setTop (mkF m 103 #[sI_ fl, sJ_ pp, sS_, sJ_ pq, sS_, sI_ pr, sI_ ps, sI_ ph, .val x1, .val x2, .val x3, .val x4, .val .null, sU_, sU_, sU_, sU_, sU_, sU_, sU_, sU_] []))) (fun t kt => ?_) ?_
    · skip
      refine XS.ifNo X.here hx rfl (hb hby at_89) rfl (XT.i0_eq_f cc) ?_
      refine XS.aconstNull X.here hx rfl (hb hby at_92) ?_
      refine XS.goto X.here hx rfl (pc0 := 93) (pc' := 101) rfl (hb hby at_93) (by decide) (by decide) ?_
      refine XS.astore X.here hx rfl (hb hby at_101) rfl rfl (l' := #[sI_ fl, sJ_ pp, sS_, sJ_ pq, sS_, sI_ pr, sI_ ps, sI_ ph, .val x1, .val x2, .val x3, .val x4, .val .null, sU_, sU_, sU_, sU_, sU_, sU_, sU_, sU_]) rfl ?_
      exact kt
    exact law_103 l Z a0 hw fl pp pq pr ps ph cs x1 x2 x3 x4 Value.null h0 n0 Z0 p e s m below meth c hx hby hml hown hnm hret hlk hZ _ _ _ (moreRoom (cells' := 7) (slots' := 13) X (by decide) (by decide)) eT N K0 O BC SH SC hcs Ux1 Ux2 Ux3 Ux4 (Or.inl rfl)
set_option maxRecDepth 65536 in
set_option maxHeartbeats 40000000 in
theorem law_67 (l : Launch) (Z : State) (a0 : Array Value) (hw : ∀ d ∈ tables_1, d.before a0 Z = true) (fl : Int32) (pp pq : Int64) (pr ps ph : Int32) (cs : Int32) (x1 x2 x3 : Value) (h0 : Heap) (n0 : Nat) (Z0 : n0 ≤ h0.size) (p : Program) (e : Env) (s : State) (m : MethodId) (below : List Frame) (meth : Method) (c : Code) (hx : p.tables.exec = Jvm.exec) (hby : c.code = code) (hml : c.maxLocals = maxLocals) (hown : s.vm.findClass "com/example/kilnroute/kilnroute/spark/ResourcesOverriddenByPinLaw" = some m.cls) (hnm : meth.name = "law") (hret : meth.sig.returnType = ret) (hlk : meth.locks = false) (hZ : Z.Warmed39 s.vm) (h : Heap) (T : State) (locs : List Loc) (X : Stand p l e room_1 s m #[(.int fl), (.long pp), (.long pq), (.int pr), (.int ps), (.int ph)] below meth c T locs 5 11) (eT : T.heap = h) (N : Fr n0 locs) (K0 : Keep h0 h []) (O : Old Z n0 h) (BC : BoxC Z "java/lang/Integer$IntegerCache" "[Ljava/lang/Integer;" "java/lang/Integer" "I" (fun i => .int (i.toInt32 - 128))) (SH : Sta Z Z.heap "java/lang/Integer$IntegerCache" "high" "I" (.int (127 : Int32))) (SC : Sta Z Z.heap "java/lang/String" "COMPACT_STRINGS" "Z" (.int cs)) (hcs : ¬ cs = 0) (Ux1 : RefV Z h x1 "java/lang/String") (Ux2 : IntV Z h x2) (Ux3 : RefV Z h x3 "java/lang/String") :
    Goes p e s below (fun v h L => v = some (.int 1) ∧ Fr n0 L) room_1.cells room_1.slots (T.setTop (mkF m 67 #[sI_ fl, sJ_ pp, sS_, sJ_ pq, sS_, sI_ pr, sI_ ps, sI_ ph, .val x1, .val x2, .val x3, sU_, sU_, sU_, sU_, sU_, sU_, sU_, sU_, sU_, sU_] [])) := by
  have sz0 : n0 ≤ h.size := Nat.le_trans Z0 K0.1
  refine Goes.go (U' := (T.setTop (mkF m 71 #[sI_ fl, sJ_ pp, sS_, sJ_ pq, sS_, sI_ pr, sI_ ps, sI_ ph, .val x1, .val x2, .val x3, sU_, sU_, sU_, sU_, sU_, sU_, sU_, sU_, sU_, sU_] [(.int (fl &&& (8 : Int32)))]))) (fun t kt => ?_) ?_
  · skip
    refine XS.iloadN X.here hx rfl (hb hby at_67) rfl ?_
    refine XS.bipush X.here hx rfl (hb hby at_68) ?_
    refine XS.iand X.here hx rfl (hb hby at_70) rfl ?_
    exact kt
  by_cases cc : (fl &&& (8 : Int32)) = 0
  · -- (fl &&& (8 : Int32)) = 0
    refine Goes.go (U' := (T.setTop (mkF m 80 #[sI_ fl, sJ_ pp, sS_, sJ_ pq, sS_, sI_ pr, sI_ ps, sI_ ph, .val x1, .val x2, .val x3, sU_, sU_, sU_, sU_, sU_, sU_, sU_, sU_, sU_, sU_] [(.int (pp.toInt32))]))) (fun t kt => ?_) ?_
    · skip
      refine XS.ifYes X.here hx rfl (pc0 := 71) (pc' := 78) rfl (hb hby at_71) rfl (XT.i0_eq_t cc) (by decide) (by decide) ?_
      refine XS.lloadN X.here hx rfl (hb hby at_78) rfl ?_
      refine XS.l2i X.here hx rfl (hb hby at_79) rfl ?_
      exact kt
    obtain ⟨v_1, T_1, L_1, X_1, q_1, st_1⟩ := callStatic X hx hZ (y := (⟨"java/lang/Integer", "valueOf", "(I)Ljava/lang/Integer;"⟩ : MethodName)) (W := 0) hown (wdOf hw 26 rfl) (wdOf hw 27 rfl) (wdOf hw 28 rfl) (wdOf hw 29 rfl) (by decide) (rm_vo l Z a0 hw [] (pp.toInt32) h n0 sz0 O BC SH) (by decide) (by decide) (by decide) (by decide) eT (g := (mkF m 80 #[sI_ fl, sJ_ pp, sS_, sJ_ pq, sS_, sI_ pr, sI_ ps, sI_ ph, .val x1, .val x2, .val x3, sU_, sU_, sU_, sU_, sU_, sU_, sU_, sU_, sU_, sU_] [(.int (pp.toInt32))])) rfl (by rw [hml]; rfl) (argsL := [(.int (pp.toInt32))]) (rest := []) (lenOf pd_14 rfl) rfl rfl (Nat.le_refl _) (hb hby at_80)
    obtain ⟨r_1, rfl, n_1, K_1, E_1, F_1⟩ := q_1
    have N_1 := Fr.app N n_1
    have f_2 : Old Z n0 T_1.heap := O.ext K_1
    have f_3 : RefV Z T_1.heap x1 "java/lang/String" := Ux1.ext K_1
    have f_4 : IntV Z T_1.heap x2 := Ux2.ext K_1
    have f_5 : RefV Z T_1.heap x3 "java/lang/String" := Ux3.ext K_1
    have K_6 : Keep h0 T_1.heap [] := K0.ext K_1
    have y_6 : n0 ≤ T_1.heap.size := Nat.le_trans Z0 K_6.1
    refine Goes.go (U' := (T_1.setTop (mkF m 83 #[sI_ fl, sJ_ pp, sS_, sJ_ pq, sS_, sI_ pr, sI_ ps, sI_ ph, .val x1, .val x2, .val x3, sU_, sU_, sU_, sU_, sU_, sU_, sU_, sU_, sU_, sU_] [(.ref r_1)]))) st_1 ?_
    refine Goes.go (U' := (T_1.setTop (mkF m 85 #[sI_ fl, sJ_ pp, sS_, sJ_ pq, sS_, sI_ pr, sI_ ps, sI_ ph, .val x1, .val x2, .val x3, sR_ r_1, sU_, sU_, sU_, sU_, sU_, sU_, sU_, sU_, sU_] []))) (fun t kt => ?_) ?_
    · skip
      refine XS.astore X_1.here hx rfl (hb hby at_83) rfl rfl (l' := #[sI_ fl, sJ_ pp, sS_, sJ_ pq, sS_, sI_ pr, sI_ ps, sI_ ph, .val x1, .val x2, .val x3, sR_ r_1, sU_, sU_, sU_, sU_, sU_, sU_, sU_, sU_, sU_]) rfl ?_
      exact kt
    exact law_85 l Z a0 hw fl pp pq pr ps ph cs x1 x2 x3 (.ref r_1) h0 n0 Z0 p e s m below meth c hx hby hml hown hnm hret hlk hZ _ _ _ X_1 (rfl : T_1.heap = T_1.heap) N_1 K_6 f_2 BC SH SC hcs f_3 f_4 f_5 (Or.inr ⟨_, _, rfl, E_1, F_1⟩)
  · -- not (fl &&& (8 : Int32)) = 0
    refine Goes.go (U' := (T.setTop (mkF m 85 #[sI_ fl, sJ_ pp, sS_, sJ_ pq, sS_, sI_ pr, sI_ ps, sI_ ph, .val x1, .val x2, .val x3, .val .null, sU_, sU_, sU_, sU_, sU_, sU_, sU_, sU_, sU_] []))) (fun t kt => ?_) ?_
    · skip
      refine XS.ifNo X.here hx rfl (hb hby at_71) rfl (XT.i0_eq_f cc) ?_
      refine XS.aconstNull X.here hx rfl (hb hby at_74) ?_
      refine XS.goto X.here hx rfl (pc0 := 75) (pc' := 83) rfl (hb hby at_75) (by decide) (by decide) ?_
      refine XS.astore X.here hx rfl (hb hby at_83) rfl rfl (l' := #[sI_ fl, sJ_ pp, sS_, sJ_ pq, sS_, sI_ pr, sI_ ps, sI_ ph, .val x1, .val x2, .val x3, .val .null, sU_, sU_, sU_, sU_, sU_, sU_, sU_, sU_, sU_]) rfl ?_
      exact kt
    exact law_85 l Z a0 hw fl pp pq pr ps ph cs x1 x2 x3 Value.null h0 n0 Z0 p e s m below meth c hx hby hml hown hnm hret hlk hZ _ _ _ (moreRoom (cells' := 6) (slots' := 12) X (by decide) (by decide)) eT N K0 O BC SH SC hcs Ux1 Ux2 Ux3 (Or.inl rfl)
set_option maxRecDepth 65536 in
set_option maxHeartbeats 40000000 in
theorem law_42 (l : Launch) (Z : State) (a0 : Array Value) (hw : ∀ d ∈ tables_1, d.before a0 Z = true) (fl : Int32) (pp pq : Int64) (pr ps ph : Int32) (cs : Int32) (x1 x2 : Value) (h0 : Heap) (n0 : Nat) (Z0 : n0 ≤ h0.size) (p : Program) (e : Env) (s : State) (m : MethodId) (below : List Frame) (meth : Method) (c : Code) (hx : p.tables.exec = Jvm.exec) (hby : c.code = code) (hml : c.maxLocals = maxLocals) (hown : s.vm.findClass "com/example/kilnroute/kilnroute/spark/ResourcesOverriddenByPinLaw" = some m.cls) (hnm : meth.name = "law") (hret : meth.sig.returnType = ret) (hlk : meth.locks = false) (hZ : Z.Warmed39 s.vm) (h : Heap) (T : State) (locs : List Loc) (X : Stand p l e room_1 s m #[(.int fl), (.long pp), (.long pq), (.int pr), (.int ps), (.int ph)] below meth c T locs 3 6) (eT : T.heap = h) (N : Fr n0 locs) (K0 : Keep h0 h []) (O : Old Z n0 h) (BC : BoxC Z "java/lang/Integer$IntegerCache" "[Ljava/lang/Integer;" "java/lang/Integer" "I" (fun i => .int (i.toInt32 - 128))) (SH : Sta Z Z.heap "java/lang/Integer$IntegerCache" "high" "I" (.int (127 : Int32))) (SC : Sta Z Z.heap "java/lang/String" "COMPACT_STRINGS" "Z" (.int cs)) (hcs : ¬ cs = 0) (Ux1 : RefV Z h x1 "java/lang/String") (Ux2 : IntV Z h x2) :
    Goes p e s below (fun v h L => v = some (.int 1) ∧ Fr n0 L) room_1.cells room_1.slots (T.setTop (mkF m 42 #[sI_ fl, sJ_ pp, sS_, sJ_ pq, sS_, sI_ pr, sI_ ps, sI_ ph, .val x1, .val x2, sU_, sU_, sU_, sU_, sU_, sU_, sU_, sU_, sU_, sU_, sU_] [])) := by
  have sz0 : n0 ≤ h.size := Nat.le_trans Z0 K0.1
  refine Goes.go (U' := (T.setTop (mkF m 45 #[sI_ fl, sJ_ pp, sS_, sJ_ pq, sS_, sI_ pr, sI_ ps, sI_ ph, .val x1, .val x2, sU_, sU_, sU_, sU_, sU_, sU_, sU_, sU_, sU_, sU_, sU_] [(.int (fl &&& (4 : Int32)))]))) (fun t kt => ?_) ?_
  · skip
    refine XS.iloadN X.here hx rfl (hb hby at_42) rfl ?_
    refine XS.iconst X.here hx rfl (hb hby at_43) ?_
    refine XS.iand X.here hx rfl (hb hby at_44) rfl ?_
    exact kt
  by_cases cc : (fl &&& (4 : Int32)) = 0
  · -- (fl &&& (4 : Int32)) = 0
    refine Goes.go (U' := (T.setTop (mkF m 62 #[sI_ fl, sJ_ pp, sS_, sJ_ pq, sS_, sI_ pr, sI_ ps, sI_ ph, .val x1, .val x2, sU_, sU_, sU_, sU_, sU_, sU_, sU_, sU_, sU_, sU_, sU_] [(.int ((((ph.toUInt32 >>> ((8 : Int32) &&& 31).toUInt32).toInt32) &&& (255 : Int32)).toUInt32.toUInt16.toUInt32.toInt32))]))) (fun t kt => ?_) ?_
    · skip
      refine XS.ifYes X.here hx rfl (pc0 := 45) (pc' := 52) rfl (hb hby at_45) rfl (XT.i0_eq_t cc) (by decide) (by decide) ?_
      refine XS.iload X.here hx rfl (hb hby at_52) rfl ?_
      refine XS.bipush X.here hx rfl (hb hby at_54) ?_
      refine XS.iushr X.here hx rfl (hb hby at_56) rfl ?_
      refine XS.sipush X.here hx rfl (hb hby at_57) ?_
      refine XS.iand X.here hx rfl (hb hby at_60) rfl ?_
      refine XS.i2c X.here hx rfl (hb hby at_61) rfl ?_
      exact kt
    obtain ⟨v_1, T_1, L_1, X_1, q_1, st_1⟩ := callStatic X hx hZ (y := (⟨"java/lang/String", "valueOf", "(C)Ljava/lang/String;"⟩ : MethodName)) (W := 0) hown (wdOf hw 0 rfl) (wdOf hw 1 rfl) (wdOf hw 2 rfl) (wdOf hw 3 rfl) (by decide) (rm_sv l Z a0 hw [] ((((ph.toUInt32 >>> ((8 : Int32) &&& 31).toUInt32).toInt32) &&& (255 : Int32)).toUInt32.toUInt16.toUInt32.toInt32) cs h n0 sz0 O SC hcs (own_ff _)) (by decide) (by decide) (by decide) (by decide) eT (g := (mkF m 62 #[sI_ fl, sJ_ pp, sS_, sJ_ pq, sS_, sI_ pr, sI_ ps, sI_ ph, .val x1, .val x2, sU_, sU_, sU_, sU_, sU_, sU_, sU_, sU_, sU_, sU_, sU_] [(.int ((((ph.toUInt32 >>> ((8 : Int32) &&& 31).toUInt32).toInt32) &&& (255 : Int32)).toUInt32.toUInt16.toUInt32.toInt32))])) rfl (by rw [hml]; rfl) (argsL := [(.int ((((ph.toUInt32 >>> ((8 : Int32) &&& 31).toUInt32).toInt32) &&& (255 : Int32)).toUInt32.toUInt16.toUInt32.toInt32))]) (rest := []) (lenOf pd_15 rfl) rfl rfl (Nat.le_refl _) (hb hby at_62)
    obtain ⟨r_1, rb_1, kb_1, rfl, n_1, K_1, E_1, -, -, -⟩ := q_1
    have N_1 := Fr.app N n_1
    have f_2 : Old Z n0 T_1.heap := O.ext K_1
    have f_3 : RefV Z T_1.heap x1 "java/lang/String" := Ux1.ext K_1
    have f_4 : IntV Z T_1.heap x2 := Ux2.ext K_1
    have K_5 : Keep h0 T_1.heap [] := K0.ext K_1
    have y_5 : n0 ≤ T_1.heap.size := Nat.le_trans Z0 K_5.1
    refine Goes.go (U' := (T_1.setTop (mkF m 65 #[sI_ fl, sJ_ pp, sS_, sJ_ pq, sS_, sI_ pr, sI_ ps, sI_ ph, .val x1, .val x2, sU_, sU_, sU_, sU_, sU_, sU_, sU_, sU_, sU_, sU_, sU_] [(.ref r_1)]))) st_1 ?_
    refine Goes.go (U' := (T_1.setTop (mkF m 67 #[sI_ fl, sJ_ pp, sS_, sJ_ pq, sS_, sI_ pr, sI_ ps, sI_ ph, .val x1, .val x2, sR_ r_1, sU_, sU_, sU_, sU_, sU_, sU_, sU_, sU_, sU_, sU_] []))) (fun t kt => ?_) ?_
    · skip
      refine XS.astore X_1.here hx rfl (hb hby at_65) rfl rfl (l' := #[sI_ fl, sJ_ pp, sS_, sJ_ pq, sS_, sI_ pr, sI_ ps, sI_ ph, .val x1, .val x2, sR_ r_1, sU_, sU_, sU_, sU_, sU_, sU_, sU_, sU_, sU_, sU_]) rfl ?_
      exact kt
    exact law_67 l Z a0 hw fl pp pq pr ps ph cs x1 x2 (.ref r_1) h0 n0 Z0 p e s m below meth c hx hby hml hown hnm hret hlk hZ _ _ _ X_1 (rfl : T_1.heap = T_1.heap) N_1 K_5 f_2 BC SH SC hcs f_3 f_4 (Or.inr ⟨_, rfl, E_1⟩)
  · -- not (fl &&& (4 : Int32)) = 0
    refine Goes.go (U' := (T.setTop (mkF m 67 #[sI_ fl, sJ_ pp, sS_, sJ_ pq, sS_, sI_ pr, sI_ ps, sI_ ph, .val x1, .val x2, .val .null, sU_, sU_, sU_, sU_, sU_, sU_, sU_, sU_, sU_, sU_] []))) (fun t kt => ?_) ?_
    · skip
      refine XS.ifNo X.here hx rfl (hb hby at_45) rfl (XT.i0_eq_f cc) ?_
      refine XS.aconstNull X.here hx rfl (hb hby at_48) ?_
      refine XS.goto X.here hx rfl (pc0 := 49) (pc' := 65) rfl (hb hby at_49) (by decide) (by decide) ?_
      refine XS.astore X.here hx rfl (hb hby at_65) rfl rfl (l' := #[sI_ fl, sJ_ pp, sS_, sJ_ pq, sS_, sI_ pr, sI_ ps, sI_ ph, .val x1, .val x2, .val .null, sU_, sU_, sU_, sU_, sU_, sU_, sU_, sU_, sU_, sU_]) rfl ?_
      exact kt
    exact law_67 l Z a0 hw fl pp pq pr ps ph cs x1 x2 Value.null h0 n0 Z0 p e s m below meth c hx hby hml hown hnm hret hlk hZ _ _ _ (moreRoom (cells' := 5) (slots' := 11) X (by decide) (by decide)) eT N K0 O BC SH SC hcs Ux1 Ux2 (Or.inl rfl)
set_option maxRecDepth 65536 in
set_option maxHeartbeats 40000000 in
theorem law_22 (l : Launch) (Z : State) (a0 : Array Value) (hw : ∀ d ∈ tables_1, d.before a0 Z = true) (fl : Int32) (pp pq : Int64) (pr ps ph : Int32) (cs : Int32) (x1 : Value) (h0 : Heap) (n0 : Nat) (Z0 : n0 ≤ h0.size) (p : Program) (e : Env) (s : State) (m : MethodId) (below : List Frame) (meth : Method) (c : Code) (hx : p.tables.exec = Jvm.exec) (hby : c.code = code) (hml : c.maxLocals = maxLocals) (hown : s.vm.findClass "com/example/kilnroute/kilnroute/spark/ResourcesOverriddenByPinLaw" = some m.cls) (hnm : meth.name = "law") (hret : meth.sig.returnType = ret) (hlk : meth.locks = false) (hZ : Z.Warmed39 s.vm) (h : Heap) (T : State) (locs : List Loc) (X : Stand p l e room_1 s m #[(.int fl), (.long pp), (.long pq), (.int pr), (.int ps), (.int ph)] below meth c T locs 2 5) (eT : T.heap = h) (N : Fr n0 locs) (K0 : Keep h0 h []) (O : Old Z n0 h) (BC : BoxC Z "java/lang/Integer$IntegerCache" "[Ljava/lang/Integer;" "java/lang/Integer" "I" (fun i => .int (i.toInt32 - 128))) (SH : Sta Z Z.heap "java/lang/Integer$IntegerCache" "high" "I" (.int (127 : Int32))) (SC : Sta Z Z.heap "java/lang/String" "COMPACT_STRINGS" "Z" (.int cs)) (hcs : ¬ cs = 0) (Ux1 : RefV Z h x1 "java/lang/String") :
    Goes p e s below (fun v h L => v = some (.int 1) ∧ Fr n0 L) room_1.cells room_1.slots (T.setTop (mkF m 22 #[sI_ fl, sJ_ pp, sS_, sJ_ pq, sS_, sI_ pr, sI_ ps, sI_ ph, .val x1, sU_, sU_, sU_, sU_, sU_, sU_, sU_, sU_, sU_, sU_, sU_, sU_] [])) := by
  have sz0 : n0 ≤ h.size := Nat.le_trans Z0 K0.1
  refine Goes.go (U' := (T.setTop (mkF m 25 #[sI_ fl, sJ_ pp, sS_, sJ_ pq, sS_, sI_ pr, sI_ ps, sI_ ph, .val x1, sU_, sU_, sU_, sU_, sU_, sU_, sU_, sU_, sU_, sU_, sU_, sU_] [(.int (fl &&& (2 : Int32)))]))) (fun t kt => ?_) ?_
  · skip
    refine XS.iloadN X.here hx rfl (hb hby at_22) rfl ?_
    refine XS.iconst X.here hx rfl (hb hby at_23) ?_
    refine XS.iand X.here hx rfl (hb hby at_24) rfl ?_
    exact kt
  by_cases cc : (fl &&& (2 : Int32)) = 0
  · -- (fl &&& (2 : Int32)) = 0
    refine Goes.go (U' := (T.setTop (mkF m 37 #[sI_ fl, sJ_ pp, sS_, sJ_ pq, sS_, sI_ pr, sI_ ps, sI_ ph, .val x1, sU_, sU_, sU_, sU_, sU_, sU_, sU_, sU_, sU_, sU_, sU_, sU_] [(.int (((pp.toUInt64 >>> ((32 : Int32) &&& 0x3f).toInt64.toUInt64).toInt64).toInt32))]))) (fun t kt => ?_) ?_
    · skip
      refine XS.ifYes X.here hx rfl (pc0 := 25) (pc' := 32) rfl (hb hby at_25) rfl (XT.i0_eq_t cc) (by decide) (by decide) ?_
      refine XS.lloadN X.here hx rfl (hb hby at_32) rfl ?_
      refine XS.bipush X.here hx rfl (hb hby at_33) ?_
      refine XS.lushr X.here hx rfl (hb hby at_35) rfl ?_
      refine XS.l2i X.here hx rfl (hb hby at_36) rfl ?_
      exact kt
    obtain ⟨v_1, T_1, L_1, X_1, q_1, st_1⟩ := callStatic X hx hZ (y := (⟨"java/lang/Integer", "valueOf", "(I)Ljava/lang/Integer;"⟩ : MethodName)) (W := 0) hown (wdOf hw 26 rfl) (wdOf hw 27 rfl) (wdOf hw 28 rfl) (wdOf hw 29 rfl) (by decide) (rm_vo l Z a0 hw [] (((pp.toUInt64 >>> ((32 : Int32) &&& 0x3f).toInt64.toUInt64).toInt64).toInt32) h n0 sz0 O BC SH) (by decide) (by decide) (by decide) (by decide) eT (g := (mkF m 37 #[sI_ fl, sJ_ pp, sS_, sJ_ pq, sS_, sI_ pr, sI_ ps, sI_ ph, .val x1, sU_, sU_, sU_, sU_, sU_, sU_, sU_, sU_, sU_, sU_, sU_, sU_] [(.int (((pp.toUInt64 >>> ((32 : Int32) &&& 0x3f).toInt64.toUInt64).toInt64).toInt32))])) rfl (by rw [hml]; rfl) (argsL := [(.int (((pp.toUInt64 >>> ((32 : Int32) &&& 0x3f).toInt64.toUInt64).toInt64).toInt32))]) (rest := []) (lenOf pd_14 rfl) rfl rfl (Nat.le_refl _) (hb hby at_37)
    obtain ⟨r_1, rfl, n_1, K_1, E_1, F_1⟩ := q_1
    have N_1 := Fr.app N n_1
    have f_2 : Old Z n0 T_1.heap := O.ext K_1
    have f_3 : RefV Z T_1.heap x1 "java/lang/String" := Ux1.ext K_1
    have K_4 : Keep h0 T_1.heap [] := K0.ext K_1
    have y_4 : n0 ≤ T_1.heap.size := Nat.le_trans Z0 K_4.1
    refine Goes.go (U' := (T_1.setTop (mkF m 40 #[sI_ fl, sJ_ pp, sS_, sJ_ pq, sS_, sI_ pr, sI_ ps, sI_ ph, .val x1, sU_, sU_, sU_, sU_, sU_, sU_, sU_, sU_, sU_, sU_, sU_, sU_] [(.ref r_1)]))) st_1 ?_
    refine Goes.go (U' := (T_1.setTop (mkF m 42 #[sI_ fl, sJ_ pp, sS_, sJ_ pq, sS_, sI_ pr, sI_ ps, sI_ ph, .val x1, sR_ r_1, sU_, sU_, sU_, sU_, sU_, sU_, sU_, sU_, sU_, sU_, sU_] []))) (fun t kt => ?_) ?_
    · skip
      refine XS.astore X_1.here hx rfl (hb hby at_40) rfl rfl (l' := #[sI_ fl, sJ_ pp, sS_, sJ_ pq, sS_, sI_ pr, sI_ ps, sI_ ph, .val x1, sR_ r_1, sU_, sU_, sU_, sU_, sU_, sU_, sU_, sU_, sU_, sU_, sU_]) rfl ?_
      exact kt
    exact law_42 l Z a0 hw fl pp pq pr ps ph cs x1 (.ref r_1) h0 n0 Z0 p e s m below meth c hx hby hml hown hnm hret hlk hZ _ _ _ X_1 (rfl : T_1.heap = T_1.heap) N_1 K_4 f_2 BC SH SC hcs f_3 (Or.inr ⟨_, _, rfl, E_1, F_1⟩)
  · -- not (fl &&& (2 : Int32)) = 0
    refine Goes.go (U' := (T.setTop (mkF m 42 #[sI_ fl, sJ_ pp, sS_, sJ_ pq, sS_, sI_ pr, sI_ ps, sI_ ph, .val x1, .val .null, sU_, sU_, sU_, sU_, sU_, sU_, sU_, sU_, sU_, sU_, sU_] []))) (fun t kt => ?_) ?_
    · skip
      refine XS.ifNo X.here hx rfl (hb hby at_25) rfl (XT.i0_eq_f cc) ?_
      refine XS.aconstNull X.here hx rfl (hb hby at_28) ?_
      refine XS.goto X.here hx rfl (pc0 := 29) (pc' := 40) rfl (hb hby at_29) (by decide) (by decide) ?_
      refine XS.astore X.here hx rfl (hb hby at_40) rfl rfl (l' := #[sI_ fl, sJ_ pp, sS_, sJ_ pq, sS_, sI_ pr, sI_ ps, sI_ ph, .val x1, .val .null, sU_, sU_, sU_, sU_, sU_, sU_, sU_, sU_, sU_, sU_, sU_]) rfl ?_
      exact kt
    exact law_42 l Z a0 hw fl pp pq pr ps ph cs x1 Value.null h0 n0 Z0 p e s m below meth c hx hby hml hown hnm hret hlk hZ _ _ _ (moreRoom (cells' := 3) (slots' := 6) X (by decide) (by decide)) eT N K0 O BC SH SC hcs Ux1 (Or.inl rfl)
set_option maxHeartbeats 4000000 in
theorem ef_rm_law (m : MethodId) (x0 : Int32) (x1 : Int64) (x2 : Int64) (x3 : Int32) (x4 : Int32) (x5 : Int32)  : entryFrame m #[(.int x0), (.long x1), (.long x2), (.int x3), (.int x4), (.int x5)] maxLocals = mkF m 0 #[.val (.int x0), .val (.long x1), .second, .val (.long x2), .second, .val (.int x3), .val (.int x4), .val (.int x5), .unset, .unset, .unset, .unset, .unset, .unset, .unset, .unset, .unset, .unset, .unset, .unset, .unset] [] := by first | (simp [entryFrame, mkF, argsToLocals, catR, catN, catI, catJ, maxLocals]; done) | rfl
set_option maxRecDepth 65536 in
set_option maxHeartbeats 40000000 in
theorem rm_law (l : Launch) (Z : State) (a0 : Array Value) (hw : ∀ d ∈ tables_1, d.before a0 Z = true) (ws : List Jvm.Cond) (fl : Int32) (pp pq : Int64) (pr ps ph : Int32) (cs : Int32) (h0 : Heap) (n0 : Nat) (Z0 : n0 ≤ h0.size) (O : Old Z n0 h0) (BC : BoxC Z "java/lang/Integer$IntegerCache" "[Ljava/lang/Integer;" "java/lang/Integer" "I" (fun i => .int (i.toInt32 - 128))) (SH : Sta Z Z.heap "java/lang/Integer$IntegerCache" "high" "I" (.int (127 : Int32))) (SC : Sta Z Z.heap "java/lang/String" "COMPACT_STRINGS" "Z" (.int cs)) (hcs : ¬ cs = 0) :
    Pays l Z x code maxLocals ret ws room_1 #[(.int fl), (.long pp), (.long pq), (.int pr), (.int ps), (.int ph)] h0 (fun v h L => v = some (.int 1) ∧ Fr n0 L) := by
  refine Pays.of (plainFor_of_name (by first | (simp [plainName, overriddenIn]; done) | decide +kernel)) ?_
  intro p e s m below meth c s₁ hx hby hml hown hnm hret hlk hZ e0 X0
  have N0 := Fr.nil n0
  have K0 : Keep h0 h0 [] := Keep.refl _ _
  refine Goes.go (U' := (s₁.setTop (mkF m 0 #[sI_ fl, sJ_ pp, sS_, sJ_ pq, sS_, sI_ pr, sI_ ps, sI_ ph, sU_, sU_, sU_, sU_, sU_, sU_, sU_, sU_, sU_, sU_, sU_, sU_, sU_] []))) (fun t kt => castTop (ef_rm_law m fl pp pq pr ps ph) kt) ?_
  refine Goes.go (U' := (s₁.setTop (mkF m 3 #[sI_ fl, sJ_ pp, sS_, sJ_ pq, sS_, sI_ pr, sI_ ps, sI_ ph, sU_, sU_, sU_, sU_, sU_, sU_, sU_, sU_, sU_, sU_, sU_, sU_, sU_] [(.int (fl &&& (1 : Int32)))]))) (fun t kt => ?_) ?_
  · skip
    refine XS.iloadN X0.here hx rfl (hb hby at_0) rfl ?_
    refine XS.iconst X0.here hx rfl (hb hby at_1) ?_
    refine XS.iand X0.here hx rfl (hb hby at_2) rfl ?_
    exact kt
  by_cases cc : (fl &&& (1 : Int32)) = 0
  · -- (fl &&& (1 : Int32)) = 0
    refine Goes.go (U' := (s₁.setTop (mkF m 17 #[sI_ fl, sJ_ pp, sS_, sJ_ pq, sS_, sI_ pr, sI_ ps, sI_ ph, sU_, sU_, sU_, sU_, sU_, sU_, sU_, sU_, sU_, sU_, sU_, sU_, sU_] [(.int ((ph &&& (255 : Int32)).toUInt32.toUInt16.toUInt32.toInt32))]))) (fun t kt => ?_) ?_
    · skip
      refine XS.ifYes X0.here hx rfl (pc0 := 3) (pc' := 10) rfl (hb hby at_3) rfl (XT.i0_eq_t cc) (by decide) (by decide) ?_
      refine XS.iload X0.here hx rfl (hb hby at_10) rfl ?_
      refine XS.sipush X0.here hx rfl (hb hby at_12) ?_
      refine XS.iand X0.here hx rfl (hb hby at_15) rfl ?_
      refine XS.i2c X0.here hx rfl (hb hby at_16) rfl ?_
      exact kt
    obtain ⟨v_1, T_1, L_1, X_1, q_1, st_1⟩ := callStatic X0 hx hZ (y := (⟨"java/lang/String", "valueOf", "(C)Ljava/lang/String;"⟩ : MethodName)) (W := 0) hown (wdOf hw 0 rfl) (wdOf hw 1 rfl) (wdOf hw 2 rfl) (wdOf hw 3 rfl) (by decide) (rm_sv l Z a0 hw [] ((ph &&& (255 : Int32)).toUInt32.toUInt16.toUInt32.toInt32) cs h0 n0 Z0 O SC hcs (own_ff _)) (by decide) (by decide) (by decide) (by decide) e0 (g := (mkF m 17 #[sI_ fl, sJ_ pp, sS_, sJ_ pq, sS_, sI_ pr, sI_ ps, sI_ ph, sU_, sU_, sU_, sU_, sU_, sU_, sU_, sU_, sU_, sU_, sU_, sU_, sU_] [(.int ((ph &&& (255 : Int32)).toUInt32.toUInt16.toUInt32.toInt32))])) rfl (by rw [hml]; rfl) (argsL := [(.int ((ph &&& (255 : Int32)).toUInt32.toUInt16.toUInt32.toInt32))]) (rest := []) (lenOf pd_15 rfl) rfl rfl (Nat.le_refl _) (hb hby at_17)
    obtain ⟨r_1, rb_1, kb_1, rfl, n_1, K_1, E_1, -, -, -⟩ := q_1
    have N_1 := Fr.app N0 n_1
    have f_2 : Old Z n0 T_1.heap := O.ext K_1
    have K_3 : Keep h0 T_1.heap [] := K0.ext K_1
    have y_3 : n0 ≤ T_1.heap.size := Nat.le_trans Z0 K_3.1
    refine Goes.go (U' := (T_1.setTop (mkF m 20 #[sI_ fl, sJ_ pp, sS_, sJ_ pq, sS_, sI_ pr, sI_ ps, sI_ ph, sU_, sU_, sU_, sU_, sU_, sU_, sU_, sU_, sU_, sU_, sU_, sU_, sU_] [(.ref r_1)]))) st_1 ?_
    refine Goes.go (U' := (T_1.setTop (mkF m 22 #[sI_ fl, sJ_ pp, sS_, sJ_ pq, sS_, sI_ pr, sI_ ps, sI_ ph, sR_ r_1, sU_, sU_, sU_, sU_, sU_, sU_, sU_, sU_, sU_, sU_, sU_, sU_] []))) (fun t kt => ?_) ?_
    · skip
      refine XS.astore X_1.here hx rfl (hb hby at_20) rfl rfl (l' := #[sI_ fl, sJ_ pp, sS_, sJ_ pq, sS_, sI_ pr, sI_ ps, sI_ ph, sR_ r_1, sU_, sU_, sU_, sU_, sU_, sU_, sU_, sU_, sU_, sU_, sU_, sU_]) rfl ?_
      exact kt
    exact law_22 l Z a0 hw fl pp pq pr ps ph cs  (.ref r_1) h0 n0 Z0 p e s m below meth c hx hby hml hown hnm hret hlk hZ _ _ _ X_1 (rfl : T_1.heap = T_1.heap) N_1 K_3 f_2 BC SH SC hcs  (Or.inr ⟨_, rfl, E_1⟩)
  · -- not (fl &&& (1 : Int32)) = 0
    refine Goes.go (U' := (s₁.setTop (mkF m 22 #[sI_ fl, sJ_ pp, sS_, sJ_ pq, sS_, sI_ pr, sI_ ps, sI_ ph, .val .null, sU_, sU_, sU_, sU_, sU_, sU_, sU_, sU_, sU_, sU_, sU_, sU_] []))) (fun t kt => ?_) ?_
    · skip
      refine XS.ifNo X0.here hx rfl (hb hby at_3) rfl (XT.i0_eq_f cc) ?_
      refine XS.aconstNull X0.here hx rfl (hb hby at_6) ?_
      refine XS.goto X0.here hx rfl (pc0 := 7) (pc' := 20) rfl (hb hby at_7) (by decide) (by decide) ?_
      refine XS.astore X0.here hx rfl (hb hby at_20) rfl rfl (l' := #[sI_ fl, sJ_ pp, sS_, sJ_ pq, sS_, sI_ pr, sI_ ps, sI_ ph, .val .null, sU_, sU_, sU_, sU_, sU_, sU_, sU_, sU_, sU_, sU_, sU_, sU_]) rfl ?_
      exact kt
    exact law_22 l Z a0 hw fl pp pq pr ps ph cs  Value.null h0 n0 Z0 p e s m below meth c hx hby hml hown hnm hret hlk hZ _ _ _ (moreRoom (cells' := 2) (slots' := 5) X0 (by decide) (by decide)) e0 N0 K0 O BC SH SC hcs  (Or.inl rfl)
set_option maxRecDepth 65536 in
set_option maxHeartbeats 40000000 in
theorem comes_1 {Post : Tables → Env → Array Value → State → Outcome → State → Prop} (hpost : ∀ tb e args s v u, (limb_1_1.after args s (.returned v) u = true ∧ limb_1_2.after args s (.returned v) u = true) → FrameEnd s (.returned v) u (Jvm.fieldLocs frame_1_writes args s ++ Jvm.arrayLocs frame_1_arrays args s ++ Jvm.staticLocs frame_1_statics s) 48 192 → Post tb e args s (.returned v) u) :
    ArmFor flags0 classFile x code maxLocals ret World_1 tables_1 room_1 Calls_1 rest_1 Pre_1 Post := by
  intro l hfl _ _ p e ha hc hk s m args below hf hA hF happ hP
  obtain ⟨hcalls, hrest, hpre⟩ := hP
  obtain ⟨-, -, -, hnamed, -, -, -, hat⟩ := (Spec.applies_iff hf).mp happ
  obtain ⟨hg, hn⟩ := and_e (Cond.before_iff.mp (show (Jvm.Cond.and given_1 narrow_1).before args s = true from hpre))
  obtain ⟨gc, gs⟩ := and_e hg
  obtain ⟨ga0, gs⟩ := and_e gs
  obtain ⟨ga1, gs⟩ := and_e gs
  obtain ⟨ga2, gs⟩ := and_e gs
  obtain ⟨ga3, gs⟩ := and_e gs
  obtain ⟨ga4, gs⟩ := and_e gs
  have ga5 := gs
  obtain ⟨w0, w1, w2, w3, w4, w5, rfl⟩ : ∃ w0 w1 w2 w3 w4 w5 : Value, args = #[w0, w1, w2, w3, w4, w5] := by
    have hs : args.size = 6 := by simpa [Cond.value, given_1] using gc
    obtain ⟨L⟩ := args
    match L, hs with
    | [w0, w1, w2, w3, w4, w5], _ => exact ⟨w0, w1, w2, w3, w4, w5, rfl⟩
  have hw := fun d (hd : d ∈ tables_1) => atoms_spec (ws := Jvm.Cond.code x code maxLocals ret :: tables_1) hat d (List.mem_cons_of_mem _ hd)
  have hfit : Fit s := fun {y c} hc i hi => by
    obtain ⟨ha, rfl⟩ := Array.getElem?_eq_some_iff.mp hc
    have q := List.all_eq_true.mp ((Array.all_eq_true_iff_forall_mem.mp hF) _ (Array.getElem_mem ha)) i (List.mem_range.mpr hi)
    simpa [Array.getElem?_eq_getElem hi] using q
  obtain ⟨i0, ei0⟩ := is_v ga0
  obtain rfl : w0 = (.int i0) := Option.some.inj ei0
  obtain ⟨i1, ei1⟩ := isL_v ga1
  obtain rfl : w1 = (.long i1) := Option.some.inj ei1
  obtain ⟨i2, ei2⟩ := isL_v ga2
  obtain rfl : w2 = (.long i2) := Option.some.inj ei2
  obtain ⟨i3, ei3⟩ := is_v ga3
  obtain rfl : w3 = (.int i3) := Option.some.inj ei3
  obtain ⟨i4, ei4⟩ := is_v ga4
  obtain rfl : w4 = (.int i4) := Option.some.inj ei4
  obtain ⟨i5, ei5⟩ := is_v ga5
  obtain rfl : w5 = (.int i5) := Option.some.inj ei5
  obtain ⟨hsets, hown0⟩ := atoms_of _ (rest_1_c_eq ▸ (show rest_1_c.before _ s = true from hrest))
  have BC : BoxC s "java/lang/Integer$IntegerCache" "[Ljava/lang/Integer;" "java/lang/Integer" "I" (fun i => .int (i.toInt32 - 128)) := BoxC.start (wdOf hw 31 rfl) (wdOf hsets 11 rfl) (wdOf hsets 13 rfl) (wdOf hsets 15 rfl) (wdOf hsets 16 rfl) (fun _ => rfl) (fun _ => Or.inl ⟨_, rfl⟩)
  have SH : Sta s s.heap "java/lang/Integer$IntegerCache" "high" "I" (.int (127 : Int32)) := Sta.start (eqInt_v (Cond.before_iff.mp (wdOf hsets 12 rfl))) (Or.inr ⟨(wdOf hw 31 rfl), (wdOf hsets 9 rfl)⟩)
  obtain ⟨cs, ecs⟩ := is_v (Cond.before_iff.mp (wdOf hsets 1 rfl))
  have SC : Sta s s.heap "java/lang/String" "COMPACT_STRINGS" "Z" (.int cs) := Sta.start ecs (Or.inl (wdOf hsets 0 rfl))
  have hcs : ¬ cs = 0 := own_cs ecs (Cond.before_iff.mp (wdOf hsets 2 rfl))
  obtain ⟨n, o, h1, h2, h3, _, L, rfl, ⟨rfl, N⟩, hq⟩ := rm_law l s _ hw tables_1 i0 i1 i2 i3 i4 i5 cs s.heap s.heap.size (Nat.le_refl _) (Old.start s) BC SH SC hcs p e ha hc hk s m _ below hf ((Spec.applies_iff_loose hf).mp happ).1 ⟨rfl, State.Warmed39.refl s, rfl⟩ trivial
  refine ⟨n, _, h1, h2, h3, hpost _ _ _ _ _ _ ⟨Cond.after_iff.mpr rfl, Cond.after_iff.mpr (eq_i res_at (Term.int_eval (1)) rfl)⟩ ⟨hq.1, hq.2.1, (hq.2.2.sift fun y hy => Or.inr (N y hy)).mono (by decide) (by decide)⟩⟩
theorem main_1_1 : Claimed_1_1 := comes_1 fun _ _ _ _ _ _ h hF => ⟨h.1, hF⟩
theorem main_1_2 : Claimed_1_2 := comes_1 fun _ _ _ _ _ _ h hF => ⟨h.2, hF⟩
end Jvm.Pilot.@@N@@
namespace Jvm.Pilot.@@N@@
open Jvm Jvm.ClassFile Sem Op Lib Jvm.Free Jvm.Stand Jvm.Pilot.@@N@@.Jvm.D
/-! MADE BY PROGRAM (witnessworld.py) out of the Statement's table words and the real class files: 22 classes; the members and pool entries that the words name. The judged class is class 1, her method 1. -/
namespace start1
open Jvm.ClassFile
def u (s : String) : CpInfo := .utf8 (stringToUtf16 s)
/-- a pool by its gaps: so many unusable entries, then the entry; so many at the end -/
def gap : Nat → List CpInfo → List CpInfo
  | 0, r => r
  | n + 1, r => .unusable :: gap n r
def poolList (es : List (Nat × CpInfo)) (last : Nat) : List CpInfo := es.foldr (fun e r => gap e.1 (e.2 :: r)) (gap last [])
def pool (es : List (Nat × CpInfo)) (last : Nat) : Array CpInfo := ⟨poolList es last⟩
def fileOf (pool : Array CpInfo) (this : Nat) (attrs : Array Attribute := #[]) (ms : Array MethodInfo := #[]) (fl : Nat := 33) (sup : Nat := 0) (ifs : Array Nat := #[]) (fds : Array FieldInfo := #[]) : ClassFile where
  minorVersion := 0
  majorVersion := 65
  constantPool := pool
  accessFlags := fl
  thisClass := this
  superClass := sup
  interfaces := ifs
  fields := fds
  methods := ms
  attributes := attrs
def plain (name : String) (sup : Option ClassId) : Class where
  name := name
  kind := .ordinary
  loader := none
  accessFlags := 33
  super := sup
  interfaces := #[]
  cf := none
  fields := #[]
  methods := #[]
  instanceTypes := #[]
  staticTypes := #[]
  resolved := #[]
  callSites := []
  init := .initialized
  statics := none
  mirror := none

def pool0 : Array CpInfo := pool [(5, u "<init>"), (0, u "()V"), (1, .class_ 10), (1, u "java/lang/Object")] 113

def k0c0 : Code := { maxStack := 0, maxLocals := 1, code := object_method_1_code, exceptionTable := #[], attributes := #[] }
def k0m0 : Method := { name := "<init>", desc := "()V", sig := { parameters := [], returnType := none }, accessFlags := 1, code := some k0c0 }
/-- java/lang/Object -/
def k0 : Class := { plain "java/lang/Object" none with
  accessFlags := 33
  interfaces := #[]
  cf := some (fileOf pool0 8 #[] #[{ accessFlags := 1, nameIndex := 5, descriptorIndex := 6, attributes := #[] }] 33 0 #[] #[])
  fields := #[]
  methods := #[k0m0]
  instanceTypes := #[]
  staticTypes := #[]
  resolved := Array.replicate 124 none
  statics := none }

def pool1 : Array CpInfo := pool [(2, .class_ 4), (1, u "java/lang/Object"), (0, u "<init>"), (0, u "()V"), (0, .methodref 8 9), (0, .class_ 10), (0, .nameAndType 11 12), (0, u "java/lang/String"), (0, u "valueOf"), (0, u "(C)Ljava/lang/String;"), (0, .methodref 14 15), (0, .class_ 16), (0, .nameAndType 11 17), (0, u "java/lang/Integer"), (0, u "(I)Ljava/lang/Integer;"), (0, .class_ 19), (0, u "com/example/kilnroute/kilnroute/spark/Resources"), (0, .methodref 18 21), (0, .nameAndType 5 22), (0, u "(Ljava/lang/String;Ljava/lang/Integer;Ljava/lang/String;Ljava/lang/Integer;Ljava/lang/Integer;)V"), (0, .methodref 18 24), (0, .nameAndType 25 26), (0, u "overriddenBy"), (0, u "(Lcom/example/kilnroute/kilnroute/spark/Resources;)Lcom/example/kilnroute/kilnroute/spark/Resources;"), (0, .methodref 18 28), (0, .nameAndType 29 30), (0, u "driverMemory"), (0, u "()Ljava/lang/String;"), (0, .methodref 32 33), (0, .class_ 34), (0, .nameAndType 35 36), (0, u "com/example/kilnroute/kilnroute/spark/ResourcesOverriddenByPinLaw"), (0, u "sameStr"), (0, u "(Ljava/lang/String;Ljava/lang/String;)Z"), (0, .methodref 18 38), (0, .nameAndType 39 40), (0, u "driverCores"), (0, u "()Ljava/lang/Integer;"), (0, .methodref 32 42), (0, .nameAndType 43 44), (0, u "sameInt"), (0, u "(Ljava/lang/Integer;Ljava/lang/Integer;)Z"), (0, .methodref 18 46), (0, .nameAndType 47 30), (0, u "executorMemory"), (0, .methodref 18 49), (0, .nameAndType 50 40), (0, u "executorCores"), (0, .methodref 18 52), (0, .nameAndType 53 40), (0, u "numExecutors"), (0, .methodref 8 55), (0, .nameAndType 56 57), (0, u "equals"), (0, u "(Ljava/lang/Object;)Z"), (0, .methodref 14 59), (0, .nameAndType 60 61), (0, u "intValue"), (0, u "()I"), (2, u "law"), (0, u "(IJJIII)Z")] 3

def k1m0 : Method := { name := "<init>", desc := "()V", sig := { parameters := [], returnType := none }, accessFlags := 1, code := none }
def k1c1 : Code := { maxStack := 7, maxLocals := 21, code := code, exceptionTable := #[], attributes := #[] }
def k1m1 : Method := { name := "law", desc := "(IJJIII)Z", sig := { parameters := [.int, .long, .long, .int, .int, .int], returnType := some .boolean }, accessFlags := 9, code := some k1c1 }
def k1c2 : Code := { maxStack := 2, maxLocals := 2, code := method_3_code, exceptionTable := #[], attributes := #[] }
def k1m2 : Method := { name := "sameStr", desc := "(Ljava/lang/String;Ljava/lang/String;)Z", sig := { parameters := [(.object "java/lang/String"), (.object "java/lang/String")], returnType := some .boolean }, accessFlags := 10, code := some k1c2 }
def k1c3 : Code := { maxStack := 2, maxLocals := 2, code := method_4_code, exceptionTable := #[], attributes := #[] }
def k1m3 : Method := { name := "sameInt", desc := "(Ljava/lang/Integer;Ljava/lang/Integer;)Z", sig := { parameters := [(.object "java/lang/Integer"), (.object "java/lang/Integer")], returnType := some .boolean }, accessFlags := 10, code := some k1c3 }
/-- com/example/kilnroute/kilnroute/spark/ResourcesOverriddenByPinLaw -/
def k1 : Class := { plain "com/example/kilnroute/kilnroute/spark/ResourcesOverriddenByPinLaw" (some 0) with
  accessFlags := 49
  interfaces := #[]
  cf := some (fileOf pool1 32 #[] #[{ accessFlags := 1, nameIndex := 5, descriptorIndex := 6, attributes := #[] }, { accessFlags := 9, nameIndex := 64, descriptorIndex := 65, attributes := #[] }, { accessFlags := 10, nameIndex := 35, descriptorIndex := 36, attributes := #[] }, { accessFlags := 10, nameIndex := 43, descriptorIndex := 44, attributes := #[] }] 49 2 #[] #[])
  fields := #[]
  methods := #[k1m0, k1m1, k1m2, k1m3]
  instanceTypes := #[]
  staticTypes := #[]
  resolved := Array.replicate 69 none
  statics := none }

def pool2 : Array CpInfo := pool [(1, .class_ 2), (0, u "java/io/Serializable"), (0, .class_ 4), (0, u "java/lang/Object")] 2

/-- java/io/Serializable -/
def k2 : Class := { plain "java/io/Serializable" (some 0) with
  accessFlags := 1537
  interfaces := #[]
  cf := some (fileOf pool2 1 #[] #[] 1537 3 #[] #[])
  fields := #[]
  methods := #[]
  instanceTypes := #[]
  staticTypes := #[]
  resolved := Array.replicate 7 none
  statics := none }

def pool3 : Array CpInfo := pool [(1, .class_ 2), (0, u "java/lang/Comparable"), (0, .class_ 4), (0, u "java/lang/Object")] 7

/-- java/lang/Comparable -/
def k3 : Class := { plain "java/lang/Comparable" (some 0) with
  accessFlags := 1537
  interfaces := #[]
  cf := some (fileOf pool3 1 #[] #[] 1537 3 #[] #[])
  fields := #[]
  methods := #[]
  instanceTypes := #[]
  staticTypes := #[]
  resolved := Array.replicate 12 none
  statics := none }

def pool4 : Array CpInfo := pool [(2, .class_ 4), (1, u "java/lang/CharSequence"), (42, .class_ 48), (0, u "java/lang/CharSequence$1CodePointIterator"), (10, .class_ 60), (0, u "java/lang/CharSequence$1CharIterator"), (5, .class_ 67), (0, u "java/lang/Object")] 63

/-- java/lang/CharSequence -/
def k4 : Class := { plain "java/lang/CharSequence" (some 0) with
  accessFlags := 1537
  interfaces := #[]
  cf := some (fileOf pool4 2 #[.nestMembers #[47, 59]] #[] 1537 66 #[] #[])
  fields := #[]
  methods := #[]
  instanceTypes := #[]
  staticTypes := #[]
  resolved := Array.replicate 131 none
  statics := none }

def pool5 : Array CpInfo := pool [(1, .class_ 2), (0, u "java/lang/constant/Constable"), (0, .class_ 4), (0, u "java/lang/Object")] 6

/-- java/lang/constant/Constable -/
def k5 : Class := { plain "java/lang/constant/Constable" (some 0) with
  accessFlags := 1537
  interfaces := #[]
  cf := some (fileOf pool5 1 #[] #[] 1537 3 #[] #[])
  fields := #[]
  methods := #[]
  instanceTypes := #[]
  staticTypes := #[]
  resolved := Array.replicate 11 none
  statics := none }

def pool6 : Array CpInfo := pool [(1, .class_ 2), (0, u "java/lang/constant/ConstantDesc"), (0, .class_ 4), (0, u "java/lang/Object")] 32

/-- java/lang/constant/ConstantDesc -/
def k6 : Class := { plain "java/lang/constant/ConstantDesc" (some 0) with
  accessFlags := 1537
  interfaces := #[]
  cf := some (fileOf pool6 1 #[] #[] 1537 3 #[] #[])
  fields := #[]
  methods := #[]
  instanceTypes := #[]
  staticTypes := #[]
  resolved := Array.replicate 37 none
  statics := none }

def pool7 : Array CpInfo := pool [(1, .methodref 2 3), (0, .class_ 4), (0, .nameAndType 5 6), (0, u "java/lang/Object"), (0, u "<init>"), (0, u "()V"), (2, .fieldref 10 11), (0, .class_ 12), (0, .nameAndType 13 14), (0, u "java/lang/String"), (0, u "value"), (0, u "[B"), (0, .fieldref 10 16), (0, .nameAndType 17 18), (0, u "coder"), (0, u "B"), (2, u "hash"), (0, u "I"), (2, u "hashIsZero"), (0, u "Z"), (11, .fieldref 10 39), (0, .nameAndType 40 26), (0, u "COMPACT_STRINGS"), (12, u "toBytes"), (53, .class_ 109), (1, u "java/lang/StringLatin1"), (99, .methodref 10 210), (0, .nameAndType 5 211), (0, u "([BB)V"), (157, u "(C)Z"), (173, u "equals"), (29, u "(Ljava/lang/Object;)Z"), (1, .class_ 576), (0, u "java/lang/CharSequence"), (22, u "CASE_INSENSITIVE_ORDER"), (0, u "Ljava/util/Comparator;"), (181, u "valueOf"), (0, u "(C)Ljava/lang/String;"), (231, .methodref 107 1016), (0, .nameAndType 1017 369), (0, u "canEncode"), (0, .methodref 107 1019), (0, .nameAndType 53 1020), (0, u "(C)[B"), (80, u "serialPersistentFields"), (0, u "[Ljava/io/ObjectStreamField;"), (0, .class_ 1104), (0, u "java/lang/String$CaseInsensitiveComparator"), (1, .class_ 1107), (0, u "java/io/Serializable"), (0, .class_ 1109), (0, u "java/lang/Comparable"), (0, .class_ 1111), (0, u "java/lang/constant/Constable"), (0, .class_ 1113), (0, u "java/lang/constant/ConstantDesc"), (2, u "serialVersionUID"), (0, u "J"), (3, u "REPL"), (0, u "C"), (2, u "LATIN1"), (1, u "UTF16")] 323

def k7m0 : Method := { name := "<init>", desc := "()V", sig := { parameters := [], returnType := none }, accessFlags := 1, code := none }
def k7c1 : Code := { maxStack := 2, maxLocals := 3, code := jdk_42_method_66_code, exceptionTable := #[], attributes := #[] }
def k7m1 : Method := { name := "equals", desc := "(Ljava/lang/Object;)Z", sig := { parameters := [(.object "java/lang/Object")], returnType := some .boolean }, accessFlags := 1, code := some k7c1 }
def k7c2 : Code := { maxStack := 4, maxLocals := 1, code := jdk_42_method_139_code, exceptionTable := #[], attributes := #[] }
def k7m2 : Method := { name := "valueOf", desc := "(C)Ljava/lang/String;", sig := { parameters := [.char], returnType := some (.object "java/lang/String") }, accessFlags := 9, code := some k7c2 }
def k7c3 : Code := { maxStack := 2, maxLocals := 3, code := jdk_42_method_151_code, exceptionTable := #[], attributes := #[] }
def k7m3 : Method := { name := "<init>", desc := "([BB)V", sig := { parameters := [(.array .byte), .byte], returnType := none }, accessFlags := 0, code := some k7c3 }
/-- java/lang/String -/
def k7 : Class := { plain "java/lang/String" (some 0) with
  accessFlags := 49
  interfaces := #[2, 3, 4, 5, 6]
  cf := some (fileOf pool7 10 #[.nestMembers #[1103]] #[{ accessFlags := 1, nameIndex := 5, descriptorIndex := 6, attributes := #[] }, { accessFlags := 1, nameIndex := 543, descriptorIndex := 573, attributes := #[] }, { accessFlags := 9, nameIndex := 782, descriptorIndex := 783, attributes := #[] }, { accessFlags := 0, nameIndex := 5, descriptorIndex := 211, attributes := #[] }] 49 2 #[1106, 1108, 575, 1110, 1112] #[{ accessFlags := 18, nameIndex := 13, descriptorIndex := 14, attributes := #[] }, { accessFlags := 18, nameIndex := 17, descriptorIndex := 18, attributes := #[] }, { accessFlags := 2, nameIndex := 21, descriptorIndex := 22, attributes := #[] }, { accessFlags := 2, nameIndex := 25, descriptorIndex := 26, attributes := #[] }, { accessFlags := 26, nameIndex := 1116, descriptorIndex := 1117, attributes := #[] }, { accessFlags := 24, nameIndex := 40, descriptorIndex := 26, attributes := #[] }, { accessFlags := 26, nameIndex := 1101, descriptorIndex := 1102, attributes := #[] }, { accessFlags := 26, nameIndex := 1121, descriptorIndex := 1122, attributes := #[] }, { accessFlags := 25, nameIndex := 599, descriptorIndex := 600, attributes := #[] }, { accessFlags := 24, nameIndex := 1125, descriptorIndex := 18, attributes := #[] }, { accessFlags := 24, nameIndex := 1127, descriptorIndex := 18, attributes := #[] }])
  fields := #[{ name := "value", type := (.array .byte), accessFlags := 18, slot := 0, constantValue := 0 }, { name := "coder", type := .byte, accessFlags := 18, slot := 1, constantValue := 0 }, { name := "hash", type := .int, accessFlags := 2, slot := 2, constantValue := 0 }, { name := "hashIsZero", type := .boolean, accessFlags := 2, slot := 3, constantValue := 0 }, { name := "serialVersionUID", type := .long, accessFlags := 26, slot := 0, constantValue := 0 }, { name := "COMPACT_STRINGS", type := .boolean, accessFlags := 24, slot := 1, constantValue := 0 }, { name := "serialPersistentFields", type := (.array (.object "java/io/ObjectStreamField")), accessFlags := 26, slot := 2, constantValue := 0 }, { name := "REPL", type := .char, accessFlags := 26, slot := 3, constantValue := 0 }, { name := "CASE_INSENSITIVE_ORDER", type := (.object "java/util/Comparator"), accessFlags := 25, slot := 4, constantValue := 0 }, { name := "LATIN1", type := .byte, accessFlags := 24, slot := 5, constantValue := 0 }, { name := "UTF16", type := .byte, accessFlags := 24, slot := 6, constantValue := 0 }]
  methods := #[k7m0, k7m1, k7m2, k7m3]
  instanceTypes := #[(.array .byte), .byte, .int, .boolean]
  staticTypes := #[.long, .boolean, (.array (.object "java/io/ObjectStreamField")), .char, (.object "java/util/Comparator"), .byte, .byte]
  resolved := Array.replicate 1451 none
  statics := some 0 }

def pool8 : Array CpInfo := pool [(4, .class_ 6), (1, u "java/lang/Object"), (0, u "<init>"), (0, u "()V"), (5, .class_ 16), (1, u "java/lang/StringLatin1"), (73, u "canEncode"), (14, u "(C)Z"), (15, u "$assertionsDisabled"), (0, u "Z"), (98, .class_ 223), (1, u "java/lang/StringLatin1$LinesSpliterator"), (156, u "toBytes"), (1, u "(C)[B"), (7, .class_ 391), (0, u "java/lang/StringLatin1$CharsSpliterator")] 3

def k8m0 : Method := { name := "<init>", desc := "()V", sig := { parameters := [], returnType := none }, accessFlags := 0, code := none }
def k8c1 : Code := { maxStack := 2, maxLocals := 1, code := jdk_43_method_3_code, exceptionTable := #[], attributes := #[] }
def k8m1 : Method := { name := "canEncode", desc := "(C)Z", sig := { parameters := [.char], returnType := some .boolean }, accessFlags := 9, code := some k8c1 }
def k8c2 : Code := { maxStack := 4, maxLocals := 1, code := jdk_43_method_46_code, exceptionTable := #[], attributes := #[] }
def k8m2 : Method := { name := "toBytes", desc := "(C)[B", sig := { parameters := [.char], returnType := some (.array .byte) }, accessFlags := 9, code := some k8c2 }
/-- java/lang/StringLatin1 -/
def k8 : Class := { plain "java/lang/StringLatin1" (some 0) with
  accessFlags := 48
  interfaces := #[]
  cf := some (fileOf pool8 14 #[.nestMembers #[390, 221]] #[{ accessFlags := 0, nameIndex := 7, descriptorIndex := 8, attributes := #[] }, { accessFlags := 9, nameIndex := 90, descriptorIndex := 105, attributes := #[] }, { accessFlags := 9, nameIndex := 380, descriptorIndex := 382, attributes := #[] }] 48 4 #[] #[{ accessFlags := 4120, nameIndex := 121, descriptorIndex := 122, attributes := #[] }])
  fields := #[{ name := "$assertionsDisabled", type := .boolean, accessFlags := 4120, slot := 0, constantValue := 0 }]
  methods := #[k8m0, k8m1, k8m2]
  instanceTypes := #[]
  staticTypes := #[.boolean]
  resolved := Array.replicate 395 none
  statics := none }

def pool9 : Array CpInfo := pool [(1, .methodref 2 3), (0, .class_ 4), (0, .nameAndType 5 6), (0, u "java/lang/Object"), (0, u "<init>"), (0, u "()V"), (1, .class_ 10), (1, u "java/lang/Number"), (2, .class_ 14), (0, u "java/io/Serializable"), (0, u "serialVersionUID"), (0, u "J")] 20

def k9c0 : Code := { maxStack := 1, maxLocals := 1, code := jdk_18_method_1_code, exceptionTable := #[], attributes := #[] }
def k9m0 : Method := { name := "<init>", desc := "()V", sig := { parameters := [], returnType := none }, accessFlags := 1, code := some k9c0 }
/-- java/lang/Number -/
def k9 : Class := { plain "java/lang/Number" (some 0) with
  accessFlags := 1057
  interfaces := #[2]
  cf := some (fileOf pool9 8 #[] #[{ accessFlags := 1, nameIndex := 5, descriptorIndex := 6, attributes := #[] }] 1057 2 #[13] #[{ accessFlags := 26, nameIndex := 15, descriptorIndex := 16, attributes := #[] }])
  fields := #[{ name := "serialVersionUID", type := .long, accessFlags := 26, slot := 0, constantValue := 0 }]
  methods := #[k9m0]
  instanceTypes := #[]
  staticTypes := #[.long]
  resolved := Array.replicate 37 none
  statics := none }

def pool10 : Array CpInfo := pool [(1, .class_ 2), (0, u "java/lang/Integer"), (16, u "digits"), (0, u "[C"), (46, u "<init>"), (17, u "DigitOnes"), (0, u "[B"), (2, u "DigitTens"), (10, .nameAndType 67 101), (0, u "()V"), (19, u "()I"), (65, u "valueOf"), (0, u "(I)Ljava/lang/Integer;"), (0, .class_ 190), (0, u "java/lang/Integer$IntegerCache"), (0, .fieldref 189 192), (0, .nameAndType 193 194), (0, u "high"), (0, u "I"), (0, .fieldref 189 196), (0, .nameAndType 197 198), (0, u "cache"), (0, u "[Ljava/lang/Integer;"), (0, .methodref 1 200), (0, .nameAndType 67 201), (0, u "(I)V"), (0, .methodref 203 100), (0, .class_ 204), (0, u "java/lang/Number"), (0, .fieldref 1 206), (0, .nameAndType 207 194), (0, u "value"), (5, u "intValue"), (88, u "TYPE"), (0, u "Ljava/lang/Class;"), (0, .class_ 305), (0, u "java/lang/Comparable"), (0, .class_ 307), (0, u "java/lang/constant/Constable"), (0, .class_ 309), (0, u "java/lang/constant/ConstantDesc"), (0, u "MIN_VALUE"), (1, u "MAX_VALUE"), (3, u "SIZE"), (1, u "BYTES"), (1, u "serialVersionUID"), (0, u "J")] 131

def k10c0 : Code := { maxStack := 3, maxLocals := 1, code := jdk_33_method_22_code, exceptionTable := #[], attributes := #[] }
def k10m0 : Method := { name := "valueOf", desc := "(I)Ljava/lang/Integer;", sig := { parameters := [.int], returnType := some (.object "java/lang/Integer") }, accessFlags := 9, code := some k10c0 }
def k10c1 : Code := { maxStack := 2, maxLocals := 2, code := jdk_33_method_23_code, exceptionTable := #[], attributes := #[] }
def k10m1 : Method := { name := "<init>", desc := "(I)V", sig := { parameters := [.int], returnType := none }, accessFlags := 1, code := some k10c1 }
def k10c2 : Code := { maxStack := 1, maxLocals := 1, code := jdk_33_method_27_code, exceptionTable := #[], attributes := #[] }
def k10m2 : Method := { name := "intValue", desc := "()I", sig := { parameters := [], returnType := some .int }, accessFlags := 1, code := some k10c2 }
/-- java/lang/Integer -/
def k10 : Class := { plain "java/lang/Integer" (some 9) with
  accessFlags := 49
  interfaces := #[3, 5, 6]
  cf := some (fileOf pool10 1 #[.nestMembers #[189]] #[{ accessFlags := 9, nameIndex := 187, descriptorIndex := 188, attributes := #[] }, { accessFlags := 1, nameIndex := 67, descriptorIndex := 201, attributes := #[] }, { accessFlags := 1, nameIndex := 213, descriptorIndex := 121, attributes := #[] }] 49 203 #[304, 306, 308] #[{ accessFlags := 25, nameIndex := 310, descriptorIndex := 194, attributes := #[] }, { accessFlags := 25, nameIndex := 312, descriptorIndex := 194, attributes := #[] }, { accessFlags := 25, nameIndex := 302, descriptorIndex := 303, attributes := #[] }, { accessFlags := 24, nameIndex := 19, descriptorIndex := 20, attributes := #[] }, { accessFlags := 24, nameIndex := 89, descriptorIndex := 86, attributes := #[] }, { accessFlags := 24, nameIndex := 85, descriptorIndex := 86, attributes := #[] }, { accessFlags := 18, nameIndex := 207, descriptorIndex := 194, attributes := #[] }, { accessFlags := 25, nameIndex := 316, descriptorIndex := 194, attributes := #[] }, { accessFlags := 25, nameIndex := 318, descriptorIndex := 194, attributes := #[] }, { accessFlags := 26, nameIndex := 320, descriptorIndex := 321, attributes := #[] }])
  fields := #[{ name := "MIN_VALUE", type := .int, accessFlags := 25, slot := 0, constantValue := 0 }, { name := "MAX_VALUE", type := .int, accessFlags := 25, slot := 1, constantValue := 0 }, { name := "TYPE", type := (.object "java/lang/Class"), accessFlags := 25, slot := 2, constantValue := 0 }, { name := "digits", type := (.array .char), accessFlags := 24, slot := 3, constantValue := 0 }, { name := "DigitTens", type := (.array .byte), accessFlags := 24, slot := 4, constantValue := 0 }, { name := "DigitOnes", type := (.array .byte), accessFlags := 24, slot := 5, constantValue := 0 }, { name := "value", type := .int, accessFlags := 18, slot := 0, constantValue := 0 }, { name := "SIZE", type := .int, accessFlags := 25, slot := 6, constantValue := 0 }, { name := "BYTES", type := .int, accessFlags := 25, slot := 7, constantValue := 0 }, { name := "serialVersionUID", type := .long, accessFlags := 26, slot := 8, constantValue := 0 }]
  methods := #[k10m0, k10m1, k10m2]
  instanceTypes := #[.int]
  staticTypes := #[.int, .int, (.object "java/lang/Class"), (.array .char), (.array .byte), (.array .byte), .int, .int, .long]
  resolved := Array.replicate 453 none
  statics := none }

def pool11 : Array CpInfo := pool [(2, .class_ 4), (1, u "java/lang/Object"), (0, u "<init>"), (0, u "()V"), (0, .class_ 8), (0, u "java/lang/Integer"), (7, .class_ 18), (1, u "java/lang/Integer$IntegerCache"), (0, u "$assertionsDisabled"), (0, u "Z"), (26, u "high"), (0, u "I"), (8, u "archivedCache"), (0, u "[Ljava/lang/Integer;"), (12, u "cache"), (0, u "low")] 27

def k11m0 : Method := { name := "<init>", desc := "()V", sig := { parameters := [], returnType := none }, accessFlags := 2, code := none }
/-- java/lang/Integer$IntegerCache -/
def k11 : Class := { plain "java/lang/Integer$IntegerCache" (some 0) with
  accessFlags := 48
  interfaces := #[]
  cf := some (fileOf pool11 16 #[.nestHost 7] #[{ accessFlags := 2, nameIndex := 5, descriptorIndex := 6, attributes := #[] }] 48 2 #[] #[{ accessFlags := 24, nameIndex := 72, descriptorIndex := 48, attributes := #[] }, { accessFlags := 24, nameIndex := 47, descriptorIndex := 48, attributes := #[] }, { accessFlags := 24, nameIndex := 71, descriptorIndex := 58, attributes := #[] }, { accessFlags := 8, nameIndex := 57, descriptorIndex := 58, attributes := #[] }, { accessFlags := 4120, nameIndex := 19, descriptorIndex := 20, attributes := #[] }])
  fields := #[{ name := "low", type := .int, accessFlags := 24, slot := 0, constantValue := 0 }, { name := "high", type := .int, accessFlags := 24, slot := 1, constantValue := 0 }, { name := "cache", type := (.array (.object "java/lang/Integer")), accessFlags := 24, slot := 2, constantValue := 0 }, { name := "archivedCache", type := (.array (.object "java/lang/Integer")), accessFlags := 8, slot := 3, constantValue := 0 }, { name := "$assertionsDisabled", type := .boolean, accessFlags := 4120, slot := 4, constantValue := 0 }]
  methods := #[k11m0]
  instanceTypes := #[]
  staticTypes := #[.int, .int, (.array (.object "java/lang/Integer")), (.array (.object "java/lang/Integer")), .boolean]
  resolved := Array.replicate 100 none
  statics := some 1 }

def pool12 : Array CpInfo := pool [(1, .methodref 2 3), (0, .class_ 4), (0, .nameAndType 5 6), (0, u "java/lang/Object"), (0, u "<init>"), (0, u "()V"), (0, .class_ 8), (0, u "java/lang/Record")] 13

def k12c0 : Code := { maxStack := 1, maxLocals := 1, code := jdk_30_method_1_code, exceptionTable := #[], attributes := #[] }
def k12m0 : Method := { name := "<init>", desc := "()V", sig := { parameters := [], returnType := none }, accessFlags := 4, code := some k12c0 }
/-- java/lang/Record -/
def k12 : Class := { plain "java/lang/Record" (some 0) with
  accessFlags := 1057
  interfaces := #[]
  cf := some (fileOf pool12 7 #[] #[{ accessFlags := 4, nameIndex := 5, descriptorIndex := 6, attributes := #[] }] 1057 2 #[] #[])
  fields := #[]
  methods := #[k12m0]
  instanceTypes := #[]
  staticTypes := #[]
  resolved := Array.replicate 22 none
  statics := none }

def pool13 : Array CpInfo := pool [(1, .methodref 2 3), (0, .class_ 4), (0, .nameAndType 5 6), (0, u "java/lang/Record"), (0, u "<init>"), (0, u "()V"), (0, .fieldref 8 9), (0, .class_ 10), (0, .nameAndType 11 12), (0, u "com/example/kilnroute/kilnroute/spark/Resources"), (0, u "driverMemory"), (0, u "Ljava/lang/String;"), (0, .fieldref 8 14), (0, .nameAndType 15 16), (0, u "driverCores"), (0, u "Ljava/lang/Integer;"), (0, .fieldref 8 18), (0, .nameAndType 19 12), (0, u "executorMemory"), (0, .fieldref 8 21), (0, .nameAndType 22 16), (0, u "executorCores"), (0, .fieldref 8 24), (0, .nameAndType 25 16), (0, u "numExecutors"), (2, u "MEMORY"), (0, u "Ljava/util/regex/Pattern;"), (7, .class_ 39), (1, u "java/lang/String"), (31, u "UNIT_SHIFTS"), (0, u "Ljava/util/Map;"), (16, .class_ 90), (0, u "java/lang/Integer"), (28, .methodref 8 120), (0, .nameAndType 121 122), (0, u "either"), (0, u "(Ljava/lang/Object;Ljava/lang/Object;)Ljava/lang/Object;"), (0, .methodref 8 124), (0, .nameAndType 5 125), (0, u "(Ljava/lang/String;Ljava/lang/Integer;Ljava/lang/String;Ljava/lang/Integer;Ljava/lang/Integer;)V"), (1, .class_ 129), (1, u "com/example/kilnroute/kilnroute/spark/Resources$Option"), (5, u "()Ljava/lang/String;"), (48, u "COUNTS"), (0, u "Ljava/util/List;"), (54, u "NONE"), (0, u "Lcom/example/kilnroute/kilnroute/spark/Resources;"), (15, u "SPARK_DEFAULT_MEMORY"), (15, u "overriddenBy"), (0, u "(Lcom/example/kilnroute/kilnroute/spark/Resources;)Lcom/example/kilnroute/kilnroute/spark/Resources;"), (15, u "()Ljava/lang/Integer;")] 60

def k13c0 : Code := { maxStack := 2, maxLocals := 6, code := prog_18_method_1_code, exceptionTable := #[], attributes := #[] }
def k13m0 : Method := { name := "<init>", desc := "(Ljava/lang/String;Ljava/lang/Integer;Ljava/lang/String;Ljava/lang/Integer;Ljava/lang/Integer;)V", sig := { parameters := [(.object "java/lang/String"), (.object "java/lang/Integer"), (.object "java/lang/String"), (.object "java/lang/Integer"), (.object "java/lang/Integer")], returnType := none }, accessFlags := 1, code := some k13c0 }
def k13c1 : Code := { maxStack := 8, maxLocals := 2, code := prog_18_method_6_code, exceptionTable := #[], attributes := #[] }
def k13m1 : Method := { name := "overriddenBy", desc := "(Lcom/example/kilnroute/kilnroute/spark/Resources;)Lcom/example/kilnroute/kilnroute/spark/Resources;", sig := { parameters := [(.object "com/example/kilnroute/kilnroute/spark/Resources")], returnType := some (.object "com/example/kilnroute/kilnroute/spark/Resources") }, accessFlags := 1, code := some k13c1 }
def k13c2 : Code := { maxStack := 1, maxLocals := 2, code := prog_18_method_13_code, exceptionTable := #[], attributes := #[] }
def k13m2 : Method := { name := "either", desc := "(Ljava/lang/Object;Ljava/lang/Object;)Ljava/lang/Object;", sig := { parameters := [(.object "java/lang/Object"), (.object "java/lang/Object")], returnType := some (.object "java/lang/Object") }, accessFlags := 10, code := some k13c2 }
def k13c3 : Code := { maxStack := 1, maxLocals := 1, code := prog_18_method_17_code, exceptionTable := #[], attributes := #[] }
def k13m3 : Method := { name := "driverMemory", desc := "()Ljava/lang/String;", sig := { parameters := [], returnType := some (.object "java/lang/String") }, accessFlags := 1, code := some k13c3 }
def k13c4 : Code := { maxStack := 1, maxLocals := 1, code := prog_18_method_18_code, exceptionTable := #[], attributes := #[] }
def k13m4 : Method := { name := "driverCores", desc := "()Ljava/lang/Integer;", sig := { parameters := [], returnType := some (.object "java/lang/Integer") }, accessFlags := 1, code := some k13c4 }
def k13c5 : Code := { maxStack := 1, maxLocals := 1, code := prog_18_method_19_code, exceptionTable := #[], attributes := #[] }
def k13m5 : Method := { name := "executorMemory", desc := "()Ljava/lang/String;", sig := { parameters := [], returnType := some (.object "java/lang/String") }, accessFlags := 1, code := some k13c5 }
def k13c6 : Code := { maxStack := 1, maxLocals := 1, code := prog_18_method_20_code, exceptionTable := #[], attributes := #[] }
def k13m6 : Method := { name := "executorCores", desc := "()Ljava/lang/Integer;", sig := { parameters := [], returnType := some (.object "java/lang/Integer") }, accessFlags := 1, code := some k13c6 }
def k13c7 : Code := { maxStack := 1, maxLocals := 1, code := prog_18_method_21_code, exceptionTable := #[], attributes := #[] }
def k13m7 : Method := { name := "numExecutors", desc := "()Ljava/lang/Integer;", sig := { parameters := [], returnType := some (.object "java/lang/Integer") }, accessFlags := 1, code := some k13c7 }
/-- com/example/kilnroute/kilnroute/spark/Resources -/
def k13 : Class := { plain "com/example/kilnroute/kilnroute/spark/Resources" (some 12) with
  accessFlags := 49
  interfaces := #[]
  cf := some (fileOf pool13 8 #[.nestMembers #[127]] #[{ accessFlags := 1, nameIndex := 5, descriptorIndex := 125, attributes := #[] }, { accessFlags := 1, nameIndex := 273, descriptorIndex := 274, attributes := #[] }, { accessFlags := 10, nameIndex := 121, descriptorIndex := 122, attributes := #[] }, { accessFlags := 1, nameIndex := 11, descriptorIndex := 135, attributes := #[] }, { accessFlags := 1, nameIndex := 15, descriptorIndex := 290, attributes := #[] }, { accessFlags := 1, nameIndex := 19, descriptorIndex := 135, attributes := #[] }, { accessFlags := 1, nameIndex := 22, descriptorIndex := 290, attributes := #[] }, { accessFlags := 1, nameIndex := 25, descriptorIndex := 290, attributes := #[] }] 49 2 #[] #[{ accessFlags := 18, nameIndex := 11, descriptorIndex := 12, attributes := #[] }, { accessFlags := 18, nameIndex := 15, descriptorIndex := 16, attributes := #[] }, { accessFlags := 18, nameIndex := 19, descriptorIndex := 12, attributes := #[] }, { accessFlags := 18, nameIndex := 22, descriptorIndex := 16, attributes := #[] }, { accessFlags := 18, nameIndex := 25, descriptorIndex := 16, attributes := #[] }, { accessFlags := 25, nameIndex := 240, descriptorIndex := 241, attributes := #[] }, { accessFlags := 25, nameIndex := 257, descriptorIndex := 12, attributes := #[] }, { accessFlags := 26, nameIndex := 28, descriptorIndex := 29, attributes := #[] }, { accessFlags := 26, nameIndex := 71, descriptorIndex := 72, attributes := #[] }, { accessFlags := 26, nameIndex := 184, descriptorIndex := 185, attributes := #[] }])
  fields := #[{ name := "driverMemory", type := (.object "java/lang/String"), accessFlags := 18, slot := 0, constantValue := 0 }, { name := "driverCores", type := (.object "java/lang/Integer"), accessFlags := 18, slot := 1, constantValue := 0 }, { name := "executorMemory", type := (.object "java/lang/String"), accessFlags := 18, slot := 2, constantValue := 0 }, { name := "executorCores", type := (.object "java/lang/Integer"), accessFlags := 18, slot := 3, constantValue := 0 }, { name := "numExecutors", type := (.object "java/lang/Integer"), accessFlags := 18, slot := 4, constantValue := 0 }, { name := "NONE", type := (.object "com/example/kilnroute/kilnroute/spark/Resources"), accessFlags := 25, slot := 0, constantValue := 0 }, { name := "SPARK_DEFAULT_MEMORY", type := (.object "java/lang/String"), accessFlags := 25, slot := 1, constantValue := 0 }, { name := "MEMORY", type := (.object "java/util/regex/Pattern"), accessFlags := 26, slot := 2, constantValue := 0 }, { name := "UNIT_SHIFTS", type := (.object "java/util/Map"), accessFlags := 26, slot := 3, constantValue := 0 }, { name := "COUNTS", type := (.object "java/util/List"), accessFlags := 26, slot := 4, constantValue := 0 }]
  methods := #[k13m0, k13m1, k13m2, k13m3, k13m4, k13m5, k13m6, k13m7]
  instanceTypes := #[(.object "java/lang/String"), (.object "java/lang/Integer"), (.object "java/lang/String"), (.object "java/lang/Integer"), (.object "java/lang/Integer")]
  staticTypes := #[(.object "com/example/kilnroute/kilnroute/spark/Resources"), (.object "java/lang/String"), (.object "java/util/regex/Pattern"), (.object "java/util/Map"), (.object "java/util/List")]
  resolved := Array.replicate 351 none
  statics := none }

def pool14 : Array CpInfo := pool [(2, .class_ 4), (1, u "java/lang/Object"), (0, u "<init>"), (0, u "()V"), (17, .class_ 26), (1, u "jdk/internal/util/Preconditions"), (28, .class_ 56), (0, u "jdk/internal/util/Preconditions$4"), (57, .class_ 115), (0, u "jdk/internal/util/Preconditions$1"), (7, u "SIOOBE_FORMATTER"), (0, u "Ljava/util/function/BiFunction;"), (0, .class_ 126), (0, u "jdk/internal/util/Preconditions$2"), (3, u "AIOOBE_FORMATTER"), (0, .class_ 132), (0, u "jdk/internal/util/Preconditions$3"), (3, u "IOOBE_FORMATTER")] 57

def k14m0 : Method := { name := "<init>", desc := "()V", sig := { parameters := [], returnType := none }, accessFlags := 1, code := none }
/-- jdk/internal/util/Preconditions -/
def k14 : Class := { plain "jdk/internal/util/Preconditions" (some 0) with
  accessFlags := 33
  interfaces := #[]
  cf := some (fileOf pool14 24 #[.nestMembers #[55, 131, 125, 114]] #[{ accessFlags := 1, nameIndex := 5, descriptorIndex := 6, attributes := #[] }] 33 2 #[] #[{ accessFlags := 25, nameIndex := 123, descriptorIndex := 124, attributes := #[] }, { accessFlags := 25, nameIndex := 130, descriptorIndex := 124, attributes := #[] }, { accessFlags := 25, nameIndex := 136, descriptorIndex := 124, attributes := #[] }])
  fields := #[{ name := "SIOOBE_FORMATTER", type := (.object "java/util/function/BiFunction"), accessFlags := 25, slot := 0, constantValue := 0 }, { name := "AIOOBE_FORMATTER", type := (.object "java/util/function/BiFunction"), accessFlags := 25, slot := 1, constantValue := 0 }, { name := "IOOBE_FORMATTER", type := (.object "java/util/function/BiFunction"), accessFlags := 25, slot := 2, constantValue := 0 }]
  methods := #[k14m0]
  instanceTypes := #[]
  staticTypes := #[(.object "java/util/function/BiFunction"), (.object "java/util/function/BiFunction"), (.object "java/util/function/BiFunction")]
  resolved := Array.replicate 194 none
  statics := some 2 }

def pool15 : Array CpInfo := pool [(9, u "<init>"), (6, .class_ 18), (1, u "java/lang/Object"), (0, u "()V"), (1, .class_ 23), (1, u "jdk/internal/util/ArraysSupport"), (0, u "LOG2_ARRAY_LONG_INDEX_SCALE"), (0, u "I"), (2, u "U"), (0, u "Ljdk/internal/misc/Unsafe;"), (8, u "BIG_ENDIAN"), (0, u "Z"), (8, u "LOG2_BYTE_BIT_SIZE"), (4, u "LOG2_ARRAY_INT_INDEX_SCALE"), (54, u "JLA"), (0, u "Ljdk/internal/access/JavaLangAccess;"), (11, u "LOG2_ARRAY_BOOLEAN_INDEX_SCALE"), (9, u "LOG2_ARRAY_BYTE_INDEX_SCALE"), (5, u "LOG2_ARRAY_CHAR_INDEX_SCALE"), (5, u "LOG2_ARRAY_SHORT_INDEX_SCALE"), (18, u "LOG2_ARRAY_FLOAT_INDEX_SCALE"), (24, u "LOG2_ARRAY_DOUBLE_INDEX_SCALE"), (89, u "T_BOOLEAN"), (2, u "T_CHAR"), (1, u "T_FLOAT"), (1, u "T_DOUBLE"), (1, u "T_BYTE"), (1, u "T_SHORT"), (1, u "T_INT"), (1, u "T_LONG"), (1, u "SOFT_MAX_ARRAY_LENGTH")] 83

def k15m0 : Method := { name := "<init>", desc := "()V", sig := { parameters := [], returnType := none }, accessFlags := 2, code := none }
/-- jdk/internal/util/ArraysSupport -/
def k15 : Class := { plain "jdk/internal/util/ArraysSupport" (some 0) with
  accessFlags := 33
  interfaces := #[]
  cf := some (fileOf pool15 21 #[] #[{ accessFlags := 2, nameIndex := 9, descriptorIndex := 19, attributes := #[] }] 33 16 #[] #[{ accessFlags := 24, nameIndex := 28, descriptorIndex := 29, attributes := #[] }, { accessFlags := 26, nameIndex := 38, descriptorIndex := 39, attributes := #[] }, { accessFlags := 25, nameIndex := 121, descriptorIndex := 25, attributes := #[] }, { accessFlags := 25, nameIndex := 131, descriptorIndex := 25, attributes := #[] }, { accessFlags := 25, nameIndex := 137, descriptorIndex := 25, attributes := #[] }, { accessFlags := 25, nameIndex := 143, descriptorIndex := 25, attributes := #[] }, { accessFlags := 25, nameIndex := 53, descriptorIndex := 25, attributes := #[] }, { accessFlags := 25, nameIndex := 24, descriptorIndex := 25, attributes := #[] }, { accessFlags := 25, nameIndex := 162, descriptorIndex := 25, attributes := #[] }, { accessFlags := 25, nameIndex := 187, descriptorIndex := 25, attributes := #[] }, { accessFlags := 26, nameIndex := 48, descriptorIndex := 25, attributes := #[] }, { accessFlags := 25, nameIndex := 277, descriptorIndex := 25, attributes := #[] }, { accessFlags := 25, nameIndex := 280, descriptorIndex := 25, attributes := #[] }, { accessFlags := 25, nameIndex := 282, descriptorIndex := 25, attributes := #[] }, { accessFlags := 25, nameIndex := 284, descriptorIndex := 25, attributes := #[] }, { accessFlags := 25, nameIndex := 286, descriptorIndex := 25, attributes := #[] }, { accessFlags := 25, nameIndex := 288, descriptorIndex := 25, attributes := #[] }, { accessFlags := 25, nameIndex := 290, descriptorIndex := 25, attributes := #[] }, { accessFlags := 25, nameIndex := 292, descriptorIndex := 25, attributes := #[] }, { accessFlags := 26, nameIndex := 108, descriptorIndex := 109, attributes := #[] }, { accessFlags := 25, nameIndex := 294, descriptorIndex := 25, attributes := #[] }])
  fields := #[{ name := "U", type := (.object "jdk/internal/misc/Unsafe"), accessFlags := 24, slot := 0, constantValue := 0 }, { name := "BIG_ENDIAN", type := .boolean, accessFlags := 26, slot := 1, constantValue := 0 }, { name := "LOG2_ARRAY_BOOLEAN_INDEX_SCALE", type := .int, accessFlags := 25, slot := 2, constantValue := 0 }, { name := "LOG2_ARRAY_BYTE_INDEX_SCALE", type := .int, accessFlags := 25, slot := 3, constantValue := 0 }, { name := "LOG2_ARRAY_CHAR_INDEX_SCALE", type := .int, accessFlags := 25, slot := 4, constantValue := 0 }, { name := "LOG2_ARRAY_SHORT_INDEX_SCALE", type := .int, accessFlags := 25, slot := 5, constantValue := 0 }, { name := "LOG2_ARRAY_INT_INDEX_SCALE", type := .int, accessFlags := 25, slot := 6, constantValue := 0 }, { name := "LOG2_ARRAY_LONG_INDEX_SCALE", type := .int, accessFlags := 25, slot := 7, constantValue := 0 }, { name := "LOG2_ARRAY_FLOAT_INDEX_SCALE", type := .int, accessFlags := 25, slot := 8, constantValue := 0 }, { name := "LOG2_ARRAY_DOUBLE_INDEX_SCALE", type := .int, accessFlags := 25, slot := 9, constantValue := 0 }, { name := "LOG2_BYTE_BIT_SIZE", type := .int, accessFlags := 26, slot := 10, constantValue := 0 }, { name := "T_BOOLEAN", type := .int, accessFlags := 25, slot := 11, constantValue := 0 }, { name := "T_CHAR", type := .int, accessFlags := 25, slot := 12, constantValue := 0 }, { name := "T_FLOAT", type := .int, accessFlags := 25, slot := 13, constantValue := 0 }, { name := "T_DOUBLE", type := .int, accessFlags := 25, slot := 14, constantValue := 0 }, { name := "T_BYTE", type := .int, accessFlags := 25, slot := 15, constantValue := 0 }, { name := "T_SHORT", type := .int, accessFlags := 25, slot := 16, constantValue := 0 }, { name := "T_INT", type := .int, accessFlags := 25, slot := 17, constantValue := 0 }, { name := "T_LONG", type := .int, accessFlags := 25, slot := 18, constantValue := 0 }, { name := "JLA", type := (.object "jdk/internal/access/JavaLangAccess"), accessFlags := 26, slot := 19, constantValue := 0 }, { name := "SOFT_MAX_ARRAY_LENGTH", type := .int, accessFlags := 25, slot := 20, constantValue := 0 }]
  methods := #[k15m0]
  instanceTypes := #[]
  staticTypes := #[(.object "jdk/internal/misc/Unsafe"), .boolean, .int, .int, .int, .int, .int, .int, .int, .int, .int, .int, .int, .int, .int, .int, .int, .int, .int, (.object "jdk/internal/access/JavaLangAccess"), .int]
  resolved := Array.replicate 378 none
  statics := none }

def pool16 : Array CpInfo := pool [(1, u "java/lang/Cloneable"), (0, .class_ 1), (0, u "java/lang/Object"), (0, .class_ 3)] 3

/-- java/lang/Cloneable -/
def k16 : Class := { plain "java/lang/Cloneable" (some 0) with
  accessFlags := 1537
  interfaces := #[]
  cf := some (fileOf pool16 2 #[] #[] 1537 4 #[] #[])
  fields := #[]
  methods := #[]
  instanceTypes := #[]
  staticTypes := #[]
  resolved := Array.replicate 8 none
  statics := none }

/-- the primitive byte -/
def k17 : Class := { plain "byte" none with kind := .primitive 'B', accessFlags := 0x411 }
/-- [B -/
def k18 : Class := { plain "[B" (some 0) with kind := .array 17 .byte, interfaces := #[16, 2], accessFlags := 1041 }

/-- the primitive int -/
def k19 : Class := { plain "int" none with kind := .primitive 'I', accessFlags := 0x411 }
/-- [I -/
def k20 : Class := { plain "[I" (some 0) with kind := .array 19 .int, interfaces := #[16, 2], accessFlags := 1041 }

/-- [Ljava/lang/Integer; -/
def k21 : Class := { plain "[Ljava/lang/Integer;" (some 0) with kind := .array 10 (.object "java/lang/Integer"), interfaces := #[16, 2], accessFlags := 1041 }

def heap : Heap := #[{ cls := 7, slots := #[.long 0, .int 1, .null, .int 0, .null, .int 0, .int 0], vm := .statics 7 },
  { cls := 11, slots := #[.int 0, .int 127, .ref 3, .null, .int 0], vm := .statics 11 },
  { cls := 14, slots := #[.null, .null, .null], vm := .statics 14 },
  { cls := 21, slots := #[.ref 4, .ref 5, .ref 6, .ref 7, .ref 8, .ref 9, .ref 10, .ref 11, .ref 12, .ref 13, .ref 14, .ref 15, .ref 16, .ref 17, .ref 18, .ref 19, .ref 20, .ref 21, .ref 22, .ref 23, .ref 24, .ref 25, .ref 26, .ref 27, .ref 28, .ref 29, .ref 30, .ref 31, .ref 32, .ref 33, .ref 34, .ref 35, .ref 36, .ref 37, .ref 38, .ref 39, .ref 40, .ref 41, .ref 42, .ref 43, .ref 44, .ref 45, .ref 46, .ref 47, .ref 48, .ref 49, .ref 50, .ref 51, .ref 52, .ref 53, .ref 54, .ref 55, .ref 56, .ref 57, .ref 58, .ref 59, .ref 60, .ref 61, .ref 62, .ref 63, .ref 64, .ref 65, .ref 66, .ref 67, .ref 68, .ref 69, .ref 70, .ref 71, .ref 72, .ref 73, .ref 74, .ref 75, .ref 76, .ref 77, .ref 78, .ref 79, .ref 80, .ref 81, .ref 82, .ref 83, .ref 84, .ref 85, .ref 86, .ref 87, .ref 88, .ref 89, .ref 90, .ref 91, .ref 92, .ref 93, .ref 94, .ref 95, .ref 96, .ref 97, .ref 98, .ref 99, .ref 100, .ref 101, .ref 102, .ref 103, .ref 104, .ref 105, .ref 106, .ref 107, .ref 108, .ref 109, .ref 110, .ref 111, .ref 112, .ref 113, .ref 114, .ref 115, .ref 116, .ref 117, .ref 118, .ref 119, .ref 120, .ref 121, .ref 122, .ref 123, .ref 124, .ref 125, .ref 126, .ref 127, .ref 128, .ref 129, .ref 130, .ref 131, .ref 132, .ref 133, .ref 134, .ref 135, .ref 136, .ref 137, .ref 138, .ref 139, .ref 140, .ref 141, .ref 142, .ref 143, .ref 144, .ref 145, .ref 146, .ref 147, .ref 148, .ref 149, .ref 150, .ref 151, .ref 152, .ref 153, .ref 154, .ref 155, .ref 156, .ref 157, .ref 158, .ref 159, .ref 160, .ref 161, .ref 162, .ref 163, .ref 164, .ref 165, .ref 166, .ref 167, .ref 168, .ref 169, .ref 170, .ref 171, .ref 172, .ref 173, .ref 174, .ref 175, .ref 176, .ref 177, .ref 178, .ref 179, .ref 180, .ref 181, .ref 182, .ref 183, .ref 184, .ref 185, .ref 186, .ref 187, .ref 188, .ref 189, .ref 190, .ref 191, .ref 192, .ref 193, .ref 194, .ref 195, .ref 196, .ref 197, .ref 198, .ref 199, .ref 200, .ref 201, .ref 202, .ref 203, .ref 204, .ref 205, .ref 206, .ref 207, .ref 208, .ref 209, .ref 210, .ref 211, .ref 212, .ref 213, .ref 214, .ref 215, .ref 216, .ref 217, .ref 218, .ref 219, .ref 220, .ref 221, .ref 222, .ref 223, .ref 224, .ref 225, .ref 226, .ref 227, .ref 228, .ref 229, .ref 230, .ref 231, .ref 232, .ref 233, .ref 234, .ref 235, .ref 236, .ref 237, .ref 238, .ref 239, .ref 240, .ref 241, .ref 242, .ref 243, .ref 244, .ref 245, .ref 246, .ref 247, .ref 248, .ref 249, .ref 250, .ref 251, .ref 252, .ref 253, .ref 254, .ref 255, .ref 256, .ref 257, .ref 258, .ref 259], vm := .none },
  { cls := 10, slots := #[.int (-128)], vm := .none },
  { cls := 10, slots := #[.int (-127)], vm := .none },
  { cls := 10, slots := #[.int (-126)], vm := .none },
  { cls := 10, slots := #[.int (-125)], vm := .none },
  { cls := 10, slots := #[.int (-124)], vm := .none },
  { cls := 10, slots := #[.int (-123)], vm := .none },
  { cls := 10, slots := #[.int (-122)], vm := .none },
  { cls := 10, slots := #[.int (-121)], vm := .none },
  { cls := 10, slots := #[.int (-120)], vm := .none },
  { cls := 10, slots := #[.int (-119)], vm := .none },
  { cls := 10, slots := #[.int (-118)], vm := .none },
  { cls := 10, slots := #[.int (-117)], vm := .none },
  { cls := 10, slots := #[.int (-116)], vm := .none },
  { cls := 10, slots := #[.int (-115)], vm := .none },
  { cls := 10, slots := #[.int (-114)], vm := .none },
  { cls := 10, slots := #[.int (-113)], vm := .none },
  { cls := 10, slots := #[.int (-112)], vm := .none },
  { cls := 10, slots := #[.int (-111)], vm := .none },
  { cls := 10, slots := #[.int (-110)], vm := .none },
  { cls := 10, slots := #[.int (-109)], vm := .none },
  { cls := 10, slots := #[.int (-108)], vm := .none },
  { cls := 10, slots := #[.int (-107)], vm := .none },
  { cls := 10, slots := #[.int (-106)], vm := .none },
  { cls := 10, slots := #[.int (-105)], vm := .none },
  { cls := 10, slots := #[.int (-104)], vm := .none },
  { cls := 10, slots := #[.int (-103)], vm := .none },
  { cls := 10, slots := #[.int (-102)], vm := .none },
  { cls := 10, slots := #[.int (-101)], vm := .none },
  { cls := 10, slots := #[.int (-100)], vm := .none },
  { cls := 10, slots := #[.int (-99)], vm := .none },
  { cls := 10, slots := #[.int (-98)], vm := .none },
  { cls := 10, slots := #[.int (-97)], vm := .none },
  { cls := 10, slots := #[.int (-96)], vm := .none },
  { cls := 10, slots := #[.int (-95)], vm := .none },
  { cls := 10, slots := #[.int (-94)], vm := .none },
  { cls := 10, slots := #[.int (-93)], vm := .none },
  { cls := 10, slots := #[.int (-92)], vm := .none },
  { cls := 10, slots := #[.int (-91)], vm := .none },
  { cls := 10, slots := #[.int (-90)], vm := .none },
  { cls := 10, slots := #[.int (-89)], vm := .none },
  { cls := 10, slots := #[.int (-88)], vm := .none },
  { cls := 10, slots := #[.int (-87)], vm := .none },
  { cls := 10, slots := #[.int (-86)], vm := .none },
  { cls := 10, slots := #[.int (-85)], vm := .none },
  { cls := 10, slots := #[.int (-84)], vm := .none },
  { cls := 10, slots := #[.int (-83)], vm := .none },
  { cls := 10, slots := #[.int (-82)], vm := .none },
  { cls := 10, slots := #[.int (-81)], vm := .none },
  { cls := 10, slots := #[.int (-80)], vm := .none },
  { cls := 10, slots := #[.int (-79)], vm := .none },
  { cls := 10, slots := #[.int (-78)], vm := .none },
  { cls := 10, slots := #[.int (-77)], vm := .none },
  { cls := 10, slots := #[.int (-76)], vm := .none },
  { cls := 10, slots := #[.int (-75)], vm := .none },
  { cls := 10, slots := #[.int (-74)], vm := .none },
  { cls := 10, slots := #[.int (-73)], vm := .none },
  { cls := 10, slots := #[.int (-72)], vm := .none },
  { cls := 10, slots := #[.int (-71)], vm := .none },
  { cls := 10, slots := #[.int (-70)], vm := .none },
  { cls := 10, slots := #[.int (-69)], vm := .none },
  { cls := 10, slots := #[.int (-68)], vm := .none },
  { cls := 10, slots := #[.int (-67)], vm := .none },
  { cls := 10, slots := #[.int (-66)], vm := .none },
  { cls := 10, slots := #[.int (-65)], vm := .none },
  { cls := 10, slots := #[.int (-64)], vm := .none },
  { cls := 10, slots := #[.int (-63)], vm := .none },
  { cls := 10, slots := #[.int (-62)], vm := .none },
  { cls := 10, slots := #[.int (-61)], vm := .none },
  { cls := 10, slots := #[.int (-60)], vm := .none },
  { cls := 10, slots := #[.int (-59)], vm := .none },
  { cls := 10, slots := #[.int (-58)], vm := .none },
  { cls := 10, slots := #[.int (-57)], vm := .none },
  { cls := 10, slots := #[.int (-56)], vm := .none },
  { cls := 10, slots := #[.int (-55)], vm := .none },
  { cls := 10, slots := #[.int (-54)], vm := .none },
  { cls := 10, slots := #[.int (-53)], vm := .none },
  { cls := 10, slots := #[.int (-52)], vm := .none },
  { cls := 10, slots := #[.int (-51)], vm := .none },
  { cls := 10, slots := #[.int (-50)], vm := .none },
  { cls := 10, slots := #[.int (-49)], vm := .none },
  { cls := 10, slots := #[.int (-48)], vm := .none },
  { cls := 10, slots := #[.int (-47)], vm := .none },
  { cls := 10, slots := #[.int (-46)], vm := .none },
  { cls := 10, slots := #[.int (-45)], vm := .none },
  { cls := 10, slots := #[.int (-44)], vm := .none },
  { cls := 10, slots := #[.int (-43)], vm := .none },
  { cls := 10, slots := #[.int (-42)], vm := .none },
  { cls := 10, slots := #[.int (-41)], vm := .none },
  { cls := 10, slots := #[.int (-40)], vm := .none },
  { cls := 10, slots := #[.int (-39)], vm := .none },
  { cls := 10, slots := #[.int (-38)], vm := .none },
  { cls := 10, slots := #[.int (-37)], vm := .none },
  { cls := 10, slots := #[.int (-36)], vm := .none },
  { cls := 10, slots := #[.int (-35)], vm := .none },
  { cls := 10, slots := #[.int (-34)], vm := .none },
  { cls := 10, slots := #[.int (-33)], vm := .none },
  { cls := 10, slots := #[.int (-32)], vm := .none },
  { cls := 10, slots := #[.int (-31)], vm := .none },
  { cls := 10, slots := #[.int (-30)], vm := .none },
  { cls := 10, slots := #[.int (-29)], vm := .none },
  { cls := 10, slots := #[.int (-28)], vm := .none },
  { cls := 10, slots := #[.int (-27)], vm := .none },
  { cls := 10, slots := #[.int (-26)], vm := .none },
  { cls := 10, slots := #[.int (-25)], vm := .none },
  { cls := 10, slots := #[.int (-24)], vm := .none },
  { cls := 10, slots := #[.int (-23)], vm := .none },
  { cls := 10, slots := #[.int (-22)], vm := .none },
  { cls := 10, slots := #[.int (-21)], vm := .none },
  { cls := 10, slots := #[.int (-20)], vm := .none },
  { cls := 10, slots := #[.int (-19)], vm := .none },
  { cls := 10, slots := #[.int (-18)], vm := .none },
  { cls := 10, slots := #[.int (-17)], vm := .none },
  { cls := 10, slots := #[.int (-16)], vm := .none },
  { cls := 10, slots := #[.int (-15)], vm := .none },
  { cls := 10, slots := #[.int (-14)], vm := .none },
  { cls := 10, slots := #[.int (-13)], vm := .none },
  { cls := 10, slots := #[.int (-12)], vm := .none },
  { cls := 10, slots := #[.int (-11)], vm := .none },
  { cls := 10, slots := #[.int (-10)], vm := .none },
  { cls := 10, slots := #[.int (-9)], vm := .none },
  { cls := 10, slots := #[.int (-8)], vm := .none },
  { cls := 10, slots := #[.int (-7)], vm := .none },
  { cls := 10, slots := #[.int (-6)], vm := .none },
  { cls := 10, slots := #[.int (-5)], vm := .none },
  { cls := 10, slots := #[.int (-4)], vm := .none },
  { cls := 10, slots := #[.int (-3)], vm := .none },
  { cls := 10, slots := #[.int (-2)], vm := .none },
  { cls := 10, slots := #[.int (-1)], vm := .none },
  { cls := 10, slots := #[.int 0], vm := .none },
  { cls := 10, slots := #[.int 1], vm := .none },
  { cls := 10, slots := #[.int 2], vm := .none },
  { cls := 10, slots := #[.int 3], vm := .none },
  { cls := 10, slots := #[.int 4], vm := .none },
  { cls := 10, slots := #[.int 5], vm := .none },
  { cls := 10, slots := #[.int 6], vm := .none },
  { cls := 10, slots := #[.int 7], vm := .none },
  { cls := 10, slots := #[.int 8], vm := .none },
  { cls := 10, slots := #[.int 9], vm := .none },
  { cls := 10, slots := #[.int 10], vm := .none },
  { cls := 10, slots := #[.int 11], vm := .none },
  { cls := 10, slots := #[.int 12], vm := .none },
  { cls := 10, slots := #[.int 13], vm := .none },
  { cls := 10, slots := #[.int 14], vm := .none },
  { cls := 10, slots := #[.int 15], vm := .none },
  { cls := 10, slots := #[.int 16], vm := .none },
  { cls := 10, slots := #[.int 17], vm := .none },
  { cls := 10, slots := #[.int 18], vm := .none },
  { cls := 10, slots := #[.int 19], vm := .none },
  { cls := 10, slots := #[.int 20], vm := .none },
  { cls := 10, slots := #[.int 21], vm := .none },
  { cls := 10, slots := #[.int 22], vm := .none },
  { cls := 10, slots := #[.int 23], vm := .none },
  { cls := 10, slots := #[.int 24], vm := .none },
  { cls := 10, slots := #[.int 25], vm := .none },
  { cls := 10, slots := #[.int 26], vm := .none },
  { cls := 10, slots := #[.int 27], vm := .none },
  { cls := 10, slots := #[.int 28], vm := .none },
  { cls := 10, slots := #[.int 29], vm := .none },
  { cls := 10, slots := #[.int 30], vm := .none },
  { cls := 10, slots := #[.int 31], vm := .none },
  { cls := 10, slots := #[.int 32], vm := .none },
  { cls := 10, slots := #[.int 33], vm := .none },
  { cls := 10, slots := #[.int 34], vm := .none },
  { cls := 10, slots := #[.int 35], vm := .none },
  { cls := 10, slots := #[.int 36], vm := .none },
  { cls := 10, slots := #[.int 37], vm := .none },
  { cls := 10, slots := #[.int 38], vm := .none },
  { cls := 10, slots := #[.int 39], vm := .none },
  { cls := 10, slots := #[.int 40], vm := .none },
  { cls := 10, slots := #[.int 41], vm := .none },
  { cls := 10, slots := #[.int 42], vm := .none },
  { cls := 10, slots := #[.int 43], vm := .none },
  { cls := 10, slots := #[.int 44], vm := .none },
  { cls := 10, slots := #[.int 45], vm := .none },
  { cls := 10, slots := #[.int 46], vm := .none },
  { cls := 10, slots := #[.int 47], vm := .none },
  { cls := 10, slots := #[.int 48], vm := .none },
  { cls := 10, slots := #[.int 49], vm := .none },
  { cls := 10, slots := #[.int 50], vm := .none },
  { cls := 10, slots := #[.int 51], vm := .none },
  { cls := 10, slots := #[.int 52], vm := .none },
  { cls := 10, slots := #[.int 53], vm := .none },
  { cls := 10, slots := #[.int 54], vm := .none },
  { cls := 10, slots := #[.int 55], vm := .none },
  { cls := 10, slots := #[.int 56], vm := .none },
  { cls := 10, slots := #[.int 57], vm := .none },
  { cls := 10, slots := #[.int 58], vm := .none },
  { cls := 10, slots := #[.int 59], vm := .none },
  { cls := 10, slots := #[.int 60], vm := .none },
  { cls := 10, slots := #[.int 61], vm := .none },
  { cls := 10, slots := #[.int 62], vm := .none },
  { cls := 10, slots := #[.int 63], vm := .none },
  { cls := 10, slots := #[.int 64], vm := .none },
  { cls := 10, slots := #[.int 65], vm := .none },
  { cls := 10, slots := #[.int 66], vm := .none },
  { cls := 10, slots := #[.int 67], vm := .none },
  { cls := 10, slots := #[.int 68], vm := .none },
  { cls := 10, slots := #[.int 69], vm := .none },
  { cls := 10, slots := #[.int 70], vm := .none },
  { cls := 10, slots := #[.int 71], vm := .none },
  { cls := 10, slots := #[.int 72], vm := .none },
  { cls := 10, slots := #[.int 73], vm := .none },
  { cls := 10, slots := #[.int 74], vm := .none },
  { cls := 10, slots := #[.int 75], vm := .none },
  { cls := 10, slots := #[.int 76], vm := .none },
  { cls := 10, slots := #[.int 77], vm := .none },
  { cls := 10, slots := #[.int 78], vm := .none },
  { cls := 10, slots := #[.int 79], vm := .none },
  { cls := 10, slots := #[.int 80], vm := .none },
  { cls := 10, slots := #[.int 81], vm := .none },
  { cls := 10, slots := #[.int 82], vm := .none },
  { cls := 10, slots := #[.int 83], vm := .none },
  { cls := 10, slots := #[.int 84], vm := .none },
  { cls := 10, slots := #[.int 85], vm := .none },
  { cls := 10, slots := #[.int 86], vm := .none },
  { cls := 10, slots := #[.int 87], vm := .none },
  { cls := 10, slots := #[.int 88], vm := .none },
  { cls := 10, slots := #[.int 89], vm := .none },
  { cls := 10, slots := #[.int 90], vm := .none },
  { cls := 10, slots := #[.int 91], vm := .none },
  { cls := 10, slots := #[.int 92], vm := .none },
  { cls := 10, slots := #[.int 93], vm := .none },
  { cls := 10, slots := #[.int 94], vm := .none },
  { cls := 10, slots := #[.int 95], vm := .none },
  { cls := 10, slots := #[.int 96], vm := .none },
  { cls := 10, slots := #[.int 97], vm := .none },
  { cls := 10, slots := #[.int 98], vm := .none },
  { cls := 10, slots := #[.int 99], vm := .none },
  { cls := 10, slots := #[.int 100], vm := .none },
  { cls := 10, slots := #[.int 101], vm := .none },
  { cls := 10, slots := #[.int 102], vm := .none },
  { cls := 10, slots := #[.int 103], vm := .none },
  { cls := 10, slots := #[.int 104], vm := .none },
  { cls := 10, slots := #[.int 105], vm := .none },
  { cls := 10, slots := #[.int 106], vm := .none },
  { cls := 10, slots := #[.int 107], vm := .none },
  { cls := 10, slots := #[.int 108], vm := .none },
  { cls := 10, slots := #[.int 109], vm := .none },
  { cls := 10, slots := #[.int 110], vm := .none },
  { cls := 10, slots := #[.int 111], vm := .none },
  { cls := 10, slots := #[.int 112], vm := .none },
  { cls := 10, slots := #[.int 113], vm := .none },
  { cls := 10, slots := #[.int 114], vm := .none },
  { cls := 10, slots := #[.int 115], vm := .none },
  { cls := 10, slots := #[.int 116], vm := .none },
  { cls := 10, slots := #[.int 117], vm := .none },
  { cls := 10, slots := #[.int 118], vm := .none },
  { cls := 10, slots := #[.int 119], vm := .none },
  { cls := 10, slots := #[.int 120], vm := .none },
  { cls := 10, slots := #[.int 121], vm := .none },
  { cls := 10, slots := #[.int 122], vm := .none },
  { cls := 10, slots := #[.int 123], vm := .none },
  { cls := 10, slots := #[.int 124], vm := .none },
  { cls := 10, slots := #[.int 125], vm := .none },
  { cls := 10, slots := #[.int 126], vm := .none },
  { cls := 10, slots := #[.int 127], vm := .none }]
def classes : Array Class := #[k0, k1, k2, k3, k4, k5, k6, k7, k8, k9, k10, k11, k12, k13, k14, k15, k16, k17, k18, k19, k20, k21]
def interned : List (Array UInt16 × Addr) := []
def slotsUsed : Nat := 527
def theMethod : MethodId := ⟨1, 1⟩
def args0 : Array Value := #[.int 5, .long 6, .long 7, .int 8, .int 9, .int 10]
def aboutOver (below : List Frame) : State where
  vm := { classes := classes, interned := interned.toArray }
  heap := heap
  slotsUsed := slotsUsed
  threads := #[{ frames := .invoking theMethod args0 :: below }]
def below0 : List Frame := [.native { method := ⟨0, 0⟩, args := #[] }]
def about1 : State := aboutOver below0
def p0 : Program := .bare "" "" ""
def e0 : Env := launch0.env 0 0 0
theorem w_frames : about1.frames = Frame.invoking theMethod args0 :: below0 := rfl
set_option maxRecDepth 65536 in
theorem w_args : argsFit about1.vm theMethod args0 = true := by decide +kernel
set_option maxRecDepth 65536 in
theorem w_heap : heapFits about1 = true := by decide +kernel
set_option maxRecDepth 65536 in
theorem w_runnable : about1.curStatus? = some .runnable := by decide +kernel
set_option maxRecDepth 65536 in
theorem w_alone : about1.alone = true := by decide +kernel
set_option maxRecDepth 65536 in
theorem w_named : about1.methodNamed? x = some theMethod := by decide +kernel
set_option maxRecDepth 65536 in
theorem w_hears : about1.hears theMethod below0 = true := by decide +kernel
set_option maxRecDepth 65536 in
theorem w_ripe : about1.ripe theMethod args0 below0 = true := by decide +kernel
theorem w_running : about1.status = .running := rfl
set_option maxRecDepth 65536 in
theorem w_room : about1.hasRoom e0.platform room_1 = true :=
  launch0.hasRoom_least _ room_1 (by decide +kernel) (by decide +kernel) (by decide +kernel) (by decide +kernel) (by decide +kernel) (by decide +kernel)
theorem allAtoms_all (ts : List Jvm.Cond) (a : Array Jvm.Value) (st : Jvm.State) : (allAtoms ts).before a st = ts.all (fun c => c.before a st) := by
  induction ts with
  | nil => rfl
  | cons c t ih =>
    show (Jvm.Cond.and c (allAtoms t)).before a st = _
    rw [Jvm.Cond.before_and, ih, List.all_cons]
def words1 : List Jvm.Cond := Jvm.Cond.code x code maxLocals ret :: tables_1
/-- a 'code' word, met by the world's own term for the bytes: nothing is compared byte by byte -/
theorem code_word {y : MethodName} {bytes : ByteArray} {mx : Nat} {rt : Option FieldType} {a : Array Value} {s : State} {m : MethodId} {meth : Method} {c : Code} (h1 : s.methodNamed? y = some m) (h2 : s.vm.method? m = some meth) (h3 : meth.code = some c) (h4 : c.code = bytes)
    (h5 : (c.maxLocals == mx && c.exceptionTable.isEmpty && decide (c.maxStack ≤ mostOperands) && decide (meth.sig.returnType = rt) && !meth.locks && decide (parseMethodDescriptor y.desc = some meth.sig)) = true) : (Jvm.Cond.code y bytes mx rt).before a s = true := by
  simp only [Bool.and_eq_true, beq_iff_eq, Bool.not_eq_true', decide_eq_true_eq] at h5
  obtain ⟨⟨⟨⟨⟨g1, g2⟩, g3⟩, g4⟩, g5⟩, g6⟩ := h5
  simp [Cond.before, Cond.holds, Cond.value, h1, h2, h3, h4, g1, g2, g3, g4, g5, g6]
def isCode : Jvm.Cond → Bool
  | .code _ _ _ _ => true
  | _ => false
theorem all_split {L : List Jvm.Cond} {P : Jvm.Cond → Bool} (h1 : L.all (fun c => isCode c || P c) = true) (h2 : ∀ c ∈ L.filter isCode, P c = true) : L.all P = true := by
  refine List.all_eq_true.mpr fun c hc => ?_
  have h := List.all_eq_true.mp h1 c hc
  rcases Bool.eq_false_or_eq_true (isCode c) with hi | hi
  · exact h2 c (List.mem_filter.mpr ⟨hc, hi⟩)
  · simpa [hi] using h
set_option maxRecDepth 65536 in
theorem w_c0 : (Jvm.Cond.code x code maxLocals ret).before args0 about1 = true := code_word (m := ⟨1, 1⟩) (meth := k1m1) (c := k1c1) (by decide +kernel) rfl rfl rfl (by decide +kernel)
set_option maxRecDepth 65536 in
theorem w_c1 : (Jvm.Cond.code ({ cls := "java/lang/String", name := "valueOf", desc := "(C)Ljava/lang/String;" } : Jvm.MethodName) jdk_42_method_139_code (1 : Nat) (Option.some (Jvm.ClassFile.FieldType.object "java/lang/String"))).before args0 about1 = true := code_word (m := ⟨7, 2⟩) (meth := k7m2) (c := k7c2) (by decide +kernel) rfl rfl rfl (by decide +kernel)
set_option maxRecDepth 65536 in
theorem w_c2 : (Jvm.Cond.code ({ cls := "java/lang/StringLatin1", name := "canEncode", desc := "(C)Z" } : Jvm.MethodName) jdk_43_method_3_code (1 : Nat) (Option.some Jvm.ClassFile.FieldType.boolean)).before args0 about1 = true := code_word (m := ⟨8, 1⟩) (meth := k8m1) (c := k8c1) (by decide +kernel) rfl rfl rfl (by decide +kernel)
set_option maxRecDepth 65536 in
theorem w_c3 : (Jvm.Cond.code ({ cls := "java/lang/StringLatin1", name := "toBytes", desc := "(C)[B" } : Jvm.MethodName) jdk_43_method_46_code (1 : Nat) (Option.some (Jvm.ClassFile.FieldType.array Jvm.ClassFile.FieldType.byte))).before args0 about1 = true := code_word (m := ⟨8, 2⟩) (meth := k8m2) (c := k8c2) (by decide +kernel) rfl rfl rfl (by decide +kernel)
set_option maxRecDepth 65536 in
theorem w_c4 : (Jvm.Cond.code ({ cls := "java/lang/String", name := "<init>", desc := "([BB)V" } : Jvm.MethodName) jdk_42_method_151_code (3 : Nat) (Option.none : Option Jvm.ClassFile.FieldType)).before args0 about1 = true := code_word (m := ⟨7, 3⟩) (meth := k7m3) (c := k7c3) (by decide +kernel) rfl rfl rfl (by decide +kernel)
set_option maxRecDepth 65536 in
theorem w_c5 : (Jvm.Cond.code ({ cls := "java/lang/Object", name := "<init>", desc := "()V" } : Jvm.MethodName) object_method_1_code (1 : Nat) (Option.none : Option Jvm.ClassFile.FieldType)).before args0 about1 = true := code_word (m := ⟨0, 0⟩) (meth := k0m0) (c := k0c0) (by decide +kernel) rfl rfl rfl (by decide +kernel)
set_option maxRecDepth 65536 in
theorem w_c6 : (Jvm.Cond.code ({ cls := "java/lang/Integer", name := "valueOf", desc := "(I)Ljava/lang/Integer;" } : Jvm.MethodName) jdk_33_method_22_code (1 : Nat) (Option.some (Jvm.ClassFile.FieldType.object "java/lang/Integer"))).before args0 about1 = true := code_word (m := ⟨10, 0⟩) (meth := k10m0) (c := k10c0) (by decide +kernel) rfl rfl rfl (by decide +kernel)
set_option maxRecDepth 65536 in
theorem w_c7 : (Jvm.Cond.code ({ cls := "java/lang/Integer", name := "<init>", desc := "(I)V" } : Jvm.MethodName) jdk_33_method_23_code (2 : Nat) (Option.none : Option Jvm.ClassFile.FieldType)).before args0 about1 = true := code_word (m := ⟨10, 1⟩) (meth := k10m1) (c := k10c1) (by decide +kernel) rfl rfl rfl (by decide +kernel)
set_option maxRecDepth 65536 in
theorem w_c8 : (Jvm.Cond.code ({ cls := "java/lang/Number", name := "<init>", desc := "()V" } : Jvm.MethodName) jdk_18_method_1_code (1 : Nat) (Option.none : Option Jvm.ClassFile.FieldType)).before args0 about1 = true := code_word (m := ⟨9, 0⟩) (meth := k9m0) (c := k9c0) (by decide +kernel) rfl rfl rfl (by decide +kernel)
set_option maxRecDepth 65536 in
theorem w_c9 : (Jvm.Cond.code ({ cls := "com/example/kilnroute/kilnroute/spark/Resources", name := "<init>", desc := "(Ljava/lang/String;Ljava/lang/Integer;Ljava/lang/String;Ljava/lang/Integer;Ljava/lang/Integer;)V" } : Jvm.MethodName) prog_18_method_1_code (6 : Nat) (Option.none : Option Jvm.ClassFile.FieldType)).before args0 about1 = true := code_word (m := ⟨13, 0⟩) (meth := k13m0) (c := k13c0) (by decide +kernel) rfl rfl rfl (by decide +kernel)
set_option maxRecDepth 65536 in
theorem w_c10 : (Jvm.Cond.code ({ cls := "java/lang/Record", name := "<init>", desc := "()V" } : Jvm.MethodName) jdk_30_method_1_code (1 : Nat) (Option.none : Option Jvm.ClassFile.FieldType)).before args0 about1 = true := code_word (m := ⟨12, 0⟩) (meth := k12m0) (c := k12c0) (by decide +kernel) rfl rfl rfl (by decide +kernel)
set_option maxRecDepth 65536 in
theorem w_c11 : (Jvm.Cond.code ({ cls := "com/example/kilnroute/kilnroute/spark/Resources", name := "overriddenBy", desc := "(Lcom/example/kilnroute/kilnroute/spark/Resources;)Lcom/example/kilnroute/kilnroute/spark/Resources;" } : Jvm.MethodName) prog_18_method_6_code (2 : Nat) (Option.some (Jvm.ClassFile.FieldType.object "com/example/kilnroute/kilnroute/spark/Resources"))).before args0 about1 = true := code_word (m := ⟨13, 1⟩) (meth := k13m1) (c := k13c1) (by decide +kernel) rfl rfl rfl (by decide +kernel)
set_option maxRecDepth 65536 in
theorem w_c12 : (Jvm.Cond.code ({ cls := "com/example/kilnroute/kilnroute/spark/Resources", name := "either", desc := "(Ljava/lang/Object;Ljava/lang/Object;)Ljava/lang/Object;" } : Jvm.MethodName) prog_18_method_13_code (2 : Nat) (Option.some (Jvm.ClassFile.FieldType.object "java/lang/Object"))).before args0 about1 = true := code_word (m := ⟨13, 2⟩) (meth := k13m2) (c := k13c2) (by decide +kernel) rfl rfl rfl (by decide +kernel)
set_option maxRecDepth 65536 in
theorem w_c13 : (Jvm.Cond.code ({ cls := "com/example/kilnroute/kilnroute/spark/Resources", name := "driverMemory", desc := "()Ljava/lang/String;" } : Jvm.MethodName) prog_18_method_17_code (1 : Nat) (Option.some (Jvm.ClassFile.FieldType.object "java/lang/String"))).before args0 about1 = true := code_word (m := ⟨13, 3⟩) (meth := k13m3) (c := k13c3) (by decide +kernel) rfl rfl rfl (by decide +kernel)
set_option maxRecDepth 65536 in
theorem w_c14 : (Jvm.Cond.code ({ cls := "com/example/kilnroute/kilnroute/spark/ResourcesOverriddenByPinLaw", name := "sameStr", desc := "(Ljava/lang/String;Ljava/lang/String;)Z" } : Jvm.MethodName) method_3_code (2 : Nat) (Option.some Jvm.ClassFile.FieldType.boolean)).before args0 about1 = true := code_word (m := ⟨1, 2⟩) (meth := k1m2) (c := k1c2) (by decide +kernel) rfl rfl rfl (by decide +kernel)
set_option maxRecDepth 65536 in
theorem w_c15 : (Jvm.Cond.code ({ cls := "java/lang/String", name := "equals", desc := "(Ljava/lang/Object;)Z" } : Jvm.MethodName) jdk_42_method_66_code (3 : Nat) (Option.some Jvm.ClassFile.FieldType.boolean)).before args0 about1 = true := code_word (m := ⟨7, 1⟩) (meth := k7m1) (c := k7c1) (by decide +kernel) rfl rfl rfl (by decide +kernel)
set_option maxRecDepth 65536 in
theorem w_c16 : (Jvm.Cond.code ({ cls := "com/example/kilnroute/kilnroute/spark/Resources", name := "driverCores", desc := "()Ljava/lang/Integer;" } : Jvm.MethodName) prog_18_method_18_code (1 : Nat) (Option.some (Jvm.ClassFile.FieldType.object "java/lang/Integer"))).before args0 about1 = true := code_word (m := ⟨13, 4⟩) (meth := k13m4) (c := k13c4) (by decide +kernel) rfl rfl rfl (by decide +kernel)
set_option maxRecDepth 65536 in
theorem w_c17 : (Jvm.Cond.code ({ cls := "com/example/kilnroute/kilnroute/spark/ResourcesOverriddenByPinLaw", name := "sameInt", desc := "(Ljava/lang/Integer;Ljava/lang/Integer;)Z" } : Jvm.MethodName) method_4_code (2 : Nat) (Option.some Jvm.ClassFile.FieldType.boolean)).before args0 about1 = true := code_word (m := ⟨1, 3⟩) (meth := k1m3) (c := k1c3) (by decide +kernel) rfl rfl rfl (by decide +kernel)
set_option maxRecDepth 65536 in
theorem w_c18 : (Jvm.Cond.code ({ cls := "java/lang/Integer", name := "intValue", desc := "()I" } : Jvm.MethodName) jdk_33_method_27_code (1 : Nat) (Option.some Jvm.ClassFile.FieldType.int)).before args0 about1 = true := code_word (m := ⟨10, 2⟩) (meth := k10m2) (c := k10c2) (by decide +kernel) rfl rfl rfl (by decide +kernel)
set_option maxRecDepth 65536 in
theorem w_c19 : (Jvm.Cond.code ({ cls := "com/example/kilnroute/kilnroute/spark/Resources", name := "executorMemory", desc := "()Ljava/lang/String;" } : Jvm.MethodName) prog_18_method_19_code (1 : Nat) (Option.some (Jvm.ClassFile.FieldType.object "java/lang/String"))).before args0 about1 = true := code_word (m := ⟨13, 5⟩) (meth := k13m5) (c := k13c5) (by decide +kernel) rfl rfl rfl (by decide +kernel)
set_option maxRecDepth 65536 in
theorem w_c20 : (Jvm.Cond.code ({ cls := "com/example/kilnroute/kilnroute/spark/Resources", name := "executorCores", desc := "()Ljava/lang/Integer;" } : Jvm.MethodName) prog_18_method_20_code (1 : Nat) (Option.some (Jvm.ClassFile.FieldType.object "java/lang/Integer"))).before args0 about1 = true := code_word (m := ⟨13, 6⟩) (meth := k13m6) (c := k13c6) (by decide +kernel) rfl rfl rfl (by decide +kernel)
set_option maxRecDepth 65536 in
theorem w_c21 : (Jvm.Cond.code ({ cls := "com/example/kilnroute/kilnroute/spark/Resources", name := "numExecutors", desc := "()Ljava/lang/Integer;" } : Jvm.MethodName) prog_18_method_21_code (1 : Nat) (Option.some (Jvm.ClassFile.FieldType.object "java/lang/Integer"))).before args0 about1 = true := code_word (m := ⟨13, 7⟩) (meth := k13m7) (c := k13c7) (by decide +kernel) rfl rfl rfl (by decide +kernel)
def codes1 : List Jvm.Cond := [Jvm.Cond.code x code maxLocals ret, Jvm.Cond.code ({ cls := "java/lang/String", name := "valueOf", desc := "(C)Ljava/lang/String;" } : Jvm.MethodName) jdk_42_method_139_code (1 : Nat) (Option.some (Jvm.ClassFile.FieldType.object "java/lang/String")), Jvm.Cond.code ({ cls := "java/lang/StringLatin1", name := "canEncode", desc := "(C)Z" } : Jvm.MethodName) jdk_43_method_3_code (1 : Nat) (Option.some Jvm.ClassFile.FieldType.boolean), Jvm.Cond.code ({ cls := "java/lang/StringLatin1", name := "toBytes", desc := "(C)[B" } : Jvm.MethodName) jdk_43_method_46_code (1 : Nat) (Option.some (Jvm.ClassFile.FieldType.array Jvm.ClassFile.FieldType.byte)), Jvm.Cond.code ({ cls := "java/lang/String", name := "<init>", desc := "([BB)V" } : Jvm.MethodName) jdk_42_method_151_code (3 : Nat) (Option.none : Option Jvm.ClassFile.FieldType), Jvm.Cond.code ({ cls := "java/lang/Object", name := "<init>", desc := "()V" } : Jvm.MethodName) object_method_1_code (1 : Nat) (Option.none : Option Jvm.ClassFile.FieldType), Jvm.Cond.code ({ cls := "java/lang/Integer", name := "valueOf", desc := "(I)Ljava/lang/Integer;" } : Jvm.MethodName) jdk_33_method_22_code (1 : Nat) (Option.some (Jvm.ClassFile.FieldType.object "java/lang/Integer")), Jvm.Cond.code ({ cls := "java/lang/Integer", name := "<init>", desc := "(I)V" } : Jvm.MethodName) jdk_33_method_23_code (2 : Nat) (Option.none : Option Jvm.ClassFile.FieldType), Jvm.Cond.code ({ cls := "java/lang/Number", name := "<init>", desc := "()V" } : Jvm.MethodName) jdk_18_method_1_code (1 : Nat) (Option.none : Option Jvm.ClassFile.FieldType), Jvm.Cond.code ({ cls := "com/example/kilnroute/kilnroute/spark/Resources", name := "<init>", desc := "(Ljava/lang/String;Ljava/lang/Integer;Ljava/lang/String;Ljava/lang/Integer;Ljava/lang/Integer;)V" } : Jvm.MethodName) prog_18_method_1_code (6 : Nat) (Option.none : Option Jvm.ClassFile.FieldType), Jvm.Cond.code ({ cls := "java/lang/Record", name := "<init>", desc := "()V" } : Jvm.MethodName) jdk_30_method_1_code (1 : Nat) (Option.none : Option Jvm.ClassFile.FieldType), Jvm.Cond.code ({ cls := "com/example/kilnroute/kilnroute/spark/Resources", name := "overriddenBy", desc := "(Lcom/example/kilnroute/kilnroute/spark/Resources;)Lcom/example/kilnroute/kilnroute/spark/Resources;" } : Jvm.MethodName) prog_18_method_6_code (2 : Nat) (Option.some (Jvm.ClassFile.FieldType.object "com/example/kilnroute/kilnroute/spark/Resources")), Jvm.Cond.code ({ cls := "com/example/kilnroute/kilnroute/spark/Resources", name := "either", desc := "(Ljava/lang/Object;Ljava/lang/Object;)Ljava/lang/Object;" } : Jvm.MethodName) prog_18_method_13_code (2 : Nat) (Option.some (Jvm.ClassFile.FieldType.object "java/lang/Object")), Jvm.Cond.code ({ cls := "com/example/kilnroute/kilnroute/spark/Resources", name := "driverMemory", desc := "()Ljava/lang/String;" } : Jvm.MethodName) prog_18_method_17_code (1 : Nat) (Option.some (Jvm.ClassFile.FieldType.object "java/lang/String")), Jvm.Cond.code ({ cls := "com/example/kilnroute/kilnroute/spark/ResourcesOverriddenByPinLaw", name := "sameStr", desc := "(Ljava/lang/String;Ljava/lang/String;)Z" } : Jvm.MethodName) method_3_code (2 : Nat) (Option.some Jvm.ClassFile.FieldType.boolean), Jvm.Cond.code ({ cls := "java/lang/String", name := "equals", desc := "(Ljava/lang/Object;)Z" } : Jvm.MethodName) jdk_42_method_66_code (3 : Nat) (Option.some Jvm.ClassFile.FieldType.boolean), Jvm.Cond.code ({ cls := "com/example/kilnroute/kilnroute/spark/Resources", name := "driverCores", desc := "()Ljava/lang/Integer;" } : Jvm.MethodName) prog_18_method_18_code (1 : Nat) (Option.some (Jvm.ClassFile.FieldType.object "java/lang/Integer")), Jvm.Cond.code ({ cls := "com/example/kilnroute/kilnroute/spark/ResourcesOverriddenByPinLaw", name := "sameInt", desc := "(Ljava/lang/Integer;Ljava/lang/Integer;)Z" } : Jvm.MethodName) method_4_code (2 : Nat) (Option.some Jvm.ClassFile.FieldType.boolean), Jvm.Cond.code ({ cls := "java/lang/Integer", name := "intValue", desc := "()I" } : Jvm.MethodName) jdk_33_method_27_code (1 : Nat) (Option.some Jvm.ClassFile.FieldType.int), Jvm.Cond.code ({ cls := "com/example/kilnroute/kilnroute/spark/Resources", name := "executorMemory", desc := "()Ljava/lang/String;" } : Jvm.MethodName) prog_18_method_19_code (1 : Nat) (Option.some (Jvm.ClassFile.FieldType.object "java/lang/String")), Jvm.Cond.code ({ cls := "com/example/kilnroute/kilnroute/spark/Resources", name := "executorCores", desc := "()Ljava/lang/Integer;" } : Jvm.MethodName) prog_18_method_20_code (1 : Nat) (Option.some (Jvm.ClassFile.FieldType.object "java/lang/Integer")), Jvm.Cond.code ({ cls := "com/example/kilnroute/kilnroute/spark/Resources", name := "numExecutors", desc := "()Ljava/lang/Integer;" } : Jvm.MethodName) prog_18_method_21_code (1 : Nat) (Option.some (Jvm.ClassFile.FieldType.object "java/lang/Integer"))]
set_option maxRecDepth 65536 in
theorem codes_eq : words1.filter isCode = codes1 := rfl
theorem w_codes : ∀ c ∈ words1.filter isCode, c.before args0 about1 = true := by
  rw [codes_eq]
  intro c hc
  simp only [codes1, List.mem_cons, List.not_mem_nil, or_false] at hc
  rcases hc with rfl | rfl | rfl | rfl | rfl | rfl | rfl | rfl | rfl | rfl | rfl | rfl | rfl | rfl | rfl | rfl | rfl | rfl | rfl | rfl | rfl | rfl
  · exact w_c0
  · exact w_c1
  · exact w_c2
  · exact w_c3
  · exact w_c4
  · exact w_c5
  · exact w_c6
  · exact w_c7
  · exact w_c8
  · exact w_c9
  · exact w_c10
  · exact w_c11
  · exact w_c12
  · exact w_c13
  · exact w_c14
  · exact w_c15
  · exact w_c16
  · exact w_c17
  · exact w_c18
  · exact w_c19
  · exact w_c20
  · exact w_c21
set_option maxRecDepth 65536 in
theorem w_t1 : (words1.take 24).all (fun c => isCode c || c.before args0 about1) = true := by decide +kernel
set_option maxRecDepth 65536 in
theorem w_t2 : ((words1.drop 24).take 24).all (fun c => isCode c || c.before args0 about1) = true := by decide +kernel
set_option maxRecDepth 65536 in
theorem w_t3 : (((words1.drop 24).drop 24).take 24).all (fun c => isCode c || c.before args0 about1) = true := by decide +kernel
set_option maxRecDepth 65536 in
theorem w_t4 : ((((words1.drop 24).drop 24).drop 24).take 24).all (fun c => isCode c || c.before args0 about1) = true := by decide +kernel
set_option maxRecDepth 65536 in
theorem w_t5 : (((((words1.drop 24).drop 24).drop 24).drop 24).take 24).all (fun c => isCode c || c.before args0 about1) = true := by decide +kernel
set_option maxRecDepth 65536 in
theorem w_t6 : (((((words1.drop 24).drop 24).drop 24).drop 24).drop 24).all (fun c => isCode c || c.before args0 about1) = true := by decide +kernel
theorem w_tables : (allAtoms (Jvm.Cond.code x code maxLocals ret :: tables_1)).before args0 about1 = true := by
  rw [allAtoms_all]
  show words1.all (fun c => c.before args0 about1) = true
  refine all_split ?_ w_codes
  rw [← List.take_append_drop 24 words1, List.all_append, w_t1, ← List.take_append_drop 24 (words1.drop 24), List.all_append, w_t2, ← List.take_append_drop 24 ((words1.drop 24).drop 24), List.all_append, w_t3, ← List.take_append_drop 24 (((words1.drop 24).drop 24).drop 24), List.all_append, w_t4, ← List.take_append_drop 24 ((((words1.drop 24).drop 24).drop 24).drop 24), List.all_append, w_t5, w_t6]
  rfl
set_option maxRecDepth 65536 in
theorem w_rest : rest_1_c.before args0 about1 = true := by decide +kernel
set_option maxRecDepth 65536 in
theorem w_case : (Jvm.Cond.and given_1 narrow_1).before args0 about1 = true := by decide +kernel
theorem w_applies : (headSpec (Jvm.Cond.code x code maxLocals ret :: tables_1) room_1).applies x e0.platform about1 = true :=
  (Spec.applies_iff w_frames).mpr ⟨w_running, w_runnable, w_alone, w_named, w_hears, w_ripe, w_room, w_tables⟩
theorem atStart : AtStart classFile x code maxLocals ret World_1 tables_1 room_1 Calls_1 rest_1 Pre_1 launch0 p0 e0 about1 theMethod args0 below0 :=
  ⟨lists_1, trivial, launch0.admits_env _ _ _, launch0.least_env, fairChoices_fair.cas, fairChoices_fair.clock, w_frames, w_args, w_heap, w_applies, trivial, w_rest, w_case⟩
end start1
theorem witness_1 : WitnessClaimed_1 := ⟨start1.p0, start1.e0, start1.about1, start1.theMethod, start1.args0, start1.below0, start1.atStart⟩
end Jvm.Pilot.@@N@@
